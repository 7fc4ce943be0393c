import JvmDerived
import JvmDerived.Pilot.@@N@@Statement
import JvmDerived.Pilot.@@N@@Code
set_option linter.unusedVariables false
set_option linter.unusedSimpArgs false
namespace Jvm.RoadKit
open Sem ClassFile Op Lib Jvm.Stand Jvm.Free Jvm.LawKit
theorem Ext.keep {h h' : Heap} (E : Ext h h') (ws : List Addr) : Keep h h' ws := (Keep.refl _ _).ext E
theorem Keep.toExt {h h' : Heap} (K : Keep h h' []) : Ext h h' := ⟨K.1, fun a c q => K.2.1 a c q nin0⟩
theorem Sta.keep {Z : State} {h : Heap} {C f d : String} {v : Value} {h' : Heap} {ws : List Addr} (F : Sta Z h C f d v) (K : Keep h h' ws) (q : ∀ x ∈ ws, ∃ c : Cell, h[x]? = some c ∧ c.vm.isStatics = false) : Sta Z h' C f d v := by
  obtain ⟨cf, i, k, f, st, cell, h1, h2, h3, h4, h5, h6, h7⟩ := F
  exact ⟨cf, i, k, f, st, cell, h1, h2, h3, h4, K.2.1 st cell h5 (fun z => by obtain ⟨c, e1, e2⟩ := q st z; cases e1.symm.trans h5; rw [e2] at h6; cases h6), h6, h7⟩
theorem Ins.keep {Z : State} {h : Heap} {a : Addr} {C : String} {b : Bool} {h' : Heap} {ws : List Addr} (F : Ins Z h a C b) (K : Keep h h' ws) : Ins Z h' a C b := by
  obtain ⟨cell, cT, h1, h2, h3⟩ := F
  obtain ⟨c', q, r1, r2, -⟩ := K.2.2 a cell h1
  exact ⟨c', cT, q, h2, by rw [r1, r2]; exact h3⟩
end Jvm.RoadKit
namespace Jvm.Pilot.@@N@@
open Jvm Jvm.ClassFile Sem Op Lib Jvm.Free Jvm.Stand Jvm.LawKit Jvm.RoadKit Bundle Jvm.Pilot.@@N@@.Jvm.D
/-- what a walk is about: all that is fixed while one body runs -/
abbrev Wk : Type := Program × Launch × Env × Room × State × MethodId × Array Value × List Frame × Method × Code × State × Nat
def Cx (w : Wk) (R : Room) (Z : State) (n0 : Nat) (own : String) (bytes : ByteArray) (mx : Nat) (rt : Option FieldType) (nm : String) : Prop :=
  match w with
  | ⟨p, _, _, R', s, m, _, _, meth, c, Z', k⟩ => p.tables.exec = Jvm.exec ∧ c.code = bytes ∧ c.maxLocals = mx ∧ s.vm.findClass own = some m.cls ∧ Z.Warmed39 s.vm ∧ meth.sig.returnType = rt ∧ meth.name = nm ∧ meth.locks = false ∧ R' = R ∧ Z' = Z ∧ k = n0 ∧ n0 ≤ s.heap.size
def At1 (w : Wk) (T : State) (h : Heap) (k n : Nat) : Prop :=
  match w with
  | ⟨p, l, e, R, s, m, args, below, meth, c, _, n0⟩ => ∃ locs, Stand p l e R s m args below meth c T locs k n ∧ T.heap = h ∧ Fr n0 locs
def Go (w : Wk) (Q : Option Value → Heap → Prop) (T : State) (pc : Nat) (L : Array Slot) (st : List Value) : Prop :=
  match w with
  | ⟨p, _, e, R, s, m, _, below, _, _, _, n0⟩ => ∃ s₂ o, Steps p.tables e below (T.setTop (mkF m pc L st)) s₂ ∧ s₂.status = .running ∧ Ended s₂ below o ∧ ∃ v Lc, o = .returned v ∧ (Q v s₂.heap ∧ Fr n0 Lc) ∧ FrameEnd s o s₂ Lc R.cells R.slots
def Dc (bytes : ByteArray) (pc : Nat) (i : Instr) (n pc' : Nat) : Prop := decode bytes pc = .ok (i, n) ∧ pc + n = pc'
/-- a callee's contract -/
def Con (l : Launch) (Z : State) (y : MethodName) (bytes : ByteArray) (mx : Nat) (rt : Option FieldType) (R : Room) (as' : Array Value) (h0 : Heap) (n0 : Nat) (Q : Option Value → Heap → Prop) : Prop :=
  ∀ ws, MetFree l y (head1 (Jvm.Cond.code y bytes mx rt :: ws) R) (fun a U => a = as' ∧ Z.Warmed39 U.vm ∧ U.heap = h0) (fun _ _ _ _ _ => True) (fun _ U o U' => ∃ v L, o = .returned v ∧ (Q v U'.heap ∧ Fr n0 L) ∧ FrameEnd U o U' L R.cells R.slots)
def RI (P : Int32 → Heap → Prop) : Option Value → Heap → Prop := fun v h => ∃ z : Int32, v = some (.int z) ∧ P z h
def RL (P : Int64 → Heap → Prop) : Option Value → Heap → Prop := fun v h => ∃ z : Int64, v = some (.long z) ∧ P z h
def RR (P : Value → Heap → Prop) : Option Value → Heap → Prop := fun v h => ∃ z : Value, v = some z ∧ z.isRef = true ∧ P z h
def RV (P : Heap → Prop) : Option Value → Heap → Prop := fun v h => v = none ∧ P h
/-- Java's x >>> y -/
def iU (x y : Int32) : Int32 := (x.toUInt32 >>> (y &&& 31).toUInt32).toInt32
def lU (x : Int64) (y : Int32) : Int64 := (x.toUInt64 >>> (y &&& 0x3f).toInt64.toUInt64).toInt64
section Own
variable {w : Wk} {R : Room} {Z : State} {n0 : Nat} {own : String} {bytes : ByteArray} {mx : Nat} {rt : Option FieldType} {nm : String} {T : State} {h : Heap} {k n : Nat} {Q : Option Value → Heap → Prop} {pc pc' : Nat} {L L' : Array Slot} {st st' : List Value}
theorem con_intro {l : Launch} {y : MethodName} {as' : Array Value} {h0 : Heap} (hp : plainFor y = true) (hef : ∀ m, entryFrame m as' mx = mkF m 0 L []) (hz : n0 ≤ h0.size)
    (body : ∀ w T, Cx w R Z n0 y.cls bytes mx rt y.name → At1 w T h0 0 0 → Go w Q T 0 L []) : Con l Z y bytes mx rt R as' h0 n0 Q := by
  intro ws
  refine MetFree.of_bodySF hp hisR ?_
  intro p e s m args below meth c s₁ Bd hml0 hP hK
  obtain ⟨rfl, hZ, hh⟩ := hP
  have X0 : Stand p l e R s m args below meth c s₁ [] 0 0 := Stand.of_body Bd
  have e0 : s₁.heap = h0 := by rw [← hh, Bd.state]; rfl
  have B := body ⟨p, l, e, R, s, m, args, below, meth, c, Z, n0⟩ s₁ ⟨Bd.exec, Bd.bytes, hml0, findClass_of_methodNamed Bd.named, hZ, Bd.returns, (name_of_methodNamed Bd.named Bd.method).1, Bd.notSynchronized, rfl, rfl, rfl, by rw [hh]; exact hz⟩ ⟨[], X0, e0, Fr.nil n0⟩
  obtain ⟨s₂, o, h1, h2⟩ := B
  exact ⟨s₂, o, castTop (hef m) h1, h2⟩
theorem go_step (K : Cx w R Z n0 own bytes mx rt nm) (H : At1 w T h k n)
    (hs : ∀ (p : Program) (e : Env) (m : MethodId) (below : List Frame) (c : Code), p.tables.exec = Jvm.exec → c.code = bytes → At T m c below → ∀ t, Steps p.tables e below (T.setTop (mkF m pc' L' st')) t → Steps p.tables e below (T.setTop (mkF m pc L st)) t)
    (G : Go w Q T pc' L' st') : Go w Q T pc L st := by
  obtain ⟨p, l, e, R', s, m, args, below, meth, c, Z', k0⟩ := w
  obtain ⟨hx, hby, -⟩ := K
  obtain ⟨locs, X, -⟩ := H
  obtain ⟨s₂, o, h1, h2⟩ := G
  exact ⟨s₂, o, hs p e m below c hx hby X.here _ h1, h2⟩
theorem dcb {c : Code} {i : Instr} {q : Nat} (hby : c.code = bytes) (d : Dc bytes pc i q pc') : decode c.code pc = .ok (i, q) := by rw [hby]; exact d.1
theorem go_iadd {x y : Int32} (K : Cx w R Z n0 own bytes mx rt nm) (H : At1 w T h k n) (d : Dc bytes pc .iadd 1 pc') (G : ∀ z : Int32, z = x + y → Go w Q T pc' L (.int z :: st)) : Go w Q T pc L (.int y :: .int x :: st) := by
  obtain ⟨d1, rfl⟩ := d
  exact go_step K H (fun p e m below c hx hby hA t kk => XS.iadd hA hx rfl (by rw [hby]; exact d1) rfl kk) (G _ rfl)
theorem go_ladd {x y : Int64} (K : Cx w R Z n0 own bytes mx rt nm) (H : At1 w T h k n) (d : Dc bytes pc .ladd 1 pc') (G : ∀ z : Int64, z = x + y → Go w Q T pc' L (.long z :: st)) : Go w Q T pc L (.long y :: .long x :: st) := by
  obtain ⟨d1, rfl⟩ := d
  exact go_step K H (fun p e m below c hx hby hA t kk => XS.ladd hA hx rfl (by rw [hby]; exact d1) rfl kk) (G _ rfl)
theorem go_isub {x y : Int32} (K : Cx w R Z n0 own bytes mx rt nm) (H : At1 w T h k n) (d : Dc bytes pc .isub 1 pc') (G : ∀ z : Int32, z = x - y → Go w Q T pc' L (.int z :: st)) : Go w Q T pc L (.int y :: .int x :: st) := by
  obtain ⟨d1, rfl⟩ := d
  exact go_step K H (fun p e m below c hx hby hA t kk => XS.isub hA hx rfl (by rw [hby]; exact d1) rfl kk) (G _ rfl)
theorem go_lsub {x y : Int64} (K : Cx w R Z n0 own bytes mx rt nm) (H : At1 w T h k n) (d : Dc bytes pc .lsub 1 pc') (G : ∀ z : Int64, z = x - y → Go w Q T pc' L (.long z :: st)) : Go w Q T pc L (.long y :: .long x :: st) := by
  obtain ⟨d1, rfl⟩ := d
  exact go_step K H (fun p e m below c hx hby hA t kk => XS.lsub hA hx rfl (by rw [hby]; exact d1) rfl kk) (G _ rfl)
theorem go_imul {x y : Int32} (K : Cx w R Z n0 own bytes mx rt nm) (H : At1 w T h k n) (d : Dc bytes pc .imul 1 pc') (G : ∀ z : Int32, z = x * y → Go w Q T pc' L (.int z :: st)) : Go w Q T pc L (.int y :: .int x :: st) := by
  obtain ⟨d1, rfl⟩ := d
  exact go_step K H (fun p e m below c hx hby hA t kk => XS.imul hA hx rfl (by rw [hby]; exact d1) rfl kk) (G _ rfl)
theorem go_lmul {x y : Int64} (K : Cx w R Z n0 own bytes mx rt nm) (H : At1 w T h k n) (d : Dc bytes pc .lmul 1 pc') (G : ∀ z : Int64, z = x * y → Go w Q T pc' L (.long z :: st)) : Go w Q T pc L (.long y :: .long x :: st) := by
  obtain ⟨d1, rfl⟩ := d
  exact go_step K H (fun p e m below c hx hby hA t kk => XS.lmul hA hx rfl (by rw [hby]; exact d1) rfl kk) (G _ rfl)
theorem go_iand {x y : Int32} (K : Cx w R Z n0 own bytes mx rt nm) (H : At1 w T h k n) (d : Dc bytes pc .iand 1 pc') (G : ∀ z : Int32, z = x &&& y → Go w Q T pc' L (.int z :: st)) : Go w Q T pc L (.int y :: .int x :: st) := by
  obtain ⟨d1, rfl⟩ := d
  exact go_step K H (fun p e m below c hx hby hA t kk => XS.iand hA hx rfl (by rw [hby]; exact d1) rfl kk) (G _ rfl)
theorem go_land {x y : Int64} (K : Cx w R Z n0 own bytes mx rt nm) (H : At1 w T h k n) (d : Dc bytes pc .land 1 pc') (G : ∀ z : Int64, z = x &&& y → Go w Q T pc' L (.long z :: st)) : Go w Q T pc L (.long y :: .long x :: st) := by
  obtain ⟨d1, rfl⟩ := d
  exact go_step K H (fun p e m below c hx hby hA t kk => XS.land hA hx rfl (by rw [hby]; exact d1) rfl kk) (G _ rfl)
theorem go_ior {x y : Int32} (K : Cx w R Z n0 own bytes mx rt nm) (H : At1 w T h k n) (d : Dc bytes pc .ior 1 pc') (G : ∀ z : Int32, z = x ||| y → Go w Q T pc' L (.int z :: st)) : Go w Q T pc L (.int y :: .int x :: st) := by
  obtain ⟨d1, rfl⟩ := d
  exact go_step K H (fun p e m below c hx hby hA t kk => XS.ior hA hx rfl (by rw [hby]; exact d1) rfl kk) (G _ rfl)
theorem go_lor {x y : Int64} (K : Cx w R Z n0 own bytes mx rt nm) (H : At1 w T h k n) (d : Dc bytes pc .lor 1 pc') (G : ∀ z : Int64, z = x ||| y → Go w Q T pc' L (.long z :: st)) : Go w Q T pc L (.long y :: .long x :: st) := by
  obtain ⟨d1, rfl⟩ := d
  exact go_step K H (fun p e m below c hx hby hA t kk => XS.lor hA hx rfl (by rw [hby]; exact d1) rfl kk) (G _ rfl)
theorem go_ixor {x y : Int32} (K : Cx w R Z n0 own bytes mx rt nm) (H : At1 w T h k n) (d : Dc bytes pc .ixor 1 pc') (G : ∀ z : Int32, z = x ^^^ y → Go w Q T pc' L (.int z :: st)) : Go w Q T pc L (.int y :: .int x :: st) := by
  obtain ⟨d1, rfl⟩ := d
  exact go_step K H (fun p e m below c hx hby hA t kk => XS.ixor hA hx rfl (by rw [hby]; exact d1) rfl kk) (G _ rfl)
theorem go_lxor {x y : Int64} (K : Cx w R Z n0 own bytes mx rt nm) (H : At1 w T h k n) (d : Dc bytes pc .lxor 1 pc') (G : ∀ z : Int64, z = x ^^^ y → Go w Q T pc' L (.long z :: st)) : Go w Q T pc L (.long y :: .long x :: st) := by
  obtain ⟨d1, rfl⟩ := d
  exact go_step K H (fun p e m below c hx hby hA t kk => XS.lxor hA hx rfl (by rw [hby]; exact d1) rfl kk) (G _ rfl)
theorem go_ishl {x y : Int32} (K : Cx w R Z n0 own bytes mx rt nm) (H : At1 w T h k n) (d : Dc bytes pc .ishl 1 pc') (G : ∀ z : Int32, z = x <<< (y &&& 31) → Go w Q T pc' L (.int z :: st)) : Go w Q T pc L (.int y :: .int x :: st) := by
  obtain ⟨d1, rfl⟩ := d
  exact go_step K H (fun p e m below c hx hby hA t kk => XS.ishl hA hx rfl (by rw [hby]; exact d1) rfl kk) (G _ rfl)
theorem go_ishr {x y : Int32} (K : Cx w R Z n0 own bytes mx rt nm) (H : At1 w T h k n) (d : Dc bytes pc .ishr 1 pc') (G : ∀ z : Int32, z = x >>> (y &&& 31) → Go w Q T pc' L (.int z :: st)) : Go w Q T pc L (.int y :: .int x :: st) := by
  obtain ⟨d1, rfl⟩ := d
  exact go_step K H (fun p e m below c hx hby hA t kk => XS.ishr hA hx rfl (by rw [hby]; exact d1) rfl kk) (G _ rfl)
theorem go_iushr {x y : Int32} (K : Cx w R Z n0 own bytes mx rt nm) (H : At1 w T h k n) (d : Dc bytes pc .iushr 1 pc') (G : ∀ z : Int32, z = iU x y → Go w Q T pc' L (.int z :: st)) : Go w Q T pc L (.int y :: .int x :: st) := by
  obtain ⟨d1, rfl⟩ := d
  exact go_step K H (fun p e m below c hx hby hA t kk => XS.iushr hA hx rfl (by rw [hby]; exact d1) rfl kk) (G _ rfl)
theorem go_lshl {x : Int64} {y : Int32} (K : Cx w R Z n0 own bytes mx rt nm) (H : At1 w T h k n) (d : Dc bytes pc .lshl 1 pc') (G : ∀ z : Int64, z = x <<< (y &&& 0x3f).toInt64 → Go w Q T pc' L (.long z :: st)) : Go w Q T pc L (.int y :: .long x :: st) := by
  obtain ⟨d1, rfl⟩ := d
  exact go_step K H (fun p e m below c hx hby hA t kk => XS.lshl hA hx rfl (by rw [hby]; exact d1) rfl kk) (G _ rfl)
theorem go_lshr {x : Int64} {y : Int32} (K : Cx w R Z n0 own bytes mx rt nm) (H : At1 w T h k n) (d : Dc bytes pc .lshr 1 pc') (G : ∀ z : Int64, z = x >>> (y &&& 0x3f).toInt64 → Go w Q T pc' L (.long z :: st)) : Go w Q T pc L (.int y :: .long x :: st) := by
  obtain ⟨d1, rfl⟩ := d
  exact go_step K H (fun p e m below c hx hby hA t kk => XS.lshr hA hx rfl (by rw [hby]; exact d1) rfl kk) (G _ rfl)
theorem go_lushr {x : Int64} {y : Int32} (K : Cx w R Z n0 own bytes mx rt nm) (H : At1 w T h k n) (d : Dc bytes pc .lushr 1 pc') (G : ∀ z : Int64, z = lU x y → Go w Q T pc' L (.long z :: st)) : Go w Q T pc L (.int y :: .long x :: st) := by
  obtain ⟨d1, rfl⟩ := d
  exact go_step K H (fun p e m below c hx hby hA t kk => XS.lushr hA hx rfl (by rw [hby]; exact d1) rfl kk) (G _ rfl)
theorem go_idiv {x y : Int32} (K : Cx w R Z n0 own bytes mx rt nm) (H : At1 w T h k n) (d : Dc bytes pc .idiv 1 pc') (hy : y ≠ 0) (G : ∀ z : Int32, z = x / y → Go w Q T pc' L (.int z :: st)) : Go w Q T pc L (.int y :: .int x :: st) := by
  obtain ⟨d1, rfl⟩ := d
  exact go_step K H (fun p e m below c hx hby hA t kk => XS.idiv hA hx rfl (by rw [hby]; exact d1) rfl hy kk) (G _ rfl)
theorem go_irem (K : Cx w R Z n0 own bytes mx rt nm) (H : At1 w T h k n) {x y : Int32} (d : Dc bytes pc .irem 1 pc') (hy : y ≠ 0) (G : ∀ z : Int32, z = x % y → Go w Q T pc' L (.int z :: st)) : Go w Q T pc L (.int y :: .int x :: st) := by
  obtain ⟨d1, rfl⟩ := d
  exact go_step K H (fun p e m below c hx hby hA t kk => XS.irem hA hx rfl (by rw [hby]; exact d1) rfl hy (by rw [irem_eq_mod]; exact kk)) (G _ rfl)
theorem go_ldiv {x y : Int64} (K : Cx w R Z n0 own bytes mx rt nm) (H : At1 w T h k n) (d : Dc bytes pc .ldiv 1 pc') (hy : y ≠ 0) (G : ∀ z : Int64, z = x / y → Go w Q T pc' L (.long z :: st)) : Go w Q T pc L (.long y :: .long x :: st) := by
  obtain ⟨d1, rfl⟩ := d
  exact go_step K H (fun p e m below c hx hby hA t kk => XS.ldiv hA hx rfl (by rw [hby]; exact d1) rfl hy kk) (G _ rfl)
theorem go_lrem {x y : Int64} (K : Cx w R Z n0 own bytes mx rt nm) (H : At1 w T h k n) (d : Dc bytes pc .lrem 1 pc') (hy : y ≠ 0) (G : ∀ z : Int64, z = x - (x / y) * y → Go w Q T pc' L (.long z :: st)) : Go w Q T pc L (.long y :: .long x :: st) := by
  obtain ⟨d1, rfl⟩ := d
  exact go_step K H (fun p e m below c hx hby hA t kk => XS.lrem hA hx rfl (by rw [hby]; exact d1) rfl hy kk) (G _ rfl)
theorem go_ineg {x : Int32} (K : Cx w R Z n0 own bytes mx rt nm) (H : At1 w T h k n) (d : Dc bytes pc .ineg 1 pc') (G : ∀ z : Int32, z = -x → Go w Q T pc' L (.int z :: st)) : Go w Q T pc L (.int x :: st) := by
  obtain ⟨d1, rfl⟩ := d
  exact go_step K H (fun p e m below c hx hby hA t kk => XS.ineg hA hx rfl (by rw [hby]; exact d1) rfl kk) (G _ rfl)
theorem go_lneg {x : Int64} (K : Cx w R Z n0 own bytes mx rt nm) (H : At1 w T h k n) (d : Dc bytes pc .lneg 1 pc') (G : ∀ z : Int64, z = -x → Go w Q T pc' L (.long z :: st)) : Go w Q T pc L (.long x :: st) := by
  obtain ⟨d1, rfl⟩ := d
  exact go_step K H (fun p e m below c hx hby hA t kk => XS.lneg hA hx rfl (by rw [hby]; exact d1) rfl kk) (G _ rfl)
theorem go_i2l {x : Int32} (K : Cx w R Z n0 own bytes mx rt nm) (H : At1 w T h k n) (d : Dc bytes pc .i2l 1 pc') (G : ∀ z : Int64, z = x.toInt64 → Go w Q T pc' L (.long z :: st)) : Go w Q T pc L (.int x :: st) := by
  obtain ⟨d1, rfl⟩ := d
  exact go_step K H (fun p e m below c hx hby hA t kk => XS.i2l hA hx rfl (by rw [hby]; exact d1) rfl kk) (G _ rfl)
theorem go_l2i {x : Int64} (K : Cx w R Z n0 own bytes mx rt nm) (H : At1 w T h k n) (d : Dc bytes pc .l2i 1 pc') (G : ∀ z : Int32, z = x.toInt32 → Go w Q T pc' L (.int z :: st)) : Go w Q T pc L (.long x :: st) := by
  obtain ⟨d1, rfl⟩ := d
  exact go_step K H (fun p e m below c hx hby hA t kk => XS.l2i hA hx rfl (by rw [hby]; exact d1) rfl kk) (G _ rfl)
theorem go_i2b {x : Int32} (K : Cx w R Z n0 own bytes mx rt nm) (H : At1 w T h k n) (d : Dc bytes pc .i2b 1 pc') (G : ∀ z : Int32, z = x.toInt8.toInt32 → Go w Q T pc' L (.int z :: st)) : Go w Q T pc L (.int x :: st) := by
  obtain ⟨d1, rfl⟩ := d
  exact go_step K H (fun p e m below c hx hby hA t kk => XS.i2b hA hx rfl (by rw [hby]; exact d1) rfl kk) (G _ rfl)
theorem go_i2c {x : Int32} (K : Cx w R Z n0 own bytes mx rt nm) (H : At1 w T h k n) (d : Dc bytes pc .i2c 1 pc') (G : ∀ z : Int32, z = x.toUInt32.toUInt16.toUInt32.toInt32 → Go w Q T pc' L (.int z :: st)) : Go w Q T pc L (.int x :: st) := by
  obtain ⟨d1, rfl⟩ := d
  exact go_step K H (fun p e m below c hx hby hA t kk => XS.i2c hA hx rfl (by rw [hby]; exact d1) rfl kk) (G _ rfl)
theorem go_i2s {x : Int32} (K : Cx w R Z n0 own bytes mx rt nm) (H : At1 w T h k n) (d : Dc bytes pc .i2s 1 pc') (G : ∀ z : Int32, z = x.toInt16.toInt32 → Go w Q T pc' L (.int z :: st)) : Go w Q T pc L (.int x :: st) := by
  obtain ⟨d1, rfl⟩ := d
  exact go_step K H (fun p e m below c hx hby hA t kk => XS.i2s hA hx rfl (by rw [hby]; exact d1) rfl kk) (G _ rfl)
theorem go_lcmp {x y : Int64} (K : Cx w R Z n0 own bytes mx rt nm) (H : At1 w T h k n) (d : Dc bytes pc .lcmp 1 pc') (G : ∀ z : Int32, z = lcmpW x y → Go w Q T pc' L (.int z :: st)) : Go w Q T pc L (.long y :: .long x :: st) := by
  obtain ⟨d1, rfl⟩ := d
  exact go_step K H (fun p e m below c hx hby hA t kk => XS.lcmp hA hx rfl (by rw [hby]; exact d1) rfl kk) (G _ rfl)
theorem go_iloadN {j : Fin 4} {v : Int32} (K : Cx w R Z n0 own bytes mx rt nm) (H : At1 w T h k n) (d : Dc bytes pc (.iload_n j) 1 pc') (hl : L[j.val]? = some (.val (.int v))) (G : Go w Q T pc' L (.int v :: st)) : Go w Q T pc L st := by
  obtain ⟨d1, rfl⟩ := d
  exact go_step K H (fun p e m below c hx hby hA t kk => XS.iloadN hA hx rfl (by rw [hby]; exact d1) hl kk) G
theorem go_iload {j : Nat} {v : Int32} (K : Cx w R Z n0 own bytes mx rt nm) (H : At1 w T h k n) (d : Dc bytes pc (.iload j) 2 pc') (hl : L[j]? = some (.val (.int v))) (G : Go w Q T pc' L (.int v :: st)) : Go w Q T pc L st := by
  obtain ⟨d1, rfl⟩ := d
  exact go_step K H (fun p e m below c hx hby hA t kk => XS.iload hA hx rfl (by rw [hby]; exact d1) hl kk) G
theorem go_lloadN {j : Fin 4} {v : Int64} (K : Cx w R Z n0 own bytes mx rt nm) (H : At1 w T h k n) (d : Dc bytes pc (.lload_n j) 1 pc') (hl : L[j.val]? = some (.val (.long v))) (G : Go w Q T pc' L (.long v :: st)) : Go w Q T pc L st := by
  obtain ⟨d1, rfl⟩ := d
  exact go_step K H (fun p e m below c hx hby hA t kk => XS.lloadN hA hx rfl (by rw [hby]; exact d1) hl kk) G
theorem go_lload {j : Nat} {v : Int64} (K : Cx w R Z n0 own bytes mx rt nm) (H : At1 w T h k n) (d : Dc bytes pc (.lload j) 2 pc') (hl : L[j]? = some (.val (.long v))) (G : Go w Q T pc' L (.long v :: st)) : Go w Q T pc L st := by
  obtain ⟨d1, rfl⟩ := d
  exact go_step K H (fun p e m below c hx hby hA t kk => XS.lload hA hx rfl (by rw [hby]; exact d1) hl kk) G
theorem go_aloadN {j : Fin 4} {v : Value} (K : Cx w R Z n0 own bytes mx rt nm) (H : At1 w T h k n) (d : Dc bytes pc (.aload_n j) 1 pc') (hl : L[j.val]? = some (.val v)) (hv : v.isRef = true) (G : Go w Q T pc' L (v :: st)) : Go w Q T pc L st := by
  obtain ⟨d1, rfl⟩ := d
  exact go_step K H (fun p e m below c hx hby hA t kk => XS.aloadN hA hx rfl (by rw [hby]; exact d1) hl hv kk) G
theorem go_aload {j : Nat} {v : Value} (K : Cx w R Z n0 own bytes mx rt nm) (H : At1 w T h k n) (d : Dc bytes pc (.aload j) 2 pc') (hl : L[j]? = some (.val v)) (hv : v.isRef = true) (G : Go w Q T pc' L (v :: st)) : Go w Q T pc L st := by
  obtain ⟨d1, rfl⟩ := d
  exact go_step K H (fun p e m below c hx hby hA t kk => XS.aload hA hx rfl (by rw [hby]; exact d1) hl hv kk) G
theorem go_istoreN {j : Fin 4} {v : Int32} (K : Cx w R Z n0 own bytes mx rt nm) (H : At1 w T h k n) (d : Dc bytes pc (.istore_n j) 1 pc') (hl : storeLocals L j.val (.int v) = some L') (G : Go w Q T pc' L' st) : Go w Q T pc L (.int v :: st) := by
  obtain ⟨d1, rfl⟩ := d
  exact go_step K H (fun p e m below c hx hby hA t kk => XS.istoreN hA hx rfl (by rw [hby]; exact d1) rfl hl kk) G
theorem go_istore {j : Nat} {v : Int32} (K : Cx w R Z n0 own bytes mx rt nm) (H : At1 w T h k n) (d : Dc bytes pc (.istore j) 2 pc') (hl : storeLocals L j (.int v) = some L') (G : Go w Q T pc' L' st) : Go w Q T pc L (.int v :: st) := by
  obtain ⟨d1, rfl⟩ := d
  exact go_step K H (fun p e m below c hx hby hA t kk => XS.istore hA hx rfl (by rw [hby]; exact d1) rfl hl kk) G
theorem go_lstoreN {j : Fin 4} {v : Int64} (K : Cx w R Z n0 own bytes mx rt nm) (H : At1 w T h k n) (d : Dc bytes pc (.lstore_n j) 1 pc') (hl : storeLocals L j.val (.long v) = some L') (G : Go w Q T pc' L' st) : Go w Q T pc L (.long v :: st) := by
  obtain ⟨d1, rfl⟩ := d
  exact go_step K H (fun p e m below c hx hby hA t kk => XS.lstoreN hA hx rfl (by rw [hby]; exact d1) rfl hl kk) G
theorem go_lstore {j : Nat} {v : Int64} (K : Cx w R Z n0 own bytes mx rt nm) (H : At1 w T h k n) (d : Dc bytes pc (.lstore j) 2 pc') (hl : storeLocals L j (.long v) = some L') (G : Go w Q T pc' L' st) : Go w Q T pc L (.long v :: st) := by
  obtain ⟨d1, rfl⟩ := d
  exact go_step K H (fun p e m below c hx hby hA t kk => XS.lstore hA hx rfl (by rw [hby]; exact d1) rfl hl kk) G
theorem go_astoreN {j : Fin 4} {v : Value} (K : Cx w R Z n0 own bytes mx rt nm) (H : At1 w T h k n) (d : Dc bytes pc (.astore_n j) 1 pc') (hv : v.isRef = true) (hl : storeLocals L j.val v = some L') (G : Go w Q T pc' L' st) : Go w Q T pc L (v :: st) := by
  obtain ⟨d1, rfl⟩ := d
  exact go_step K H (fun p e m below c hx hby hA t kk => XS.astoreN hA hx rfl (by rw [hby]; exact d1) rfl hv hl kk) G
theorem go_astore {j : Nat} {v : Value} (K : Cx w R Z n0 own bytes mx rt nm) (H : At1 w T h k n) (d : Dc bytes pc (.astore j) 2 pc') (hv : v.isRef = true) (hl : storeLocals L j v = some L') (G : Go w Q T pc' L' st) : Go w Q T pc L (v :: st) := by
  obtain ⟨d1, rfl⟩ := d
  exact go_step K H (fun p e m below c hx hby hA t kk => XS.astore hA hx rfl (by rw [hby]; exact d1) rfl hv hl kk) G
theorem go_iinc {j : Nat} {cst : Int} {x z : Int32} (K : Cx w R Z n0 own bytes mx rt nm) (H : At1 w T h k n) (d : Dc bytes pc (.iinc j cst) 3 pc') (hl : L[j]? = some (.val (.int x))) (hz : z = x + Int32.ofInt cst) (hl' : storeLocals L j (.int z) = some L') (G : Go w Q T pc' L' st) : Go w Q T pc L st := by
  obtain ⟨d1, rfl⟩ := d
  exact go_step K H (fun p e m below c hx hby hA t kk => XS.iinc hA hx rfl (by rw [hby]; exact d1) hl (by rw [← hz]; exact hl') kk) G
theorem go_iconst {i : Int} (z : Int32) (K : Cx w R Z n0 own bytes mx rt nm) (H : At1 w T h k n) (d : Dc bytes pc (.iconst i) 1 pc') (hz : Int32.ofInt i = z) (G : Go w Q T pc' L (.int z :: st)) : Go w Q T pc L st := by
  obtain ⟨d1, rfl⟩ := d
  exact go_step K H (fun p e m below c hx hby hA t kk => XS.iconst hA hx rfl (by rw [hby]; exact d1) (by rw [hz]; exact kk)) G
theorem go_bipush {i : Int} (z : Int32) (K : Cx w R Z n0 own bytes mx rt nm) (H : At1 w T h k n) (d : Dc bytes pc (.bipush i) 2 pc') (hz : (Int8.ofInt i).toInt32 = z) (G : Go w Q T pc' L (.int z :: st)) : Go w Q T pc L st := by
  obtain ⟨d1, rfl⟩ := d
  exact go_step K H (fun p e m below c hx hby hA t kk => XS.bipush hA hx rfl (by rw [hby]; exact d1) (by rw [hz]; exact kk)) G
theorem go_sipush {i : Int} (z : Int32) (K : Cx w R Z n0 own bytes mx rt nm) (H : At1 w T h k n) (d : Dc bytes pc (.sipush i) 3 pc') (hz : (Int16.ofInt i).toInt32 = z) (G : Go w Q T pc' L (.int z :: st)) : Go w Q T pc L st := by
  obtain ⟨d1, rfl⟩ := d
  exact go_step K H (fun p e m below c hx hby hA t kk => XS.sipush hA hx rfl (by rw [hby]; exact d1) (by rw [hz]; exact kk)) G
theorem go_lconst {i : Fin 2} (z : Int64) (K : Cx w R Z n0 own bytes mx rt nm) (H : At1 w T h k n) (d : Dc bytes pc (.lconst i) 1 pc') (hz : Int64.ofNat i = z) (G : Go w Q T pc' L (.long z :: st)) : Go w Q T pc L st := by
  obtain ⟨d1, rfl⟩ := d
  exact go_step K H (fun p e m below c hx hby hA t kk => XS.lconst hA hx rfl (by rw [hby]; exact d1) (by rw [hz]; exact kk)) G
theorem go_null  (K : Cx w R Z n0 own bytes mx rt nm) (H : At1 w T h k n) (d : Dc bytes pc .aconst_null 1 pc') (G : Go w Q T pc' L (.null :: st)) : Go w Q T pc L st := by
  obtain ⟨d1, rfl⟩ := d
  exact go_step K H (fun p e m below c hx hby hA t kk => XS.aconstNull hA hx rfl (by rw [hby]; exact d1) kk) G
theorem go_dup {x : Value} (K : Cx w R Z n0 own bytes mx rt nm) (H : At1 w T h k n) (d : Dc bytes pc .dup 1 pc') (hc : x.category = 1) (G : Go w Q T pc' L (x :: x :: st)) : Go w Q T pc L (x :: st) := by
  obtain ⟨d1, rfl⟩ := d
  exact go_step K H (fun p e m below c hx hby hA t kk => XS.dup hA hx rfl (by rw [hby]; exact d1) rfl hc kk) G
theorem go_pop {x : Value} (K : Cx w R Z n0 own bytes mx rt nm) (H : At1 w T h k n) (d : Dc bytes pc .pop 1 pc') (hc : x.category = 1) (G : Go w Q T pc' L st) : Go w Q T pc L (x :: st) := by
  obtain ⟨d1, rfl⟩ := d
  exact go_step K H (fun p e m below c hx hby hA t kk => XS.pop hA hx rfl (by rw [hby]; exact d1) rfl hc kk) G
theorem go_dupX1 {x y : Value} (K : Cx w R Z n0 own bytes mx rt nm) (H : At1 w T h k n) (d : Dc bytes pc .dup_x1 1 pc') (hc : x.category = 1) (hc' : y.category = 1) (G : Go w Q T pc' L (x :: y :: x :: st)) : Go w Q T pc L (x :: y :: st) := by
  obtain ⟨d1, rfl⟩ := d
  exact go_step K H (fun p e m below c hx hby hA t kk => XS.dupX1 hA hx rfl (by rw [hby]; exact d1) rfl hc hc' kk) G
theorem go_dup2 {x y : Value} (K : Cx w R Z n0 own bytes mx rt nm) (H : At1 w T h k n) (d : Dc bytes pc .dup2 1 pc') (hc : x.category = 1) (hc' : y.category = 1) (G : Go w Q T pc' L (x :: y :: x :: y :: st)) : Go w Q T pc L (x :: y :: st) := by
  obtain ⟨d1, rfl⟩ := d
  exact go_step K H (fun p e m below c hx hby hA t kk => Jvm.Free.XT.dup2 hA hx rfl (by rw [hby]; exact d1) rfl hc hc' kk) G
theorem go_dup2L {x : Int64} (K : Cx w R Z n0 own bytes mx rt nm) (H : At1 w T h k n) (d : Dc bytes pc .dup2 1 pc') (G : Go w Q T pc' L (.long x :: .long x :: st)) : Go w Q T pc L (.long x :: st) := by
  obtain ⟨d1, rfl⟩ := d
  exact go_step K H (fun p e m below c hx hby hA t kk => Jvm.Free.XT.dup2L hA hx rfl (by rw [hby]; exact d1) rfl kk) G
def Jp (bytes : ByteArray) (pc : Nat) (i : Int → Instr) (yes no : Nat) : Prop := ∃ o : Int, decode bytes pc = .ok (i o, 3) ∧ 0 ≤ (pc : Int) + o ∧ ((pc : Int) + o).toNat = yes ∧ pc + 3 = no
theorem go_goto (K : Cx w R Z n0 own bytes mx rt nm) (H : At1 w T h k n) {no : Nat} (d : Jp bytes pc .goto pc' no) (G : Go w Q T pc' L st) : Go w Q T pc L st := by
  obtain ⟨o, d1, d2, d3, d4⟩ := d
  exact go_step K H (fun p e m below c hx hby hA t kk => XS.goto hA hx rfl rfl (by rw [hby]; exact d1) d2 d3 kk) G
theorem go_icmp_lt (K : Cx w R Z n0 own bytes mx rt nm) (H : At1 w T h k n) {x y : Int32} {yes no : Nat} (d : Jp bytes pc (.if_icmp .lt) yes no) (G1 : x < y → Go w Q T yes L st) (G2 : ¬ x < y → Go w Q T no L st) : Go w Q T pc L (.int y :: .int x :: st) := by
  obtain ⟨o, d1, d2, d3, rfl⟩ := d
  by_cases q : x < y
  · exact go_step K H (fun p e m below c hx hby hA t kk => XS.icmpYes hA hx rfl rfl (by rw [hby]; exact d1) rfl (tlt q).1 d2 d3 kk) (G1 q)
  · exact go_step K H (fun p e m below c hx hby hA t kk => XS.icmpNo hA hx rfl (by rw [hby]; exact d1) rfl (flt q).1 kk) (G2 q)
theorem go_if_lt (K : Cx w R Z n0 own bytes mx rt nm) (H : At1 w T h k n) {x : Int32} {yes no : Nat} (d : Jp bytes pc (.ifCond .lt) yes no) (G1 : x < (0 : Int32) → Go w Q T yes L st) (G2 : ¬ x < (0 : Int32) → Go w Q T no L st) : Go w Q T pc L (.int x :: st) := by
  obtain ⟨o, d1, d2, d3, rfl⟩ := d
  by_cases q : x < (0 : Int32)
  · exact go_step K H (fun p e m below c hx hby hA t kk => XS.ifYes hA hx rfl rfl (by rw [hby]; exact d1) rfl ((if0 _ _).trans (tlt q).1) d2 d3 kk) (G1 q)
  · exact go_step K H (fun p e m below c hx hby hA t kk => XS.ifNo hA hx rfl (by rw [hby]; exact d1) rfl ((if0 _ _).trans (flt q).1) kk) (G2 q)
theorem go_icmp_ge (K : Cx w R Z n0 own bytes mx rt nm) (H : At1 w T h k n) {x y : Int32} {yes no : Nat} (d : Jp bytes pc (.if_icmp .ge) yes no) (G1 : ¬ x < y → Go w Q T yes L st) (G2 : x < y → Go w Q T no L st) : Go w Q T pc L (.int y :: .int x :: st) := by
  obtain ⟨o, d1, d2, d3, rfl⟩ := d
  by_cases q : ¬ x < y
  · exact go_step K H (fun p e m below c hx hby hA t kk => XS.icmpYes hA hx rfl rfl (by rw [hby]; exact d1) rfl (flt q).2.1 d2 d3 kk) (G1 q)
  · exact go_step K H (fun p e m below c hx hby hA t kk => XS.icmpNo hA hx rfl (by rw [hby]; exact d1) rfl (tlt (Decidable.not_not.mp q)).2.1 kk) (G2 (Decidable.not_not.mp q))
theorem go_if_ge (K : Cx w R Z n0 own bytes mx rt nm) (H : At1 w T h k n) {x : Int32} {yes no : Nat} (d : Jp bytes pc (.ifCond .ge) yes no) (G1 : ¬ x < (0 : Int32) → Go w Q T yes L st) (G2 : x < (0 : Int32) → Go w Q T no L st) : Go w Q T pc L (.int x :: st) := by
  obtain ⟨o, d1, d2, d3, rfl⟩ := d
  by_cases q : ¬ x < (0 : Int32)
  · exact go_step K H (fun p e m below c hx hby hA t kk => XS.ifYes hA hx rfl rfl (by rw [hby]; exact d1) rfl ((if0 _ _).trans (flt q).2.1) d2 d3 kk) (G1 q)
  · exact go_step K H (fun p e m below c hx hby hA t kk => XS.ifNo hA hx rfl (by rw [hby]; exact d1) rfl ((if0 _ _).trans (tlt (Decidable.not_not.mp q)).2.1) kk) (G2 (Decidable.not_not.mp q))
theorem go_icmp_gt (K : Cx w R Z n0 own bytes mx rt nm) (H : At1 w T h k n) {x y : Int32} {yes no : Nat} (d : Jp bytes pc (.if_icmp .gt) yes no) (G1 : y < x → Go w Q T yes L st) (G2 : ¬ y < x → Go w Q T no L st) : Go w Q T pc L (.int y :: .int x :: st) := by
  obtain ⟨o, d1, d2, d3, rfl⟩ := d
  by_cases q : y < x
  · exact go_step K H (fun p e m below c hx hby hA t kk => XS.icmpYes hA hx rfl rfl (by rw [hby]; exact d1) rfl (tlt q).2.2.1 d2 d3 kk) (G1 q)
  · exact go_step K H (fun p e m below c hx hby hA t kk => XS.icmpNo hA hx rfl (by rw [hby]; exact d1) rfl (flt q).2.2.1 kk) (G2 q)
theorem go_if_gt (K : Cx w R Z n0 own bytes mx rt nm) (H : At1 w T h k n) {x : Int32} {yes no : Nat} (d : Jp bytes pc (.ifCond .gt) yes no) (G1 : (0 : Int32) < x → Go w Q T yes L st) (G2 : ¬ (0 : Int32) < x → Go w Q T no L st) : Go w Q T pc L (.int x :: st) := by
  obtain ⟨o, d1, d2, d3, rfl⟩ := d
  by_cases q : (0 : Int32) < x
  · exact go_step K H (fun p e m below c hx hby hA t kk => XS.ifYes hA hx rfl rfl (by rw [hby]; exact d1) rfl ((if0 _ _).trans (tlt q).2.2.1) d2 d3 kk) (G1 q)
  · exact go_step K H (fun p e m below c hx hby hA t kk => XS.ifNo hA hx rfl (by rw [hby]; exact d1) rfl ((if0 _ _).trans (flt q).2.2.1) kk) (G2 q)
theorem go_icmp_le (K : Cx w R Z n0 own bytes mx rt nm) (H : At1 w T h k n) {x y : Int32} {yes no : Nat} (d : Jp bytes pc (.if_icmp .le) yes no) (G1 : ¬ y < x → Go w Q T yes L st) (G2 : y < x → Go w Q T no L st) : Go w Q T pc L (.int y :: .int x :: st) := by
  obtain ⟨o, d1, d2, d3, rfl⟩ := d
  by_cases q : ¬ y < x
  · exact go_step K H (fun p e m below c hx hby hA t kk => XS.icmpYes hA hx rfl rfl (by rw [hby]; exact d1) rfl (flt q).2.2.2 d2 d3 kk) (G1 q)
  · exact go_step K H (fun p e m below c hx hby hA t kk => XS.icmpNo hA hx rfl (by rw [hby]; exact d1) rfl (tlt (Decidable.not_not.mp q)).2.2.2 kk) (G2 (Decidable.not_not.mp q))
theorem go_if_le (K : Cx w R Z n0 own bytes mx rt nm) (H : At1 w T h k n) {x : Int32} {yes no : Nat} (d : Jp bytes pc (.ifCond .le) yes no) (G1 : ¬ (0 : Int32) < x → Go w Q T yes L st) (G2 : (0 : Int32) < x → Go w Q T no L st) : Go w Q T pc L (.int x :: st) := by
  obtain ⟨o, d1, d2, d3, rfl⟩ := d
  by_cases q : ¬ (0 : Int32) < x
  · exact go_step K H (fun p e m below c hx hby hA t kk => XS.ifYes hA hx rfl rfl (by rw [hby]; exact d1) rfl ((if0 _ _).trans (flt q).2.2.2) d2 d3 kk) (G1 q)
  · exact go_step K H (fun p e m below c hx hby hA t kk => XS.ifNo hA hx rfl (by rw [hby]; exact d1) rfl ((if0 _ _).trans (tlt (Decidable.not_not.mp q)).2.2.2) kk) (G2 (Decidable.not_not.mp q))
theorem go_icmp_eq (K : Cx w R Z n0 own bytes mx rt nm) (H : At1 w T h k n) {x y : Int32} {yes no : Nat} (d : Jp bytes pc (.if_icmp .eq) yes no) (G1 : x = y → Go w Q T yes L st) (G2 : ¬ x = y → Go w Q T no L st) : Go w Q T pc L (.int y :: .int x :: st) := by
  obtain ⟨o, d1, d2, d3, rfl⟩ := d
  by_cases q : x = y
  · exact go_step K H (fun p e m below c hx hby hA t kk => XS.icmpYes hA hx rfl rfl (by rw [hby]; exact d1) rfl (teq q).1 d2 d3 kk) (G1 q)
  · exact go_step K H (fun p e m below c hx hby hA t kk => XS.icmpNo hA hx rfl (by rw [hby]; exact d1) rfl (feq q).1 kk) (G2 q)
theorem go_if_eq (K : Cx w R Z n0 own bytes mx rt nm) (H : At1 w T h k n) {x : Int32} {yes no : Nat} (d : Jp bytes pc (.ifCond .eq) yes no) (G1 : x = (0 : Int32) → Go w Q T yes L st) (G2 : ¬ x = (0 : Int32) → Go w Q T no L st) : Go w Q T pc L (.int x :: st) := by
  obtain ⟨o, d1, d2, d3, rfl⟩ := d
  by_cases q : x = (0 : Int32)
  · exact go_step K H (fun p e m below c hx hby hA t kk => XS.ifYes hA hx rfl rfl (by rw [hby]; exact d1) rfl ((if0 _ _).trans (teq q).1) d2 d3 kk) (G1 q)
  · exact go_step K H (fun p e m below c hx hby hA t kk => XS.ifNo hA hx rfl (by rw [hby]; exact d1) rfl ((if0 _ _).trans (feq q).1) kk) (G2 q)
theorem go_icmp_ne (K : Cx w R Z n0 own bytes mx rt nm) (H : At1 w T h k n) {x y : Int32} {yes no : Nat} (d : Jp bytes pc (.if_icmp .ne) yes no) (G1 : ¬ x = y → Go w Q T yes L st) (G2 : x = y → Go w Q T no L st) : Go w Q T pc L (.int y :: .int x :: st) := by
  obtain ⟨o, d1, d2, d3, rfl⟩ := d
  by_cases q : ¬ x = y
  · exact go_step K H (fun p e m below c hx hby hA t kk => XS.icmpYes hA hx rfl rfl (by rw [hby]; exact d1) rfl (feq q).2 d2 d3 kk) (G1 q)
  · exact go_step K H (fun p e m below c hx hby hA t kk => XS.icmpNo hA hx rfl (by rw [hby]; exact d1) rfl (teq (Decidable.not_not.mp q)).2 kk) (G2 (Decidable.not_not.mp q))
theorem go_if_ne (K : Cx w R Z n0 own bytes mx rt nm) (H : At1 w T h k n) {x : Int32} {yes no : Nat} (d : Jp bytes pc (.ifCond .ne) yes no) (G1 : ¬ x = (0 : Int32) → Go w Q T yes L st) (G2 : x = (0 : Int32) → Go w Q T no L st) : Go w Q T pc L (.int x :: st) := by
  obtain ⟨o, d1, d2, d3, rfl⟩ := d
  by_cases q : ¬ x = (0 : Int32)
  · exact go_step K H (fun p e m below c hx hby hA t kk => XS.ifYes hA hx rfl rfl (by rw [hby]; exact d1) rfl ((if0 _ _).trans (feq q).2) d2 d3 kk) (G1 q)
  · exact go_step K H (fun p e m below c hx hby hA t kk => XS.ifNo hA hx rfl (by rw [hby]; exact d1) rfl ((if0 _ _).trans (teq (Decidable.not_not.mp q)).2) kk) (G2 (Decidable.not_not.mp q))
theorem go_ifnull_yes (K : Cx w R Z n0 own bytes mx rt nm) (H : At1 w T h k n) {yes no : Nat} (d : Jp bytes pc .ifnull yes no) (G : Go w Q T yes L st) : Go w Q T pc L (.null :: st) := by
  obtain ⟨o, d1, d2, d3, rfl⟩ := d
  exact go_step K H (fun p e m below c hx hby hA t kk => XS.ifnullYes hA hx rfl rfl (by rw [hby]; exact d1) rfl d2 d3 kk) G
theorem go_ifnull_no (K : Cx w R Z n0 own bytes mx rt nm) (H : At1 w T h k n) {a : Addr} {yes no : Nat} (d : Jp bytes pc .ifnull yes no) (G : Go w Q T no L st) : Go w Q T pc L (.ref a :: st) := by
  obtain ⟨o, d1, d2, d3, rfl⟩ := d
  exact go_step K H (fun p e m below c hx hby hA t kk => XS.ifnullNo hA hx rfl (by rw [hby]; exact d1) rfl kk) G
theorem go_ifnonnull_yes (K : Cx w R Z n0 own bytes mx rt nm) (H : At1 w T h k n) {a : Addr} {yes no : Nat} (d : Jp bytes pc .ifnonnull yes no) (G : Go w Q T yes L st) : Go w Q T pc L (.ref a :: st) := by
  obtain ⟨o, d1, d2, d3, rfl⟩ := d
  exact go_step K H (fun p e m below c hx hby hA t kk => XS.ifnonnullYes hA hx rfl rfl (by rw [hby]; exact d1) rfl d2 d3 kk) G
theorem go_ifnonnull_no (K : Cx w R Z n0 own bytes mx rt nm) (H : At1 w T h k n) {yes no : Nat} (d : Jp bytes pc .ifnonnull yes no) (G : Go w Q T no L st) : Go w Q T pc L (.null :: st) := by
  obtain ⟨o, d1, d2, d3, rfl⟩ := d
  exact go_step K H (fun p e m below c hx hby hA t kk => XS.ifnonnullNo hA hx rfl (by rw [hby]; exact d1) rfl kk) G
theorem go_acmp_eq (K : Cx w R Z n0 own bytes mx rt nm) (H : At1 w T h k n) {x y : Value} (h1 : x.isRef = true) (h2 : y.isRef = true) {yes no : Nat} (d : Jp bytes pc (.if_acmp .eq) yes no) (G1 : x = y → Go w Q T yes L st) (G2 : ¬ x = y → Go w Q T no L st) : Go w Q T pc L (y :: x :: st) := by
  obtain ⟨p, l, e, R', s, m, args, below, meth, c, Z', k0⟩ := w
  obtain ⟨hx, hby, -⟩ := K
  obtain ⟨locs, X, -⟩ := H
  obtain ⟨o, d1, d2, d3, rfl⟩ := d
  by_cases q : x = y
  · obtain ⟨s₂, o2, g1, g2⟩ := G1 q
    exact ⟨s₂, o2, Jvm.RoadKit.acmp X hx rfl h1 h2 (pc' := yes) (same := true) rfl (by rw [hby]; exact d1) rfl (decide_eq_true q) d2 (by simp [acV, d3]) g1, g2⟩
  · obtain ⟨s₂, o2, g1, g2⟩ := G2 q
    exact ⟨s₂, o2, Jvm.RoadKit.acmp X hx rfl h1 h2 (pc' := pc + 3) (same := false) rfl (by rw [hby]; exact d1) rfl (decide_eq_false q) d2 (by simp [acV]) g1, g2⟩
theorem go_acmp_ne (K : Cx w R Z n0 own bytes mx rt nm) (H : At1 w T h k n) {x y : Value} (h1 : x.isRef = true) (h2 : y.isRef = true) {yes no : Nat} (d : Jp bytes pc (.if_acmp .ne) yes no) (G1 : ¬ x = y → Go w Q T yes L st) (G2 : x = y → Go w Q T no L st) : Go w Q T pc L (y :: x :: st) := by
  obtain ⟨p, l, e, R', s, m, args, below, meth, c, Z', k0⟩ := w
  obtain ⟨hx, hby, -⟩ := K
  obtain ⟨locs, X, -⟩ := H
  obtain ⟨o, d1, d2, d3, rfl⟩ := d
  by_cases q : x = y
  · obtain ⟨s₂, o2, g1, g2⟩ := G2 q
    exact ⟨s₂, o2, Jvm.RoadKit.acmp X hx rfl h1 h2 (pc' := pc + 3) (same := true) rfl (by rw [hby]; exact d1) rfl (decide_eq_true q) d2 (by simp [acV]) g1, g2⟩
  · obtain ⟨s₂, o2, g1, g2⟩ := G1 q
    exact ⟨s₂, o2, Jvm.RoadKit.acmp X hx rfl h1 h2 (pc' := yes) (same := false) rfl (by rw [hby]; exact d1) rfl (decide_eq_false q) d2 (by simp [acV, d3]) g1, g2⟩
/-- a step that hands on to a new state of the walk -/
theorem go_move {T' : State} (K : Cx w R Z n0 own bytes mx rt nm)
    (hs : ∀ (p : Program) (e : Env) (m : MethodId) (below : List Frame), (∃ l s args meth c, w = ⟨p, l, e, R, s, m, args, below, meth, c, Z, n0⟩) → ∀ t, Steps p.tables e below (T'.setTop (mkF m pc' L' st')) t → Steps p.tables e below (T.setTop (mkF m pc L st)) t)
    (G : Go w Q T' pc' L' st') : Go w Q T pc L st := by
  obtain ⟨p, l, e, R', s, m, args, below, meth, c, Z', k0⟩ := w
  obtain ⟨-, -, -, -, -, -, -, -, rfl, rfl, rfl, -⟩ := K
  obtain ⟨s₂, o, h1, h2⟩ := G
  exact ⟨s₂, o, hs p e m below ⟨l, s, args, meth, c, rfl⟩ _ h1, h2⟩
/-- one law a body's end -/
theorem go_leave (K : Cx w R Z n0 own bytes mx rt nm) (H : At1 w T h k n) {v : Option Value} (hv : rt = none → v = none) (hk : k ≤ R.cells) (hn : n ≤ R.slots)
    (hs : ∀ (p : Program) (l : Launch) (e : Env) (s : State) (m : MethodId) (args : Array Value) (below : List Frame) (meth : Method) (c : Code) (locs : List Loc), Stand p l e R s m args below meth c T locs k n → p.tables.exec = Jvm.exec → c.code = bytes → meth.sig.returnType = rt → ∀ fs, (∀ (f : JFrame) (acts : List Action), f.method = m → f.locked = none → f.entered = [] → (doReturn e (T.setTop f) acts v).1 = T.setFrames fs) → Steps p.tables e below (T.setTop (mkF m pc L st)) (T.setFrames fs))
    (hq : Q v h) : Go w Q T pc L st := by
  obtain ⟨p, l, e, R', s, m, args, below, meth, c, Z', k0⟩ := w
  obtain ⟨hx, hby, hml, hown, hZ, hret, hnm, hlk, rfl, rfl, rfl, h00⟩ := K
  obtain ⟨locs, X, eT, N⟩ := H
  obtain ⟨fs, hr, hrun, hended, hW, hsame⟩ := X.leave (v := v) (fun q => hv (hret ▸ q)) hlk
  exact ⟨_, _, hs p l e s m args below meth c locs X hx hby hret fs hr, hrun, hended, v, locs, rfl, ⟨by show Q v T.heap; rw [eT]; exact hq, N⟩, ⟨v, rfl⟩, hW, hsame.mono hk hn⟩
theorem go_ret (K : Cx w R Z n0 own bytes mx rt nm) (H : At1 w T h k n) {P : Heap → Prop} (d : Dc bytes pc .return_ 1 pc') (hr : rt = none) (hk : k ≤ R.cells) (hn : n ≤ R.slots) (hq : P h) : Go w (RV P) T pc L [] :=
  go_leave K H (fun _ => rfl) hk hn (fun p l e s m args below meth c locs X hx hby hret fs hl => X.returnOut hx (hret.trans hr) (dcb hby d) hl) ⟨rfl, hq⟩
theorem go_retV (K : Cx w R Z n0 own bytes mx rt nm) (H : At1 w T h k n) {v : Value} {t : FieldType} {i : Instr} (d : Dc bytes pc i 1 pc') (hr : rt = some t) (hnar : narrow t v = v)
    (hi : (i = .ireturn ∧ (t = .int ∨ t = .boolean ∨ t = .byte ∨ t = .char ∨ t = .short) ∧ ∃ z, v = .int z) ∨ (i = .lreturn ∧ t = .long ∧ ∃ z, v = .long z) ∨ (i = .dreturn ∧ t = .double ∧ ∃ z, v = .double z) ∨ (i = .freturn ∧ t = .float ∧ ∃ z, v = .float z) ∨ (i = .areturn ∧ t.isReference = true ∧ v.isRef = true))
    (hk : k ≤ R.cells) (hn : n ≤ R.slots) (hq : Q (some v) h) : Go w Q T pc L (v :: st) :=
  go_leave K H (fun q => by rw [hr] at q; cases q) hk hn (fun p l e s m args below meth c locs X hx hby hret fs hl => retOut X hx (hret.trans hr) hnar hi (dcb hby d) hl) hq
theorem go_iret (K : Cx w R Z n0 own bytes mx rt nm) (H : At1 w T h k n) {P : Int32 → Heap → Prop} {z : Int32} (d : Dc bytes pc .ireturn 1 pc') (hr : rt = some .int) (hk : k ≤ R.cells) (hn : n ≤ R.slots) (hq : P z h) : Go w (RI P) T pc L (.int z :: st) :=
  go_retV K H d hr rfl (Or.inl ⟨rfl, Or.inl rfl, z, rfl⟩) hk hn ⟨z, rfl, hq⟩
theorem go_zret (K : Cx w R Z n0 own bytes mx rt nm) (H : At1 w T h k n) {P : Int32 → Heap → Prop} {z : Int32} (d : Dc bytes pc .ireturn 1 pc') (hr : rt = some .boolean) (hz : nar .boolean z = z) (hk : k ≤ R.cells) (hn : n ≤ R.slots) (hq : P z h) : Go w (RI P) T pc L (.int z :: st) :=
  go_retV K H d hr (by show Value.int (nar .boolean z) = _; rw [hz]) (Or.inl ⟨rfl, Or.inr (Or.inl rfl), z, rfl⟩) hk hn ⟨z, rfl, hq⟩
theorem go_lret (K : Cx w R Z n0 own bytes mx rt nm) (H : At1 w T h k n) {P : Int64 → Heap → Prop} {z : Int64} (d : Dc bytes pc .lreturn 1 pc') (hr : rt = some .long) (hk : k ≤ R.cells) (hn : n ≤ R.slots) (hq : P z h) : Go w (RL P) T pc L (.long z :: st) :=
  go_retV K H d hr rfl (Or.inr (Or.inl ⟨rfl, rfl, z, rfl⟩)) hk hn ⟨z, rfl, hq⟩
theorem go_aret (K : Cx w R Z n0 own bytes mx rt nm) (H : At1 w T h k n) {P : Value → Heap → Prop} {z : Value} {t : FieldType} (d : Dc bytes pc .areturn 1 pc') (hr : rt = some t) (ht : t.isReference = true) (hz : z.isRef = true) (hk : k ≤ R.cells) (hn : n ≤ R.slots) (hq : P z h) : Go w (RR P) T pc L (z :: st) :=
  go_retV K H d hr (by rcases ref_cases hz with rfl | ⟨a, rfl⟩ <;> (cases t <;> first | rfl | (simp [FieldType.isReference] at ht))) (Or.inr (Or.inr (Or.inr (Or.inr ⟨rfl, ht, hz⟩)))) hk hn ⟨z, rfl, hz, hq⟩
theorem go_ldcI {a0 : Array Value} {idx : Nat} (z : Int32) (K : Cx w R Z n0 own bytes mx rt nm) (H : At1 w T h k n) (d : Dc bytes pc (.ldc idx) 2 pc') (w1 : (Cond.constant own idx z).before a0 Z = true) (G : Go w Q T pc' L (.int z :: st)) : Go w Q T pc L st := by
  obtain ⟨p, l, e, R', s, m, args, below, meth, c, Z', k0⟩ := w
  obtain ⟨hx, hby, hml, hown, hZ, -⟩ := K
  obtain ⟨locs, X, -⟩ := H
  obtain ⟨s₂, o, g1, g2⟩ := G
  obtain ⟨d1, rfl⟩ := d
  exact ⟨s₂, o, X.ldcInt hx hown (mvT hZ w1) rfl (by rw [hby]; exact d1) _ g1, g2⟩
theorem go_ldcF {a0 : Array Value} {idx : Nat} (z : UInt32) (K : Cx w R Z n0 own bytes mx rt nm) (H : At1 w T h k n) (d : Dc bytes pc (.ldc idx) 2 pc') (w1 : (Cond.constantFloat own idx z).before a0 Z = true) (G : Go w Q T pc' L (.float z :: st)) : Go w Q T pc L st := by
  obtain ⟨p, l, e, R', s, m, args, below, meth, c, Z', k0⟩ := w
  obtain ⟨hx, hby, hml, hown, hZ, -⟩ := K
  obtain ⟨locs, X, -⟩ := H
  obtain ⟨s₂, o, g1, g2⟩ := G
  obtain ⟨d1, rfl⟩ := d
  exact ⟨s₂, o, X.ldcFloatC hx hown (mvT hZ w1) rfl (by rw [hby]; exact d1) _ g1, g2⟩
theorem go_ldcwI {a0 : Array Value} {idx : Nat} (z : Int32) (K : Cx w R Z n0 own bytes mx rt nm) (H : At1 w T h k n) (d : Dc bytes pc (.ldc_w idx) 3 pc') (w1 : (Cond.constant own idx z).before a0 Z = true) (G : Go w Q T pc' L (.int z :: st)) : Go w Q T pc L st := by
  obtain ⟨p, l, e, R', s, m, args, below, meth, c, Z', k0⟩ := w
  obtain ⟨hx, hby, hml, hown, hZ, -⟩ := K
  obtain ⟨locs, X, -⟩ := H
  obtain ⟨s₂, o, g1, g2⟩ := G
  obtain ⟨d1, rfl⟩ := d
  exact ⟨s₂, o, X.ldcwInt hx hown (mvT hZ w1) rfl (by rw [hby]; exact d1) _ g1, g2⟩
theorem go_ldcL {a0 : Array Value} {idx : Nat} (z : Int64) (K : Cx w R Z n0 own bytes mx rt nm) (H : At1 w T h k n) (d : Dc bytes pc (.ldc2_w idx) 3 pc') (w1 : (Cond.constantLong own idx z).before a0 Z = true) (G : Go w Q T pc' L (.long z :: st)) : Go w Q T pc L st := by
  obtain ⟨p, l, e, R', s, m, args, below, meth, c, Z', k0⟩ := w
  obtain ⟨hx, hby, hml, hown, hZ, -⟩ := K
  obtain ⟨locs, X, -⟩ := H
  obtain ⟨s₂, o, g1, g2⟩ := G
  obtain ⟨d1, rfl⟩ := d
  exact ⟨s₂, o, X.ldc2Long hx hown (mvT hZ w1) rfl (by rw [hby]; exact d1) _ g1, g2⟩
theorem go_getfield {a0 : Array Value} {R0 O f ds host : String} {idx : Nat} {a : Addr} {v : Value} (K : Cx w R Z n0 own bytes mx rt nm) (H : At1 w T h k n) (d : Dc bytes pc (.getfield idx) 3 pc') (w1 : (Cond.fieldLink own idx R0 f ds).before a0 Z = true ∨ (Cond.fieldLinkNest own idx R0 f ds host).before a0 Z = true) (via : Via Z R0 O f ds) (F : Fld Z h a O f ds v)
    (G : ∀ T', At1 w T' h k n → Go w Q T' pc' L (v :: st)) : Go w Q T pc L (.ref a :: st) := by
  obtain ⟨p, l, e, R', s, m, args, below, meth, c, Z', k0⟩ := w
  obtain ⟨hx, hby, hml, hown, hZ, -⟩ := K
  obtain ⟨locs, X, eT, N⟩ := H
  obtain ⟨d1, rfl⟩ := d
  obtain ⟨T', X', e', stp⟩ := getF X hx hZ hown w1 via eT F (g := mkF m pc L (.ref a :: st)) rfl rfl (by rw [hby]; exact d1)
  obtain ⟨s₂, o, g1, g2⟩ := G T' ⟨locs, X', e', N⟩
  exact ⟨s₂, o, stp _ g1, g2⟩
theorem go_getstatic {a0 : Array Value} {R0 O f ds host : String} {idx : Nat} {v : Value} (K : Cx w R Z n0 own bytes mx rt nm) (H : At1 w T h k n) (d : Dc bytes pc (.getstatic idx) 3 pc') (w1 : (Cond.fieldLink own idx R0 f ds).before a0 Z = true ∨ (Cond.fieldLinkNest own idx R0 f ds host).before a0 Z = true) (via : Via Z R0 O f ds) (F : Sta Z h O f ds v)
    (G : ∀ T', At1 w T' h k n → Go w Q T' pc' L (v :: st)) : Go w Q T pc L st := by
  obtain ⟨p, l, e, R', s, m, args, below, meth, c, Z', k0⟩ := w
  obtain ⟨hx, hby, hml, hown, hZ, -⟩ := K
  obtain ⟨locs, X, eT, N⟩ := H
  obtain ⟨d1, rfl⟩ := d
  obtain ⟨T', X', e', stp⟩ := getS2 X hx hZ hown w1 via eT F (g := mkF m pc L st) rfl (by rw [hby]; exact d1)
  obtain ⟨s₂, o, g1, g2⟩ := G T' ⟨locs, X', e', N⟩
  exact ⟨s₂, o, stp _ g1, g2⟩
theorem go_putfield {a0 : Array Value} {R0 O f ds host C : String} {idx kk : Nat} {a : Addr} {v old : Value} {ty : FieldType} (K : Cx w R Z n0 own bytes mx rt nm) (H : At1 w T h k n) (d : Dc bytes pc (.putfield idx) 3 pc') (w1 : (Cond.fieldLink own idx R0 f ds).before a0 Z = true ∨ (Cond.fieldLinkNest own idx R0 f ds host).before a0 Z = true) (via : Via Z R0 O f ds)
    (F : Fld Z h a O f ds old) (E : Exa Z h a C) (Ly : (Cond.lays C O f ds).before a0 Z = true ∨ ((Cond.laysFinal C O f ds).before a0 Z = true ∧ own = O ∧ nm = "<init>")) (wi : (Cond.instantiable C kk).before a0 Z = true)
    (hty : parseFieldDescriptor ds = some ty) (hn : narrow ty v = v) (hf : fits ty v = true) (ha : n0 ≤ a)
    (G : ∀ T' h', At1 w T' h' k n → Wr h h' a (Jvm.RoadKit.slotOf Z O f ds) v → Go w Q T' pc' L st) : Go w Q T pc L (v :: .ref a :: st) := by
  obtain ⟨p, l, e, R', s, m, args, below, meth, c, Z', k0⟩ := w
  obtain ⟨hx, hby, hml, hown, hZ, hret, hnm, hlk, rfl, rfl, rfl, h00⟩ := K
  obtain ⟨locs, X, eT, N⟩ := H
  obtain ⟨d1, rfl⟩ := d
  obtain ⟨T', h', X', e', W, stp⟩ := putF X hx hZ hown w1 via eT F E (Ly.imp id fun q => ⟨q.1, q.2.1, hnm.trans q.2.2⟩) wi hty hn hf (g := mkF m pc L (v :: .ref a :: st)) rfl rfl (by rw [hby]; exact d1)
  obtain ⟨s₂, o, g1, g2⟩ := G T' h' ⟨_, X', e', Fr.snoc X' N ha⟩ W
  exact ⟨s₂, o, stp _ g1, g2⟩
theorem go_putfieldN {a0 : Array Value} {R0 O f ds C : String} {idx kk : Nat} {a : Addr} {v v' old : Value} {ty : FieldType} (K : Cx w R Z n0 own bytes mx rt nm) (H : At1 w T h k n) (d : Dc bytes pc (.putfield idx) 3 pc') (w1 : (Cond.fieldLink own idx R0 f ds).before a0 Z = true) (via : Via Z R0 O f ds)
    (F : Fld Z h a O f ds old) (E : Exa Z h a C) (Ly : (Cond.lays C O f ds).before a0 Z = true ∨ ((Cond.laysFinal C O f ds).before a0 Z = true ∧ own = O ∧ nm = "<init>")) (wi : (Cond.instantiable C kk).before a0 Z = true)
    (hty : parseFieldDescriptor ds = some ty) (hn : narrow ty v = v') (hf : fits ty v' = true) (ha : n0 ≤ a)
    (G : ∀ T' h', At1 w T' h' k n → Wr h h' a (Jvm.RoadKit.slotOf Z O f ds) v' → Go w Q T' pc' L st) : Go w Q T pc L (v :: .ref a :: st) := by
  obtain ⟨p, l, e, R', s, m, args, below, meth, c, Z', k0⟩ := w
  obtain ⟨hx, hby, hml, hown, hZ, hret, hnm, hlk, rfl, rfl, rfl, h00⟩ := K
  obtain ⟨locs, X, eT, N⟩ := H
  obtain ⟨d1, rfl⟩ := d
  obtain ⟨T', h', X', e', W, stp⟩ := putFN X hx hZ hown w1 via eT F E (Ly.imp id fun q => ⟨q.1, q.2.1, hnm.trans q.2.2⟩) wi hty hn hf (g := mkF m pc L (v :: .ref a :: st)) rfl rfl (by rw [hby]; exact d1)
  obtain ⟨s₂, o, g1, g2⟩ := G T' h' ⟨_, X', e', Fr.snoc X' N ha⟩ W
  exact ⟨s₂, o, stp _ g1, g2⟩
theorem go_new {a0 : Array Value} {C : String} {idx sl : Nat} (K : Cx w R Z n0 own bytes mx rt nm) (H : At1 w T h k n) (d : Dc bytes pc (.new idx) 3 pc') (w1 : (Cond.classLink own idx C).before a0 Z = true) (w2 : (Cond.instantiable C sl).before a0 Z = true) (w3 : (Cond.initialized C).before a0 Z = true) (hk : k + 1 ≤ R.cells) (hn : n + sl ≤ R.slots)
    (G : ∀ T' h' a, At1 w T' h' (k + 1) (n + sl) → a = h.size → n0 ≤ a → Ext h h' → Exa Z h' a C → (∀ {O f ds : String} {ty : FieldType}, Laid Z a0 C O f ds → parseFieldDescriptor ds = some ty → Fld Z h' a O f ds (defaultValue ty)) → Go w Q T' pc' L (.ref a :: st)) : Go w Q T pc L st := by
  obtain ⟨p, l, e, R', s, m, args, below, meth, c, Z', k0⟩ := w
  obtain ⟨hx, hby, hml, hown, hZ, hret, hnm, hlk, rfl, rfl, rfl, h00⟩ := K
  obtain ⟨locs, X, eT, N⟩ := H
  obtain ⟨d1, rfl⟩ := d
  obtain ⟨T', h', X', e', E, A, D, -, stp⟩ := newO X hx hZ hown w1 w2 w3 eT (g := mkF m pc L st) rfl (by rw [hby]; exact d1) hk hn
  obtain ⟨s₂, o, g1, g2⟩ := G T' h' h.size ⟨_, X', e', N⟩ rfl (by rw [← eT]; exact Nat.le_trans h00 X.same.2.1) E A D
  exact ⟨s₂, o, stp _ g1, g2⟩
theorem go_initO {a0 : Array Value} {idx : Nat} {a : Addr} (K : Cx w R Z n0 own bytes mx rt nm) (H : At1 w T h k n) (d : Dc bytes pc (.invokespecial idx) 3 pc') (w1 : (Cond.methodLink own idx Lib.objectInit).before a0 Z = true) (w2 : (Cond.instanceMethod Lib.objectInit).before a0 Z = true) (w3 : (Cond.code Lib.objectInit ⟨#[0xb1]⟩ 1 none).before a0 Z = true)
    (hL : L.size = mx) (hf : 1 ≤ R.frames) {W : Nat} (hW : (st.map fun v => v.category).sum = W) (hl : W + 12 ≤ R.locals)
    (G : ∀ T', At1 w T' h k n → Go w Q T' pc' L st) : Go w Q T pc L (.ref a :: st) := by
  obtain ⟨p, l, e, R', s, m, args, below, meth, c, Z', k0⟩ := w
  obtain ⟨hx, hby, hml, hown, hZ, hret, hnm, hlk, rfl, rfl, rfl, h00⟩ := K
  obtain ⟨locs, X, eT, N⟩ := H
  obtain ⟨d1, rfl⟩ := d
  obtain ⟨T', X', e', stp⟩ := initO X hx hZ hown w1 w2 w3 eT (g := mkF m pc L (.ref a :: st)) rfl (hL.trans hml.symm) rfl (by rw [hby]; exact d1) hf (W := W) (by show 2 * 0 + _ ≤ _; rw [hW]; omega) hl
  obtain ⟨s₂, o, g1, g2⟩ := G T' ⟨locs, X', e', N⟩
  exact ⟨s₂, o, stp _ g1, g2⟩
/-- an array: all its components -/
def VA (Z : State) (h : Heap) (a : Addr) (ty : FieldType) (vs : List Value) : Prop := ∃ c : Cell, Arr Z h a c ty ∧ c.slots.toList = vs ∧ vs.length < 2 ^ 31
def IA (Z : State) (h : Heap) (a : Addr) (xs : List Int32) : Prop := VA Z h a .int (xs.map Value.int)
def JA (Z : State) (h : Heap) (a : Addr) (xs : List Int64) : Prop := VA Z h a .long (xs.map Value.long)
theorem VA.ext {a : Addr} {ty : FieldType} {vs : List Value} {h' : Heap} (A : VA Z h a ty vs) (E : Ext h h') : VA Z h' a ty vs := by obtain ⟨c, A, r⟩ := A; exact ⟨c, A.ext E, r⟩
theorem VA.other {a b : Addr} {ty : FieldType} {vs : List Value} {h' : Heap} {sl : Nat} {v : Value} (A : VA Z h a ty vs) (W : Wr h h' b sl v) (q : a ≠ b) : VA Z h' a ty vs := by obtain ⟨c, A, r⟩ := A; exact ⟨c, A.other W q, r⟩
theorem VA.keep {a : Addr} {ty : FieldType} {vs : List Value} {h' : Heap} {ws : List Addr} (A : VA Z h a ty vs) (K : Keep h h' ws) (q : a ∉ ws) : VA Z h' a ty vs := by obtain ⟨c, A, r⟩ := A; exact ⟨c, ⟨K.2.1 a c A.1 q, A.2⟩, r⟩
theorem VA.lt {a : Addr} {ty : FieldType} {vs : List Value} (A : VA Z h a ty vs) : a < h.size := by obtain ⟨c, A, r⟩ := A; exact A.lt
theorem VA.len {a : Addr} {ty : FieldType} {vs : List Value} (A : VA Z h a ty vs) : vs.length < 2 ^ 31 := by obtain ⟨c, A, r1, r2⟩ := A; exact r2
theorem VA.set {a : Addr} {ty : FieldType} {vs : List Value} {h' : Heap} {i : Nat} {v : Value} (A : VA Z h a ty vs) (W : Wr h h' a i v) : VA Z h' a ty (vs.set i v) := by
  obtain ⟨c, A, r1, r2⟩ := A
  exact ⟨_, A.same W, by simp [Cell.setSlot, r1], by simpa using r2⟩
theorem IA.ext {a : Addr} {xs : List Int32} {h' : Heap} (A : IA Z h a xs) (E : Ext h h') : IA Z h' a xs := VA.ext A E
theorem IA.other {a b : Addr} {xs : List Int32} {h' : Heap} {sl : Nat} {v : Value} (A : IA Z h a xs) (W : Wr h h' b sl v) (q : a ≠ b) : IA Z h' a xs := VA.other A W q
theorem IA.keep {a : Addr} {xs : List Int32} {h' : Heap} {ws : List Addr} (A : IA Z h a xs) (K : Keep h h' ws) (q : a ∉ ws) : IA Z h' a xs := VA.keep A K q
theorem IA.lt {a : Addr} {xs : List Int32} (A : IA Z h a xs) : a < h.size := VA.lt A
theorem IA.len {a : Addr} {xs : List Int32} (A : IA Z h a xs) : xs.length < 2 ^ 31 := by simpa using VA.len A
theorem IA.set {a : Addr} {xs : List Int32} {h' : Heap} {i : Nat} {x : Int32} (A : IA Z h a xs) (W : Wr h h' a i (.int x)) : IA Z h' a (xs.set i x) := by
  have q := VA.set A W
  rw [← List.map_set] at q; exact q
theorem JA.ext {a : Addr} {xs : List Int64} {h' : Heap} (A : JA Z h a xs) (E : Ext h h') : JA Z h' a xs := VA.ext A E
theorem JA.other {a b : Addr} {xs : List Int64} {h' : Heap} {sl : Nat} {v : Value} (A : JA Z h a xs) (W : Wr h h' b sl v) (q : a ≠ b) : JA Z h' a xs := VA.other A W q
theorem JA.keep {a : Addr} {xs : List Int64} {h' : Heap} {ws : List Addr} (A : JA Z h a xs) (K : Keep h h' ws) (q : a ∉ ws) : JA Z h' a xs := VA.keep A K q
theorem JA.lt {a : Addr} {xs : List Int64} (A : JA Z h a xs) : a < h.size := VA.lt A
theorem JA.len {a : Addr} {xs : List Int64} (A : JA Z h a xs) : xs.length < 2 ^ 31 := by simpa using VA.len A
theorem JA.set {a : Addr} {xs : List Int64} {h' : Heap} {i : Nat} {x : Int64} (A : JA Z h a xs) (W : Wr h h' a i (.long x)) : JA Z h' a (xs.set i x) := by
  have q := VA.set A W
  rw [← List.map_set] at q; exact q
theorem idx_nat {j : Int32} {i : Nat} (hj : j.toInt = (i : Int)) : ¬ j < 0 ∧ j.toNatClampNeg = i := by
  constructor
  · rw [Int32.lt_iff_toInt_lt, hj]; show ¬ ((i : Int) < 0); omega
  · simp only [Int32.toNatClampNeg, hj]; omega
theorem slot_at {c : Cell} {vs : List Value} {i : Nat} {v : Value} (r : c.slots.toList = vs) (hi : vs[i]? = some v) : c.slots[i]? = some v := by rw [← Array.getElem?_toList, r]; exact hi
theorem inb_at {c : Cell} {vs : List Value} {j : Int32} {i : Nat} (r : c.slots.toList = vs) (hj : j.toInt = (i : Int)) (hi : i < vs.length) : ¬ (j < 0 ∨ c.slots.size ≤ j.toNatClampNeg) := by
  obtain ⟨h1, h2⟩ := idx_nat hj
  have e : c.slots.size = vs.length := by rw [← r]; simp
  rw [h2, e]
  rintro (q | q)
  · exact h1 q
  · omega
theorem lt_of_at {α : Type} {vs : List α} {i : Nat} {v : α} (hi : vs[i]? = some v) : i < vs.length := (List.getElem?_eq_some_iff.mp hi).1
theorem go_newarray {a0 : Array Value} {aty : ArrayType} {m : Int32} (cap : Nat) (K : Cx w R Z n0 own bytes mx rt nm) (H : At1 w T h k n) (d : Dc bytes pc (.newarray aty) 2 pc') (w1 : (Cond.arrayClass (newarray.typeOf aty)).before a0 Z = true) (hm : ¬ m < 0) (hcap : m.toNatClampNeg ≤ cap) (hb : cap * 8 ≤ 536870912) (hk : k + 1 ≤ R.cells) (hn : n + cap ≤ R.slots)
    (G : ∀ T' h' a, At1 w T' h' (k + 1) (n + cap) → a = h.size → n0 ≤ a → Ext h h' → VA Z h' a (newarray.typeOf aty) (List.replicate m.toNatClampNeg (defaultValue (newarray.typeOf aty))) → Go w Q T' pc' L (.ref a :: st)) : Go w Q T pc L (.int m :: st) := by
  obtain ⟨p, l, e, R', s, mm, args, below, meth, c, Z', k0⟩ := w
  obtain ⟨hx, hby, hml, hown, hZ, hret, hnm, hlk, rfl, rfl, rfl, h00⟩ := K
  obtain ⟨locs, X, eT, N⟩ := H
  obtain ⟨d1, rfl⟩ := d
  obtain ⟨T', h', cA, X', e', E, A, stp⟩ := newP X hx hZ w1 eT (g := mkF mm pc L (.int m :: st)) rfl (by rw [hby]; exact d1) rfl hm hcap hb hk hn
  obtain ⟨s₂, o, g1, g2⟩ := G T' h' h.size ⟨_, X', e', N⟩ rfl (by rw [← eT]; exact Nat.le_trans h00 X.same.2.1) E ⟨_, A, by simp [newA], by simpa using (back32 hm).2⟩
  exact ⟨s₂, o, stp _ g1, g2⟩
theorem go_arraylength {a : Addr} {ty : FieldType} {vs : List Value} (K : Cx w R Z n0 own bytes mx rt nm) (H : At1 w T h k n) (d : Dc bytes pc .arraylength 1 pc') (A : VA Z h a ty vs) (G : ∀ z : Int32, z.toInt = (vs.length : Int) → Go w Q T pc' L (.int z :: st)) : Go w Q T pc L (.ref a :: st) := by
  obtain ⟨p, l, e, R', s, m, args, below, meth, c, Z', k0⟩ := w
  obtain ⟨hx, hby, hml, hown, hZ, -⟩ := K
  obtain ⟨locs, X, eT, N⟩ := H
  obtain ⟨d1, rfl⟩ := d
  obtain ⟨cl, A, r1, r2⟩ := A
  have e : cl.slots.size = vs.length := by rw [← r1]; simp
  obtain ⟨s₂, o, g1, g2⟩ := G cl.slots.size.toInt32 (by rw [e]; exact len_toInt r2)
  exact ⟨s₂, o, X.arraylength hx (by rw [eT]; exact A.1) (State.isArrayOf_alike hZ.alike A.2.1) (g := mkF m pc L (.ref a :: st)) rfl rfl (by rw [hby]; exact d1) _ g1, g2⟩
theorem go_iaload {a : Addr} {vs : List Value} {j : Int32} (i : Nat) {v : Value} (K : Cx w R Z n0 own bytes mx rt nm) (H : At1 w T h k n) (d : Dc bytes pc .iaload 1 pc') (A : VA Z h a .int vs) (hj : j.toInt = (i : Int)) (hi : vs[i]? = some v) (G : Go w Q T pc' L (v :: st)) : Go w Q T pc L (.int j :: .ref a :: st) := by
  obtain ⟨p, l, e, R', s, m, args, below, meth, c, Z', k0⟩ := w
  obtain ⟨hx, hby, hml, hown, hZ, -⟩ := K
  obtain ⟨locs, X, eT, N⟩ := H
  obtain ⟨d1, rfl⟩ := d
  obtain ⟨cl, A, r1, r2⟩ := A
  obtain ⟨s₂, o, g1, g2⟩ := G
  exact ⟨s₂, o, X.iaload hx (by rw [eT]; exact A.1) (State.isArrayOf_alike hZ.alike A.2.1) A.2.2 (inb_at r1 hj (lt_of_at hi)) (by rw [(idx_nat hj).2]; exact slot_at r1 hi) (g := mkF m pc L (.int j :: .ref a :: st)) rfl rfl (by rw [hby]; exact d1) _ g1, g2⟩
theorem go_laload {a : Addr} {vs : List Value} {j : Int32} (i : Nat) {v : Value} (K : Cx w R Z n0 own bytes mx rt nm) (H : At1 w T h k n) (d : Dc bytes pc .laload 1 pc') (A : VA Z h a .long vs) (hj : j.toInt = (i : Int)) (hi : vs[i]? = some v) (G : Go w Q T pc' L (v :: st)) : Go w Q T pc L (.int j :: .ref a :: st) := by
  obtain ⟨p, l, e, R', s, m, args, below, meth, c, Z', k0⟩ := w
  obtain ⟨hx, hby, hml, hown, hZ, -⟩ := K
  obtain ⟨locs, X, eT, N⟩ := H
  obtain ⟨d1, rfl⟩ := d
  obtain ⟨cl, A, r1, r2⟩ := A
  obtain ⟨s₂, o, g1, g2⟩ := G
  exact ⟨s₂, o, X.laload hx (by rw [eT]; exact A.1) (State.isArrayOf_alike hZ.alike A.2.1) A.2.2 (inb_at r1 hj (lt_of_at hi)) (by rw [(idx_nat hj).2]; exact slot_at r1 hi) (g := mkF m pc L (.int j :: .ref a :: st)) rfl rfl (by rw [hby]; exact d1) _ g1, g2⟩
theorem go_caload {a : Addr} {vs : List Value} {j : Int32} (i : Nat) {v : Value} (K : Cx w R Z n0 own bytes mx rt nm) (H : At1 w T h k n) (d : Dc bytes pc .caload 1 pc') (A : VA Z h a .char vs) (hj : j.toInt = (i : Int)) (hi : vs[i]? = some v) (G : Go w Q T pc' L (v :: st)) : Go w Q T pc L (.int j :: .ref a :: st) := by
  obtain ⟨p, l, e, R', s, m, args, below, meth, c, Z', k0⟩ := w
  obtain ⟨hx, hby, hml, hown, hZ, -⟩ := K
  obtain ⟨locs, X, eT, N⟩ := H
  obtain ⟨d1, rfl⟩ := d
  obtain ⟨cl, A, r1, r2⟩ := A
  obtain ⟨s₂, o, g1, g2⟩ := G
  exact ⟨s₂, o, X.caload hx (by rw [eT]; exact A.1) (State.isArrayOf_alike hZ.alike A.2.1) A.2.2 (inb_at r1 hj (lt_of_at hi)) (by rw [(idx_nat hj).2]; exact slot_at r1 hi) (g := mkF m pc L (.int j :: .ref a :: st)) rfl rfl (by rw [hby]; exact d1) _ g1, g2⟩
theorem go_baload {a : Addr} {vs : List Value} {j : Int32} (i : Nat) {v : Value} (K : Cx w R Z n0 own bytes mx rt nm) (H : At1 w T h k n) (d : Dc bytes pc .baload 1 pc') (A : VA Z h a .byte vs) (hj : j.toInt = (i : Int)) (hi : vs[i]? = some v) (G : Go w Q T pc' L (v :: st)) : Go w Q T pc L (.int j :: .ref a :: st) := by
  obtain ⟨p, l, e, R', s, m, args, below, meth, c, Z', k0⟩ := w
  obtain ⟨hx, hby, hml, hown, hZ, -⟩ := K
  obtain ⟨locs, X, eT, N⟩ := H
  obtain ⟨d1, rfl⟩ := d
  obtain ⟨cl, A, r1, r2⟩ := A
  obtain ⟨s₂, o, g1, g2⟩ := G
  exact ⟨s₂, o, X.baloadBytes hx (by rw [eT]; exact A.1) (State.isArrayOf_alike hZ.alike A.2.1) A.2.2 (inb_at r1 hj (lt_of_at hi)) (by rw [(idx_nat hj).2]; exact slot_at r1 hi) (g := mkF m pc L (.int j :: .ref a :: st)) rfl rfl (by rw [hby]; exact d1) _ g1, g2⟩
theorem go_aaload {a : Addr} {ty : FieldType} {vs : List Value} {j : Int32} (i : Nat) {v : Value} (K : Cx w R Z n0 own bytes mx rt nm) (H : At1 w T h k n) (d : Dc bytes pc .aaload 1 pc') (A : VA Z h a ty vs) (hty : ty.isReference = true) (hj : j.toInt = (i : Int)) (hi : vs[i]? = some v) (G : Go w Q T pc' L (v :: st)) : Go w Q T pc L (.int j :: .ref a :: st) := by
  obtain ⟨p, l, e, R', s, m, args, below, meth, c, Z', k0⟩ := w
  obtain ⟨hx, hby, hml, hown, hZ, -⟩ := K
  obtain ⟨locs, X, eT, N⟩ := H
  obtain ⟨d1, rfl⟩ := d
  obtain ⟨cl, A, r1, r2⟩ := A
  obtain ⟨s₂, o, g1, g2⟩ := G
  exact ⟨s₂, o, X.aaload hx (by rw [eT]; exact A.1) (State.isArrayOf_alike hZ.alike A.2.1) hty A.2.2 (inb_at r1 hj (lt_of_at hi)) (by rw [(idx_nat hj).2]; exact slot_at r1 hi) (g := mkF m pc L (.int j :: .ref a :: st)) rfl rfl (by rw [hby]; exact d1) _ g1, g2⟩
theorem go_iastore {a : Addr} {vs : List Value} {j : Int32} {x : Int32} (i : Nat) (K : Cx w R Z n0 own bytes mx rt nm) (H : At1 w T h k n) (d : Dc bytes pc .iastore 1 pc') (A : VA Z h a .int vs) (hj : j.toInt = (i : Int)) (hi : i < vs.length) (ha : n0 ≤ a) (G : ∀ T' h', At1 w T' h' k n → Wr h h' a i (.int x) → Go w Q T' pc' L st) : Go w Q T pc L (.int x :: .int j :: .ref a :: st) := by
  obtain ⟨p, l, e, R', s, m, args, below, meth, c, Z', k0⟩ := w
  obtain ⟨hx, hby, hml, hown, hZ, hret, hnm, hlk, rfl, rfl, rfl, h00⟩ := K
  obtain ⟨locs, X, eT, N⟩ := H
  obtain ⟨d1, rfl⟩ := d
  obtain ⟨cl, A, r1, r2⟩ := A
  obtain ⟨T', h', X', e', W, stp⟩ := stI X hx hZ eT A (inb_at r1 hj hi) (g := mkF m pc L (.int x :: .int j :: .ref a :: st)) rfl rfl (by rw [hby]; exact d1)
  obtain ⟨s₂, o, g1, g2⟩ := G T' h' ⟨_, X', e', Fr.snoc X' N ha⟩ (by rw [← (idx_nat hj).2]; exact W)
  exact ⟨s₂, o, stp _ g1, g2⟩
theorem go_lastore {a : Addr} {vs : List Value} {j : Int32} {x : Int64} (i : Nat) (K : Cx w R Z n0 own bytes mx rt nm) (H : At1 w T h k n) (d : Dc bytes pc .lastore 1 pc') (A : VA Z h a .long vs) (hj : j.toInt = (i : Int)) (hi : i < vs.length) (ha : n0 ≤ a) (G : ∀ T' h', At1 w T' h' k n → Wr h h' a i (.long x) → Go w Q T' pc' L st) : Go w Q T pc L (.long x :: .int j :: .ref a :: st) := by
  obtain ⟨p, l, e, R', s, m, args, below, meth, c, Z', k0⟩ := w
  obtain ⟨hx, hby, hml, hown, hZ, hret, hnm, hlk, rfl, rfl, rfl, h00⟩ := K
  obtain ⟨locs, X, eT, N⟩ := H
  obtain ⟨d1, rfl⟩ := d
  obtain ⟨cl, A, r1, r2⟩ := A
  obtain ⟨T', h', X', e', W, stp⟩ := stJ X hx hZ eT A (inb_at r1 hj hi) (g := mkF m pc L (.long x :: .int j :: .ref a :: st)) rfl rfl (by rw [hby]; exact d1)
  obtain ⟨s₂, o, g1, g2⟩ := G T' h' ⟨_, X', e', Fr.snoc X' N ha⟩ (by rw [← (idx_nat hj).2]; exact W)
  exact ⟨s₂, o, stp _ g1, g2⟩
theorem go_castore {a : Addr} {vs : List Value} {j : Int32} {x : Int32} (i : Nat) (K : Cx w R Z n0 own bytes mx rt nm) (H : At1 w T h k n) (d : Dc bytes pc .castore 1 pc') (A : VA Z h a .char vs) (hj : j.toInt = (i : Int)) (hi : i < vs.length) (ha : n0 ≤ a) (G : ∀ T' h', At1 w T' h' k n → Wr h h' a i (.int (nar .char x)) → Go w Q T' pc' L st) : Go w Q T pc L (.int x :: .int j :: .ref a :: st) := by
  obtain ⟨p, l, e, R', s, m, args, below, meth, c, Z', k0⟩ := w
  obtain ⟨hx, hby, hml, hown, hZ, hret, hnm, hlk, rfl, rfl, rfl, h00⟩ := K
  obtain ⟨locs, X, eT, N⟩ := H
  obtain ⟨d1, rfl⟩ := d
  obtain ⟨cl, A, r1, r2⟩ := A
  obtain ⟨T', h', X', e', W, stp⟩ := stC X hx hZ eT A (inb_at r1 hj hi) (g := mkF m pc L (.int x :: .int j :: .ref a :: st)) rfl rfl (by rw [hby]; exact d1)
  obtain ⟨s₂, o, g1, g2⟩ := G T' h' ⟨_, X', e', Fr.snoc X' N ha⟩ (by rw [← (idx_nat hj).2]; exact W)
  exact ⟨s₂, o, stp _ g1, g2⟩
theorem go_bastore {a : Addr} {vs : List Value} {j : Int32} {x : Int32} (i : Nat) (K : Cx w R Z n0 own bytes mx rt nm) (H : At1 w T h k n) (d : Dc bytes pc .bastore 1 pc') (A : VA Z h a .byte vs) (hj : j.toInt = (i : Int)) (hi : i < vs.length) (ha : n0 ≤ a) (G : ∀ T' h', At1 w T' h' k n → Wr h h' a i (.int x.toInt8.toInt32) → Go w Q T' pc' L st) : Go w Q T pc L (.int x :: .int j :: .ref a :: st) := by
  obtain ⟨p, l, e, R', s, m, args, below, meth, c, Z', k0⟩ := w
  obtain ⟨hx, hby, hml, hown, hZ, hret, hnm, hlk, rfl, rfl, rfl, h00⟩ := K
  obtain ⟨locs, X, eT, N⟩ := H
  obtain ⟨d1, rfl⟩ := d
  obtain ⟨cl, A, r1, r2⟩ := A
  obtain ⟨T', h', X', e', W, stp⟩ := stB X hx hZ eT A (inb_at r1 hj hi) (g := mkF m pc L (.int x :: .int j :: .ref a :: st)) rfl rfl (by rw [hby]; exact d1)
  obtain ⟨s₂, o, g1, g2⟩ := G T' h' ⟨_, X', e', Fr.snoc X' N ha⟩ (by rw [← (idx_nat hj).2]; exact W)
  exact ⟨s₂, o, stp _ g1, g2⟩
theorem at_nat {α : Type} {xs : List α} {j : Int32} (h0 : 0 ≤ j.toInt) (h1 : j.toInt < xs.length) : ∃ (i : Nat) (x : α), j.toInt = (i : Int) ∧ xs[i]? = some x :=
  ⟨j.toInt.toNat, _, (Int.toNat_of_nonneg h0).symm, List.getElem?_eq_getElem (by omega)⟩
theorem go_iaI {a : Addr} {xs : List Int32} {j : Int32} (K : Cx w R Z n0 own bytes mx rt nm) (H : At1 w T h k n) (d : Dc bytes pc .iaload 1 pc') (A : IA Z h a xs) (h0 : 0 ≤ j.toInt) (h1 : j.toInt < xs.length) (G : ∀ (i : Nat) (x : Int32), j.toInt = (i : Int) → xs[i]? = some x → Go w Q T pc' L (.int x :: st)) : Go w Q T pc L (.int j :: .ref a :: st) := by
  obtain ⟨i, x, e, hx⟩ := at_nat h0 h1
  exact go_iaload i K H d A e (by rw [List.getElem?_map, hx]; rfl) (G i x e hx)
theorem go_laJ {a : Addr} {xs : List Int64} {j : Int32} (K : Cx w R Z n0 own bytes mx rt nm) (H : At1 w T h k n) (d : Dc bytes pc .laload 1 pc') (A : JA Z h a xs) (h0 : 0 ≤ j.toInt) (h1 : j.toInt < xs.length) (G : ∀ (i : Nat) (x : Int64), j.toInt = (i : Int) → xs[i]? = some x → Go w Q T pc' L (.long x :: st)) : Go w Q T pc L (.int j :: .ref a :: st) := by
  obtain ⟨i, x, e, hx⟩ := at_nat h0 h1
  exact go_laload i K H d A e (by rw [List.getElem?_map, hx]; rfl) (G i x e hx)
theorem go_iasI {a : Addr} {xs : List Int32} {j x : Int32} (K : Cx w R Z n0 own bytes mx rt nm) (H : At1 w T h k n) (d : Dc bytes pc .iastore 1 pc') (A : IA Z h a xs) (h0 : 0 ≤ j.toInt) (h1 : j.toInt < xs.length) (ha : n0 ≤ a) (G : ∀ T' h' (i : Nat), At1 w T' h' k n → j.toInt = (i : Int) → Wr h h' a i (.int x) → IA Z h' a (xs.set i x) → Go w Q T' pc' L st) : Go w Q T pc L (.int x :: .int j :: .ref a :: st) := by
  have e : j.toInt = (j.toInt.toNat : Int) := (Int.toNat_of_nonneg h0).symm
  exact go_iastore j.toInt.toNat K H d A e (by rw [List.length_map]; omega) ha fun T' h' H' W => G T' h' _ H' e W (IA.set A W)
theorem go_lasJ {a : Addr} {xs : List Int64} {j : Int32} {x : Int64} (K : Cx w R Z n0 own bytes mx rt nm) (H : At1 w T h k n) (d : Dc bytes pc .lastore 1 pc') (A : JA Z h a xs) (h0 : 0 ≤ j.toInt) (h1 : j.toInt < xs.length) (ha : n0 ≤ a) (G : ∀ T' h' (i : Nat), At1 w T' h' k n → j.toInt = (i : Int) → Wr h h' a i (.long x) → JA Z h' a (xs.set i x) → Go w Q T' pc' L st) : Go w Q T pc L (.long x :: .int j :: .ref a :: st) := by
  have e : j.toInt = (j.toInt.toNat : Int) := (Int.toNat_of_nonneg h0).symm
  exact go_lastore j.toInt.toNat K H d A e (by rw [List.length_map]; omega) ha fun T' h' H' W => G T' h' _ H' e W (JA.set A W)
/-- an array of references over C: all its components -/
def OA (Z : State) (h : Heap) (a : Addr) (C : String) (vs : List Value) : Prop := ∃ c : Cell, Arr Z h a c (.object C) ∧ c.slots.toList = vs ∧ vs.length < 2 ^ 31 ∧ Ovr Z c.cls C
theorem OA.va {a : Addr} {C : String} {vs : List Value} (A : OA Z h a C vs) : VA Z h a (.object C) vs := by obtain ⟨c, A, r1, r2, -⟩ := A; exact ⟨c, A, r1, r2⟩
theorem OA.ext {a : Addr} {C : String} {vs : List Value} {h' : Heap} (A : OA Z h a C vs) (E : Ext h h') : OA Z h' a C vs := by obtain ⟨c, A, r⟩ := A; exact ⟨c, A.ext E, r⟩
theorem OA.other {a b : Addr} {C : String} {vs : List Value} {h' : Heap} {sl : Nat} {v : Value} (A : OA Z h a C vs) (W : Wr h h' b sl v) (q : a ≠ b) : OA Z h' a C vs := by obtain ⟨c, A, r⟩ := A; exact ⟨c, A.other W q, r⟩
theorem OA.keep {a : Addr} {C : String} {vs : List Value} {h' : Heap} {ws : List Addr} (A : OA Z h a C vs) (K : Keep h h' ws) (q : a ∉ ws) : OA Z h' a C vs := by obtain ⟨c, A, r⟩ := A; exact ⟨c, ⟨K.2.1 a c A.1 q, A.2⟩, r⟩
theorem OA.lt {a : Addr} {C : String} {vs : List Value} (A : OA Z h a C vs) : a < h.size := A.va.lt
theorem OA.set {a : Addr} {C : String} {vs : List Value} {h' : Heap} {i : Nat} {v : Value} (A : OA Z h a C vs) (W : Wr h h' a i v) : OA Z h' a C (vs.set i v) := by
  obtain ⟨c, A, r1, r2, r3⟩ := A
  exact ⟨_, A.same W, by simp [Cell.setSlot, r1], by simpa using r2, r3⟩
theorem go_anewarray {a0 : Array Value} {C : String} {idx : Nat} {m : Int32} (cap : Nat) (K : Cx w R Z n0 own bytes mx rt nm) (H : At1 w T h k n) (d : Dc bytes pc (.anewarray idx) 3 pc') (w1 : (Cond.classLink own idx C).before a0 Z = true) (w2 : (Cond.arrayOver (.object C)).before a0 Z = true) (hm : ¬ m < 0) (hcap : m.toNatClampNeg ≤ cap) (hb : cap * 8 ≤ 536870912) (hk : k + 1 ≤ R.cells) (hn : n + cap ≤ R.slots)
    (G : ∀ T' h' a, At1 w T' h' (k + 1) (n + cap) → a = h.size → n0 ≤ a → Ext h h' → OA Z h' a C (List.replicate m.toNatClampNeg .null) → Go w Q T' pc' L (.ref a :: st)) : Go w Q T pc L (.int m :: st) := by
  obtain ⟨p, l, e, R', s, mm, args, below, meth, c, Z', k0⟩ := w
  obtain ⟨hx, hby, hml, hown, hZ, hret, hnm, hlk, rfl, rfl, rfl, h00⟩ := K
  obtain ⟨locs, X, eT, N⟩ := H
  obtain ⟨d1, rfl⟩ := d
  obtain ⟨T', h', cA, X', e', E, A, O, stp⟩ := newR X hx hZ hown w1 w2 eT (g := mkF mm pc L (.int m :: st)) rfl (by rw [hby]; exact d1) rfl hm hcap hb hk hn
  obtain ⟨s₂, o, g1, g2⟩ := G T' h' h.size ⟨_, X', e', N⟩ rfl (by rw [← eT]; exact Nat.le_trans h00 X.same.2.1) E ⟨_, A, by simp [newA, defaultValue], by simpa using (back32 hm).2, O⟩
  exact ⟨s₂, o, stp _ g1, g2⟩
theorem go_aastore {a : Addr} {C : String} {vs : List Value} {j : Int32} {v : Value} (i : Nat) (K : Cx w R Z n0 own bytes mx rt nm) (H : At1 w T h k n) (d : Dc bytes pc .aastore 1 pc') (A : OA Z h a C vs) (hv : v = .null ∨ ∃ y, v = .ref y ∧ Ins Z h y C true) (hj : j.toInt = (i : Int)) (hi : i < vs.length) (ha : n0 ≤ a) (G : ∀ T' h', At1 w T' h' k n → Wr h h' a i v → OA Z h' a C (vs.set i v) → Go w Q T' pc' L st) : Go w Q T pc L (v :: .int j :: .ref a :: st) := by
  obtain ⟨p, l, e, R', s, m, args, below, meth, c, Z', k0⟩ := w
  obtain ⟨hx, hby, hml, hown, hZ, hret, hnm, hlk, rfl, rfl, rfl, h00⟩ := K
  obtain ⟨locs, X, eT, N⟩ := H
  obtain ⟨d1, rfl⟩ := d
  have A' := A
  obtain ⟨cl, A, r1, r2, r3⟩ := A
  have S : Sto Z' h a v := by
    rcases hv with rfl | ⟨y, rfl, I⟩
    · exact Or.inl rfl
    · exact Sto.of A r3 I
  obtain ⟨T', h', X', e', W, stp⟩ := stR X hx hZ eT A (inb_at r1 hj hi) rfl S (g := mkF m pc L (v :: .int j :: .ref a :: st)) rfl rfl (by rw [hby]; exact d1)
  have W' : Wr h h' a i v := by rw [← (idx_nat hj).2]; exact W
  obtain ⟨s₂, o, g1, g2⟩ := G T' h' ⟨_, X', e', Fr.snoc X' N ha⟩ W' (A'.set W')
  exact ⟨s₂, o, stp _ g1, g2⟩
theorem go_checkcast {a0 : Array Value} {C : String} {idx : Nat} {a : Addr} (K : Cx w R Z n0 own bytes mx rt nm) (H : At1 w T h k n) (d : Dc bytes pc (.checkcast idx) 3 pc') (w1 : (Cond.classLink own idx C).before a0 Z = true) (F : Ins Z h a C true)
    (G : ∀ T', At1 w T' h k n → Go w Q T' pc' L (.ref a :: st)) : Go w Q T pc L (.ref a :: st) := by
  obtain ⟨p, l, e, R', s, m, args, below, meth, c, Z', k0⟩ := w
  obtain ⟨hx, hby, hml, hown, hZ, -⟩ := K
  obtain ⟨locs, X, eT, N⟩ := H
  obtain ⟨d1, rfl⟩ := d
  obtain ⟨T', X', e', stp⟩ := castY X hx hZ hown w1 eT F (g := mkF m pc L (.ref a :: st)) rfl rfl (by rw [hby]; exact d1)
  obtain ⟨s₂, o, g1, g2⟩ := G T' ⟨locs, X', e', N⟩
  exact ⟨s₂, o, stp _ g1, g2⟩
theorem go_instY {a0 : Array Value} {C : String} {idx : Nat} {a : Addr} (K : Cx w R Z n0 own bytes mx rt nm) (H : At1 w T h k n) (d : Dc bytes pc (.instanceof idx) 3 pc') (w1 : (Cond.classLink own idx C).before a0 Z = true) (F : Ins Z h a C true)
    (G : ∀ T', At1 w T' h k n → Go w Q T' pc' L (.int 1 :: st)) : Go w Q T pc L (.ref a :: st) := by
  obtain ⟨p, l, e, R', s, m, args, below, meth, c, Z', k0⟩ := w
  obtain ⟨hx, hby, hml, hown, hZ, -⟩ := K
  obtain ⟨locs, X, eT, N⟩ := H
  obtain ⟨d1, rfl⟩ := d
  obtain ⟨T', X', e', stp⟩ := instY X hx hZ hown w1 eT F (g := mkF m pc L (.ref a :: st)) rfl rfl (by rw [hby]; exact d1)
  obtain ⟨s₂, o, g1, g2⟩ := G T' ⟨locs, X', e', N⟩
  exact ⟨s₂, o, stp _ g1, g2⟩
theorem eqI_v {t : Term} {z : Int32} {args : Array Value} {s : State} (h : (Cond.eq t (.int z)).value args s none s [] = some true) : t.eval args s none [] s = some (.int z) := by
  obtain ⟨x, y, h1, h2, k1, k2⟩ := cmp_v (Or.inl h)
  cases (Term.int_eval z).symm.trans h2
  obtain ⟨q, rfl⟩ := k2
  rw [h1, gotT (Cond.eq_ints h1 h2) h]
theorem len_size {t : Term} {z : Int32} {a : Addr} {c : Cell} {args : Array Value} {s : State} (h : (Term.length t).eval args s none [] s = some (.int z)) (ht : t.eval args s none [] s = some (.ref a)) (hc : s.heap[a]? = some c) : (c.slots.size : Int) = z.toInt := by
  obtain ⟨a', c', e1, e2, e3⟩ := Term.length_spec h
  cases ht.symm.trans e1
  cases hc.symm.trans (State.arrayAt?_spec e2).1
  by_cases q : c.slots.size < 2 ^ 31
  · cases e3; exact (len_toInt q).symm
  · simp [Term.eval, ht, e2, q] at h
theorem elem_val {t : Term} {z : Int32} {a : Addr} {c : Cell} {args : Array Value} {s : State} {j : Int32} (h : (Term.elem t (.int j)).eval args s none [] s = some (.int z)) (ht : t.eval args s none [] s = some (.ref a)) (hc : s.heap[a]? = some c) : c.slots[j.toNatClampNeg]? = some (.int z) := (elem_in h ht (Term.int_eval j) hc).2
theorem go_instNull {idx : Nat} (K : Cx w R Z n0 own bytes mx rt nm) (H : At1 w T h k n) (d : Dc bytes pc (.instanceof idx) 3 pc') (G : Go w Q T pc' L (.int 0 :: st)) : Go w Q T pc L (.null :: st) := by
  obtain ⟨p, l, e, R', s, m, args, below, meth, c, Z', k0⟩ := w
  obtain ⟨hx, hby, -⟩ := K
  obtain ⟨locs, X, eT, N⟩ := H
  obtain ⟨d1, rfl⟩ := d
  obtain ⟨s₂, o, g1, g2⟩ := G
  exact ⟨s₂, o, X.instanceofNull hx (g := mkF m pc L (.null :: st)) rfl rfl (by rw [hby]; exact d1) _ g1, g2⟩
theorem go_instNo {a0 : Array Value} {C C' : String} {idx : Nat} {a : Addr} (K : Cx w R Z n0 own bytes mx rt nm) (H : At1 w T h k n) (d : Dc bytes pc (.instanceof idx) 3 pc') (w1 : (Cond.classLink own idx C).before a0 Z = true) (E : Exa Z h a C') (F : ∃ c t, Z.vm.findClass C' = some c ∧ Z.vm.findClass C = some t ∧ Z.vm.assignable c t = false)
    (G : ∀ T', At1 w T' h k n → Go w Q T' pc' L (.int 0 :: st)) : Go w Q T pc L (.ref a :: st) := by
  obtain ⟨p, l, e, R', s, m, args, below, meth, c, Z', k0⟩ := w
  obtain ⟨hx, hby, hml, hown, hZ, -⟩ := K
  obtain ⟨locs, X, eT, N⟩ := H
  obtain ⟨d1, rfl⟩ := d
  obtain ⟨T', X', e', stp⟩ := instNo X hx hZ hown w1 eT E F (g := mkF m pc L (.ref a :: st)) rfl rfl (by rw [hby]; exact d1)
  obtain ⟨s₂, o, g1, g2⟩ := G T' ⟨locs, X', e', N⟩
  exact ⟨s₂, o, stp _ g1, g2⟩
theorem ns_root {a0 : Array Value} {O C : String} {j : Nat} (w1 : (Cond.noSuperclass O).before a0 Z = true) (wk : (Cond.instantiable C j).before a0 Z = true) (hn : O ≠ C) : NS Z O C := by
  obtain ⟨c, k, h1, h2, h3, -, -⟩ := Cond.noSuperclass_spec w1
  obtain ⟨t, kt, g1, -⟩ := Cond.instantiable_spec wk
  have ne := ids_ne h1 g1 hn
  refine ⟨c, t, h1, g1, fun fuel => ?_⟩
  cases fuel with
  | zero => rfl
  | succ f => simp [Vm.isSubclassAux, ne, h2, h3]
theorem ns_no {a0 : Array Value} {C S C' : String} {j : Nat} (w1 : (Cond.superclass C S).before a0 Z = true) (wk : (Cond.instantiable C' j).before a0 Z = true) (n : NS Z C C') (hn : C ≠ C') : ∃ c t, Z.vm.findClass C = some c ∧ Z.vm.findClass C' = some t ∧ Z.vm.assignable c t = false := by
  obtain ⟨c, t, h0, g0, n3⟩ := n
  obtain ⟨p, k, kp, h1, h2, h3, h4, h5, -, h7⟩ := Cond.superclass_spec h0 w1
  obtain ⟨q, k', g1, g2, g3, g4, -⟩ := Cond.instantiable_spec wk
  cases g0.symm.trans g1
  have ne := ids_ne h0 g0 hn
  refine ⟨c, _, h0, g0, ?_⟩
  show Z.vm.assignableAux (255 + 1) c _ = false
  simp [Vm.assignableAux, ne, h2, g2, h5, g3, (Bool.or_eq_false_iff.mp g4).1, Vm.isSubclass, n3]
theorem VA.arv {a : Addr} {ty : FieldType} {vs : List Value} (A : VA Z h a ty vs) (dv : Value) (hf : ∀ v ∈ vs, fits ty v = true) : ∃ cid, Arv Z h a cid ty (Nat.toInt32 vs.length) vs dv := by
  obtain ⟨c, A, r1, r2⟩ := A
  have hs : c.slots.size = vs.length := by rw [← r1]; simp
  have hn : (Nat.toInt32 vs.length).toNatClampNeg = vs.length := by simp only [Int32.toNatClampNeg, len_toInt r2]; rfl
  refine ⟨c.cls, c, A, rfl, by rw [hn, hs], ?_, fun i hi => ?_, fun i hi => ?_⟩
  · rw [Int32.lt_iff_toInt_lt, len_toInt r2]; show ¬ ((vs.length : Int) < 0); omega
  · rw [hs] at hi
    rw [← Array.getElem?_toList, r1, List.getD_eq_getElem?_getD, List.getElem?_eq_getElem hi]; rfl
  · rw [hs] at hi
    rw [List.getD_eq_getElem?_getD, List.getElem?_eq_getElem hi]; exact hf _ (List.getElem_mem hi)
theorem VA.of_arr {a : Addr} {ty : FieldType} {c : Cell} {vs : List Value} (A : Arr Z h a c ty) (hs : c.slots.size = vs.length) (hl : vs.length < 2 ^ 31) (he : ∀ i, i < vs.length → c.slots[i]? = vs[i]?) : VA Z h a ty vs := by
  refine ⟨c, A, List.ext_getElem? fun i => ?_, hl⟩
  rw [Array.getElem?_toList]
  by_cases q : i < vs.length
  · exact he i q
  · rw [List.getElem?_eq_none (by omega), Array.getElem?_eq_none (by omega)]
theorem VA.of_arv {a : Addr} {ty : FieldType} {cid : ClassId} {z : Int32} {vs : List Value} {dv : Value} (A : Arv Z h a cid ty z vs dv) (hl : vs.length = z.toNatClampNeg) (hz : vs.length < 2 ^ 31) : VA Z h a ty vs := by
  obtain ⟨c, A, -, hs, -, H, -⟩ := A
  refine VA.of_arr A (by rw [hs, hl]) hz fun i hi => ?_
  rw [H i (by rw [hs, ← hl]; exact hi), List.getD_eq_getElem?_getD, List.getElem?_eq_getElem hi]; rfl
theorem go_copyI {a0 : Array Value} {idx : Nat} {a b : Addr} {xs ys : List Int32} {sp dp nn : Int32} (i j l : Nat) (K : Cx w R Z n0 own bytes mx rt nm) (H : At1 w T h k n) (d : Dc bytes pc (.invokestatic idx) 3 pc') (w1 : (Cond.methodLink own idx Jvm.Stand.acN).before a0 Z = true) (w2 : (Cond.native Jvm.Stand.acN).before a0 Z = true) (w3 : (Cond.static Jvm.Stand.acN).before a0 Z = true) (w4 : (Cond.initialized "java/lang/System").before a0 Z = true)
    (A : IA Z h a xs) (B : IA Z h b ys) (e1 : sp.toInt = (i : Int)) (e2 : dp.toInt = (j : Int)) (e3 : nn.toInt = (l : Int)) (b1 : i + l ≤ xs.length) (b2 : j + l ≤ ys.length) (ge : n0 ≤ b) (hL : L.size = mx) (hf : 1 ≤ R.frames) {W : Nat} (hW : (st.map fun v => v.category).sum = W) (hl : W + (nativeFrameWords "java/lang/System" "arraycopy" 5 + 11) ≤ R.locals)
    (G : ∀ T' h', At1 w T' h' k n → Keep h h' [b] → IA Z h' b (ys.take j ++ (xs.drop i).take l ++ ys.drop (j + l)) → Go w Q T' pc' L st) : Go w Q T pc L (.int nn :: .int dp :: .ref b :: .int sp :: .ref a :: st) := by
  obtain ⟨p, l', e, R', s, m, args, below, meth, c, Z', k0⟩ := w
  obtain ⟨hx, hby, hml, hown, hZ, hret, hnm, hlk, rfl, rfl, rfl, h00⟩ := K
  obtain ⟨locs, X, eT, N⟩ := H
  obtain ⟨d1, rfl⟩ := d
  have ft : ∀ (zs : List Int32), ∀ v ∈ zs.map Value.int, fits .int v = true := fun zs v hv => by obtain ⟨y, -, rfl⟩ := List.mem_map.mp hv; rfl
  have la := A.len
  have lb := B.len
  obtain ⟨ca, VA1⟩ := VA.arv A (.int 0) (ft xs)
  obtain ⟨cb, VB1⟩ := VA.arv B (.int 0) (ft ys)
  have la' : (Nat.toInt32 (xs.map Value.int).length).toNatClampNeg = xs.length := by simp only [List.length_map, Int32.toNatClampNeg, len_toInt la]; rfl
  have lb' : (Nat.toInt32 (ys.map Value.int).length).toNatClampNeg = ys.length := by simp only [List.length_map, Int32.toNatClampNeg, len_toInt lb]; rfl
  have hus : ((xs.drop i).take l).map Value.int = (List.range nn.toNatClampNeg).map fun q => (xs.map Value.int).getD (sp.toNatClampNeg + q) (.int 0) := by
    rw [(idx_nat e3).2, (idx_nat e1).2]
    apply List.ext_getElem?
    intro q
    rw [List.getElem?_map, List.getElem?_map]
    by_cases hq : q < l
    · rw [List.getElem?_take_of_lt hq, List.getElem?_drop, List.getElem?_range hq, List.getElem?_eq_getElem (show i + q < xs.length by omega)]
      simp [List.getD_eq_getElem?_getD, List.getElem?_eq_getElem (show i + q < xs.length by omega)]
    · rw [List.getElem?_eq_none (by simp; omega), List.getElem?_eq_none (by simp; omega)]; rfl
  obtain ⟨T', h', L2, X', e', N', K', B', stp⟩ := cpA X hx hZ hown w1 w2 w3 w4 eT VA1 VB1 (Or.inl ⟨rfl, rfl⟩) (idx_nat e1).1 (idx_nat e2).1 (idx_nat e3).1 (by rw [(idx_nat e1).2, (idx_nat e3).2, la']; exact b1) (by rw [(idx_nat e2).2, (idx_nat e3).2, lb']; exact b2) hus (by rw [(idx_nat e2).2, (idx_nat e3).2, List.length_map]; exact b2) N ge (g := mkF m pc L (.int nn :: .int dp :: .ref b :: .int sp :: .ref a :: st)) rfl (hL.trans hml.symm) rfl (by rw [hby]; exact d1) hf (W := W) (by show 2 * 0 + _ ≤ _; rw [hW]; omega) hl
  rw [(idx_nat e2).2, (idx_nat e3).2] at B'
  have B2 : IA Z' h' b (ys.take j ++ (xs.drop i).take l ++ ys.drop (j + l)) := by
    have q := VA.of_arv B' (by rw [lb']; simp; omega) (by simp; omega)
    rw [← List.map_take, ← List.map_drop, ← List.map_append, ← List.map_append] at q
    exact q
  obtain ⟨s₂, o, g1, g2⟩ := G T' h' ⟨_, X', e', N'⟩ K' B2
  exact ⟨s₂, o, stp _ g1, g2⟩
theorem f_iadd {v x y : Int32} (e : v = x + y) : (v.toInt - (x.toInt + y.toInt)) % 4294967296 = 0 := e ▸ c_iadd x y
theorem f_isub {v x y : Int32} (e : v = x - y) : (v.toInt - (x.toInt - y.toInt)) % 4294967296 = 0 := e ▸ c_isub x y
theorem f_imul {v x y : Int32} (e : v = x * y) : (v.toInt - (x.toInt * y.toInt)) % 4294967296 = 0 := e ▸ c_imul x y
theorem f_ineg {v x : Int32} (e : v = -x) : (v.toInt - (-x.toInt)) % 4294967296 = 0 := e ▸ c_ineg x
theorem f_ladd {v x y : Int64} (e : v = x + y) : (v.toInt - (x.toInt + y.toInt)) % 18446744073709551616 = 0 := e ▸ c_ladd x y
theorem f_lsub {v x y : Int64} (e : v = x - y) : (v.toInt - (x.toInt - y.toInt)) % 18446744073709551616 = 0 := e ▸ c_lsub x y
theorem f_lmul {v x y : Int64} (e : v = x * y) : (v.toInt - (x.toInt * y.toInt)) % 18446744073709551616 = 0 := e ▸ c_lmul x y
theorem f_lneg {v x : Int64} (e : v = -x) : (v.toInt - (-x.toInt)) % 18446744073709551616 = 0 := e ▸ c_lneg x
theorem f_l2i {v : Int32} {x : Int64} (e : v = x.toInt32) : (v.toInt - x.toInt) % 4294967296 = 0 := e ▸ c_l2i x
theorem f_i2l {v : Int64} {x : Int32} (e : v = x.toInt64) : v.toInt = x.toInt := e ▸ c_i2l x
theorem f_i2b {v x : Int32} (e : v = x.toInt8.toInt32) : (v.toInt - x.toInt) % 256 = 0 ∧ -128 ≤ v.toInt ∧ v.toInt < 128 := e ▸ c_i2b x
theorem f_i2s {v x : Int32} (e : v = x.toInt16.toInt32) : (v.toInt - x.toInt) % 65536 = 0 ∧ -32768 ≤ v.toInt ∧ v.toInt < 32768 := e ▸ c_i2s x
theorem f_i2c {v x : Int32} (e : v = x.toUInt32.toUInt16.toUInt32.toInt32) : (v.toInt - x.toInt) % 65536 = 0 ∧ 0 ≤ v.toInt ∧ v.toInt < 65536 := e ▸ c_i2c x
theorem f_mask {v x m : Int32} (M : Nat) (k : Nat) (e : v = x &&& m) (hk : k ≤ 31) (hm : m.toBitVec.toNat = 2 ^ k - 1) (hM : 2 ^ k = M) : v.toInt = x.toInt % (M : Nat) := by rw [e, ← hM]; exact c_mask x m k hk hm
theorem f_maskL {v x m : Int64} (M : Nat) (k : Nat) (e : v = x &&& m) (hk : k ≤ 63) (hm : m.toBitVec.toNat = 2 ^ k - 1) (hM : 2 ^ k = M) : v.toInt = x.toInt % (M : Nat) := by rw [e, ← hM]; exact c_maskL x m k hk hm
theorem f_ishr {v x q : Int32} (M : Nat) (k : Nat) (e : v = x >>> (q &&& 31)) (hk : q.toBitVec.toNat % 32 = k) (hM : 2 ^ k = M) : v.toInt = x.toInt / (M : Nat) := by rw [e, ← hM]; exact c_ishr x q k hk
theorem f_ishl {v x q : Int32} (M : Nat) (k : Nat) (e : v = x <<< (q &&& 31)) (hk : q.toBitVec.toNat % 32 = k) (hM : 2 ^ k = M) : (v.toInt - x.toInt * (M : Nat)) % 4294967296 = 0 := by rw [e, ← hM]; exact c_ishl x q k hk
theorem f_iushr {v x q : Int32} (M : Nat) (k : Nat) (e : v = iU x q) (hk : q.toBitVec.toNat % 32 = k) (h0 : 0 < k) (hM : 2 ^ k = M) : v.toInt = (x.toInt % 4294967296) / (M : Nat) := by rw [e, ← hM]; exact c_iushr x q k hk h0
theorem f_lshr {v x : Int64} {q : Int32} (M : Nat) (k : Nat) (e : v = x >>> (q &&& 0x3f).toInt64) (hk : q.toBitVec.toNat % 64 = k) (hM : 2 ^ k = M) : v.toInt = x.toInt / (M : Nat) := by rw [e, ← hM]; exact c_lshr x q k hk
theorem f_lshl {v x : Int64} {q : Int32} (M : Nat) (k : Nat) (e : v = x <<< (q &&& 0x3f).toInt64) (hk : q.toBitVec.toNat % 64 = k) (hM : 2 ^ k = M) : (v.toInt - x.toInt * (M : Nat)) % 18446744073709551616 = 0 := by rw [e, ← hM]; exact c_lshl x q k hk
theorem f_lushr {v x : Int64} {q : Int32} (M : Nat) (k : Nat) (e : v = lU x q) (hk : q.toBitVec.toNat % 64 = k) (h0 : 0 < k) (hM : 2 ^ k = M) : v.toInt = (x.toInt % 18446744073709551616) / (M : Nat) := by rw [e, ← hM]; exact c_lushr x q k hk h0
theorem f_idiv {v x y : Int32} (d : Int) (e : v = x / y) (hy : y.toInt = d) (hd : y ≠ -1) : (0 ≤ x.toInt → v.toInt = x.toInt / d) ∧ (x.toInt < 0 → v.toInt = -((-x.toInt) / d)) := e ▸ c_idiv x y d hy hd
theorem f_irem {v x y : Int32} (d : Int) (e : v = x % y) (hy : y.toInt = d) : (0 ≤ x.toInt → v.toInt = x.toInt % d) ∧ (x.toInt < 0 → v.toInt = -((-x.toInt) % d)) := e ▸ c_irem x y d hy
theorem f_ldiv {v x y : Int64} (d : Int) (e : v = x / y) (hy : y.toInt = d) (hd : y ≠ -1) : (0 ≤ x.toInt → v.toInt = x.toInt / d) ∧ (x.toInt < 0 → v.toInt = -((-x.toInt) / d)) := e ▸ c_ldiv x y d hy hd
theorem f_lrem {v x y : Int64} (d : Int) (e : v = x - (x / y) * y) (hy : y.toInt = d) : (0 ≤ x.toInt → v.toInt = x.toInt % d) ∧ (x.toInt < 0 → v.toInt = -((-x.toInt) % d)) := e ▸ c_lrem x y d hy
theorem f_lcmp {v : Int32} {x y : Int64} (e : v = lcmpW x y) : (x.toInt < y.toInt → v.toInt = -1) ∧ (x.toInt = y.toInt → v.toInt = 0) ∧ (y.toInt < x.toInt → v.toInt = 1) := e ▸ c_lcmp x y
def bI (p : Prop) [Decidable p] : Int32 := if p then 1 else 0
theorem bI_t {p : Prop} [Decidable p] (h : p) : bI p = 1 := if_pos h
theorem bI_f {p : Prop} [Decidable p] (h : ¬ p) : bI p = 0 := if_neg h
theorem bI_nar {p : Prop} [Decidable p] : nar .boolean (bI p) = bI p := by unfold bI; split <;> decide
theorem bI_iff {p q : Prop} [Decidable p] [Decidable q] (h : p ↔ q) : bI p = bI q := by simp [bI, h]
theorem bI_eq0 {p : Prop} [Decidable p] : bI p = 0 ↔ ¬ p := by unfold bI; split <;> simp_all
theorem bI_eq1 {p : Prop} [Decidable p] : bI p = 1 ↔ p := by unfold bI; split <;> simp_all
theorem cat_ref {v : Value} (h : v.isRef = true) : v.category = 1 := by cases v <;> first | rfl | cases h
theorem bI_inj {p q : Prop} [Decidable p] [Decidable q] : bI p = bI q ↔ (p ↔ q) := by unfold bI; split <;> split <;> simp_all
theorem bI_ne0 {p : Prop} [Decidable p] : ¬ bI p = 0 ↔ p := by unfold bI; split <;> simp_all
theorem go_lookupHit (K : Cx w R Z n0 own bytes mx rt nm) (H : At1 w T h k n) {x : Int32} {df b off : Int} {ps : Array (Int × Int)} {q yes : Nat} (d : Dc bytes pc (.lookupswitch df ps) q pc') (hs : (ps.toList.zip (ps.toList.drop 1)).all (fun (a, next) => a.1 < next.1) = true) (hf : ps.find? (·.1 == x.toInt) = some (b, off)) (hy0 : 0 ≤ (pc : Int) + off) (hy : ((pc : Int) + off).toNat = yes)
    (G1 : Go w Q T yes L st) : Go w Q T pc L (.int x :: st) := by
  obtain ⟨p, l, e, R', s, m, args, below, meth, c, Z', k0⟩ := w
  obtain ⟨hx, hby, -⟩ := K
  obtain ⟨locs, X, -⟩ := H
  subst hy
  obtain ⟨s₂, o, g1, g2⟩ := G1
  exact ⟨s₂, o, X.lookupswitchHit hx (g := mkF m pc L (.int x :: st)) rfl rfl (by rw [hby]; exact d.1) hs hf hy0 _ g1, g2⟩
theorem go_lookup (K : Cx w R Z n0 own bytes mx rt nm) (H : At1 w T h k n) {x : Int32} {df off : Int} {ps : Array (Int × Int)} {q yes no : Nat} (d : Dc bytes pc (.lookupswitch df ps) q pc') (hs : (ps.toList.zip (ps.toList.drop 1)).all (fun (a, next) => a.1 < next.1) = true) (hall : ∀ p ∈ ps.toList, p.2 = off) (hy0 : 0 ≤ (pc : Int) + off) (hy : ((pc : Int) + off).toNat = yes) (hn0 : 0 ≤ (pc : Int) + df) (hn : ((pc : Int) + df).toNat = no)
    (G1 : x.toInt ∈ ps.toList.map (·.1) → Go w Q T yes L st) (G2 : x.toInt ∉ ps.toList.map (·.1) → Go w Q T no L st) : Go w Q T pc L (.int x :: st) := by
  obtain ⟨p, l, e, R', s, m, args, below, meth, c, Z', k0⟩ := w
  obtain ⟨hx, hby, -⟩ := K
  obtain ⟨locs, X, -⟩ := H
  subst hy hn
  cases hf : ps.find? (·.1 == x.toInt) with
  | none =>
    have : x.toInt ∉ ps.toList.map (·.1) := by
      intro hm
      obtain ⟨a, ha, e⟩ := List.mem_map.mp hm
      have := Array.find?_eq_none.mp hf a (Array.mem_toList_iff.mp ha)
      simp [e] at this
    obtain ⟨s₂, o, g1, g2⟩ := G2 this
    exact ⟨s₂, o, X.lookupswitchMiss hx (g := mkF m pc L (.int x :: st)) rfl rfl (by rw [hby]; exact d.1) hs hf hn0 _ g1, g2⟩
  | some a =>
    obtain ⟨b, off'⟩ := a
    have hm := Array.mem_toList_iff.mpr (Array.mem_of_find?_eq_some hf)
    have hb : b = x.toInt := by simpa using Array.find?_some hf
    obtain rfl : off' = off := hall _ hm
    obtain ⟨s₂, o, g1, g2⟩ := G1 (List.mem_map.mpr ⟨_, hm, hb⟩)
    exact ⟨s₂, o, X.lookupswitchHit hx (g := mkF m pc L (.int x :: st)) rfl rfl (by rw [hby]; exact d.1) hs hf hy0 _ g1, g2⟩
theorem con_back {l : Launch} {p : Program} {e : Env} {s : State} {args : Array Value} {below : List Frame} {a0 : Array Value} {y : MethodName} {yb : ByteArray} {ym : Nat} {yr : Option FieldType} {rm : Room} {as' : Array Value} {P : Option Value → Heap → Prop} {len W : Nat}
    (C : Con l Z y yb ym yr rm as' h n0 P) (hZ : Z.Warmed39 s.vm) (wc : (Cond.code y yb ym yr).before a0 Z = true) (wz : (Cond.initialized y.cls).before a0 Z = true) (hf : rm.frames + 1 ≤ R.frames) (hl : W + (ym + 11) + rm.locals ≤ R.locals) :
    Back l R p e below s args y len W (fun A a => a = as' ∧ A.U.heap = h ∧ A.cells + rm.cells ≤ R.cells ∧ A.slots + rm.slots ≤ R.slots)
      (fun A _ v B => ∃ Lc, (P v B.U.heap ∧ Fr n0 Lc) ∧ B.locs = A.locs ++ Lc ∧ B.cells = A.cells + rm.cells ∧ B.slots = A.slots + rm.slots) :=
  backOf (Q := fun v hh Lc => P v hh ∧ Fr n0 Lc) (C []) hZ wc wz hf hl
theorem at_size (K : Cx w R Z n0 own bytes mx rt nm) (H : At1 w T h k n) : n0 ≤ h.size := by
  obtain ⟨p, l, e, R', s, m, args, below, meth, c, Z', k0⟩ := w
  obtain ⟨hx, hby, hml, hown, hZ, hret, hnm, hlk, rfl, rfl, rfl, h00⟩ := K
  obtain ⟨locs, X, eT, N⟩ := H
  rw [← eT]; exact Nat.le_trans h00 X.same.2.1
theorem go_callS {a0 : Array Value} {idx : Nat} {y : MethodName} {yb : ByteArray} {ym : Nat} {yr : Option FieldType} {rm : Room} {P : Option Value → Heap → Prop} {ps : List FieldType} {rr : Option FieldType} (argsL : List Value)
    (K : Cx w R Z n0 own bytes mx rt nm) (H : At1 w T h k n) (d : Dc bytes pc (.invokestatic idx) 3 pc') (w1 : (Cond.methodLink own idx y).before a0 Z = true) (w2 : (Cond.static y).before a0 Z = true) (w3 : (Cond.initialized y.cls).before a0 Z = true) (w4 : (Cond.code y yb ym yr).before a0 Z = true)
    (hy : y.cls ≠ "java/lang/invoke/MethodHandle" ∧ y.cls ≠ "java/lang/invoke/VarHandle") (C : ∀ l, Con l Z y yb ym yr rm argsL.toArray h n0 P) (hd : parseMethodDescriptor y.desc = some ⟨ps, rr⟩) (hlen : argsL.length = ps.length) (hs : st = argsL.reverse ++ st')
    (hL : L.size = mx) (hf : rm.frames + 1 ≤ R.frames) {W : Nat} (hW : (st'.map fun v => v.category).sum = W) (hl : W + (ym + 11) + rm.locals ≤ R.locals) (hk : k + rm.cells ≤ R.cells) (hn : n + rm.slots ≤ R.slots)
    (G : ∀ T' h' v, At1 w T' h' (k + rm.cells) (n + rm.slots) → P v h' → Go w Q T' pc' L (v.toList ++ st')) : Go w Q T pc L st := by
  obtain ⟨p, l, e, R', s, m, args, below, meth, c, Z', k0⟩ := w
  obtain ⟨hx, hby, hml, hown, hZ, hret, hnm, hlk, rfl, rfl, rfl, h00⟩ := K
  obtain ⟨locs, X, eT, N⟩ := H
  obtain ⟨d1, rfl⟩ := d
  obtain ⟨v, vm₁, ⟨T', L1, k1, n1⟩, -, X', ⟨Lc, ⟨hQ, N'⟩, l1, y1, z1⟩, stp⟩ := Jvm.LawKit.callS X hx (y := y) hown (mvT hZ w1) (mvT hZ w2) (mvT hZ w3) (mvT hZ w4) hy (con_back (W := W) (C l) hZ w4 w3 hf hl) (g := mkF m pc L st) rfl (hL.trans hml.symm) (argsL := argsL) (rest := st') (lenOf hd hlen) hs (by show 2 * 0 + _ ≤ _; rw [hW]; omega) (by rw [hby]; exact d1) (fun _ _ => ⟨rfl, eT, hk, hn⟩)
  dsimp only [Pt.U, Pt.locs, Pt.cells, Pt.slots] at X' l1 y1 z1 stp hQ
  subst l1 y1 z1
  obtain ⟨s₂, o, g1, g2⟩ := G T' T'.heap v ⟨_, X', rfl, Fr.app N N'⟩ hQ
  exact ⟨s₂, o, stp _ g1, g2⟩
theorem go_callI {a0 : Array Value} {idx : Nat} {y : MethodName} {yb : ByteArray} {ym : Nat} {rm : Room} {P : Option Value → Heap → Prop} {ps : List FieldType} {rr : Option FieldType} {a : Addr} (argsL : List Value)
    (K : Cx w R Z n0 own bytes mx rt nm) (H : At1 w T h k n) (d : Dc bytes pc (.invokespecial idx) 3 pc') (hy1 : y.name = "<init>") (w1 : (Cond.methodLink own idx y).before a0 Z = true) (w2 : (Cond.instanceMethod y).before a0 Z = true) (w3 : (Cond.initialized y.cls).before a0 Z = true) (w4 : (Cond.code y yb ym none).before a0 Z = true)
    (hy : y.cls ≠ "java/lang/invoke/MethodHandle" ∧ y.cls ≠ "java/lang/invoke/VarHandle") (C : ∀ l, Con l Z y yb ym none rm (.ref a :: argsL).toArray h n0 P) (hd : parseMethodDescriptor y.desc = some ⟨ps, rr⟩) (hlen : argsL.length = ps.length) (hs : st = argsL.reverse ++ .ref a :: st')
    (hL : L.size = mx) (hf : rm.frames + 1 ≤ R.frames) {W : Nat} (hW : (st'.map fun v => v.category).sum = W) (hl : W + (ym + 11) + rm.locals ≤ R.locals) (hk : k + rm.cells ≤ R.cells) (hn : n + rm.slots ≤ R.slots)
    (G : ∀ T' h' v, At1 w T' h' (k + rm.cells) (n + rm.slots) → P v h' → Go w Q T' pc' L (v.toList ++ st')) : Go w Q T pc L st := by
  obtain ⟨p, l, e, R', s, m, args, below, meth, c, Z', k0⟩ := w
  obtain ⟨hx, hby, hml, hown, hZ, hret, hnm, hlk, rfl, rfl, rfl, h00⟩ := K
  obtain ⟨locs, X, eT, N⟩ := H
  obtain ⟨d1, rfl⟩ := d
  obtain ⟨v, vm₁, ⟨T', L1, k1, n1⟩, -, X', ⟨Lc, ⟨hQ, N'⟩, l1, y1, z1⟩, stp⟩ := X.specialBack hx (y := y) hy1 hown (mvT hZ w1) (mvT hZ w2) (mvT hZ w4) hy (con_back (W := W) (C l) hZ w4 w3 hf hl) (g := mkF m pc L st) rfl (hL.trans hml.symm) (Steps.refl _) (a := a) (argsL := argsL) (rest := st') (lenOf hd hlen) hs (by show 2 * 0 + _ ≤ _; rw [hW]; omega) (by rw [hby]; exact d1) (fun _ _ => ⟨rfl, eT, hk, hn⟩)
  dsimp only [Pt.U, Pt.locs, Pt.cells, Pt.slots] at X' l1 y1 z1 stp hQ
  subst l1 y1 z1
  obtain ⟨s₂, o, g1, g2⟩ := G T' T'.heap v ⟨_, X', rfl, Fr.app N N'⟩ hQ
  exact ⟨s₂, o, stp.trans g1, g2⟩
theorem go_callV {a0 : Array Value} {idx : Nat} {y z : MethodName} {yb : ByteArray} {ym : Nat} {yr : Option FieldType} {rm : Room} {P : Option Value → Heap → Prop} {ps : List FieldType} {rr : Option FieldType} {a : Addr} {CC : String} (argsL : List Value)
    (K : Cx w R Z n0 own bytes mx rt nm) (H : At1 w T h k n) (d : Dc bytes pc (.invokevirtual idx) 3 pc') (E : Exa Z h a CC) (w1 : (Cond.methodLink own idx y).before a0 Z = true) (wd : (Cond.declares y).before a0 Z = true) (hnf : ∀ s : State, Z.Warmed39 s.vm → NotFace s y) (ws : (Cond.selects CC y z).before a0 Z = true) (w2 : (Cond.instanceMethod z).before a0 Z = true) (w3 : (Cond.initialized z.cls).before a0 Z = true) (w4 : (Cond.code z yb ym yr).before a0 Z = true)
    (hy : y.cls ≠ "java/lang/invoke/MethodHandle" ∧ y.cls ≠ "java/lang/invoke/VarHandle") (C : ∀ l, Con l Z z yb ym yr rm (.ref a :: argsL).toArray h n0 P) (hd : parseMethodDescriptor y.desc = some ⟨ps, rr⟩) (hlen : argsL.length = ps.length) (hs : st = argsL.reverse ++ .ref a :: st')
    (hL : L.size = mx) (hf : rm.frames + 1 ≤ R.frames) {W : Nat} (hW : (st'.map fun v => v.category).sum = W) (hl : W + (ym + 11) + rm.locals ≤ R.locals) (hk : k + rm.cells ≤ R.cells) (hn : n + rm.slots ≤ R.slots)
    (G : ∀ T' h' v, At1 w T' h' (k + rm.cells) (n + rm.slots) → P v h' → Go w Q T' pc' L (v.toList ++ st')) : Go w Q T pc L st := by
  obtain ⟨p, l, e, R', s, m, args, below, meth, c, Z', k0⟩ := w
  obtain ⟨hx, hby, hml, hown, hZ, hret, hnm, hlk, rfl, rfl, rfl, h00⟩ := K
  obtain ⟨locs, X, eT, N⟩ := H
  obtain ⟨d1, rfl⟩ := d
  obtain ⟨cq, kq, q1, q2, q3⟩ := isOf hZ eT E
  obtain ⟨v, vm₁, ⟨T', L1, k1, n1⟩, -, X', ⟨Lc, ⟨hQ, N'⟩, l1, y1, z1⟩, stp⟩ := X.virtualBack hx (y := y) (z := z) hown (mvT hZ w1) (mvT hZ wd) (hnf s hZ) (mvT hZ ws) (mvT hZ w2) hy (con_back (W := W) (C l) hZ w4 w3 hf hl) q1 q3 (g := mkF m pc L st) rfl (hL.trans hml.symm) (Steps.refl _) (argsL := argsL) (rest := st') (lenOf hd hlen) hs (by show 2 * 0 + _ ≤ _; rw [hW]; omega) (by rw [hby]; exact d1) (fun _ _ => ⟨rfl, eT, hk, hn⟩)
  dsimp only [Pt.U, Pt.locs, Pt.cells, Pt.slots] at X' l1 y1 z1 stp hQ
  subst l1 y1 z1
  obtain ⟨s₂, o, g1, g2⟩ := G T' T'.heap v ⟨_, X', rfl, Fr.app N N'⟩ hQ
  exact ⟨s₂, o, stp.trans g1, g2⟩
theorem go_callP {a0 : Array Value} {idx : Nat} {y : MethodName} {yb : ByteArray} {ym : Nat} {yr : Option FieldType} {rm : Room} {P : Option Value → Heap → Prop} {ps : List FieldType} {rr : Option FieldType} {a : Addr} {CC : String} (argsL : List Value)
    (K : Cx w R Z n0 own bytes mx rt nm) (H : At1 w T h k n) (d : Dc bytes pc (.invokevirtual idx) 3 pc') (E : Exa Z h a CC) (w1 : (Cond.methodLink own idx y).before a0 Z = true) (w2 : (Cond.instanceMethod y).before a0 Z = true) (ws : (Cond.selects y.cls y y).before a0 Z = true) (wp : (Cond.privateMethod y).before a0 Z = true) (w3 : (Cond.initialized y.cls).before a0 Z = true) (w4 : (Cond.code y yb ym yr).before a0 Z = true)
    (hy : y.cls ≠ "java/lang/invoke/MethodHandle" ∧ y.cls ≠ "java/lang/invoke/VarHandle") (C : ∀ l, Con l Z y yb ym yr rm (.ref a :: argsL).toArray h n0 P) (hd : parseMethodDescriptor y.desc = some ⟨ps, rr⟩) (hlen : argsL.length = ps.length) (hs : st = argsL.reverse ++ .ref a :: st')
    (hL : L.size = mx) (hf : rm.frames + 1 ≤ R.frames) {W : Nat} (hW : (st'.map fun v => v.category).sum = W) (hl : W + (ym + 11) + rm.locals ≤ R.locals) (hk : k + rm.cells ≤ R.cells) (hn : n + rm.slots ≤ R.slots)
    (G : ∀ T' h' v, At1 w T' h' (k + rm.cells) (n + rm.slots) → P v h' → Go w Q T' pc' L (v.toList ++ st')) : Go w Q T pc L st := by
  obtain ⟨p, l, e, R', s, m, args, below, meth, c, Z', k0⟩ := w
  obtain ⟨hx, hby, hml, hown, hZ, hret, hnm, hlk, rfl, rfl, rfl, h00⟩ := K
  obtain ⟨locs, X, eT, N⟩ := H
  obtain ⟨d1, rfl⟩ := d
  obtain ⟨cq, q1, q2⟩ := E.cell
  obtain ⟨v, vm₁, ⟨T', L1, k1, n1⟩, -, X', ⟨Lc, ⟨hQ, N'⟩, l1, y1, z1⟩, stp⟩ := X.privateBack hx (y := y) hown (mvT hZ w1) (mvT hZ w2) (mvT hZ ws) (Cond.privateMethod_at (mvP hZ wp (args := #[]))) (mvT hZ w4) hy (con_back (W := W) (C l) hZ w4 w3 hf hl) (g := mkF m pc L st) rfl (hL.trans hml.symm) (Steps.refl _) (a := a) (by rw [eT]; exact q1) q2 (argsL := argsL) (rest := st') (lenOf hd hlen) hs (by show 2 * 0 + _ ≤ _; rw [hW]; omega) (by rw [hby]; exact d1) (fun _ _ => ⟨rfl, eT, hk, hn⟩)
  dsimp only [Pt.U, Pt.locs, Pt.cells, Pt.slots] at X' l1 y1 z1 stp hQ
  subst l1 y1 z1
  obtain ⟨s₂, o, g1, g2⟩ := G T' T'.heap v ⟨_, X', rfl, Fr.app N N'⟩ hQ
  exact ⟨s₂, o, stp.trans g1, g2⟩
theorem go_callF {a0 : Array Value} {idx cnt : Nat} {y z : MethodName} {yb : ByteArray} {ym : Nat} {yr : Option FieldType} {rm : Room} {P : Option Value → Heap → Prop} {ps : List FieldType} {rr : Option FieldType} {a : Addr} {CC : String} (argsL : List Value)
    (K : Cx w R Z n0 own bytes mx rt nm) (H : At1 w T h k n) (d : Dc bytes pc (.invokeinterface idx cnt) 5 pc') (E : Exa Z h a CC) (w1 : (Cond.methodLink own idx y).before a0 Z = true) (wd : (Cond.declares y).before a0 Z = true) (wf : (Cond.interfaceMethod y.cls y.cls y.name y.desc).before a0 Z = true) (ws : (Cond.selects CC y z).before a0 Z = true) (w2 : (Cond.instanceMethod z).before a0 Z = true) (wp : (Cond.publicMethod z).before a0 Z = true) (wu : (Cond.unhidden CC y.name y.desc).before a0 Z = true) (wc : (Cond.castable CC y.cls).before a0 Z = true) (w3 : (Cond.initialized z.cls).before a0 Z = true) (w4 : (Cond.code z yb ym yr).before a0 Z = true)
    (hy : y.cls ≠ "java/lang/invoke/MethodHandle" ∧ y.cls ≠ "java/lang/invoke/VarHandle") (C : ∀ l, Con l Z z yb ym yr rm (.ref a :: argsL).toArray h n0 P) (hd : parseMethodDescriptor y.desc = some ⟨ps, rr⟩) (hlen : argsL.length = ps.length) (hs : st = argsL.reverse ++ .ref a :: st')
    (hL : L.size = mx) (hf : rm.frames + 1 ≤ R.frames) {W : Nat} (hW : (st'.map fun v => v.category).sum = W) (hl : W + (ym + 11) + rm.locals ≤ R.locals) (hk : k + rm.cells ≤ R.cells) (hn : n + rm.slots ≤ R.slots)
    (G : ∀ T' h' v, At1 w T' h' (k + rm.cells) (n + rm.slots) → P v h' → Go w Q T' pc' L (v.toList ++ st')) : Go w Q T pc L st := by
  obtain ⟨p, l, e, R', s, m, args, below, meth, c, Z', k0⟩ := w
  obtain ⟨hx, hby, hml, hown, hZ, hret, hnm, hlk, rfl, rfl, rfl, h00⟩ := K
  obtain ⟨locs, X, eT, N⟩ := H
  obtain ⟨d1, rfl⟩ := d
  obtain ⟨cq, kq, q1, q2, q3⟩ := isOf hZ eT E
  obtain ⟨v, vm₁, ⟨T', L1, k1, n1⟩, -, X', ⟨Lc, ⟨hQ, N'⟩, l1, y1, z1⟩, stp⟩ := X.interfaceBack hx (xi := y) (y := z) hown (mvT hZ w1) (mvT hZ wd) (mvT hZ wf (by simp [Cond.onTables, Cond.keepsFace, Cond.keeps, Cond.steady, Cond.faceAtom, hy.1, hy.2])) (mvT hZ ws) (mvT hZ w2) (mvT hZ wp) (mvT hZ wu) (mvT hZ wc) hy (con_back (W := W) (C l) hZ w4 w3 hf hl) q1 q2 q3 (g := mkF m pc L st) rfl (hL.trans hml.symm) (Steps.refl _) (argsL := argsL) (rest := st') (lenOf hd hlen) hs (by show 2 * 0 + _ ≤ _; rw [hW]; omega) (by rw [hby]; exact d1) (fun _ _ => ⟨rfl, eT, hk, hn⟩)
  dsimp only [Pt.U, Pt.locs, Pt.cells, Pt.slots] at X' l1 y1 z1 stp hQ
  subst l1 y1 z1
  obtain ⟨s₂, o, g1, g2⟩ := G T' T'.heap v ⟨_, X', rfl, Fr.app N N'⟩ hQ
  exact ⟨s₂, o, stp.trans g1, g2⟩
theorem ref_at {a0 a1 : Array Value} {U : State} {idx : Nat} {y : MethodName} (hU : Z.Warmed39 U.vm) (hy : y.cls ≠ "java/lang/invoke/MethodHandle" ∧ y.cls ≠ "java/lang/invoke/VarHandle") (w2 : (Cond.instanceMethod y).before a0 Z = true) (w1 : (Cond.methodRef own idx y).before a0 Z = true) : (Cond.methodRef own idx y).before a1 U = true := by
  obtain ⟨mk, _, hn, -⟩ := Cond.instanceMethod_spec w2
  have q := Cond.methodRef_warmed39 hU hn hy w1
  simp only [Cond.before, Cond.holds, Cond.value] at q ⊢
  exact q
theorem go_callIR {a0 : Array Value} {idx : Nat} {y : MethodName} {yb : ByteArray} {ym : Nat} {rm : Room} {P : Option Value → Heap → Prop} {ps : List FieldType} {rr : Option FieldType} {a : Addr} (argsL : List Value)
    (K : Cx w R Z n0 own bytes mx rt nm) (H : At1 w T h k n) (d : Dc bytes pc (.invokespecial idx) 3 pc') (hy1 : y.name = "<init>") (w1 : (Cond.methodRef own idx y).before a0 Z = true) (w2 : (Cond.instanceMethod y).before a0 Z = true) (w3 : (Cond.initialized y.cls).before a0 Z = true) (w4 : (Cond.code y yb ym none).before a0 Z = true)
    (hy : y.cls ≠ "java/lang/invoke/MethodHandle" ∧ y.cls ≠ "java/lang/invoke/VarHandle") (C : ∀ l, Con l Z y yb ym none rm (.ref a :: argsL).toArray h n0 P) (hd : parseMethodDescriptor y.desc = some ⟨ps, rr⟩) (hlen : argsL.length = ps.length) (hs : st = argsL.reverse ++ .ref a :: st')
    (hL : L.size = mx) (hf : rm.frames + 1 ≤ R.frames) {W : Nat} (hW : (st'.map fun v => v.category).sum = W) (hl : W + (ym + 11) + rm.locals ≤ R.locals) (hk : k + rm.cells ≤ R.cells) (hn : n + rm.slots ≤ R.slots)
    (G : ∀ T' h' v, At1 w T' h' (k + rm.cells) (n + rm.slots) → P v h' → Go w Q T' pc' L (v.toList ++ st')) : Go w Q T pc L st := by
  obtain ⟨p, l, e, R', s, m, args, below, meth, c, Z', k0⟩ := w
  obtain ⟨hx, hby, hml, hown, hZ, hret, hnm, hlk, rfl, rfl, rfl, h00⟩ := K
  obtain ⟨locs, X, eT, N⟩ := H
  obtain ⟨d1, rfl⟩ := d
  have S : SCall p l e R' s m args below meth c idx y := SCall.of_ready hx hy1 (mvT hZ w2) (mvT hZ w4) (fun U r hU hnr => by
    have hA := hU.alike
    have hUZ : Z'.Warmed39 U.vm := wtrans hZ hU
    have hnU : U.methodNamed? y = some r := by
      have q : (s.setVm U.vm).methodNamed? y = some r := by rw [State.methodNamed?_setVm hA]; exact hnr
      exact q
    have hoU : U.vm.findClass own = some m.cls := by rw [hA.findClass]; exact hown
    obtain ⟨m', c', e1, e2, e3, e4⟩ := Cond.methodRef_named (first := U) (o := none) (idx := []) (args := args) e hoU (ref_at hUZ hy w2 w1)
    have e5 : U.methodFound? y.cls y.name y.desc = some r := State.methodFound?_of_named hnU hy
    cases e1.symm.trans e5
    cases e3.symm.trans (findClass_of_methodNamed hnU)
    exact ⟨e4, e2⟩)
  obtain ⟨v, vm₁, ⟨T', L1, k1, n1⟩, -, X', ⟨Lc, ⟨hQ, N'⟩, l1, y1, z1⟩, stp⟩ := S X (con_back (W := W) (C l) hZ w4 w3 hf hl) (g := mkF m pc L st) rfl (hL.trans hml.symm) (Steps.refl _) (a := a) (argsL := argsL) (rest := st') (lenOf hd hlen) hs (by show 2 * 0 + _ ≤ _; rw [hW]; omega) (by rw [hby]; exact d1) (fun _ _ => ⟨rfl, eT, hk, hn⟩)
  dsimp only [Pt.U, Pt.locs, Pt.cells, Pt.slots] at X' l1 y1 z1 stp hQ
  subst l1 y1 z1
  obtain ⟨s₂, o, g1, g2⟩ := G T' T'.heap v ⟨_, X', rfl, Fr.app N N'⟩ hQ
  exact ⟨s₂, o, stp.trans g1, g2⟩
theorem sel_priv {a0 : Array Value} {y : MethodName} {j : Nat} (wi : (Cond.instantiable y.cls j).before a0 Z = true) (wp : (Cond.privateMethod y).before a0 Z = true) (w2 : (Cond.instanceMethod y).before a0 Z = true) (hy : y.cls ≠ "java/lang/invoke/MethodHandle" ∧ y.cls ≠ "java/lang/invoke/VarHandle") : (Cond.selects y.cls y y).before a0 Z = true := by
  obtain ⟨c, k, h1, h2, h3, h4, -⟩ := Cond.instantiable_spec wi
  exact selects_self_of_private h1 h2 (Bool.or_eq_false_iff.mp h4).1 (Cond.privateMethod_at wp) w2 hy
theorem nf_sel {a0 : Array Value} {CC : String} {y : MethodName} (ws : (Cond.selects CC y y).before a0 Z = true) : ∀ s : State, Z.Warmed39 s.vm → NotFace s y := fun s hZ => notFace_of_selects (args := #[]) (mvT hZ ws)
theorem own_comes {Post : Tables → Env → Array Value → State → Outcome → State → Prop} {ck sk : Nat} (hpost : ∀ tb e args s v u, (limb_1_1.after args s (.returned v) u = true ∧ limb_1_2.after args s (.returned v) u = true) → FrameEnd s (.returned v) u (Jvm.fieldLocs frame_1_writes args s ++ Jvm.arrayLocs frame_1_arrays args s ++ Jvm.staticLocs frame_1_statics s) ck sk → Post tb e args s (.returned v) u) (h1 : room_1.cells ≤ ck) (h2 : room_1.slots ≤ sk)
    (hl : ∀ (l : Launch) (tb : Tables) (e : Env) (s : State) (args : Array Value), heapFits s = true → rest_1 tb e args s → (Jvm.Cond.and given_1 narrow_1).value args s none s [] = some true → (∀ d ∈ tables_1, d.before args s = true) → Con l s x code maxLocals ret room_1 args s.heap s.heap.size (RI fun z _ => z = 1)) :
    ArmFor flags0 classFile x code maxLocals ret World_1 tables_1 room_1 Calls_1 rest_1 Pre_1 Post := by
  intro l hfl _ _ p e ha hc hk s m args below hf hA hF happ hP
  obtain ⟨hcalls, hrest, hpre⟩ := hP
  obtain ⟨-, -, -, hnamed, -, -, -, hat⟩ := (Spec.applies_iff hf).mp happ
  have hg := Cond.before_iff.mp (show (Jvm.Cond.and given_1 narrow_1).before args s = true from hpre)
  have hw := fun d (hd : d ∈ tables_1) => atoms_spec (ws := Jvm.Cond.code x code maxLocals ret :: tables_1) hat d (List.mem_cons_of_mem _ hd)
  obtain ⟨n, o, g1, g2, g3, v, L, rfl, ⟨⟨z, rfl, rfl⟩, N⟩, hq⟩ := hl l _ _ s args hF hrest hg hw tables_1 p e ha hc hk s m _ below hf ((Spec.applies_iff_loose hf).mp happ).1 ⟨rfl, State.Warmed39.refl s, rfl⟩ trivial
  exact ⟨n, _, g1, g2, g3, hpost _ _ _ _ _ _ ⟨Cond.after_iff.mpr rfl, Cond.after_iff.mpr (eq_i res_at (Term.int_eval (1)) rfl)⟩ ⟨hq.1, hq.2.1, (hq.2.2.sift fun y hy => Or.inr (N y hy)).mono h1 h2⟩⟩
end Own
end Jvm.Pilot.@@N@@
namespace Jvm.Pilot.@@N@@
open Jvm Jvm.ClassFile Sem Op Lib Jvm.Free Jvm.Stand Jvm.LawKit Jvm.RoadKit Bundle Jvm.Pilot.@@N@@.Jvm.D
def oN (n : Nat) : Int32 := Int32.ofNat n
theorem oN_toInt {n : Nat} (h : n < 2 ^ 31) : (oN n).toInt = (n : Int) := Int32.toInt_ofNat_of_lt h
theorem oN_inj {a b : Nat} (ha : a < 2 ^ 31) (hb : b < 2 ^ 31) : oN a = oN b ↔ a = b := by
  rw [← Int32.toInt_inj, oN_toInt ha, oN_toInt hb]; omega
theorem oN_lt {a b : Nat} (ha : a < 2 ^ 31) (hb : b < 2 ^ 31) : oN a < oN b ↔ a < b := by
  rw [Int32.lt_iff_toInt_lt, oN_toInt ha, oN_toInt hb]; omega
theorem oN_of {v : Int32} {N : Nat} (h0 : 0 ≤ v.toInt) (h1 : v.toInt < N) (hN : N ≤ 2 ^ 31) : ∃ j, j < N ∧ v = oN j := by
  refine ⟨v.toInt.toNat, by omega, Int32.toInt_inj.mp ?_⟩
  rw [oN_toInt (by omega)]; omega
theorem at_map2 {ns : List Nat} {i j : Nat} (h : ns[i]? = some j) : ((ns.map oN).map Value.int)[i]? = some (.int (oN j)) := by rw [List.getElem?_map, List.getElem?_map, h]; rfl
theorem at_map1 {xs : List Int32} {i : Nat} {x : Int32} (h : xs[i]? = some x) : (xs.map Value.int)[i]? = some (.int x) := by rw [List.getElem?_map, h]; rfl
theorem at_mapJ {xs : List Int64} {i : Nat} (h : i < xs.length) : (xs.map Value.long)[i]? = some (.long (xs.getD i 0)) := by
  rw [List.getElem?_map, List.getElem?_eq_getElem h, List.getD_eq_getElem?_getD, List.getElem?_eq_getElem h]; rfl
def inc (xs : List Int64) (j : Nat) : List Int64 := xs.set j (xs.getD j 0 + 1)
theorem inc_len (xs : List Int64) (j : Nat) : (inc xs j).length = xs.length := by simp [inc]
theorem inc_get {xs : List Int64} {j : Nat} (hj : j < xs.length) (t : Nat) : (inc xs j).getD t 0 = xs.getD t 0 + (if t = j then 1 else 0) := by
  unfold inc
  by_cases q : t = j
  · subst q; simp [List.getD_eq_getElem?_getD, List.getElem?_set_self hj]
  · simp [List.getD_eq_getElem?_getD, List.getElem?_set_ne (Ne.symm q), q]
theorem get_at {xs : List Int64} {t : Nat} (h : t < xs.length) : xs[t]? = some (xs.getD t 0) := by
  rw [List.getD_eq_getElem?_getD, List.getElem?_eq_getElem h]; rfl
def hF (d item : Nat) : Int64 := if d = item then 1 else 0
def rkF (d0 d1 d2 : Nat) : Nat := ((if d1 < d0 then 1 else 0) + (if d2 < d0 then 1 else 0)) * 2 + (if d2 < d1 then 1 else 0)
def permF : Nat → List Nat
  | 0 => [0, 1, 2]
  | 1 => [0, 2, 1]
  | 2 => [1, 0, 2]
  | 3 => [1, 2, 0]
  | 4 => [2, 0, 1]
  | _ => [2, 1, 0]
theorem perm_ok {r : Nat} (h : r < 6) : ∃ d0 d1 d2, permF r = [d0, d1, d2] ∧ d0 < 3 ∧ d1 < 3 ∧ d2 < 3 ∧ rkF d0 d1 d2 = r := by
  have : r = 0 ∨ r = 1 ∨ r = 2 ∨ r = 3 ∨ r = 4 ∨ r = 5 := by omega
  rcases this with rfl | rfl | rfl | rfl | rfl | rfl
  · exact ⟨0, 1, 2, rfl, by decide, by decide, by decide, by decide⟩
  · exact ⟨0, 2, 1, rfl, by decide, by decide, by decide, by decide⟩
  · exact ⟨1, 0, 2, rfl, by decide, by decide, by decide, by decide⟩
  · exact ⟨1, 2, 0, rfl, by decide, by decide, by decide, by decide⟩
  · exact ⟨2, 0, 1, rfl, by decide, by decide, by decide, by decide⟩
  · exact ⟨2, 1, 0, rfl, by decide, by decide, by decide, by decide⟩
def add3 (xs : List Int64) (d0 d1 d2 : Nat) : List Int64 := inc (inc (inc xs (d0 * 3 + 0)) (d1 * 3 + 1)) (d2 * 3 + 2)
theorem add3_len (xs : List Int64) (d0 d1 d2 : Nat) : (add3 xs d0 d1 d2).length = xs.length := by simp [add3, inc_len]
theorem add3_get {xs : List Int64} {d0 d1 d2 : Nat} (hl : xs.length = 9) (h0 : d0 < 3) (h1 : d1 < 3) (h2 : d2 < 3) {item : Nat} (hi : item < 3) :
    (add3 xs d0 d1 d2).getD (item * 3 + 0) 0 = xs.getD (item * 3 + 0) 0 + hF d0 item ∧ (add3 xs d0 d1 d2).getD (item * 3 + 1) 0 = xs.getD (item * 3 + 1) 0 + hF d1 item ∧ (add3 xs d0 d1 d2).getD (item * 3 + 2) 0 = xs.getD (item * 3 + 2) 0 + hF d2 item := by
  have g : ∀ t, (add3 xs d0 d1 d2).getD t 0 = xs.getD t 0 + (if t = d0 * 3 + 0 then 1 else 0) + (if t = d1 * 3 + 1 then 1 else 0) + (if t = d2 * 3 + 2 then 1 else 0) := by
    intro t
    unfold add3
    rw [inc_get (by rw [inc_len, inc_len]; omega), inc_get (by rw [inc_len]; omega), inc_get (by omega)]
  refine ⟨?_, ?_, ?_⟩
  · rw [g, if_neg (show ¬ item * 3 + 0 = d1 * 3 + 1 by omega), if_neg (show ¬ item * 3 + 0 = d2 * 3 + 2 by omega), Int64.add_zero, Int64.add_zero]
    unfold hF; congr 1
    by_cases q : d0 = item
    · rw [if_pos q, if_pos (by omega)]
    · rw [if_neg q, if_neg (by omega)]
  · rw [g, if_neg (show ¬ item * 3 + 1 = d0 * 3 + 0 by omega), if_neg (show ¬ item * 3 + 1 = d2 * 3 + 2 by omega), Int64.add_zero, Int64.add_zero]
    unfold hF; congr 1
    by_cases q : d1 = item
    · rw [if_pos q, if_pos (by omega)]
    · rw [if_neg q, if_neg (by omega)]
  · rw [g, if_neg (show ¬ item * 3 + 2 = d0 * 3 + 0 by omega), if_neg (show ¬ item * 3 + 2 = d1 * 3 + 1 by omega), Int64.add_zero, Int64.add_zero]
    unfold hF; congr 1
    by_cases q : d2 = item
    · rw [if_pos q, if_pos (by omega)]
    · rw [if_neg q, if_neg (by omega)]
theorem rep_get (n t : Nat) : (List.replicate n (0 : Int64)).getD t 0 = 0 := by
  rw [List.getD_eq_getElem?_getD, List.getElem?_replicate]; split <;> rfl
theorem cell9 {x0 x1 x2 y0 y1 y2 : Nat} (a0 : x0 < 3) (a1 : x1 < 3) (a2 : x2 < 3) (b0 : y0 < 3) (b1 : y1 < 3) (b2 : y2 < 3) {item : Nat} (hi : item < 3) :
    (add3 (add3 (List.replicate 9 0) x0 x1 x2) y0 y1 y2)[item * 3 + 0]? = some (hF x0 item + hF y0 item) ∧ (add3 (add3 (List.replicate 9 0) x0 x1 x2) y0 y1 y2)[item * 3 + 1]? = some (hF x1 item + hF y1 item) ∧ (add3 (add3 (List.replicate 9 0) x0 x1 x2) y0 y1 y2)[item * 3 + 2]? = some (hF x2 item + hF y2 item) := by
  have l : (add3 (add3 (List.replicate 9 (0 : Int64)) x0 x1 x2) y0 y1 y2).length = 9 := by rw [add3_len, add3_len]; simp
  have e1 := add3_get (xs := add3 (List.replicate 9 (0 : Int64)) x0 x1 x2) (by rw [add3_len]; simp) b0 b1 b2 hi
  have e2 := add3_get (xs := List.replicate 9 (0 : Int64)) (by simp) a0 a1 a2 hi
  rw [e2.1, e2.2.1, e2.2.2, rep_get, rep_get, rep_get, Int64.zero_add, Int64.zero_add, Int64.zero_add] at e1
  refine ⟨?_, ?_, ?_⟩
  · rw [get_at (by rw [l]; omega), e1.1]
  · rw [get_at (by rw [l]; omega), e1.2.1]
  · rw [get_at (by rw [l]; omega), e1.2.2]
theorem ord6 {p q k : Nat} (hp : p < 6) (hq : q < 6) (hk : k < 6) : (inc (inc (List.replicate 6 0) p) q)[k]? = some (hF p k + hF q k) := by
  rw [get_at (by rw [inc_len, inc_len]; simpa using hk), inc_get (by rw [inc_len]; simpa using hq), inc_get (by simpa using hp), rep_get, Int64.zero_add]
  unfold hF; congr 2
  · by_cases e : p = k
    · rw [if_pos e, if_pos e.symm]
    · rw [if_neg e, if_neg (Ne.symm e)]
  · by_cases e : q = k
    · rw [if_pos e, if_pos e.symm]
    · rw [if_neg e, if_neg (Ne.symm e)]
def add7 (xs : List Int64) (d0 d1 d2 d3 d4 d5 d6 : Nat) : List Int64 := inc (inc (inc (inc (inc (inc (inc xs (d0 * 7 + 0)) (d1 * 7 + 1)) (d2 * 7 + 2)) (d3 * 7 + 3)) (d4 * 7 + 4)) (d5 * 7 + 5)) (d6 * 7 + 6)
theorem zA {a b k i : Nat} (hk : k < 7) (hi : i < 7) (hn : k ≠ i) : ¬ a * 7 + k = b * 7 + i := by omega
theorem zB {d s k : Nat} (hd : d < 7) (h1 : 1 ≤ s) (h2 : s < 7) : ¬ (d + s) % 7 * 7 + k = d * 7 + k := by omega
theorem zC {d k : Nat} (hd : d < 7) (hk : k < 7) : d * 7 + k < 49 := by omega
theorem zD {d k : Nat} (hk : k < 7) : d % 7 * 7 + k < 49 := by omega
theorem add7_get {d0 d1 d2 d3 d4 d5 d6 : Nat} (h0 : d0 < 7) (h1 : d1 < 7) (h2 : d2 < 7) (h3 : d3 < 7) (h4 : d4 < 7) (h5 : d5 < 7) (h6 : d6 < 7) {t : Nat} (ht : t < 49) :
    (add7 (List.replicate 49 0) d0 d1 d2 d3 d4 d5 d6)[t]? = some (0 + (if t = d0 * 7 + 0 then 1 else 0) + (if t = d1 * 7 + 1 then 1 else 0) + (if t = d2 * 7 + 2 then 1 else 0) + (if t = d3 * 7 + 3 then 1 else 0) + (if t = d4 * 7 + 4 then 1 else 0) + (if t = d5 * 7 + 5 then 1 else 0) + (if t = d6 * 7 + 6 then 1 else 0)) := by
  have l : (List.replicate 49 (0 : Int64)).length = 49 := by simp
  unfold add7
  rw [get_at (by simp only [inc_len, l]; omega), inc_get (by simp only [inc_len, l]; omega), inc_get (by simp only [inc_len, l]; omega), inc_get (by simp only [inc_len, l]; omega), inc_get (by simp only [inc_len, l]; omega), inc_get (by simp only [inc_len, l]; omega), inc_get (by simp only [inc_len, l]; omega), inc_get (by rw [l]; omega), rep_get]
theorem ne_lt {a b : Addr} {n : Nat} (h : a < n) (g : n ≤ b) : a ≠ b := Nat.ne_of_lt (Nat.lt_of_lt_of_le h g)
def DT (Z : State) (h : Heap) (a : Addr) (n : Int32) (p : Addr) (o : Value) (c : Int64) : Prop := Exa Z h a "com/example/evenhand/evenhand/DeckTally" ∧ Fld Z h a "com/example/evenhand/evenhand/DeckTally" "items" "I" (.int n) ∧ Fld Z h a "com/example/evenhand/evenhand/DeckTally" "positions" "[J" (.ref p) ∧ Fld Z h a "com/example/evenhand/evenhand/DeckTally" "orders" "[J" o ∧ Fld Z h a "com/example/evenhand/evenhand/DeckTally" "decks" "J" (.long c)
theorem DT.other {Z : State} {h h' : Heap} {a b p : Addr} {n : Int32} {o v : Value} {c : Int64} {sl : Nat} (O : DT Z h a n p o c) (W : Wr h h' b sl v) (q : a ≠ b) : DT Z h' a n p o c := ⟨O.1.wr W, O.2.1.other W (Or.inl q), O.2.2.1.other W (Or.inl q), O.2.2.2.1.other W (Or.inl q), O.2.2.2.2.other W (Or.inl q)⟩
theorem at_map1J {xs : List Int64} {i : Nat} {x : Int64} (h : xs[i]? = some x) : (xs.map Value.long)[i]? = some (.long x) := by rw [List.getElem?_map, h]; rfl
theorem d0_0 : Dc prog_6_method_1_code 0 (.aload_n 0) 1 1 := ⟨by decide +kernel, rfl⟩
theorem d0_1 : Dc prog_6_method_1_code 1 (.invokespecial 1) 3 4 := ⟨by decide +kernel, rfl⟩
theorem d0_4 : Dc prog_6_method_1_code 4 (.aload_n 0) 1 5 := ⟨by decide +kernel, rfl⟩
theorem d0_5 : Dc prog_6_method_1_code 5 (.iload_n 1) 1 6 := ⟨by decide +kernel, rfl⟩
theorem d0_6 : Dc prog_6_method_1_code 6 (.putfield 7) 3 9 := ⟨by decide +kernel, rfl⟩
theorem d0_9 : Dc prog_6_method_1_code 9 (.aload_n 0) 1 10 := ⟨by decide +kernel, rfl⟩
theorem d0_10 : Dc prog_6_method_1_code 10 (.iload_n 1) 1 11 := ⟨by decide +kernel, rfl⟩
theorem d0_11 : Dc prog_6_method_1_code 11 (.iload_n 1) 1 12 := ⟨by decide +kernel, rfl⟩
theorem d0_12 : Dc prog_6_method_1_code 12 .imul 1 13 := ⟨by decide +kernel, rfl⟩
theorem d0_13 : Dc prog_6_method_1_code 13 (.newarray .long) 2 15 := ⟨by decide +kernel, rfl⟩
theorem d0_15 : Dc prog_6_method_1_code 15 (.putfield 13) 3 18 := ⟨by decide +kernel, rfl⟩
theorem d0_18 : Dc prog_6_method_1_code 18 (.iload_n 1) 1 19 := ⟨by decide +kernel, rfl⟩
theorem d0_19 : Dc prog_6_method_1_code 19 (.bipush 6) 2 21 := ⟨by decide +kernel, rfl⟩
theorem d0_21 : Jp prog_6_method_1_code 21 (.if_icmp .gt) 38 24 := ⟨17, by decide +kernel, by decide, by decide, rfl⟩
theorem d0_24 : Dc prog_6_method_1_code 24 (.aload_n 0) 1 25 := ⟨by decide +kernel, rfl⟩
theorem d0_25 : Dc prog_6_method_1_code 25 (.getstatic 17) 3 28 := ⟨by decide +kernel, rfl⟩
theorem d0_28 : Dc prog_6_method_1_code 28 (.iload_n 1) 1 29 := ⟨by decide +kernel, rfl⟩
theorem d0_29 : Dc prog_6_method_1_code 29 .iaload 1 30 := ⟨by decide +kernel, rfl⟩
theorem d0_30 : Dc prog_6_method_1_code 30 (.newarray .long) 2 32 := ⟨by decide +kernel, rfl⟩
theorem d0_32 : Dc prog_6_method_1_code 32 (.putfield 21) 3 35 := ⟨by decide +kernel, rfl⟩
theorem d0_35 : Jp prog_6_method_1_code 35 .goto 43 38 := ⟨8, by decide +kernel, by decide, by decide, rfl⟩
theorem d0_38 : Dc prog_6_method_1_code 38 (.aload_n 0) 1 39 := ⟨by decide +kernel, rfl⟩
theorem d0_39 : Dc prog_6_method_1_code 39 .aconst_null 1 40 := ⟨by decide +kernel, rfl⟩
theorem d0_40 : Dc prog_6_method_1_code 40 (.putfield 21) 3 43 := ⟨by decide +kernel, rfl⟩
theorem d0_43 : Dc prog_6_method_1_code 43 .return_ 1 44 := ⟨by decide +kernel, rfl⟩
theorem d1_0 : Dc prog_6_method_3_code 0 (.aload_n 0) 1 1 := ⟨by decide +kernel, rfl⟩
theorem d1_1 : Dc prog_6_method_3_code 1 (.getfield 28) 3 4 := ⟨by decide +kernel, rfl⟩
theorem d1_4 : Dc prog_6_method_3_code 4 .lreturn 1 5 := ⟨by decide +kernel, rfl⟩
theorem d2_0 : Dc prog_6_method_6_code 0 (.aload_n 0) 1 1 := ⟨by decide +kernel, rfl⟩
theorem d2_1 : Dc prog_6_method_6_code 1 (.getfield 21) 3 4 := ⟨by decide +kernel, rfl⟩
theorem d2_4 : Dc prog_6_method_6_code 4 .areturn 1 5 := ⟨by decide +kernel, rfl⟩
theorem d3_0 : Dc prog_6_method_5_code 0 (.aload_n 0) 1 1 := ⟨by decide +kernel, rfl⟩
theorem d3_1 : Dc prog_6_method_5_code 1 (.getfield 13) 3 4 := ⟨by decide +kernel, rfl⟩
theorem d3_4 : Dc prog_6_method_5_code 4 .areturn 1 5 := ⟨by decide +kernel, rfl⟩
theorem d4_0 : Dc prog_6_method_7_code 0 (.iconst 0) 1 1 := ⟨by decide +kernel, rfl⟩
theorem d4_1 : Dc prog_6_method_7_code 1 (.istore_n 2) 1 2 := ⟨by decide +kernel, rfl⟩
theorem d4_2 : Dc prog_6_method_7_code 2 (.iconst 0) 1 3 := ⟨by decide +kernel, rfl⟩
theorem d4_3 : Dc prog_6_method_7_code 3 (.istore_n 3) 1 4 := ⟨by decide +kernel, rfl⟩
theorem d4_4 : Dc prog_6_method_7_code 4 (.iload_n 3) 1 5 := ⟨by decide +kernel, rfl⟩
theorem d4_5 : Dc prog_6_method_7_code 5 (.aload_n 0) 1 6 := ⟨by decide +kernel, rfl⟩
theorem d4_6 : Dc prog_6_method_7_code 6 (.getfield 7) 3 9 := ⟨by decide +kernel, rfl⟩
theorem d4_9 : Jp prog_6_method_7_code 9 (.if_icmp .ge) 66 12 := ⟨57, by decide +kernel, by decide, by decide, rfl⟩
theorem d4_12 : Dc prog_6_method_7_code 12 (.iconst 0) 1 13 := ⟨by decide +kernel, rfl⟩
theorem d4_13 : Dc prog_6_method_7_code 13 (.istore 4) 2 15 := ⟨by decide +kernel, rfl⟩
theorem d4_15 : Dc prog_6_method_7_code 15 (.iload_n 3) 1 16 := ⟨by decide +kernel, rfl⟩
theorem d4_16 : Dc prog_6_method_7_code 16 (.iconst 1) 1 17 := ⟨by decide +kernel, rfl⟩
theorem d4_17 : Dc prog_6_method_7_code 17 .iadd 1 18 := ⟨by decide +kernel, rfl⟩
theorem d4_18 : Dc prog_6_method_7_code 18 (.istore 5) 2 20 := ⟨by decide +kernel, rfl⟩
theorem d4_20 : Dc prog_6_method_7_code 20 (.iload 5) 2 22 := ⟨by decide +kernel, rfl⟩
theorem d4_22 : Dc prog_6_method_7_code 22 (.aload_n 0) 1 23 := ⟨by decide +kernel, rfl⟩
theorem d4_23 : Dc prog_6_method_7_code 23 (.getfield 7) 3 26 := ⟨by decide +kernel, rfl⟩
theorem d4_26 : Jp prog_6_method_7_code 26 (.if_icmp .ge) 48 29 := ⟨22, by decide +kernel, by decide, by decide, rfl⟩
theorem d4_29 : Dc prog_6_method_7_code 29 (.aload_n 1) 1 30 := ⟨by decide +kernel, rfl⟩
theorem d4_30 : Dc prog_6_method_7_code 30 (.iload 5) 2 32 := ⟨by decide +kernel, rfl⟩
theorem d4_32 : Dc prog_6_method_7_code 32 .iaload 1 33 := ⟨by decide +kernel, rfl⟩
theorem d4_33 : Dc prog_6_method_7_code 33 (.aload_n 1) 1 34 := ⟨by decide +kernel, rfl⟩
theorem d4_34 : Dc prog_6_method_7_code 34 (.iload_n 3) 1 35 := ⟨by decide +kernel, rfl⟩
theorem d4_35 : Dc prog_6_method_7_code 35 .iaload 1 36 := ⟨by decide +kernel, rfl⟩
theorem d4_36 : Jp prog_6_method_7_code 36 (.if_icmp .ge) 42 39 := ⟨6, by decide +kernel, by decide, by decide, rfl⟩
theorem d4_39 : Dc prog_6_method_7_code 39 (.iinc 4 1) 3 42 := ⟨by decide +kernel, rfl⟩
theorem d4_42 : Dc prog_6_method_7_code 42 (.iinc 5 1) 3 45 := ⟨by decide +kernel, rfl⟩
theorem d4_45 : Jp prog_6_method_7_code 45 .goto 20 48 := ⟨-25, by decide +kernel, by decide, by decide, rfl⟩
theorem d4_48 : Dc prog_6_method_7_code 48 (.iload_n 2) 1 49 := ⟨by decide +kernel, rfl⟩
theorem d4_49 : Dc prog_6_method_7_code 49 (.aload_n 0) 1 50 := ⟨by decide +kernel, rfl⟩
theorem d4_50 : Dc prog_6_method_7_code 50 (.getfield 7) 3 53 := ⟨by decide +kernel, rfl⟩
theorem d4_53 : Dc prog_6_method_7_code 53 (.iload_n 3) 1 54 := ⟨by decide +kernel, rfl⟩
theorem d4_54 : Dc prog_6_method_7_code 54 .isub 1 55 := ⟨by decide +kernel, rfl⟩
theorem d4_55 : Dc prog_6_method_7_code 55 .imul 1 56 := ⟨by decide +kernel, rfl⟩
theorem d4_56 : Dc prog_6_method_7_code 56 (.iload 4) 2 58 := ⟨by decide +kernel, rfl⟩
theorem d4_58 : Dc prog_6_method_7_code 58 .iadd 1 59 := ⟨by decide +kernel, rfl⟩
theorem d4_59 : Dc prog_6_method_7_code 59 (.istore_n 2) 1 60 := ⟨by decide +kernel, rfl⟩
theorem d4_60 : Dc prog_6_method_7_code 60 (.iinc 3 1) 3 63 := ⟨by decide +kernel, rfl⟩
theorem d4_63 : Jp prog_6_method_7_code 63 .goto 4 66 := ⟨-59, by decide +kernel, by decide, by decide, rfl⟩
theorem d4_66 : Dc prog_6_method_7_code 66 (.iload_n 2) 1 67 := ⟨by decide +kernel, rfl⟩
theorem d4_67 : Dc prog_6_method_7_code 67 .ireturn 1 68 := ⟨by decide +kernel, rfl⟩
theorem d5_0 : Dc prog_6_method_2_code 0 (.iconst 0) 1 1 := ⟨by decide +kernel, rfl⟩
theorem d5_1 : Dc prog_6_method_2_code 1 (.istore_n 2) 1 2 := ⟨by decide +kernel, rfl⟩
theorem d5_2 : Dc prog_6_method_2_code 2 (.iload_n 2) 1 3 := ⟨by decide +kernel, rfl⟩
theorem d5_3 : Dc prog_6_method_2_code 3 (.aload_n 0) 1 4 := ⟨by decide +kernel, rfl⟩
theorem d5_4 : Dc prog_6_method_2_code 4 (.getfield 7) 3 7 := ⟨by decide +kernel, rfl⟩
theorem d5_7 : Jp prog_6_method_2_code 7 (.if_icmp .ge) 35 10 := ⟨28, by decide +kernel, by decide, by decide, rfl⟩
theorem d5_10 : Dc prog_6_method_2_code 10 (.aload_n 0) 1 11 := ⟨by decide +kernel, rfl⟩
theorem d5_11 : Dc prog_6_method_2_code 11 (.getfield 13) 3 14 := ⟨by decide +kernel, rfl⟩
theorem d5_14 : Dc prog_6_method_2_code 14 (.aload_n 1) 1 15 := ⟨by decide +kernel, rfl⟩
theorem d5_15 : Dc prog_6_method_2_code 15 (.iload_n 2) 1 16 := ⟨by decide +kernel, rfl⟩
theorem d5_16 : Dc prog_6_method_2_code 16 .iaload 1 17 := ⟨by decide +kernel, rfl⟩
theorem d5_17 : Dc prog_6_method_2_code 17 (.aload_n 0) 1 18 := ⟨by decide +kernel, rfl⟩
theorem d5_18 : Dc prog_6_method_2_code 18 (.getfield 7) 3 21 := ⟨by decide +kernel, rfl⟩
theorem d5_21 : Dc prog_6_method_2_code 21 .imul 1 22 := ⟨by decide +kernel, rfl⟩
theorem d5_22 : Dc prog_6_method_2_code 22 (.iload_n 2) 1 23 := ⟨by decide +kernel, rfl⟩
theorem d5_23 : Dc prog_6_method_2_code 23 .iadd 1 24 := ⟨by decide +kernel, rfl⟩
theorem d5_24 : Dc prog_6_method_2_code 24 .dup2 1 25 := ⟨by decide +kernel, rfl⟩
theorem d5_25 : Dc prog_6_method_2_code 25 .laload 1 26 := ⟨by decide +kernel, rfl⟩
theorem d5_26 : Dc prog_6_method_2_code 26 (.lconst 1) 1 27 := ⟨by decide +kernel, rfl⟩
theorem d5_27 : Dc prog_6_method_2_code 27 .ladd 1 28 := ⟨by decide +kernel, rfl⟩
theorem d5_28 : Dc prog_6_method_2_code 28 .lastore 1 29 := ⟨by decide +kernel, rfl⟩
theorem d5_29 : Dc prog_6_method_2_code 29 (.iinc 2 1) 3 32 := ⟨by decide +kernel, rfl⟩
theorem d5_32 : Jp prog_6_method_2_code 32 .goto 2 35 := ⟨-30, by decide +kernel, by decide, by decide, rfl⟩
theorem d5_35 : Dc prog_6_method_2_code 35 (.aload_n 0) 1 36 := ⟨by decide +kernel, rfl⟩
theorem d5_36 : Dc prog_6_method_2_code 36 (.getfield 21) 3 39 := ⟨by decide +kernel, rfl⟩
theorem d5_39 : Jp prog_6_method_2_code 39 .ifnull 56 42 := ⟨17, by decide +kernel, by decide, by decide, rfl⟩
theorem d5_42 : Dc prog_6_method_2_code 42 (.aload_n 0) 1 43 := ⟨by decide +kernel, rfl⟩
theorem d5_43 : Dc prog_6_method_2_code 43 (.getfield 21) 3 46 := ⟨by decide +kernel, rfl⟩
theorem d5_46 : Dc prog_6_method_2_code 46 (.aload_n 0) 1 47 := ⟨by decide +kernel, rfl⟩
theorem d5_47 : Dc prog_6_method_2_code 47 (.aload_n 1) 1 48 := ⟨by decide +kernel, rfl⟩
theorem d5_48 : Dc prog_6_method_2_code 48 (.invokevirtual 24) 3 51 := ⟨by decide +kernel, rfl⟩
theorem d5_51 : Dc prog_6_method_2_code 51 .dup2 1 52 := ⟨by decide +kernel, rfl⟩
theorem d5_52 : Dc prog_6_method_2_code 52 .laload 1 53 := ⟨by decide +kernel, rfl⟩
theorem d5_53 : Dc prog_6_method_2_code 53 (.lconst 1) 1 54 := ⟨by decide +kernel, rfl⟩
theorem d5_54 : Dc prog_6_method_2_code 54 .ladd 1 55 := ⟨by decide +kernel, rfl⟩
theorem d5_55 : Dc prog_6_method_2_code 55 .lastore 1 56 := ⟨by decide +kernel, rfl⟩
theorem d5_56 : Dc prog_6_method_2_code 56 (.aload_n 0) 1 57 := ⟨by decide +kernel, rfl⟩
theorem d5_57 : Dc prog_6_method_2_code 57 .dup 1 58 := ⟨by decide +kernel, rfl⟩
theorem d5_58 : Dc prog_6_method_2_code 58 (.getfield 28) 3 61 := ⟨by decide +kernel, rfl⟩
theorem d5_61 : Dc prog_6_method_2_code 61 (.lconst 1) 1 62 := ⟨by decide +kernel, rfl⟩
theorem d5_62 : Dc prog_6_method_2_code 62 .ladd 1 63 := ⟨by decide +kernel, rfl⟩
theorem d5_63 : Dc prog_6_method_2_code 63 (.putfield 28) 3 66 := ⟨by decide +kernel, rfl⟩
theorem d5_66 : Dc prog_6_method_2_code 66 .return_ 1 67 := ⟨by decide +kernel, rfl⟩
theorem d6_0 : Dc method_2_code 0 (.iload_n 0) 1 1 := ⟨by decide +kernel, rfl⟩
theorem d6_1 : Jp method_2_code 1 (.ifCond .ne) 20 4 := ⟨19, by decide +kernel, by decide, by decide, rfl⟩
theorem d6_4 : Dc method_2_code 4 (.iconst 3) 1 5 := ⟨by decide +kernel, rfl⟩
theorem d6_5 : Dc method_2_code 5 (.newarray .int) 2 7 := ⟨by decide +kernel, rfl⟩
theorem d6_7 : Dc method_2_code 7 .dup 1 8 := ⟨by decide +kernel, rfl⟩
theorem d6_8 : Dc method_2_code 8 (.iconst 0) 1 9 := ⟨by decide +kernel, rfl⟩
theorem d6_9 : Dc method_2_code 9 (.iconst 0) 1 10 := ⟨by decide +kernel, rfl⟩
theorem d6_10 : Dc method_2_code 10 .iastore 1 11 := ⟨by decide +kernel, rfl⟩
theorem d6_11 : Dc method_2_code 11 .dup 1 12 := ⟨by decide +kernel, rfl⟩
theorem d6_12 : Dc method_2_code 12 (.iconst 1) 1 13 := ⟨by decide +kernel, rfl⟩
theorem d6_13 : Dc method_2_code 13 (.iconst 1) 1 14 := ⟨by decide +kernel, rfl⟩
theorem d6_14 : Dc method_2_code 14 .iastore 1 15 := ⟨by decide +kernel, rfl⟩
theorem d6_15 : Dc method_2_code 15 .dup 1 16 := ⟨by decide +kernel, rfl⟩
theorem d6_16 : Dc method_2_code 16 (.iconst 2) 1 17 := ⟨by decide +kernel, rfl⟩
theorem d6_17 : Dc method_2_code 17 (.iconst 2) 1 18 := ⟨by decide +kernel, rfl⟩
theorem d6_18 : Dc method_2_code 18 .iastore 1 19 := ⟨by decide +kernel, rfl⟩
theorem d6_19 : Dc method_2_code 19 .areturn 1 20 := ⟨by decide +kernel, rfl⟩
theorem d6_20 : Dc method_2_code 20 (.iload_n 0) 1 21 := ⟨by decide +kernel, rfl⟩
theorem d6_21 : Dc method_2_code 21 (.iconst 1) 1 22 := ⟨by decide +kernel, rfl⟩
theorem d6_22 : Jp method_2_code 22 (.if_icmp .ne) 41 25 := ⟨19, by decide +kernel, by decide, by decide, rfl⟩
theorem d6_25 : Dc method_2_code 25 (.iconst 3) 1 26 := ⟨by decide +kernel, rfl⟩
theorem d6_26 : Dc method_2_code 26 (.newarray .int) 2 28 := ⟨by decide +kernel, rfl⟩
theorem d6_28 : Dc method_2_code 28 .dup 1 29 := ⟨by decide +kernel, rfl⟩
theorem d6_29 : Dc method_2_code 29 (.iconst 0) 1 30 := ⟨by decide +kernel, rfl⟩
theorem d6_30 : Dc method_2_code 30 (.iconst 0) 1 31 := ⟨by decide +kernel, rfl⟩
theorem d6_31 : Dc method_2_code 31 .iastore 1 32 := ⟨by decide +kernel, rfl⟩
theorem d6_32 : Dc method_2_code 32 .dup 1 33 := ⟨by decide +kernel, rfl⟩
theorem d6_33 : Dc method_2_code 33 (.iconst 1) 1 34 := ⟨by decide +kernel, rfl⟩
theorem d6_34 : Dc method_2_code 34 (.iconst 2) 1 35 := ⟨by decide +kernel, rfl⟩
theorem d6_35 : Dc method_2_code 35 .iastore 1 36 := ⟨by decide +kernel, rfl⟩
theorem d6_36 : Dc method_2_code 36 .dup 1 37 := ⟨by decide +kernel, rfl⟩
theorem d6_37 : Dc method_2_code 37 (.iconst 2) 1 38 := ⟨by decide +kernel, rfl⟩
theorem d6_38 : Dc method_2_code 38 (.iconst 1) 1 39 := ⟨by decide +kernel, rfl⟩
theorem d6_39 : Dc method_2_code 39 .iastore 1 40 := ⟨by decide +kernel, rfl⟩
theorem d6_40 : Dc method_2_code 40 .areturn 1 41 := ⟨by decide +kernel, rfl⟩
theorem d6_41 : Dc method_2_code 41 (.iload_n 0) 1 42 := ⟨by decide +kernel, rfl⟩
theorem d6_42 : Dc method_2_code 42 (.iconst 2) 1 43 := ⟨by decide +kernel, rfl⟩
theorem d6_43 : Jp method_2_code 43 (.if_icmp .ne) 62 46 := ⟨19, by decide +kernel, by decide, by decide, rfl⟩
theorem d6_46 : Dc method_2_code 46 (.iconst 3) 1 47 := ⟨by decide +kernel, rfl⟩
theorem d6_47 : Dc method_2_code 47 (.newarray .int) 2 49 := ⟨by decide +kernel, rfl⟩
theorem d6_49 : Dc method_2_code 49 .dup 1 50 := ⟨by decide +kernel, rfl⟩
theorem d6_50 : Dc method_2_code 50 (.iconst 0) 1 51 := ⟨by decide +kernel, rfl⟩
theorem d6_51 : Dc method_2_code 51 (.iconst 1) 1 52 := ⟨by decide +kernel, rfl⟩
theorem d6_52 : Dc method_2_code 52 .iastore 1 53 := ⟨by decide +kernel, rfl⟩
theorem d6_53 : Dc method_2_code 53 .dup 1 54 := ⟨by decide +kernel, rfl⟩
theorem d6_54 : Dc method_2_code 54 (.iconst 1) 1 55 := ⟨by decide +kernel, rfl⟩
theorem d6_55 : Dc method_2_code 55 (.iconst 0) 1 56 := ⟨by decide +kernel, rfl⟩
theorem d6_56 : Dc method_2_code 56 .iastore 1 57 := ⟨by decide +kernel, rfl⟩
theorem d6_57 : Dc method_2_code 57 .dup 1 58 := ⟨by decide +kernel, rfl⟩
theorem d6_58 : Dc method_2_code 58 (.iconst 2) 1 59 := ⟨by decide +kernel, rfl⟩
theorem d6_59 : Dc method_2_code 59 (.iconst 2) 1 60 := ⟨by decide +kernel, rfl⟩
theorem d6_60 : Dc method_2_code 60 .iastore 1 61 := ⟨by decide +kernel, rfl⟩
theorem d6_61 : Dc method_2_code 61 .areturn 1 62 := ⟨by decide +kernel, rfl⟩
theorem d6_62 : Dc method_2_code 62 (.iload_n 0) 1 63 := ⟨by decide +kernel, rfl⟩
theorem d6_63 : Dc method_2_code 63 (.iconst 3) 1 64 := ⟨by decide +kernel, rfl⟩
theorem d6_64 : Jp method_2_code 64 (.if_icmp .ne) 83 67 := ⟨19, by decide +kernel, by decide, by decide, rfl⟩
theorem d6_67 : Dc method_2_code 67 (.iconst 3) 1 68 := ⟨by decide +kernel, rfl⟩
theorem d6_68 : Dc method_2_code 68 (.newarray .int) 2 70 := ⟨by decide +kernel, rfl⟩
theorem d6_70 : Dc method_2_code 70 .dup 1 71 := ⟨by decide +kernel, rfl⟩
theorem d6_71 : Dc method_2_code 71 (.iconst 0) 1 72 := ⟨by decide +kernel, rfl⟩
theorem d6_72 : Dc method_2_code 72 (.iconst 1) 1 73 := ⟨by decide +kernel, rfl⟩
theorem d6_73 : Dc method_2_code 73 .iastore 1 74 := ⟨by decide +kernel, rfl⟩
theorem d6_74 : Dc method_2_code 74 .dup 1 75 := ⟨by decide +kernel, rfl⟩
theorem d6_75 : Dc method_2_code 75 (.iconst 1) 1 76 := ⟨by decide +kernel, rfl⟩
theorem d6_76 : Dc method_2_code 76 (.iconst 2) 1 77 := ⟨by decide +kernel, rfl⟩
theorem d6_77 : Dc method_2_code 77 .iastore 1 78 := ⟨by decide +kernel, rfl⟩
theorem d6_78 : Dc method_2_code 78 .dup 1 79 := ⟨by decide +kernel, rfl⟩
theorem d6_79 : Dc method_2_code 79 (.iconst 2) 1 80 := ⟨by decide +kernel, rfl⟩
theorem d6_80 : Dc method_2_code 80 (.iconst 0) 1 81 := ⟨by decide +kernel, rfl⟩
theorem d6_81 : Dc method_2_code 81 .iastore 1 82 := ⟨by decide +kernel, rfl⟩
theorem d6_82 : Dc method_2_code 82 .areturn 1 83 := ⟨by decide +kernel, rfl⟩
theorem d6_83 : Dc method_2_code 83 (.iload_n 0) 1 84 := ⟨by decide +kernel, rfl⟩
theorem d6_84 : Dc method_2_code 84 (.iconst 4) 1 85 := ⟨by decide +kernel, rfl⟩
theorem d6_85 : Jp method_2_code 85 (.if_icmp .ne) 104 88 := ⟨19, by decide +kernel, by decide, by decide, rfl⟩
theorem d6_88 : Dc method_2_code 88 (.iconst 3) 1 89 := ⟨by decide +kernel, rfl⟩
theorem d6_89 : Dc method_2_code 89 (.newarray .int) 2 91 := ⟨by decide +kernel, rfl⟩
theorem d6_91 : Dc method_2_code 91 .dup 1 92 := ⟨by decide +kernel, rfl⟩
theorem d6_92 : Dc method_2_code 92 (.iconst 0) 1 93 := ⟨by decide +kernel, rfl⟩
theorem d6_93 : Dc method_2_code 93 (.iconst 2) 1 94 := ⟨by decide +kernel, rfl⟩
theorem d6_94 : Dc method_2_code 94 .iastore 1 95 := ⟨by decide +kernel, rfl⟩
theorem d6_95 : Dc method_2_code 95 .dup 1 96 := ⟨by decide +kernel, rfl⟩
theorem d6_96 : Dc method_2_code 96 (.iconst 1) 1 97 := ⟨by decide +kernel, rfl⟩
theorem d6_97 : Dc method_2_code 97 (.iconst 0) 1 98 := ⟨by decide +kernel, rfl⟩
theorem d6_98 : Dc method_2_code 98 .iastore 1 99 := ⟨by decide +kernel, rfl⟩
theorem d6_99 : Dc method_2_code 99 .dup 1 100 := ⟨by decide +kernel, rfl⟩
theorem d6_100 : Dc method_2_code 100 (.iconst 2) 1 101 := ⟨by decide +kernel, rfl⟩
theorem d6_101 : Dc method_2_code 101 (.iconst 1) 1 102 := ⟨by decide +kernel, rfl⟩
theorem d6_102 : Dc method_2_code 102 .iastore 1 103 := ⟨by decide +kernel, rfl⟩
theorem d6_103 : Dc method_2_code 103 .areturn 1 104 := ⟨by decide +kernel, rfl⟩
theorem d6_104 : Dc method_2_code 104 (.iconst 3) 1 105 := ⟨by decide +kernel, rfl⟩
theorem d6_105 : Dc method_2_code 105 (.newarray .int) 2 107 := ⟨by decide +kernel, rfl⟩
theorem d6_107 : Dc method_2_code 107 .dup 1 108 := ⟨by decide +kernel, rfl⟩
theorem d6_108 : Dc method_2_code 108 (.iconst 0) 1 109 := ⟨by decide +kernel, rfl⟩
theorem d6_109 : Dc method_2_code 109 (.iconst 2) 1 110 := ⟨by decide +kernel, rfl⟩
theorem d6_110 : Dc method_2_code 110 .iastore 1 111 := ⟨by decide +kernel, rfl⟩
theorem d6_111 : Dc method_2_code 111 .dup 1 112 := ⟨by decide +kernel, rfl⟩
theorem d6_112 : Dc method_2_code 112 (.iconst 1) 1 113 := ⟨by decide +kernel, rfl⟩
theorem d6_113 : Dc method_2_code 113 (.iconst 1) 1 114 := ⟨by decide +kernel, rfl⟩
theorem d6_114 : Dc method_2_code 114 .iastore 1 115 := ⟨by decide +kernel, rfl⟩
theorem d6_115 : Dc method_2_code 115 .dup 1 116 := ⟨by decide +kernel, rfl⟩
theorem d6_116 : Dc method_2_code 116 (.iconst 2) 1 117 := ⟨by decide +kernel, rfl⟩
theorem d6_117 : Dc method_2_code 117 (.iconst 0) 1 118 := ⟨by decide +kernel, rfl⟩
theorem d6_118 : Dc method_2_code 118 .iastore 1 119 := ⟨by decide +kernel, rfl⟩
theorem d6_119 : Dc method_2_code 119 .areturn 1 120 := ⟨by decide +kernel, rfl⟩
theorem d7_0 : Dc method_3_code 0 (.aload_n 0) 1 1 := ⟨by decide +kernel, rfl⟩
theorem d7_1 : Dc method_3_code 1 (.iload_n 2) 1 2 := ⟨by decide +kernel, rfl⟩
theorem d7_2 : Dc method_3_code 2 .iaload 1 3 := ⟨by decide +kernel, rfl⟩
theorem d7_3 : Dc method_3_code 3 (.iload_n 1) 1 4 := ⟨by decide +kernel, rfl⟩
theorem d7_4 : Jp method_3_code 4 (.if_icmp .ne) 11 7 := ⟨7, by decide +kernel, by decide, by decide, rfl⟩
theorem d7_7 : Dc method_3_code 7 (.lconst 1) 1 8 := ⟨by decide +kernel, rfl⟩
theorem d7_8 : Jp method_3_code 8 .goto 12 11 := ⟨4, by decide +kernel, by decide, by decide, rfl⟩
theorem d7_11 : Dc method_3_code 11 (.lconst 0) 1 12 := ⟨by decide +kernel, rfl⟩
theorem d7_12 : Dc method_3_code 12 .lreturn 1 13 := ⟨by decide +kernel, rfl⟩
theorem d8_0 : Dc method_4_code 0 (.iload_n 0) 1 1 := ⟨by decide +kernel, rfl⟩
theorem d8_1 : Dc method_4_code 1 (.iload_n 1) 1 2 := ⟨by decide +kernel, rfl⟩
theorem d8_2 : Jp method_4_code 2 (.if_icmp .ne) 9 5 := ⟨7, by decide +kernel, by decide, by decide, rfl⟩
theorem d8_5 : Dc method_4_code 5 (.lconst 1) 1 6 := ⟨by decide +kernel, rfl⟩
theorem d8_6 : Jp method_4_code 6 .goto 10 9 := ⟨4, by decide +kernel, by decide, by decide, rfl⟩
theorem d8_9 : Dc method_4_code 9 (.lconst 0) 1 10 := ⟨by decide +kernel, rfl⟩
theorem d8_10 : Dc method_4_code 10 .lreturn 1 11 := ⟨by decide +kernel, rfl⟩
theorem d9_0 : Dc method_5_code 0 (.aload_n 0) 1 1 := ⟨by decide +kernel, rfl⟩
theorem d9_1 : Dc method_5_code 1 (.iload_n 3) 1 2 := ⟨by decide +kernel, rfl⟩
theorem d9_2 : Dc method_5_code 2 (.iconst 3) 1 3 := ⟨by decide +kernel, rfl⟩
theorem d9_3 : Dc method_5_code 3 .imul 1 4 := ⟨by decide +kernel, rfl⟩
theorem d9_4 : Dc method_5_code 4 .laload 1 5 := ⟨by decide +kernel, rfl⟩
theorem d9_5 : Dc method_5_code 5 (.aload_n 1) 1 6 := ⟨by decide +kernel, rfl⟩
theorem d9_6 : Dc method_5_code 6 (.iload_n 3) 1 7 := ⟨by decide +kernel, rfl⟩
theorem d9_7 : Dc method_5_code 7 (.iconst 0) 1 8 := ⟨by decide +kernel, rfl⟩
theorem d9_8 : Dc method_5_code 8 (.invokestatic 7) 3 11 := ⟨by decide +kernel, rfl⟩
theorem d9_11 : Dc method_5_code 11 (.aload_n 2) 1 12 := ⟨by decide +kernel, rfl⟩
theorem d9_12 : Dc method_5_code 12 (.iload_n 3) 1 13 := ⟨by decide +kernel, rfl⟩
theorem d9_13 : Dc method_5_code 13 (.iconst 0) 1 14 := ⟨by decide +kernel, rfl⟩
theorem d9_14 : Dc method_5_code 14 (.invokestatic 7) 3 17 := ⟨by decide +kernel, rfl⟩
theorem d9_17 : Dc method_5_code 17 .ladd 1 18 := ⟨by decide +kernel, rfl⟩
theorem d9_18 : Dc method_5_code 18 .lcmp 1 19 := ⟨by decide +kernel, rfl⟩
theorem d9_19 : Jp method_5_code 19 (.ifCond .ne) 74 22 := ⟨55, by decide +kernel, by decide, by decide, rfl⟩
theorem d9_22 : Dc method_5_code 22 (.aload_n 0) 1 23 := ⟨by decide +kernel, rfl⟩
theorem d9_23 : Dc method_5_code 23 (.iload_n 3) 1 24 := ⟨by decide +kernel, rfl⟩
theorem d9_24 : Dc method_5_code 24 (.iconst 3) 1 25 := ⟨by decide +kernel, rfl⟩
theorem d9_25 : Dc method_5_code 25 .imul 1 26 := ⟨by decide +kernel, rfl⟩
theorem d9_26 : Dc method_5_code 26 (.iconst 1) 1 27 := ⟨by decide +kernel, rfl⟩
theorem d9_27 : Dc method_5_code 27 .iadd 1 28 := ⟨by decide +kernel, rfl⟩
theorem d9_28 : Dc method_5_code 28 .laload 1 29 := ⟨by decide +kernel, rfl⟩
theorem d9_29 : Dc method_5_code 29 (.aload_n 1) 1 30 := ⟨by decide +kernel, rfl⟩
theorem d9_30 : Dc method_5_code 30 (.iload_n 3) 1 31 := ⟨by decide +kernel, rfl⟩
theorem d9_31 : Dc method_5_code 31 (.iconst 1) 1 32 := ⟨by decide +kernel, rfl⟩
theorem d9_32 : Dc method_5_code 32 (.invokestatic 7) 3 35 := ⟨by decide +kernel, rfl⟩
theorem d9_35 : Dc method_5_code 35 (.aload_n 2) 1 36 := ⟨by decide +kernel, rfl⟩
theorem d9_36 : Dc method_5_code 36 (.iload_n 3) 1 37 := ⟨by decide +kernel, rfl⟩
theorem d9_37 : Dc method_5_code 37 (.iconst 1) 1 38 := ⟨by decide +kernel, rfl⟩
theorem d9_38 : Dc method_5_code 38 (.invokestatic 7) 3 41 := ⟨by decide +kernel, rfl⟩
theorem d9_41 : Dc method_5_code 41 .ladd 1 42 := ⟨by decide +kernel, rfl⟩
theorem d9_42 : Dc method_5_code 42 .lcmp 1 43 := ⟨by decide +kernel, rfl⟩
theorem d9_43 : Jp method_5_code 43 (.ifCond .ne) 74 46 := ⟨31, by decide +kernel, by decide, by decide, rfl⟩
theorem d9_46 : Dc method_5_code 46 (.aload_n 0) 1 47 := ⟨by decide +kernel, rfl⟩
theorem d9_47 : Dc method_5_code 47 (.iload_n 3) 1 48 := ⟨by decide +kernel, rfl⟩
theorem d9_48 : Dc method_5_code 48 (.iconst 3) 1 49 := ⟨by decide +kernel, rfl⟩
theorem d9_49 : Dc method_5_code 49 .imul 1 50 := ⟨by decide +kernel, rfl⟩
theorem d9_50 : Dc method_5_code 50 (.iconst 2) 1 51 := ⟨by decide +kernel, rfl⟩
theorem d9_51 : Dc method_5_code 51 .iadd 1 52 := ⟨by decide +kernel, rfl⟩
theorem d9_52 : Dc method_5_code 52 .laload 1 53 := ⟨by decide +kernel, rfl⟩
theorem d9_53 : Dc method_5_code 53 (.aload_n 1) 1 54 := ⟨by decide +kernel, rfl⟩
theorem d9_54 : Dc method_5_code 54 (.iload_n 3) 1 55 := ⟨by decide +kernel, rfl⟩
theorem d9_55 : Dc method_5_code 55 (.iconst 2) 1 56 := ⟨by decide +kernel, rfl⟩
theorem d9_56 : Dc method_5_code 56 (.invokestatic 7) 3 59 := ⟨by decide +kernel, rfl⟩
theorem d9_59 : Dc method_5_code 59 (.aload_n 2) 1 60 := ⟨by decide +kernel, rfl⟩
theorem d9_60 : Dc method_5_code 60 (.iload_n 3) 1 61 := ⟨by decide +kernel, rfl⟩
theorem d9_61 : Dc method_5_code 61 (.iconst 2) 1 62 := ⟨by decide +kernel, rfl⟩
theorem d9_62 : Dc method_5_code 62 (.invokestatic 7) 3 65 := ⟨by decide +kernel, rfl⟩
theorem d9_65 : Dc method_5_code 65 .ladd 1 66 := ⟨by decide +kernel, rfl⟩
theorem d9_66 : Dc method_5_code 66 .lcmp 1 67 := ⟨by decide +kernel, rfl⟩
theorem d9_67 : Jp method_5_code 67 (.ifCond .ne) 74 70 := ⟨7, by decide +kernel, by decide, by decide, rfl⟩
theorem d9_70 : Dc method_5_code 70 (.iconst 1) 1 71 := ⟨by decide +kernel, rfl⟩
theorem d9_71 : Jp method_5_code 71 .goto 75 74 := ⟨4, by decide +kernel, by decide, by decide, rfl⟩
theorem d9_75 : Dc method_5_code 75 .ireturn 1 76 := ⟨by decide +kernel, rfl⟩
theorem d10_0 : Dc method_6_code 0 (.aload_n 1) 1 1 := ⟨by decide +kernel, rfl⟩
theorem d10_1 : Dc method_6_code 1 (.iload_n 2) 1 2 := ⟨by decide +kernel, rfl⟩
theorem d10_2 : Dc method_6_code 2 .iaload 1 3 := ⟨by decide +kernel, rfl⟩
theorem d10_3 : Dc method_6_code 3 (.iload_n 3) 1 4 := ⟨by decide +kernel, rfl⟩
theorem d10_4 : Dc method_6_code 4 .iadd 1 5 := ⟨by decide +kernel, rfl⟩
theorem d10_5 : Dc method_6_code 5 (.bipush 7) 2 7 := ⟨by decide +kernel, rfl⟩
theorem d10_7 : Dc method_6_code 7 .irem 1 8 := ⟨by decide +kernel, rfl⟩
theorem d10_8 : Dc method_6_code 8 (.istore 4) 2 10 := ⟨by decide +kernel, rfl⟩
theorem d10_10 : Dc method_6_code 10 (.aload_n 0) 1 11 := ⟨by decide +kernel, rfl⟩
theorem d10_11 : Dc method_6_code 11 (.aload_n 1) 1 12 := ⟨by decide +kernel, rfl⟩
theorem d10_12 : Dc method_6_code 12 (.iload_n 2) 1 13 := ⟨by decide +kernel, rfl⟩
theorem d10_13 : Dc method_6_code 13 .iaload 1 14 := ⟨by decide +kernel, rfl⟩
theorem d10_14 : Dc method_6_code 14 (.bipush 7) 2 16 := ⟨by decide +kernel, rfl⟩
theorem d10_16 : Dc method_6_code 16 .imul 1 17 := ⟨by decide +kernel, rfl⟩
theorem d10_17 : Dc method_6_code 17 (.iload_n 2) 1 18 := ⟨by decide +kernel, rfl⟩
theorem d10_18 : Dc method_6_code 18 .iadd 1 19 := ⟨by decide +kernel, rfl⟩
theorem d10_19 : Dc method_6_code 19 .laload 1 20 := ⟨by decide +kernel, rfl⟩
theorem d10_20 : Dc method_6_code 20 (.lconst 1) 1 21 := ⟨by decide +kernel, rfl⟩
theorem d10_21 : Dc method_6_code 21 .lcmp 1 22 := ⟨by decide +kernel, rfl⟩
theorem d10_22 : Jp method_6_code 22 (.ifCond .ne) 43 25 := ⟨21, by decide +kernel, by decide, by decide, rfl⟩
theorem d10_25 : Dc method_6_code 25 (.aload_n 0) 1 26 := ⟨by decide +kernel, rfl⟩
theorem d10_26 : Dc method_6_code 26 (.iload 4) 2 28 := ⟨by decide +kernel, rfl⟩
theorem d10_28 : Dc method_6_code 28 (.bipush 7) 2 30 := ⟨by decide +kernel, rfl⟩
theorem d10_30 : Dc method_6_code 30 .imul 1 31 := ⟨by decide +kernel, rfl⟩
theorem d10_31 : Dc method_6_code 31 (.iload_n 2) 1 32 := ⟨by decide +kernel, rfl⟩
theorem d10_32 : Dc method_6_code 32 .iadd 1 33 := ⟨by decide +kernel, rfl⟩
theorem d10_33 : Dc method_6_code 33 .laload 1 34 := ⟨by decide +kernel, rfl⟩
theorem d10_34 : Dc method_6_code 34 (.lconst 0) 1 35 := ⟨by decide +kernel, rfl⟩
theorem d10_35 : Dc method_6_code 35 .lcmp 1 36 := ⟨by decide +kernel, rfl⟩
theorem d10_36 : Jp method_6_code 36 (.ifCond .ne) 43 39 := ⟨7, by decide +kernel, by decide, by decide, rfl⟩
theorem d10_39 : Dc method_6_code 39 (.iconst 1) 1 40 := ⟨by decide +kernel, rfl⟩
theorem d10_40 : Jp method_6_code 40 .goto 44 43 := ⟨4, by decide +kernel, by decide, by decide, rfl⟩
theorem d10_44 : Dc method_6_code 44 .ireturn 1 45 := ⟨by decide +kernel, rfl⟩
theorem d11_0 : Dc code 0 (.iload_n 3) 1 1 := ⟨by decide +kernel, rfl⟩
theorem d11_1 : Dc code 1 (.iconst 1) 1 2 := ⟨by decide +kernel, rfl⟩
theorem d11_2 : Dc code 2 .iand 1 3 := ⟨by decide +kernel, rfl⟩
theorem d11_3 : Jp code 3 (.ifCond .ne) 365 6 := ⟨362, by decide +kernel, by decide, by decide, rfl⟩
theorem d11_6 : Dc code 6 (.iload_n 0) 1 7 := ⟨by decide +kernel, rfl⟩
theorem d11_7 : Dc code 7 (.ldc 13) 2 9 := ⟨by decide +kernel, rfl⟩
theorem d11_9 : Dc code 9 .iand 1 10 := ⟨by decide +kernel, rfl⟩
theorem d11_10 : Dc code 10 (.bipush 6) 2 12 := ⟨by decide +kernel, rfl⟩
theorem d11_12 : Dc code 12 .irem 1 13 := ⟨by decide +kernel, rfl⟩
theorem d11_13 : Dc code 13 (.istore 4) 2 15 := ⟨by decide +kernel, rfl⟩
theorem d11_15 : Dc code 15 (.iload_n 1) 1 16 := ⟨by decide +kernel, rfl⟩
theorem d11_16 : Dc code 16 (.ldc 13) 2 18 := ⟨by decide +kernel, rfl⟩
theorem d11_18 : Dc code 18 .iand 1 19 := ⟨by decide +kernel, rfl⟩
theorem d11_19 : Dc code 19 (.bipush 6) 2 21 := ⟨by decide +kernel, rfl⟩
theorem d11_21 : Dc code 21 .irem 1 22 := ⟨by decide +kernel, rfl⟩
theorem d11_22 : Dc code 22 (.istore 5) 2 24 := ⟨by decide +kernel, rfl⟩
theorem d11_24 : Dc code 24 (.iload 4) 2 26 := ⟨by decide +kernel, rfl⟩
theorem d11_26 : Dc code 26 (.invokestatic 14) 3 29 := ⟨by decide +kernel, rfl⟩
theorem d11_29 : Dc code 29 (.astore 6) 2 31 := ⟨by decide +kernel, rfl⟩
theorem d11_31 : Dc code 31 (.iload 5) 2 33 := ⟨by decide +kernel, rfl⟩
theorem d11_33 : Dc code 33 (.invokestatic 14) 3 36 := ⟨by decide +kernel, rfl⟩
theorem d11_36 : Dc code 36 (.astore 7) 2 38 := ⟨by decide +kernel, rfl⟩
theorem d11_38 : Dc code 38 (.new 18) 3 41 := ⟨by decide +kernel, rfl⟩
theorem d11_41 : Dc code 41 .dup 1 42 := ⟨by decide +kernel, rfl⟩
theorem d11_42 : Dc code 42 (.iconst 3) 1 43 := ⟨by decide +kernel, rfl⟩
theorem d11_43 : Dc code 43 (.invokespecial 20) 3 46 := ⟨by decide +kernel, rfl⟩
theorem d11_46 : Dc code 46 (.astore 8) 2 48 := ⟨by decide +kernel, rfl⟩
theorem d11_48 : Dc code 48 (.aload 8) 2 50 := ⟨by decide +kernel, rfl⟩
theorem d11_50 : Dc code 50 (.aload 6) 2 52 := ⟨by decide +kernel, rfl⟩
theorem d11_52 : Dc code 52 (.invokevirtual 23) 3 55 := ⟨by decide +kernel, rfl⟩
theorem d11_55 : Dc code 55 (.aload 8) 2 57 := ⟨by decide +kernel, rfl⟩
theorem d11_57 : Dc code 57 (.aload 7) 2 59 := ⟨by decide +kernel, rfl⟩
theorem d11_59 : Dc code 59 (.invokevirtual 23) 3 62 := ⟨by decide +kernel, rfl⟩
theorem d11_62 : Dc code 62 (.aload 8) 2 64 := ⟨by decide +kernel, rfl⟩
theorem d11_64 : Dc code 64 (.invokevirtual 27) 3 67 := ⟨by decide +kernel, rfl⟩
theorem d11_67 : Dc code 67 (.ldc2_w 31) 3 70 := ⟨by decide +kernel, rfl⟩
theorem d11_70 : Dc code 70 .lcmp 1 71 := ⟨by decide +kernel, rfl⟩
theorem d11_71 : Jp code 71 (.ifCond .eq) 76 74 := ⟨5, by decide +kernel, by decide, by decide, rfl⟩
theorem d11_76 : Dc code 76 (.aload 8) 2 78 := ⟨by decide +kernel, rfl⟩
theorem d11_78 : Dc code 78 (.invokevirtual 33) 3 81 := ⟨by decide +kernel, rfl⟩
theorem d11_81 : Dc code 81 (.astore 9) 2 83 := ⟨by decide +kernel, rfl⟩
theorem d11_83 : Dc code 83 (.aload 8) 2 85 := ⟨by decide +kernel, rfl⟩
theorem d11_85 : Dc code 85 (.invokevirtual 37) 3 88 := ⟨by decide +kernel, rfl⟩
theorem d11_88 : Dc code 88 (.astore 10) 2 90 := ⟨by decide +kernel, rfl⟩
theorem d11_90 : Dc code 90 (.aload 9) 2 92 := ⟨by decide +kernel, rfl⟩
theorem d11_92 : Jp code 92 .ifnull 116 95 := ⟨24, by decide +kernel, by decide, by decide, rfl⟩
theorem d11_95 : Dc code 95 (.aload 9) 2 97 := ⟨by decide +kernel, rfl⟩
theorem d11_97 : Dc code 97 .arraylength 1 98 := ⟨by decide +kernel, rfl⟩
theorem d11_98 : Dc code 98 (.bipush 9) 2 100 := ⟨by decide +kernel, rfl⟩
theorem d11_100 : Jp code 100 (.if_icmp .ne) 116 103 := ⟨16, by decide +kernel, by decide, by decide, rfl⟩
theorem d11_103 : Dc code 103 (.aload 10) 2 105 := ⟨by decide +kernel, rfl⟩
theorem d11_105 : Jp code 105 .ifnull 116 108 := ⟨11, by decide +kernel, by decide, by decide, rfl⟩
theorem d11_108 : Dc code 108 (.aload 10) 2 110 := ⟨by decide +kernel, rfl⟩
theorem d11_110 : Dc code 110 .arraylength 1 111 := ⟨by decide +kernel, rfl⟩
theorem d11_111 : Dc code 111 (.bipush 6) 2 113 := ⟨by decide +kernel, rfl⟩
theorem d11_113 : Jp code 113 (.if_icmp .eq) 118 116 := ⟨5, by decide +kernel, by decide, by decide, rfl⟩
theorem d11_118 : Dc code 118 (.aload 9) 2 120 := ⟨by decide +kernel, rfl⟩
theorem d11_120 : Dc code 120 (.aload 6) 2 122 := ⟨by decide +kernel, rfl⟩
theorem d11_122 : Dc code 122 (.aload 7) 2 124 := ⟨by decide +kernel, rfl⟩
theorem d11_124 : Dc code 124 (.iconst 0) 1 125 := ⟨by decide +kernel, rfl⟩
theorem d11_125 : Dc code 125 (.invokestatic 40) 3 128 := ⟨by decide +kernel, rfl⟩
theorem d11_128 : Jp code 128 (.ifCond .eq) 161 131 := ⟨33, by decide +kernel, by decide, by decide, rfl⟩
theorem d11_131 : Dc code 131 (.aload 9) 2 133 := ⟨by decide +kernel, rfl⟩
theorem d11_133 : Dc code 133 (.aload 6) 2 135 := ⟨by decide +kernel, rfl⟩
theorem d11_135 : Dc code 135 (.aload 7) 2 137 := ⟨by decide +kernel, rfl⟩
theorem d11_137 : Dc code 137 (.iconst 1) 1 138 := ⟨by decide +kernel, rfl⟩
theorem d11_138 : Dc code 138 (.invokestatic 40) 3 141 := ⟨by decide +kernel, rfl⟩
theorem d11_141 : Jp code 141 (.ifCond .eq) 161 144 := ⟨20, by decide +kernel, by decide, by decide, rfl⟩
theorem d11_144 : Dc code 144 (.aload 9) 2 146 := ⟨by decide +kernel, rfl⟩
theorem d11_146 : Dc code 146 (.aload 6) 2 148 := ⟨by decide +kernel, rfl⟩
theorem d11_148 : Dc code 148 (.aload 7) 2 150 := ⟨by decide +kernel, rfl⟩
theorem d11_150 : Dc code 150 (.iconst 2) 1 151 := ⟨by decide +kernel, rfl⟩
theorem d11_151 : Dc code 151 (.invokestatic 40) 3 154 := ⟨by decide +kernel, rfl⟩
theorem d11_154 : Jp code 154 (.ifCond .eq) 161 157 := ⟨7, by decide +kernel, by decide, by decide, rfl⟩
theorem d11_157 : Dc code 157 (.iconst 1) 1 158 := ⟨by decide +kernel, rfl⟩
theorem d11_158 : Jp code 158 .goto 162 161 := ⟨4, by decide +kernel, by decide, by decide, rfl⟩
theorem d11_162 : Dc code 162 (.istore 11) 2 164 := ⟨by decide +kernel, rfl⟩
theorem d11_164 : Dc code 164 (.iload 11) 2 166 := ⟨by decide +kernel, rfl⟩
theorem d11_166 : Jp code 166 (.ifCond .eq) 194 169 := ⟨28, by decide +kernel, by decide, by decide, rfl⟩
theorem d11_169 : Dc code 169 (.aload 10) 2 171 := ⟨by decide +kernel, rfl⟩
theorem d11_171 : Dc code 171 (.iconst 0) 1 172 := ⟨by decide +kernel, rfl⟩
theorem d11_172 : Dc code 172 .laload 1 173 := ⟨by decide +kernel, rfl⟩
theorem d11_173 : Dc code 173 (.iload 4) 2 175 := ⟨by decide +kernel, rfl⟩
theorem d11_175 : Dc code 175 (.iconst 0) 1 176 := ⟨by decide +kernel, rfl⟩
theorem d11_176 : Dc code 176 (.invokestatic 44) 3 179 := ⟨by decide +kernel, rfl⟩
theorem d11_179 : Dc code 179 (.iload 5) 2 181 := ⟨by decide +kernel, rfl⟩
theorem d11_181 : Dc code 181 (.iconst 0) 1 182 := ⟨by decide +kernel, rfl⟩
theorem d11_182 : Dc code 182 (.invokestatic 44) 3 185 := ⟨by decide +kernel, rfl⟩
theorem d11_185 : Dc code 185 .ladd 1 186 := ⟨by decide +kernel, rfl⟩
theorem d11_186 : Dc code 186 .lcmp 1 187 := ⟨by decide +kernel, rfl⟩
theorem d11_187 : Jp code 187 (.ifCond .ne) 194 190 := ⟨7, by decide +kernel, by decide, by decide, rfl⟩
theorem d11_190 : Dc code 190 (.iconst 1) 1 191 := ⟨by decide +kernel, rfl⟩
theorem d11_191 : Jp code 191 .goto 195 194 := ⟨4, by decide +kernel, by decide, by decide, rfl⟩
theorem d11_195 : Dc code 195 (.istore 11) 2 197 := ⟨by decide +kernel, rfl⟩
theorem d11_197 : Dc code 197 (.iload 11) 2 199 := ⟨by decide +kernel, rfl⟩
theorem d11_199 : Jp code 199 (.ifCond .eq) 227 202 := ⟨28, by decide +kernel, by decide, by decide, rfl⟩
theorem d11_202 : Dc code 202 (.aload 10) 2 204 := ⟨by decide +kernel, rfl⟩
theorem d11_204 : Dc code 204 (.iconst 1) 1 205 := ⟨by decide +kernel, rfl⟩
theorem d11_205 : Dc code 205 .laload 1 206 := ⟨by decide +kernel, rfl⟩
theorem d11_206 : Dc code 206 (.iload 4) 2 208 := ⟨by decide +kernel, rfl⟩
theorem d11_208 : Dc code 208 (.iconst 1) 1 209 := ⟨by decide +kernel, rfl⟩
theorem d11_209 : Dc code 209 (.invokestatic 44) 3 212 := ⟨by decide +kernel, rfl⟩
theorem d11_212 : Dc code 212 (.iload 5) 2 214 := ⟨by decide +kernel, rfl⟩
theorem d11_214 : Dc code 214 (.iconst 1) 1 215 := ⟨by decide +kernel, rfl⟩
theorem d11_215 : Dc code 215 (.invokestatic 44) 3 218 := ⟨by decide +kernel, rfl⟩
theorem d11_218 : Dc code 218 .ladd 1 219 := ⟨by decide +kernel, rfl⟩
theorem d11_219 : Dc code 219 .lcmp 1 220 := ⟨by decide +kernel, rfl⟩
theorem d11_220 : Jp code 220 (.ifCond .ne) 227 223 := ⟨7, by decide +kernel, by decide, by decide, rfl⟩
theorem d11_223 : Dc code 223 (.iconst 1) 1 224 := ⟨by decide +kernel, rfl⟩
theorem d11_224 : Jp code 224 .goto 228 227 := ⟨4, by decide +kernel, by decide, by decide, rfl⟩
theorem d11_228 : Dc code 228 (.istore 11) 2 230 := ⟨by decide +kernel, rfl⟩
theorem d11_230 : Dc code 230 (.iload 11) 2 232 := ⟨by decide +kernel, rfl⟩
theorem d11_232 : Jp code 232 (.ifCond .eq) 260 235 := ⟨28, by decide +kernel, by decide, by decide, rfl⟩
theorem d11_235 : Dc code 235 (.aload 10) 2 237 := ⟨by decide +kernel, rfl⟩
theorem d11_237 : Dc code 237 (.iconst 2) 1 238 := ⟨by decide +kernel, rfl⟩
theorem d11_238 : Dc code 238 .laload 1 239 := ⟨by decide +kernel, rfl⟩
theorem d11_239 : Dc code 239 (.iload 4) 2 241 := ⟨by decide +kernel, rfl⟩
theorem d11_241 : Dc code 241 (.iconst 2) 1 242 := ⟨by decide +kernel, rfl⟩
theorem d11_242 : Dc code 242 (.invokestatic 44) 3 245 := ⟨by decide +kernel, rfl⟩
theorem d11_245 : Dc code 245 (.iload 5) 2 247 := ⟨by decide +kernel, rfl⟩
theorem d11_247 : Dc code 247 (.iconst 2) 1 248 := ⟨by decide +kernel, rfl⟩
theorem d11_248 : Dc code 248 (.invokestatic 44) 3 251 := ⟨by decide +kernel, rfl⟩
theorem d11_251 : Dc code 251 .ladd 1 252 := ⟨by decide +kernel, rfl⟩
theorem d11_252 : Dc code 252 .lcmp 1 253 := ⟨by decide +kernel, rfl⟩
theorem d11_253 : Jp code 253 (.ifCond .ne) 260 256 := ⟨7, by decide +kernel, by decide, by decide, rfl⟩
theorem d11_256 : Dc code 256 (.iconst 1) 1 257 := ⟨by decide +kernel, rfl⟩
theorem d11_257 : Jp code 257 .goto 261 260 := ⟨4, by decide +kernel, by decide, by decide, rfl⟩
theorem d11_261 : Dc code 261 (.istore 11) 2 263 := ⟨by decide +kernel, rfl⟩
theorem d11_263 : Dc code 263 (.iload 11) 2 265 := ⟨by decide +kernel, rfl⟩
theorem d11_265 : Jp code 265 (.ifCond .eq) 293 268 := ⟨28, by decide +kernel, by decide, by decide, rfl⟩
theorem d11_268 : Dc code 268 (.aload 10) 2 270 := ⟨by decide +kernel, rfl⟩
theorem d11_270 : Dc code 270 (.iconst 3) 1 271 := ⟨by decide +kernel, rfl⟩
theorem d11_271 : Dc code 271 .laload 1 272 := ⟨by decide +kernel, rfl⟩
theorem d11_272 : Dc code 272 (.iload 4) 2 274 := ⟨by decide +kernel, rfl⟩
theorem d11_274 : Dc code 274 (.iconst 3) 1 275 := ⟨by decide +kernel, rfl⟩
theorem d11_275 : Dc code 275 (.invokestatic 44) 3 278 := ⟨by decide +kernel, rfl⟩
theorem d11_278 : Dc code 278 (.iload 5) 2 280 := ⟨by decide +kernel, rfl⟩
theorem d11_280 : Dc code 280 (.iconst 3) 1 281 := ⟨by decide +kernel, rfl⟩
theorem d11_281 : Dc code 281 (.invokestatic 44) 3 284 := ⟨by decide +kernel, rfl⟩
theorem d11_284 : Dc code 284 .ladd 1 285 := ⟨by decide +kernel, rfl⟩
theorem d11_285 : Dc code 285 .lcmp 1 286 := ⟨by decide +kernel, rfl⟩
theorem d11_286 : Jp code 286 (.ifCond .ne) 293 289 := ⟨7, by decide +kernel, by decide, by decide, rfl⟩
theorem d11_289 : Dc code 289 (.iconst 1) 1 290 := ⟨by decide +kernel, rfl⟩
theorem d11_290 : Jp code 290 .goto 294 293 := ⟨4, by decide +kernel, by decide, by decide, rfl⟩
theorem d11_294 : Dc code 294 (.istore 11) 2 296 := ⟨by decide +kernel, rfl⟩
theorem d11_296 : Dc code 296 (.iload 11) 2 298 := ⟨by decide +kernel, rfl⟩
theorem d11_298 : Jp code 298 (.ifCond .eq) 326 301 := ⟨28, by decide +kernel, by decide, by decide, rfl⟩
theorem d11_301 : Dc code 301 (.aload 10) 2 303 := ⟨by decide +kernel, rfl⟩
theorem d11_303 : Dc code 303 (.iconst 4) 1 304 := ⟨by decide +kernel, rfl⟩
theorem d11_304 : Dc code 304 .laload 1 305 := ⟨by decide +kernel, rfl⟩
theorem d11_305 : Dc code 305 (.iload 4) 2 307 := ⟨by decide +kernel, rfl⟩
theorem d11_307 : Dc code 307 (.iconst 4) 1 308 := ⟨by decide +kernel, rfl⟩
theorem d11_308 : Dc code 308 (.invokestatic 44) 3 311 := ⟨by decide +kernel, rfl⟩
theorem d11_311 : Dc code 311 (.iload 5) 2 313 := ⟨by decide +kernel, rfl⟩
theorem d11_313 : Dc code 313 (.iconst 4) 1 314 := ⟨by decide +kernel, rfl⟩
theorem d11_314 : Dc code 314 (.invokestatic 44) 3 317 := ⟨by decide +kernel, rfl⟩
theorem d11_317 : Dc code 317 .ladd 1 318 := ⟨by decide +kernel, rfl⟩
theorem d11_318 : Dc code 318 .lcmp 1 319 := ⟨by decide +kernel, rfl⟩
theorem d11_319 : Jp code 319 (.ifCond .ne) 326 322 := ⟨7, by decide +kernel, by decide, by decide, rfl⟩
theorem d11_322 : Dc code 322 (.iconst 1) 1 323 := ⟨by decide +kernel, rfl⟩
theorem d11_323 : Jp code 323 .goto 327 326 := ⟨4, by decide +kernel, by decide, by decide, rfl⟩
theorem d11_327 : Dc code 327 (.istore 11) 2 329 := ⟨by decide +kernel, rfl⟩
theorem d11_329 : Dc code 329 (.iload 11) 2 331 := ⟨by decide +kernel, rfl⟩
theorem d11_331 : Jp code 331 (.ifCond .eq) 359 334 := ⟨28, by decide +kernel, by decide, by decide, rfl⟩
theorem d11_334 : Dc code 334 (.aload 10) 2 336 := ⟨by decide +kernel, rfl⟩
theorem d11_336 : Dc code 336 (.iconst 5) 1 337 := ⟨by decide +kernel, rfl⟩
theorem d11_337 : Dc code 337 .laload 1 338 := ⟨by decide +kernel, rfl⟩
theorem d11_338 : Dc code 338 (.iload 4) 2 340 := ⟨by decide +kernel, rfl⟩
theorem d11_340 : Dc code 340 (.iconst 5) 1 341 := ⟨by decide +kernel, rfl⟩
theorem d11_341 : Dc code 341 (.invokestatic 44) 3 344 := ⟨by decide +kernel, rfl⟩
theorem d11_344 : Dc code 344 (.iload 5) 2 346 := ⟨by decide +kernel, rfl⟩
theorem d11_346 : Dc code 346 (.iconst 5) 1 347 := ⟨by decide +kernel, rfl⟩
theorem d11_347 : Dc code 347 (.invokestatic 44) 3 350 := ⟨by decide +kernel, rfl⟩
theorem d11_350 : Dc code 350 .ladd 1 351 := ⟨by decide +kernel, rfl⟩
theorem d11_351 : Dc code 351 .lcmp 1 352 := ⟨by decide +kernel, rfl⟩
theorem d11_352 : Jp code 352 (.ifCond .ne) 359 355 := ⟨7, by decide +kernel, by decide, by decide, rfl⟩
theorem d11_355 : Dc code 355 (.iconst 1) 1 356 := ⟨by decide +kernel, rfl⟩
theorem d11_356 : Jp code 356 .goto 360 359 := ⟨4, by decide +kernel, by decide, by decide, rfl⟩
theorem d11_360 : Dc code 360 (.istore 11) 2 362 := ⟨by decide +kernel, rfl⟩
theorem d11_362 : Dc code 362 (.iload 11) 2 364 := ⟨by decide +kernel, rfl⟩
theorem d11_364 : Dc code 364 .ireturn 1 365 := ⟨by decide +kernel, rfl⟩
theorem d11_365 : Dc code 365 (.iload_n 0) 1 366 := ⟨by decide +kernel, rfl⟩
theorem d11_366 : Dc code 366 (.ldc 13) 2 368 := ⟨by decide +kernel, rfl⟩
theorem d11_368 : Dc code 368 .iand 1 369 := ⟨by decide +kernel, rfl⟩
theorem d11_369 : Dc code 369 (.bipush 7) 2 371 := ⟨by decide +kernel, rfl⟩
theorem d11_371 : Dc code 371 .irem 1 372 := ⟨by decide +kernel, rfl⟩
theorem d11_372 : Dc code 372 (.istore 4) 2 374 := ⟨by decide +kernel, rfl⟩
theorem d11_374 : Dc code 374 (.iload_n 1) 1 375 := ⟨by decide +kernel, rfl⟩
theorem d11_375 : Dc code 375 (.ldc 13) 2 377 := ⟨by decide +kernel, rfl⟩
theorem d11_377 : Dc code 377 .iand 1 378 := ⟨by decide +kernel, rfl⟩
theorem d11_378 : Dc code 378 (.bipush 6) 2 380 := ⟨by decide +kernel, rfl⟩
theorem d11_380 : Dc code 380 .irem 1 381 := ⟨by decide +kernel, rfl⟩
theorem d11_381 : Dc code 381 (.iconst 1) 1 382 := ⟨by decide +kernel, rfl⟩
theorem d11_382 : Dc code 382 .iadd 1 383 := ⟨by decide +kernel, rfl⟩
theorem d11_383 : Dc code 383 (.istore 5) 2 385 := ⟨by decide +kernel, rfl⟩
theorem d11_385 : Dc code 385 (.iload_n 2) 1 386 := ⟨by decide +kernel, rfl⟩
theorem d11_386 : Dc code 386 (.ldc 13) 2 388 := ⟨by decide +kernel, rfl⟩
theorem d11_388 : Dc code 388 .iand 1 389 := ⟨by decide +kernel, rfl⟩
theorem d11_389 : Dc code 389 (.bipush 6) 2 391 := ⟨by decide +kernel, rfl⟩
theorem d11_391 : Dc code 391 .irem 1 392 := ⟨by decide +kernel, rfl⟩
theorem d11_392 : Dc code 392 (.iconst 1) 1 393 := ⟨by decide +kernel, rfl⟩
theorem d11_393 : Dc code 393 .iadd 1 394 := ⟨by decide +kernel, rfl⟩
theorem d11_394 : Dc code 394 (.istore 6) 2 396 := ⟨by decide +kernel, rfl⟩
theorem d11_396 : Dc code 396 (.bipush 7) 2 398 := ⟨by decide +kernel, rfl⟩
theorem d11_398 : Dc code 398 (.newarray .int) 2 400 := ⟨by decide +kernel, rfl⟩
theorem d11_400 : Dc code 400 (.astore 7) 2 402 := ⟨by decide +kernel, rfl⟩
theorem d11_402 : Dc code 402 (.aload 7) 2 404 := ⟨by decide +kernel, rfl⟩
theorem d11_404 : Dc code 404 (.iconst 0) 1 405 := ⟨by decide +kernel, rfl⟩
theorem d11_405 : Dc code 405 (.iload 4) 2 407 := ⟨by decide +kernel, rfl⟩
theorem d11_407 : Dc code 407 (.bipush 7) 2 409 := ⟨by decide +kernel, rfl⟩
theorem d11_409 : Dc code 409 .irem 1 410 := ⟨by decide +kernel, rfl⟩
theorem d11_410 : Dc code 410 .iastore 1 411 := ⟨by decide +kernel, rfl⟩
theorem d11_411 : Dc code 411 (.aload 7) 2 413 := ⟨by decide +kernel, rfl⟩
theorem d11_413 : Dc code 413 (.iconst 1) 1 414 := ⟨by decide +kernel, rfl⟩
theorem d11_414 : Dc code 414 (.iload 5) 2 416 := ⟨by decide +kernel, rfl⟩
theorem d11_416 : Dc code 416 (.iload 4) 2 418 := ⟨by decide +kernel, rfl⟩
theorem d11_418 : Dc code 418 .iadd 1 419 := ⟨by decide +kernel, rfl⟩
theorem d11_419 : Dc code 419 (.bipush 7) 2 421 := ⟨by decide +kernel, rfl⟩
theorem d11_421 : Dc code 421 .irem 1 422 := ⟨by decide +kernel, rfl⟩
theorem d11_422 : Dc code 422 .iastore 1 423 := ⟨by decide +kernel, rfl⟩
theorem d11_423 : Dc code 423 (.aload 7) 2 425 := ⟨by decide +kernel, rfl⟩
theorem d11_425 : Dc code 425 (.iconst 2) 1 426 := ⟨by decide +kernel, rfl⟩
theorem d11_426 : Dc code 426 (.iconst 2) 1 427 := ⟨by decide +kernel, rfl⟩
theorem d11_427 : Dc code 427 (.iload 5) 2 429 := ⟨by decide +kernel, rfl⟩
theorem d11_429 : Dc code 429 .imul 1 430 := ⟨by decide +kernel, rfl⟩
theorem d11_430 : Dc code 430 (.iload 4) 2 432 := ⟨by decide +kernel, rfl⟩
theorem d11_432 : Dc code 432 .iadd 1 433 := ⟨by decide +kernel, rfl⟩
theorem d11_433 : Dc code 433 (.bipush 7) 2 435 := ⟨by decide +kernel, rfl⟩
theorem d11_435 : Dc code 435 .irem 1 436 := ⟨by decide +kernel, rfl⟩
theorem d11_436 : Dc code 436 .iastore 1 437 := ⟨by decide +kernel, rfl⟩
theorem d11_437 : Dc code 437 (.aload 7) 2 439 := ⟨by decide +kernel, rfl⟩
theorem d11_439 : Dc code 439 (.iconst 3) 1 440 := ⟨by decide +kernel, rfl⟩
theorem d11_440 : Dc code 440 (.iconst 3) 1 441 := ⟨by decide +kernel, rfl⟩
theorem d11_441 : Dc code 441 (.iload 5) 2 443 := ⟨by decide +kernel, rfl⟩
theorem d11_443 : Dc code 443 .imul 1 444 := ⟨by decide +kernel, rfl⟩
theorem d11_444 : Dc code 444 (.iload 4) 2 446 := ⟨by decide +kernel, rfl⟩
theorem d11_446 : Dc code 446 .iadd 1 447 := ⟨by decide +kernel, rfl⟩
theorem d11_447 : Dc code 447 (.bipush 7) 2 449 := ⟨by decide +kernel, rfl⟩
theorem d11_449 : Dc code 449 .irem 1 450 := ⟨by decide +kernel, rfl⟩
theorem d11_450 : Dc code 450 .iastore 1 451 := ⟨by decide +kernel, rfl⟩
theorem d11_451 : Dc code 451 (.aload 7) 2 453 := ⟨by decide +kernel, rfl⟩
theorem d11_453 : Dc code 453 (.iconst 4) 1 454 := ⟨by decide +kernel, rfl⟩
theorem d11_454 : Dc code 454 (.iconst 4) 1 455 := ⟨by decide +kernel, rfl⟩
theorem d11_455 : Dc code 455 (.iload 5) 2 457 := ⟨by decide +kernel, rfl⟩
theorem d11_457 : Dc code 457 .imul 1 458 := ⟨by decide +kernel, rfl⟩
theorem d11_458 : Dc code 458 (.iload 4) 2 460 := ⟨by decide +kernel, rfl⟩
theorem d11_460 : Dc code 460 .iadd 1 461 := ⟨by decide +kernel, rfl⟩
theorem d11_461 : Dc code 461 (.bipush 7) 2 463 := ⟨by decide +kernel, rfl⟩
theorem d11_463 : Dc code 463 .irem 1 464 := ⟨by decide +kernel, rfl⟩
theorem d11_464 : Dc code 464 .iastore 1 465 := ⟨by decide +kernel, rfl⟩
theorem d11_465 : Dc code 465 (.aload 7) 2 467 := ⟨by decide +kernel, rfl⟩
theorem d11_467 : Dc code 467 (.iconst 5) 1 468 := ⟨by decide +kernel, rfl⟩
theorem d11_468 : Dc code 468 (.iconst 5) 1 469 := ⟨by decide +kernel, rfl⟩
theorem d11_469 : Dc code 469 (.iload 5) 2 471 := ⟨by decide +kernel, rfl⟩
theorem d11_471 : Dc code 471 .imul 1 472 := ⟨by decide +kernel, rfl⟩
theorem d11_472 : Dc code 472 (.iload 4) 2 474 := ⟨by decide +kernel, rfl⟩
theorem d11_474 : Dc code 474 .iadd 1 475 := ⟨by decide +kernel, rfl⟩
theorem d11_475 : Dc code 475 (.bipush 7) 2 477 := ⟨by decide +kernel, rfl⟩
theorem d11_477 : Dc code 477 .irem 1 478 := ⟨by decide +kernel, rfl⟩
theorem d11_478 : Dc code 478 .iastore 1 479 := ⟨by decide +kernel, rfl⟩
theorem d11_479 : Dc code 479 (.aload 7) 2 481 := ⟨by decide +kernel, rfl⟩
theorem d11_481 : Dc code 481 (.bipush 6) 2 483 := ⟨by decide +kernel, rfl⟩
theorem d11_483 : Dc code 483 (.bipush 6) 2 485 := ⟨by decide +kernel, rfl⟩
theorem d11_485 : Dc code 485 (.iload 5) 2 487 := ⟨by decide +kernel, rfl⟩
theorem d11_487 : Dc code 487 .imul 1 488 := ⟨by decide +kernel, rfl⟩
theorem d11_488 : Dc code 488 (.iload 4) 2 490 := ⟨by decide +kernel, rfl⟩
theorem d11_490 : Dc code 490 .iadd 1 491 := ⟨by decide +kernel, rfl⟩
theorem d11_491 : Dc code 491 (.bipush 7) 2 493 := ⟨by decide +kernel, rfl⟩
theorem d11_493 : Dc code 493 .irem 1 494 := ⟨by decide +kernel, rfl⟩
theorem d11_494 : Dc code 494 .iastore 1 495 := ⟨by decide +kernel, rfl⟩
theorem d11_495 : Dc code 495 (.new 18) 3 498 := ⟨by decide +kernel, rfl⟩
theorem d11_498 : Dc code 498 .dup 1 499 := ⟨by decide +kernel, rfl⟩
theorem d11_499 : Dc code 499 (.bipush 7) 2 501 := ⟨by decide +kernel, rfl⟩
theorem d11_501 : Dc code 501 (.invokespecial 20) 3 504 := ⟨by decide +kernel, rfl⟩
theorem d11_504 : Dc code 504 (.astore 8) 2 506 := ⟨by decide +kernel, rfl⟩
theorem d11_506 : Dc code 506 (.aload 8) 2 508 := ⟨by decide +kernel, rfl⟩
theorem d11_508 : Dc code 508 (.aload 7) 2 510 := ⟨by decide +kernel, rfl⟩
theorem d11_510 : Dc code 510 (.invokevirtual 23) 3 513 := ⟨by decide +kernel, rfl⟩
theorem d11_513 : Dc code 513 (.aload 8) 2 515 := ⟨by decide +kernel, rfl⟩
theorem d11_515 : Dc code 515 (.invokevirtual 27) 3 518 := ⟨by decide +kernel, rfl⟩
theorem d11_518 : Dc code 518 (.lconst 1) 1 519 := ⟨by decide +kernel, rfl⟩
theorem d11_519 : Dc code 519 .lcmp 1 520 := ⟨by decide +kernel, rfl⟩
theorem d11_520 : Jp code 520 (.ifCond .eq) 525 523 := ⟨5, by decide +kernel, by decide, by decide, rfl⟩
theorem d11_525 : Dc code 525 (.aload 8) 2 527 := ⟨by decide +kernel, rfl⟩
theorem d11_527 : Dc code 527 (.invokevirtual 37) 3 530 := ⟨by decide +kernel, rfl⟩
theorem d11_530 : Jp code 530 .ifnull 535 533 := ⟨5, by decide +kernel, by decide, by decide, rfl⟩
theorem d11_535 : Dc code 535 (.aload 8) 2 537 := ⟨by decide +kernel, rfl⟩
theorem d11_537 : Dc code 537 (.invokevirtual 33) 3 540 := ⟨by decide +kernel, rfl⟩
theorem d11_540 : Dc code 540 (.astore 9) 2 542 := ⟨by decide +kernel, rfl⟩
theorem d11_542 : Dc code 542 (.aload 9) 2 544 := ⟨by decide +kernel, rfl⟩
theorem d11_544 : Jp code 544 .ifnull 555 547 := ⟨11, by decide +kernel, by decide, by decide, rfl⟩
theorem d11_547 : Dc code 547 (.aload 9) 2 549 := ⟨by decide +kernel, rfl⟩
theorem d11_549 : Dc code 549 .arraylength 1 550 := ⟨by decide +kernel, rfl⟩
theorem d11_550 : Dc code 550 (.bipush 49) 2 552 := ⟨by decide +kernel, rfl⟩
theorem d11_552 : Jp code 552 (.if_icmp .eq) 557 555 := ⟨5, by decide +kernel, by decide, by decide, rfl⟩
theorem d11_557 : Dc code 557 (.aload 9) 2 559 := ⟨by decide +kernel, rfl⟩
theorem d11_559 : Dc code 559 (.aload 7) 2 561 := ⟨by decide +kernel, rfl⟩
theorem d11_561 : Dc code 561 (.iconst 0) 1 562 := ⟨by decide +kernel, rfl⟩
theorem d11_562 : Dc code 562 (.iload 6) 2 564 := ⟨by decide +kernel, rfl⟩
theorem d11_564 : Dc code 564 (.invokestatic 48) 3 567 := ⟨by decide +kernel, rfl⟩
theorem d11_567 : Jp code 567 (.ifCond .eq) 653 570 := ⟨86, by decide +kernel, by decide, by decide, rfl⟩
theorem d11_570 : Dc code 570 (.aload 9) 2 572 := ⟨by decide +kernel, rfl⟩
theorem d11_572 : Dc code 572 (.aload 7) 2 574 := ⟨by decide +kernel, rfl⟩
theorem d11_574 : Dc code 574 (.iconst 1) 1 575 := ⟨by decide +kernel, rfl⟩
theorem d11_575 : Dc code 575 (.iload 6) 2 577 := ⟨by decide +kernel, rfl⟩
theorem d11_577 : Dc code 577 (.invokestatic 48) 3 580 := ⟨by decide +kernel, rfl⟩
theorem d11_580 : Jp code 580 (.ifCond .eq) 653 583 := ⟨73, by decide +kernel, by decide, by decide, rfl⟩
theorem d11_583 : Dc code 583 (.aload 9) 2 585 := ⟨by decide +kernel, rfl⟩
theorem d11_585 : Dc code 585 (.aload 7) 2 587 := ⟨by decide +kernel, rfl⟩
theorem d11_587 : Dc code 587 (.iconst 2) 1 588 := ⟨by decide +kernel, rfl⟩
theorem d11_588 : Dc code 588 (.iload 6) 2 590 := ⟨by decide +kernel, rfl⟩
theorem d11_590 : Dc code 590 (.invokestatic 48) 3 593 := ⟨by decide +kernel, rfl⟩
theorem d11_593 : Jp code 593 (.ifCond .eq) 653 596 := ⟨60, by decide +kernel, by decide, by decide, rfl⟩
theorem d11_596 : Dc code 596 (.aload 9) 2 598 := ⟨by decide +kernel, rfl⟩
theorem d11_598 : Dc code 598 (.aload 7) 2 600 := ⟨by decide +kernel, rfl⟩
theorem d11_600 : Dc code 600 (.iconst 3) 1 601 := ⟨by decide +kernel, rfl⟩
theorem d11_601 : Dc code 601 (.iload 6) 2 603 := ⟨by decide +kernel, rfl⟩
theorem d11_603 : Dc code 603 (.invokestatic 48) 3 606 := ⟨by decide +kernel, rfl⟩
theorem d11_606 : Jp code 606 (.ifCond .eq) 653 609 := ⟨47, by decide +kernel, by decide, by decide, rfl⟩
theorem d11_609 : Dc code 609 (.aload 9) 2 611 := ⟨by decide +kernel, rfl⟩
theorem d11_611 : Dc code 611 (.aload 7) 2 613 := ⟨by decide +kernel, rfl⟩
theorem d11_613 : Dc code 613 (.iconst 4) 1 614 := ⟨by decide +kernel, rfl⟩
theorem d11_614 : Dc code 614 (.iload 6) 2 616 := ⟨by decide +kernel, rfl⟩
theorem d11_616 : Dc code 616 (.invokestatic 48) 3 619 := ⟨by decide +kernel, rfl⟩
theorem d11_619 : Jp code 619 (.ifCond .eq) 653 622 := ⟨34, by decide +kernel, by decide, by decide, rfl⟩
theorem d11_622 : Dc code 622 (.aload 9) 2 624 := ⟨by decide +kernel, rfl⟩
theorem d11_624 : Dc code 624 (.aload 7) 2 626 := ⟨by decide +kernel, rfl⟩
theorem d11_626 : Dc code 626 (.iconst 5) 1 627 := ⟨by decide +kernel, rfl⟩
theorem d11_627 : Dc code 627 (.iload 6) 2 629 := ⟨by decide +kernel, rfl⟩
theorem d11_629 : Dc code 629 (.invokestatic 48) 3 632 := ⟨by decide +kernel, rfl⟩
theorem d11_632 : Jp code 632 (.ifCond .eq) 653 635 := ⟨21, by decide +kernel, by decide, by decide, rfl⟩
theorem d11_635 : Dc code 635 (.aload 9) 2 637 := ⟨by decide +kernel, rfl⟩
theorem d11_637 : Dc code 637 (.aload 7) 2 639 := ⟨by decide +kernel, rfl⟩
theorem d11_639 : Dc code 639 (.bipush 6) 2 641 := ⟨by decide +kernel, rfl⟩
theorem d11_641 : Dc code 641 (.iload 6) 2 643 := ⟨by decide +kernel, rfl⟩
theorem d11_643 : Dc code 643 (.invokestatic 48) 3 646 := ⟨by decide +kernel, rfl⟩
theorem d11_646 : Jp code 646 (.ifCond .eq) 653 649 := ⟨7, by decide +kernel, by decide, by decide, rfl⟩
theorem d11_649 : Dc code 649 (.iconst 1) 1 650 := ⟨by decide +kernel, rfl⟩
theorem d11_650 : Jp code 650 .goto 654 653 := ⟨4, by decide +kernel, by decide, by decide, rfl⟩
theorem d11_654 : Dc code 654 .ireturn 1 655 := ⟨by decide +kernel, rfl⟩
theorem pn0 : plainFor (⟨"com/example/evenhand/evenhand/DeckTally", "<init>", "(I)V"⟩ : MethodName) = true := plainFor_of_name (by first | (simp [plainName, overriddenIn]; done) | decide +kernel)
theorem pn1 : plainFor (⟨"com/example/evenhand/evenhand/DeckTally", "decks", "()J"⟩ : MethodName) = true := plainFor_of_name (by first | (simp [plainName, overriddenIn]; done) | decide +kernel)
theorem pn2 : plainFor (⟨"com/example/evenhand/evenhand/DeckTally", "orders", "()[J"⟩ : MethodName) = true := plainFor_of_name (by first | (simp [plainName, overriddenIn]; done) | decide +kernel)
theorem pn3 : plainFor (⟨"com/example/evenhand/evenhand/DeckTally", "positions", "()[J"⟩ : MethodName) = true := plainFor_of_name (by first | (simp [plainName, overriddenIn]; done) | decide +kernel)
theorem pn4 : plainFor (⟨"com/example/evenhand/evenhand/DeckTally", "rank", "([I)I"⟩ : MethodName) = true := plainFor_of_name (by first | (simp [plainName, overriddenIn]; done) | decide +kernel)
theorem pn5 : plainFor (⟨"com/example/evenhand/evenhand/DeckTally", "add", "([I)V"⟩ : MethodName) = true := plainFor_of_name (by first | (simp [plainName, overriddenIn]; done) | decide +kernel)
theorem pd0 : parseMethodDescriptor "([I)I" = some ⟨[(.array .int)], some .int⟩ := by decide +kernel
theorem pn6 : plainFor (⟨"com/example/evenhand/evenhand/DeckTallyAddPinLaw", "perm3", "(I)[I"⟩ : MethodName) = true := plainFor_of_name (by first | (simp [plainName, overriddenIn]; done) | decide +kernel)
theorem pn7 : plainFor (⟨"com/example/evenhand/evenhand/DeckTallyAddPinLaw", "hit", "([III)J"⟩ : MethodName) = true := plainFor_of_name (by first | (simp [plainName, overriddenIn]; done) | decide +kernel)
theorem pn8 : plainFor (⟨"com/example/evenhand/evenhand/DeckTallyAddPinLaw", "same", "(II)J"⟩ : MethodName) = true := plainFor_of_name (by first | (simp [plainName, overriddenIn]; done) | decide +kernel)
theorem pn9 : plainFor (⟨"com/example/evenhand/evenhand/DeckTallyAddPinLaw", "row3", "([J[I[II)Z"⟩ : MethodName) = true := plainFor_of_name (by first | (simp [plainName, overriddenIn]; done) | decide +kernel)
theorem pd1 : parseMethodDescriptor "([III)J" = some ⟨[(.array .int), .int, .int], some .long⟩ := by decide +kernel
theorem pn10 : plainFor (⟨"com/example/evenhand/evenhand/DeckTallyAddPinLaw", "col7", "([J[III)Z"⟩ : MethodName) = true := plainFor_of_name (by first | (simp [plainName, overriddenIn]; done) | decide +kernel)
theorem pn11 : plainFor x = true := plainFor_of_name (by first | (simp [plainName, overriddenIn]; done) | decide +kernel)
theorem pd2 : parseMethodDescriptor "(I)V" = some ⟨[.int], none⟩ := by decide +kernel
theorem pd3 : parseMethodDescriptor "([I)V" = some ⟨[(.array .int)], none⟩ := by decide +kernel
theorem pd4 : parseMethodDescriptor "()J" = some ⟨[], some .long⟩ := by decide +kernel
theorem pd5 : parseMethodDescriptor "()[J" = some ⟨[], some (.array .long)⟩ := by decide +kernel
theorem pd6 : parseMethodDescriptor "([J[III)Z" = some ⟨[(.array .long), (.array .int), .int, .int], some .boolean⟩ := by decide +kernel
theorem pd7 : parseMethodDescriptor "(I)[I" = some ⟨[.int], some (.array .int)⟩ := by decide +kernel
theorem pd8 : parseMethodDescriptor "([J[I[II)Z" = some ⟨[(.array .long), (.array .int), (.array .int), .int], some .boolean⟩ := by decide +kernel
theorem pd9 : parseMethodDescriptor "(II)J" = some ⟨[.int, .int], some .long⟩ := by decide +kernel
set_option maxRecDepth 65536 in
set_option maxHeartbeats 40000000 in
theorem rmI3 (Z : State) (a0 : Array Value) (hw : ∀ d ∈ tables_1, d.before a0 Z = true) (a : Addr) (h0 : Heap) (n0 : Nat) (Z0 : n0 ≤ h0.size) (v0 v1 v2 : Value) (fa : Addr) (F0 : Fld Z h0 a "com/example/evenhand/evenhand/DeckTally" "items" "I" v0) (G0 : Fld Z h0 a "com/example/evenhand/evenhand/DeckTally" "positions" "[J" v1) (H0f : Fld Z h0 a "com/example/evenhand/evenhand/DeckTally" "orders" "[J" v2) (D0 : Fld Z h0 a "com/example/evenhand/evenhand/DeckTally" "decks" "J" (.long 0)) (E0 : Exa Z h0 a "com/example/evenhand/evenhand/DeckTally") (g0 : n0 ≤ a) (SF : Sta Z h0 "com/example/evenhand/evenhand/DeckTally" "FACTORIALS" "[I" (.ref fa)) (AF : IA Z h0 fa [1, 1, 2, 6, 24, 120, 720]) (hfa : fa < n0) (lau : Launch) :
    Con lau Z (⟨"com/example/evenhand/evenhand/DeckTally", "<init>", "(I)V"⟩ : MethodName) prog_6_method_1_code 2 none ({ frames := 1, cells := 2, slots := 15, locals := 12 } : Room) #[(.ref a), (.int 3)] h0 n0 (RV fun h => ∃ p o, n0 ≤ p ∧ n0 ≤ o ∧ h0.size ≤ p ∧ h0.size ≤ o ∧ p ≠ o ∧ a ≠ p ∧ a ≠ o ∧ DT Z h a 3 p (.ref o) 0 ∧ JA Z h p (List.replicate 9 0) ∧ JA Z h o (List.replicate 6 0) ∧ Keep h0 h [a]) := by
  refine con_intro pn0 (L := #[.val (.ref a), .val (.int 3)]) (fun m => by first | (simp [entryFrame, mkF, argsToLocals, Value.category, maxLocals]; done) | rfl) Z0 (fun w T K H => ?_)
  have EE := E0
  have KK : Keep h0 h0 [a] := Keep.refl _ _
  refine go_aloadN K H d0_0 rfl rfl ?_
  refine go_initO K H d0_1 (hw _ (List.mem_of_getElem? (i := 8) rfl)) (hw _ (List.mem_of_getElem? (i := 9) rfl)) (hw _ (List.mem_of_getElem? (i := 10) rfl)) rfl (by decide) (W := 0) rfl (by decide) fun T1 HT1 => ?_
  refine go_aloadN K HT1 d0_4 rfl rfl ?_
  refine go_iloadN K HT1 d0_5 rfl ?_
  refine go_putfield K HT1 d0_6 (host := "") (Or.inl (hw _ (List.mem_of_getElem? (i := 11) rfl))) Via.refl (F0) (EE) (Or.inr ⟨(hw _ (List.mem_of_getElem? (i := 12) rfl)), rfl, rfl⟩) (hw _ (List.mem_of_getElem? (i := 3) rfl)) (ty := .int) (by decide) rfl rfl (g0) fun T2 h2 H2 W2 => ?_
  replace F0 := F0.same W2
  replace G0 := G0.other W2 (Or.inr (slot_ne (Z := Z) (a0 := a0) (Or.inr (hw _ (List.mem_of_getElem? (i := 15) rfl))) (Or.inr (hw _ (List.mem_of_getElem? (i := 12) rfl))) (by decide) (t := (.array .long)) (by decide) (t' := .int) (by decide)))
  replace H0f := H0f.other W2 (Or.inr (slot_ne (Z := Z) (a0 := a0) (Or.inr (hw _ (List.mem_of_getElem? (i := 17) rfl))) (Or.inr (hw _ (List.mem_of_getElem? (i := 12) rfl))) (by decide) (t := (.array .long)) (by decide) (t' := .int) (by decide)))
  replace D0 := D0.other W2 (Or.inr (slot_ne (Z := Z) (a0 := a0) (Or.inl (hw _ (List.mem_of_getElem? (i := 24) rfl))) (Or.inr (hw _ (List.mem_of_getElem? (i := 12) rfl))) (by decide) (t := .long) (by decide) (t' := .int) (by decide)))
  replace EE := EE.wr W2; replace SF := SF.wr W2; replace AF := AF.other W2 (ne_lt hfa g0)
  replace KK : Keep h0 h2 [a] := KK.wr W2 (Or.inl (List.mem_singleton.mpr rfl))
  refine go_aloadN K H2 d0_9 rfl rfl ?_
  refine go_iloadN K H2 d0_10 rfl ?_
  refine go_iloadN K H2 d0_11 rfl ?_
  refine go_imul K H2 d0_12 fun v3 ev3 => ?_
  obtain rfl : v3 = (9 : Int32) := ev3.trans (by decide)
  have hhp : h0.size ≤ h2.size := KK.1
  refine go_newarray 9 K H2 d0_13 (hw _ (List.mem_of_getElem? (i := 13) rfl)) (by decide) (by decide) (by decide) (by decide) (by decide) fun T4 h4 p H4 g4 l4 E4 A4 => ?_
  replace F0 := F0.ext E4
  replace G0 := G0.ext E4
  replace H0f := H0f.ext E4
  replace D0 := D0.ext E4
  have nep : a ≠ p := Nat.ne_of_lt (g4 ▸ Nat.lt_of_lt_of_le E0.lt hhp)
  replace EE := EE.ext E4; replace SF := SF.ext E4; replace AF := AF.ext E4; replace KK := KK.ext E4
  have Bp : JA Z h4 p (List.replicate 9 0) := A4
  have hsp : h0.size ≤ p := g4 ▸ hhp
  refine go_putfield K H4 d0_15 (host := "") (Or.inl (hw _ (List.mem_of_getElem? (i := 14) rfl))) Via.refl (G0) (EE) (Or.inr ⟨(hw _ (List.mem_of_getElem? (i := 15) rfl)), rfl, rfl⟩) (hw _ (List.mem_of_getElem? (i := 3) rfl)) (ty := (.array .long)) (by decide) rfl rfl (g0) fun T5 h5 H5 W5 => ?_
  replace F0 := F0.other W5 (Or.inr (slot_ne (Z := Z) (a0 := a0) (Or.inr (hw _ (List.mem_of_getElem? (i := 12) rfl))) (Or.inr (hw _ (List.mem_of_getElem? (i := 15) rfl))) (by decide) (t := .int) (by decide) (t' := (.array .long)) (by decide)))
  replace G0 := G0.same W5
  replace H0f := H0f.other W5 (Or.inr (slot_ne (Z := Z) (a0 := a0) (Or.inr (hw _ (List.mem_of_getElem? (i := 17) rfl))) (Or.inr (hw _ (List.mem_of_getElem? (i := 15) rfl))) (by decide) (t := (.array .long)) (by decide) (t' := (.array .long)) (by decide)))
  replace D0 := D0.other W5 (Or.inr (slot_ne (Z := Z) (a0 := a0) (Or.inl (hw _ (List.mem_of_getElem? (i := 24) rfl))) (Or.inr (hw _ (List.mem_of_getElem? (i := 15) rfl))) (by decide) (t := .long) (by decide) (t' := (.array .long)) (by decide)))
  replace EE := EE.wr W5; replace SF := SF.wr W5; replace AF := AF.other W5 (ne_lt hfa g0)
  replace KK : Keep h0 h5 [a] := KK.wr W5 (Or.inl (List.mem_singleton.mpr rfl))
  replace Bp := Bp.other W5 nep.symm
  refine go_iloadN K H5 d0_18 rfl ?_
  refine go_bipush (6) K H5 d0_19 (by decide) ?_
  refine go_icmp_gt K H5 d0_21 (fun cc => False.elim (by exact absurd cc (by decide))) (fun cc => ?_)
  refine go_aloadN K H5 d0_24 rfl rfl ?_
  refine go_getstatic K H5 d0_25 (host := "") (Or.inl (hw _ (List.mem_of_getElem? (i := 47) rfl))) Via.refl (SF) fun T6 HT6 => ?_
  refine go_iloadN K HT6 d0_28 rfl ?_
  refine go_iaload (3) K HT6 d0_29 (AF) (by decide) (rfl) ?_
  have hho : h0.size ≤ h5.size := KK.1
  refine go_newarray 6 K HT6 d0_30 (hw _ (List.mem_of_getElem? (i := 13) rfl)) (by decide) (by decide) (by decide) (by decide) (by decide) fun T7 h7 o H7 g7 l7 E7 A7 => ?_
  replace F0 := F0.ext E7
  replace G0 := G0.ext E7
  replace H0f := H0f.ext E7
  replace D0 := D0.ext E7
  have neo : a ≠ o := Nat.ne_of_lt (g7 ▸ Nat.lt_of_lt_of_le E0.lt hho)
  replace EE := EE.ext E7; replace SF := SF.ext E7; replace AF := AF.ext E7; replace KK := KK.ext E7
  have Bo : JA Z h7 o (List.replicate 6 0) := A7
  have hso : h0.size ≤ o := g7 ▸ hho
  have npo : p ≠ o := Nat.ne_of_lt (g7 ▸ VA.lt Bp)
  replace Bp := Bp.ext E7
  refine go_putfield K H7 d0_32 (host := "") (Or.inl (hw _ (List.mem_of_getElem? (i := 16) rfl))) Via.refl (H0f) (EE) (Or.inr ⟨(hw _ (List.mem_of_getElem? (i := 17) rfl)), rfl, rfl⟩) (hw _ (List.mem_of_getElem? (i := 3) rfl)) (ty := (.array .long)) (by decide) rfl rfl (g0) fun T8 h8 H8 W8 => ?_
  replace F0 := F0.other W8 (Or.inr (slot_ne (Z := Z) (a0 := a0) (Or.inr (hw _ (List.mem_of_getElem? (i := 12) rfl))) (Or.inr (hw _ (List.mem_of_getElem? (i := 17) rfl))) (by decide) (t := .int) (by decide) (t' := (.array .long)) (by decide)))
  replace G0 := G0.other W8 (Or.inr (slot_ne (Z := Z) (a0 := a0) (Or.inr (hw _ (List.mem_of_getElem? (i := 15) rfl))) (Or.inr (hw _ (List.mem_of_getElem? (i := 17) rfl))) (by decide) (t := (.array .long)) (by decide) (t' := (.array .long)) (by decide)))
  replace H0f := H0f.same W8
  replace D0 := D0.other W8 (Or.inr (slot_ne (Z := Z) (a0 := a0) (Or.inl (hw _ (List.mem_of_getElem? (i := 24) rfl))) (Or.inr (hw _ (List.mem_of_getElem? (i := 17) rfl))) (by decide) (t := .long) (by decide) (t' := (.array .long)) (by decide)))
  replace EE := EE.wr W8; replace SF := SF.wr W8; replace AF := AF.other W8 (ne_lt hfa g0)
  replace KK : Keep h0 h8 [a] := KK.wr W8 (Or.inl (List.mem_singleton.mpr rfl))
  replace Bp := Bp.other W8 nep.symm; replace Bo := Bo.other W8 neo.symm
  refine go_goto K H8 d0_35 ?_
  exact go_ret K H8 d0_43 rfl (by decide) (by decide) (⟨p, o, l4, l7, hsp, hso, npo, nep, neo, ⟨EE, F0, G0, H0f, D0⟩, Bp, Bo, KK⟩)
set_option maxRecDepth 65536 in
set_option maxHeartbeats 40000000 in
theorem rmI7 (Z : State) (a0 : Array Value) (hw : ∀ d ∈ tables_1, d.before a0 Z = true) (a : Addr) (h0 : Heap) (n0 : Nat) (Z0 : n0 ≤ h0.size) (v0 v1 v2 : Value) (fa : Addr) (F0 : Fld Z h0 a "com/example/evenhand/evenhand/DeckTally" "items" "I" v0) (G0 : Fld Z h0 a "com/example/evenhand/evenhand/DeckTally" "positions" "[J" v1) (H0f : Fld Z h0 a "com/example/evenhand/evenhand/DeckTally" "orders" "[J" v2) (D0 : Fld Z h0 a "com/example/evenhand/evenhand/DeckTally" "decks" "J" (.long 0)) (E0 : Exa Z h0 a "com/example/evenhand/evenhand/DeckTally") (g0 : n0 ≤ a) (SF : Sta Z h0 "com/example/evenhand/evenhand/DeckTally" "FACTORIALS" "[I" (.ref fa)) (AF : IA Z h0 fa [1, 1, 2, 6, 24, 120, 720]) (hfa : fa < n0) (lau : Launch) :
    Con lau Z (⟨"com/example/evenhand/evenhand/DeckTally", "<init>", "(I)V"⟩ : MethodName) prog_6_method_1_code 2 none ({ frames := 1, cells := 1, slots := 49, locals := 12 } : Room) #[(.ref a), (.int 7)] h0 n0 (RV fun h => ∃ p, n0 ≤ p ∧ h0.size ≤ p ∧ a ≠ p ∧ DT Z h a 7 p .null 0 ∧ JA Z h p (List.replicate 49 0) ∧ Keep h0 h [a]) := by
  refine con_intro pn0 (L := #[.val (.ref a), .val (.int 7)]) (fun m => by first | (simp [entryFrame, mkF, argsToLocals, Value.category, maxLocals]; done) | rfl) Z0 (fun w T K H => ?_)
  have EE := E0
  have KK : Keep h0 h0 [a] := Keep.refl _ _
  refine go_aloadN K H d0_0 rfl rfl ?_
  refine go_initO K H d0_1 (hw _ (List.mem_of_getElem? (i := 8) rfl)) (hw _ (List.mem_of_getElem? (i := 9) rfl)) (hw _ (List.mem_of_getElem? (i := 10) rfl)) rfl (by decide) (W := 0) rfl (by decide) fun T1 HT1 => ?_
  refine go_aloadN K HT1 d0_4 rfl rfl ?_
  refine go_iloadN K HT1 d0_5 rfl ?_
  refine go_putfield K HT1 d0_6 (host := "") (Or.inl (hw _ (List.mem_of_getElem? (i := 11) rfl))) Via.refl (F0) (EE) (Or.inr ⟨(hw _ (List.mem_of_getElem? (i := 12) rfl)), rfl, rfl⟩) (hw _ (List.mem_of_getElem? (i := 3) rfl)) (ty := .int) (by decide) rfl rfl (g0) fun T2 h2 H2 W2 => ?_
  replace F0 := F0.same W2
  replace G0 := G0.other W2 (Or.inr (slot_ne (Z := Z) (a0 := a0) (Or.inr (hw _ (List.mem_of_getElem? (i := 15) rfl))) (Or.inr (hw _ (List.mem_of_getElem? (i := 12) rfl))) (by decide) (t := (.array .long)) (by decide) (t' := .int) (by decide)))
  replace H0f := H0f.other W2 (Or.inr (slot_ne (Z := Z) (a0 := a0) (Or.inr (hw _ (List.mem_of_getElem? (i := 17) rfl))) (Or.inr (hw _ (List.mem_of_getElem? (i := 12) rfl))) (by decide) (t := (.array .long)) (by decide) (t' := .int) (by decide)))
  replace D0 := D0.other W2 (Or.inr (slot_ne (Z := Z) (a0 := a0) (Or.inl (hw _ (List.mem_of_getElem? (i := 24) rfl))) (Or.inr (hw _ (List.mem_of_getElem? (i := 12) rfl))) (by decide) (t := .long) (by decide) (t' := .int) (by decide)))
  replace EE := EE.wr W2; replace SF := SF.wr W2; replace AF := AF.other W2 (ne_lt hfa g0)
  replace KK : Keep h0 h2 [a] := KK.wr W2 (Or.inl (List.mem_singleton.mpr rfl))
  refine go_aloadN K H2 d0_9 rfl rfl ?_
  refine go_iloadN K H2 d0_10 rfl ?_
  refine go_iloadN K H2 d0_11 rfl ?_
  refine go_imul K H2 d0_12 fun v3 ev3 => ?_
  obtain rfl : v3 = (49 : Int32) := ev3.trans (by decide)
  have hhp : h0.size ≤ h2.size := KK.1
  refine go_newarray 49 K H2 d0_13 (hw _ (List.mem_of_getElem? (i := 13) rfl)) (by decide) (by decide) (by decide) (by decide) (by decide) fun T4 h4 p H4 g4 l4 E4 A4 => ?_
  replace F0 := F0.ext E4
  replace G0 := G0.ext E4
  replace H0f := H0f.ext E4
  replace D0 := D0.ext E4
  have nep : a ≠ p := Nat.ne_of_lt (g4 ▸ Nat.lt_of_lt_of_le E0.lt hhp)
  replace EE := EE.ext E4; replace SF := SF.ext E4; replace AF := AF.ext E4; replace KK := KK.ext E4
  have Bp : JA Z h4 p (List.replicate 49 0) := A4
  have hsp : h0.size ≤ p := g4 ▸ hhp
  refine go_putfield K H4 d0_15 (host := "") (Or.inl (hw _ (List.mem_of_getElem? (i := 14) rfl))) Via.refl (G0) (EE) (Or.inr ⟨(hw _ (List.mem_of_getElem? (i := 15) rfl)), rfl, rfl⟩) (hw _ (List.mem_of_getElem? (i := 3) rfl)) (ty := (.array .long)) (by decide) rfl rfl (g0) fun T5 h5 H5 W5 => ?_
  replace F0 := F0.other W5 (Or.inr (slot_ne (Z := Z) (a0 := a0) (Or.inr (hw _ (List.mem_of_getElem? (i := 12) rfl))) (Or.inr (hw _ (List.mem_of_getElem? (i := 15) rfl))) (by decide) (t := .int) (by decide) (t' := (.array .long)) (by decide)))
  replace G0 := G0.same W5
  replace H0f := H0f.other W5 (Or.inr (slot_ne (Z := Z) (a0 := a0) (Or.inr (hw _ (List.mem_of_getElem? (i := 17) rfl))) (Or.inr (hw _ (List.mem_of_getElem? (i := 15) rfl))) (by decide) (t := (.array .long)) (by decide) (t' := (.array .long)) (by decide)))
  replace D0 := D0.other W5 (Or.inr (slot_ne (Z := Z) (a0 := a0) (Or.inl (hw _ (List.mem_of_getElem? (i := 24) rfl))) (Or.inr (hw _ (List.mem_of_getElem? (i := 15) rfl))) (by decide) (t := .long) (by decide) (t' := (.array .long)) (by decide)))
  replace EE := EE.wr W5; replace SF := SF.wr W5; replace AF := AF.other W5 (ne_lt hfa g0)
  replace KK : Keep h0 h5 [a] := KK.wr W5 (Or.inl (List.mem_singleton.mpr rfl))
  replace Bp := Bp.other W5 nep.symm
  refine go_iloadN K H5 d0_18 rfl ?_
  refine go_bipush (6) K H5 d0_19 (by decide) ?_
  refine go_icmp_gt K H5 d0_21 (fun cc => ?_) (fun cc => False.elim (by first | exact absurd cc (by decide) | exact cc (by decide)))
  refine go_aloadN K H5 d0_38 rfl rfl ?_
  refine go_null K H5 d0_39 ?_
  refine go_putfield K H5 d0_40 (host := "") (Or.inl (hw _ (List.mem_of_getElem? (i := 16) rfl))) Via.refl (H0f) (EE) (Or.inr ⟨(hw _ (List.mem_of_getElem? (i := 17) rfl)), rfl, rfl⟩) (hw _ (List.mem_of_getElem? (i := 3) rfl)) (ty := (.array .long)) (by decide) rfl rfl (g0) fun T6 h6 H6 W6 => ?_
  replace F0 := F0.other W6 (Or.inr (slot_ne (Z := Z) (a0 := a0) (Or.inr (hw _ (List.mem_of_getElem? (i := 12) rfl))) (Or.inr (hw _ (List.mem_of_getElem? (i := 17) rfl))) (by decide) (t := .int) (by decide) (t' := (.array .long)) (by decide)))
  replace G0 := G0.other W6 (Or.inr (slot_ne (Z := Z) (a0 := a0) (Or.inr (hw _ (List.mem_of_getElem? (i := 15) rfl))) (Or.inr (hw _ (List.mem_of_getElem? (i := 17) rfl))) (by decide) (t := (.array .long)) (by decide) (t' := (.array .long)) (by decide)))
  replace H0f := H0f.same W6
  replace D0 := D0.other W6 (Or.inr (slot_ne (Z := Z) (a0 := a0) (Or.inl (hw _ (List.mem_of_getElem? (i := 24) rfl))) (Or.inr (hw _ (List.mem_of_getElem? (i := 17) rfl))) (by decide) (t := .long) (by decide) (t' := (.array .long)) (by decide)))
  replace EE := EE.wr W6; replace SF := SF.wr W6; replace AF := AF.other W6 (ne_lt hfa g0)
  replace KK : Keep h0 h6 [a] := KK.wr W6 (Or.inl (List.mem_singleton.mpr rfl))
  replace Bp := Bp.other W6 nep.symm
  exact go_ret K H6 d0_43 rfl (by decide) (by decide) (⟨p, l4, hsp, nep, ⟨EE, F0, G0, H0f, D0⟩, Bp, KK⟩)
set_option maxRecDepth 65536 in
set_option maxHeartbeats 40000000 in
theorem rmD (Z : State) (a0 : Array Value) (hw : ∀ d ∈ tables_1, d.before a0 Z = true) (a : Addr) (h0 : Heap) (n0 : Nat) (Z0 : n0 ≤ h0.size) (n : Int32) (p : Addr) (o : Value) (ho : o.isRef = true) (c : Int64) (O : DT Z h0 a n p o c) (lau : Launch) :
    Con lau Z (⟨"com/example/evenhand/evenhand/DeckTally", "decks", "()J"⟩ : MethodName) prog_6_method_3_code 1 (some .long) ({ frames := 0, cells := 0, slots := 0, locals := 0 } : Room) #[(.ref a)] h0 n0 (RL fun z h => z = c ∧ h0 = h) := by
  refine con_intro pn1 (L := #[.val (.ref a)]) (fun m => by first | (simp [entryFrame, mkF, argsToLocals, Value.category, maxLocals]; done) | rfl) Z0 (fun w T K H => ?_)
  refine go_aloadN K H d1_0 rfl rfl ?_
  refine go_getfield K H d1_1 (host := "") (Or.inl (hw _ (List.mem_of_getElem? (i := 23) rfl))) Via.refl (O.2.2.2.2) fun T1 HT1 => ?_
  exact go_lret K HT1 d1_4 rfl (by decide) (by decide) (⟨rfl, rfl⟩)
set_option maxRecDepth 65536 in
set_option maxHeartbeats 40000000 in
theorem rmO (Z : State) (a0 : Array Value) (hw : ∀ d ∈ tables_1, d.before a0 Z = true) (a : Addr) (h0 : Heap) (n0 : Nat) (Z0 : n0 ≤ h0.size) (n : Int32) (p : Addr) (o : Value) (ho : o.isRef = true) (c : Int64) (O : DT Z h0 a n p o c) (lau : Launch) :
    Con lau Z (⟨"com/example/evenhand/evenhand/DeckTally", "orders", "()[J"⟩ : MethodName) prog_6_method_6_code 1 (some (.array .long)) ({ frames := 0, cells := 0, slots := 0, locals := 0 } : Room) #[(.ref a)] h0 n0 (RR fun z h => z = o ∧ h0 = h) := by
  refine con_intro pn2 (L := #[.val (.ref a)]) (fun m => by first | (simp [entryFrame, mkF, argsToLocals, Value.category, maxLocals]; done) | rfl) Z0 (fun w T K H => ?_)
  refine go_aloadN K H d2_0 rfl rfl ?_
  refine go_getfield K H d2_1 (host := "") (Or.inl (hw _ (List.mem_of_getElem? (i := 16) rfl))) Via.refl (O.2.2.2.1) fun T1 HT1 => ?_
  exact go_aret K HT1 d2_4 rfl rfl ho (by decide) (by decide) (⟨rfl, rfl⟩)
set_option maxRecDepth 65536 in
set_option maxHeartbeats 40000000 in
theorem rmP (Z : State) (a0 : Array Value) (hw : ∀ d ∈ tables_1, d.before a0 Z = true) (a : Addr) (h0 : Heap) (n0 : Nat) (Z0 : n0 ≤ h0.size) (n : Int32) (p : Addr) (o : Value) (ho : o.isRef = true) (c : Int64) (O : DT Z h0 a n p o c) (lau : Launch) :
    Con lau Z (⟨"com/example/evenhand/evenhand/DeckTally", "positions", "()[J"⟩ : MethodName) prog_6_method_5_code 1 (some (.array .long)) ({ frames := 0, cells := 0, slots := 0, locals := 0 } : Room) #[(.ref a)] h0 n0 (RR fun z h => z = .ref p ∧ h0 = h) := by
  refine con_intro pn3 (L := #[.val (.ref a)]) (fun m => by first | (simp [entryFrame, mkF, argsToLocals, Value.category, maxLocals]; done) | rfl) Z0 (fun w T K H => ?_)
  refine go_aloadN K H d3_0 rfl rfl ?_
  refine go_getfield K H d3_1 (host := "") (Or.inl (hw _ (List.mem_of_getElem? (i := 14) rfl))) Via.refl (O.2.2.1) fun T1 HT1 => ?_
  exact go_aret K HT1 d3_4 rfl rfl rfl (by decide) (by decide) (⟨rfl, rfl⟩)
set_option maxRecDepth 65536 in
set_option maxHeartbeats 40000000 in
theorem rmK (Z : State) (a0 : Array Value) (hw : ∀ d ∈ tables_1, d.before a0 Z = true) (a : Addr) (d : Addr) (h0 : Heap) (n0 : Nat) (Z0 : n0 ≤ h0.size) (p : Addr) (o : Value) (c : Int64) (d0 d1 d2 : Nat) (O : DT Z h0 a 3 p o c) (D : IA Z h0 d [oN d0, oN d1, oN d2]) (l0 : d0 < 3) (l1 : d1 < 3) (l2 : d2 < 3) (lau : Launch) :
    Con lau Z (⟨"com/example/evenhand/evenhand/DeckTally", "rank", "([I)I"⟩ : MethodName) prog_6_method_7_code 6 (some .int) ({ frames := 0, cells := 0, slots := 0, locals := 0 } : Room) #[(.ref a), (.ref d)] h0 n0 (RI fun z h => z = oN (rkF d0 d1 d2) ∧ h0 = h) := by
  refine con_intro pn4 (L := #[.val (.ref a), .val (.ref d), .unset, .unset, .unset, .unset]) (fun m => by first | (simp [entryFrame, mkF, argsToLocals, Value.category, maxLocals]; done) | rfl) Z0 (fun w T K H => ?_)
  refine go_iconst (0) K H d4_0 (by decide) ?_
  refine go_istoreN K H d4_1 (L' := #[.val (.ref a), .val (.ref d), .val (.int 0), .unset, .unset, .unset]) rfl ?_
  refine go_iconst (0) K H d4_2 (by decide) ?_
  refine go_istoreN K H d4_3 (L' := #[.val (.ref a), .val (.ref d), .val (.int 0), .val (.int 0), .unset, .unset]) rfl ?_
  refine go_iloadN K H d4_4 rfl ?_
  refine go_aloadN K H d4_5 rfl rfl ?_
  refine go_getfield K H d4_6 (host := "") (Or.inl (hw _ (List.mem_of_getElem? (i := 11) rfl))) Via.refl (O.2.1) fun T1 HT1 => ?_
  refine go_icmp_ge K HT1 d4_9 (fun cc => False.elim (by first | exact absurd cc (by decide) | exact cc (by decide))) (fun cc => ?_)
  refine go_iconst (0) K HT1 d4_12 (by decide) ?_
  refine go_istore K HT1 d4_13 (L' := #[.val (.ref a), .val (.ref d), .val (.int 0), .val (.int 0), .val (.int 0), .unset]) rfl ?_
  refine go_iloadN K HT1 d4_15 rfl ?_
  refine go_iconst (1) K HT1 d4_16 (by decide) ?_
  refine go_iadd K HT1 d4_17 fun v2 ev2 => ?_
  obtain rfl : v2 = (1 : Int32) := ev2.trans (by decide)
  refine go_istore K HT1 d4_18 (L' := #[.val (.ref a), .val (.ref d), .val (.int 0), .val (.int 0), .val (.int 0), .val (.int 1)]) rfl ?_
  refine go_iload K HT1 d4_20 rfl ?_
  refine go_aloadN K HT1 d4_22 rfl rfl ?_
  refine go_getfield K HT1 d4_23 (host := "") (Or.inl (hw _ (List.mem_of_getElem? (i := 11) rfl))) Via.refl (O.2.1) fun T3 HT3 => ?_
  refine go_icmp_ge K HT3 d4_26 (fun cc => False.elim (by first | exact absurd cc (by decide) | exact cc (by decide))) (fun cc => ?_)
  refine go_aloadN K HT3 d4_29 rfl rfl ?_
  refine go_iload K HT3 d4_30 rfl ?_
  refine go_iaload (1) K HT3 d4_32 (D) (by decide) (rfl) ?_
  refine go_aloadN K HT3 d4_33 rfl rfl ?_
  refine go_iloadN K HT3 d4_34 rfl ?_
  refine go_iaload (0) K HT3 d4_35 (D) (by decide) (rfl) ?_
  refine go_icmp_ge K HT3 d4_36 (fun k01c => ?_) (fun k01c => ?_)
  · have k01 : ¬ d1 < d0 := fun q => k01c ((oN_lt (by omega) (by omega)).mpr q)
    refine go_iinc K HT3 d4_42 rfl (z := 2) (by decide) (L' := #[.val (.ref a), .val (.ref d), .val (.int 0), .val (.int 0), .val (.int 0), .val (.int 2)]) rfl ?_
    refine go_goto K HT3 d4_45 ?_
    refine go_iload K HT3 d4_20 rfl ?_
    refine go_aloadN K HT3 d4_22 rfl rfl ?_
    refine go_getfield K HT3 d4_23 (host := "") (Or.inl (hw _ (List.mem_of_getElem? (i := 11) rfl))) Via.refl (O.2.1) fun T4 HT4 => ?_
    refine go_icmp_ge K HT4 d4_26 (fun cc => False.elim (by first | exact absurd cc (by decide) | exact cc (by decide))) (fun cc => ?_)
    refine go_aloadN K HT4 d4_29 rfl rfl ?_
    refine go_iload K HT4 d4_30 rfl ?_
    refine go_iaload (2) K HT4 d4_32 (D) (by decide) (rfl) ?_
    refine go_aloadN K HT4 d4_33 rfl rfl ?_
    refine go_iloadN K HT4 d4_34 rfl ?_
    refine go_iaload (0) K HT4 d4_35 (D) (by decide) (rfl) ?_
    refine go_icmp_ge K HT4 d4_36 (fun k02c => ?_) (fun k02c => ?_)
    · have k02 : ¬ d2 < d0 := fun q => k02c ((oN_lt (by omega) (by omega)).mpr q)
      refine go_iinc K HT4 d4_42 rfl (z := 3) (by decide) (L' := #[.val (.ref a), .val (.ref d), .val (.int 0), .val (.int 0), .val (.int 0), .val (.int 3)]) rfl ?_
      refine go_goto K HT4 d4_45 ?_
      refine go_iload K HT4 d4_20 rfl ?_
      refine go_aloadN K HT4 d4_22 rfl rfl ?_
      refine go_getfield K HT4 d4_23 (host := "") (Or.inl (hw _ (List.mem_of_getElem? (i := 11) rfl))) Via.refl (O.2.1) fun T5 HT5 => ?_
      refine go_icmp_ge K HT5 d4_26 (fun cc => ?_) (fun cc => False.elim (by first | exact absurd cc (by decide) | exact cc (by decide)))
      refine go_iloadN K HT5 d4_48 rfl ?_
      refine go_aloadN K HT5 d4_49 rfl rfl ?_
      refine go_getfield K HT5 d4_50 (host := "") (Or.inl (hw _ (List.mem_of_getElem? (i := 11) rfl))) Via.refl (O.2.1) fun T6 HT6 => ?_
      refine go_iloadN K HT6 d4_53 rfl ?_
      refine go_isub K HT6 d4_54 fun v7 ev7 => ?_
      obtain rfl : v7 = (3 : Int32) := ev7.trans (by decide)
      refine go_imul K HT6 d4_55 fun v8 ev8 => ?_
      obtain rfl : v8 = (0 : Int32) := ev8.trans (by decide)
      refine go_iload K HT6 d4_56 rfl ?_
      refine go_iadd K HT6 d4_58 fun v9 ev9 => ?_
      obtain rfl : v9 = (0 : Int32) := ev9.trans (by decide)
      refine go_istoreN K HT6 d4_59 (L' := #[.val (.ref a), .val (.ref d), .val (.int 0), .val (.int 0), .val (.int 0), .val (.int 3)]) rfl ?_
      refine go_iinc K HT6 d4_60 rfl (z := 1) (by decide) (L' := #[.val (.ref a), .val (.ref d), .val (.int 0), .val (.int 1), .val (.int 0), .val (.int 3)]) rfl ?_
      refine go_goto K HT6 d4_63 ?_
      refine go_iloadN K HT6 d4_4 rfl ?_
      refine go_aloadN K HT6 d4_5 rfl rfl ?_
      refine go_getfield K HT6 d4_6 (host := "") (Or.inl (hw _ (List.mem_of_getElem? (i := 11) rfl))) Via.refl (O.2.1) fun T10 HT10 => ?_
      refine go_icmp_ge K HT10 d4_9 (fun cc => False.elim (by first | exact absurd cc (by decide) | exact cc (by decide))) (fun cc => ?_)
      refine go_iconst (0) K HT10 d4_12 (by decide) ?_
      refine go_istore K HT10 d4_13 (L' := #[.val (.ref a), .val (.ref d), .val (.int 0), .val (.int 1), .val (.int 0), .val (.int 3)]) rfl ?_
      refine go_iloadN K HT10 d4_15 rfl ?_
      refine go_iconst (1) K HT10 d4_16 (by decide) ?_
      refine go_iadd K HT10 d4_17 fun v11 ev11 => ?_
      obtain rfl : v11 = (2 : Int32) := ev11.trans (by decide)
      refine go_istore K HT10 d4_18 (L' := #[.val (.ref a), .val (.ref d), .val (.int 0), .val (.int 1), .val (.int 0), .val (.int 2)]) rfl ?_
      refine go_iload K HT10 d4_20 rfl ?_
      refine go_aloadN K HT10 d4_22 rfl rfl ?_
      refine go_getfield K HT10 d4_23 (host := "") (Or.inl (hw _ (List.mem_of_getElem? (i := 11) rfl))) Via.refl (O.2.1) fun T12 HT12 => ?_
      refine go_icmp_ge K HT12 d4_26 (fun cc => False.elim (by first | exact absurd cc (by decide) | exact cc (by decide))) (fun cc => ?_)
      refine go_aloadN K HT12 d4_29 rfl rfl ?_
      refine go_iload K HT12 d4_30 rfl ?_
      refine go_iaload (2) K HT12 d4_32 (D) (by decide) (rfl) ?_
      refine go_aloadN K HT12 d4_33 rfl rfl ?_
      refine go_iloadN K HT12 d4_34 rfl ?_
      refine go_iaload (1) K HT12 d4_35 (D) (by decide) (rfl) ?_
      refine go_icmp_ge K HT12 d4_36 (fun k12c => ?_) (fun k12c => ?_)
      · have k12 : ¬ d2 < d1 := fun q => k12c ((oN_lt (by omega) (by omega)).mpr q)
        refine go_iinc K HT12 d4_42 rfl (z := 3) (by decide) (L' := #[.val (.ref a), .val (.ref d), .val (.int 0), .val (.int 1), .val (.int 0), .val (.int 3)]) rfl ?_
        refine go_goto K HT12 d4_45 ?_
        refine go_iload K HT12 d4_20 rfl ?_
        refine go_aloadN K HT12 d4_22 rfl rfl ?_
        refine go_getfield K HT12 d4_23 (host := "") (Or.inl (hw _ (List.mem_of_getElem? (i := 11) rfl))) Via.refl (O.2.1) fun T13 HT13 => ?_
        refine go_icmp_ge K HT13 d4_26 (fun cc => ?_) (fun cc => False.elim (by first | exact absurd cc (by decide) | exact cc (by decide)))
        refine go_iloadN K HT13 d4_48 rfl ?_
        refine go_aloadN K HT13 d4_49 rfl rfl ?_
        refine go_getfield K HT13 d4_50 (host := "") (Or.inl (hw _ (List.mem_of_getElem? (i := 11) rfl))) Via.refl (O.2.1) fun T14 HT14 => ?_
        refine go_iloadN K HT14 d4_53 rfl ?_
        refine go_isub K HT14 d4_54 fun v15 ev15 => ?_
        obtain rfl : v15 = (2 : Int32) := ev15.trans (by decide)
        refine go_imul K HT14 d4_55 fun v16 ev16 => ?_
        obtain rfl : v16 = (0 : Int32) := ev16.trans (by decide)
        refine go_iload K HT14 d4_56 rfl ?_
        refine go_iadd K HT14 d4_58 fun v17 ev17 => ?_
        obtain rfl : v17 = (0 : Int32) := ev17.trans (by decide)
        refine go_istoreN K HT14 d4_59 (L' := #[.val (.ref a), .val (.ref d), .val (.int 0), .val (.int 1), .val (.int 0), .val (.int 3)]) rfl ?_
        refine go_iinc K HT14 d4_60 rfl (z := 2) (by decide) (L' := #[.val (.ref a), .val (.ref d), .val (.int 0), .val (.int 2), .val (.int 0), .val (.int 3)]) rfl ?_
        refine go_goto K HT14 d4_63 ?_
        refine go_iloadN K HT14 d4_4 rfl ?_
        refine go_aloadN K HT14 d4_5 rfl rfl ?_
        refine go_getfield K HT14 d4_6 (host := "") (Or.inl (hw _ (List.mem_of_getElem? (i := 11) rfl))) Via.refl (O.2.1) fun T18 HT18 => ?_
        refine go_icmp_ge K HT18 d4_9 (fun cc => False.elim (by first | exact absurd cc (by decide) | exact cc (by decide))) (fun cc => ?_)
        refine go_iconst (0) K HT18 d4_12 (by decide) ?_
        refine go_istore K HT18 d4_13 (L' := #[.val (.ref a), .val (.ref d), .val (.int 0), .val (.int 2), .val (.int 0), .val (.int 3)]) rfl ?_
        refine go_iloadN K HT18 d4_15 rfl ?_
        refine go_iconst (1) K HT18 d4_16 (by decide) ?_
        refine go_iadd K HT18 d4_17 fun v19 ev19 => ?_
        obtain rfl : v19 = (3 : Int32) := ev19.trans (by decide)
        refine go_istore K HT18 d4_18 (L' := #[.val (.ref a), .val (.ref d), .val (.int 0), .val (.int 2), .val (.int 0), .val (.int 3)]) rfl ?_
        refine go_iload K HT18 d4_20 rfl ?_
        refine go_aloadN K HT18 d4_22 rfl rfl ?_
        refine go_getfield K HT18 d4_23 (host := "") (Or.inl (hw _ (List.mem_of_getElem? (i := 11) rfl))) Via.refl (O.2.1) fun T20 HT20 => ?_
        refine go_icmp_ge K HT20 d4_26 (fun cc => ?_) (fun cc => False.elim (by first | exact absurd cc (by decide) | exact cc (by decide)))
        refine go_iloadN K HT20 d4_48 rfl ?_
        refine go_aloadN K HT20 d4_49 rfl rfl ?_
        refine go_getfield K HT20 d4_50 (host := "") (Or.inl (hw _ (List.mem_of_getElem? (i := 11) rfl))) Via.refl (O.2.1) fun T21 HT21 => ?_
        refine go_iloadN K HT21 d4_53 rfl ?_
        refine go_isub K HT21 d4_54 fun v22 ev22 => ?_
        obtain rfl : v22 = (1 : Int32) := ev22.trans (by decide)
        refine go_imul K HT21 d4_55 fun v23 ev23 => ?_
        obtain rfl : v23 = (0 : Int32) := ev23.trans (by decide)
        refine go_iload K HT21 d4_56 rfl ?_
        refine go_iadd K HT21 d4_58 fun v24 ev24 => ?_
        obtain rfl : v24 = (0 : Int32) := ev24.trans (by decide)
        refine go_istoreN K HT21 d4_59 (L' := #[.val (.ref a), .val (.ref d), .val (.int 0), .val (.int 2), .val (.int 0), .val (.int 3)]) rfl ?_
        refine go_iinc K HT21 d4_60 rfl (z := 3) (by decide) (L' := #[.val (.ref a), .val (.ref d), .val (.int 0), .val (.int 3), .val (.int 0), .val (.int 3)]) rfl ?_
        refine go_goto K HT21 d4_63 ?_
        refine go_iloadN K HT21 d4_4 rfl ?_
        refine go_aloadN K HT21 d4_5 rfl rfl ?_
        refine go_getfield K HT21 d4_6 (host := "") (Or.inl (hw _ (List.mem_of_getElem? (i := 11) rfl))) Via.refl (O.2.1) fun T25 HT25 => ?_
        refine go_icmp_ge K HT25 d4_9 (fun cc => ?_) (fun cc => False.elim (by first | exact absurd cc (by decide) | exact cc (by decide)))
        refine go_iloadN K HT25 d4_66 rfl ?_
        exact go_iret K HT25 d4_67 rfl (by decide) (by decide) (⟨by simp only [rkF, if_neg k01, if_neg k02, if_neg k12]; rfl, rfl⟩)
      · have k12 : d2 < d1 := (oN_lt (by omega) (by omega)).mp k12c
        refine go_iinc K HT12 d4_39 rfl (z := 1) (by decide) (L' := #[.val (.ref a), .val (.ref d), .val (.int 0), .val (.int 1), .val (.int 1), .val (.int 2)]) rfl ?_
        refine go_iinc K HT12 d4_42 rfl (z := 3) (by decide) (L' := #[.val (.ref a), .val (.ref d), .val (.int 0), .val (.int 1), .val (.int 1), .val (.int 3)]) rfl ?_
        refine go_goto K HT12 d4_45 ?_
        refine go_iload K HT12 d4_20 rfl ?_
        refine go_aloadN K HT12 d4_22 rfl rfl ?_
        refine go_getfield K HT12 d4_23 (host := "") (Or.inl (hw _ (List.mem_of_getElem? (i := 11) rfl))) Via.refl (O.2.1) fun T26 HT26 => ?_
        refine go_icmp_ge K HT26 d4_26 (fun cc => ?_) (fun cc => False.elim (by first | exact absurd cc (by decide) | exact cc (by decide)))
        refine go_iloadN K HT26 d4_48 rfl ?_
        refine go_aloadN K HT26 d4_49 rfl rfl ?_
        refine go_getfield K HT26 d4_50 (host := "") (Or.inl (hw _ (List.mem_of_getElem? (i := 11) rfl))) Via.refl (O.2.1) fun T27 HT27 => ?_
        refine go_iloadN K HT27 d4_53 rfl ?_
        refine go_isub K HT27 d4_54 fun v28 ev28 => ?_
        obtain rfl : v28 = (2 : Int32) := ev28.trans (by decide)
        refine go_imul K HT27 d4_55 fun v29 ev29 => ?_
        obtain rfl : v29 = (0 : Int32) := ev29.trans (by decide)
        refine go_iload K HT27 d4_56 rfl ?_
        refine go_iadd K HT27 d4_58 fun v30 ev30 => ?_
        obtain rfl : v30 = (1 : Int32) := ev30.trans (by decide)
        refine go_istoreN K HT27 d4_59 (L' := #[.val (.ref a), .val (.ref d), .val (.int 1), .val (.int 1), .val (.int 1), .val (.int 3)]) rfl ?_
        refine go_iinc K HT27 d4_60 rfl (z := 2) (by decide) (L' := #[.val (.ref a), .val (.ref d), .val (.int 1), .val (.int 2), .val (.int 1), .val (.int 3)]) rfl ?_
        refine go_goto K HT27 d4_63 ?_
        refine go_iloadN K HT27 d4_4 rfl ?_
        refine go_aloadN K HT27 d4_5 rfl rfl ?_
        refine go_getfield K HT27 d4_6 (host := "") (Or.inl (hw _ (List.mem_of_getElem? (i := 11) rfl))) Via.refl (O.2.1) fun T31 HT31 => ?_
        refine go_icmp_ge K HT31 d4_9 (fun cc => False.elim (by first | exact absurd cc (by decide) | exact cc (by decide))) (fun cc => ?_)
        refine go_iconst (0) K HT31 d4_12 (by decide) ?_
        refine go_istore K HT31 d4_13 (L' := #[.val (.ref a), .val (.ref d), .val (.int 1), .val (.int 2), .val (.int 0), .val (.int 3)]) rfl ?_
        refine go_iloadN K HT31 d4_15 rfl ?_
        refine go_iconst (1) K HT31 d4_16 (by decide) ?_
        refine go_iadd K HT31 d4_17 fun v32 ev32 => ?_
        obtain rfl : v32 = (3 : Int32) := ev32.trans (by decide)
        refine go_istore K HT31 d4_18 (L' := #[.val (.ref a), .val (.ref d), .val (.int 1), .val (.int 2), .val (.int 0), .val (.int 3)]) rfl ?_
        refine go_iload K HT31 d4_20 rfl ?_
        refine go_aloadN K HT31 d4_22 rfl rfl ?_
        refine go_getfield K HT31 d4_23 (host := "") (Or.inl (hw _ (List.mem_of_getElem? (i := 11) rfl))) Via.refl (O.2.1) fun T33 HT33 => ?_
        refine go_icmp_ge K HT33 d4_26 (fun cc => ?_) (fun cc => False.elim (by first | exact absurd cc (by decide) | exact cc (by decide)))
        refine go_iloadN K HT33 d4_48 rfl ?_
        refine go_aloadN K HT33 d4_49 rfl rfl ?_
        refine go_getfield K HT33 d4_50 (host := "") (Or.inl (hw _ (List.mem_of_getElem? (i := 11) rfl))) Via.refl (O.2.1) fun T34 HT34 => ?_
        refine go_iloadN K HT34 d4_53 rfl ?_
        refine go_isub K HT34 d4_54 fun v35 ev35 => ?_
        obtain rfl : v35 = (1 : Int32) := ev35.trans (by decide)
        refine go_imul K HT34 d4_55 fun v36 ev36 => ?_
        obtain rfl : v36 = (1 : Int32) := ev36.trans (by decide)
        refine go_iload K HT34 d4_56 rfl ?_
        refine go_iadd K HT34 d4_58 fun v37 ev37 => ?_
        obtain rfl : v37 = (1 : Int32) := ev37.trans (by decide)
        refine go_istoreN K HT34 d4_59 (L' := #[.val (.ref a), .val (.ref d), .val (.int 1), .val (.int 2), .val (.int 0), .val (.int 3)]) rfl ?_
        refine go_iinc K HT34 d4_60 rfl (z := 3) (by decide) (L' := #[.val (.ref a), .val (.ref d), .val (.int 1), .val (.int 3), .val (.int 0), .val (.int 3)]) rfl ?_
        refine go_goto K HT34 d4_63 ?_
        refine go_iloadN K HT34 d4_4 rfl ?_
        refine go_aloadN K HT34 d4_5 rfl rfl ?_
        refine go_getfield K HT34 d4_6 (host := "") (Or.inl (hw _ (List.mem_of_getElem? (i := 11) rfl))) Via.refl (O.2.1) fun T38 HT38 => ?_
        refine go_icmp_ge K HT38 d4_9 (fun cc => ?_) (fun cc => False.elim (by first | exact absurd cc (by decide) | exact cc (by decide)))
        refine go_iloadN K HT38 d4_66 rfl ?_
        exact go_iret K HT38 d4_67 rfl (by decide) (by decide) (⟨by simp only [rkF, if_neg k01, if_neg k02, if_pos k12]; rfl, rfl⟩)
    · have k02 : d2 < d0 := (oN_lt (by omega) (by omega)).mp k02c
      refine go_iinc K HT4 d4_39 rfl (z := 1) (by decide) (L' := #[.val (.ref a), .val (.ref d), .val (.int 0), .val (.int 0), .val (.int 1), .val (.int 2)]) rfl ?_
      refine go_iinc K HT4 d4_42 rfl (z := 3) (by decide) (L' := #[.val (.ref a), .val (.ref d), .val (.int 0), .val (.int 0), .val (.int 1), .val (.int 3)]) rfl ?_
      refine go_goto K HT4 d4_45 ?_
      refine go_iload K HT4 d4_20 rfl ?_
      refine go_aloadN K HT4 d4_22 rfl rfl ?_
      refine go_getfield K HT4 d4_23 (host := "") (Or.inl (hw _ (List.mem_of_getElem? (i := 11) rfl))) Via.refl (O.2.1) fun T39 HT39 => ?_
      refine go_icmp_ge K HT39 d4_26 (fun cc => ?_) (fun cc => False.elim (by first | exact absurd cc (by decide) | exact cc (by decide)))
      refine go_iloadN K HT39 d4_48 rfl ?_
      refine go_aloadN K HT39 d4_49 rfl rfl ?_
      refine go_getfield K HT39 d4_50 (host := "") (Or.inl (hw _ (List.mem_of_getElem? (i := 11) rfl))) Via.refl (O.2.1) fun T40 HT40 => ?_
      refine go_iloadN K HT40 d4_53 rfl ?_
      refine go_isub K HT40 d4_54 fun v41 ev41 => ?_
      obtain rfl : v41 = (3 : Int32) := ev41.trans (by decide)
      refine go_imul K HT40 d4_55 fun v42 ev42 => ?_
      obtain rfl : v42 = (0 : Int32) := ev42.trans (by decide)
      refine go_iload K HT40 d4_56 rfl ?_
      refine go_iadd K HT40 d4_58 fun v43 ev43 => ?_
      obtain rfl : v43 = (1 : Int32) := ev43.trans (by decide)
      refine go_istoreN K HT40 d4_59 (L' := #[.val (.ref a), .val (.ref d), .val (.int 1), .val (.int 0), .val (.int 1), .val (.int 3)]) rfl ?_
      refine go_iinc K HT40 d4_60 rfl (z := 1) (by decide) (L' := #[.val (.ref a), .val (.ref d), .val (.int 1), .val (.int 1), .val (.int 1), .val (.int 3)]) rfl ?_
      refine go_goto K HT40 d4_63 ?_
      refine go_iloadN K HT40 d4_4 rfl ?_
      refine go_aloadN K HT40 d4_5 rfl rfl ?_
      refine go_getfield K HT40 d4_6 (host := "") (Or.inl (hw _ (List.mem_of_getElem? (i := 11) rfl))) Via.refl (O.2.1) fun T44 HT44 => ?_
      refine go_icmp_ge K HT44 d4_9 (fun cc => False.elim (by first | exact absurd cc (by decide) | exact cc (by decide))) (fun cc => ?_)
      refine go_iconst (0) K HT44 d4_12 (by decide) ?_
      refine go_istore K HT44 d4_13 (L' := #[.val (.ref a), .val (.ref d), .val (.int 1), .val (.int 1), .val (.int 0), .val (.int 3)]) rfl ?_
      refine go_iloadN K HT44 d4_15 rfl ?_
      refine go_iconst (1) K HT44 d4_16 (by decide) ?_
      refine go_iadd K HT44 d4_17 fun v45 ev45 => ?_
      obtain rfl : v45 = (2 : Int32) := ev45.trans (by decide)
      refine go_istore K HT44 d4_18 (L' := #[.val (.ref a), .val (.ref d), .val (.int 1), .val (.int 1), .val (.int 0), .val (.int 2)]) rfl ?_
      refine go_iload K HT44 d4_20 rfl ?_
      refine go_aloadN K HT44 d4_22 rfl rfl ?_
      refine go_getfield K HT44 d4_23 (host := "") (Or.inl (hw _ (List.mem_of_getElem? (i := 11) rfl))) Via.refl (O.2.1) fun T46 HT46 => ?_
      refine go_icmp_ge K HT46 d4_26 (fun cc => False.elim (by first | exact absurd cc (by decide) | exact cc (by decide))) (fun cc => ?_)
      refine go_aloadN K HT46 d4_29 rfl rfl ?_
      refine go_iload K HT46 d4_30 rfl ?_
      refine go_iaload (2) K HT46 d4_32 (D) (by decide) (rfl) ?_
      refine go_aloadN K HT46 d4_33 rfl rfl ?_
      refine go_iloadN K HT46 d4_34 rfl ?_
      refine go_iaload (1) K HT46 d4_35 (D) (by decide) (rfl) ?_
      refine go_icmp_ge K HT46 d4_36 (fun k12c => ?_) (fun k12c => ?_)
      · have k12 : ¬ d2 < d1 := fun q => k12c ((oN_lt (by omega) (by omega)).mpr q)
        refine go_iinc K HT46 d4_42 rfl (z := 3) (by decide) (L' := #[.val (.ref a), .val (.ref d), .val (.int 1), .val (.int 1), .val (.int 0), .val (.int 3)]) rfl ?_
        refine go_goto K HT46 d4_45 ?_
        refine go_iload K HT46 d4_20 rfl ?_
        refine go_aloadN K HT46 d4_22 rfl rfl ?_
        refine go_getfield K HT46 d4_23 (host := "") (Or.inl (hw _ (List.mem_of_getElem? (i := 11) rfl))) Via.refl (O.2.1) fun T47 HT47 => ?_
        refine go_icmp_ge K HT47 d4_26 (fun cc => ?_) (fun cc => False.elim (by first | exact absurd cc (by decide) | exact cc (by decide)))
        refine go_iloadN K HT47 d4_48 rfl ?_
        refine go_aloadN K HT47 d4_49 rfl rfl ?_
        refine go_getfield K HT47 d4_50 (host := "") (Or.inl (hw _ (List.mem_of_getElem? (i := 11) rfl))) Via.refl (O.2.1) fun T48 HT48 => ?_
        refine go_iloadN K HT48 d4_53 rfl ?_
        refine go_isub K HT48 d4_54 fun v49 ev49 => ?_
        obtain rfl : v49 = (2 : Int32) := ev49.trans (by decide)
        refine go_imul K HT48 d4_55 fun v50 ev50 => ?_
        obtain rfl : v50 = (2 : Int32) := ev50.trans (by decide)
        refine go_iload K HT48 d4_56 rfl ?_
        refine go_iadd K HT48 d4_58 fun v51 ev51 => ?_
        obtain rfl : v51 = (2 : Int32) := ev51.trans (by decide)
        refine go_istoreN K HT48 d4_59 (L' := #[.val (.ref a), .val (.ref d), .val (.int 2), .val (.int 1), .val (.int 0), .val (.int 3)]) rfl ?_
        refine go_iinc K HT48 d4_60 rfl (z := 2) (by decide) (L' := #[.val (.ref a), .val (.ref d), .val (.int 2), .val (.int 2), .val (.int 0), .val (.int 3)]) rfl ?_
        refine go_goto K HT48 d4_63 ?_
        refine go_iloadN K HT48 d4_4 rfl ?_
        refine go_aloadN K HT48 d4_5 rfl rfl ?_
        refine go_getfield K HT48 d4_6 (host := "") (Or.inl (hw _ (List.mem_of_getElem? (i := 11) rfl))) Via.refl (O.2.1) fun T52 HT52 => ?_
        refine go_icmp_ge K HT52 d4_9 (fun cc => False.elim (by first | exact absurd cc (by decide) | exact cc (by decide))) (fun cc => ?_)
        refine go_iconst (0) K HT52 d4_12 (by decide) ?_
        refine go_istore K HT52 d4_13 (L' := #[.val (.ref a), .val (.ref d), .val (.int 2), .val (.int 2), .val (.int 0), .val (.int 3)]) rfl ?_
        refine go_iloadN K HT52 d4_15 rfl ?_
        refine go_iconst (1) K HT52 d4_16 (by decide) ?_
        refine go_iadd K HT52 d4_17 fun v53 ev53 => ?_
        obtain rfl : v53 = (3 : Int32) := ev53.trans (by decide)
        refine go_istore K HT52 d4_18 (L' := #[.val (.ref a), .val (.ref d), .val (.int 2), .val (.int 2), .val (.int 0), .val (.int 3)]) rfl ?_
        refine go_iload K HT52 d4_20 rfl ?_
        refine go_aloadN K HT52 d4_22 rfl rfl ?_
        refine go_getfield K HT52 d4_23 (host := "") (Or.inl (hw _ (List.mem_of_getElem? (i := 11) rfl))) Via.refl (O.2.1) fun T54 HT54 => ?_
        refine go_icmp_ge K HT54 d4_26 (fun cc => ?_) (fun cc => False.elim (by first | exact absurd cc (by decide) | exact cc (by decide)))
        refine go_iloadN K HT54 d4_48 rfl ?_
        refine go_aloadN K HT54 d4_49 rfl rfl ?_
        refine go_getfield K HT54 d4_50 (host := "") (Or.inl (hw _ (List.mem_of_getElem? (i := 11) rfl))) Via.refl (O.2.1) fun T55 HT55 => ?_
        refine go_iloadN K HT55 d4_53 rfl ?_
        refine go_isub K HT55 d4_54 fun v56 ev56 => ?_
        obtain rfl : v56 = (1 : Int32) := ev56.trans (by decide)
        refine go_imul K HT55 d4_55 fun v57 ev57 => ?_
        obtain rfl : v57 = (2 : Int32) := ev57.trans (by decide)
        refine go_iload K HT55 d4_56 rfl ?_
        refine go_iadd K HT55 d4_58 fun v58 ev58 => ?_
        obtain rfl : v58 = (2 : Int32) := ev58.trans (by decide)
        refine go_istoreN K HT55 d4_59 (L' := #[.val (.ref a), .val (.ref d), .val (.int 2), .val (.int 2), .val (.int 0), .val (.int 3)]) rfl ?_
        refine go_iinc K HT55 d4_60 rfl (z := 3) (by decide) (L' := #[.val (.ref a), .val (.ref d), .val (.int 2), .val (.int 3), .val (.int 0), .val (.int 3)]) rfl ?_
        refine go_goto K HT55 d4_63 ?_
        refine go_iloadN K HT55 d4_4 rfl ?_
        refine go_aloadN K HT55 d4_5 rfl rfl ?_
        refine go_getfield K HT55 d4_6 (host := "") (Or.inl (hw _ (List.mem_of_getElem? (i := 11) rfl))) Via.refl (O.2.1) fun T59 HT59 => ?_
        refine go_icmp_ge K HT59 d4_9 (fun cc => ?_) (fun cc => False.elim (by first | exact absurd cc (by decide) | exact cc (by decide)))
        refine go_iloadN K HT59 d4_66 rfl ?_
        exact go_iret K HT59 d4_67 rfl (by decide) (by decide) (⟨by simp only [rkF, if_neg k01, if_pos k02, if_neg k12]; rfl, rfl⟩)
      · have k12 : d2 < d1 := (oN_lt (by omega) (by omega)).mp k12c
        refine go_iinc K HT46 d4_39 rfl (z := 1) (by decide) (L' := #[.val (.ref a), .val (.ref d), .val (.int 1), .val (.int 1), .val (.int 1), .val (.int 2)]) rfl ?_
        refine go_iinc K HT46 d4_42 rfl (z := 3) (by decide) (L' := #[.val (.ref a), .val (.ref d), .val (.int 1), .val (.int 1), .val (.int 1), .val (.int 3)]) rfl ?_
        refine go_goto K HT46 d4_45 ?_
        refine go_iload K HT46 d4_20 rfl ?_
        refine go_aloadN K HT46 d4_22 rfl rfl ?_
        refine go_getfield K HT46 d4_23 (host := "") (Or.inl (hw _ (List.mem_of_getElem? (i := 11) rfl))) Via.refl (O.2.1) fun T60 HT60 => ?_
        refine go_icmp_ge K HT60 d4_26 (fun cc => ?_) (fun cc => False.elim (by first | exact absurd cc (by decide) | exact cc (by decide)))
        refine go_iloadN K HT60 d4_48 rfl ?_
        refine go_aloadN K HT60 d4_49 rfl rfl ?_
        refine go_getfield K HT60 d4_50 (host := "") (Or.inl (hw _ (List.mem_of_getElem? (i := 11) rfl))) Via.refl (O.2.1) fun T61 HT61 => ?_
        refine go_iloadN K HT61 d4_53 rfl ?_
        refine go_isub K HT61 d4_54 fun v62 ev62 => ?_
        obtain rfl : v62 = (2 : Int32) := ev62.trans (by decide)
        refine go_imul K HT61 d4_55 fun v63 ev63 => ?_
        obtain rfl : v63 = (2 : Int32) := ev63.trans (by decide)
        refine go_iload K HT61 d4_56 rfl ?_
        refine go_iadd K HT61 d4_58 fun v64 ev64 => ?_
        obtain rfl : v64 = (3 : Int32) := ev64.trans (by decide)
        refine go_istoreN K HT61 d4_59 (L' := #[.val (.ref a), .val (.ref d), .val (.int 3), .val (.int 1), .val (.int 1), .val (.int 3)]) rfl ?_
        refine go_iinc K HT61 d4_60 rfl (z := 2) (by decide) (L' := #[.val (.ref a), .val (.ref d), .val (.int 3), .val (.int 2), .val (.int 1), .val (.int 3)]) rfl ?_
        refine go_goto K HT61 d4_63 ?_
        refine go_iloadN K HT61 d4_4 rfl ?_
        refine go_aloadN K HT61 d4_5 rfl rfl ?_
        refine go_getfield K HT61 d4_6 (host := "") (Or.inl (hw _ (List.mem_of_getElem? (i := 11) rfl))) Via.refl (O.2.1) fun T65 HT65 => ?_
        refine go_icmp_ge K HT65 d4_9 (fun cc => False.elim (by first | exact absurd cc (by decide) | exact cc (by decide))) (fun cc => ?_)
        refine go_iconst (0) K HT65 d4_12 (by decide) ?_
        refine go_istore K HT65 d4_13 (L' := #[.val (.ref a), .val (.ref d), .val (.int 3), .val (.int 2), .val (.int 0), .val (.int 3)]) rfl ?_
        refine go_iloadN K HT65 d4_15 rfl ?_
        refine go_iconst (1) K HT65 d4_16 (by decide) ?_
        refine go_iadd K HT65 d4_17 fun v66 ev66 => ?_
        obtain rfl : v66 = (3 : Int32) := ev66.trans (by decide)
        refine go_istore K HT65 d4_18 (L' := #[.val (.ref a), .val (.ref d), .val (.int 3), .val (.int 2), .val (.int 0), .val (.int 3)]) rfl ?_
        refine go_iload K HT65 d4_20 rfl ?_
        refine go_aloadN K HT65 d4_22 rfl rfl ?_
        refine go_getfield K HT65 d4_23 (host := "") (Or.inl (hw _ (List.mem_of_getElem? (i := 11) rfl))) Via.refl (O.2.1) fun T67 HT67 => ?_
        refine go_icmp_ge K HT67 d4_26 (fun cc => ?_) (fun cc => False.elim (by first | exact absurd cc (by decide) | exact cc (by decide)))
        refine go_iloadN K HT67 d4_48 rfl ?_
        refine go_aloadN K HT67 d4_49 rfl rfl ?_
        refine go_getfield K HT67 d4_50 (host := "") (Or.inl (hw _ (List.mem_of_getElem? (i := 11) rfl))) Via.refl (O.2.1) fun T68 HT68 => ?_
        refine go_iloadN K HT68 d4_53 rfl ?_
        refine go_isub K HT68 d4_54 fun v69 ev69 => ?_
        obtain rfl : v69 = (1 : Int32) := ev69.trans (by decide)
        refine go_imul K HT68 d4_55 fun v70 ev70 => ?_
        obtain rfl : v70 = (3 : Int32) := ev70.trans (by decide)
        refine go_iload K HT68 d4_56 rfl ?_
        refine go_iadd K HT68 d4_58 fun v71 ev71 => ?_
        obtain rfl : v71 = (3 : Int32) := ev71.trans (by decide)
        refine go_istoreN K HT68 d4_59 (L' := #[.val (.ref a), .val (.ref d), .val (.int 3), .val (.int 2), .val (.int 0), .val (.int 3)]) rfl ?_
        refine go_iinc K HT68 d4_60 rfl (z := 3) (by decide) (L' := #[.val (.ref a), .val (.ref d), .val (.int 3), .val (.int 3), .val (.int 0), .val (.int 3)]) rfl ?_
        refine go_goto K HT68 d4_63 ?_
        refine go_iloadN K HT68 d4_4 rfl ?_
        refine go_aloadN K HT68 d4_5 rfl rfl ?_
        refine go_getfield K HT68 d4_6 (host := "") (Or.inl (hw _ (List.mem_of_getElem? (i := 11) rfl))) Via.refl (O.2.1) fun T72 HT72 => ?_
        refine go_icmp_ge K HT72 d4_9 (fun cc => ?_) (fun cc => False.elim (by first | exact absurd cc (by decide) | exact cc (by decide)))
        refine go_iloadN K HT72 d4_66 rfl ?_
        exact go_iret K HT72 d4_67 rfl (by decide) (by decide) (⟨by simp only [rkF, if_neg k01, if_pos k02, if_pos k12]; rfl, rfl⟩)
  · have k01 : d1 < d0 := (oN_lt (by omega) (by omega)).mp k01c
    refine go_iinc K HT3 d4_39 rfl (z := 1) (by decide) (L' := #[.val (.ref a), .val (.ref d), .val (.int 0), .val (.int 0), .val (.int 1), .val (.int 1)]) rfl ?_
    refine go_iinc K HT3 d4_42 rfl (z := 2) (by decide) (L' := #[.val (.ref a), .val (.ref d), .val (.int 0), .val (.int 0), .val (.int 1), .val (.int 2)]) rfl ?_
    refine go_goto K HT3 d4_45 ?_
    refine go_iload K HT3 d4_20 rfl ?_
    refine go_aloadN K HT3 d4_22 rfl rfl ?_
    refine go_getfield K HT3 d4_23 (host := "") (Or.inl (hw _ (List.mem_of_getElem? (i := 11) rfl))) Via.refl (O.2.1) fun T73 HT73 => ?_
    refine go_icmp_ge K HT73 d4_26 (fun cc => False.elim (by first | exact absurd cc (by decide) | exact cc (by decide))) (fun cc => ?_)
    refine go_aloadN K HT73 d4_29 rfl rfl ?_
    refine go_iload K HT73 d4_30 rfl ?_
    refine go_iaload (2) K HT73 d4_32 (D) (by decide) (rfl) ?_
    refine go_aloadN K HT73 d4_33 rfl rfl ?_
    refine go_iloadN K HT73 d4_34 rfl ?_
    refine go_iaload (0) K HT73 d4_35 (D) (by decide) (rfl) ?_
    refine go_icmp_ge K HT73 d4_36 (fun k02c => ?_) (fun k02c => ?_)
    · have k02 : ¬ d2 < d0 := fun q => k02c ((oN_lt (by omega) (by omega)).mpr q)
      refine go_iinc K HT73 d4_42 rfl (z := 3) (by decide) (L' := #[.val (.ref a), .val (.ref d), .val (.int 0), .val (.int 0), .val (.int 1), .val (.int 3)]) rfl ?_
      refine go_goto K HT73 d4_45 ?_
      refine go_iload K HT73 d4_20 rfl ?_
      refine go_aloadN K HT73 d4_22 rfl rfl ?_
      refine go_getfield K HT73 d4_23 (host := "") (Or.inl (hw _ (List.mem_of_getElem? (i := 11) rfl))) Via.refl (O.2.1) fun T74 HT74 => ?_
      refine go_icmp_ge K HT74 d4_26 (fun cc => ?_) (fun cc => False.elim (by first | exact absurd cc (by decide) | exact cc (by decide)))
      refine go_iloadN K HT74 d4_48 rfl ?_
      refine go_aloadN K HT74 d4_49 rfl rfl ?_
      refine go_getfield K HT74 d4_50 (host := "") (Or.inl (hw _ (List.mem_of_getElem? (i := 11) rfl))) Via.refl (O.2.1) fun T75 HT75 => ?_
      refine go_iloadN K HT75 d4_53 rfl ?_
      refine go_isub K HT75 d4_54 fun v76 ev76 => ?_
      obtain rfl : v76 = (3 : Int32) := ev76.trans (by decide)
      refine go_imul K HT75 d4_55 fun v77 ev77 => ?_
      obtain rfl : v77 = (0 : Int32) := ev77.trans (by decide)
      refine go_iload K HT75 d4_56 rfl ?_
      refine go_iadd K HT75 d4_58 fun v78 ev78 => ?_
      obtain rfl : v78 = (1 : Int32) := ev78.trans (by decide)
      refine go_istoreN K HT75 d4_59 (L' := #[.val (.ref a), .val (.ref d), .val (.int 1), .val (.int 0), .val (.int 1), .val (.int 3)]) rfl ?_
      refine go_iinc K HT75 d4_60 rfl (z := 1) (by decide) (L' := #[.val (.ref a), .val (.ref d), .val (.int 1), .val (.int 1), .val (.int 1), .val (.int 3)]) rfl ?_
      refine go_goto K HT75 d4_63 ?_
      refine go_iloadN K HT75 d4_4 rfl ?_
      refine go_aloadN K HT75 d4_5 rfl rfl ?_
      refine go_getfield K HT75 d4_6 (host := "") (Or.inl (hw _ (List.mem_of_getElem? (i := 11) rfl))) Via.refl (O.2.1) fun T79 HT79 => ?_
      refine go_icmp_ge K HT79 d4_9 (fun cc => False.elim (by first | exact absurd cc (by decide) | exact cc (by decide))) (fun cc => ?_)
      refine go_iconst (0) K HT79 d4_12 (by decide) ?_
      refine go_istore K HT79 d4_13 (L' := #[.val (.ref a), .val (.ref d), .val (.int 1), .val (.int 1), .val (.int 0), .val (.int 3)]) rfl ?_
      refine go_iloadN K HT79 d4_15 rfl ?_
      refine go_iconst (1) K HT79 d4_16 (by decide) ?_
      refine go_iadd K HT79 d4_17 fun v80 ev80 => ?_
      obtain rfl : v80 = (2 : Int32) := ev80.trans (by decide)
      refine go_istore K HT79 d4_18 (L' := #[.val (.ref a), .val (.ref d), .val (.int 1), .val (.int 1), .val (.int 0), .val (.int 2)]) rfl ?_
      refine go_iload K HT79 d4_20 rfl ?_
      refine go_aloadN K HT79 d4_22 rfl rfl ?_
      refine go_getfield K HT79 d4_23 (host := "") (Or.inl (hw _ (List.mem_of_getElem? (i := 11) rfl))) Via.refl (O.2.1) fun T81 HT81 => ?_
      refine go_icmp_ge K HT81 d4_26 (fun cc => False.elim (by first | exact absurd cc (by decide) | exact cc (by decide))) (fun cc => ?_)
      refine go_aloadN K HT81 d4_29 rfl rfl ?_
      refine go_iload K HT81 d4_30 rfl ?_
      refine go_iaload (2) K HT81 d4_32 (D) (by decide) (rfl) ?_
      refine go_aloadN K HT81 d4_33 rfl rfl ?_
      refine go_iloadN K HT81 d4_34 rfl ?_
      refine go_iaload (1) K HT81 d4_35 (D) (by decide) (rfl) ?_
      refine go_icmp_ge K HT81 d4_36 (fun k12c => ?_) (fun k12c => ?_)
      · have k12 : ¬ d2 < d1 := fun q => k12c ((oN_lt (by omega) (by omega)).mpr q)
        refine go_iinc K HT81 d4_42 rfl (z := 3) (by decide) (L' := #[.val (.ref a), .val (.ref d), .val (.int 1), .val (.int 1), .val (.int 0), .val (.int 3)]) rfl ?_
        refine go_goto K HT81 d4_45 ?_
        refine go_iload K HT81 d4_20 rfl ?_
        refine go_aloadN K HT81 d4_22 rfl rfl ?_
        refine go_getfield K HT81 d4_23 (host := "") (Or.inl (hw _ (List.mem_of_getElem? (i := 11) rfl))) Via.refl (O.2.1) fun T82 HT82 => ?_
        refine go_icmp_ge K HT82 d4_26 (fun cc => ?_) (fun cc => False.elim (by first | exact absurd cc (by decide) | exact cc (by decide)))
        refine go_iloadN K HT82 d4_48 rfl ?_
        refine go_aloadN K HT82 d4_49 rfl rfl ?_
        refine go_getfield K HT82 d4_50 (host := "") (Or.inl (hw _ (List.mem_of_getElem? (i := 11) rfl))) Via.refl (O.2.1) fun T83 HT83 => ?_
        refine go_iloadN K HT83 d4_53 rfl ?_
        refine go_isub K HT83 d4_54 fun v84 ev84 => ?_
        obtain rfl : v84 = (2 : Int32) := ev84.trans (by decide)
        refine go_imul K HT83 d4_55 fun v85 ev85 => ?_
        obtain rfl : v85 = (2 : Int32) := ev85.trans (by decide)
        refine go_iload K HT83 d4_56 rfl ?_
        refine go_iadd K HT83 d4_58 fun v86 ev86 => ?_
        obtain rfl : v86 = (2 : Int32) := ev86.trans (by decide)
        refine go_istoreN K HT83 d4_59 (L' := #[.val (.ref a), .val (.ref d), .val (.int 2), .val (.int 1), .val (.int 0), .val (.int 3)]) rfl ?_
        refine go_iinc K HT83 d4_60 rfl (z := 2) (by decide) (L' := #[.val (.ref a), .val (.ref d), .val (.int 2), .val (.int 2), .val (.int 0), .val (.int 3)]) rfl ?_
        refine go_goto K HT83 d4_63 ?_
        refine go_iloadN K HT83 d4_4 rfl ?_
        refine go_aloadN K HT83 d4_5 rfl rfl ?_
        refine go_getfield K HT83 d4_6 (host := "") (Or.inl (hw _ (List.mem_of_getElem? (i := 11) rfl))) Via.refl (O.2.1) fun T87 HT87 => ?_
        refine go_icmp_ge K HT87 d4_9 (fun cc => False.elim (by first | exact absurd cc (by decide) | exact cc (by decide))) (fun cc => ?_)
        refine go_iconst (0) K HT87 d4_12 (by decide) ?_
        refine go_istore K HT87 d4_13 (L' := #[.val (.ref a), .val (.ref d), .val (.int 2), .val (.int 2), .val (.int 0), .val (.int 3)]) rfl ?_
        refine go_iloadN K HT87 d4_15 rfl ?_
        refine go_iconst (1) K HT87 d4_16 (by decide) ?_
        refine go_iadd K HT87 d4_17 fun v88 ev88 => ?_
        obtain rfl : v88 = (3 : Int32) := ev88.trans (by decide)
        refine go_istore K HT87 d4_18 (L' := #[.val (.ref a), .val (.ref d), .val (.int 2), .val (.int 2), .val (.int 0), .val (.int 3)]) rfl ?_
        refine go_iload K HT87 d4_20 rfl ?_
        refine go_aloadN K HT87 d4_22 rfl rfl ?_
        refine go_getfield K HT87 d4_23 (host := "") (Or.inl (hw _ (List.mem_of_getElem? (i := 11) rfl))) Via.refl (O.2.1) fun T89 HT89 => ?_
        refine go_icmp_ge K HT89 d4_26 (fun cc => ?_) (fun cc => False.elim (by first | exact absurd cc (by decide) | exact cc (by decide)))
        refine go_iloadN K HT89 d4_48 rfl ?_
        refine go_aloadN K HT89 d4_49 rfl rfl ?_
        refine go_getfield K HT89 d4_50 (host := "") (Or.inl (hw _ (List.mem_of_getElem? (i := 11) rfl))) Via.refl (O.2.1) fun T90 HT90 => ?_
        refine go_iloadN K HT90 d4_53 rfl ?_
        refine go_isub K HT90 d4_54 fun v91 ev91 => ?_
        obtain rfl : v91 = (1 : Int32) := ev91.trans (by decide)
        refine go_imul K HT90 d4_55 fun v92 ev92 => ?_
        obtain rfl : v92 = (2 : Int32) := ev92.trans (by decide)
        refine go_iload K HT90 d4_56 rfl ?_
        refine go_iadd K HT90 d4_58 fun v93 ev93 => ?_
        obtain rfl : v93 = (2 : Int32) := ev93.trans (by decide)
        refine go_istoreN K HT90 d4_59 (L' := #[.val (.ref a), .val (.ref d), .val (.int 2), .val (.int 2), .val (.int 0), .val (.int 3)]) rfl ?_
        refine go_iinc K HT90 d4_60 rfl (z := 3) (by decide) (L' := #[.val (.ref a), .val (.ref d), .val (.int 2), .val (.int 3), .val (.int 0), .val (.int 3)]) rfl ?_
        refine go_goto K HT90 d4_63 ?_
        refine go_iloadN K HT90 d4_4 rfl ?_
        refine go_aloadN K HT90 d4_5 rfl rfl ?_
        refine go_getfield K HT90 d4_6 (host := "") (Or.inl (hw _ (List.mem_of_getElem? (i := 11) rfl))) Via.refl (O.2.1) fun T94 HT94 => ?_
        refine go_icmp_ge K HT94 d4_9 (fun cc => ?_) (fun cc => False.elim (by first | exact absurd cc (by decide) | exact cc (by decide)))
        refine go_iloadN K HT94 d4_66 rfl ?_
        exact go_iret K HT94 d4_67 rfl (by decide) (by decide) (⟨by simp only [rkF, if_pos k01, if_neg k02, if_neg k12]; rfl, rfl⟩)
      · have k12 : d2 < d1 := (oN_lt (by omega) (by omega)).mp k12c
        refine go_iinc K HT81 d4_39 rfl (z := 1) (by decide) (L' := #[.val (.ref a), .val (.ref d), .val (.int 1), .val (.int 1), .val (.int 1), .val (.int 2)]) rfl ?_
        refine go_iinc K HT81 d4_42 rfl (z := 3) (by decide) (L' := #[.val (.ref a), .val (.ref d), .val (.int 1), .val (.int 1), .val (.int 1), .val (.int 3)]) rfl ?_
        refine go_goto K HT81 d4_45 ?_
        refine go_iload K HT81 d4_20 rfl ?_
        refine go_aloadN K HT81 d4_22 rfl rfl ?_
        refine go_getfield K HT81 d4_23 (host := "") (Or.inl (hw _ (List.mem_of_getElem? (i := 11) rfl))) Via.refl (O.2.1) fun T95 HT95 => ?_
        refine go_icmp_ge K HT95 d4_26 (fun cc => ?_) (fun cc => False.elim (by first | exact absurd cc (by decide) | exact cc (by decide)))
        refine go_iloadN K HT95 d4_48 rfl ?_
        refine go_aloadN K HT95 d4_49 rfl rfl ?_
        refine go_getfield K HT95 d4_50 (host := "") (Or.inl (hw _ (List.mem_of_getElem? (i := 11) rfl))) Via.refl (O.2.1) fun T96 HT96 => ?_
        refine go_iloadN K HT96 d4_53 rfl ?_
        refine go_isub K HT96 d4_54 fun v97 ev97 => ?_
        obtain rfl : v97 = (2 : Int32) := ev97.trans (by decide)
        refine go_imul K HT96 d4_55 fun v98 ev98 => ?_
        obtain rfl : v98 = (2 : Int32) := ev98.trans (by decide)
        refine go_iload K HT96 d4_56 rfl ?_
        refine go_iadd K HT96 d4_58 fun v99 ev99 => ?_
        obtain rfl : v99 = (3 : Int32) := ev99.trans (by decide)
        refine go_istoreN K HT96 d4_59 (L' := #[.val (.ref a), .val (.ref d), .val (.int 3), .val (.int 1), .val (.int 1), .val (.int 3)]) rfl ?_
        refine go_iinc K HT96 d4_60 rfl (z := 2) (by decide) (L' := #[.val (.ref a), .val (.ref d), .val (.int 3), .val (.int 2), .val (.int 1), .val (.int 3)]) rfl ?_
        refine go_goto K HT96 d4_63 ?_
        refine go_iloadN K HT96 d4_4 rfl ?_
        refine go_aloadN K HT96 d4_5 rfl rfl ?_
        refine go_getfield K HT96 d4_6 (host := "") (Or.inl (hw _ (List.mem_of_getElem? (i := 11) rfl))) Via.refl (O.2.1) fun T100 HT100 => ?_
        refine go_icmp_ge K HT100 d4_9 (fun cc => False.elim (by first | exact absurd cc (by decide) | exact cc (by decide))) (fun cc => ?_)
        refine go_iconst (0) K HT100 d4_12 (by decide) ?_
        refine go_istore K HT100 d4_13 (L' := #[.val (.ref a), .val (.ref d), .val (.int 3), .val (.int 2), .val (.int 0), .val (.int 3)]) rfl ?_
        refine go_iloadN K HT100 d4_15 rfl ?_
        refine go_iconst (1) K HT100 d4_16 (by decide) ?_
        refine go_iadd K HT100 d4_17 fun v101 ev101 => ?_
        obtain rfl : v101 = (3 : Int32) := ev101.trans (by decide)
        refine go_istore K HT100 d4_18 (L' := #[.val (.ref a), .val (.ref d), .val (.int 3), .val (.int 2), .val (.int 0), .val (.int 3)]) rfl ?_
        refine go_iload K HT100 d4_20 rfl ?_
        refine go_aloadN K HT100 d4_22 rfl rfl ?_
        refine go_getfield K HT100 d4_23 (host := "") (Or.inl (hw _ (List.mem_of_getElem? (i := 11) rfl))) Via.refl (O.2.1) fun T102 HT102 => ?_
        refine go_icmp_ge K HT102 d4_26 (fun cc => ?_) (fun cc => False.elim (by first | exact absurd cc (by decide) | exact cc (by decide)))
        refine go_iloadN K HT102 d4_48 rfl ?_
        refine go_aloadN K HT102 d4_49 rfl rfl ?_
        refine go_getfield K HT102 d4_50 (host := "") (Or.inl (hw _ (List.mem_of_getElem? (i := 11) rfl))) Via.refl (O.2.1) fun T103 HT103 => ?_
        refine go_iloadN K HT103 d4_53 rfl ?_
        refine go_isub K HT103 d4_54 fun v104 ev104 => ?_
        obtain rfl : v104 = (1 : Int32) := ev104.trans (by decide)
        refine go_imul K HT103 d4_55 fun v105 ev105 => ?_
        obtain rfl : v105 = (3 : Int32) := ev105.trans (by decide)
        refine go_iload K HT103 d4_56 rfl ?_
        refine go_iadd K HT103 d4_58 fun v106 ev106 => ?_
        obtain rfl : v106 = (3 : Int32) := ev106.trans (by decide)
        refine go_istoreN K HT103 d4_59 (L' := #[.val (.ref a), .val (.ref d), .val (.int 3), .val (.int 2), .val (.int 0), .val (.int 3)]) rfl ?_
        refine go_iinc K HT103 d4_60 rfl (z := 3) (by decide) (L' := #[.val (.ref a), .val (.ref d), .val (.int 3), .val (.int 3), .val (.int 0), .val (.int 3)]) rfl ?_
        refine go_goto K HT103 d4_63 ?_
        refine go_iloadN K HT103 d4_4 rfl ?_
        refine go_aloadN K HT103 d4_5 rfl rfl ?_
        refine go_getfield K HT103 d4_6 (host := "") (Or.inl (hw _ (List.mem_of_getElem? (i := 11) rfl))) Via.refl (O.2.1) fun T107 HT107 => ?_
        refine go_icmp_ge K HT107 d4_9 (fun cc => ?_) (fun cc => False.elim (by first | exact absurd cc (by decide) | exact cc (by decide)))
        refine go_iloadN K HT107 d4_66 rfl ?_
        exact go_iret K HT107 d4_67 rfl (by decide) (by decide) (⟨by simp only [rkF, if_pos k01, if_neg k02, if_pos k12]; rfl, rfl⟩)
    · have k02 : d2 < d0 := (oN_lt (by omega) (by omega)).mp k02c
      refine go_iinc K HT73 d4_39 rfl (z := 2) (by decide) (L' := #[.val (.ref a), .val (.ref d), .val (.int 0), .val (.int 0), .val (.int 2), .val (.int 2)]) rfl ?_
      refine go_iinc K HT73 d4_42 rfl (z := 3) (by decide) (L' := #[.val (.ref a), .val (.ref d), .val (.int 0), .val (.int 0), .val (.int 2), .val (.int 3)]) rfl ?_
      refine go_goto K HT73 d4_45 ?_
      refine go_iload K HT73 d4_20 rfl ?_
      refine go_aloadN K HT73 d4_22 rfl rfl ?_
      refine go_getfield K HT73 d4_23 (host := "") (Or.inl (hw _ (List.mem_of_getElem? (i := 11) rfl))) Via.refl (O.2.1) fun T108 HT108 => ?_
      refine go_icmp_ge K HT108 d4_26 (fun cc => ?_) (fun cc => False.elim (by first | exact absurd cc (by decide) | exact cc (by decide)))
      refine go_iloadN K HT108 d4_48 rfl ?_
      refine go_aloadN K HT108 d4_49 rfl rfl ?_
      refine go_getfield K HT108 d4_50 (host := "") (Or.inl (hw _ (List.mem_of_getElem? (i := 11) rfl))) Via.refl (O.2.1) fun T109 HT109 => ?_
      refine go_iloadN K HT109 d4_53 rfl ?_
      refine go_isub K HT109 d4_54 fun v110 ev110 => ?_
      obtain rfl : v110 = (3 : Int32) := ev110.trans (by decide)
      refine go_imul K HT109 d4_55 fun v111 ev111 => ?_
      obtain rfl : v111 = (0 : Int32) := ev111.trans (by decide)
      refine go_iload K HT109 d4_56 rfl ?_
      refine go_iadd K HT109 d4_58 fun v112 ev112 => ?_
      obtain rfl : v112 = (2 : Int32) := ev112.trans (by decide)
      refine go_istoreN K HT109 d4_59 (L' := #[.val (.ref a), .val (.ref d), .val (.int 2), .val (.int 0), .val (.int 2), .val (.int 3)]) rfl ?_
      refine go_iinc K HT109 d4_60 rfl (z := 1) (by decide) (L' := #[.val (.ref a), .val (.ref d), .val (.int 2), .val (.int 1), .val (.int 2), .val (.int 3)]) rfl ?_
      refine go_goto K HT109 d4_63 ?_
      refine go_iloadN K HT109 d4_4 rfl ?_
      refine go_aloadN K HT109 d4_5 rfl rfl ?_
      refine go_getfield K HT109 d4_6 (host := "") (Or.inl (hw _ (List.mem_of_getElem? (i := 11) rfl))) Via.refl (O.2.1) fun T113 HT113 => ?_
      refine go_icmp_ge K HT113 d4_9 (fun cc => False.elim (by first | exact absurd cc (by decide) | exact cc (by decide))) (fun cc => ?_)
      refine go_iconst (0) K HT113 d4_12 (by decide) ?_
      refine go_istore K HT113 d4_13 (L' := #[.val (.ref a), .val (.ref d), .val (.int 2), .val (.int 1), .val (.int 0), .val (.int 3)]) rfl ?_
      refine go_iloadN K HT113 d4_15 rfl ?_
      refine go_iconst (1) K HT113 d4_16 (by decide) ?_
      refine go_iadd K HT113 d4_17 fun v114 ev114 => ?_
      obtain rfl : v114 = (2 : Int32) := ev114.trans (by decide)
      refine go_istore K HT113 d4_18 (L' := #[.val (.ref a), .val (.ref d), .val (.int 2), .val (.int 1), .val (.int 0), .val (.int 2)]) rfl ?_
      refine go_iload K HT113 d4_20 rfl ?_
      refine go_aloadN K HT113 d4_22 rfl rfl ?_
      refine go_getfield K HT113 d4_23 (host := "") (Or.inl (hw _ (List.mem_of_getElem? (i := 11) rfl))) Via.refl (O.2.1) fun T115 HT115 => ?_
      refine go_icmp_ge K HT115 d4_26 (fun cc => False.elim (by first | exact absurd cc (by decide) | exact cc (by decide))) (fun cc => ?_)
      refine go_aloadN K HT115 d4_29 rfl rfl ?_
      refine go_iload K HT115 d4_30 rfl ?_
      refine go_iaload (2) K HT115 d4_32 (D) (by decide) (rfl) ?_
      refine go_aloadN K HT115 d4_33 rfl rfl ?_
      refine go_iloadN K HT115 d4_34 rfl ?_
      refine go_iaload (1) K HT115 d4_35 (D) (by decide) (rfl) ?_
      refine go_icmp_ge K HT115 d4_36 (fun k12c => ?_) (fun k12c => ?_)
      · have k12 : ¬ d2 < d1 := fun q => k12c ((oN_lt (by omega) (by omega)).mpr q)
        refine go_iinc K HT115 d4_42 rfl (z := 3) (by decide) (L' := #[.val (.ref a), .val (.ref d), .val (.int 2), .val (.int 1), .val (.int 0), .val (.int 3)]) rfl ?_
        refine go_goto K HT115 d4_45 ?_
        refine go_iload K HT115 d4_20 rfl ?_
        refine go_aloadN K HT115 d4_22 rfl rfl ?_
        refine go_getfield K HT115 d4_23 (host := "") (Or.inl (hw _ (List.mem_of_getElem? (i := 11) rfl))) Via.refl (O.2.1) fun T116 HT116 => ?_
        refine go_icmp_ge K HT116 d4_26 (fun cc => ?_) (fun cc => False.elim (by first | exact absurd cc (by decide) | exact cc (by decide)))
        refine go_iloadN K HT116 d4_48 rfl ?_
        refine go_aloadN K HT116 d4_49 rfl rfl ?_
        refine go_getfield K HT116 d4_50 (host := "") (Or.inl (hw _ (List.mem_of_getElem? (i := 11) rfl))) Via.refl (O.2.1) fun T117 HT117 => ?_
        refine go_iloadN K HT117 d4_53 rfl ?_
        refine go_isub K HT117 d4_54 fun v118 ev118 => ?_
        obtain rfl : v118 = (2 : Int32) := ev118.trans (by decide)
        refine go_imul K HT117 d4_55 fun v119 ev119 => ?_
        obtain rfl : v119 = (4 : Int32) := ev119.trans (by decide)
        refine go_iload K HT117 d4_56 rfl ?_
        refine go_iadd K HT117 d4_58 fun v120 ev120 => ?_
        obtain rfl : v120 = (4 : Int32) := ev120.trans (by decide)
        refine go_istoreN K HT117 d4_59 (L' := #[.val (.ref a), .val (.ref d), .val (.int 4), .val (.int 1), .val (.int 0), .val (.int 3)]) rfl ?_
        refine go_iinc K HT117 d4_60 rfl (z := 2) (by decide) (L' := #[.val (.ref a), .val (.ref d), .val (.int 4), .val (.int 2), .val (.int 0), .val (.int 3)]) rfl ?_
        refine go_goto K HT117 d4_63 ?_
        refine go_iloadN K HT117 d4_4 rfl ?_
        refine go_aloadN K HT117 d4_5 rfl rfl ?_
        refine go_getfield K HT117 d4_6 (host := "") (Or.inl (hw _ (List.mem_of_getElem? (i := 11) rfl))) Via.refl (O.2.1) fun T121 HT121 => ?_
        refine go_icmp_ge K HT121 d4_9 (fun cc => False.elim (by first | exact absurd cc (by decide) | exact cc (by decide))) (fun cc => ?_)
        refine go_iconst (0) K HT121 d4_12 (by decide) ?_
        refine go_istore K HT121 d4_13 (L' := #[.val (.ref a), .val (.ref d), .val (.int 4), .val (.int 2), .val (.int 0), .val (.int 3)]) rfl ?_
        refine go_iloadN K HT121 d4_15 rfl ?_
        refine go_iconst (1) K HT121 d4_16 (by decide) ?_
        refine go_iadd K HT121 d4_17 fun v122 ev122 => ?_
        obtain rfl : v122 = (3 : Int32) := ev122.trans (by decide)
        refine go_istore K HT121 d4_18 (L' := #[.val (.ref a), .val (.ref d), .val (.int 4), .val (.int 2), .val (.int 0), .val (.int 3)]) rfl ?_
        refine go_iload K HT121 d4_20 rfl ?_
        refine go_aloadN K HT121 d4_22 rfl rfl ?_
        refine go_getfield K HT121 d4_23 (host := "") (Or.inl (hw _ (List.mem_of_getElem? (i := 11) rfl))) Via.refl (O.2.1) fun T123 HT123 => ?_
        refine go_icmp_ge K HT123 d4_26 (fun cc => ?_) (fun cc => False.elim (by first | exact absurd cc (by decide) | exact cc (by decide)))
        refine go_iloadN K HT123 d4_48 rfl ?_
        refine go_aloadN K HT123 d4_49 rfl rfl ?_
        refine go_getfield K HT123 d4_50 (host := "") (Or.inl (hw _ (List.mem_of_getElem? (i := 11) rfl))) Via.refl (O.2.1) fun T124 HT124 => ?_
        refine go_iloadN K HT124 d4_53 rfl ?_
        refine go_isub K HT124 d4_54 fun v125 ev125 => ?_
        obtain rfl : v125 = (1 : Int32) := ev125.trans (by decide)
        refine go_imul K HT124 d4_55 fun v126 ev126 => ?_
        obtain rfl : v126 = (4 : Int32) := ev126.trans (by decide)
        refine go_iload K HT124 d4_56 rfl ?_
        refine go_iadd K HT124 d4_58 fun v127 ev127 => ?_
        obtain rfl : v127 = (4 : Int32) := ev127.trans (by decide)
        refine go_istoreN K HT124 d4_59 (L' := #[.val (.ref a), .val (.ref d), .val (.int 4), .val (.int 2), .val (.int 0), .val (.int 3)]) rfl ?_
        refine go_iinc K HT124 d4_60 rfl (z := 3) (by decide) (L' := #[.val (.ref a), .val (.ref d), .val (.int 4), .val (.int 3), .val (.int 0), .val (.int 3)]) rfl ?_
        refine go_goto K HT124 d4_63 ?_
        refine go_iloadN K HT124 d4_4 rfl ?_
        refine go_aloadN K HT124 d4_5 rfl rfl ?_
        refine go_getfield K HT124 d4_6 (host := "") (Or.inl (hw _ (List.mem_of_getElem? (i := 11) rfl))) Via.refl (O.2.1) fun T128 HT128 => ?_
        refine go_icmp_ge K HT128 d4_9 (fun cc => ?_) (fun cc => False.elim (by first | exact absurd cc (by decide) | exact cc (by decide)))
        refine go_iloadN K HT128 d4_66 rfl ?_
        exact go_iret K HT128 d4_67 rfl (by decide) (by decide) (⟨by simp only [rkF, if_pos k01, if_pos k02, if_neg k12]; rfl, rfl⟩)
      · have k12 : d2 < d1 := (oN_lt (by omega) (by omega)).mp k12c
        refine go_iinc K HT115 d4_39 rfl (z := 1) (by decide) (L' := #[.val (.ref a), .val (.ref d), .val (.int 2), .val (.int 1), .val (.int 1), .val (.int 2)]) rfl ?_
        refine go_iinc K HT115 d4_42 rfl (z := 3) (by decide) (L' := #[.val (.ref a), .val (.ref d), .val (.int 2), .val (.int 1), .val (.int 1), .val (.int 3)]) rfl ?_
        refine go_goto K HT115 d4_45 ?_
        refine go_iload K HT115 d4_20 rfl ?_
        refine go_aloadN K HT115 d4_22 rfl rfl ?_
        refine go_getfield K HT115 d4_23 (host := "") (Or.inl (hw _ (List.mem_of_getElem? (i := 11) rfl))) Via.refl (O.2.1) fun T129 HT129 => ?_
        refine go_icmp_ge K HT129 d4_26 (fun cc => ?_) (fun cc => False.elim (by first | exact absurd cc (by decide) | exact cc (by decide)))
        refine go_iloadN K HT129 d4_48 rfl ?_
        refine go_aloadN K HT129 d4_49 rfl rfl ?_
        refine go_getfield K HT129 d4_50 (host := "") (Or.inl (hw _ (List.mem_of_getElem? (i := 11) rfl))) Via.refl (O.2.1) fun T130 HT130 => ?_
        refine go_iloadN K HT130 d4_53 rfl ?_
        refine go_isub K HT130 d4_54 fun v131 ev131 => ?_
        obtain rfl : v131 = (2 : Int32) := ev131.trans (by decide)
        refine go_imul K HT130 d4_55 fun v132 ev132 => ?_
        obtain rfl : v132 = (4 : Int32) := ev132.trans (by decide)
        refine go_iload K HT130 d4_56 rfl ?_
        refine go_iadd K HT130 d4_58 fun v133 ev133 => ?_
        obtain rfl : v133 = (5 : Int32) := ev133.trans (by decide)
        refine go_istoreN K HT130 d4_59 (L' := #[.val (.ref a), .val (.ref d), .val (.int 5), .val (.int 1), .val (.int 1), .val (.int 3)]) rfl ?_
        refine go_iinc K HT130 d4_60 rfl (z := 2) (by decide) (L' := #[.val (.ref a), .val (.ref d), .val (.int 5), .val (.int 2), .val (.int 1), .val (.int 3)]) rfl ?_
        refine go_goto K HT130 d4_63 ?_
        refine go_iloadN K HT130 d4_4 rfl ?_
        refine go_aloadN K HT130 d4_5 rfl rfl ?_
        refine go_getfield K HT130 d4_6 (host := "") (Or.inl (hw _ (List.mem_of_getElem? (i := 11) rfl))) Via.refl (O.2.1) fun T134 HT134 => ?_
        refine go_icmp_ge K HT134 d4_9 (fun cc => False.elim (by first | exact absurd cc (by decide) | exact cc (by decide))) (fun cc => ?_)
        refine go_iconst (0) K HT134 d4_12 (by decide) ?_
        refine go_istore K HT134 d4_13 (L' := #[.val (.ref a), .val (.ref d), .val (.int 5), .val (.int 2), .val (.int 0), .val (.int 3)]) rfl ?_
        refine go_iloadN K HT134 d4_15 rfl ?_
        refine go_iconst (1) K HT134 d4_16 (by decide) ?_
        refine go_iadd K HT134 d4_17 fun v135 ev135 => ?_
        obtain rfl : v135 = (3 : Int32) := ev135.trans (by decide)
        refine go_istore K HT134 d4_18 (L' := #[.val (.ref a), .val (.ref d), .val (.int 5), .val (.int 2), .val (.int 0), .val (.int 3)]) rfl ?_
        refine go_iload K HT134 d4_20 rfl ?_
        refine go_aloadN K HT134 d4_22 rfl rfl ?_
        refine go_getfield K HT134 d4_23 (host := "") (Or.inl (hw _ (List.mem_of_getElem? (i := 11) rfl))) Via.refl (O.2.1) fun T136 HT136 => ?_
        refine go_icmp_ge K HT136 d4_26 (fun cc => ?_) (fun cc => False.elim (by first | exact absurd cc (by decide) | exact cc (by decide)))
        refine go_iloadN K HT136 d4_48 rfl ?_
        refine go_aloadN K HT136 d4_49 rfl rfl ?_
        refine go_getfield K HT136 d4_50 (host := "") (Or.inl (hw _ (List.mem_of_getElem? (i := 11) rfl))) Via.refl (O.2.1) fun T137 HT137 => ?_
        refine go_iloadN K HT137 d4_53 rfl ?_
        refine go_isub K HT137 d4_54 fun v138 ev138 => ?_
        obtain rfl : v138 = (1 : Int32) := ev138.trans (by decide)
        refine go_imul K HT137 d4_55 fun v139 ev139 => ?_
        obtain rfl : v139 = (5 : Int32) := ev139.trans (by decide)
        refine go_iload K HT137 d4_56 rfl ?_
        refine go_iadd K HT137 d4_58 fun v140 ev140 => ?_
        obtain rfl : v140 = (5 : Int32) := ev140.trans (by decide)
        refine go_istoreN K HT137 d4_59 (L' := #[.val (.ref a), .val (.ref d), .val (.int 5), .val (.int 2), .val (.int 0), .val (.int 3)]) rfl ?_
        refine go_iinc K HT137 d4_60 rfl (z := 3) (by decide) (L' := #[.val (.ref a), .val (.ref d), .val (.int 5), .val (.int 3), .val (.int 0), .val (.int 3)]) rfl ?_
        refine go_goto K HT137 d4_63 ?_
        refine go_iloadN K HT137 d4_4 rfl ?_
        refine go_aloadN K HT137 d4_5 rfl rfl ?_
        refine go_getfield K HT137 d4_6 (host := "") (Or.inl (hw _ (List.mem_of_getElem? (i := 11) rfl))) Via.refl (O.2.1) fun T141 HT141 => ?_
        refine go_icmp_ge K HT141 d4_9 (fun cc => ?_) (fun cc => False.elim (by first | exact absurd cc (by decide) | exact cc (by decide)))
        refine go_iloadN K HT141 d4_66 rfl ?_
        exact go_iret K HT141 d4_67 rfl (by decide) (by decide) (⟨by simp only [rkF, if_pos k01, if_pos k02, if_pos k12]; rfl, rfl⟩)
set_option maxRecDepth 65536 in
set_option maxHeartbeats 40000000 in
theorem rmA3 (Z : State) (a0 : Array Value) (hw : ∀ d ∈ tables_1, d.before a0 Z = true) (a : Addr) (d : Addr) (h0 : Heap) (n0 : Nat) (Z0 : n0 ≤ h0.size) (p o : Addr) (c : Int64) (xs ys : List Int64) (d0 d1 d2 : Nat) (O : DT Z h0 a 3 p (.ref o) c) (P : JA Z h0 p xs) (B : JA Z h0 o ys) (D : IA Z h0 d [oN d0, oN d1, oN d2]) (hx : xs.length = 9) (hy : ys.length = 6) (l0 : d0 < 3) (l1 : d1 < 3) (l2 : d2 < 3) (hr : rkF d0 d1 d2 < 6) (nep : a ≠ p) (neo : a ≠ o) (npo : p ≠ o) (ndp : d ≠ p) (ndo : d ≠ o) (ga : n0 ≤ a) (gp : n0 ≤ p) (go : n0 ≤ o) (lau : Launch) :
    Con lau Z (⟨"com/example/evenhand/evenhand/DeckTally", "add", "([I)V"⟩ : MethodName) prog_6_method_2_code 3 none ({ frames := 1, cells := 0, slots := 0, locals := 24 } : Room) #[(.ref a), (.ref d)] h0 n0 (RV fun h => DT Z h a 3 p (.ref o) (c + 1) ∧ JA Z h p (add3 xs d0 d1 d2) ∧ JA Z h o (inc ys (rkF d0 d1 d2)) ∧ Keep h0 h [a, p, o]) := by
  refine con_intro pn5 (L := #[.val (.ref a), .val (.ref d), .unset]) (fun m => by first | (simp [entryFrame, mkF, argsToLocals, Value.category, maxLocals]; done) | rfl) Z0 (fun w T K H => ?_)
  have KK : Keep h0 h0 [a, p, o] := Keep.refl _ _
  refine go_iconst (0) K H d5_0 (by decide) ?_
  refine go_istoreN K H d5_1 (L' := #[.val (.ref a), .val (.ref d), .val (.int 0)]) rfl ?_
  refine go_iloadN K H d5_2 rfl ?_
  refine go_aloadN K H d5_3 rfl rfl ?_
  refine go_getfield K H d5_4 (host := "") (Or.inl (hw _ (List.mem_of_getElem? (i := 11) rfl))) Via.refl (O.2.1) fun T1 HT1 => ?_
  refine go_icmp_ge K HT1 d5_7 (fun cc => False.elim (by first | exact absurd cc (by decide) | exact cc (by decide))) (fun cc => ?_)
  refine go_aloadN K HT1 d5_10 rfl rfl ?_
  refine go_getfield K HT1 d5_11 (host := "") (Or.inl (hw _ (List.mem_of_getElem? (i := 14) rfl))) Via.refl (O.2.2.1) fun T2 HT2 => ?_
  refine go_aloadN K HT2 d5_14 rfl rfl ?_
  refine go_iloadN K HT2 d5_15 rfl ?_
  refine go_iaload (0) K HT2 d5_16 (D) (by decide) (rfl) ?_
  refine go_aloadN K HT2 d5_17 rfl rfl ?_
  refine go_getfield K HT2 d5_18 (host := "") (Or.inl (hw _ (List.mem_of_getElem? (i := 11) rfl))) Via.refl (O.2.1) fun T3 HT3 => ?_
  refine go_imul K HT3 d5_21 fun v4 ev4 => ?_
  have fv4 := f_imul ev4
  have rv4 := rng32 v4
  refine go_iloadN K HT3 d5_22 rfl ?_
  refine go_iadd K HT3 d5_23 fun v5 ev5 => ?_
  have fv5 := f_iadd ev5
  have rv5 := rng32 v5
  refine go_dup2 K HT3 d5_24 rfl rfl ?_
  have od0 := oN_toInt (n := d0) (by omega)
  have hj0 : v5.toInt = ((d0 * 3 + 0 : Nat) : Int) := by (try simp only [or_true, true_or, and_true, true_and, not_true_eq_false, not_false_eq_true, Int32.lt_iff_toInt_lt, Int32.le_iff_toInt_le, ← Int32.toInt_inj, Int64.lt_iff_toInt_lt, Int64.le_iff_toInt_le, ← Int64.toInt_inj, Int32.reduceToInt, Int64.reduceToInt, ne_eq] at *) <;> omega
  have hb0 : d0 * 3 + 0 < (xs).length := by omega
  refine go_laload (d0 * 3 + 0) K HT3 d5_25 (P) (hj0) (at_mapJ hb0) ?_
  refine go_lconst 1 K HT3 d5_26 (by decide) ?_
  refine go_ladd K HT3 d5_27 fun v6 ev6 => ?_
  have fv6 := f_ladd ev6
  have rv6 := rng64 v6
  refine go_lastore (d0 * 3 + 0) K HT3 d5_28 (P) (hj0) (by simpa using hb0) (gp) fun T7 h7 H7 W7 => ?_
  replace P : JA Z h7 p (inc (xs) (d0 * 3 + 0)) := by have q := JA.set P W7; rw [ev6] at q; exact q
  replace O := O.other W7 nep; replace D := D.other W7 ndp; replace B := B.other W7 npo.symm
  replace KK : Keep h0 h7 [a, p, o] := KK.wr W7 (Or.inl (by simp))
  clear hj0 hb0 od0
  refine go_iinc K H7 d5_29 rfl (z := 1) (by decide) (L' := #[.val (.ref a), .val (.ref d), .val (.int 1)]) rfl ?_
  refine go_goto K H7 d5_32 ?_
  refine go_iloadN K H7 d5_2 rfl ?_
  refine go_aloadN K H7 d5_3 rfl rfl ?_
  refine go_getfield K H7 d5_4 (host := "") (Or.inl (hw _ (List.mem_of_getElem? (i := 11) rfl))) Via.refl (O.2.1) fun T8 HT8 => ?_
  refine go_icmp_ge K HT8 d5_7 (fun cc => False.elim (by first | exact absurd cc (by decide) | exact cc (by decide))) (fun cc => ?_)
  refine go_aloadN K HT8 d5_10 rfl rfl ?_
  refine go_getfield K HT8 d5_11 (host := "") (Or.inl (hw _ (List.mem_of_getElem? (i := 14) rfl))) Via.refl (O.2.2.1) fun T9 HT9 => ?_
  refine go_aloadN K HT9 d5_14 rfl rfl ?_
  refine go_iloadN K HT9 d5_15 rfl ?_
  refine go_iaload (1) K HT9 d5_16 (D) (by decide) (rfl) ?_
  refine go_aloadN K HT9 d5_17 rfl rfl ?_
  refine go_getfield K HT9 d5_18 (host := "") (Or.inl (hw _ (List.mem_of_getElem? (i := 11) rfl))) Via.refl (O.2.1) fun T10 HT10 => ?_
  refine go_imul K HT10 d5_21 fun v11 ev11 => ?_
  have fv11 := f_imul ev11
  have rv11 := rng32 v11
  refine go_iloadN K HT10 d5_22 rfl ?_
  refine go_iadd K HT10 d5_23 fun v12 ev12 => ?_
  have fv12 := f_iadd ev12
  have rv12 := rng32 v12
  refine go_dup2 K HT10 d5_24 rfl rfl ?_
  have od1 := oN_toInt (n := d1) (by omega)
  have hj1 : v12.toInt = ((d1 * 3 + 1 : Nat) : Int) := by (try simp only [or_true, true_or, and_true, true_and, not_true_eq_false, not_false_eq_true, Int32.lt_iff_toInt_lt, Int32.le_iff_toInt_le, ← Int32.toInt_inj, Int64.lt_iff_toInt_lt, Int64.le_iff_toInt_le, ← Int64.toInt_inj, Int32.reduceToInt, Int64.reduceToInt, ne_eq] at *) <;> omega
  have hb1 : d1 * 3 + 1 < (inc (xs) (d0 * 3 + 0)).length := by simp only [inc_len]; omega
  refine go_laload (d1 * 3 + 1) K HT10 d5_25 (P) (hj1) (at_mapJ hb1) ?_
  refine go_lconst 1 K HT10 d5_26 (by decide) ?_
  refine go_ladd K HT10 d5_27 fun v13 ev13 => ?_
  have fv13 := f_ladd ev13
  have rv13 := rng64 v13
  refine go_lastore (d1 * 3 + 1) K HT10 d5_28 (P) (hj1) (by simpa using hb1) (gp) fun T14 h14 H14 W14 => ?_
  replace P : JA Z h14 p (inc (inc (xs) (d0 * 3 + 0)) (d1 * 3 + 1)) := by have q := JA.set P W14; rw [ev13] at q; exact q
  replace O := O.other W14 nep; replace D := D.other W14 ndp; replace B := B.other W14 npo.symm
  replace KK : Keep h0 h14 [a, p, o] := KK.wr W14 (Or.inl (by simp))
  clear hj1 hb1 od1
  refine go_iinc K H14 d5_29 rfl (z := 2) (by decide) (L' := #[.val (.ref a), .val (.ref d), .val (.int 2)]) rfl ?_
  refine go_goto K H14 d5_32 ?_
  refine go_iloadN K H14 d5_2 rfl ?_
  refine go_aloadN K H14 d5_3 rfl rfl ?_
  refine go_getfield K H14 d5_4 (host := "") (Or.inl (hw _ (List.mem_of_getElem? (i := 11) rfl))) Via.refl (O.2.1) fun T15 HT15 => ?_
  refine go_icmp_ge K HT15 d5_7 (fun cc => False.elim (by first | exact absurd cc (by decide) | exact cc (by decide))) (fun cc => ?_)
  refine go_aloadN K HT15 d5_10 rfl rfl ?_
  refine go_getfield K HT15 d5_11 (host := "") (Or.inl (hw _ (List.mem_of_getElem? (i := 14) rfl))) Via.refl (O.2.2.1) fun T16 HT16 => ?_
  refine go_aloadN K HT16 d5_14 rfl rfl ?_
  refine go_iloadN K HT16 d5_15 rfl ?_
  refine go_iaload (2) K HT16 d5_16 (D) (by decide) (rfl) ?_
  refine go_aloadN K HT16 d5_17 rfl rfl ?_
  refine go_getfield K HT16 d5_18 (host := "") (Or.inl (hw _ (List.mem_of_getElem? (i := 11) rfl))) Via.refl (O.2.1) fun T17 HT17 => ?_
  refine go_imul K HT17 d5_21 fun v18 ev18 => ?_
  have fv18 := f_imul ev18
  have rv18 := rng32 v18
  refine go_iloadN K HT17 d5_22 rfl ?_
  refine go_iadd K HT17 d5_23 fun v19 ev19 => ?_
  have fv19 := f_iadd ev19
  have rv19 := rng32 v19
  refine go_dup2 K HT17 d5_24 rfl rfl ?_
  have od2 := oN_toInt (n := d2) (by omega)
  have hj2 : v19.toInt = ((d2 * 3 + 2 : Nat) : Int) := by (try simp only [or_true, true_or, and_true, true_and, not_true_eq_false, not_false_eq_true, Int32.lt_iff_toInt_lt, Int32.le_iff_toInt_le, ← Int32.toInt_inj, Int64.lt_iff_toInt_lt, Int64.le_iff_toInt_le, ← Int64.toInt_inj, Int32.reduceToInt, Int64.reduceToInt, ne_eq] at *) <;> omega
  have hb2 : d2 * 3 + 2 < (inc (inc (xs) (d0 * 3 + 0)) (d1 * 3 + 1)).length := by simp only [inc_len]; omega
  refine go_laload (d2 * 3 + 2) K HT17 d5_25 (P) (hj2) (at_mapJ hb2) ?_
  refine go_lconst 1 K HT17 d5_26 (by decide) ?_
  refine go_ladd K HT17 d5_27 fun v20 ev20 => ?_
  have fv20 := f_ladd ev20
  have rv20 := rng64 v20
  refine go_lastore (d2 * 3 + 2) K HT17 d5_28 (P) (hj2) (by simpa using hb2) (gp) fun T21 h21 H21 W21 => ?_
  replace P : JA Z h21 p (inc (inc (inc (xs) (d0 * 3 + 0)) (d1 * 3 + 1)) (d2 * 3 + 2)) := by have q := JA.set P W21; rw [ev20] at q; exact q
  replace O := O.other W21 nep; replace D := D.other W21 ndp; replace B := B.other W21 npo.symm
  replace KK : Keep h0 h21 [a, p, o] := KK.wr W21 (Or.inl (by simp))
  clear hj2 hb2 od2
  refine go_iinc K H21 d5_29 rfl (z := 3) (by decide) (L' := #[.val (.ref a), .val (.ref d), .val (.int 3)]) rfl ?_
  refine go_goto K H21 d5_32 ?_
  refine go_iloadN K H21 d5_2 rfl ?_
  refine go_aloadN K H21 d5_3 rfl rfl ?_
  refine go_getfield K H21 d5_4 (host := "") (Or.inl (hw _ (List.mem_of_getElem? (i := 11) rfl))) Via.refl (O.2.1) fun T22 HT22 => ?_
  refine go_icmp_ge K HT22 d5_7 (fun cc => ?_) (fun cc => False.elim (by first | exact absurd cc (by decide) | exact cc (by decide)))
  refine go_aloadN K HT22 d5_35 rfl rfl ?_
  refine go_getfield K HT22 d5_36 (host := "") (Or.inl (hw _ (List.mem_of_getElem? (i := 16) rfl))) Via.refl (O.2.2.2.1) fun T23 HT23 => ?_
  refine go_ifnull_no K HT23 d5_39 ?_
  refine go_aloadN K HT23 d5_42 rfl rfl ?_
  refine go_getfield K HT23 d5_43 (host := "") (Or.inl (hw _ (List.mem_of_getElem? (i := 16) rfl))) Via.refl (O.2.2.2.1) fun T24 HT24 => ?_
  refine go_aloadN K HT24 d5_46 rfl rfl ?_
  refine go_aloadN K HT24 d5_47 rfl rfl ?_
  refine go_callP [(.ref d)] K HT24 d5_48 (O.1) (hw _ (List.mem_of_getElem? (i := 49) rfl)) (hw _ (List.mem_of_getElem? (i := 50) rfl)) (sel_priv (hw _ (List.mem_of_getElem? (i := 3) rfl)) (hw _ (List.mem_of_getElem? (i := 51) rfl)) (hw _ (List.mem_of_getElem? (i := 50) rfl)) (by decide)) (hw _ (List.mem_of_getElem? (i := 51) rfl)) (hw _ (List.mem_of_getElem? (i := 4) rfl)) (hw _ (List.mem_of_getElem? (i := 52) rfl)) (st' := [(.ref o)]) (by decide) (rmK Z a0 hw _ _ _ n0 (at_size K HT24) _ _ _ _ _ _ O D l0 l1 l2) pd0 rfl rfl rfl (by decide) (W := 1) rfl (by decide) (by decide) (by decide) fun T25 h25 v25 H25 q25 => ?_
  obtain ⟨z25, rfl, er, rfl⟩ := q25
  show Go w _ _ 51 #[.val (.ref a), .val (.ref d), .val (.int 3)] [(.int z25), (.ref o)]
  refine go_dup2 K H25 d5_51 rfl rfl ?_
  have rl : rkF d0 d1 d2 < ys.length := by rw [hy]; exact hr
  have hjr : z25.toInt = ((rkF d0 d1 d2 : Nat) : Int) := by rw [er]; exact oN_toInt (by omega)
  refine go_laload (rkF d0 d1 d2) K H25 d5_52 (B) (hjr) (at_mapJ rl) ?_
  refine go_lconst 1 K H25 d5_53 (by decide) ?_
  refine go_ladd K H25 d5_54 fun v26 ev26 => ?_
  have fv26 := f_ladd ev26
  have rv26 := rng64 v26
  refine go_lastore (rkF d0 d1 d2) K H25 d5_55 (B) (hjr) (by simpa using rl) (go) fun T27 h27 H27 W27 => ?_
  replace B : JA Z h27 o (inc ys (rkF d0 d1 d2)) := by have q := JA.set B W27; rw [ev26] at q; exact q
  replace O := O.other W27 neo; replace D := D.other W27 ndo; replace P := P.other W27 npo
  replace KK : Keep h0 h27 [a, p, o] := KK.wr W27 (Or.inl (by simp))
  refine go_aloadN K H27 d5_56 rfl rfl ?_
  refine go_dup K H27 d5_57 rfl ?_
  refine go_getfield K H27 d5_58 (host := "") (Or.inl (hw _ (List.mem_of_getElem? (i := 23) rfl))) Via.refl (O.2.2.2.2) fun T28 HT28 => ?_
  refine go_lconst 1 K HT28 d5_61 (by decide) ?_
  refine go_ladd K HT28 d5_62 fun v29 ev29 => ?_
  have fv29 := f_ladd ev29
  have rv29 := rng64 v29
  refine go_putfield K HT28 d5_63 (host := "") (Or.inl (hw _ (List.mem_of_getElem? (i := 23) rfl))) Via.refl (O.2.2.2.2) (O.1) (Or.inl (hw _ (List.mem_of_getElem? (i := 24) rfl))) (hw _ (List.mem_of_getElem? (i := 3) rfl)) (ty := .long) (by decide) rfl rfl (ga) fun T30 h30 H30 W30 => ?_
  have O' : DT Z h30 a 3 p (.ref o) (c + 1) := ⟨O.1.wr W30, O.2.1.other W30 (Or.inr (slot_ne (Z := Z) (a0 := a0) (Or.inr (hw _ (List.mem_of_getElem? (i := 12) rfl))) (Or.inl (hw _ (List.mem_of_getElem? (i := 24) rfl))) (by decide) (t := .int) (by decide) (t' := .long) (by decide))), O.2.2.1.other W30 (Or.inr (slot_ne (Z := Z) (a0 := a0) (Or.inr (hw _ (List.mem_of_getElem? (i := 15) rfl))) (Or.inl (hw _ (List.mem_of_getElem? (i := 24) rfl))) (by decide) (t := (.array .long)) (by decide) (t' := .long) (by decide))), O.2.2.2.1.other W30 (Or.inr (slot_ne (Z := Z) (a0 := a0) (Or.inr (hw _ (List.mem_of_getElem? (i := 17) rfl))) (Or.inl (hw _ (List.mem_of_getElem? (i := 24) rfl))) (by decide) (t := (.array .long)) (by decide) (t' := .long) (by decide))), (by have q := O.2.2.2.2.same W30; rw [ev29] at q; exact q)⟩
  replace KK : Keep h0 h30 [a, p, o] := KK.wr W30 (Or.inl (by simp))
  exact go_ret K H30 d5_66 rfl (by decide) (by decide) (⟨O', P.other W30 nep.symm, B.other W30 neo.symm, KK⟩)
set_option maxRecDepth 65536 in
set_option maxHeartbeats 40000000 in
theorem rmA7 (Z : State) (a0 : Array Value) (hw : ∀ d ∈ tables_1, d.before a0 Z = true) (a : Addr) (d : Addr) (h0 : Heap) (n0 : Nat) (Z0 : n0 ≤ h0.size) (p : Addr) (c : Int64) (xs : List Int64) (d0 d1 d2 d3 d4 d5 d6 : Nat) (O : DT Z h0 a 7 p .null c) (P : JA Z h0 p xs) (D : IA Z h0 d [oN d0, oN d1, oN d2, oN d3, oN d4, oN d5, oN d6]) (hx : xs.length = 49) (l0 : d0 < 7) (l1 : d1 < 7) (l2 : d2 < 7) (l3 : d3 < 7) (l4 : d4 < 7) (l5 : d5 < 7) (l6 : d6 < 7) (nep : a ≠ p) (ndp : d ≠ p) (ga : n0 ≤ a) (gp : n0 ≤ p) (lau : Launch) :
    Con lau Z (⟨"com/example/evenhand/evenhand/DeckTally", "add", "([I)V"⟩ : MethodName) prog_6_method_2_code 3 none ({ frames := 0, cells := 0, slots := 0, locals := 0 } : Room) #[(.ref a), (.ref d)] h0 n0 (RV fun h => DT Z h a 7 p .null (c + 1) ∧ JA Z h p (add7 xs d0 d1 d2 d3 d4 d5 d6) ∧ Keep h0 h [a, p]) := by
  refine con_intro pn5 (L := #[.val (.ref a), .val (.ref d), .unset]) (fun m => by first | (simp [entryFrame, mkF, argsToLocals, Value.category, maxLocals]; done) | rfl) Z0 (fun w T K H => ?_)
  have KK : Keep h0 h0 [a, p] := Keep.refl _ _
  refine go_iconst (0) K H d5_0 (by decide) ?_
  refine go_istoreN K H d5_1 (L' := #[.val (.ref a), .val (.ref d), .val (.int 0)]) rfl ?_
  refine go_iloadN K H d5_2 rfl ?_
  refine go_aloadN K H d5_3 rfl rfl ?_
  refine go_getfield K H d5_4 (host := "") (Or.inl (hw _ (List.mem_of_getElem? (i := 11) rfl))) Via.refl (O.2.1) fun T1 HT1 => ?_
  refine go_icmp_ge K HT1 d5_7 (fun cc => False.elim (by first | exact absurd cc (by decide) | exact cc (by decide))) (fun cc => ?_)
  refine go_aloadN K HT1 d5_10 rfl rfl ?_
  refine go_getfield K HT1 d5_11 (host := "") (Or.inl (hw _ (List.mem_of_getElem? (i := 14) rfl))) Via.refl (O.2.2.1) fun T2 HT2 => ?_
  refine go_aloadN K HT2 d5_14 rfl rfl ?_
  refine go_iloadN K HT2 d5_15 rfl ?_
  refine go_iaload (0) K HT2 d5_16 (D) (by decide) (rfl) ?_
  refine go_aloadN K HT2 d5_17 rfl rfl ?_
  refine go_getfield K HT2 d5_18 (host := "") (Or.inl (hw _ (List.mem_of_getElem? (i := 11) rfl))) Via.refl (O.2.1) fun T3 HT3 => ?_
  refine go_imul K HT3 d5_21 fun v4 ev4 => ?_
  have fv4 := f_imul ev4
  have rv4 := rng32 v4
  refine go_iloadN K HT3 d5_22 rfl ?_
  refine go_iadd K HT3 d5_23 fun v5 ev5 => ?_
  have fv5 := f_iadd ev5
  have rv5 := rng32 v5
  refine go_dup2 K HT3 d5_24 rfl rfl ?_
  have od0 := oN_toInt (n := d0) (by omega)
  have hj0 : v5.toInt = ((d0 * 7 + 0 : Nat) : Int) := by (try simp only [or_true, true_or, and_true, true_and, not_true_eq_false, not_false_eq_true, Int32.lt_iff_toInt_lt, Int32.le_iff_toInt_le, ← Int32.toInt_inj, Int64.lt_iff_toInt_lt, Int64.le_iff_toInt_le, ← Int64.toInt_inj, Int32.reduceToInt, Int64.reduceToInt, ne_eq] at *) <;> omega
  have hb0 : d0 * 7 + 0 < (xs).length := by omega
  refine go_laload (d0 * 7 + 0) K HT3 d5_25 (P) (hj0) (at_mapJ hb0) ?_
  refine go_lconst 1 K HT3 d5_26 (by decide) ?_
  refine go_ladd K HT3 d5_27 fun v6 ev6 => ?_
  have fv6 := f_ladd ev6
  have rv6 := rng64 v6
  refine go_lastore (d0 * 7 + 0) K HT3 d5_28 (P) (hj0) (by simpa using hb0) (gp) fun T7 h7 H7 W7 => ?_
  replace P : JA Z h7 p (inc (xs) (d0 * 7 + 0)) := by have q := JA.set P W7; rw [ev6] at q; exact q
  replace O := O.other W7 nep; replace D := D.other W7 ndp
  replace KK : Keep h0 h7 [a, p] := KK.wr W7 (Or.inl (by simp))
  clear hj0 hb0 od0
  refine go_iinc K H7 d5_29 rfl (z := 1) (by decide) (L' := #[.val (.ref a), .val (.ref d), .val (.int 1)]) rfl ?_
  refine go_goto K H7 d5_32 ?_
  refine go_iloadN K H7 d5_2 rfl ?_
  refine go_aloadN K H7 d5_3 rfl rfl ?_
  refine go_getfield K H7 d5_4 (host := "") (Or.inl (hw _ (List.mem_of_getElem? (i := 11) rfl))) Via.refl (O.2.1) fun T8 HT8 => ?_
  refine go_icmp_ge K HT8 d5_7 (fun cc => False.elim (by first | exact absurd cc (by decide) | exact cc (by decide))) (fun cc => ?_)
  refine go_aloadN K HT8 d5_10 rfl rfl ?_
  refine go_getfield K HT8 d5_11 (host := "") (Or.inl (hw _ (List.mem_of_getElem? (i := 14) rfl))) Via.refl (O.2.2.1) fun T9 HT9 => ?_
  refine go_aloadN K HT9 d5_14 rfl rfl ?_
  refine go_iloadN K HT9 d5_15 rfl ?_
  refine go_iaload (1) K HT9 d5_16 (D) (by decide) (rfl) ?_
  refine go_aloadN K HT9 d5_17 rfl rfl ?_
  refine go_getfield K HT9 d5_18 (host := "") (Or.inl (hw _ (List.mem_of_getElem? (i := 11) rfl))) Via.refl (O.2.1) fun T10 HT10 => ?_
  refine go_imul K HT10 d5_21 fun v11 ev11 => ?_
  have fv11 := f_imul ev11
  have rv11 := rng32 v11
  refine go_iloadN K HT10 d5_22 rfl ?_
  refine go_iadd K HT10 d5_23 fun v12 ev12 => ?_
  have fv12 := f_iadd ev12
  have rv12 := rng32 v12
  refine go_dup2 K HT10 d5_24 rfl rfl ?_
  have od1 := oN_toInt (n := d1) (by omega)
  have hj1 : v12.toInt = ((d1 * 7 + 1 : Nat) : Int) := by (try simp only [or_true, true_or, and_true, true_and, not_true_eq_false, not_false_eq_true, Int32.lt_iff_toInt_lt, Int32.le_iff_toInt_le, ← Int32.toInt_inj, Int64.lt_iff_toInt_lt, Int64.le_iff_toInt_le, ← Int64.toInt_inj, Int32.reduceToInt, Int64.reduceToInt, ne_eq] at *) <;> omega
  have hb1 : d1 * 7 + 1 < (inc (xs) (d0 * 7 + 0)).length := by simp only [inc_len]; omega
  refine go_laload (d1 * 7 + 1) K HT10 d5_25 (P) (hj1) (at_mapJ hb1) ?_
  refine go_lconst 1 K HT10 d5_26 (by decide) ?_
  refine go_ladd K HT10 d5_27 fun v13 ev13 => ?_
  have fv13 := f_ladd ev13
  have rv13 := rng64 v13
  refine go_lastore (d1 * 7 + 1) K HT10 d5_28 (P) (hj1) (by simpa using hb1) (gp) fun T14 h14 H14 W14 => ?_
  replace P : JA Z h14 p (inc (inc (xs) (d0 * 7 + 0)) (d1 * 7 + 1)) := by have q := JA.set P W14; rw [ev13] at q; exact q
  replace O := O.other W14 nep; replace D := D.other W14 ndp
  replace KK : Keep h0 h14 [a, p] := KK.wr W14 (Or.inl (by simp))
  clear hj1 hb1 od1
  refine go_iinc K H14 d5_29 rfl (z := 2) (by decide) (L' := #[.val (.ref a), .val (.ref d), .val (.int 2)]) rfl ?_
  refine go_goto K H14 d5_32 ?_
  refine go_iloadN K H14 d5_2 rfl ?_
  refine go_aloadN K H14 d5_3 rfl rfl ?_
  refine go_getfield K H14 d5_4 (host := "") (Or.inl (hw _ (List.mem_of_getElem? (i := 11) rfl))) Via.refl (O.2.1) fun T15 HT15 => ?_
  refine go_icmp_ge K HT15 d5_7 (fun cc => False.elim (by first | exact absurd cc (by decide) | exact cc (by decide))) (fun cc => ?_)
  refine go_aloadN K HT15 d5_10 rfl rfl ?_
  refine go_getfield K HT15 d5_11 (host := "") (Or.inl (hw _ (List.mem_of_getElem? (i := 14) rfl))) Via.refl (O.2.2.1) fun T16 HT16 => ?_
  refine go_aloadN K HT16 d5_14 rfl rfl ?_
  refine go_iloadN K HT16 d5_15 rfl ?_
  refine go_iaload (2) K HT16 d5_16 (D) (by decide) (rfl) ?_
  refine go_aloadN K HT16 d5_17 rfl rfl ?_
  refine go_getfield K HT16 d5_18 (host := "") (Or.inl (hw _ (List.mem_of_getElem? (i := 11) rfl))) Via.refl (O.2.1) fun T17 HT17 => ?_
  refine go_imul K HT17 d5_21 fun v18 ev18 => ?_
  have fv18 := f_imul ev18
  have rv18 := rng32 v18
  refine go_iloadN K HT17 d5_22 rfl ?_
  refine go_iadd K HT17 d5_23 fun v19 ev19 => ?_
  have fv19 := f_iadd ev19
  have rv19 := rng32 v19
  refine go_dup2 K HT17 d5_24 rfl rfl ?_
  have od2 := oN_toInt (n := d2) (by omega)
  have hj2 : v19.toInt = ((d2 * 7 + 2 : Nat) : Int) := by (try simp only [or_true, true_or, and_true, true_and, not_true_eq_false, not_false_eq_true, Int32.lt_iff_toInt_lt, Int32.le_iff_toInt_le, ← Int32.toInt_inj, Int64.lt_iff_toInt_lt, Int64.le_iff_toInt_le, ← Int64.toInt_inj, Int32.reduceToInt, Int64.reduceToInt, ne_eq] at *) <;> omega
  have hb2 : d2 * 7 + 2 < (inc (inc (xs) (d0 * 7 + 0)) (d1 * 7 + 1)).length := by simp only [inc_len]; omega
  refine go_laload (d2 * 7 + 2) K HT17 d5_25 (P) (hj2) (at_mapJ hb2) ?_
  refine go_lconst 1 K HT17 d5_26 (by decide) ?_
  refine go_ladd K HT17 d5_27 fun v20 ev20 => ?_
  have fv20 := f_ladd ev20
  have rv20 := rng64 v20
  refine go_lastore (d2 * 7 + 2) K HT17 d5_28 (P) (hj2) (by simpa using hb2) (gp) fun T21 h21 H21 W21 => ?_
  replace P : JA Z h21 p (inc (inc (inc (xs) (d0 * 7 + 0)) (d1 * 7 + 1)) (d2 * 7 + 2)) := by have q := JA.set P W21; rw [ev20] at q; exact q
  replace O := O.other W21 nep; replace D := D.other W21 ndp
  replace KK : Keep h0 h21 [a, p] := KK.wr W21 (Or.inl (by simp))
  clear hj2 hb2 od2
  refine go_iinc K H21 d5_29 rfl (z := 3) (by decide) (L' := #[.val (.ref a), .val (.ref d), .val (.int 3)]) rfl ?_
  refine go_goto K H21 d5_32 ?_
  refine go_iloadN K H21 d5_2 rfl ?_
  refine go_aloadN K H21 d5_3 rfl rfl ?_
  refine go_getfield K H21 d5_4 (host := "") (Or.inl (hw _ (List.mem_of_getElem? (i := 11) rfl))) Via.refl (O.2.1) fun T22 HT22 => ?_
  refine go_icmp_ge K HT22 d5_7 (fun cc => False.elim (by first | exact absurd cc (by decide) | exact cc (by decide))) (fun cc => ?_)
  refine go_aloadN K HT22 d5_10 rfl rfl ?_
  refine go_getfield K HT22 d5_11 (host := "") (Or.inl (hw _ (List.mem_of_getElem? (i := 14) rfl))) Via.refl (O.2.2.1) fun T23 HT23 => ?_
  refine go_aloadN K HT23 d5_14 rfl rfl ?_
  refine go_iloadN K HT23 d5_15 rfl ?_
  refine go_iaload (3) K HT23 d5_16 (D) (by decide) (rfl) ?_
  refine go_aloadN K HT23 d5_17 rfl rfl ?_
  refine go_getfield K HT23 d5_18 (host := "") (Or.inl (hw _ (List.mem_of_getElem? (i := 11) rfl))) Via.refl (O.2.1) fun T24 HT24 => ?_
  refine go_imul K HT24 d5_21 fun v25 ev25 => ?_
  have fv25 := f_imul ev25
  have rv25 := rng32 v25
  refine go_iloadN K HT24 d5_22 rfl ?_
  refine go_iadd K HT24 d5_23 fun v26 ev26 => ?_
  have fv26 := f_iadd ev26
  have rv26 := rng32 v26
  refine go_dup2 K HT24 d5_24 rfl rfl ?_
  have od3 := oN_toInt (n := d3) (by omega)
  have hj3 : v26.toInt = ((d3 * 7 + 3 : Nat) : Int) := by (try simp only [or_true, true_or, and_true, true_and, not_true_eq_false, not_false_eq_true, Int32.lt_iff_toInt_lt, Int32.le_iff_toInt_le, ← Int32.toInt_inj, Int64.lt_iff_toInt_lt, Int64.le_iff_toInt_le, ← Int64.toInt_inj, Int32.reduceToInt, Int64.reduceToInt, ne_eq] at *) <;> omega
  have hb3 : d3 * 7 + 3 < (inc (inc (inc (xs) (d0 * 7 + 0)) (d1 * 7 + 1)) (d2 * 7 + 2)).length := by simp only [inc_len]; omega
  refine go_laload (d3 * 7 + 3) K HT24 d5_25 (P) (hj3) (at_mapJ hb3) ?_
  refine go_lconst 1 K HT24 d5_26 (by decide) ?_
  refine go_ladd K HT24 d5_27 fun v27 ev27 => ?_
  have fv27 := f_ladd ev27
  have rv27 := rng64 v27
  refine go_lastore (d3 * 7 + 3) K HT24 d5_28 (P) (hj3) (by simpa using hb3) (gp) fun T28 h28 H28 W28 => ?_
  replace P : JA Z h28 p (inc (inc (inc (inc (xs) (d0 * 7 + 0)) (d1 * 7 + 1)) (d2 * 7 + 2)) (d3 * 7 + 3)) := by have q := JA.set P W28; rw [ev27] at q; exact q
  replace O := O.other W28 nep; replace D := D.other W28 ndp
  replace KK : Keep h0 h28 [a, p] := KK.wr W28 (Or.inl (by simp))
  clear hj3 hb3 od3
  refine go_iinc K H28 d5_29 rfl (z := 4) (by decide) (L' := #[.val (.ref a), .val (.ref d), .val (.int 4)]) rfl ?_
  refine go_goto K H28 d5_32 ?_
  refine go_iloadN K H28 d5_2 rfl ?_
  refine go_aloadN K H28 d5_3 rfl rfl ?_
  refine go_getfield K H28 d5_4 (host := "") (Or.inl (hw _ (List.mem_of_getElem? (i := 11) rfl))) Via.refl (O.2.1) fun T29 HT29 => ?_
  refine go_icmp_ge K HT29 d5_7 (fun cc => False.elim (by first | exact absurd cc (by decide) | exact cc (by decide))) (fun cc => ?_)
  refine go_aloadN K HT29 d5_10 rfl rfl ?_
  refine go_getfield K HT29 d5_11 (host := "") (Or.inl (hw _ (List.mem_of_getElem? (i := 14) rfl))) Via.refl (O.2.2.1) fun T30 HT30 => ?_
  refine go_aloadN K HT30 d5_14 rfl rfl ?_
  refine go_iloadN K HT30 d5_15 rfl ?_
  refine go_iaload (4) K HT30 d5_16 (D) (by decide) (rfl) ?_
  refine go_aloadN K HT30 d5_17 rfl rfl ?_
  refine go_getfield K HT30 d5_18 (host := "") (Or.inl (hw _ (List.mem_of_getElem? (i := 11) rfl))) Via.refl (O.2.1) fun T31 HT31 => ?_
  refine go_imul K HT31 d5_21 fun v32 ev32 => ?_
  have fv32 := f_imul ev32
  have rv32 := rng32 v32
  refine go_iloadN K HT31 d5_22 rfl ?_
  refine go_iadd K HT31 d5_23 fun v33 ev33 => ?_
  have fv33 := f_iadd ev33
  have rv33 := rng32 v33
  refine go_dup2 K HT31 d5_24 rfl rfl ?_
  have od4 := oN_toInt (n := d4) (by omega)
  have hj4 : v33.toInt = ((d4 * 7 + 4 : Nat) : Int) := by (try simp only [or_true, true_or, and_true, true_and, not_true_eq_false, not_false_eq_true, Int32.lt_iff_toInt_lt, Int32.le_iff_toInt_le, ← Int32.toInt_inj, Int64.lt_iff_toInt_lt, Int64.le_iff_toInt_le, ← Int64.toInt_inj, Int32.reduceToInt, Int64.reduceToInt, ne_eq] at *) <;> omega
  have hb4 : d4 * 7 + 4 < (inc (inc (inc (inc (xs) (d0 * 7 + 0)) (d1 * 7 + 1)) (d2 * 7 + 2)) (d3 * 7 + 3)).length := by simp only [inc_len]; omega
  refine go_laload (d4 * 7 + 4) K HT31 d5_25 (P) (hj4) (at_mapJ hb4) ?_
  refine go_lconst 1 K HT31 d5_26 (by decide) ?_
  refine go_ladd K HT31 d5_27 fun v34 ev34 => ?_
  have fv34 := f_ladd ev34
  have rv34 := rng64 v34
  refine go_lastore (d4 * 7 + 4) K HT31 d5_28 (P) (hj4) (by simpa using hb4) (gp) fun T35 h35 H35 W35 => ?_
  replace P : JA Z h35 p (inc (inc (inc (inc (inc (xs) (d0 * 7 + 0)) (d1 * 7 + 1)) (d2 * 7 + 2)) (d3 * 7 + 3)) (d4 * 7 + 4)) := by have q := JA.set P W35; rw [ev34] at q; exact q
  replace O := O.other W35 nep; replace D := D.other W35 ndp
  replace KK : Keep h0 h35 [a, p] := KK.wr W35 (Or.inl (by simp))
  clear hj4 hb4 od4
  refine go_iinc K H35 d5_29 rfl (z := 5) (by decide) (L' := #[.val (.ref a), .val (.ref d), .val (.int 5)]) rfl ?_
  refine go_goto K H35 d5_32 ?_
  refine go_iloadN K H35 d5_2 rfl ?_
  refine go_aloadN K H35 d5_3 rfl rfl ?_
  refine go_getfield K H35 d5_4 (host := "") (Or.inl (hw _ (List.mem_of_getElem? (i := 11) rfl))) Via.refl (O.2.1) fun T36 HT36 => ?_
  refine go_icmp_ge K HT36 d5_7 (fun cc => False.elim (by first | exact absurd cc (by decide) | exact cc (by decide))) (fun cc => ?_)
  refine go_aloadN K HT36 d5_10 rfl rfl ?_
  refine go_getfield K HT36 d5_11 (host := "") (Or.inl (hw _ (List.mem_of_getElem? (i := 14) rfl))) Via.refl (O.2.2.1) fun T37 HT37 => ?_
  refine go_aloadN K HT37 d5_14 rfl rfl ?_
  refine go_iloadN K HT37 d5_15 rfl ?_
  refine go_iaload (5) K HT37 d5_16 (D) (by decide) (rfl) ?_
  refine go_aloadN K HT37 d5_17 rfl rfl ?_
  refine go_getfield K HT37 d5_18 (host := "") (Or.inl (hw _ (List.mem_of_getElem? (i := 11) rfl))) Via.refl (O.2.1) fun T38 HT38 => ?_
  refine go_imul K HT38 d5_21 fun v39 ev39 => ?_
  have fv39 := f_imul ev39
  have rv39 := rng32 v39
  refine go_iloadN K HT38 d5_22 rfl ?_
  refine go_iadd K HT38 d5_23 fun v40 ev40 => ?_
  have fv40 := f_iadd ev40
  have rv40 := rng32 v40
  refine go_dup2 K HT38 d5_24 rfl rfl ?_
  have od5 := oN_toInt (n := d5) (by omega)
  have hj5 : v40.toInt = ((d5 * 7 + 5 : Nat) : Int) := by (try simp only [or_true, true_or, and_true, true_and, not_true_eq_false, not_false_eq_true, Int32.lt_iff_toInt_lt, Int32.le_iff_toInt_le, ← Int32.toInt_inj, Int64.lt_iff_toInt_lt, Int64.le_iff_toInt_le, ← Int64.toInt_inj, Int32.reduceToInt, Int64.reduceToInt, ne_eq] at *) <;> omega
  have hb5 : d5 * 7 + 5 < (inc (inc (inc (inc (inc (xs) (d0 * 7 + 0)) (d1 * 7 + 1)) (d2 * 7 + 2)) (d3 * 7 + 3)) (d4 * 7 + 4)).length := by simp only [inc_len]; omega
  refine go_laload (d5 * 7 + 5) K HT38 d5_25 (P) (hj5) (at_mapJ hb5) ?_
  refine go_lconst 1 K HT38 d5_26 (by decide) ?_
  refine go_ladd K HT38 d5_27 fun v41 ev41 => ?_
  have fv41 := f_ladd ev41
  have rv41 := rng64 v41
  refine go_lastore (d5 * 7 + 5) K HT38 d5_28 (P) (hj5) (by simpa using hb5) (gp) fun T42 h42 H42 W42 => ?_
  replace P : JA Z h42 p (inc (inc (inc (inc (inc (inc (xs) (d0 * 7 + 0)) (d1 * 7 + 1)) (d2 * 7 + 2)) (d3 * 7 + 3)) (d4 * 7 + 4)) (d5 * 7 + 5)) := by have q := JA.set P W42; rw [ev41] at q; exact q
  replace O := O.other W42 nep; replace D := D.other W42 ndp
  replace KK : Keep h0 h42 [a, p] := KK.wr W42 (Or.inl (by simp))
  clear hj5 hb5 od5
  refine go_iinc K H42 d5_29 rfl (z := 6) (by decide) (L' := #[.val (.ref a), .val (.ref d), .val (.int 6)]) rfl ?_
  refine go_goto K H42 d5_32 ?_
  refine go_iloadN K H42 d5_2 rfl ?_
  refine go_aloadN K H42 d5_3 rfl rfl ?_
  refine go_getfield K H42 d5_4 (host := "") (Or.inl (hw _ (List.mem_of_getElem? (i := 11) rfl))) Via.refl (O.2.1) fun T43 HT43 => ?_
  refine go_icmp_ge K HT43 d5_7 (fun cc => False.elim (by first | exact absurd cc (by decide) | exact cc (by decide))) (fun cc => ?_)
  refine go_aloadN K HT43 d5_10 rfl rfl ?_
  refine go_getfield K HT43 d5_11 (host := "") (Or.inl (hw _ (List.mem_of_getElem? (i := 14) rfl))) Via.refl (O.2.2.1) fun T44 HT44 => ?_
  refine go_aloadN K HT44 d5_14 rfl rfl ?_
  refine go_iloadN K HT44 d5_15 rfl ?_
  refine go_iaload (6) K HT44 d5_16 (D) (by decide) (rfl) ?_
  refine go_aloadN K HT44 d5_17 rfl rfl ?_
  refine go_getfield K HT44 d5_18 (host := "") (Or.inl (hw _ (List.mem_of_getElem? (i := 11) rfl))) Via.refl (O.2.1) fun T45 HT45 => ?_
  refine go_imul K HT45 d5_21 fun v46 ev46 => ?_
  have fv46 := f_imul ev46
  have rv46 := rng32 v46
  refine go_iloadN K HT45 d5_22 rfl ?_
  refine go_iadd K HT45 d5_23 fun v47 ev47 => ?_
  have fv47 := f_iadd ev47
  have rv47 := rng32 v47
  refine go_dup2 K HT45 d5_24 rfl rfl ?_
  have od6 := oN_toInt (n := d6) (by omega)
  have hj6 : v47.toInt = ((d6 * 7 + 6 : Nat) : Int) := by (try simp only [or_true, true_or, and_true, true_and, not_true_eq_false, not_false_eq_true, Int32.lt_iff_toInt_lt, Int32.le_iff_toInt_le, ← Int32.toInt_inj, Int64.lt_iff_toInt_lt, Int64.le_iff_toInt_le, ← Int64.toInt_inj, Int32.reduceToInt, Int64.reduceToInt, ne_eq] at *) <;> omega
  have hb6 : d6 * 7 + 6 < (inc (inc (inc (inc (inc (inc (xs) (d0 * 7 + 0)) (d1 * 7 + 1)) (d2 * 7 + 2)) (d3 * 7 + 3)) (d4 * 7 + 4)) (d5 * 7 + 5)).length := by simp only [inc_len]; omega
  refine go_laload (d6 * 7 + 6) K HT45 d5_25 (P) (hj6) (at_mapJ hb6) ?_
  refine go_lconst 1 K HT45 d5_26 (by decide) ?_
  refine go_ladd K HT45 d5_27 fun v48 ev48 => ?_
  have fv48 := f_ladd ev48
  have rv48 := rng64 v48
  refine go_lastore (d6 * 7 + 6) K HT45 d5_28 (P) (hj6) (by simpa using hb6) (gp) fun T49 h49 H49 W49 => ?_
  replace P : JA Z h49 p (inc (inc (inc (inc (inc (inc (inc (xs) (d0 * 7 + 0)) (d1 * 7 + 1)) (d2 * 7 + 2)) (d3 * 7 + 3)) (d4 * 7 + 4)) (d5 * 7 + 5)) (d6 * 7 + 6)) := by have q := JA.set P W49; rw [ev48] at q; exact q
  replace O := O.other W49 nep; replace D := D.other W49 ndp
  replace KK : Keep h0 h49 [a, p] := KK.wr W49 (Or.inl (by simp))
  clear hj6 hb6 od6
  refine go_iinc K H49 d5_29 rfl (z := 7) (by decide) (L' := #[.val (.ref a), .val (.ref d), .val (.int 7)]) rfl ?_
  refine go_goto K H49 d5_32 ?_
  refine go_iloadN K H49 d5_2 rfl ?_
  refine go_aloadN K H49 d5_3 rfl rfl ?_
  refine go_getfield K H49 d5_4 (host := "") (Or.inl (hw _ (List.mem_of_getElem? (i := 11) rfl))) Via.refl (O.2.1) fun T50 HT50 => ?_
  refine go_icmp_ge K HT50 d5_7 (fun cc => ?_) (fun cc => False.elim (by first | exact absurd cc (by decide) | exact cc (by decide)))
  refine go_aloadN K HT50 d5_35 rfl rfl ?_
  refine go_getfield K HT50 d5_36 (host := "") (Or.inl (hw _ (List.mem_of_getElem? (i := 16) rfl))) Via.refl (O.2.2.2.1) fun T51 HT51 => ?_
  refine go_ifnull_yes K HT51 d5_39 ?_
  refine go_aloadN K HT51 d5_56 rfl rfl ?_
  refine go_dup K HT51 d5_57 rfl ?_
  refine go_getfield K HT51 d5_58 (host := "") (Or.inl (hw _ (List.mem_of_getElem? (i := 23) rfl))) Via.refl (O.2.2.2.2) fun T52 HT52 => ?_
  refine go_lconst 1 K HT52 d5_61 (by decide) ?_
  refine go_ladd K HT52 d5_62 fun v53 ev53 => ?_
  have fv53 := f_ladd ev53
  have rv53 := rng64 v53
  refine go_putfield K HT52 d5_63 (host := "") (Or.inl (hw _ (List.mem_of_getElem? (i := 23) rfl))) Via.refl (O.2.2.2.2) (O.1) (Or.inl (hw _ (List.mem_of_getElem? (i := 24) rfl))) (hw _ (List.mem_of_getElem? (i := 3) rfl)) (ty := .long) (by decide) rfl rfl (ga) fun T54 h54 H54 W54 => ?_
  have O' : DT Z h54 a 7 p .null (c + 1) := ⟨O.1.wr W54, O.2.1.other W54 (Or.inr (slot_ne (Z := Z) (a0 := a0) (Or.inr (hw _ (List.mem_of_getElem? (i := 12) rfl))) (Or.inl (hw _ (List.mem_of_getElem? (i := 24) rfl))) (by decide) (t := .int) (by decide) (t' := .long) (by decide))), O.2.2.1.other W54 (Or.inr (slot_ne (Z := Z) (a0 := a0) (Or.inr (hw _ (List.mem_of_getElem? (i := 15) rfl))) (Or.inl (hw _ (List.mem_of_getElem? (i := 24) rfl))) (by decide) (t := (.array .long)) (by decide) (t' := .long) (by decide))), O.2.2.2.1.other W54 (Or.inr (slot_ne (Z := Z) (a0 := a0) (Or.inr (hw _ (List.mem_of_getElem? (i := 17) rfl))) (Or.inl (hw _ (List.mem_of_getElem? (i := 24) rfl))) (by decide) (t := (.array .long)) (by decide) (t' := .long) (by decide))), (by have q := O.2.2.2.2.same W54; rw [ev53] at q; exact q)⟩
  replace KK : Keep h0 h54 [a, p] := KK.wr W54 (Or.inl (by simp))
  exact go_ret K H54 d5_66 rfl (by decide) (by decide) (⟨O', P.other W54 nep.symm, KK⟩)
set_option maxRecDepth 65536 in
set_option maxHeartbeats 40000000 in
theorem rmQ (Z : State) (a0 : Array Value) (hw : ∀ d ∈ tables_1, d.before a0 Z = true)  (h0 : Heap) (n0 : Nat) (Z0 : n0 ≤ h0.size) (r : Nat) (hr : r < 6) (lau : Launch) :
    Con lau Z (⟨"com/example/evenhand/evenhand/DeckTallyAddPinLaw", "perm3", "(I)[I"⟩ : MethodName) method_2_code 1 (some (.array .int)) ({ frames := 0, cells := 1, slots := 3, locals := 0 } : Room) #[(.int (oN r))] h0 n0 (RR fun z h => ∃ x, z = .ref x ∧ n0 ≤ x ∧ h0.size ≤ x ∧ IA Z h x ((permF r).map oN) ∧ Ext h0 h) := by
  refine con_intro pn6 (L := #[.val (.int (oN r))]) (fun m => by first | (simp [entryFrame, mkF, argsToLocals, Value.category, maxLocals]; done) | rfl) Z0 (fun w T K H => ?_)
  have hr6 : r = 0 ∨ r = 1 ∨ r = 2 ∨ r = 3 ∨ r = 4 ∨ r = 5 := by omega
  rcases hr6 with rfl | rfl | rfl | rfl | rfl | rfl
  · show Go w _ _ 0 #[.val (.int 0)] []
    have KK : Keep h0 h0 [] := Keep.refl _ _
    refine go_iloadN K H d6_0 rfl ?_
    refine go_if_ne K H d6_1 (fun cc => False.elim (by first | exact absurd cc (by decide) | exact cc (by decide))) (fun cc => ?_)
    refine go_iconst (3) K H d6_4 (by decide) ?_
    refine go_newarray 3 K H d6_5 (hw _ (List.mem_of_getElem? (i := 1) rfl)) (by decide) (by decide) (by decide) (by decide) (by decide) fun T1 h1 a1 H1 g1 l1 E1 A1 => ?_
    have B1 : IA Z h1 a1 [0, 0, 0] := A1
    replace KK := KK.ext E1
    refine go_dup K H1 d6_7 rfl ?_
    refine go_iconst (0) K H1 d6_8 (by decide) ?_
    refine go_iconst (0) K H1 d6_9 (by decide) ?_
    refine go_iastore (0) K H1 d6_10 (B1) (by decide) (by simp) (l1) fun T2 h2 H2 W2 => ?_
    have B2 : IA Z h2 a1 [0, 0, 0] := IA.set B1 W2
    replace KK : Keep h0 h2 [] := KK.wr W2 (Or.inr (Nat.le_of_eq g1.symm))
    refine go_dup K H2 d6_11 rfl ?_
    refine go_iconst (1) K H2 d6_12 (by decide) ?_
    refine go_iconst (1) K H2 d6_13 (by decide) ?_
    refine go_iastore (1) K H2 d6_14 (B2) (by decide) (by simp) (l1) fun T3 h3 H3 W3 => ?_
    have B3 : IA Z h3 a1 [0, 1, 0] := IA.set B2 W3
    replace KK : Keep h0 h3 [] := KK.wr W3 (Or.inr (Nat.le_of_eq g1.symm))
    refine go_dup K H3 d6_15 rfl ?_
    refine go_iconst (2) K H3 d6_16 (by decide) ?_
    refine go_iconst (2) K H3 d6_17 (by decide) ?_
    refine go_iastore (2) K H3 d6_18 (B3) (by decide) (by simp) (l1) fun T4 h4 H4 W4 => ?_
    have B4 : IA Z h4 a1 [0, 1, 2] := IA.set B3 W4
    replace KK : Keep h0 h4 [] := KK.wr W4 (Or.inr (Nat.le_of_eq g1.symm))
    exact go_aret K H4 d6_19 rfl rfl rfl (by decide) (by decide) (⟨a1, rfl, l1, Nat.le_of_eq g1.symm, B4, KK.toExt⟩)
  · show Go w _ _ 0 #[.val (.int 1)] []
    have KK : Keep h0 h0 [] := Keep.refl _ _
    refine go_iloadN K H d6_0 rfl ?_
    refine go_if_ne K H d6_1 (fun cc => ?_) (fun cc => False.elim (by first | exact absurd cc (by decide) | exact cc (by decide)))
    refine go_iloadN K H d6_20 rfl ?_
    refine go_iconst (1) K H d6_21 (by decide) ?_
    refine go_icmp_ne K H d6_22 (fun cc => False.elim (by first | exact absurd cc (by decide) | exact cc (by decide))) (fun cc => ?_)
    refine go_iconst (3) K H d6_25 (by decide) ?_
    refine go_newarray 3 K H d6_26 (hw _ (List.mem_of_getElem? (i := 1) rfl)) (by decide) (by decide) (by decide) (by decide) (by decide) fun T5 h5 a5 H5 g5 l5 E5 A5 => ?_
    have B5 : IA Z h5 a5 [0, 0, 0] := A5
    replace KK := KK.ext E5
    refine go_dup K H5 d6_28 rfl ?_
    refine go_iconst (0) K H5 d6_29 (by decide) ?_
    refine go_iconst (0) K H5 d6_30 (by decide) ?_
    refine go_iastore (0) K H5 d6_31 (B5) (by decide) (by simp) (l5) fun T6 h6 H6 W6 => ?_
    have B6 : IA Z h6 a5 [0, 0, 0] := IA.set B5 W6
    replace KK : Keep h0 h6 [] := KK.wr W6 (Or.inr (Nat.le_of_eq g5.symm))
    refine go_dup K H6 d6_32 rfl ?_
    refine go_iconst (1) K H6 d6_33 (by decide) ?_
    refine go_iconst (2) K H6 d6_34 (by decide) ?_
    refine go_iastore (1) K H6 d6_35 (B6) (by decide) (by simp) (l5) fun T7 h7 H7 W7 => ?_
    have B7 : IA Z h7 a5 [0, 2, 0] := IA.set B6 W7
    replace KK : Keep h0 h7 [] := KK.wr W7 (Or.inr (Nat.le_of_eq g5.symm))
    refine go_dup K H7 d6_36 rfl ?_
    refine go_iconst (2) K H7 d6_37 (by decide) ?_
    refine go_iconst (1) K H7 d6_38 (by decide) ?_
    refine go_iastore (2) K H7 d6_39 (B7) (by decide) (by simp) (l5) fun T8 h8 H8 W8 => ?_
    have B8 : IA Z h8 a5 [0, 2, 1] := IA.set B7 W8
    replace KK : Keep h0 h8 [] := KK.wr W8 (Or.inr (Nat.le_of_eq g5.symm))
    exact go_aret K H8 d6_40 rfl rfl rfl (by decide) (by decide) (⟨a5, rfl, l5, Nat.le_of_eq g5.symm, B8, KK.toExt⟩)
  · show Go w _ _ 0 #[.val (.int 2)] []
    have KK : Keep h0 h0 [] := Keep.refl _ _
    refine go_iloadN K H d6_0 rfl ?_
    refine go_if_ne K H d6_1 (fun cc => ?_) (fun cc => False.elim (by first | exact absurd cc (by decide) | exact cc (by decide)))
    refine go_iloadN K H d6_20 rfl ?_
    refine go_iconst (1) K H d6_21 (by decide) ?_
    refine go_icmp_ne K H d6_22 (fun cc => ?_) (fun cc => False.elim (by first | exact absurd cc (by decide) | exact cc (by decide)))
    refine go_iloadN K H d6_41 rfl ?_
    refine go_iconst (2) K H d6_42 (by decide) ?_
    refine go_icmp_ne K H d6_43 (fun cc => False.elim (by first | exact absurd cc (by decide) | exact cc (by decide))) (fun cc => ?_)
    refine go_iconst (3) K H d6_46 (by decide) ?_
    refine go_newarray 3 K H d6_47 (hw _ (List.mem_of_getElem? (i := 1) rfl)) (by decide) (by decide) (by decide) (by decide) (by decide) fun T9 h9 a9 H9 g9 l9 E9 A9 => ?_
    have B9 : IA Z h9 a9 [0, 0, 0] := A9
    replace KK := KK.ext E9
    refine go_dup K H9 d6_49 rfl ?_
    refine go_iconst (0) K H9 d6_50 (by decide) ?_
    refine go_iconst (1) K H9 d6_51 (by decide) ?_
    refine go_iastore (0) K H9 d6_52 (B9) (by decide) (by simp) (l9) fun T10 h10 H10 W10 => ?_
    have B10 : IA Z h10 a9 [1, 0, 0] := IA.set B9 W10
    replace KK : Keep h0 h10 [] := KK.wr W10 (Or.inr (Nat.le_of_eq g9.symm))
    refine go_dup K H10 d6_53 rfl ?_
    refine go_iconst (1) K H10 d6_54 (by decide) ?_
    refine go_iconst (0) K H10 d6_55 (by decide) ?_
    refine go_iastore (1) K H10 d6_56 (B10) (by decide) (by simp) (l9) fun T11 h11 H11 W11 => ?_
    have B11 : IA Z h11 a9 [1, 0, 0] := IA.set B10 W11
    replace KK : Keep h0 h11 [] := KK.wr W11 (Or.inr (Nat.le_of_eq g9.symm))
    refine go_dup K H11 d6_57 rfl ?_
    refine go_iconst (2) K H11 d6_58 (by decide) ?_
    refine go_iconst (2) K H11 d6_59 (by decide) ?_
    refine go_iastore (2) K H11 d6_60 (B11) (by decide) (by simp) (l9) fun T12 h12 H12 W12 => ?_
    have B12 : IA Z h12 a9 [1, 0, 2] := IA.set B11 W12
    replace KK : Keep h0 h12 [] := KK.wr W12 (Or.inr (Nat.le_of_eq g9.symm))
    exact go_aret K H12 d6_61 rfl rfl rfl (by decide) (by decide) (⟨a9, rfl, l9, Nat.le_of_eq g9.symm, B12, KK.toExt⟩)
  · show Go w _ _ 0 #[.val (.int 3)] []
    have KK : Keep h0 h0 [] := Keep.refl _ _
    refine go_iloadN K H d6_0 rfl ?_
    refine go_if_ne K H d6_1 (fun cc => ?_) (fun cc => False.elim (by first | exact absurd cc (by decide) | exact cc (by decide)))
    refine go_iloadN K H d6_20 rfl ?_
    refine go_iconst (1) K H d6_21 (by decide) ?_
    refine go_icmp_ne K H d6_22 (fun cc => ?_) (fun cc => False.elim (by first | exact absurd cc (by decide) | exact cc (by decide)))
    refine go_iloadN K H d6_41 rfl ?_
    refine go_iconst (2) K H d6_42 (by decide) ?_
    refine go_icmp_ne K H d6_43 (fun cc => ?_) (fun cc => False.elim (by first | exact absurd cc (by decide) | exact cc (by decide)))
    refine go_iloadN K H d6_62 rfl ?_
    refine go_iconst (3) K H d6_63 (by decide) ?_
    refine go_icmp_ne K H d6_64 (fun cc => False.elim (by first | exact absurd cc (by decide) | exact cc (by decide))) (fun cc => ?_)
    refine go_iconst (3) K H d6_67 (by decide) ?_
    refine go_newarray 3 K H d6_68 (hw _ (List.mem_of_getElem? (i := 1) rfl)) (by decide) (by decide) (by decide) (by decide) (by decide) fun T13 h13 a13 H13 g13 l13 E13 A13 => ?_
    have B13 : IA Z h13 a13 [0, 0, 0] := A13
    replace KK := KK.ext E13
    refine go_dup K H13 d6_70 rfl ?_
    refine go_iconst (0) K H13 d6_71 (by decide) ?_
    refine go_iconst (1) K H13 d6_72 (by decide) ?_
    refine go_iastore (0) K H13 d6_73 (B13) (by decide) (by simp) (l13) fun T14 h14 H14 W14 => ?_
    have B14 : IA Z h14 a13 [1, 0, 0] := IA.set B13 W14
    replace KK : Keep h0 h14 [] := KK.wr W14 (Or.inr (Nat.le_of_eq g13.symm))
    refine go_dup K H14 d6_74 rfl ?_
    refine go_iconst (1) K H14 d6_75 (by decide) ?_
    refine go_iconst (2) K H14 d6_76 (by decide) ?_
    refine go_iastore (1) K H14 d6_77 (B14) (by decide) (by simp) (l13) fun T15 h15 H15 W15 => ?_
    have B15 : IA Z h15 a13 [1, 2, 0] := IA.set B14 W15
    replace KK : Keep h0 h15 [] := KK.wr W15 (Or.inr (Nat.le_of_eq g13.symm))
    refine go_dup K H15 d6_78 rfl ?_
    refine go_iconst (2) K H15 d6_79 (by decide) ?_
    refine go_iconst (0) K H15 d6_80 (by decide) ?_
    refine go_iastore (2) K H15 d6_81 (B15) (by decide) (by simp) (l13) fun T16 h16 H16 W16 => ?_
    have B16 : IA Z h16 a13 [1, 2, 0] := IA.set B15 W16
    replace KK : Keep h0 h16 [] := KK.wr W16 (Or.inr (Nat.le_of_eq g13.symm))
    exact go_aret K H16 d6_82 rfl rfl rfl (by decide) (by decide) (⟨a13, rfl, l13, Nat.le_of_eq g13.symm, B16, KK.toExt⟩)
  · show Go w _ _ 0 #[.val (.int 4)] []
    have KK : Keep h0 h0 [] := Keep.refl _ _
    refine go_iloadN K H d6_0 rfl ?_
    refine go_if_ne K H d6_1 (fun cc => ?_) (fun cc => False.elim (by first | exact absurd cc (by decide) | exact cc (by decide)))
    refine go_iloadN K H d6_20 rfl ?_
    refine go_iconst (1) K H d6_21 (by decide) ?_
    refine go_icmp_ne K H d6_22 (fun cc => ?_) (fun cc => False.elim (by first | exact absurd cc (by decide) | exact cc (by decide)))
    refine go_iloadN K H d6_41 rfl ?_
    refine go_iconst (2) K H d6_42 (by decide) ?_
    refine go_icmp_ne K H d6_43 (fun cc => ?_) (fun cc => False.elim (by first | exact absurd cc (by decide) | exact cc (by decide)))
    refine go_iloadN K H d6_62 rfl ?_
    refine go_iconst (3) K H d6_63 (by decide) ?_
    refine go_icmp_ne K H d6_64 (fun cc => ?_) (fun cc => False.elim (by first | exact absurd cc (by decide) | exact cc (by decide)))
    refine go_iloadN K H d6_83 rfl ?_
    refine go_iconst (4) K H d6_84 (by decide) ?_
    refine go_icmp_ne K H d6_85 (fun cc => False.elim (by first | exact absurd cc (by decide) | exact cc (by decide))) (fun cc => ?_)
    refine go_iconst (3) K H d6_88 (by decide) ?_
    refine go_newarray 3 K H d6_89 (hw _ (List.mem_of_getElem? (i := 1) rfl)) (by decide) (by decide) (by decide) (by decide) (by decide) fun T17 h17 a17 H17 g17 l17 E17 A17 => ?_
    have B17 : IA Z h17 a17 [0, 0, 0] := A17
    replace KK := KK.ext E17
    refine go_dup K H17 d6_91 rfl ?_
    refine go_iconst (0) K H17 d6_92 (by decide) ?_
    refine go_iconst (2) K H17 d6_93 (by decide) ?_
    refine go_iastore (0) K H17 d6_94 (B17) (by decide) (by simp) (l17) fun T18 h18 H18 W18 => ?_
    have B18 : IA Z h18 a17 [2, 0, 0] := IA.set B17 W18
    replace KK : Keep h0 h18 [] := KK.wr W18 (Or.inr (Nat.le_of_eq g17.symm))
    refine go_dup K H18 d6_95 rfl ?_
    refine go_iconst (1) K H18 d6_96 (by decide) ?_
    refine go_iconst (0) K H18 d6_97 (by decide) ?_
    refine go_iastore (1) K H18 d6_98 (B18) (by decide) (by simp) (l17) fun T19 h19 H19 W19 => ?_
    have B19 : IA Z h19 a17 [2, 0, 0] := IA.set B18 W19
    replace KK : Keep h0 h19 [] := KK.wr W19 (Or.inr (Nat.le_of_eq g17.symm))
    refine go_dup K H19 d6_99 rfl ?_
    refine go_iconst (2) K H19 d6_100 (by decide) ?_
    refine go_iconst (1) K H19 d6_101 (by decide) ?_
    refine go_iastore (2) K H19 d6_102 (B19) (by decide) (by simp) (l17) fun T20 h20 H20 W20 => ?_
    have B20 : IA Z h20 a17 [2, 0, 1] := IA.set B19 W20
    replace KK : Keep h0 h20 [] := KK.wr W20 (Or.inr (Nat.le_of_eq g17.symm))
    exact go_aret K H20 d6_103 rfl rfl rfl (by decide) (by decide) (⟨a17, rfl, l17, Nat.le_of_eq g17.symm, B20, KK.toExt⟩)
  · show Go w _ _ 0 #[.val (.int 5)] []
    have KK : Keep h0 h0 [] := Keep.refl _ _
    refine go_iloadN K H d6_0 rfl ?_
    refine go_if_ne K H d6_1 (fun cc => ?_) (fun cc => False.elim (by first | exact absurd cc (by decide) | exact cc (by decide)))
    refine go_iloadN K H d6_20 rfl ?_
    refine go_iconst (1) K H d6_21 (by decide) ?_
    refine go_icmp_ne K H d6_22 (fun cc => ?_) (fun cc => False.elim (by first | exact absurd cc (by decide) | exact cc (by decide)))
    refine go_iloadN K H d6_41 rfl ?_
    refine go_iconst (2) K H d6_42 (by decide) ?_
    refine go_icmp_ne K H d6_43 (fun cc => ?_) (fun cc => False.elim (by first | exact absurd cc (by decide) | exact cc (by decide)))
    refine go_iloadN K H d6_62 rfl ?_
    refine go_iconst (3) K H d6_63 (by decide) ?_
    refine go_icmp_ne K H d6_64 (fun cc => ?_) (fun cc => False.elim (by first | exact absurd cc (by decide) | exact cc (by decide)))
    refine go_iloadN K H d6_83 rfl ?_
    refine go_iconst (4) K H d6_84 (by decide) ?_
    refine go_icmp_ne K H d6_85 (fun cc => ?_) (fun cc => False.elim (by first | exact absurd cc (by decide) | exact cc (by decide)))
    refine go_iconst (3) K H d6_104 (by decide) ?_
    refine go_newarray 3 K H d6_105 (hw _ (List.mem_of_getElem? (i := 1) rfl)) (by decide) (by decide) (by decide) (by decide) (by decide) fun T21 h21 a21 H21 g21 l21 E21 A21 => ?_
    have B21 : IA Z h21 a21 [0, 0, 0] := A21
    replace KK := KK.ext E21
    refine go_dup K H21 d6_107 rfl ?_
    refine go_iconst (0) K H21 d6_108 (by decide) ?_
    refine go_iconst (2) K H21 d6_109 (by decide) ?_
    refine go_iastore (0) K H21 d6_110 (B21) (by decide) (by simp) (l21) fun T22 h22 H22 W22 => ?_
    have B22 : IA Z h22 a21 [2, 0, 0] := IA.set B21 W22
    replace KK : Keep h0 h22 [] := KK.wr W22 (Or.inr (Nat.le_of_eq g21.symm))
    refine go_dup K H22 d6_111 rfl ?_
    refine go_iconst (1) K H22 d6_112 (by decide) ?_
    refine go_iconst (1) K H22 d6_113 (by decide) ?_
    refine go_iastore (1) K H22 d6_114 (B22) (by decide) (by simp) (l21) fun T23 h23 H23 W23 => ?_
    have B23 : IA Z h23 a21 [2, 1, 0] := IA.set B22 W23
    replace KK : Keep h0 h23 [] := KK.wr W23 (Or.inr (Nat.le_of_eq g21.symm))
    refine go_dup K H23 d6_115 rfl ?_
    refine go_iconst (2) K H23 d6_116 (by decide) ?_
    refine go_iconst (0) K H23 d6_117 (by decide) ?_
    refine go_iastore (2) K H23 d6_118 (B23) (by decide) (by simp) (l21) fun T24 h24 H24 W24 => ?_
    have B24 : IA Z h24 a21 [2, 1, 0] := IA.set B23 W24
    replace KK : Keep h0 h24 [] := KK.wr W24 (Or.inr (Nat.le_of_eq g21.symm))
    exact go_aret K H24 d6_119 rfl rfl rfl (by decide) (by decide) (⟨a21, rfl, l21, Nat.le_of_eq g21.symm, B24, KK.toExt⟩)
set_option maxRecDepth 65536 in
set_option maxHeartbeats 40000000 in
theorem rmH (Z : State) (a0 : Array Value) (hw : ∀ d ∈ tables_1, d.before a0 Z = true) (d : Addr) (h0 : Heap) (n0 : Nat) (Z0 : n0 ≤ h0.size) (item k dk : Nat) (ds : List Nat) (D : IA Z h0 d (ds.map oN)) (hk : ds[k]? = some dk) (l1 : dk < 7) (l2 : item < 7) (l3 : k < 7) (lau : Launch) :
    Con lau Z (⟨"com/example/evenhand/evenhand/DeckTallyAddPinLaw", "hit", "([III)J"⟩ : MethodName) method_3_code 3 (some .long) ({ frames := 0, cells := 0, slots := 0, locals := 0 } : Room) #[(.ref d), (.int (oN item)), (.int (oN k))] h0 n0 (RL fun z h => z = hF dk item ∧ h0 = h) := by
  refine con_intro pn7 (L := #[.val (.ref d), .val (.int (oN item)), .val (.int (oN k))]) (fun m => by first | (simp [entryFrame, mkF, argsToLocals, Value.category, maxLocals]; done) | rfl) Z0 (fun w T K H => ?_)
  refine go_aloadN K H d7_0 rfl rfl ?_
  refine go_iloadN K H d7_1 rfl ?_
  refine go_iaload (k) K H d7_2 (D) (oN_toInt (by omega)) (at_map2 hk) ?_
  refine go_iloadN K H d7_3 rfl ?_
  refine go_icmp_ne K H d7_4 (fun cc => ?_) (fun cc => ?_)
  · refine go_lconst 0 K H d7_11 (by decide) ?_
    exact go_lret K H d7_12 rfl (by decide) (by decide) (⟨by unfold hF; rw [if_neg (fun q => cc (by rw [q]))], rfl⟩)
  · refine go_lconst 1 K H d7_7 (by decide) ?_
    refine go_goto K H d7_8 ?_
    exact go_lret K H d7_12 rfl (by decide) (by decide) (⟨by unfold hF; rw [if_pos ((oN_inj (by omega) (by omega)).mp cc)], rfl⟩)
set_option maxRecDepth 65536 in
set_option maxHeartbeats 40000000 in
theorem rmS (Z : State) (a0 : Array Value) (hw : ∀ d ∈ tables_1, d.before a0 Z = true)  (h0 : Heap) (n0 : Nat) (Z0 : n0 ≤ h0.size) (a b : Nat) (l1 : a < 7) (l2 : b < 7) (lau : Launch) :
    Con lau Z (⟨"com/example/evenhand/evenhand/DeckTallyAddPinLaw", "same", "(II)J"⟩ : MethodName) method_4_code 2 (some .long) ({ frames := 0, cells := 0, slots := 0, locals := 0 } : Room) #[(.int (oN a)), (.int (oN b))] h0 n0 (RL fun z h => z = hF a b ∧ h0 = h) := by
  refine con_intro pn8 (L := #[.val (.int (oN a)), .val (.int (oN b))]) (fun m => by first | (simp [entryFrame, mkF, argsToLocals, Value.category, maxLocals]; done) | rfl) Z0 (fun w T K H => ?_)
  refine go_iloadN K H d8_0 rfl ?_
  refine go_iloadN K H d8_1 rfl ?_
  refine go_icmp_ne K H d8_2 (fun cc => ?_) (fun cc => ?_)
  · refine go_lconst 0 K H d8_9 (by decide) ?_
    exact go_lret K H d8_10 rfl (by decide) (by decide) (⟨by unfold hF; rw [if_neg (fun q => cc (by rw [q]))], rfl⟩)
  · refine go_lconst 1 K H d8_5 (by decide) ?_
    refine go_goto K H d8_6 ?_
    exact go_lret K H d8_10 rfl (by decide) (by decide) (⟨by unfold hF; rw [if_pos ((oN_inj (by omega) (by omega)).mp cc)], rfl⟩)
set_option maxRecDepth 65536 in
set_option maxHeartbeats 40000000 in
theorem rmR0 (Z : State) (a0 : Array Value) (hw : ∀ d ∈ tables_1, d.before a0 Z = true) (p : Addr) (x : Addr) (y : Addr) (h0 : Heap) (n0 : Nat) (Z0 : n0 ≤ h0.size) (zs : List Int64) (x0 x1 x2 y0 y1 y2 : Nat) (P : JA Z h0 p zs) (X : IA Z h0 x [oN x0, oN x1, oN x2]) (Y : IA Z h0 y [oN y0, oN y1, oN y2]) (e0 : zs[0]? = some (hF x0 0 + hF y0 0)) (e1 : zs[1]? = some (hF x1 0 + hF y1 0)) (e2 : zs[2]? = some (hF x2 0 + hF y2 0)) (lx : x0 < 3 ∧ x1 < 3 ∧ x2 < 3) (ly : y0 < 3 ∧ y1 < 3 ∧ y2 < 3) (lau : Launch) :
    Con lau Z (⟨"com/example/evenhand/evenhand/DeckTallyAddPinLaw", "row3", "([J[I[II)Z"⟩ : MethodName) method_5_code 4 (some .boolean) ({ frames := 1, cells := 0, slots := 0, locals := 28 } : Room) #[(.ref p), (.ref x), (.ref y), (.int 0)] h0 n0 (RI fun z h => z = 1 ∧ h0 = h) := by
  refine con_intro pn9 (L := #[.val (.ref p), .val (.ref x), .val (.ref y), .val (.int 0)]) (fun m => by first | (simp [entryFrame, mkF, argsToLocals, Value.category, maxLocals]; done) | rfl) Z0 (fun w T K H => ?_)
  refine go_aloadN K H d9_0 rfl rfl ?_
  refine go_iloadN K H d9_1 rfl ?_
  refine go_iconst (3) K H d9_2 (by decide) ?_
  refine go_imul K H d9_3 fun v1 ev1 => ?_
  obtain rfl : v1 = (0 : Int32) := ev1.trans (by decide)
  refine go_laload (0) K H d9_4 (P) (by decide) (at_map1J e0) ?_
  refine go_aloadN K H d9_5 rfl rfl ?_
  refine go_iloadN K H d9_6 rfl ?_
  refine go_iconst (0) K H d9_7 (by decide) ?_
  show Go w _ _ 8 #[.val (.ref p), .val (.ref x), .val (.ref y), .val (.int 0)] [(.int (oN 0)), (.int (oN 0)), (.ref x), (.long (hF x0 0 + hF y0 0))]
  refine go_callS [(.ref x), (.int (oN 0)), (.int (oN 0))] K H d9_8 (hw _ (List.mem_of_getElem? (i := 57) rfl)) (hw _ (List.mem_of_getElem? (i := 58) rfl)) (hw _ (List.mem_of_getElem? (i := 42) rfl)) (hw _ (List.mem_of_getElem? (i := 59) rfl)) (st' := [(.long (hF x0 0 + hF y0 0))]) (by decide) (rmH Z a0 hw _ _ n0 Z0 0 0 _ [x0, x1, x2] X rfl (by omega) (by decide) (by decide)) pd1 rfl rfl rfl (by decide) (W := 2) rfl (by decide) (by decide) (by decide) fun T2 h2 v2 H2 q2 => ?_
  obtain ⟨z2, rfl, zx0, rfl⟩ := q2
  show Go w _ _ 11 #[.val (.ref p), .val (.ref x), .val (.ref y), .val (.int 0)] [(.long z2), (.long (hF x0 0 + hF y0 0))]
  refine go_aloadN K H2 d9_11 rfl rfl ?_
  refine go_iloadN K H2 d9_12 rfl ?_
  refine go_iconst (0) K H2 d9_13 (by decide) ?_
  show Go w _ _ 14 #[.val (.ref p), .val (.ref x), .val (.ref y), .val (.int 0)] [(.int (oN 0)), (.int (oN 0)), (.ref y), (.long z2), (.long (hF x0 0 + hF y0 0))]
  refine go_callS [(.ref y), (.int (oN 0)), (.int (oN 0))] K H2 d9_14 (hw _ (List.mem_of_getElem? (i := 57) rfl)) (hw _ (List.mem_of_getElem? (i := 58) rfl)) (hw _ (List.mem_of_getElem? (i := 42) rfl)) (hw _ (List.mem_of_getElem? (i := 59) rfl)) (st' := [(.long z2), (.long (hF x0 0 + hF y0 0))]) (by decide) (rmH Z a0 hw _ _ n0 Z0 0 0 _ [y0, y1, y2] Y rfl (by omega) (by decide) (by decide)) pd1 rfl rfl rfl (by decide) (W := 4) rfl (by decide) (by decide) (by decide) fun T3 h3 v3 H3 q3 => ?_
  obtain ⟨z3, rfl, zy0, rfl⟩ := q3
  show Go w _ _ 17 #[.val (.ref p), .val (.ref x), .val (.ref y), .val (.int 0)] [(.long z3), (.long z2), (.long (hF x0 0 + hF y0 0))]
  refine go_ladd K H3 d9_17 fun v4 ev4 => ?_
  have fv4 := f_ladd ev4
  have rv4 := rng64 v4
  refine go_lcmp K H3 d9_18 fun v5 ev5 => ?_
  have fv5 := f_lcmp ev5
  refine go_if_ne K H3 d9_19 (fun cc => False.elim (by subst_vars; exact cc ((lw_eq _ _).mpr rfl))) (fun cc => ?_)
  refine go_aloadN K H3 d9_22 rfl rfl ?_
  refine go_iloadN K H3 d9_23 rfl ?_
  refine go_iconst (3) K H3 d9_24 (by decide) ?_
  refine go_imul K H3 d9_25 fun v6 ev6 => ?_
  obtain rfl : v6 = (0 : Int32) := ev6.trans (by decide)
  refine go_iconst (1) K H3 d9_26 (by decide) ?_
  refine go_iadd K H3 d9_27 fun v7 ev7 => ?_
  obtain rfl : v7 = (1 : Int32) := ev7.trans (by decide)
  refine go_laload (1) K H3 d9_28 (P) (by decide) (at_map1J e1) ?_
  refine go_aloadN K H3 d9_29 rfl rfl ?_
  refine go_iloadN K H3 d9_30 rfl ?_
  refine go_iconst (1) K H3 d9_31 (by decide) ?_
  show Go w _ _ 32 #[.val (.ref p), .val (.ref x), .val (.ref y), .val (.int 0)] [(.int (oN 1)), (.int (oN 0)), (.ref x), (.long (hF x1 0 + hF y1 0))]
  refine go_callS [(.ref x), (.int (oN 0)), (.int (oN 1))] K H3 d9_32 (hw _ (List.mem_of_getElem? (i := 57) rfl)) (hw _ (List.mem_of_getElem? (i := 58) rfl)) (hw _ (List.mem_of_getElem? (i := 42) rfl)) (hw _ (List.mem_of_getElem? (i := 59) rfl)) (st' := [(.long (hF x1 0 + hF y1 0))]) (by decide) (rmH Z a0 hw _ _ n0 Z0 0 1 _ [x0, x1, x2] X rfl (by omega) (by decide) (by decide)) pd1 rfl rfl rfl (by decide) (W := 2) rfl (by decide) (by decide) (by decide) fun T8 h8 v8 H8 q8 => ?_
  obtain ⟨z8, rfl, zx1, rfl⟩ := q8
  show Go w _ _ 35 #[.val (.ref p), .val (.ref x), .val (.ref y), .val (.int 0)] [(.long z8), (.long (hF x1 0 + hF y1 0))]
  refine go_aloadN K H8 d9_35 rfl rfl ?_
  refine go_iloadN K H8 d9_36 rfl ?_
  refine go_iconst (1) K H8 d9_37 (by decide) ?_
  show Go w _ _ 38 #[.val (.ref p), .val (.ref x), .val (.ref y), .val (.int 0)] [(.int (oN 1)), (.int (oN 0)), (.ref y), (.long z8), (.long (hF x1 0 + hF y1 0))]
  refine go_callS [(.ref y), (.int (oN 0)), (.int (oN 1))] K H8 d9_38 (hw _ (List.mem_of_getElem? (i := 57) rfl)) (hw _ (List.mem_of_getElem? (i := 58) rfl)) (hw _ (List.mem_of_getElem? (i := 42) rfl)) (hw _ (List.mem_of_getElem? (i := 59) rfl)) (st' := [(.long z8), (.long (hF x1 0 + hF y1 0))]) (by decide) (rmH Z a0 hw _ _ n0 Z0 0 1 _ [y0, y1, y2] Y rfl (by omega) (by decide) (by decide)) pd1 rfl rfl rfl (by decide) (W := 4) rfl (by decide) (by decide) (by decide) fun T9 h9 v9 H9 q9 => ?_
  obtain ⟨z9, rfl, zy1, rfl⟩ := q9
  show Go w _ _ 41 #[.val (.ref p), .val (.ref x), .val (.ref y), .val (.int 0)] [(.long z9), (.long z8), (.long (hF x1 0 + hF y1 0))]
  refine go_ladd K H9 d9_41 fun v10 ev10 => ?_
  have fv10 := f_ladd ev10
  have rv10 := rng64 v10
  refine go_lcmp K H9 d9_42 fun v11 ev11 => ?_
  have fv11 := f_lcmp ev11
  refine go_if_ne K H9 d9_43 (fun cc => False.elim (by subst_vars; exact cc ((lw_eq _ _).mpr rfl))) (fun cc => ?_)
  refine go_aloadN K H9 d9_46 rfl rfl ?_
  refine go_iloadN K H9 d9_47 rfl ?_
  refine go_iconst (3) K H9 d9_48 (by decide) ?_
  refine go_imul K H9 d9_49 fun v12 ev12 => ?_
  obtain rfl : v12 = (0 : Int32) := ev12.trans (by decide)
  refine go_iconst (2) K H9 d9_50 (by decide) ?_
  refine go_iadd K H9 d9_51 fun v13 ev13 => ?_
  obtain rfl : v13 = (2 : Int32) := ev13.trans (by decide)
  refine go_laload (2) K H9 d9_52 (P) (by decide) (at_map1J e2) ?_
  refine go_aloadN K H9 d9_53 rfl rfl ?_
  refine go_iloadN K H9 d9_54 rfl ?_
  refine go_iconst (2) K H9 d9_55 (by decide) ?_
  show Go w _ _ 56 #[.val (.ref p), .val (.ref x), .val (.ref y), .val (.int 0)] [(.int (oN 2)), (.int (oN 0)), (.ref x), (.long (hF x2 0 + hF y2 0))]
  refine go_callS [(.ref x), (.int (oN 0)), (.int (oN 2))] K H9 d9_56 (hw _ (List.mem_of_getElem? (i := 57) rfl)) (hw _ (List.mem_of_getElem? (i := 58) rfl)) (hw _ (List.mem_of_getElem? (i := 42) rfl)) (hw _ (List.mem_of_getElem? (i := 59) rfl)) (st' := [(.long (hF x2 0 + hF y2 0))]) (by decide) (rmH Z a0 hw _ _ n0 Z0 0 2 _ [x0, x1, x2] X rfl (by omega) (by decide) (by decide)) pd1 rfl rfl rfl (by decide) (W := 2) rfl (by decide) (by decide) (by decide) fun T14 h14 v14 H14 q14 => ?_
  obtain ⟨z14, rfl, zx2, rfl⟩ := q14
  show Go w _ _ 59 #[.val (.ref p), .val (.ref x), .val (.ref y), .val (.int 0)] [(.long z14), (.long (hF x2 0 + hF y2 0))]
  refine go_aloadN K H14 d9_59 rfl rfl ?_
  refine go_iloadN K H14 d9_60 rfl ?_
  refine go_iconst (2) K H14 d9_61 (by decide) ?_
  show Go w _ _ 62 #[.val (.ref p), .val (.ref x), .val (.ref y), .val (.int 0)] [(.int (oN 2)), (.int (oN 0)), (.ref y), (.long z14), (.long (hF x2 0 + hF y2 0))]
  refine go_callS [(.ref y), (.int (oN 0)), (.int (oN 2))] K H14 d9_62 (hw _ (List.mem_of_getElem? (i := 57) rfl)) (hw _ (List.mem_of_getElem? (i := 58) rfl)) (hw _ (List.mem_of_getElem? (i := 42) rfl)) (hw _ (List.mem_of_getElem? (i := 59) rfl)) (st' := [(.long z14), (.long (hF x2 0 + hF y2 0))]) (by decide) (rmH Z a0 hw _ _ n0 Z0 0 2 _ [y0, y1, y2] Y rfl (by omega) (by decide) (by decide)) pd1 rfl rfl rfl (by decide) (W := 4) rfl (by decide) (by decide) (by decide) fun T15 h15 v15 H15 q15 => ?_
  obtain ⟨z15, rfl, zy2, rfl⟩ := q15
  show Go w _ _ 65 #[.val (.ref p), .val (.ref x), .val (.ref y), .val (.int 0)] [(.long z15), (.long z14), (.long (hF x2 0 + hF y2 0))]
  refine go_ladd K H15 d9_65 fun v16 ev16 => ?_
  have fv16 := f_ladd ev16
  have rv16 := rng64 v16
  refine go_lcmp K H15 d9_66 fun v17 ev17 => ?_
  have fv17 := f_lcmp ev17
  refine go_if_ne K H15 d9_67 (fun cc => False.elim (by subst_vars; exact cc ((lw_eq _ _).mpr rfl))) (fun cc => ?_)
  refine go_iconst (1) K H15 d9_70 (by decide) ?_
  refine go_goto K H15 d9_71 ?_
  exact go_zret K H15 d9_75 rfl (by decide) (by decide) (by decide) (⟨rfl, rfl⟩)
set_option maxRecDepth 65536 in
set_option maxHeartbeats 40000000 in
theorem rmR1 (Z : State) (a0 : Array Value) (hw : ∀ d ∈ tables_1, d.before a0 Z = true) (p : Addr) (x : Addr) (y : Addr) (h0 : Heap) (n0 : Nat) (Z0 : n0 ≤ h0.size) (zs : List Int64) (x0 x1 x2 y0 y1 y2 : Nat) (P : JA Z h0 p zs) (X : IA Z h0 x [oN x0, oN x1, oN x2]) (Y : IA Z h0 y [oN y0, oN y1, oN y2]) (e0 : zs[3]? = some (hF x0 1 + hF y0 1)) (e1 : zs[4]? = some (hF x1 1 + hF y1 1)) (e2 : zs[5]? = some (hF x2 1 + hF y2 1)) (lx : x0 < 3 ∧ x1 < 3 ∧ x2 < 3) (ly : y0 < 3 ∧ y1 < 3 ∧ y2 < 3) (lau : Launch) :
    Con lau Z (⟨"com/example/evenhand/evenhand/DeckTallyAddPinLaw", "row3", "([J[I[II)Z"⟩ : MethodName) method_5_code 4 (some .boolean) ({ frames := 1, cells := 0, slots := 0, locals := 28 } : Room) #[(.ref p), (.ref x), (.ref y), (.int 1)] h0 n0 (RI fun z h => z = 1 ∧ h0 = h) := by
  refine con_intro pn9 (L := #[.val (.ref p), .val (.ref x), .val (.ref y), .val (.int 1)]) (fun m => by first | (simp [entryFrame, mkF, argsToLocals, Value.category, maxLocals]; done) | rfl) Z0 (fun w T K H => ?_)
  refine go_aloadN K H d9_0 rfl rfl ?_
  refine go_iloadN K H d9_1 rfl ?_
  refine go_iconst (3) K H d9_2 (by decide) ?_
  refine go_imul K H d9_3 fun v1 ev1 => ?_
  obtain rfl : v1 = (3 : Int32) := ev1.trans (by decide)
  refine go_laload (3) K H d9_4 (P) (by decide) (at_map1J e0) ?_
  refine go_aloadN K H d9_5 rfl rfl ?_
  refine go_iloadN K H d9_6 rfl ?_
  refine go_iconst (0) K H d9_7 (by decide) ?_
  show Go w _ _ 8 #[.val (.ref p), .val (.ref x), .val (.ref y), .val (.int 1)] [(.int (oN 0)), (.int (oN 1)), (.ref x), (.long (hF x0 1 + hF y0 1))]
  refine go_callS [(.ref x), (.int (oN 1)), (.int (oN 0))] K H d9_8 (hw _ (List.mem_of_getElem? (i := 57) rfl)) (hw _ (List.mem_of_getElem? (i := 58) rfl)) (hw _ (List.mem_of_getElem? (i := 42) rfl)) (hw _ (List.mem_of_getElem? (i := 59) rfl)) (st' := [(.long (hF x0 1 + hF y0 1))]) (by decide) (rmH Z a0 hw _ _ n0 Z0 1 0 _ [x0, x1, x2] X rfl (by omega) (by decide) (by decide)) pd1 rfl rfl rfl (by decide) (W := 2) rfl (by decide) (by decide) (by decide) fun T2 h2 v2 H2 q2 => ?_
  obtain ⟨z2, rfl, zx0, rfl⟩ := q2
  show Go w _ _ 11 #[.val (.ref p), .val (.ref x), .val (.ref y), .val (.int 1)] [(.long z2), (.long (hF x0 1 + hF y0 1))]
  refine go_aloadN K H2 d9_11 rfl rfl ?_
  refine go_iloadN K H2 d9_12 rfl ?_
  refine go_iconst (0) K H2 d9_13 (by decide) ?_
  show Go w _ _ 14 #[.val (.ref p), .val (.ref x), .val (.ref y), .val (.int 1)] [(.int (oN 0)), (.int (oN 1)), (.ref y), (.long z2), (.long (hF x0 1 + hF y0 1))]
  refine go_callS [(.ref y), (.int (oN 1)), (.int (oN 0))] K H2 d9_14 (hw _ (List.mem_of_getElem? (i := 57) rfl)) (hw _ (List.mem_of_getElem? (i := 58) rfl)) (hw _ (List.mem_of_getElem? (i := 42) rfl)) (hw _ (List.mem_of_getElem? (i := 59) rfl)) (st' := [(.long z2), (.long (hF x0 1 + hF y0 1))]) (by decide) (rmH Z a0 hw _ _ n0 Z0 1 0 _ [y0, y1, y2] Y rfl (by omega) (by decide) (by decide)) pd1 rfl rfl rfl (by decide) (W := 4) rfl (by decide) (by decide) (by decide) fun T3 h3 v3 H3 q3 => ?_
  obtain ⟨z3, rfl, zy0, rfl⟩ := q3
  show Go w _ _ 17 #[.val (.ref p), .val (.ref x), .val (.ref y), .val (.int 1)] [(.long z3), (.long z2), (.long (hF x0 1 + hF y0 1))]
  refine go_ladd K H3 d9_17 fun v4 ev4 => ?_
  have fv4 := f_ladd ev4
  have rv4 := rng64 v4
  refine go_lcmp K H3 d9_18 fun v5 ev5 => ?_
  have fv5 := f_lcmp ev5
  refine go_if_ne K H3 d9_19 (fun cc => False.elim (by subst_vars; exact cc ((lw_eq _ _).mpr rfl))) (fun cc => ?_)
  refine go_aloadN K H3 d9_22 rfl rfl ?_
  refine go_iloadN K H3 d9_23 rfl ?_
  refine go_iconst (3) K H3 d9_24 (by decide) ?_
  refine go_imul K H3 d9_25 fun v6 ev6 => ?_
  obtain rfl : v6 = (3 : Int32) := ev6.trans (by decide)
  refine go_iconst (1) K H3 d9_26 (by decide) ?_
  refine go_iadd K H3 d9_27 fun v7 ev7 => ?_
  obtain rfl : v7 = (4 : Int32) := ev7.trans (by decide)
  refine go_laload (4) K H3 d9_28 (P) (by decide) (at_map1J e1) ?_
  refine go_aloadN K H3 d9_29 rfl rfl ?_
  refine go_iloadN K H3 d9_30 rfl ?_
  refine go_iconst (1) K H3 d9_31 (by decide) ?_
  show Go w _ _ 32 #[.val (.ref p), .val (.ref x), .val (.ref y), .val (.int 1)] [(.int (oN 1)), (.int (oN 1)), (.ref x), (.long (hF x1 1 + hF y1 1))]
  refine go_callS [(.ref x), (.int (oN 1)), (.int (oN 1))] K H3 d9_32 (hw _ (List.mem_of_getElem? (i := 57) rfl)) (hw _ (List.mem_of_getElem? (i := 58) rfl)) (hw _ (List.mem_of_getElem? (i := 42) rfl)) (hw _ (List.mem_of_getElem? (i := 59) rfl)) (st' := [(.long (hF x1 1 + hF y1 1))]) (by decide) (rmH Z a0 hw _ _ n0 Z0 1 1 _ [x0, x1, x2] X rfl (by omega) (by decide) (by decide)) pd1 rfl rfl rfl (by decide) (W := 2) rfl (by decide) (by decide) (by decide) fun T8 h8 v8 H8 q8 => ?_
  obtain ⟨z8, rfl, zx1, rfl⟩ := q8
  show Go w _ _ 35 #[.val (.ref p), .val (.ref x), .val (.ref y), .val (.int 1)] [(.long z8), (.long (hF x1 1 + hF y1 1))]
  refine go_aloadN K H8 d9_35 rfl rfl ?_
  refine go_iloadN K H8 d9_36 rfl ?_
  refine go_iconst (1) K H8 d9_37 (by decide) ?_
  show Go w _ _ 38 #[.val (.ref p), .val (.ref x), .val (.ref y), .val (.int 1)] [(.int (oN 1)), (.int (oN 1)), (.ref y), (.long z8), (.long (hF x1 1 + hF y1 1))]
  refine go_callS [(.ref y), (.int (oN 1)), (.int (oN 1))] K H8 d9_38 (hw _ (List.mem_of_getElem? (i := 57) rfl)) (hw _ (List.mem_of_getElem? (i := 58) rfl)) (hw _ (List.mem_of_getElem? (i := 42) rfl)) (hw _ (List.mem_of_getElem? (i := 59) rfl)) (st' := [(.long z8), (.long (hF x1 1 + hF y1 1))]) (by decide) (rmH Z a0 hw _ _ n0 Z0 1 1 _ [y0, y1, y2] Y rfl (by omega) (by decide) (by decide)) pd1 rfl rfl rfl (by decide) (W := 4) rfl (by decide) (by decide) (by decide) fun T9 h9 v9 H9 q9 => ?_
  obtain ⟨z9, rfl, zy1, rfl⟩ := q9
  show Go w _ _ 41 #[.val (.ref p), .val (.ref x), .val (.ref y), .val (.int 1)] [(.long z9), (.long z8), (.long (hF x1 1 + hF y1 1))]
  refine go_ladd K H9 d9_41 fun v10 ev10 => ?_
  have fv10 := f_ladd ev10
  have rv10 := rng64 v10
  refine go_lcmp K H9 d9_42 fun v11 ev11 => ?_
  have fv11 := f_lcmp ev11
  refine go_if_ne K H9 d9_43 (fun cc => False.elim (by subst_vars; exact cc ((lw_eq _ _).mpr rfl))) (fun cc => ?_)
  refine go_aloadN K H9 d9_46 rfl rfl ?_
  refine go_iloadN K H9 d9_47 rfl ?_
  refine go_iconst (3) K H9 d9_48 (by decide) ?_
  refine go_imul K H9 d9_49 fun v12 ev12 => ?_
  obtain rfl : v12 = (3 : Int32) := ev12.trans (by decide)
  refine go_iconst (2) K H9 d9_50 (by decide) ?_
  refine go_iadd K H9 d9_51 fun v13 ev13 => ?_
  obtain rfl : v13 = (5 : Int32) := ev13.trans (by decide)
  refine go_laload (5) K H9 d9_52 (P) (by decide) (at_map1J e2) ?_
  refine go_aloadN K H9 d9_53 rfl rfl ?_
  refine go_iloadN K H9 d9_54 rfl ?_
  refine go_iconst (2) K H9 d9_55 (by decide) ?_
  show Go w _ _ 56 #[.val (.ref p), .val (.ref x), .val (.ref y), .val (.int 1)] [(.int (oN 2)), (.int (oN 1)), (.ref x), (.long (hF x2 1 + hF y2 1))]
  refine go_callS [(.ref x), (.int (oN 1)), (.int (oN 2))] K H9 d9_56 (hw _ (List.mem_of_getElem? (i := 57) rfl)) (hw _ (List.mem_of_getElem? (i := 58) rfl)) (hw _ (List.mem_of_getElem? (i := 42) rfl)) (hw _ (List.mem_of_getElem? (i := 59) rfl)) (st' := [(.long (hF x2 1 + hF y2 1))]) (by decide) (rmH Z a0 hw _ _ n0 Z0 1 2 _ [x0, x1, x2] X rfl (by omega) (by decide) (by decide)) pd1 rfl rfl rfl (by decide) (W := 2) rfl (by decide) (by decide) (by decide) fun T14 h14 v14 H14 q14 => ?_
  obtain ⟨z14, rfl, zx2, rfl⟩ := q14
  show Go w _ _ 59 #[.val (.ref p), .val (.ref x), .val (.ref y), .val (.int 1)] [(.long z14), (.long (hF x2 1 + hF y2 1))]
  refine go_aloadN K H14 d9_59 rfl rfl ?_
  refine go_iloadN K H14 d9_60 rfl ?_
  refine go_iconst (2) K H14 d9_61 (by decide) ?_
  show Go w _ _ 62 #[.val (.ref p), .val (.ref x), .val (.ref y), .val (.int 1)] [(.int (oN 2)), (.int (oN 1)), (.ref y), (.long z14), (.long (hF x2 1 + hF y2 1))]
  refine go_callS [(.ref y), (.int (oN 1)), (.int (oN 2))] K H14 d9_62 (hw _ (List.mem_of_getElem? (i := 57) rfl)) (hw _ (List.mem_of_getElem? (i := 58) rfl)) (hw _ (List.mem_of_getElem? (i := 42) rfl)) (hw _ (List.mem_of_getElem? (i := 59) rfl)) (st' := [(.long z14), (.long (hF x2 1 + hF y2 1))]) (by decide) (rmH Z a0 hw _ _ n0 Z0 1 2 _ [y0, y1, y2] Y rfl (by omega) (by decide) (by decide)) pd1 rfl rfl rfl (by decide) (W := 4) rfl (by decide) (by decide) (by decide) fun T15 h15 v15 H15 q15 => ?_
  obtain ⟨z15, rfl, zy2, rfl⟩ := q15
  show Go w _ _ 65 #[.val (.ref p), .val (.ref x), .val (.ref y), .val (.int 1)] [(.long z15), (.long z14), (.long (hF x2 1 + hF y2 1))]
  refine go_ladd K H15 d9_65 fun v16 ev16 => ?_
  have fv16 := f_ladd ev16
  have rv16 := rng64 v16
  refine go_lcmp K H15 d9_66 fun v17 ev17 => ?_
  have fv17 := f_lcmp ev17
  refine go_if_ne K H15 d9_67 (fun cc => False.elim (by subst_vars; exact cc ((lw_eq _ _).mpr rfl))) (fun cc => ?_)
  refine go_iconst (1) K H15 d9_70 (by decide) ?_
  refine go_goto K H15 d9_71 ?_
  exact go_zret K H15 d9_75 rfl (by decide) (by decide) (by decide) (⟨rfl, rfl⟩)
set_option maxRecDepth 65536 in
set_option maxHeartbeats 40000000 in
theorem rmR2 (Z : State) (a0 : Array Value) (hw : ∀ d ∈ tables_1, d.before a0 Z = true) (p : Addr) (x : Addr) (y : Addr) (h0 : Heap) (n0 : Nat) (Z0 : n0 ≤ h0.size) (zs : List Int64) (x0 x1 x2 y0 y1 y2 : Nat) (P : JA Z h0 p zs) (X : IA Z h0 x [oN x0, oN x1, oN x2]) (Y : IA Z h0 y [oN y0, oN y1, oN y2]) (e0 : zs[6]? = some (hF x0 2 + hF y0 2)) (e1 : zs[7]? = some (hF x1 2 + hF y1 2)) (e2 : zs[8]? = some (hF x2 2 + hF y2 2)) (lx : x0 < 3 ∧ x1 < 3 ∧ x2 < 3) (ly : y0 < 3 ∧ y1 < 3 ∧ y2 < 3) (lau : Launch) :
    Con lau Z (⟨"com/example/evenhand/evenhand/DeckTallyAddPinLaw", "row3", "([J[I[II)Z"⟩ : MethodName) method_5_code 4 (some .boolean) ({ frames := 1, cells := 0, slots := 0, locals := 28 } : Room) #[(.ref p), (.ref x), (.ref y), (.int 2)] h0 n0 (RI fun z h => z = 1 ∧ h0 = h) := by
  refine con_intro pn9 (L := #[.val (.ref p), .val (.ref x), .val (.ref y), .val (.int 2)]) (fun m => by first | (simp [entryFrame, mkF, argsToLocals, Value.category, maxLocals]; done) | rfl) Z0 (fun w T K H => ?_)
  refine go_aloadN K H d9_0 rfl rfl ?_
  refine go_iloadN K H d9_1 rfl ?_
  refine go_iconst (3) K H d9_2 (by decide) ?_
  refine go_imul K H d9_3 fun v1 ev1 => ?_
  obtain rfl : v1 = (6 : Int32) := ev1.trans (by decide)
  refine go_laload (6) K H d9_4 (P) (by decide) (at_map1J e0) ?_
  refine go_aloadN K H d9_5 rfl rfl ?_
  refine go_iloadN K H d9_6 rfl ?_
  refine go_iconst (0) K H d9_7 (by decide) ?_
  show Go w _ _ 8 #[.val (.ref p), .val (.ref x), .val (.ref y), .val (.int 2)] [(.int (oN 0)), (.int (oN 2)), (.ref x), (.long (hF x0 2 + hF y0 2))]
  refine go_callS [(.ref x), (.int (oN 2)), (.int (oN 0))] K H d9_8 (hw _ (List.mem_of_getElem? (i := 57) rfl)) (hw _ (List.mem_of_getElem? (i := 58) rfl)) (hw _ (List.mem_of_getElem? (i := 42) rfl)) (hw _ (List.mem_of_getElem? (i := 59) rfl)) (st' := [(.long (hF x0 2 + hF y0 2))]) (by decide) (rmH Z a0 hw _ _ n0 Z0 2 0 _ [x0, x1, x2] X rfl (by omega) (by decide) (by decide)) pd1 rfl rfl rfl (by decide) (W := 2) rfl (by decide) (by decide) (by decide) fun T2 h2 v2 H2 q2 => ?_
  obtain ⟨z2, rfl, zx0, rfl⟩ := q2
  show Go w _ _ 11 #[.val (.ref p), .val (.ref x), .val (.ref y), .val (.int 2)] [(.long z2), (.long (hF x0 2 + hF y0 2))]
  refine go_aloadN K H2 d9_11 rfl rfl ?_
  refine go_iloadN K H2 d9_12 rfl ?_
  refine go_iconst (0) K H2 d9_13 (by decide) ?_
  show Go w _ _ 14 #[.val (.ref p), .val (.ref x), .val (.ref y), .val (.int 2)] [(.int (oN 0)), (.int (oN 2)), (.ref y), (.long z2), (.long (hF x0 2 + hF y0 2))]
  refine go_callS [(.ref y), (.int (oN 2)), (.int (oN 0))] K H2 d9_14 (hw _ (List.mem_of_getElem? (i := 57) rfl)) (hw _ (List.mem_of_getElem? (i := 58) rfl)) (hw _ (List.mem_of_getElem? (i := 42) rfl)) (hw _ (List.mem_of_getElem? (i := 59) rfl)) (st' := [(.long z2), (.long (hF x0 2 + hF y0 2))]) (by decide) (rmH Z a0 hw _ _ n0 Z0 2 0 _ [y0, y1, y2] Y rfl (by omega) (by decide) (by decide)) pd1 rfl rfl rfl (by decide) (W := 4) rfl (by decide) (by decide) (by decide) fun T3 h3 v3 H3 q3 => ?_
  obtain ⟨z3, rfl, zy0, rfl⟩ := q3
  show Go w _ _ 17 #[.val (.ref p), .val (.ref x), .val (.ref y), .val (.int 2)] [(.long z3), (.long z2), (.long (hF x0 2 + hF y0 2))]
  refine go_ladd K H3 d9_17 fun v4 ev4 => ?_
  have fv4 := f_ladd ev4
  have rv4 := rng64 v4
  refine go_lcmp K H3 d9_18 fun v5 ev5 => ?_
  have fv5 := f_lcmp ev5
  refine go_if_ne K H3 d9_19 (fun cc => False.elim (by subst_vars; exact cc ((lw_eq _ _).mpr rfl))) (fun cc => ?_)
  refine go_aloadN K H3 d9_22 rfl rfl ?_
  refine go_iloadN K H3 d9_23 rfl ?_
  refine go_iconst (3) K H3 d9_24 (by decide) ?_
  refine go_imul K H3 d9_25 fun v6 ev6 => ?_
  obtain rfl : v6 = (6 : Int32) := ev6.trans (by decide)
  refine go_iconst (1) K H3 d9_26 (by decide) ?_
  refine go_iadd K H3 d9_27 fun v7 ev7 => ?_
  obtain rfl : v7 = (7 : Int32) := ev7.trans (by decide)
  refine go_laload (7) K H3 d9_28 (P) (by decide) (at_map1J e1) ?_
  refine go_aloadN K H3 d9_29 rfl rfl ?_
  refine go_iloadN K H3 d9_30 rfl ?_
  refine go_iconst (1) K H3 d9_31 (by decide) ?_
  show Go w _ _ 32 #[.val (.ref p), .val (.ref x), .val (.ref y), .val (.int 2)] [(.int (oN 1)), (.int (oN 2)), (.ref x), (.long (hF x1 2 + hF y1 2))]
  refine go_callS [(.ref x), (.int (oN 2)), (.int (oN 1))] K H3 d9_32 (hw _ (List.mem_of_getElem? (i := 57) rfl)) (hw _ (List.mem_of_getElem? (i := 58) rfl)) (hw _ (List.mem_of_getElem? (i := 42) rfl)) (hw _ (List.mem_of_getElem? (i := 59) rfl)) (st' := [(.long (hF x1 2 + hF y1 2))]) (by decide) (rmH Z a0 hw _ _ n0 Z0 2 1 _ [x0, x1, x2] X rfl (by omega) (by decide) (by decide)) pd1 rfl rfl rfl (by decide) (W := 2) rfl (by decide) (by decide) (by decide) fun T8 h8 v8 H8 q8 => ?_
  obtain ⟨z8, rfl, zx1, rfl⟩ := q8
  show Go w _ _ 35 #[.val (.ref p), .val (.ref x), .val (.ref y), .val (.int 2)] [(.long z8), (.long (hF x1 2 + hF y1 2))]
  refine go_aloadN K H8 d9_35 rfl rfl ?_
  refine go_iloadN K H8 d9_36 rfl ?_
  refine go_iconst (1) K H8 d9_37 (by decide) ?_
  show Go w _ _ 38 #[.val (.ref p), .val (.ref x), .val (.ref y), .val (.int 2)] [(.int (oN 1)), (.int (oN 2)), (.ref y), (.long z8), (.long (hF x1 2 + hF y1 2))]
  refine go_callS [(.ref y), (.int (oN 2)), (.int (oN 1))] K H8 d9_38 (hw _ (List.mem_of_getElem? (i := 57) rfl)) (hw _ (List.mem_of_getElem? (i := 58) rfl)) (hw _ (List.mem_of_getElem? (i := 42) rfl)) (hw _ (List.mem_of_getElem? (i := 59) rfl)) (st' := [(.long z8), (.long (hF x1 2 + hF y1 2))]) (by decide) (rmH Z a0 hw _ _ n0 Z0 2 1 _ [y0, y1, y2] Y rfl (by omega) (by decide) (by decide)) pd1 rfl rfl rfl (by decide) (W := 4) rfl (by decide) (by decide) (by decide) fun T9 h9 v9 H9 q9 => ?_
  obtain ⟨z9, rfl, zy1, rfl⟩ := q9
  show Go w _ _ 41 #[.val (.ref p), .val (.ref x), .val (.ref y), .val (.int 2)] [(.long z9), (.long z8), (.long (hF x1 2 + hF y1 2))]
  refine go_ladd K H9 d9_41 fun v10 ev10 => ?_
  have fv10 := f_ladd ev10
  have rv10 := rng64 v10
  refine go_lcmp K H9 d9_42 fun v11 ev11 => ?_
  have fv11 := f_lcmp ev11
  refine go_if_ne K H9 d9_43 (fun cc => False.elim (by subst_vars; exact cc ((lw_eq _ _).mpr rfl))) (fun cc => ?_)
  refine go_aloadN K H9 d9_46 rfl rfl ?_
  refine go_iloadN K H9 d9_47 rfl ?_
  refine go_iconst (3) K H9 d9_48 (by decide) ?_
  refine go_imul K H9 d9_49 fun v12 ev12 => ?_
  obtain rfl : v12 = (6 : Int32) := ev12.trans (by decide)
  refine go_iconst (2) K H9 d9_50 (by decide) ?_
  refine go_iadd K H9 d9_51 fun v13 ev13 => ?_
  obtain rfl : v13 = (8 : Int32) := ev13.trans (by decide)
  refine go_laload (8) K H9 d9_52 (P) (by decide) (at_map1J e2) ?_
  refine go_aloadN K H9 d9_53 rfl rfl ?_
  refine go_iloadN K H9 d9_54 rfl ?_
  refine go_iconst (2) K H9 d9_55 (by decide) ?_
  show Go w _ _ 56 #[.val (.ref p), .val (.ref x), .val (.ref y), .val (.int 2)] [(.int (oN 2)), (.int (oN 2)), (.ref x), (.long (hF x2 2 + hF y2 2))]
  refine go_callS [(.ref x), (.int (oN 2)), (.int (oN 2))] K H9 d9_56 (hw _ (List.mem_of_getElem? (i := 57) rfl)) (hw _ (List.mem_of_getElem? (i := 58) rfl)) (hw _ (List.mem_of_getElem? (i := 42) rfl)) (hw _ (List.mem_of_getElem? (i := 59) rfl)) (st' := [(.long (hF x2 2 + hF y2 2))]) (by decide) (rmH Z a0 hw _ _ n0 Z0 2 2 _ [x0, x1, x2] X rfl (by omega) (by decide) (by decide)) pd1 rfl rfl rfl (by decide) (W := 2) rfl (by decide) (by decide) (by decide) fun T14 h14 v14 H14 q14 => ?_
  obtain ⟨z14, rfl, zx2, rfl⟩ := q14
  show Go w _ _ 59 #[.val (.ref p), .val (.ref x), .val (.ref y), .val (.int 2)] [(.long z14), (.long (hF x2 2 + hF y2 2))]
  refine go_aloadN K H14 d9_59 rfl rfl ?_
  refine go_iloadN K H14 d9_60 rfl ?_
  refine go_iconst (2) K H14 d9_61 (by decide) ?_
  show Go w _ _ 62 #[.val (.ref p), .val (.ref x), .val (.ref y), .val (.int 2)] [(.int (oN 2)), (.int (oN 2)), (.ref y), (.long z14), (.long (hF x2 2 + hF y2 2))]
  refine go_callS [(.ref y), (.int (oN 2)), (.int (oN 2))] K H14 d9_62 (hw _ (List.mem_of_getElem? (i := 57) rfl)) (hw _ (List.mem_of_getElem? (i := 58) rfl)) (hw _ (List.mem_of_getElem? (i := 42) rfl)) (hw _ (List.mem_of_getElem? (i := 59) rfl)) (st' := [(.long z14), (.long (hF x2 2 + hF y2 2))]) (by decide) (rmH Z a0 hw _ _ n0 Z0 2 2 _ [y0, y1, y2] Y rfl (by omega) (by decide) (by decide)) pd1 rfl rfl rfl (by decide) (W := 4) rfl (by decide) (by decide) (by decide) fun T15 h15 v15 H15 q15 => ?_
  obtain ⟨z15, rfl, zy2, rfl⟩ := q15
  show Go w _ _ 65 #[.val (.ref p), .val (.ref x), .val (.ref y), .val (.int 2)] [(.long z15), (.long z14), (.long (hF x2 2 + hF y2 2))]
  refine go_ladd K H15 d9_65 fun v16 ev16 => ?_
  have fv16 := f_ladd ev16
  have rv16 := rng64 v16
  refine go_lcmp K H15 d9_66 fun v17 ev17 => ?_
  have fv17 := f_lcmp ev17
  refine go_if_ne K H15 d9_67 (fun cc => False.elim (by subst_vars; exact cc ((lw_eq _ _).mpr rfl))) (fun cc => ?_)
  refine go_iconst (1) K H15 d9_70 (by decide) ?_
  refine go_goto K H15 d9_71 ?_
  exact go_zret K H15 d9_75 rfl (by decide) (by decide) (by decide) (⟨rfl, rfl⟩)
set_option maxRecDepth 65536 in
set_option maxHeartbeats 40000000 in
theorem rmC (Z : State) (a0 : Array Value) (hw : ∀ d ∈ tables_1, d.before a0 Z = true) (p : Addr) (d : Addr) (h0 : Heap) (n0 : Nat) (Z0 : n0 ≤ h0.size) (k s dk : Nat) (zs : List Int64) (ds : List Nat) (P : JA Z h0 p zs) (D : IA Z h0 d (ds.map oN)) (hk : ds[k]? = some dk) (l1 : dk < 7) (l2 : k < 7) (l3 : s < 7) (e1 : zs[dk * 7 + k]? = some 1) (e2 : zs[(dk + s) % 7 * 7 + k]? = some 0) (lau : Launch) :
    Con lau Z (⟨"com/example/evenhand/evenhand/DeckTallyAddPinLaw", "col7", "([J[III)Z"⟩ : MethodName) method_6_code 5 (some .boolean) ({ frames := 0, cells := 0, slots := 0, locals := 0 } : Room) #[(.ref p), (.ref d), (.int (oN k)), (.int (oN s))] h0 n0 (RI fun z h => z = 1 ∧ h0 = h) := by
  refine con_intro pn10 (L := #[.val (.ref p), .val (.ref d), .val (.int (oN k)), .val (.int (oN s)), .unset]) (fun m => by first | (simp [entryFrame, mkF, argsToLocals, Value.category, maxLocals]; done) | rfl) Z0 (fun w T K H => ?_)
  refine go_aloadN K H d10_0 rfl rfl ?_
  refine go_iloadN K H d10_1 rfl ?_
  refine go_iaload (k) K H d10_2 (D) (oN_toInt (by omega)) (at_map2 hk) ?_
  have od := oN_toInt (n := dk) (by omega); have ok := oN_toInt (n := k) (by omega); have os := oN_toInt (n := s) (by omega)
  refine go_iloadN K H d10_3 rfl ?_
  refine go_iadd K H d10_4 fun v1 ev1 => ?_
  have fv1 := f_iadd ev1
  have rv1 := rng32 v1
  refine go_bipush (7) K H d10_5 (by decide) ?_
  refine go_irem K H d10_7 (by decide) fun v2 ev2 => ?_
  have fv2 := f_irem 7 ev2 (by decide)
  refine go_istore K H d10_8 (L' := #[.val (.ref p), .val (.ref d), .val (.int (oN k)), .val (.int (oN s)), .val (.int v2)]) rfl ?_
  refine go_aloadN K H d10_10 rfl rfl ?_
  refine go_aloadN K H d10_11 rfl rfl ?_
  refine go_iloadN K H d10_12 rfl ?_
  refine go_iaload (k) K H d10_13 (D) (oN_toInt (by omega)) (at_map2 hk) ?_
  refine go_bipush (7) K H d10_14 (by decide) ?_
  refine go_imul K H d10_16 fun v3 ev3 => ?_
  have fv3 := f_imul ev3
  have rv3 := rng32 v3
  refine go_iloadN K H d10_17 rfl ?_
  refine go_iadd K H d10_18 fun v4 ev4 => ?_
  have fv4 := f_iadd ev4
  have rv4 := rng32 v4
  refine go_laload (dk * 7 + k) K H d10_19 (P) (by (try simp only [or_true, true_or, and_true, true_and, not_true_eq_false, not_false_eq_true, Int32.lt_iff_toInt_lt, Int32.le_iff_toInt_le, ← Int32.toInt_inj, Int64.lt_iff_toInt_lt, Int64.le_iff_toInt_le, ← Int64.toInt_inj, Int32.reduceToInt, Int64.reduceToInt, ne_eq] at *) <;> omega) (at_map1J e1) ?_
  refine go_lconst 1 K H d10_20 (by decide) ?_
  refine go_lcmp K H d10_21 fun v5 ev5 => ?_
  have fv5 := f_lcmp ev5
  refine go_if_ne K H d10_22 (fun cc => False.elim (by subst_vars; exact cc ((lw_eq _ _).mpr rfl))) (fun cc => ?_)
  refine go_aloadN K H d10_25 rfl rfl ?_
  refine go_iload K H d10_26 rfl ?_
  refine go_bipush (7) K H d10_28 (by decide) ?_
  refine go_imul K H d10_30 fun v6 ev6 => ?_
  have fv6 := f_imul ev6
  have rv6 := rng32 v6
  refine go_iloadN K H d10_31 rfl ?_
  refine go_iadd K H d10_32 fun v7 ev7 => ?_
  have fv7 := f_iadd ev7
  have rv7 := rng32 v7
  have a1 : v1.toInt = ((dk + s : Nat) : Int) := by have q := fv1; rw [od, os] at q; omega
  have a2 : v2.toInt = (((dk + s) % 7 : Nat) : Int) := by rw [fv2.1 (by omega), a1]; omega
  have a3 : v7.toInt = (((dk + s) % 7 * 7 + k : Nat) : Int) := by have q6 := fv6; have q7 := fv7; rw [a2] at q6; rw [ok] at q7; simp only [Int32.reduceToInt] at q6; omega
  refine go_laload ((dk + s) % 7 * 7 + k) K H d10_33 (P) (a3) (at_map1J e2) ?_
  refine go_lconst 0 K H d10_34 (by decide) ?_
  refine go_lcmp K H d10_35 fun v8 ev8 => ?_
  have fv8 := f_lcmp ev8
  refine go_if_ne K H d10_36 (fun cc => False.elim (by subst_vars; exact cc ((lw_eq _ _).mpr rfl))) (fun cc => ?_)
  refine go_iconst (1) K H d10_39 (by decide) ?_
  refine go_goto K H d10_40 ?_
  exact go_zret K H d10_44 rfl (by decide) (by decide) (by decide) (⟨rfl, rfl⟩)
set_option maxRecDepth 65536 in
set_option maxHeartbeats 40000000 in
theorem rm0 (Z : State) (a0 : Array Value) (hw : ∀ d ∈ tables_1, d.before a0 Z = true) (u0 : Int32) (u1 : Int32) (u2 : Int32) (u3 : Int32) (h0 : Heap) (n0 : Nat) (Z0 : n0 ≤ h0.size) (fa : Addr) (SF : Sta Z h0 "com/example/evenhand/evenhand/DeckTally" "FACTORIALS" "[I" (.ref fa)) (AF : IA Z h0 fa [1, 1, 2, 6, 24, 120, 720]) (hfa : fa < n0) (lau : Launch) :
    Con lau Z x code maxLocals ret room_1 #[(.int u0), (.int u1), (.int u2), (.int u3)] h0 n0 (RI fun z _ => z = 1) := by
  refine con_intro pn11 (L := #[.val (.int u0), .val (.int u1), .val (.int u2), .val (.int u3), .unset, .unset, .unset, .unset, .unset, .unset, .unset, .unset]) (fun m => by first | (simp [entryFrame, mkF, argsToLocals, Value.category, maxLocals]; done) | rfl) Z0 (fun w T K H => ?_)
  refine go_iloadN K H d11_0 rfl ?_
  refine go_iconst (1) K H d11_1 (by decide) ?_
  refine go_iand K H d11_2 fun v1 ev1 => ?_
  have fv1 := f_mask 2 1 ev1 (by decide) (by decide) (by decide)
  refine go_if_ne K H d11_3 (fun c3 => ?_) (fun c3 => ?_)
  · (try simp only [Int32.reduceToInt] at *)
    refine go_iloadN K H d11_365 rfl ?_
    refine go_ldcI (2147483647) K H d11_366 (hw _ (List.mem_of_getElem? (i := 0) rfl)) ?_
    refine go_iand K H d11_368 fun v2 ev2 => ?_
    have fv2 := f_mask 2147483648 31 ev2 (by decide) (by decide) (by decide)
    (try simp only [Int32.reduceToInt] at fv2)
    refine go_bipush (7) K H d11_369 (by decide) ?_
    refine go_irem K H d11_371 (by decide) fun v3 ev3 => ?_
    have fv3 := f_irem 7 ev3 (by decide)
    (try simp only [Int32.reduceToInt] at fv3)
    refine go_istore K H d11_372 (L' := #[.val (.int u0), .val (.int u1), .val (.int u2), .val (.int u3), .val (.int v3), .unset, .unset, .unset, .unset, .unset, .unset, .unset]) rfl ?_
    refine go_iloadN K H d11_374 rfl ?_
    refine go_ldcI (2147483647) K H d11_375 (hw _ (List.mem_of_getElem? (i := 0) rfl)) ?_
    refine go_iand K H d11_377 fun v4 ev4 => ?_
    have fv4 := f_mask 2147483648 31 ev4 (by decide) (by decide) (by decide)
    (try simp only [Int32.reduceToInt] at fv4)
    refine go_bipush (6) K H d11_378 (by decide) ?_
    refine go_irem K H d11_380 (by decide) fun v5 ev5 => ?_
    have fv5 := f_irem 6 ev5 (by decide)
    (try simp only [Int32.reduceToInt] at fv5)
    refine go_iconst (1) K H d11_381 (by decide) ?_
    refine go_iadd K H d11_382 fun v6 ev6 => ?_
    have fv6 := f_iadd ev6
    (try simp only [Int32.reduceToInt] at fv6)
    have rv6 := rng32 v6
    refine go_istore K H d11_383 (L' := #[.val (.int u0), .val (.int u1), .val (.int u2), .val (.int u3), .val (.int v3), .val (.int v6), .unset, .unset, .unset, .unset, .unset, .unset]) rfl ?_
    refine go_iloadN K H d11_385 rfl ?_
    refine go_ldcI (2147483647) K H d11_386 (hw _ (List.mem_of_getElem? (i := 0) rfl)) ?_
    refine go_iand K H d11_388 fun v7 ev7 => ?_
    have fv7 := f_mask 2147483648 31 ev7 (by decide) (by decide) (by decide)
    (try simp only [Int32.reduceToInt] at fv7)
    refine go_bipush (6) K H d11_389 (by decide) ?_
    refine go_irem K H d11_391 (by decide) fun v8 ev8 => ?_
    have fv8 := f_irem 6 ev8 (by decide)
    (try simp only [Int32.reduceToInt] at fv8)
    refine go_iconst (1) K H d11_392 (by decide) ?_
    refine go_iadd K H d11_393 fun v9 ev9 => ?_
    have fv9 := f_iadd ev9
    (try simp only [Int32.reduceToInt] at fv9)
    have rv9 := rng32 v9
    refine go_istore K H d11_394 (L' := #[.val (.int u0), .val (.int u1), .val (.int u2), .val (.int u3), .val (.int v3), .val (.int v6), .val (.int v9), .unset, .unset, .unset, .unset, .unset]) rfl ?_
    replace fv3 := fv3.1 (by omega)
    replace fv5 := fv5.1 (by omega)
    replace fv8 := fv8.1 (by omega)
    have hrm : 0 ≤ v3.toInt ∧ v3.toInt < 7 := by omega
    have hmm : 1 ≤ v6.toInt ∧ v6.toInt ≤ 6 := by omega
    have hsm : 1 ≤ v9.toInt ∧ v9.toInt ≤ 6 := by omega
    obtain ⟨sN, hsN, es⟩ := oN_of (v := v9) (N := 7) (by omega) (by omega) (by decide)
    have hs1 : 1 ≤ sN := by rw [es, oN_toInt (by omega)] at hsm; omega
    refine go_bipush (7) K H d11_396 (by decide) ?_
    refine go_newarray 7 K H d11_398 (hw _ (List.mem_of_getElem? (i := 1) rfl)) (by decide) (by decide) (by decide) (by decide) (by decide) fun T10 h10 d H10 g10 l10 E10 A10 => ?_
    have D : IA Z h10 d [0, 0, 0, 0, 0, 0, 0] := A10
    replace SF := SF.ext E10; replace AF := AF.ext E10
    refine go_astore K H10 d11_400 rfl (L' := #[.val (.int u0), .val (.int u1), .val (.int u2), .val (.int u3), .val (.int v3), .val (.int v6), .val (.int v9), .val (.ref d), .unset, .unset, .unset, .unset]) rfl ?_
    refine go_aload K H10 d11_402 rfl rfl ?_
    refine go_iconst (0) K H10 d11_404 (by decide) ?_
    refine go_iload K H10 d11_405 rfl ?_
    refine go_bipush (7) K H10 d11_407 (by decide) ?_
    refine go_irem K H10 d11_409 (by decide) fun v11 ev11 => ?_
    have fv11 := f_irem 7 ev11 (by decide)
    (try simp only [Int32.reduceToInt] at fv11)
    replace fv11 := fv11.1 (by omega)
    obtain ⟨d0, ld0, ed0⟩ := oN_of (v := v11) (N := 7) (by omega) (by omega) (by decide)
    subst ed0
    refine go_iastore (0) K H10 d11_410 (D) (by decide) (by simp) (l10) fun T12 h12 H12 W12 => ?_
    replace D : IA Z h12 d [oN d0, 0, 0, 0, 0, 0, 0] := IA.set D W12; replace SF := SF.wr W12; replace AF := AF.other W12 (ne_lt hfa l10)
    refine go_aload K H12 d11_411 rfl rfl ?_
    refine go_iconst (1) K H12 d11_413 (by decide) ?_
    refine go_iload K H12 d11_414 rfl ?_
    refine go_iload K H12 d11_416 rfl ?_
    refine go_iadd K H12 d11_418 fun v13 ev13 => ?_
    have fv13 := f_iadd ev13
    (try simp only [Int32.reduceToInt] at fv13)
    have rv13 := rng32 v13
    refine go_bipush (7) K H12 d11_419 (by decide) ?_
    refine go_irem K H12 d11_421 (by decide) fun v14 ev14 => ?_
    have fv14 := f_irem 7 ev14 (by decide)
    (try simp only [Int32.reduceToInt] at fv14)
    replace fv14 := fv14.1 (by omega)
    obtain ⟨d1, ld1, ed1⟩ := oN_of (v := v14) (N := 7) (by omega) (by omega) (by decide)
    subst ed1
    refine go_iastore (1) K H12 d11_422 (D) (by decide) (by simp) (l10) fun T15 h15 H15 W15 => ?_
    replace D : IA Z h15 d [oN d0, oN d1, 0, 0, 0, 0, 0] := IA.set D W15; replace SF := SF.wr W15; replace AF := AF.other W15 (ne_lt hfa l10)
    refine go_aload K H15 d11_423 rfl rfl ?_
    refine go_iconst (2) K H15 d11_425 (by decide) ?_
    refine go_iconst (2) K H15 d11_426 (by decide) ?_
    refine go_iload K H15 d11_427 rfl ?_
    refine go_imul K H15 d11_429 fun v16 ev16 => ?_
    have fv16 := f_imul ev16
    (try simp only [Int32.reduceToInt] at fv16)
    have rv16 := rng32 v16
    refine go_iload K H15 d11_430 rfl ?_
    refine go_iadd K H15 d11_432 fun v17 ev17 => ?_
    have fv17 := f_iadd ev17
    (try simp only [Int32.reduceToInt] at fv17)
    have rv17 := rng32 v17
    refine go_bipush (7) K H15 d11_433 (by decide) ?_
    refine go_irem K H15 d11_435 (by decide) fun v18 ev18 => ?_
    have fv18 := f_irem 7 ev18 (by decide)
    (try simp only [Int32.reduceToInt] at fv18)
    replace fv18 := fv18.1 (by omega)
    obtain ⟨d2, ld2, ed2⟩ := oN_of (v := v18) (N := 7) (by omega) (by omega) (by decide)
    subst ed2
    refine go_iastore (2) K H15 d11_436 (D) (by decide) (by simp) (l10) fun T19 h19 H19 W19 => ?_
    replace D : IA Z h19 d [oN d0, oN d1, oN d2, 0, 0, 0, 0] := IA.set D W19; replace SF := SF.wr W19; replace AF := AF.other W19 (ne_lt hfa l10)
    refine go_aload K H19 d11_437 rfl rfl ?_
    refine go_iconst (3) K H19 d11_439 (by decide) ?_
    refine go_iconst (3) K H19 d11_440 (by decide) ?_
    refine go_iload K H19 d11_441 rfl ?_
    refine go_imul K H19 d11_443 fun v20 ev20 => ?_
    have fv20 := f_imul ev20
    (try simp only [Int32.reduceToInt] at fv20)
    have rv20 := rng32 v20
    refine go_iload K H19 d11_444 rfl ?_
    refine go_iadd K H19 d11_446 fun v21 ev21 => ?_
    have fv21 := f_iadd ev21
    (try simp only [Int32.reduceToInt] at fv21)
    have rv21 := rng32 v21
    refine go_bipush (7) K H19 d11_447 (by decide) ?_
    refine go_irem K H19 d11_449 (by decide) fun v22 ev22 => ?_
    have fv22 := f_irem 7 ev22 (by decide)
    (try simp only [Int32.reduceToInt] at fv22)
    replace fv22 := fv22.1 (by omega)
    obtain ⟨d3, ld3, ed3⟩ := oN_of (v := v22) (N := 7) (by omega) (by omega) (by decide)
    subst ed3
    refine go_iastore (3) K H19 d11_450 (D) (by decide) (by simp) (l10) fun T23 h23 H23 W23 => ?_
    replace D : IA Z h23 d [oN d0, oN d1, oN d2, oN d3, 0, 0, 0] := IA.set D W23; replace SF := SF.wr W23; replace AF := AF.other W23 (ne_lt hfa l10)
    refine go_aload K H23 d11_451 rfl rfl ?_
    refine go_iconst (4) K H23 d11_453 (by decide) ?_
    refine go_iconst (4) K H23 d11_454 (by decide) ?_
    refine go_iload K H23 d11_455 rfl ?_
    refine go_imul K H23 d11_457 fun v24 ev24 => ?_
    have fv24 := f_imul ev24
    (try simp only [Int32.reduceToInt] at fv24)
    have rv24 := rng32 v24
    refine go_iload K H23 d11_458 rfl ?_
    refine go_iadd K H23 d11_460 fun v25 ev25 => ?_
    have fv25 := f_iadd ev25
    (try simp only [Int32.reduceToInt] at fv25)
    have rv25 := rng32 v25
    refine go_bipush (7) K H23 d11_461 (by decide) ?_
    refine go_irem K H23 d11_463 (by decide) fun v26 ev26 => ?_
    have fv26 := f_irem 7 ev26 (by decide)
    (try simp only [Int32.reduceToInt] at fv26)
    replace fv26 := fv26.1 (by omega)
    obtain ⟨d4, ld4, ed4⟩ := oN_of (v := v26) (N := 7) (by omega) (by omega) (by decide)
    subst ed4
    refine go_iastore (4) K H23 d11_464 (D) (by decide) (by simp) (l10) fun T27 h27 H27 W27 => ?_
    replace D : IA Z h27 d [oN d0, oN d1, oN d2, oN d3, oN d4, 0, 0] := IA.set D W27; replace SF := SF.wr W27; replace AF := AF.other W27 (ne_lt hfa l10)
    refine go_aload K H27 d11_465 rfl rfl ?_
    refine go_iconst (5) K H27 d11_467 (by decide) ?_
    refine go_iconst (5) K H27 d11_468 (by decide) ?_
    refine go_iload K H27 d11_469 rfl ?_
    refine go_imul K H27 d11_471 fun v28 ev28 => ?_
    have fv28 := f_imul ev28
    (try simp only [Int32.reduceToInt] at fv28)
    have rv28 := rng32 v28
    refine go_iload K H27 d11_472 rfl ?_
    refine go_iadd K H27 d11_474 fun v29 ev29 => ?_
    have fv29 := f_iadd ev29
    (try simp only [Int32.reduceToInt] at fv29)
    have rv29 := rng32 v29
    refine go_bipush (7) K H27 d11_475 (by decide) ?_
    refine go_irem K H27 d11_477 (by decide) fun v30 ev30 => ?_
    have fv30 := f_irem 7 ev30 (by decide)
    (try simp only [Int32.reduceToInt] at fv30)
    replace fv30 := fv30.1 (by omega)
    obtain ⟨d5, ld5, ed5⟩ := oN_of (v := v30) (N := 7) (by omega) (by omega) (by decide)
    subst ed5
    refine go_iastore (5) K H27 d11_478 (D) (by decide) (by simp) (l10) fun T31 h31 H31 W31 => ?_
    replace D : IA Z h31 d [oN d0, oN d1, oN d2, oN d3, oN d4, oN d5, 0] := IA.set D W31; replace SF := SF.wr W31; replace AF := AF.other W31 (ne_lt hfa l10)
    refine go_aload K H31 d11_479 rfl rfl ?_
    refine go_bipush (6) K H31 d11_481 (by decide) ?_
    refine go_bipush (6) K H31 d11_483 (by decide) ?_
    refine go_iload K H31 d11_485 rfl ?_
    refine go_imul K H31 d11_487 fun v32 ev32 => ?_
    have fv32 := f_imul ev32
    (try simp only [Int32.reduceToInt] at fv32)
    have rv32 := rng32 v32
    refine go_iload K H31 d11_488 rfl ?_
    refine go_iadd K H31 d11_490 fun v33 ev33 => ?_
    have fv33 := f_iadd ev33
    (try simp only [Int32.reduceToInt] at fv33)
    have rv33 := rng32 v33
    refine go_bipush (7) K H31 d11_491 (by decide) ?_
    refine go_irem K H31 d11_493 (by decide) fun v34 ev34 => ?_
    have fv34 := f_irem 7 ev34 (by decide)
    (try simp only [Int32.reduceToInt] at fv34)
    replace fv34 := fv34.1 (by omega)
    obtain ⟨d6, ld6, ed6⟩ := oN_of (v := v34) (N := 7) (by omega) (by omega) (by decide)
    subst ed6
    refine go_iastore (6) K H31 d11_494 (D) (by decide) (by simp) (l10) fun T35 h35 H35 W35 => ?_
    replace D : IA Z h35 d [oN d0, oN d1, oN d2, oN d3, oN d4, oN d5, oN d6] := IA.set D W35; replace SF := SF.wr W35; replace AF := AF.other W35 (ne_lt hfa l10)
    subst es
    clear fv1 fv2 fv3 fv4 fv5 fv6 rv6 fv7 fv8 fv9 rv9 fv11 fv13 rv13 fv14 fv16 rv16 fv17 rv17 fv18 fv20 rv20 fv21 rv21 fv22 fv24 rv24 fv25 rv25 fv26 fv28 rv28 fv29 rv29 fv30 fv32 rv32 fv33 rv33 fv34
    show Go w _ _ 495 #[.val (.int u0), .val (.int u1), .val (.int u2), .val (.int u3), .val (.int v3), .val (.int v6), .val (.int (oN sN)), .val (.ref d), .unset, .unset, .unset, .unset] []
    refine go_new K H35 d11_495 (hw _ (List.mem_of_getElem? (i := 2) rfl)) (hw _ (List.mem_of_getElem? (i := 3) rfl)) (hw _ (List.mem_of_getElem? (i := 4) rfl)) (by decide) (by decide) fun T36 h36 a H36 g36 l36 E36 A36 D36 => ?_
    have nda : d ≠ a := Nat.ne_of_lt (g36 ▸ D.lt)
    have dlt := D.lt
    replace D := D.ext E36; replace SF := SF.ext E36; replace AF := AF.ext E36
    refine go_dup K H36 d11_498 rfl ?_
    refine go_bipush (7) K H36 d11_499 (by decide) ?_
    refine go_callI [(.int 7)] K H36 d11_501 rfl (hw _ (List.mem_of_getElem? (i := 5) rfl)) (hw _ (List.mem_of_getElem? (i := 6) rfl)) (hw _ (List.mem_of_getElem? (i := 4) rfl)) (hw _ (List.mem_of_getElem? (i := 7) rfl)) (st' := [(.ref a)]) (by decide) (rmI7 Z a0 hw _ _ n0 (at_size K H36) _ _ _ fa (D36 (Or.inr (hw _ (List.mem_of_getElem? (i := 12) rfl))) (ty := .int) (by decide)) (D36 (Or.inr (hw _ (List.mem_of_getElem? (i := 15) rfl))) (ty := (.array .long)) (by decide)) (D36 (Or.inr (hw _ (List.mem_of_getElem? (i := 17) rfl))) (ty := (.array .long)) (by decide)) (D36 (Or.inl (hw _ (List.mem_of_getElem? (i := 24) rfl))) (ty := .long) (by decide)) A36 l36 SF AF hfa) pd2 rfl rfl rfl (by decide) (W := 1) rfl (by decide) (by decide) (by decide) fun T37 h37 v37 H37 q37 => ?_
    obtain ⟨rfl, p, gp, hp, nep, O, P, K1⟩ := q37
    show Go w _ _ 504 #[.val (.int u0), .val (.int u1), .val (.int u2), .val (.int u3), .val (.int v3), .val (.int v6), .val (.int (oN sN)), .val (.ref d), .unset, .unset, .unset, .unset] [(.ref a)]
    have ndp : d ≠ p := Nat.ne_of_lt (Nat.lt_of_lt_of_le D.lt hp)
    replace D := D.keep K1 (ninS nda nin0)
    refine go_astore K H37 d11_504 rfl (L' := #[.val (.int u0), .val (.int u1), .val (.int u2), .val (.int u3), .val (.int v3), .val (.int v6), .val (.int (oN sN)), .val (.ref d), .val (.ref a), .unset, .unset, .unset]) rfl ?_
    refine go_aload K H37 d11_506 rfl rfl ?_
    refine go_aload K H37 d11_508 rfl rfl ?_
    refine go_callV [(.ref d)] K H37 d11_510 (O.1) (hw _ (List.mem_of_getElem? (i := 18) rfl)) (hw _ (List.mem_of_getElem? (i := 19) rfl)) (nf_sel (hw _ (List.mem_of_getElem? (i := 21) rfl))) (hw _ (List.mem_of_getElem? (i := 21) rfl)) (hw _ (List.mem_of_getElem? (i := 20) rfl)) (hw _ (List.mem_of_getElem? (i := 4) rfl)) (hw _ (List.mem_of_getElem? (i := 22) rfl)) (st' := []) (by decide) (rmA7 Z a0 hw _ _ _ n0 (at_size K H37) _ _ _ _ _ _ _ _ _ _  O P D (by simp) ld0 ld1 ld2 ld3 ld4 ld5 ld6 nep ndp l36 gp) pd3 rfl rfl rfl (by decide) (W := 0) rfl (by decide) (by decide) (by decide) fun T38 h38 v38 H38 q38 => ?_
    obtain ⟨rfl, O1, P1, K2⟩ := q38
    show Go w _ _ 513 #[.val (.int u0), .val (.int u1), .val (.int u2), .val (.int u3), .val (.int v3), .val (.int v6), .val (.int (oN sN)), .val (.ref d), .val (.ref a), .unset, .unset, .unset] []
    replace D := D.keep K2 (ninS nda (ninS ndp nin0))
    refine go_aload K H38 d11_513 rfl rfl ?_
    refine go_callV [] K H38 d11_515 (O1.1) (hw _ (List.mem_of_getElem? (i := 25) rfl)) (hw _ (List.mem_of_getElem? (i := 26) rfl)) (nf_sel (hw _ (List.mem_of_getElem? (i := 28) rfl))) (hw _ (List.mem_of_getElem? (i := 28) rfl)) (hw _ (List.mem_of_getElem? (i := 27) rfl)) (hw _ (List.mem_of_getElem? (i := 4) rfl)) (hw _ (List.mem_of_getElem? (i := 29) rfl)) (st' := []) (by decide) (rmD Z a0 hw _ _ n0 (at_size K H38) _ _ _ rfl _ O1) pd4 rfl rfl rfl (by decide) (W := 0) rfl (by decide) (by decide) (by decide) fun T39 h39 v39 H39 q39 => ?_
    obtain ⟨z39, rfl, ec, rfl⟩ := q39
    show Go w _ _ 518 #[.val (.int u0), .val (.int u1), .val (.int u2), .val (.int u3), .val (.int v3), .val (.int v6), .val (.int (oN sN)), .val (.ref d), .val (.ref a), .unset, .unset, .unset] [(.long z39)]
    refine go_lconst 1 K H39 d11_518 (by decide) ?_
    refine go_lcmp K H39 d11_519 fun v40 ev40 => ?_
    have fv40 := f_lcmp ev40
    (try simp only [Int32.reduceToInt] at fv40)
    refine go_if_eq K H39 d11_520 (fun cc => ?_) (fun cc => False.elim (by exact cc (by rw [ev40, ec]; exact (lw_eq _ _).mpr (by decide))))
    refine go_aload K H39 d11_525 rfl rfl ?_
    refine go_callV [] K H39 d11_527 (O1.1) (hw _ (List.mem_of_getElem? (i := 30) rfl)) (hw _ (List.mem_of_getElem? (i := 31) rfl)) (nf_sel (hw _ (List.mem_of_getElem? (i := 33) rfl))) (hw _ (List.mem_of_getElem? (i := 33) rfl)) (hw _ (List.mem_of_getElem? (i := 32) rfl)) (hw _ (List.mem_of_getElem? (i := 4) rfl)) (hw _ (List.mem_of_getElem? (i := 34) rfl)) (st' := []) (by decide) (rmO Z a0 hw _ _ n0 (at_size K H39) _ _ _ rfl _ O1) pd5 rfl rfl rfl (by decide) (W := 0) rfl (by decide) (by decide) (by decide) fun T41 h41 v41 H41 q41 => ?_
    obtain ⟨z41, rfl, hz41, eo, rfl⟩ := q41
    show Go w _ _ 530 #[.val (.int u0), .val (.int u1), .val (.int u2), .val (.int u3), .val (.int v3), .val (.int v6), .val (.int (oN sN)), .val (.ref d), .val (.ref a), .unset, .unset, .unset] [z41]
    subst eo
    show Go w _ _ 530 #[.val (.int u0), .val (.int u1), .val (.int u2), .val (.int u3), .val (.int v3), .val (.int v6), .val (.int (oN sN)), .val (.ref d), .val (.ref a), .unset, .unset, .unset] [.null]
    refine go_ifnull_yes K H41 d11_530 ?_
    refine go_aload K H41 d11_535 rfl rfl ?_
    refine go_callV [] K H41 d11_537 (O1.1) (hw _ (List.mem_of_getElem? (i := 35) rfl)) (hw _ (List.mem_of_getElem? (i := 36) rfl)) (nf_sel (hw _ (List.mem_of_getElem? (i := 38) rfl))) (hw _ (List.mem_of_getElem? (i := 38) rfl)) (hw _ (List.mem_of_getElem? (i := 37) rfl)) (hw _ (List.mem_of_getElem? (i := 4) rfl)) (hw _ (List.mem_of_getElem? (i := 39) rfl)) (st' := []) (by decide) (rmP Z a0 hw _ _ n0 (at_size K H41) _ _ _ rfl _ O1) pd5 rfl rfl rfl (by decide) (W := 0) rfl (by decide) (by decide) (by decide) fun T42 h42 v42 H42 q42 => ?_
    obtain ⟨z42, rfl, hz42, ep, rfl⟩ := q42
    show Go w _ _ 540 #[.val (.int u0), .val (.int u1), .val (.int u2), .val (.int u3), .val (.int v3), .val (.int v6), .val (.int (oN sN)), .val (.ref d), .val (.ref a), .unset, .unset, .unset] [z42]
    subst ep
    show Go w _ _ 540 #[.val (.int u0), .val (.int u1), .val (.int u2), .val (.int u3), .val (.int v3), .val (.int v6), .val (.int (oN sN)), .val (.ref d), .val (.ref a), .unset, .unset, .unset] [(.ref p)]
    refine go_astore K H42 d11_540 rfl (L' := #[.val (.int u0), .val (.int u1), .val (.int u2), .val (.int u3), .val (.int v3), .val (.int v6), .val (.int (oN sN)), .val (.ref d), .val (.ref a), .val (.ref p), .unset, .unset]) rfl ?_
    refine go_aload K H42 d11_542 rfl rfl ?_
    refine go_ifnull_no K H42 d11_544 ?_
    refine go_aload K H42 d11_547 rfl rfl ?_
    refine go_arraylength K H42 d11_549 (P1) fun v43 ev43 => ?_
    refine go_bipush (49) K H42 d11_550 (by decide) ?_
    refine go_icmp_eq K H42 d11_552 (fun cc => ?_) (fun cc => False.elim (by rw [List.length_map] at ev43; simp only [add7, inc_len, List.length_replicate] at ev43; exact cc (Int32.toInt_inj.mp ev43)))
    refine go_aload K H42 d11_557 rfl rfl ?_
    refine go_aload K H42 d11_559 rfl rfl ?_
    refine go_iconst (0) K H42 d11_561 (by decide) ?_
    refine go_iload K H42 d11_562 rfl ?_
    show Go w _ _ 564 #[.val (.int u0), .val (.int u1), .val (.int u2), .val (.int u3), .val (.int v3), .val (.int v6), .val (.int (oN sN)), .val (.ref d), .val (.ref a), .val (.ref p), .unset, .unset] [(.int (oN sN)), (.int (oN 0)), (.ref d), (.ref p)]
    refine go_callS [(.ref p), (.ref d), (.int (oN 0)), (.int (oN sN))] K H42 d11_564 (hw _ (List.mem_of_getElem? (i := 40) rfl)) (hw _ (List.mem_of_getElem? (i := 41) rfl)) (hw _ (List.mem_of_getElem? (i := 42) rfl)) (hw _ (List.mem_of_getElem? (i := 43) rfl)) (st' := []) (by decide) (rmC Z a0 hw _ _ _ n0 (at_size K H42) 0 sN d0 _ [d0, d1, d2, d3, d4, d5, d6] P1 D rfl ld0 (by decide) hsN (by rw [add7_get ld0 ld1 ld2 ld3 ld4 ld5 ld6 (zC ld0 (by decide)), if_pos rfl, if_neg (zA (a := d0) (b := d1) (k := 0) (i := 1) (by decide) (by decide) (by decide)), if_neg (zA (a := d0) (b := d2) (k := 0) (i := 2) (by decide) (by decide) (by decide)), if_neg (zA (a := d0) (b := d3) (k := 0) (i := 3) (by decide) (by decide) (by decide)), if_neg (zA (a := d0) (b := d4) (k := 0) (i := 4) (by decide) (by decide) (by decide)), if_neg (zA (a := d0) (b := d5) (k := 0) (i := 5) (by decide) (by decide) (by decide)), if_neg (zA (a := d0) (b := d6) (k := 0) (i := 6) (by decide) (by decide) (by decide))]; rfl) (by rw [add7_get ld0 ld1 ld2 ld3 ld4 ld5 ld6 (zD (by decide)), if_neg (zB (k := 0) ld0 hs1 hsN), if_neg (zA (a := (d0 + sN) % 7) (b := d1) (k := 0) (i := 1) (by decide) (by decide) (by decide)), if_neg (zA (a := (d0 + sN) % 7) (b := d2) (k := 0) (i := 2) (by decide) (by decide) (by decide)), if_neg (zA (a := (d0 + sN) % 7) (b := d3) (k := 0) (i := 3) (by decide) (by decide) (by decide)), if_neg (zA (a := (d0 + sN) % 7) (b := d4) (k := 0) (i := 4) (by decide) (by decide) (by decide)), if_neg (zA (a := (d0 + sN) % 7) (b := d5) (k := 0) (i := 5) (by decide) (by decide) (by decide)), if_neg (zA (a := (d0 + sN) % 7) (b := d6) (k := 0) (i := 6) (by decide) (by decide) (by decide))]; rfl)) pd6 rfl rfl rfl (by decide) (W := 0) rfl (by decide) (by decide) (by decide) fun T44 h44 v44 H44 q44 => ?_
    obtain ⟨z44, rfl, ez, rfl⟩ := q44
    show Go w _ _ 567 #[.val (.int u0), .val (.int u1), .val (.int u2), .val (.int u3), .val (.int v3), .val (.int v6), .val (.int (oN sN)), .val (.ref d), .val (.ref a), .val (.ref p), .unset, .unset] [(.int z44)]
    refine go_if_eq K H44 d11_567 (fun cc => False.elim (by rw [ez] at cc; exact absurd cc (by decide))) (fun cc => ?_)
    refine go_aload K H44 d11_570 rfl rfl ?_
    refine go_aload K H44 d11_572 rfl rfl ?_
    refine go_iconst (1) K H44 d11_574 (by decide) ?_
    refine go_iload K H44 d11_575 rfl ?_
    show Go w _ _ 577 #[.val (.int u0), .val (.int u1), .val (.int u2), .val (.int u3), .val (.int v3), .val (.int v6), .val (.int (oN sN)), .val (.ref d), .val (.ref a), .val (.ref p), .unset, .unset] [(.int (oN sN)), (.int (oN 1)), (.ref d), (.ref p)]
    refine go_callS [(.ref p), (.ref d), (.int (oN 1)), (.int (oN sN))] K H44 d11_577 (hw _ (List.mem_of_getElem? (i := 40) rfl)) (hw _ (List.mem_of_getElem? (i := 41) rfl)) (hw _ (List.mem_of_getElem? (i := 42) rfl)) (hw _ (List.mem_of_getElem? (i := 43) rfl)) (st' := []) (by decide) (rmC Z a0 hw _ _ _ n0 (at_size K H44) 1 sN d1 _ [d0, d1, d2, d3, d4, d5, d6] P1 D rfl ld1 (by decide) hsN (by rw [add7_get ld0 ld1 ld2 ld3 ld4 ld5 ld6 (zC ld1 (by decide)), if_pos rfl, if_neg (zA (a := d1) (b := d0) (k := 1) (i := 0) (by decide) (by decide) (by decide)), if_neg (zA (a := d1) (b := d2) (k := 1) (i := 2) (by decide) (by decide) (by decide)), if_neg (zA (a := d1) (b := d3) (k := 1) (i := 3) (by decide) (by decide) (by decide)), if_neg (zA (a := d1) (b := d4) (k := 1) (i := 4) (by decide) (by decide) (by decide)), if_neg (zA (a := d1) (b := d5) (k := 1) (i := 5) (by decide) (by decide) (by decide)), if_neg (zA (a := d1) (b := d6) (k := 1) (i := 6) (by decide) (by decide) (by decide))]; rfl) (by rw [add7_get ld0 ld1 ld2 ld3 ld4 ld5 ld6 (zD (by decide)), if_neg (zA (a := (d1 + sN) % 7) (b := d0) (k := 1) (i := 0) (by decide) (by decide) (by decide)), if_neg (zB (k := 1) ld1 hs1 hsN), if_neg (zA (a := (d1 + sN) % 7) (b := d2) (k := 1) (i := 2) (by decide) (by decide) (by decide)), if_neg (zA (a := (d1 + sN) % 7) (b := d3) (k := 1) (i := 3) (by decide) (by decide) (by decide)), if_neg (zA (a := (d1 + sN) % 7) (b := d4) (k := 1) (i := 4) (by decide) (by decide) (by decide)), if_neg (zA (a := (d1 + sN) % 7) (b := d5) (k := 1) (i := 5) (by decide) (by decide) (by decide)), if_neg (zA (a := (d1 + sN) % 7) (b := d6) (k := 1) (i := 6) (by decide) (by decide) (by decide))]; rfl)) pd6 rfl rfl rfl (by decide) (W := 0) rfl (by decide) (by decide) (by decide) fun T45 h45 v45 H45 q45 => ?_
    obtain ⟨z45, rfl, ez, rfl⟩ := q45
    show Go w _ _ 580 #[.val (.int u0), .val (.int u1), .val (.int u2), .val (.int u3), .val (.int v3), .val (.int v6), .val (.int (oN sN)), .val (.ref d), .val (.ref a), .val (.ref p), .unset, .unset] [(.int z45)]
    refine go_if_eq K H45 d11_580 (fun cc => False.elim (by rw [ez] at cc; exact absurd cc (by decide))) (fun cc => ?_)
    refine go_aload K H45 d11_583 rfl rfl ?_
    refine go_aload K H45 d11_585 rfl rfl ?_
    refine go_iconst (2) K H45 d11_587 (by decide) ?_
    refine go_iload K H45 d11_588 rfl ?_
    show Go w _ _ 590 #[.val (.int u0), .val (.int u1), .val (.int u2), .val (.int u3), .val (.int v3), .val (.int v6), .val (.int (oN sN)), .val (.ref d), .val (.ref a), .val (.ref p), .unset, .unset] [(.int (oN sN)), (.int (oN 2)), (.ref d), (.ref p)]
    refine go_callS [(.ref p), (.ref d), (.int (oN 2)), (.int (oN sN))] K H45 d11_590 (hw _ (List.mem_of_getElem? (i := 40) rfl)) (hw _ (List.mem_of_getElem? (i := 41) rfl)) (hw _ (List.mem_of_getElem? (i := 42) rfl)) (hw _ (List.mem_of_getElem? (i := 43) rfl)) (st' := []) (by decide) (rmC Z a0 hw _ _ _ n0 (at_size K H45) 2 sN d2 _ [d0, d1, d2, d3, d4, d5, d6] P1 D rfl ld2 (by decide) hsN (by rw [add7_get ld0 ld1 ld2 ld3 ld4 ld5 ld6 (zC ld2 (by decide)), if_pos rfl, if_neg (zA (a := d2) (b := d0) (k := 2) (i := 0) (by decide) (by decide) (by decide)), if_neg (zA (a := d2) (b := d1) (k := 2) (i := 1) (by decide) (by decide) (by decide)), if_neg (zA (a := d2) (b := d3) (k := 2) (i := 3) (by decide) (by decide) (by decide)), if_neg (zA (a := d2) (b := d4) (k := 2) (i := 4) (by decide) (by decide) (by decide)), if_neg (zA (a := d2) (b := d5) (k := 2) (i := 5) (by decide) (by decide) (by decide)), if_neg (zA (a := d2) (b := d6) (k := 2) (i := 6) (by decide) (by decide) (by decide))]; rfl) (by rw [add7_get ld0 ld1 ld2 ld3 ld4 ld5 ld6 (zD (by decide)), if_neg (zA (a := (d2 + sN) % 7) (b := d0) (k := 2) (i := 0) (by decide) (by decide) (by decide)), if_neg (zA (a := (d2 + sN) % 7) (b := d1) (k := 2) (i := 1) (by decide) (by decide) (by decide)), if_neg (zB (k := 2) ld2 hs1 hsN), if_neg (zA (a := (d2 + sN) % 7) (b := d3) (k := 2) (i := 3) (by decide) (by decide) (by decide)), if_neg (zA (a := (d2 + sN) % 7) (b := d4) (k := 2) (i := 4) (by decide) (by decide) (by decide)), if_neg (zA (a := (d2 + sN) % 7) (b := d5) (k := 2) (i := 5) (by decide) (by decide) (by decide)), if_neg (zA (a := (d2 + sN) % 7) (b := d6) (k := 2) (i := 6) (by decide) (by decide) (by decide))]; rfl)) pd6 rfl rfl rfl (by decide) (W := 0) rfl (by decide) (by decide) (by decide) fun T46 h46 v46 H46 q46 => ?_
    obtain ⟨z46, rfl, ez, rfl⟩ := q46
    show Go w _ _ 593 #[.val (.int u0), .val (.int u1), .val (.int u2), .val (.int u3), .val (.int v3), .val (.int v6), .val (.int (oN sN)), .val (.ref d), .val (.ref a), .val (.ref p), .unset, .unset] [(.int z46)]
    refine go_if_eq K H46 d11_593 (fun cc => False.elim (by rw [ez] at cc; exact absurd cc (by decide))) (fun cc => ?_)
    refine go_aload K H46 d11_596 rfl rfl ?_
    refine go_aload K H46 d11_598 rfl rfl ?_
    refine go_iconst (3) K H46 d11_600 (by decide) ?_
    refine go_iload K H46 d11_601 rfl ?_
    show Go w _ _ 603 #[.val (.int u0), .val (.int u1), .val (.int u2), .val (.int u3), .val (.int v3), .val (.int v6), .val (.int (oN sN)), .val (.ref d), .val (.ref a), .val (.ref p), .unset, .unset] [(.int (oN sN)), (.int (oN 3)), (.ref d), (.ref p)]
    refine go_callS [(.ref p), (.ref d), (.int (oN 3)), (.int (oN sN))] K H46 d11_603 (hw _ (List.mem_of_getElem? (i := 40) rfl)) (hw _ (List.mem_of_getElem? (i := 41) rfl)) (hw _ (List.mem_of_getElem? (i := 42) rfl)) (hw _ (List.mem_of_getElem? (i := 43) rfl)) (st' := []) (by decide) (rmC Z a0 hw _ _ _ n0 (at_size K H46) 3 sN d3 _ [d0, d1, d2, d3, d4, d5, d6] P1 D rfl ld3 (by decide) hsN (by rw [add7_get ld0 ld1 ld2 ld3 ld4 ld5 ld6 (zC ld3 (by decide)), if_pos rfl, if_neg (zA (a := d3) (b := d0) (k := 3) (i := 0) (by decide) (by decide) (by decide)), if_neg (zA (a := d3) (b := d1) (k := 3) (i := 1) (by decide) (by decide) (by decide)), if_neg (zA (a := d3) (b := d2) (k := 3) (i := 2) (by decide) (by decide) (by decide)), if_neg (zA (a := d3) (b := d4) (k := 3) (i := 4) (by decide) (by decide) (by decide)), if_neg (zA (a := d3) (b := d5) (k := 3) (i := 5) (by decide) (by decide) (by decide)), if_neg (zA (a := d3) (b := d6) (k := 3) (i := 6) (by decide) (by decide) (by decide))]; rfl) (by rw [add7_get ld0 ld1 ld2 ld3 ld4 ld5 ld6 (zD (by decide)), if_neg (zA (a := (d3 + sN) % 7) (b := d0) (k := 3) (i := 0) (by decide) (by decide) (by decide)), if_neg (zA (a := (d3 + sN) % 7) (b := d1) (k := 3) (i := 1) (by decide) (by decide) (by decide)), if_neg (zA (a := (d3 + sN) % 7) (b := d2) (k := 3) (i := 2) (by decide) (by decide) (by decide)), if_neg (zB (k := 3) ld3 hs1 hsN), if_neg (zA (a := (d3 + sN) % 7) (b := d4) (k := 3) (i := 4) (by decide) (by decide) (by decide)), if_neg (zA (a := (d3 + sN) % 7) (b := d5) (k := 3) (i := 5) (by decide) (by decide) (by decide)), if_neg (zA (a := (d3 + sN) % 7) (b := d6) (k := 3) (i := 6) (by decide) (by decide) (by decide))]; rfl)) pd6 rfl rfl rfl (by decide) (W := 0) rfl (by decide) (by decide) (by decide) fun T47 h47 v47 H47 q47 => ?_
    obtain ⟨z47, rfl, ez, rfl⟩ := q47
    show Go w _ _ 606 #[.val (.int u0), .val (.int u1), .val (.int u2), .val (.int u3), .val (.int v3), .val (.int v6), .val (.int (oN sN)), .val (.ref d), .val (.ref a), .val (.ref p), .unset, .unset] [(.int z47)]
    refine go_if_eq K H47 d11_606 (fun cc => False.elim (by rw [ez] at cc; exact absurd cc (by decide))) (fun cc => ?_)
    refine go_aload K H47 d11_609 rfl rfl ?_
    refine go_aload K H47 d11_611 rfl rfl ?_
    refine go_iconst (4) K H47 d11_613 (by decide) ?_
    refine go_iload K H47 d11_614 rfl ?_
    show Go w _ _ 616 #[.val (.int u0), .val (.int u1), .val (.int u2), .val (.int u3), .val (.int v3), .val (.int v6), .val (.int (oN sN)), .val (.ref d), .val (.ref a), .val (.ref p), .unset, .unset] [(.int (oN sN)), (.int (oN 4)), (.ref d), (.ref p)]
    refine go_callS [(.ref p), (.ref d), (.int (oN 4)), (.int (oN sN))] K H47 d11_616 (hw _ (List.mem_of_getElem? (i := 40) rfl)) (hw _ (List.mem_of_getElem? (i := 41) rfl)) (hw _ (List.mem_of_getElem? (i := 42) rfl)) (hw _ (List.mem_of_getElem? (i := 43) rfl)) (st' := []) (by decide) (rmC Z a0 hw _ _ _ n0 (at_size K H47) 4 sN d4 _ [d0, d1, d2, d3, d4, d5, d6] P1 D rfl ld4 (by decide) hsN (by rw [add7_get ld0 ld1 ld2 ld3 ld4 ld5 ld6 (zC ld4 (by decide)), if_pos rfl, if_neg (zA (a := d4) (b := d0) (k := 4) (i := 0) (by decide) (by decide) (by decide)), if_neg (zA (a := d4) (b := d1) (k := 4) (i := 1) (by decide) (by decide) (by decide)), if_neg (zA (a := d4) (b := d2) (k := 4) (i := 2) (by decide) (by decide) (by decide)), if_neg (zA (a := d4) (b := d3) (k := 4) (i := 3) (by decide) (by decide) (by decide)), if_neg (zA (a := d4) (b := d5) (k := 4) (i := 5) (by decide) (by decide) (by decide)), if_neg (zA (a := d4) (b := d6) (k := 4) (i := 6) (by decide) (by decide) (by decide))]; rfl) (by rw [add7_get ld0 ld1 ld2 ld3 ld4 ld5 ld6 (zD (by decide)), if_neg (zA (a := (d4 + sN) % 7) (b := d0) (k := 4) (i := 0) (by decide) (by decide) (by decide)), if_neg (zA (a := (d4 + sN) % 7) (b := d1) (k := 4) (i := 1) (by decide) (by decide) (by decide)), if_neg (zA (a := (d4 + sN) % 7) (b := d2) (k := 4) (i := 2) (by decide) (by decide) (by decide)), if_neg (zA (a := (d4 + sN) % 7) (b := d3) (k := 4) (i := 3) (by decide) (by decide) (by decide)), if_neg (zB (k := 4) ld4 hs1 hsN), if_neg (zA (a := (d4 + sN) % 7) (b := d5) (k := 4) (i := 5) (by decide) (by decide) (by decide)), if_neg (zA (a := (d4 + sN) % 7) (b := d6) (k := 4) (i := 6) (by decide) (by decide) (by decide))]; rfl)) pd6 rfl rfl rfl (by decide) (W := 0) rfl (by decide) (by decide) (by decide) fun T48 h48 v48 H48 q48 => ?_
    obtain ⟨z48, rfl, ez, rfl⟩ := q48
    show Go w _ _ 619 #[.val (.int u0), .val (.int u1), .val (.int u2), .val (.int u3), .val (.int v3), .val (.int v6), .val (.int (oN sN)), .val (.ref d), .val (.ref a), .val (.ref p), .unset, .unset] [(.int z48)]
    refine go_if_eq K H48 d11_619 (fun cc => False.elim (by rw [ez] at cc; exact absurd cc (by decide))) (fun cc => ?_)
    refine go_aload K H48 d11_622 rfl rfl ?_
    refine go_aload K H48 d11_624 rfl rfl ?_
    refine go_iconst (5) K H48 d11_626 (by decide) ?_
    refine go_iload K H48 d11_627 rfl ?_
    show Go w _ _ 629 #[.val (.int u0), .val (.int u1), .val (.int u2), .val (.int u3), .val (.int v3), .val (.int v6), .val (.int (oN sN)), .val (.ref d), .val (.ref a), .val (.ref p), .unset, .unset] [(.int (oN sN)), (.int (oN 5)), (.ref d), (.ref p)]
    refine go_callS [(.ref p), (.ref d), (.int (oN 5)), (.int (oN sN))] K H48 d11_629 (hw _ (List.mem_of_getElem? (i := 40) rfl)) (hw _ (List.mem_of_getElem? (i := 41) rfl)) (hw _ (List.mem_of_getElem? (i := 42) rfl)) (hw _ (List.mem_of_getElem? (i := 43) rfl)) (st' := []) (by decide) (rmC Z a0 hw _ _ _ n0 (at_size K H48) 5 sN d5 _ [d0, d1, d2, d3, d4, d5, d6] P1 D rfl ld5 (by decide) hsN (by rw [add7_get ld0 ld1 ld2 ld3 ld4 ld5 ld6 (zC ld5 (by decide)), if_pos rfl, if_neg (zA (a := d5) (b := d0) (k := 5) (i := 0) (by decide) (by decide) (by decide)), if_neg (zA (a := d5) (b := d1) (k := 5) (i := 1) (by decide) (by decide) (by decide)), if_neg (zA (a := d5) (b := d2) (k := 5) (i := 2) (by decide) (by decide) (by decide)), if_neg (zA (a := d5) (b := d3) (k := 5) (i := 3) (by decide) (by decide) (by decide)), if_neg (zA (a := d5) (b := d4) (k := 5) (i := 4) (by decide) (by decide) (by decide)), if_neg (zA (a := d5) (b := d6) (k := 5) (i := 6) (by decide) (by decide) (by decide))]; rfl) (by rw [add7_get ld0 ld1 ld2 ld3 ld4 ld5 ld6 (zD (by decide)), if_neg (zA (a := (d5 + sN) % 7) (b := d0) (k := 5) (i := 0) (by decide) (by decide) (by decide)), if_neg (zA (a := (d5 + sN) % 7) (b := d1) (k := 5) (i := 1) (by decide) (by decide) (by decide)), if_neg (zA (a := (d5 + sN) % 7) (b := d2) (k := 5) (i := 2) (by decide) (by decide) (by decide)), if_neg (zA (a := (d5 + sN) % 7) (b := d3) (k := 5) (i := 3) (by decide) (by decide) (by decide)), if_neg (zA (a := (d5 + sN) % 7) (b := d4) (k := 5) (i := 4) (by decide) (by decide) (by decide)), if_neg (zB (k := 5) ld5 hs1 hsN), if_neg (zA (a := (d5 + sN) % 7) (b := d6) (k := 5) (i := 6) (by decide) (by decide) (by decide))]; rfl)) pd6 rfl rfl rfl (by decide) (W := 0) rfl (by decide) (by decide) (by decide) fun T49 h49 v49 H49 q49 => ?_
    obtain ⟨z49, rfl, ez, rfl⟩ := q49
    show Go w _ _ 632 #[.val (.int u0), .val (.int u1), .val (.int u2), .val (.int u3), .val (.int v3), .val (.int v6), .val (.int (oN sN)), .val (.ref d), .val (.ref a), .val (.ref p), .unset, .unset] [(.int z49)]
    refine go_if_eq K H49 d11_632 (fun cc => False.elim (by rw [ez] at cc; exact absurd cc (by decide))) (fun cc => ?_)
    refine go_aload K H49 d11_635 rfl rfl ?_
    refine go_aload K H49 d11_637 rfl rfl ?_
    refine go_bipush (6) K H49 d11_639 (by decide) ?_
    refine go_iload K H49 d11_641 rfl ?_
    show Go w _ _ 643 #[.val (.int u0), .val (.int u1), .val (.int u2), .val (.int u3), .val (.int v3), .val (.int v6), .val (.int (oN sN)), .val (.ref d), .val (.ref a), .val (.ref p), .unset, .unset] [(.int (oN sN)), (.int (oN 6)), (.ref d), (.ref p)]
    refine go_callS [(.ref p), (.ref d), (.int (oN 6)), (.int (oN sN))] K H49 d11_643 (hw _ (List.mem_of_getElem? (i := 40) rfl)) (hw _ (List.mem_of_getElem? (i := 41) rfl)) (hw _ (List.mem_of_getElem? (i := 42) rfl)) (hw _ (List.mem_of_getElem? (i := 43) rfl)) (st' := []) (by decide) (rmC Z a0 hw _ _ _ n0 (at_size K H49) 6 sN d6 _ [d0, d1, d2, d3, d4, d5, d6] P1 D rfl ld6 (by decide) hsN (by rw [add7_get ld0 ld1 ld2 ld3 ld4 ld5 ld6 (zC ld6 (by decide)), if_pos rfl, if_neg (zA (a := d6) (b := d0) (k := 6) (i := 0) (by decide) (by decide) (by decide)), if_neg (zA (a := d6) (b := d1) (k := 6) (i := 1) (by decide) (by decide) (by decide)), if_neg (zA (a := d6) (b := d2) (k := 6) (i := 2) (by decide) (by decide) (by decide)), if_neg (zA (a := d6) (b := d3) (k := 6) (i := 3) (by decide) (by decide) (by decide)), if_neg (zA (a := d6) (b := d4) (k := 6) (i := 4) (by decide) (by decide) (by decide)), if_neg (zA (a := d6) (b := d5) (k := 6) (i := 5) (by decide) (by decide) (by decide))]; rfl) (by rw [add7_get ld0 ld1 ld2 ld3 ld4 ld5 ld6 (zD (by decide)), if_neg (zA (a := (d6 + sN) % 7) (b := d0) (k := 6) (i := 0) (by decide) (by decide) (by decide)), if_neg (zA (a := (d6 + sN) % 7) (b := d1) (k := 6) (i := 1) (by decide) (by decide) (by decide)), if_neg (zA (a := (d6 + sN) % 7) (b := d2) (k := 6) (i := 2) (by decide) (by decide) (by decide)), if_neg (zA (a := (d6 + sN) % 7) (b := d3) (k := 6) (i := 3) (by decide) (by decide) (by decide)), if_neg (zA (a := (d6 + sN) % 7) (b := d4) (k := 6) (i := 4) (by decide) (by decide) (by decide)), if_neg (zA (a := (d6 + sN) % 7) (b := d5) (k := 6) (i := 5) (by decide) (by decide) (by decide)), if_neg (zB (k := 6) ld6 hs1 hsN)]; rfl)) pd6 rfl rfl rfl (by decide) (W := 0) rfl (by decide) (by decide) (by decide) fun T50 h50 v50 H50 q50 => ?_
    obtain ⟨z50, rfl, ez, rfl⟩ := q50
    show Go w _ _ 646 #[.val (.int u0), .val (.int u1), .val (.int u2), .val (.int u3), .val (.int v3), .val (.int v6), .val (.int (oN sN)), .val (.ref d), .val (.ref a), .val (.ref p), .unset, .unset] [(.int z50)]
    refine go_if_eq K H50 d11_646 (fun cc => False.elim (by rw [ez] at cc; exact absurd cc (by decide))) (fun cc => ?_)
    refine go_iconst (1) K H50 d11_649 (by decide) ?_
    refine go_goto K H50 d11_650 ?_
    exact go_zret K H50 d11_654 rfl (by decide) (by decide) (by decide) (rfl)
  · refine go_iloadN K H d11_6 rfl ?_
    refine go_ldcI (2147483647) K H d11_7 (hw _ (List.mem_of_getElem? (i := 0) rfl)) ?_
    refine go_iand K H d11_9 fun v51 ev51 => ?_
    have fv51 := f_mask 2147483648 31 ev51 (by decide) (by decide) (by decide)
    refine go_bipush (6) K H d11_10 (by decide) ?_
    refine go_irem K H d11_12 (by decide) fun v52 ev52 => ?_
    have fv52 := f_irem 6 ev52 (by decide)
    refine go_istore K H d11_13 (L' := #[.val (.int u0), .val (.int u1), .val (.int u2), .val (.int u3), .val (.int v52), .unset, .unset, .unset, .unset, .unset, .unset, .unset]) rfl ?_
    refine go_iloadN K H d11_15 rfl ?_
    refine go_ldcI (2147483647) K H d11_16 (hw _ (List.mem_of_getElem? (i := 0) rfl)) ?_
    refine go_iand K H d11_18 fun v53 ev53 => ?_
    have fv53 := f_mask 2147483648 31 ev53 (by decide) (by decide) (by decide)
    refine go_bipush (6) K H d11_19 (by decide) ?_
    refine go_irem K H d11_21 (by decide) fun v54 ev54 => ?_
    have fv54 := f_irem 6 ev54 (by decide)
    refine go_istore K H d11_22 (L' := #[.val (.int u0), .val (.int u1), .val (.int u2), .val (.int u3), .val (.int v52), .val (.int v54), .unset, .unset, .unset, .unset, .unset, .unset]) rfl ?_
    replace fv52 := fv52.1 (by omega)
    replace fv54 := fv54.1 (by omega)
    obtain ⟨pN, hpN, ep⟩ := oN_of (v := v52) (N := 6) (by (try simp only [or_true, true_or, and_true, true_and, not_true_eq_false, not_false_eq_true, Int32.lt_iff_toInt_lt, Int32.le_iff_toInt_le, ← Int32.toInt_inj, Int64.lt_iff_toInt_lt, Int64.le_iff_toInt_le, ← Int64.toInt_inj, Int32.reduceToInt, Int64.reduceToInt, ne_eq] at *) <;> omega) (by (try simp only [or_true, true_or, and_true, true_and, not_true_eq_false, not_false_eq_true, Int32.lt_iff_toInt_lt, Int32.le_iff_toInt_le, ← Int32.toInt_inj, Int64.lt_iff_toInt_lt, Int64.le_iff_toInt_le, ← Int64.toInt_inj, Int32.reduceToInt, Int64.reduceToInt, ne_eq] at *) <;> omega) (by decide)
    obtain ⟨qN, hqN, eq⟩ := oN_of (v := v54) (N := 6) (by (try simp only [or_true, true_or, and_true, true_and, not_true_eq_false, not_false_eq_true, Int32.lt_iff_toInt_lt, Int32.le_iff_toInt_le, ← Int32.toInt_inj, Int64.lt_iff_toInt_lt, Int64.le_iff_toInt_le, ← Int64.toInt_inj, Int32.reduceToInt, Int64.reduceToInt, ne_eq] at *) <;> omega) (by (try simp only [or_true, true_or, and_true, true_and, not_true_eq_false, not_false_eq_true, Int32.lt_iff_toInt_lt, Int32.le_iff_toInt_le, ← Int32.toInt_inj, Int64.lt_iff_toInt_lt, Int64.le_iff_toInt_le, ← Int64.toInt_inj, Int32.reduceToInt, Int64.reduceToInt, ne_eq] at *) <;> omega) (by decide)
    subst ep eq
    show Go w _ _ 24 #[.val (.int u0), .val (.int u1), .val (.int u2), .val (.int u3), .val (.int (oN pN)), .val (.int (oN qN)), .unset, .unset, .unset, .unset, .unset, .unset] []
    obtain ⟨x0, x1, x2, ex, lx0, lx1, lx2, rx⟩ := perm_ok hpN; obtain ⟨y0, y1, y2, ey, ly0, ly1, ly2, ry⟩ := perm_ok hqN
    refine go_iload K H d11_24 rfl ?_
    refine go_callS [(.int (oN pN))] K H d11_26 (hw _ (List.mem_of_getElem? (i := 44) rfl)) (hw _ (List.mem_of_getElem? (i := 45) rfl)) (hw _ (List.mem_of_getElem? (i := 42) rfl)) (hw _ (List.mem_of_getElem? (i := 46) rfl)) (st' := []) (by decide) (rmQ Z a0 hw _ n0 (at_size K H) _ hpN) pd7 rfl rfl rfl (by decide) (W := 0) rfl (by decide) (by decide) (by decide) fun T55 h55 v55 H55 q55 => ?_
    obtain ⟨z55, rfl, hz55, x, rfl, gx, hx, X, E1⟩ := q55
    show Go w _ _ 29 #[.val (.int u0), .val (.int u1), .val (.int u2), .val (.int u3), .val (.int (oN pN)), .val (.int (oN qN)), .unset, .unset, .unset, .unset, .unset, .unset] [(.ref x)]
    rw [ex] at X; have xlt := X.lt
    replace SF := SF.ext E1; replace AF := AF.ext E1
    refine go_astore K H55 d11_29 rfl (L' := #[.val (.int u0), .val (.int u1), .val (.int u2), .val (.int u3), .val (.int (oN pN)), .val (.int (oN qN)), .val (.ref x), .unset, .unset, .unset, .unset, .unset]) rfl ?_
    refine go_iload K H55 d11_31 rfl ?_
    refine go_callS [(.int (oN qN))] K H55 d11_33 (hw _ (List.mem_of_getElem? (i := 44) rfl)) (hw _ (List.mem_of_getElem? (i := 45) rfl)) (hw _ (List.mem_of_getElem? (i := 42) rfl)) (hw _ (List.mem_of_getElem? (i := 46) rfl)) (st' := []) (by decide) (rmQ Z a0 hw _ n0 (at_size K H55) _ hqN) pd7 rfl rfl rfl (by decide) (W := 0) rfl (by decide) (by decide) (by decide) fun T56 h56 v56 H56 q56 => ?_
    obtain ⟨z56, rfl, hz56, y, rfl, gy, hy, Y, E2⟩ := q56
    show Go w _ _ 36 #[.val (.int u0), .val (.int u1), .val (.int u2), .val (.int u3), .val (.int (oN pN)), .val (.int (oN qN)), .val (.ref x), .unset, .unset, .unset, .unset, .unset] [(.ref y)]
    rw [ey] at Y; have ylt := Y.lt
    replace SF := SF.ext E2; replace AF := AF.ext E2; replace X := X.ext E2
    refine go_astore K H56 d11_36 rfl (L' := #[.val (.int u0), .val (.int u1), .val (.int u2), .val (.int u3), .val (.int (oN pN)), .val (.int (oN qN)), .val (.ref x), .val (.ref y), .unset, .unset, .unset, .unset]) rfl ?_
    refine go_new K H56 d11_38 (hw _ (List.mem_of_getElem? (i := 2) rfl)) (hw _ (List.mem_of_getElem? (i := 3) rfl)) (hw _ (List.mem_of_getElem? (i := 4) rfl)) (by decide) (by decide) fun T57 h57 a H57 g57 l57 E57 A57 D57 => ?_
    have nxa : x ≠ a := Nat.ne_of_lt (g57 ▸ X.lt); have nya : y ≠ a := Nat.ne_of_lt (g57 ▸ Y.lt)
    replace X := X.ext E57; replace Y := Y.ext E57; replace SF := SF.ext E57; replace AF := AF.ext E57
    refine go_dup K H57 d11_41 rfl ?_
    refine go_iconst (3) K H57 d11_42 (by decide) ?_
    refine go_callI [(.int 3)] K H57 d11_43 rfl (hw _ (List.mem_of_getElem? (i := 5) rfl)) (hw _ (List.mem_of_getElem? (i := 6) rfl)) (hw _ (List.mem_of_getElem? (i := 4) rfl)) (hw _ (List.mem_of_getElem? (i := 7) rfl)) (st' := [(.ref a)]) (by decide) (rmI3 Z a0 hw _ _ n0 (at_size K H57) _ _ _ fa (D57 (Or.inr (hw _ (List.mem_of_getElem? (i := 12) rfl))) (ty := .int) (by decide)) (D57 (Or.inr (hw _ (List.mem_of_getElem? (i := 15) rfl))) (ty := (.array .long)) (by decide)) (D57 (Or.inr (hw _ (List.mem_of_getElem? (i := 17) rfl))) (ty := (.array .long)) (by decide)) (D57 (Or.inl (hw _ (List.mem_of_getElem? (i := 24) rfl))) (ty := .long) (by decide)) A57 l57 SF AF hfa) pd2 rfl rfl rfl (by decide) (W := 1) rfl (by decide) (by decide) (by decide) fun T58 h58 v58 H58 q58 => ?_
    obtain ⟨rfl, p, o, gp, go, hp, ho, npo, nep, neo, O, P, B, K1⟩ := q58
    show Go w _ _ 46 #[.val (.int u0), .val (.int u1), .val (.int u2), .val (.int u3), .val (.int (oN pN)), .val (.int (oN qN)), .val (.ref x), .val (.ref y), .unset, .unset, .unset, .unset] [(.ref a)]
    have nxp : x ≠ p := Nat.ne_of_lt (Nat.lt_of_lt_of_le X.lt hp); have nyp : y ≠ p := Nat.ne_of_lt (Nat.lt_of_lt_of_le Y.lt hp); have nxo : x ≠ o := Nat.ne_of_lt (Nat.lt_of_lt_of_le X.lt ho); have nyo : y ≠ o := Nat.ne_of_lt (Nat.lt_of_lt_of_le Y.lt ho)
    replace X := X.keep K1 (ninS nxa nin0); replace Y := Y.keep K1 (ninS nya nin0)
    refine go_astore K H58 d11_46 rfl (L' := #[.val (.int u0), .val (.int u1), .val (.int u2), .val (.int u3), .val (.int (oN pN)), .val (.int (oN qN)), .val (.ref x), .val (.ref y), .val (.ref a), .unset, .unset, .unset]) rfl ?_
    refine go_aload K H58 d11_48 rfl rfl ?_
    refine go_aload K H58 d11_50 rfl rfl ?_
    refine go_callV [(.ref x)] K H58 d11_52 (O.1) (hw _ (List.mem_of_getElem? (i := 18) rfl)) (hw _ (List.mem_of_getElem? (i := 19) rfl)) (nf_sel (hw _ (List.mem_of_getElem? (i := 21) rfl))) (hw _ (List.mem_of_getElem? (i := 21) rfl)) (hw _ (List.mem_of_getElem? (i := 20) rfl)) (hw _ (List.mem_of_getElem? (i := 4) rfl)) (hw _ (List.mem_of_getElem? (i := 22) rfl)) (st' := []) (by decide) (rmA3 Z a0 hw _ _ _ n0 (at_size K H58) _ _ _ _ _ _ _ _ O P B X (by simp) (by simp) lx0 lx1 lx2 (by omega) nep neo npo nxp nxo l57 gp go) pd3 rfl rfl rfl (by decide) (W := 0) rfl (by decide) (by decide) (by decide) fun T59 h59 v59 H59 q59 => ?_
    obtain ⟨rfl, O1, P1, B1, K2⟩ := q59
    show Go w _ _ 55 #[.val (.int u0), .val (.int u1), .val (.int u2), .val (.int u3), .val (.int (oN pN)), .val (.int (oN qN)), .val (.ref x), .val (.ref y), .val (.ref a), .unset, .unset, .unset] []
    replace X := X.keep K2 (ninS nxa (ninS nxp (ninS nxo nin0))); replace Y := Y.keep K2 (ninS nya (ninS nyp (ninS nyo nin0)))
    refine go_aload K H59 d11_55 rfl rfl ?_
    refine go_aload K H59 d11_57 rfl rfl ?_
    refine go_callV [(.ref y)] K H59 d11_59 (O1.1) (hw _ (List.mem_of_getElem? (i := 18) rfl)) (hw _ (List.mem_of_getElem? (i := 19) rfl)) (nf_sel (hw _ (List.mem_of_getElem? (i := 21) rfl))) (hw _ (List.mem_of_getElem? (i := 21) rfl)) (hw _ (List.mem_of_getElem? (i := 20) rfl)) (hw _ (List.mem_of_getElem? (i := 4) rfl)) (hw _ (List.mem_of_getElem? (i := 22) rfl)) (st' := []) (by decide) (rmA3 Z a0 hw _ _ _ n0 (at_size K H59) _ _ _ _ _ _ _ _ O1 P1 B1 Y (by rw [add3_len]; simp) (by rw [inc_len]; simp) ly0 ly1 ly2 (by omega) nep neo npo nyp nyo l57 gp go) pd3 rfl rfl rfl (by decide) (W := 0) rfl (by decide) (by decide) (by decide) fun T60 h60 v60 H60 q60 => ?_
    obtain ⟨rfl, O2, P2, B2, K3⟩ := q60
    show Go w _ _ 62 #[.val (.int u0), .val (.int u1), .val (.int u2), .val (.int u3), .val (.int (oN pN)), .val (.int (oN qN)), .val (.ref x), .val (.ref y), .val (.ref a), .unset, .unset, .unset] []
    replace X := X.keep K3 (ninS nxa (ninS nxp (ninS nxo nin0))); replace Y := Y.keep K3 (ninS nya (ninS nyp (ninS nyo nin0)))
    rw [rx, ry] at B2
    refine go_aload K H60 d11_62 rfl rfl ?_
    refine go_callV [] K H60 d11_64 (O2.1) (hw _ (List.mem_of_getElem? (i := 25) rfl)) (hw _ (List.mem_of_getElem? (i := 26) rfl)) (nf_sel (hw _ (List.mem_of_getElem? (i := 28) rfl))) (hw _ (List.mem_of_getElem? (i := 28) rfl)) (hw _ (List.mem_of_getElem? (i := 27) rfl)) (hw _ (List.mem_of_getElem? (i := 4) rfl)) (hw _ (List.mem_of_getElem? (i := 29) rfl)) (st' := []) (by decide) (rmD Z a0 hw _ _ n0 (at_size K H60) _ _ _ rfl _ O2) pd4 rfl rfl rfl (by decide) (W := 0) rfl (by decide) (by decide) (by decide) fun T61 h61 v61 H61 q61 => ?_
    obtain ⟨z61, rfl, ec, rfl⟩ := q61
    show Go w _ _ 67 #[.val (.int u0), .val (.int u1), .val (.int u2), .val (.int u3), .val (.int (oN pN)), .val (.int (oN qN)), .val (.ref x), .val (.ref y), .val (.ref a), .unset, .unset, .unset] [(.long z61)]
    refine go_ldcL (2) K H61 d11_67 (hw _ (List.mem_of_getElem? (i := 53) rfl)) ?_
    refine go_lcmp K H61 d11_70 fun v62 ev62 => ?_
    have fv62 := f_lcmp ev62
    refine go_if_eq K H61 d11_71 (fun cc => ?_) (fun cc => False.elim (by exact cc (by rw [ev62, ec]; exact (lw_eq _ _).mpr (by decide))))
    refine go_aload K H61 d11_76 rfl rfl ?_
    refine go_callV [] K H61 d11_78 (O2.1) (hw _ (List.mem_of_getElem? (i := 35) rfl)) (hw _ (List.mem_of_getElem? (i := 36) rfl)) (nf_sel (hw _ (List.mem_of_getElem? (i := 38) rfl))) (hw _ (List.mem_of_getElem? (i := 38) rfl)) (hw _ (List.mem_of_getElem? (i := 37) rfl)) (hw _ (List.mem_of_getElem? (i := 4) rfl)) (hw _ (List.mem_of_getElem? (i := 39) rfl)) (st' := []) (by decide) (rmP Z a0 hw _ _ n0 (at_size K H61) _ _ _ rfl _ O2) pd5 rfl rfl rfl (by decide) (W := 0) rfl (by decide) (by decide) (by decide) fun T63 h63 v63 H63 q63 => ?_
    obtain ⟨z63, rfl, hz63, ep, rfl⟩ := q63
    show Go w _ _ 81 #[.val (.int u0), .val (.int u1), .val (.int u2), .val (.int u3), .val (.int (oN pN)), .val (.int (oN qN)), .val (.ref x), .val (.ref y), .val (.ref a), .unset, .unset, .unset] [z63]
    subst ep
    show Go w _ _ 81 #[.val (.int u0), .val (.int u1), .val (.int u2), .val (.int u3), .val (.int (oN pN)), .val (.int (oN qN)), .val (.ref x), .val (.ref y), .val (.ref a), .unset, .unset, .unset] [(.ref p)]
    refine go_astore K H63 d11_81 rfl (L' := #[.val (.int u0), .val (.int u1), .val (.int u2), .val (.int u3), .val (.int (oN pN)), .val (.int (oN qN)), .val (.ref x), .val (.ref y), .val (.ref a), .val (.ref p), .unset, .unset]) rfl ?_
    refine go_aload K H63 d11_83 rfl rfl ?_
    refine go_callV [] K H63 d11_85 (O2.1) (hw _ (List.mem_of_getElem? (i := 30) rfl)) (hw _ (List.mem_of_getElem? (i := 31) rfl)) (nf_sel (hw _ (List.mem_of_getElem? (i := 33) rfl))) (hw _ (List.mem_of_getElem? (i := 33) rfl)) (hw _ (List.mem_of_getElem? (i := 32) rfl)) (hw _ (List.mem_of_getElem? (i := 4) rfl)) (hw _ (List.mem_of_getElem? (i := 34) rfl)) (st' := []) (by decide) (rmO Z a0 hw _ _ n0 (at_size K H63) _ _ _ rfl _ O2) pd5 rfl rfl rfl (by decide) (W := 0) rfl (by decide) (by decide) (by decide) fun T64 h64 v64 H64 q64 => ?_
    obtain ⟨z64, rfl, hz64, eo, rfl⟩ := q64
    show Go w _ _ 88 #[.val (.int u0), .val (.int u1), .val (.int u2), .val (.int u3), .val (.int (oN pN)), .val (.int (oN qN)), .val (.ref x), .val (.ref y), .val (.ref a), .val (.ref p), .unset, .unset] [z64]
    subst eo
    show Go w _ _ 88 #[.val (.int u0), .val (.int u1), .val (.int u2), .val (.int u3), .val (.int (oN pN)), .val (.int (oN qN)), .val (.ref x), .val (.ref y), .val (.ref a), .val (.ref p), .unset, .unset] [(.ref o)]
    refine go_astore K H64 d11_88 rfl (L' := #[.val (.int u0), .val (.int u1), .val (.int u2), .val (.int u3), .val (.int (oN pN)), .val (.int (oN qN)), .val (.ref x), .val (.ref y), .val (.ref a), .val (.ref p), .val (.ref o), .unset]) rfl ?_
    refine go_aload K H64 d11_90 rfl rfl ?_
    refine go_ifnull_no K H64 d11_92 ?_
    refine go_aload K H64 d11_95 rfl rfl ?_
    refine go_arraylength K H64 d11_97 (P2) fun v65 ev65 => ?_
    refine go_bipush (9) K H64 d11_98 (by decide) ?_
    refine go_icmp_ne K H64 d11_100 (fun cc => False.elim (by rw [List.length_map] at ev65; simp only [add3, inc_len, List.length_replicate] at ev65; exact cc (Int32.toInt_inj.mp ev65))) (fun cc => ?_)
    refine go_aload K H64 d11_103 rfl rfl ?_
    refine go_ifnull_no K H64 d11_105 ?_
    refine go_aload K H64 d11_108 rfl rfl ?_
    refine go_arraylength K H64 d11_110 (B2) fun v66 ev66 => ?_
    refine go_bipush (6) K H64 d11_111 (by decide) ?_
    refine go_icmp_eq K H64 d11_113 (fun cc => ?_) (fun cc => False.elim (by rw [List.length_map] at ev66; simp only [inc_len, List.length_replicate] at ev66; exact cc (Int32.toInt_inj.mp ev66)))
    refine go_aload K H64 d11_118 rfl rfl ?_
    refine go_aload K H64 d11_120 rfl rfl ?_
    refine go_aload K H64 d11_122 rfl rfl ?_
    refine go_iconst (0) K H64 d11_124 (by decide) ?_
    have c9 := cell9 lx0 lx1 lx2 ly0 ly1 ly2 (item := 0) (by decide)
    refine go_callS [(.ref p), (.ref x), (.ref y), (.int 0)] K H64 d11_125 (hw _ (List.mem_of_getElem? (i := 54) rfl)) (hw _ (List.mem_of_getElem? (i := 55) rfl)) (hw _ (List.mem_of_getElem? (i := 42) rfl)) (hw _ (List.mem_of_getElem? (i := 56) rfl)) (st' := []) (by decide) (rmR0 Z a0 hw _ _ _ _ n0 (at_size K H64) _ _ _ _ _ _ _ P2 X Y c9.1 c9.2.1 c9.2.2 ⟨lx0, lx1, lx2⟩ ⟨ly0, ly1, ly2⟩) pd8 rfl rfl rfl (by decide) (W := 0) rfl (by decide) (by decide) (by decide) fun T67 h67 v67 H67 q67 => ?_
    obtain ⟨z67, rfl, ez, rfl⟩ := q67
    show Go w _ _ 128 #[.val (.int u0), .val (.int u1), .val (.int u2), .val (.int u3), .val (.int (oN pN)), .val (.int (oN qN)), .val (.ref x), .val (.ref y), .val (.ref a), .val (.ref p), .val (.ref o), .unset] [(.int z67)]
    refine go_if_eq K H67 d11_128 (fun cc => False.elim (by rw [ez] at cc; exact absurd cc (by decide))) (fun cc => ?_)
    refine go_aload K H67 d11_131 rfl rfl ?_
    refine go_aload K H67 d11_133 rfl rfl ?_
    refine go_aload K H67 d11_135 rfl rfl ?_
    refine go_iconst (1) K H67 d11_137 (by decide) ?_
    have c9 := cell9 lx0 lx1 lx2 ly0 ly1 ly2 (item := 1) (by decide)
    refine go_callS [(.ref p), (.ref x), (.ref y), (.int 1)] K H67 d11_138 (hw _ (List.mem_of_getElem? (i := 54) rfl)) (hw _ (List.mem_of_getElem? (i := 55) rfl)) (hw _ (List.mem_of_getElem? (i := 42) rfl)) (hw _ (List.mem_of_getElem? (i := 56) rfl)) (st' := []) (by decide) (rmR1 Z a0 hw _ _ _ _ n0 (at_size K H67) _ _ _ _ _ _ _ P2 X Y c9.1 c9.2.1 c9.2.2 ⟨lx0, lx1, lx2⟩ ⟨ly0, ly1, ly2⟩) pd8 rfl rfl rfl (by decide) (W := 0) rfl (by decide) (by decide) (by decide) fun T68 h68 v68 H68 q68 => ?_
    obtain ⟨z68, rfl, ez, rfl⟩ := q68
    show Go w _ _ 141 #[.val (.int u0), .val (.int u1), .val (.int u2), .val (.int u3), .val (.int (oN pN)), .val (.int (oN qN)), .val (.ref x), .val (.ref y), .val (.ref a), .val (.ref p), .val (.ref o), .unset] [(.int z68)]
    refine go_if_eq K H68 d11_141 (fun cc => False.elim (by rw [ez] at cc; exact absurd cc (by decide))) (fun cc => ?_)
    refine go_aload K H68 d11_144 rfl rfl ?_
    refine go_aload K H68 d11_146 rfl rfl ?_
    refine go_aload K H68 d11_148 rfl rfl ?_
    refine go_iconst (2) K H68 d11_150 (by decide) ?_
    have c9 := cell9 lx0 lx1 lx2 ly0 ly1 ly2 (item := 2) (by decide)
    refine go_callS [(.ref p), (.ref x), (.ref y), (.int 2)] K H68 d11_151 (hw _ (List.mem_of_getElem? (i := 54) rfl)) (hw _ (List.mem_of_getElem? (i := 55) rfl)) (hw _ (List.mem_of_getElem? (i := 42) rfl)) (hw _ (List.mem_of_getElem? (i := 56) rfl)) (st' := []) (by decide) (rmR2 Z a0 hw _ _ _ _ n0 (at_size K H68) _ _ _ _ _ _ _ P2 X Y c9.1 c9.2.1 c9.2.2 ⟨lx0, lx1, lx2⟩ ⟨ly0, ly1, ly2⟩) pd8 rfl rfl rfl (by decide) (W := 0) rfl (by decide) (by decide) (by decide) fun T69 h69 v69 H69 q69 => ?_
    obtain ⟨z69, rfl, ez, rfl⟩ := q69
    show Go w _ _ 154 #[.val (.int u0), .val (.int u1), .val (.int u2), .val (.int u3), .val (.int (oN pN)), .val (.int (oN qN)), .val (.ref x), .val (.ref y), .val (.ref a), .val (.ref p), .val (.ref o), .unset] [(.int z69)]
    refine go_if_eq K H69 d11_154 (fun cc => False.elim (by rw [ez] at cc; exact absurd cc (by decide))) (fun cc => ?_)
    refine go_iconst (1) K H69 d11_157 (by decide) ?_
    refine go_goto K H69 d11_158 ?_
    refine go_istore K H69 d11_162 (L' := #[.val (.int u0), .val (.int u1), .val (.int u2), .val (.int u3), .val (.int (oN pN)), .val (.int (oN qN)), .val (.ref x), .val (.ref y), .val (.ref a), .val (.ref p), .val (.ref o), .val (.int 1)]) rfl ?_
    refine go_iload K H69 d11_164 rfl ?_
    refine go_if_eq K H69 d11_166 (fun cc => False.elim (by exact absurd cc (by decide))) (fun cc => ?_)
    refine go_aload K H69 d11_169 rfl rfl ?_
    refine go_iconst (0) K H69 d11_171 (by decide) ?_
    refine go_laload (0) K H69 d11_172 (B2) (by decide) (at_map1J (ord6 hpN hqN (k := 0) (by decide))) ?_
    refine go_iload K H69 d11_173 rfl ?_
    refine go_iconst (0) K H69 d11_175 (by decide) ?_
    show Go w _ _ 176 #[.val (.int u0), .val (.int u1), .val (.int u2), .val (.int u3), .val (.int (oN pN)), .val (.int (oN qN)), .val (.ref x), .val (.ref y), .val (.ref a), .val (.ref p), .val (.ref o), .val (.int 1)] [(.int (oN 0)), (.int (oN pN)), (.long (hF pN 0 + hF qN 0))]
    refine go_callS [(.int (oN pN)), (.int (oN 0))] K H69 d11_176 (hw _ (List.mem_of_getElem? (i := 60) rfl)) (hw _ (List.mem_of_getElem? (i := 61) rfl)) (hw _ (List.mem_of_getElem? (i := 42) rfl)) (hw _ (List.mem_of_getElem? (i := 62) rfl)) (st' := [(.long (hF pN 0 + hF qN 0))]) (by decide) (rmS Z a0 hw _ n0 (at_size K H69) pN 0 (by omega) (by decide)) pd9 rfl rfl rfl (by decide) (W := 2) rfl (by decide) (by decide) (by decide) fun T70 h70 v70 H70 q70 => ?_
    obtain ⟨z70, rfl, ep0, rfl⟩ := q70
    show Go w _ _ 179 #[.val (.int u0), .val (.int u1), .val (.int u2), .val (.int u3), .val (.int (oN pN)), .val (.int (oN qN)), .val (.ref x), .val (.ref y), .val (.ref a), .val (.ref p), .val (.ref o), .val (.int 1)] [(.long z70), (.long (hF pN 0 + hF qN 0))]
    refine go_iload K H70 d11_179 rfl ?_
    refine go_iconst (0) K H70 d11_181 (by decide) ?_
    show Go w _ _ 182 #[.val (.int u0), .val (.int u1), .val (.int u2), .val (.int u3), .val (.int (oN pN)), .val (.int (oN qN)), .val (.ref x), .val (.ref y), .val (.ref a), .val (.ref p), .val (.ref o), .val (.int 1)] [(.int (oN 0)), (.int (oN qN)), (.long z70), (.long (hF pN 0 + hF qN 0))]
    refine go_callS [(.int (oN qN)), (.int (oN 0))] K H70 d11_182 (hw _ (List.mem_of_getElem? (i := 60) rfl)) (hw _ (List.mem_of_getElem? (i := 61) rfl)) (hw _ (List.mem_of_getElem? (i := 42) rfl)) (hw _ (List.mem_of_getElem? (i := 62) rfl)) (st' := [(.long z70), (.long (hF pN 0 + hF qN 0))]) (by decide) (rmS Z a0 hw _ n0 (at_size K H70) qN 0 (by omega) (by decide)) pd9 rfl rfl rfl (by decide) (W := 4) rfl (by decide) (by decide) (by decide) fun T71 h71 v71 H71 q71 => ?_
    obtain ⟨z71, rfl, eq0, rfl⟩ := q71
    show Go w _ _ 185 #[.val (.int u0), .val (.int u1), .val (.int u2), .val (.int u3), .val (.int (oN pN)), .val (.int (oN qN)), .val (.ref x), .val (.ref y), .val (.ref a), .val (.ref p), .val (.ref o), .val (.int 1)] [(.long z71), (.long z70), (.long (hF pN 0 + hF qN 0))]
    refine go_ladd K H71 d11_185 fun v72 ev72 => ?_
    have fv72 := f_ladd ev72
    have rv72 := rng64 v72
    refine go_lcmp K H71 d11_186 fun v73 ev73 => ?_
    have fv73 := f_lcmp ev73
    refine go_if_ne K H71 d11_187 (fun cc => False.elim (by exact cc (by rw [ev73, ev72, ep0, eq0]; exact (lw_eq _ _).mpr rfl))) (fun cc => ?_)
    refine go_iconst (1) K H71 d11_190 (by decide) ?_
    refine go_goto K H71 d11_191 ?_
    refine go_istore K H71 d11_195 (L' := #[.val (.int u0), .val (.int u1), .val (.int u2), .val (.int u3), .val (.int (oN pN)), .val (.int (oN qN)), .val (.ref x), .val (.ref y), .val (.ref a), .val (.ref p), .val (.ref o), .val (.int 1)]) rfl ?_
    refine go_iload K H71 d11_197 rfl ?_
    refine go_if_eq K H71 d11_199 (fun cc => False.elim (by exact absurd cc (by decide))) (fun cc => ?_)
    refine go_aload K H71 d11_202 rfl rfl ?_
    refine go_iconst (1) K H71 d11_204 (by decide) ?_
    refine go_laload (1) K H71 d11_205 (B2) (by decide) (at_map1J (ord6 hpN hqN (k := 1) (by decide))) ?_
    refine go_iload K H71 d11_206 rfl ?_
    refine go_iconst (1) K H71 d11_208 (by decide) ?_
    show Go w _ _ 209 #[.val (.int u0), .val (.int u1), .val (.int u2), .val (.int u3), .val (.int (oN pN)), .val (.int (oN qN)), .val (.ref x), .val (.ref y), .val (.ref a), .val (.ref p), .val (.ref o), .val (.int 1)] [(.int (oN 1)), (.int (oN pN)), (.long (hF pN 1 + hF qN 1))]
    refine go_callS [(.int (oN pN)), (.int (oN 1))] K H71 d11_209 (hw _ (List.mem_of_getElem? (i := 60) rfl)) (hw _ (List.mem_of_getElem? (i := 61) rfl)) (hw _ (List.mem_of_getElem? (i := 42) rfl)) (hw _ (List.mem_of_getElem? (i := 62) rfl)) (st' := [(.long (hF pN 1 + hF qN 1))]) (by decide) (rmS Z a0 hw _ n0 (at_size K H71) pN 1 (by omega) (by decide)) pd9 rfl rfl rfl (by decide) (W := 2) rfl (by decide) (by decide) (by decide) fun T74 h74 v74 H74 q74 => ?_
    obtain ⟨z74, rfl, ep1, rfl⟩ := q74
    show Go w _ _ 212 #[.val (.int u0), .val (.int u1), .val (.int u2), .val (.int u3), .val (.int (oN pN)), .val (.int (oN qN)), .val (.ref x), .val (.ref y), .val (.ref a), .val (.ref p), .val (.ref o), .val (.int 1)] [(.long z74), (.long (hF pN 1 + hF qN 1))]
    refine go_iload K H74 d11_212 rfl ?_
    refine go_iconst (1) K H74 d11_214 (by decide) ?_
    show Go w _ _ 215 #[.val (.int u0), .val (.int u1), .val (.int u2), .val (.int u3), .val (.int (oN pN)), .val (.int (oN qN)), .val (.ref x), .val (.ref y), .val (.ref a), .val (.ref p), .val (.ref o), .val (.int 1)] [(.int (oN 1)), (.int (oN qN)), (.long z74), (.long (hF pN 1 + hF qN 1))]
    refine go_callS [(.int (oN qN)), (.int (oN 1))] K H74 d11_215 (hw _ (List.mem_of_getElem? (i := 60) rfl)) (hw _ (List.mem_of_getElem? (i := 61) rfl)) (hw _ (List.mem_of_getElem? (i := 42) rfl)) (hw _ (List.mem_of_getElem? (i := 62) rfl)) (st' := [(.long z74), (.long (hF pN 1 + hF qN 1))]) (by decide) (rmS Z a0 hw _ n0 (at_size K H74) qN 1 (by omega) (by decide)) pd9 rfl rfl rfl (by decide) (W := 4) rfl (by decide) (by decide) (by decide) fun T75 h75 v75 H75 q75 => ?_
    obtain ⟨z75, rfl, eq1, rfl⟩ := q75
    show Go w _ _ 218 #[.val (.int u0), .val (.int u1), .val (.int u2), .val (.int u3), .val (.int (oN pN)), .val (.int (oN qN)), .val (.ref x), .val (.ref y), .val (.ref a), .val (.ref p), .val (.ref o), .val (.int 1)] [(.long z75), (.long z74), (.long (hF pN 1 + hF qN 1))]
    refine go_ladd K H75 d11_218 fun v76 ev76 => ?_
    have fv76 := f_ladd ev76
    have rv76 := rng64 v76
    refine go_lcmp K H75 d11_219 fun v77 ev77 => ?_
    have fv77 := f_lcmp ev77
    refine go_if_ne K H75 d11_220 (fun cc => False.elim (by exact cc (by rw [ev77, ev76, ep1, eq1]; exact (lw_eq _ _).mpr rfl))) (fun cc => ?_)
    refine go_iconst (1) K H75 d11_223 (by decide) ?_
    refine go_goto K H75 d11_224 ?_
    refine go_istore K H75 d11_228 (L' := #[.val (.int u0), .val (.int u1), .val (.int u2), .val (.int u3), .val (.int (oN pN)), .val (.int (oN qN)), .val (.ref x), .val (.ref y), .val (.ref a), .val (.ref p), .val (.ref o), .val (.int 1)]) rfl ?_
    refine go_iload K H75 d11_230 rfl ?_
    refine go_if_eq K H75 d11_232 (fun cc => False.elim (by exact absurd cc (by decide))) (fun cc => ?_)
    refine go_aload K H75 d11_235 rfl rfl ?_
    refine go_iconst (2) K H75 d11_237 (by decide) ?_
    refine go_laload (2) K H75 d11_238 (B2) (by decide) (at_map1J (ord6 hpN hqN (k := 2) (by decide))) ?_
    refine go_iload K H75 d11_239 rfl ?_
    refine go_iconst (2) K H75 d11_241 (by decide) ?_
    show Go w _ _ 242 #[.val (.int u0), .val (.int u1), .val (.int u2), .val (.int u3), .val (.int (oN pN)), .val (.int (oN qN)), .val (.ref x), .val (.ref y), .val (.ref a), .val (.ref p), .val (.ref o), .val (.int 1)] [(.int (oN 2)), (.int (oN pN)), (.long (hF pN 2 + hF qN 2))]
    refine go_callS [(.int (oN pN)), (.int (oN 2))] K H75 d11_242 (hw _ (List.mem_of_getElem? (i := 60) rfl)) (hw _ (List.mem_of_getElem? (i := 61) rfl)) (hw _ (List.mem_of_getElem? (i := 42) rfl)) (hw _ (List.mem_of_getElem? (i := 62) rfl)) (st' := [(.long (hF pN 2 + hF qN 2))]) (by decide) (rmS Z a0 hw _ n0 (at_size K H75) pN 2 (by omega) (by decide)) pd9 rfl rfl rfl (by decide) (W := 2) rfl (by decide) (by decide) (by decide) fun T78 h78 v78 H78 q78 => ?_
    obtain ⟨z78, rfl, ep2, rfl⟩ := q78
    show Go w _ _ 245 #[.val (.int u0), .val (.int u1), .val (.int u2), .val (.int u3), .val (.int (oN pN)), .val (.int (oN qN)), .val (.ref x), .val (.ref y), .val (.ref a), .val (.ref p), .val (.ref o), .val (.int 1)] [(.long z78), (.long (hF pN 2 + hF qN 2))]
    refine go_iload K H78 d11_245 rfl ?_
    refine go_iconst (2) K H78 d11_247 (by decide) ?_
    show Go w _ _ 248 #[.val (.int u0), .val (.int u1), .val (.int u2), .val (.int u3), .val (.int (oN pN)), .val (.int (oN qN)), .val (.ref x), .val (.ref y), .val (.ref a), .val (.ref p), .val (.ref o), .val (.int 1)] [(.int (oN 2)), (.int (oN qN)), (.long z78), (.long (hF pN 2 + hF qN 2))]
    refine go_callS [(.int (oN qN)), (.int (oN 2))] K H78 d11_248 (hw _ (List.mem_of_getElem? (i := 60) rfl)) (hw _ (List.mem_of_getElem? (i := 61) rfl)) (hw _ (List.mem_of_getElem? (i := 42) rfl)) (hw _ (List.mem_of_getElem? (i := 62) rfl)) (st' := [(.long z78), (.long (hF pN 2 + hF qN 2))]) (by decide) (rmS Z a0 hw _ n0 (at_size K H78) qN 2 (by omega) (by decide)) pd9 rfl rfl rfl (by decide) (W := 4) rfl (by decide) (by decide) (by decide) fun T79 h79 v79 H79 q79 => ?_
    obtain ⟨z79, rfl, eq2, rfl⟩ := q79
    show Go w _ _ 251 #[.val (.int u0), .val (.int u1), .val (.int u2), .val (.int u3), .val (.int (oN pN)), .val (.int (oN qN)), .val (.ref x), .val (.ref y), .val (.ref a), .val (.ref p), .val (.ref o), .val (.int 1)] [(.long z79), (.long z78), (.long (hF pN 2 + hF qN 2))]
    refine go_ladd K H79 d11_251 fun v80 ev80 => ?_
    have fv80 := f_ladd ev80
    have rv80 := rng64 v80
    refine go_lcmp K H79 d11_252 fun v81 ev81 => ?_
    have fv81 := f_lcmp ev81
    refine go_if_ne K H79 d11_253 (fun cc => False.elim (by exact cc (by rw [ev81, ev80, ep2, eq2]; exact (lw_eq _ _).mpr rfl))) (fun cc => ?_)
    refine go_iconst (1) K H79 d11_256 (by decide) ?_
    refine go_goto K H79 d11_257 ?_
    refine go_istore K H79 d11_261 (L' := #[.val (.int u0), .val (.int u1), .val (.int u2), .val (.int u3), .val (.int (oN pN)), .val (.int (oN qN)), .val (.ref x), .val (.ref y), .val (.ref a), .val (.ref p), .val (.ref o), .val (.int 1)]) rfl ?_
    refine go_iload K H79 d11_263 rfl ?_
    refine go_if_eq K H79 d11_265 (fun cc => False.elim (by exact absurd cc (by decide))) (fun cc => ?_)
    refine go_aload K H79 d11_268 rfl rfl ?_
    refine go_iconst (3) K H79 d11_270 (by decide) ?_
    refine go_laload (3) K H79 d11_271 (B2) (by decide) (at_map1J (ord6 hpN hqN (k := 3) (by decide))) ?_
    refine go_iload K H79 d11_272 rfl ?_
    refine go_iconst (3) K H79 d11_274 (by decide) ?_
    show Go w _ _ 275 #[.val (.int u0), .val (.int u1), .val (.int u2), .val (.int u3), .val (.int (oN pN)), .val (.int (oN qN)), .val (.ref x), .val (.ref y), .val (.ref a), .val (.ref p), .val (.ref o), .val (.int 1)] [(.int (oN 3)), (.int (oN pN)), (.long (hF pN 3 + hF qN 3))]
    refine go_callS [(.int (oN pN)), (.int (oN 3))] K H79 d11_275 (hw _ (List.mem_of_getElem? (i := 60) rfl)) (hw _ (List.mem_of_getElem? (i := 61) rfl)) (hw _ (List.mem_of_getElem? (i := 42) rfl)) (hw _ (List.mem_of_getElem? (i := 62) rfl)) (st' := [(.long (hF pN 3 + hF qN 3))]) (by decide) (rmS Z a0 hw _ n0 (at_size K H79) pN 3 (by omega) (by decide)) pd9 rfl rfl rfl (by decide) (W := 2) rfl (by decide) (by decide) (by decide) fun T82 h82 v82 H82 q82 => ?_
    obtain ⟨z82, rfl, ep3, rfl⟩ := q82
    show Go w _ _ 278 #[.val (.int u0), .val (.int u1), .val (.int u2), .val (.int u3), .val (.int (oN pN)), .val (.int (oN qN)), .val (.ref x), .val (.ref y), .val (.ref a), .val (.ref p), .val (.ref o), .val (.int 1)] [(.long z82), (.long (hF pN 3 + hF qN 3))]
    refine go_iload K H82 d11_278 rfl ?_
    refine go_iconst (3) K H82 d11_280 (by decide) ?_
    show Go w _ _ 281 #[.val (.int u0), .val (.int u1), .val (.int u2), .val (.int u3), .val (.int (oN pN)), .val (.int (oN qN)), .val (.ref x), .val (.ref y), .val (.ref a), .val (.ref p), .val (.ref o), .val (.int 1)] [(.int (oN 3)), (.int (oN qN)), (.long z82), (.long (hF pN 3 + hF qN 3))]
    refine go_callS [(.int (oN qN)), (.int (oN 3))] K H82 d11_281 (hw _ (List.mem_of_getElem? (i := 60) rfl)) (hw _ (List.mem_of_getElem? (i := 61) rfl)) (hw _ (List.mem_of_getElem? (i := 42) rfl)) (hw _ (List.mem_of_getElem? (i := 62) rfl)) (st' := [(.long z82), (.long (hF pN 3 + hF qN 3))]) (by decide) (rmS Z a0 hw _ n0 (at_size K H82) qN 3 (by omega) (by decide)) pd9 rfl rfl rfl (by decide) (W := 4) rfl (by decide) (by decide) (by decide) fun T83 h83 v83 H83 q83 => ?_
    obtain ⟨z83, rfl, eq3, rfl⟩ := q83
    show Go w _ _ 284 #[.val (.int u0), .val (.int u1), .val (.int u2), .val (.int u3), .val (.int (oN pN)), .val (.int (oN qN)), .val (.ref x), .val (.ref y), .val (.ref a), .val (.ref p), .val (.ref o), .val (.int 1)] [(.long z83), (.long z82), (.long (hF pN 3 + hF qN 3))]
    refine go_ladd K H83 d11_284 fun v84 ev84 => ?_
    have fv84 := f_ladd ev84
    have rv84 := rng64 v84
    refine go_lcmp K H83 d11_285 fun v85 ev85 => ?_
    have fv85 := f_lcmp ev85
    refine go_if_ne K H83 d11_286 (fun cc => False.elim (by exact cc (by rw [ev85, ev84, ep3, eq3]; exact (lw_eq _ _).mpr rfl))) (fun cc => ?_)
    refine go_iconst (1) K H83 d11_289 (by decide) ?_
    refine go_goto K H83 d11_290 ?_
    refine go_istore K H83 d11_294 (L' := #[.val (.int u0), .val (.int u1), .val (.int u2), .val (.int u3), .val (.int (oN pN)), .val (.int (oN qN)), .val (.ref x), .val (.ref y), .val (.ref a), .val (.ref p), .val (.ref o), .val (.int 1)]) rfl ?_
    refine go_iload K H83 d11_296 rfl ?_
    refine go_if_eq K H83 d11_298 (fun cc => False.elim (by exact absurd cc (by decide))) (fun cc => ?_)
    refine go_aload K H83 d11_301 rfl rfl ?_
    refine go_iconst (4) K H83 d11_303 (by decide) ?_
    refine go_laload (4) K H83 d11_304 (B2) (by decide) (at_map1J (ord6 hpN hqN (k := 4) (by decide))) ?_
    refine go_iload K H83 d11_305 rfl ?_
    refine go_iconst (4) K H83 d11_307 (by decide) ?_
    show Go w _ _ 308 #[.val (.int u0), .val (.int u1), .val (.int u2), .val (.int u3), .val (.int (oN pN)), .val (.int (oN qN)), .val (.ref x), .val (.ref y), .val (.ref a), .val (.ref p), .val (.ref o), .val (.int 1)] [(.int (oN 4)), (.int (oN pN)), (.long (hF pN 4 + hF qN 4))]
    refine go_callS [(.int (oN pN)), (.int (oN 4))] K H83 d11_308 (hw _ (List.mem_of_getElem? (i := 60) rfl)) (hw _ (List.mem_of_getElem? (i := 61) rfl)) (hw _ (List.mem_of_getElem? (i := 42) rfl)) (hw _ (List.mem_of_getElem? (i := 62) rfl)) (st' := [(.long (hF pN 4 + hF qN 4))]) (by decide) (rmS Z a0 hw _ n0 (at_size K H83) pN 4 (by omega) (by decide)) pd9 rfl rfl rfl (by decide) (W := 2) rfl (by decide) (by decide) (by decide) fun T86 h86 v86 H86 q86 => ?_
    obtain ⟨z86, rfl, ep4, rfl⟩ := q86
    show Go w _ _ 311 #[.val (.int u0), .val (.int u1), .val (.int u2), .val (.int u3), .val (.int (oN pN)), .val (.int (oN qN)), .val (.ref x), .val (.ref y), .val (.ref a), .val (.ref p), .val (.ref o), .val (.int 1)] [(.long z86), (.long (hF pN 4 + hF qN 4))]
    refine go_iload K H86 d11_311 rfl ?_
    refine go_iconst (4) K H86 d11_313 (by decide) ?_
    show Go w _ _ 314 #[.val (.int u0), .val (.int u1), .val (.int u2), .val (.int u3), .val (.int (oN pN)), .val (.int (oN qN)), .val (.ref x), .val (.ref y), .val (.ref a), .val (.ref p), .val (.ref o), .val (.int 1)] [(.int (oN 4)), (.int (oN qN)), (.long z86), (.long (hF pN 4 + hF qN 4))]
    refine go_callS [(.int (oN qN)), (.int (oN 4))] K H86 d11_314 (hw _ (List.mem_of_getElem? (i := 60) rfl)) (hw _ (List.mem_of_getElem? (i := 61) rfl)) (hw _ (List.mem_of_getElem? (i := 42) rfl)) (hw _ (List.mem_of_getElem? (i := 62) rfl)) (st' := [(.long z86), (.long (hF pN 4 + hF qN 4))]) (by decide) (rmS Z a0 hw _ n0 (at_size K H86) qN 4 (by omega) (by decide)) pd9 rfl rfl rfl (by decide) (W := 4) rfl (by decide) (by decide) (by decide) fun T87 h87 v87 H87 q87 => ?_
    obtain ⟨z87, rfl, eq4, rfl⟩ := q87
    show Go w _ _ 317 #[.val (.int u0), .val (.int u1), .val (.int u2), .val (.int u3), .val (.int (oN pN)), .val (.int (oN qN)), .val (.ref x), .val (.ref y), .val (.ref a), .val (.ref p), .val (.ref o), .val (.int 1)] [(.long z87), (.long z86), (.long (hF pN 4 + hF qN 4))]
    refine go_ladd K H87 d11_317 fun v88 ev88 => ?_
    have fv88 := f_ladd ev88
    have rv88 := rng64 v88
    refine go_lcmp K H87 d11_318 fun v89 ev89 => ?_
    have fv89 := f_lcmp ev89
    refine go_if_ne K H87 d11_319 (fun cc => False.elim (by exact cc (by rw [ev89, ev88, ep4, eq4]; exact (lw_eq _ _).mpr rfl))) (fun cc => ?_)
    refine go_iconst (1) K H87 d11_322 (by decide) ?_
    refine go_goto K H87 d11_323 ?_
    refine go_istore K H87 d11_327 (L' := #[.val (.int u0), .val (.int u1), .val (.int u2), .val (.int u3), .val (.int (oN pN)), .val (.int (oN qN)), .val (.ref x), .val (.ref y), .val (.ref a), .val (.ref p), .val (.ref o), .val (.int 1)]) rfl ?_
    refine go_iload K H87 d11_329 rfl ?_
    refine go_if_eq K H87 d11_331 (fun cc => False.elim (by exact absurd cc (by decide))) (fun cc => ?_)
    refine go_aload K H87 d11_334 rfl rfl ?_
    refine go_iconst (5) K H87 d11_336 (by decide) ?_
    refine go_laload (5) K H87 d11_337 (B2) (by decide) (at_map1J (ord6 hpN hqN (k := 5) (by decide))) ?_
    refine go_iload K H87 d11_338 rfl ?_
    refine go_iconst (5) K H87 d11_340 (by decide) ?_
    show Go w _ _ 341 #[.val (.int u0), .val (.int u1), .val (.int u2), .val (.int u3), .val (.int (oN pN)), .val (.int (oN qN)), .val (.ref x), .val (.ref y), .val (.ref a), .val (.ref p), .val (.ref o), .val (.int 1)] [(.int (oN 5)), (.int (oN pN)), (.long (hF pN 5 + hF qN 5))]
    refine go_callS [(.int (oN pN)), (.int (oN 5))] K H87 d11_341 (hw _ (List.mem_of_getElem? (i := 60) rfl)) (hw _ (List.mem_of_getElem? (i := 61) rfl)) (hw _ (List.mem_of_getElem? (i := 42) rfl)) (hw _ (List.mem_of_getElem? (i := 62) rfl)) (st' := [(.long (hF pN 5 + hF qN 5))]) (by decide) (rmS Z a0 hw _ n0 (at_size K H87) pN 5 (by omega) (by decide)) pd9 rfl rfl rfl (by decide) (W := 2) rfl (by decide) (by decide) (by decide) fun T90 h90 v90 H90 q90 => ?_
    obtain ⟨z90, rfl, ep5, rfl⟩ := q90
    show Go w _ _ 344 #[.val (.int u0), .val (.int u1), .val (.int u2), .val (.int u3), .val (.int (oN pN)), .val (.int (oN qN)), .val (.ref x), .val (.ref y), .val (.ref a), .val (.ref p), .val (.ref o), .val (.int 1)] [(.long z90), (.long (hF pN 5 + hF qN 5))]
    refine go_iload K H90 d11_344 rfl ?_
    refine go_iconst (5) K H90 d11_346 (by decide) ?_
    show Go w _ _ 347 #[.val (.int u0), .val (.int u1), .val (.int u2), .val (.int u3), .val (.int (oN pN)), .val (.int (oN qN)), .val (.ref x), .val (.ref y), .val (.ref a), .val (.ref p), .val (.ref o), .val (.int 1)] [(.int (oN 5)), (.int (oN qN)), (.long z90), (.long (hF pN 5 + hF qN 5))]
    refine go_callS [(.int (oN qN)), (.int (oN 5))] K H90 d11_347 (hw _ (List.mem_of_getElem? (i := 60) rfl)) (hw _ (List.mem_of_getElem? (i := 61) rfl)) (hw _ (List.mem_of_getElem? (i := 42) rfl)) (hw _ (List.mem_of_getElem? (i := 62) rfl)) (st' := [(.long z90), (.long (hF pN 5 + hF qN 5))]) (by decide) (rmS Z a0 hw _ n0 (at_size K H90) qN 5 (by omega) (by decide)) pd9 rfl rfl rfl (by decide) (W := 4) rfl (by decide) (by decide) (by decide) fun T91 h91 v91 H91 q91 => ?_
    obtain ⟨z91, rfl, eq5, rfl⟩ := q91
    show Go w _ _ 350 #[.val (.int u0), .val (.int u1), .val (.int u2), .val (.int u3), .val (.int (oN pN)), .val (.int (oN qN)), .val (.ref x), .val (.ref y), .val (.ref a), .val (.ref p), .val (.ref o), .val (.int 1)] [(.long z91), (.long z90), (.long (hF pN 5 + hF qN 5))]
    refine go_ladd K H91 d11_350 fun v92 ev92 => ?_
    have fv92 := f_ladd ev92
    have rv92 := rng64 v92
    refine go_lcmp K H91 d11_351 fun v93 ev93 => ?_
    have fv93 := f_lcmp ev93
    refine go_if_ne K H91 d11_352 (fun cc => False.elim (by exact cc (by rw [ev93, ev92, ep5, eq5]; exact (lw_eq _ _).mpr rfl))) (fun cc => ?_)
    refine go_iconst (1) K H91 d11_355 (by decide) ?_
    refine go_goto K H91 d11_356 ?_
    refine go_istore K H91 d11_360 (L' := #[.val (.int u0), .val (.int u1), .val (.int u2), .val (.int u3), .val (.int (oN pN)), .val (.int (oN qN)), .val (.ref x), .val (.ref y), .val (.ref a), .val (.ref p), .val (.ref o), .val (.int 1)]) rfl ?_
    refine go_iload K H91 d11_362 rfl ?_
    exact go_zret K H91 d11_364 rfl (by decide) (by decide) (by decide) (rfl)
set_option maxRecDepth 65536 in
set_option maxHeartbeats 40000000 in
theorem own_law (l : Launch) (s : State) (args : Array Value) (hF : heapFits s = true) (hrest : True) (hg : (Jvm.Cond.and given_1 narrow_1).value args s none s [] = some true) (hw : ∀ d ∈ tables_1, d.before args s = true) : Con l s x code maxLocals ret room_1 args s.heap s.heap.size (RI fun z _ => z = 1) := by
  obtain ⟨hg, hn⟩ := and_e hg
  obtain ⟨g0, hg⟩ := and_e hg
  obtain ⟨w0, w1, w2, w3, rfl⟩ : ∃ w0 w1 w2 w3 : Value, args = #[w0, w1, w2, w3] := by
    have hs : args.size = 4 := by simpa [Cond.value, given_1] using g0
    obtain ⟨L⟩ := args
    match L, hs with
    | [w0, w1, w2, w3], _ => exact ⟨w0, w1, w2, w3, rfl⟩
  obtain ⟨g1, hg⟩ := and_e hg
  obtain ⟨i0, ei0⟩ := is_v g1
  obtain rfl : w0 = (.int i0) := Option.some.inj ei0
  obtain ⟨g2, hg⟩ := and_e hg
  obtain ⟨i1, ei1⟩ := is_v g2
  obtain rfl : w1 = (.int i1) := Option.some.inj ei1
  obtain ⟨g3, hg⟩ := and_e hg
  obtain ⟨i2, ei2⟩ := is_v g3
  obtain rfl : w2 = (.int i2) := Option.some.inj ei2
  obtain ⟨i3, ei3⟩ := is_v hg
  obtain rfl : w3 = (.int i3) := Option.some.inj ei3
  obtain ⟨n1, hn⟩ := and_e hn
  obtain ⟨n2, hn⟩ := and_e hn
  obtain ⟨m0, hn⟩ := and_e hn
  obtain ⟨m1, hn⟩ := and_e hn
  obtain ⟨m2, hn⟩ := and_e hn
  obtain ⟨m3, hn⟩ := and_e hn
  obtain ⟨m4, hn⟩ := and_e hn
  obtain ⟨m5, hn⟩ := and_e hn
  obtain ⟨fa, ev⟩ := arr_v n1
  obtain ⟨c, A⟩ := Arr.start ev n1
  have hs := len_size (eqI_v n2) ev A.1
  have AF : IA s s.heap fa [1, 1, 2, 6, 24, 120, 720] := by
    refine VA.of_arr A (Int.ofNat.inj hs) (by decide) fun i hi => ?_
    have : i = 0 ∨ i = 1 ∨ i = 2 ∨ i = 3 ∨ i = 4 ∨ i = 5 ∨ i = 6 := by simp at hi; omega
    rcases this with rfl | rfl | rfl | rfl | rfl | rfl | rfl
    · exact elem_val (eqI_v m0) ev A.1
    · exact elem_val (eqI_v m1) ev A.1
    · exact elem_val (eqI_v m2) ev A.1
    · exact elem_val (eqI_v m3) ev A.1
    · exact elem_val (eqI_v m4) ev A.1
    · exact elem_val (eqI_v m5) ev A.1
    · exact elem_val (eqI_v hn) ev A.1
  exact rm0 s _ hw i0 i1 i2 i3 s.heap s.heap.size (Nat.le_refl _) fa (Sta.start ev (Or.inr ⟨(hw _ (List.mem_of_getElem? (i := 4) rfl)), (hw _ (List.mem_of_getElem? (i := 48) rfl))⟩)) AF A.lt l
theorem main_1_1 : Claimed_1_1 := own_comes (ck := 24) (sk := 192) (fun _ _ _ _ _ _ h hF => ⟨h.1, hF⟩) (by decide) (by decide) fun l _ _ s args hF hr hg hw => own_law l s args hF trivial hg hw
theorem main_1_2 : Claimed_1_2 := own_comes (ck := 24) (sk := 192) (fun _ _ _ _ _ _ h hF => ⟨h.2, hF⟩) (by decide) (by decide) fun l _ _ s args hF hr hg hw => own_law l s args hF trivial hg hw
end Jvm.Pilot.@@N@@
namespace Jvm.Pilot.@@N@@
open Jvm Jvm.ClassFile Sem Op Lib Jvm.Free Jvm.Stand Jvm.Pilot.@@N@@.Jvm.D
/-! MADE BY PROGRAM (witnessworld.py) out of the Statement's table words and the real class files: 11 classes; the members and pool entries that the words name. The judged class is class 1, her method 6. -/
namespace start1
open Jvm.ClassFile
def u (s : String) : CpInfo := .utf8 (stringToUtf16 s)
/-- a pool by its gaps: so many unusable entries, then the entry; so many at the end -/
def gap : Nat → List CpInfo → List CpInfo
  | 0, r => r
  | n + 1, r => .unusable :: gap n r
def poolList (es : List (Nat × CpInfo)) (last : Nat) : List CpInfo := es.foldr (fun e r => gap e.1 (e.2 :: r)) (gap last [])
def pool (es : List (Nat × CpInfo)) (last : Nat) : Array CpInfo := ⟨poolList es last⟩
def fileOf (pool : Array CpInfo) (this : Nat) (attrs : Array Attribute := #[]) (ms : Array MethodInfo := #[]) (fl : Nat := 33) (sup : Nat := 0) (ifs : Array Nat := #[]) (fds : Array FieldInfo := #[]) : ClassFile where
  minorVersion := 0
  majorVersion := 65
  constantPool := pool
  accessFlags := fl
  thisClass := this
  superClass := sup
  interfaces := ifs
  fields := fds
  methods := ms
  attributes := attrs
def plain (name : String) (sup : Option ClassId) : Class where
  name := name
  kind := .ordinary
  loader := none
  accessFlags := 33
  super := sup
  interfaces := #[]
  cf := none
  fields := #[]
  methods := #[]
  instanceTypes := #[]
  staticTypes := #[]
  resolved := #[]
  callSites := []
  init := .initialized
  statics := none
  mirror := none

def pool0 : Array CpInfo := pool [(5, u "<init>"), (0, u "()V"), (1, .class_ 10), (1, u "java/lang/Object")] 113

def k0c0 : Code := { maxStack := 0, maxLocals := 1, code := object_method_1_code, exceptionTable := #[], attributes := #[] }
def k0m0 : Method := { name := "<init>", desc := "()V", sig := { parameters := [], returnType := none }, accessFlags := 1, code := some k0c0 }
/-- java/lang/Object -/
def k0 : Class := { plain "java/lang/Object" none with
  accessFlags := 33
  interfaces := #[]
  cf := some (fileOf pool0 8 #[] #[{ accessFlags := 1, nameIndex := 5, descriptorIndex := 6, attributes := #[] }] 33 0 #[] #[])
  fields := #[]
  methods := #[k0m0]
  instanceTypes := #[]
  staticTypes := #[]
  resolved := Array.replicate 124 none
  statics := none }

def pool1 : Array CpInfo := pool [(2, .class_ 4), (1, u "java/lang/Object"), (0, u "<init>"), (0, u "()V"), (0, .methodref 8 9), (0, .class_ 10), (0, .nameAndType 11 12), (0, u "com/example/evenhand/evenhand/DeckTallyAddPinLaw"), (0, u "hit"), (0, u "([III)J"), (0, .integer 2147483647), (0, .methodref 8 15), (0, .nameAndType 16 17), (0, u "perm3"), (0, u "(I)[I"), (0, .class_ 19), (0, u "com/example/evenhand/evenhand/DeckTally"), (0, .methodref 18 21), (0, .nameAndType 5 22), (0, u "(I)V"), (0, .methodref 18 24), (0, .nameAndType 25 26), (0, u "add"), (0, u "([I)V"), (0, .methodref 18 28), (0, .nameAndType 29 30), (0, u "decks"), (0, u "()J"), (0, .long 2), (1, .methodref 18 34), (0, .nameAndType 35 36), (0, u "positions"), (0, u "()[J"), (0, .methodref 18 38), (0, .nameAndType 39 36), (0, u "orders"), (0, .methodref 8 41), (0, .nameAndType 42 43), (0, u "row3"), (0, u "([J[I[II)Z"), (0, .methodref 8 45), (0, .nameAndType 46 47), (0, u "same"), (0, u "(II)J"), (0, .methodref 8 49), (0, .nameAndType 50 51), (0, u "col7"), (0, u "([J[III)Z"), (3, u "law"), (0, u "(IIII)Z")] 6

def k1m0 : Method := { name := "<init>", desc := "()V", sig := { parameters := [], returnType := none }, accessFlags := 1, code := none }
def k1c1 : Code := { maxStack := 4, maxLocals := 1, code := method_2_code, exceptionTable := #[], attributes := #[] }
def k1m1 : Method := { name := "perm3", desc := "(I)[I", sig := { parameters := [.int], returnType := some (.array .int) }, accessFlags := 10, code := some k1c1 }
def k1c2 : Code := { maxStack := 2, maxLocals := 3, code := method_3_code, exceptionTable := #[], attributes := #[] }
def k1m2 : Method := { name := "hit", desc := "([III)J", sig := { parameters := [(.array .int), .int, .int], returnType := some .long }, accessFlags := 10, code := some k1c2 }
def k1c3 : Code := { maxStack := 2, maxLocals := 2, code := method_4_code, exceptionTable := #[], attributes := #[] }
def k1m3 : Method := { name := "same", desc := "(II)J", sig := { parameters := [.int, .int], returnType := some .long }, accessFlags := 10, code := some k1c3 }
def k1c4 : Code := { maxStack := 7, maxLocals := 4, code := method_5_code, exceptionTable := #[], attributes := #[] }
def k1m4 : Method := { name := "row3", desc := "([J[I[II)Z", sig := { parameters := [(.array .long), (.array .int), (.array .int), .int], returnType := some .boolean }, accessFlags := 10, code := some k1c4 }
def k1c5 : Code := { maxStack := 4, maxLocals := 5, code := method_6_code, exceptionTable := #[], attributes := #[] }
def k1m5 : Method := { name := "col7", desc := "([J[III)Z", sig := { parameters := [(.array .long), (.array .int), .int, .int], returnType := some .boolean }, accessFlags := 10, code := some k1c5 }
def k1c6 : Code := { maxStack := 6, maxLocals := 12, code := code, exceptionTable := #[], attributes := #[] }
def k1m6 : Method := { name := "law", desc := "(IIII)Z", sig := { parameters := [.int, .int, .int, .int], returnType := some .boolean }, accessFlags := 9, code := some k1c6 }
/-- com/example/evenhand/evenhand/DeckTallyAddPinLaw -/
def k1 : Class := { plain "com/example/evenhand/evenhand/DeckTallyAddPinLaw" (some 0) with
  accessFlags := 49
  interfaces := #[]
  cf := some (fileOf pool1 8 #[] #[{ accessFlags := 1, nameIndex := 5, descriptorIndex := 6, attributes := #[] }, { accessFlags := 10, nameIndex := 16, descriptorIndex := 17, attributes := #[] }, { accessFlags := 10, nameIndex := 11, descriptorIndex := 12, attributes := #[] }, { accessFlags := 10, nameIndex := 46, descriptorIndex := 47, attributes := #[] }, { accessFlags := 10, nameIndex := 42, descriptorIndex := 43, attributes := #[] }, { accessFlags := 10, nameIndex := 50, descriptorIndex := 51, attributes := #[] }, { accessFlags := 9, nameIndex := 55, descriptorIndex := 56, attributes := #[] }] 49 2 #[] #[])
  fields := #[]
  methods := #[k1m0, k1m1, k1m2, k1m3, k1m4, k1m5, k1m6]
  instanceTypes := #[]
  staticTypes := #[]
  resolved := Array.replicate 63 none
  statics := none }

def pool2 : Array CpInfo := pool [(1, .methodref 2 3), (0, .class_ 4), (0, .nameAndType 5 6), (0, u "java/lang/Object"), (0, u "<init>"), (0, u "()V"), (0, .fieldref 8 9), (0, .class_ 10), (0, .nameAndType 11 12), (0, u "com/example/evenhand/evenhand/DeckTally"), (0, u "items"), (0, u "I"), (0, .fieldref 8 14), (0, .nameAndType 15 16), (0, u "positions"), (0, u "[J"), (0, .fieldref 8 18), (0, .nameAndType 19 20), (0, u "FACTORIALS"), (0, u "[I"), (0, .fieldref 8 22), (0, .nameAndType 23 16), (0, u "orders"), (0, .methodref 8 25), (0, .nameAndType 26 27), (0, u "rank"), (0, u "([I)I"), (0, .fieldref 8 29), (0, .nameAndType 30 31), (0, u "decks"), (0, u "J"), (0, u "MAX_ORDER_ITEMS"), (2, u "(I)V"), (3, u "add"), (0, u "([I)V"), (0, u "()J"), (1, u "()[J")] 3

def k2c0 : Code := { maxStack := 3, maxLocals := 2, code := prog_6_method_1_code, exceptionTable := #[], attributes := #[] }
def k2m0 : Method := { name := "<init>", desc := "(I)V", sig := { parameters := [.int], returnType := none }, accessFlags := 0, code := some k2c0 }
def k2c1 : Code := { maxStack := 6, maxLocals := 3, code := prog_6_method_2_code, exceptionTable := #[], attributes := #[] }
def k2m1 : Method := { name := "add", desc := "([I)V", sig := { parameters := [(.array .int)], returnType := none }, accessFlags := 0, code := some k2c1 }
def k2c2 : Code := { maxStack := 2, maxLocals := 1, code := prog_6_method_3_code, exceptionTable := #[], attributes := #[] }
def k2m2 : Method := { name := "decks", desc := "()J", sig := { parameters := [], returnType := some .long }, accessFlags := 0, code := some k2c2 }
def k2c3 : Code := { maxStack := 1, maxLocals := 1, code := prog_6_method_5_code, exceptionTable := #[], attributes := #[] }
def k2m3 : Method := { name := "positions", desc := "()[J", sig := { parameters := [], returnType := some (.array .long) }, accessFlags := 0, code := some k2c3 }
def k2c4 : Code := { maxStack := 1, maxLocals := 1, code := prog_6_method_6_code, exceptionTable := #[], attributes := #[] }
def k2m4 : Method := { name := "orders", desc := "()[J", sig := { parameters := [], returnType := some (.array .long) }, accessFlags := 0, code := some k2c4 }
def k2c5 : Code := { maxStack := 3, maxLocals := 6, code := prog_6_method_7_code, exceptionTable := #[], attributes := #[] }
def k2m5 : Method := { name := "rank", desc := "([I)I", sig := { parameters := [(.array .int)], returnType := some .int }, accessFlags := 2, code := some k2c5 }
/-- com/example/evenhand/evenhand/DeckTally -/
def k2 : Class := { plain "com/example/evenhand/evenhand/DeckTally" (some 0) with
  accessFlags := 48
  interfaces := #[]
  cf := some (fileOf pool2 8 #[] #[{ accessFlags := 0, nameIndex := 5, descriptorIndex := 35, attributes := #[] }, { accessFlags := 0, nameIndex := 39, descriptorIndex := 40, attributes := #[] }, { accessFlags := 0, nameIndex := 30, descriptorIndex := 41, attributes := #[] }, { accessFlags := 0, nameIndex := 15, descriptorIndex := 43, attributes := #[] }, { accessFlags := 0, nameIndex := 23, descriptorIndex := 43, attributes := #[] }, { accessFlags := 2, nameIndex := 26, descriptorIndex := 27, attributes := #[] }] 48 2 #[] #[{ accessFlags := 24, nameIndex := 32, descriptorIndex := 12, attributes := #[] }, { accessFlags := 26, nameIndex := 19, descriptorIndex := 20, attributes := #[] }, { accessFlags := 18, nameIndex := 11, descriptorIndex := 12, attributes := #[] }, { accessFlags := 18, nameIndex := 15, descriptorIndex := 16, attributes := #[] }, { accessFlags := 18, nameIndex := 23, descriptorIndex := 16, attributes := #[] }, { accessFlags := 2, nameIndex := 30, descriptorIndex := 31, attributes := #[] }])
  fields := #[{ name := "MAX_ORDER_ITEMS", type := .int, accessFlags := 24, slot := 0, constantValue := 0 }, { name := "FACTORIALS", type := (.array .int), accessFlags := 26, slot := 1, constantValue := 0 }, { name := "items", type := .int, accessFlags := 18, slot := 0, constantValue := 0 }, { name := "positions", type := (.array .long), accessFlags := 18, slot := 1, constantValue := 0 }, { name := "orders", type := (.array .long), accessFlags := 18, slot := 2, constantValue := 0 }, { name := "decks", type := .long, accessFlags := 2, slot := 3, constantValue := 0 }]
  methods := #[k2m0, k2m1, k2m2, k2m3, k2m4, k2m5]
  instanceTypes := #[.int, (.array .long), (.array .long), .long]
  staticTypes := #[.int, (.array .int)]
  resolved := Array.replicate 47 none
  statics := some 0 }

def pool3 : Array CpInfo := pool [(1, u "java/lang/Cloneable"), (0, .class_ 1), (0, u "java/lang/Object"), (0, .class_ 3)] 3

/-- java/lang/Cloneable -/
def k3 : Class := { plain "java/lang/Cloneable" (some 0) with
  accessFlags := 1537
  interfaces := #[]
  cf := some (fileOf pool3 2 #[] #[] 1537 4 #[] #[])
  fields := #[]
  methods := #[]
  instanceTypes := #[]
  staticTypes := #[]
  resolved := Array.replicate 8 none
  statics := none }

def pool4 : Array CpInfo := pool [(1, u "java/io/Serializable"), (0, .class_ 1), (0, u "java/lang/Object"), (0, .class_ 3)] 3

/-- java/io/Serializable -/
def k4 : Class := { plain "java/io/Serializable" (some 0) with
  accessFlags := 1537
  interfaces := #[]
  cf := some (fileOf pool4 2 #[] #[] 1537 4 #[] #[])
  fields := #[]
  methods := #[]
  instanceTypes := #[]
  staticTypes := #[]
  resolved := Array.replicate 8 none
  statics := none }

/-- the primitive byte -/
def k5 : Class := { plain "byte" none with kind := .primitive 'B', accessFlags := 0x411 }
/-- [B -/
def k6 : Class := { plain "[B" (some 0) with kind := .array 5 .byte, interfaces := #[3, 4], accessFlags := 1041 }

/-- the primitive int -/
def k7 : Class := { plain "int" none with kind := .primitive 'I', accessFlags := 0x411 }
/-- [I -/
def k8 : Class := { plain "[I" (some 0) with kind := .array 7 .int, interfaces := #[3, 4], accessFlags := 1041 }

/-- the primitive long -/
def k9 : Class := { plain "long" none with kind := .primitive 'J', accessFlags := 0x411 }
/-- [J -/
def k10 : Class := { plain "[J" (some 0) with kind := .array 9 .long, interfaces := #[3, 4], accessFlags := 1041 }

def heap : Heap := #[{ cls := 2, slots := #[.int 0, .ref 1], vm := .statics 2 },
  { cls := 8, slots := #[.int 1, .int 1, .int 2, .int 6, .int 24, .int 120, .int 720], vm := .none }]
def classes : Array Class := #[k0, k1, k2, k3, k4, k5, k6, k7, k8, k9, k10]
def interned : List (Array UInt16 × Addr) := []
def slotsUsed : Nat := 9
def theMethod : MethodId := ⟨1, 6⟩
def args0 : Array Value := #[.int 0, .int 1, .int 2, .int 3]
def aboutOver (below : List Frame) : State where
  vm := { classes := classes, interned := interned.toArray }
  heap := heap
  slotsUsed := slotsUsed
  threads := #[{ frames := .invoking theMethod args0 :: below }]
def below0 : List Frame := [.native { method := ⟨0, 0⟩, args := #[] }]
def about1 : State := aboutOver below0
def p0 : Program := .bare "" "" ""
def e0 : Env := launch0.env 0 0 0
theorem w_frames : about1.frames = Frame.invoking theMethod args0 :: below0 := rfl
set_option maxRecDepth 65536 in
theorem w_args : argsFit about1.vm theMethod args0 = true := by decide +kernel
set_option maxRecDepth 65536 in
theorem w_heap : heapFits about1 = true := by decide +kernel
set_option maxRecDepth 65536 in
theorem w_runnable : about1.curStatus? = some .runnable := by decide +kernel
set_option maxRecDepth 65536 in
theorem w_alone : about1.alone = true := by decide +kernel
set_option maxRecDepth 65536 in
theorem w_named : about1.methodNamed? x = some theMethod := by decide +kernel
set_option maxRecDepth 65536 in
theorem w_hears : about1.hears theMethod below0 = true := by decide +kernel
set_option maxRecDepth 65536 in
theorem w_ripe : about1.ripe theMethod args0 below0 = true := by decide +kernel
theorem w_running : about1.status = .running := rfl
set_option maxRecDepth 65536 in
theorem w_room : about1.hasRoom e0.platform room_1 = true :=
  launch0.hasRoom_least _ room_1 (by decide +kernel) (by decide +kernel) (by decide +kernel) (by decide +kernel) (by decide +kernel) (by decide +kernel)
theorem allAtoms_all (ts : List Jvm.Cond) (a : Array Jvm.Value) (st : Jvm.State) : (allAtoms ts).before a st = ts.all (fun c => c.before a st) := by
  induction ts with
  | nil => rfl
  | cons c t ih =>
    show (Jvm.Cond.and c (allAtoms t)).before a st = _
    rw [Jvm.Cond.before_and, ih, List.all_cons]
def words1 : List Jvm.Cond := Jvm.Cond.code x code maxLocals ret :: tables_1
/-- a 'code' word, met by the world's own term for the bytes: nothing is compared byte by byte -/
theorem code_word {y : MethodName} {bytes : ByteArray} {mx : Nat} {rt : Option FieldType} {a : Array Value} {s : State} {m : MethodId} {meth : Method} {c : Code} (h1 : s.methodNamed? y = some m) (h2 : s.vm.method? m = some meth) (h3 : meth.code = some c) (h4 : c.code = bytes)
    (h5 : (c.maxLocals == mx && c.exceptionTable.isEmpty && decide (c.maxStack ≤ mostOperands) && decide (meth.sig.returnType = rt) && !meth.locks && decide (parseMethodDescriptor y.desc = some meth.sig)) = true) : (Jvm.Cond.code y bytes mx rt).before a s = true := by
  simp only [Bool.and_eq_true, beq_iff_eq, Bool.not_eq_true', decide_eq_true_eq] at h5
  obtain ⟨⟨⟨⟨⟨g1, g2⟩, g3⟩, g4⟩, g5⟩, g6⟩ := h5
  simp [Cond.before, Cond.holds, Cond.value, h1, h2, h3, h4, g1, g2, g3, g4, g5, g6]
def isCode : Jvm.Cond → Bool
  | .code _ _ _ _ => true
  | _ => false
theorem all_split {L : List Jvm.Cond} {P : Jvm.Cond → Bool} (h1 : L.all (fun c => isCode c || P c) = true) (h2 : ∀ c ∈ L.filter isCode, P c = true) : L.all P = true := by
  refine List.all_eq_true.mpr fun c hc => ?_
  have h := List.all_eq_true.mp h1 c hc
  rcases Bool.eq_false_or_eq_true (isCode c) with hi | hi
  · exact h2 c (List.mem_filter.mpr ⟨hc, hi⟩)
  · simpa [hi] using h
set_option maxRecDepth 65536 in
theorem w_c0 : (Jvm.Cond.code x code maxLocals ret).before args0 about1 = true := code_word (m := ⟨1, 6⟩) (meth := k1m6) (c := k1c6) (by decide +kernel) rfl rfl rfl (by decide +kernel)
set_option maxRecDepth 65536 in
theorem w_c1 : (Jvm.Cond.code ({ cls := "com/example/evenhand/evenhand/DeckTally", name := "<init>", desc := "(I)V" } : Jvm.MethodName) prog_6_method_1_code (2 : Nat) (Option.none : Option Jvm.ClassFile.FieldType)).before args0 about1 = true := code_word (m := ⟨2, 0⟩) (meth := k2m0) (c := k2c0) (by decide +kernel) rfl rfl rfl (by decide +kernel)
set_option maxRecDepth 65536 in
theorem w_c2 : (Jvm.Cond.code ({ cls := "java/lang/Object", name := "<init>", desc := "()V" } : Jvm.MethodName) object_method_1_code (1 : Nat) (Option.none : Option Jvm.ClassFile.FieldType)).before args0 about1 = true := code_word (m := ⟨0, 0⟩) (meth := k0m0) (c := k0c0) (by decide +kernel) rfl rfl rfl (by decide +kernel)
set_option maxRecDepth 65536 in
theorem w_c3 : (Jvm.Cond.code ({ cls := "com/example/evenhand/evenhand/DeckTally", name := "add", desc := "([I)V" } : Jvm.MethodName) prog_6_method_2_code (3 : Nat) (Option.none : Option Jvm.ClassFile.FieldType)).before args0 about1 = true := code_word (m := ⟨2, 1⟩) (meth := k2m1) (c := k2c1) (by decide +kernel) rfl rfl rfl (by decide +kernel)
set_option maxRecDepth 65536 in
theorem w_c4 : (Jvm.Cond.code ({ cls := "com/example/evenhand/evenhand/DeckTally", name := "decks", desc := "()J" } : Jvm.MethodName) prog_6_method_3_code (1 : Nat) (Option.some Jvm.ClassFile.FieldType.long)).before args0 about1 = true := code_word (m := ⟨2, 2⟩) (meth := k2m2) (c := k2c2) (by decide +kernel) rfl rfl rfl (by decide +kernel)
set_option maxRecDepth 65536 in
theorem w_c5 : (Jvm.Cond.code ({ cls := "com/example/evenhand/evenhand/DeckTally", name := "orders", desc := "()[J" } : Jvm.MethodName) prog_6_method_6_code (1 : Nat) (Option.some (Jvm.ClassFile.FieldType.array Jvm.ClassFile.FieldType.long))).before args0 about1 = true := code_word (m := ⟨2, 4⟩) (meth := k2m4) (c := k2c4) (by decide +kernel) rfl rfl rfl (by decide +kernel)
set_option maxRecDepth 65536 in
theorem w_c6 : (Jvm.Cond.code ({ cls := "com/example/evenhand/evenhand/DeckTally", name := "positions", desc := "()[J" } : Jvm.MethodName) prog_6_method_5_code (1 : Nat) (Option.some (Jvm.ClassFile.FieldType.array Jvm.ClassFile.FieldType.long))).before args0 about1 = true := code_word (m := ⟨2, 3⟩) (meth := k2m3) (c := k2c3) (by decide +kernel) rfl rfl rfl (by decide +kernel)
set_option maxRecDepth 65536 in
theorem w_c7 : (Jvm.Cond.code ({ cls := "com/example/evenhand/evenhand/DeckTallyAddPinLaw", name := "col7", desc := "([J[III)Z" } : Jvm.MethodName) method_6_code (5 : Nat) (Option.some Jvm.ClassFile.FieldType.boolean)).before args0 about1 = true := code_word (m := ⟨1, 5⟩) (meth := k1m5) (c := k1c5) (by decide +kernel) rfl rfl rfl (by decide +kernel)
set_option maxRecDepth 65536 in
theorem w_c8 : (Jvm.Cond.code ({ cls := "com/example/evenhand/evenhand/DeckTallyAddPinLaw", name := "perm3", desc := "(I)[I" } : Jvm.MethodName) method_2_code (1 : Nat) (Option.some (Jvm.ClassFile.FieldType.array Jvm.ClassFile.FieldType.int))).before args0 about1 = true := code_word (m := ⟨1, 1⟩) (meth := k1m1) (c := k1c1) (by decide +kernel) rfl rfl rfl (by decide +kernel)
set_option maxRecDepth 65536 in
theorem w_c9 : (Jvm.Cond.code ({ cls := "com/example/evenhand/evenhand/DeckTally", name := "rank", desc := "([I)I" } : Jvm.MethodName) prog_6_method_7_code (6 : Nat) (Option.some Jvm.ClassFile.FieldType.int)).before args0 about1 = true := code_word (m := ⟨2, 5⟩) (meth := k2m5) (c := k2c5) (by decide +kernel) rfl rfl rfl (by decide +kernel)
set_option maxRecDepth 65536 in
theorem w_c10 : (Jvm.Cond.code ({ cls := "com/example/evenhand/evenhand/DeckTallyAddPinLaw", name := "row3", desc := "([J[I[II)Z" } : Jvm.MethodName) method_5_code (4 : Nat) (Option.some Jvm.ClassFile.FieldType.boolean)).before args0 about1 = true := code_word (m := ⟨1, 4⟩) (meth := k1m4) (c := k1c4) (by decide +kernel) rfl rfl rfl (by decide +kernel)
set_option maxRecDepth 65536 in
theorem w_c11 : (Jvm.Cond.code ({ cls := "com/example/evenhand/evenhand/DeckTallyAddPinLaw", name := "hit", desc := "([III)J" } : Jvm.MethodName) method_3_code (3 : Nat) (Option.some Jvm.ClassFile.FieldType.long)).before args0 about1 = true := code_word (m := ⟨1, 2⟩) (meth := k1m2) (c := k1c2) (by decide +kernel) rfl rfl rfl (by decide +kernel)
set_option maxRecDepth 65536 in
theorem w_c12 : (Jvm.Cond.code ({ cls := "com/example/evenhand/evenhand/DeckTallyAddPinLaw", name := "same", desc := "(II)J" } : Jvm.MethodName) method_4_code (2 : Nat) (Option.some Jvm.ClassFile.FieldType.long)).before args0 about1 = true := code_word (m := ⟨1, 3⟩) (meth := k1m3) (c := k1c3) (by decide +kernel) rfl rfl rfl (by decide +kernel)
def codes1 : List Jvm.Cond := [Jvm.Cond.code x code maxLocals ret, Jvm.Cond.code ({ cls := "com/example/evenhand/evenhand/DeckTally", name := "<init>", desc := "(I)V" } : Jvm.MethodName) prog_6_method_1_code (2 : Nat) (Option.none : Option Jvm.ClassFile.FieldType), Jvm.Cond.code ({ cls := "java/lang/Object", name := "<init>", desc := "()V" } : Jvm.MethodName) object_method_1_code (1 : Nat) (Option.none : Option Jvm.ClassFile.FieldType), Jvm.Cond.code ({ cls := "com/example/evenhand/evenhand/DeckTally", name := "add", desc := "([I)V" } : Jvm.MethodName) prog_6_method_2_code (3 : Nat) (Option.none : Option Jvm.ClassFile.FieldType), Jvm.Cond.code ({ cls := "com/example/evenhand/evenhand/DeckTally", name := "decks", desc := "()J" } : Jvm.MethodName) prog_6_method_3_code (1 : Nat) (Option.some Jvm.ClassFile.FieldType.long), Jvm.Cond.code ({ cls := "com/example/evenhand/evenhand/DeckTally", name := "orders", desc := "()[J" } : Jvm.MethodName) prog_6_method_6_code (1 : Nat) (Option.some (Jvm.ClassFile.FieldType.array Jvm.ClassFile.FieldType.long)), Jvm.Cond.code ({ cls := "com/example/evenhand/evenhand/DeckTally", name := "positions", desc := "()[J" } : Jvm.MethodName) prog_6_method_5_code (1 : Nat) (Option.some (Jvm.ClassFile.FieldType.array Jvm.ClassFile.FieldType.long)), Jvm.Cond.code ({ cls := "com/example/evenhand/evenhand/DeckTallyAddPinLaw", name := "col7", desc := "([J[III)Z" } : Jvm.MethodName) method_6_code (5 : Nat) (Option.some Jvm.ClassFile.FieldType.boolean), Jvm.Cond.code ({ cls := "com/example/evenhand/evenhand/DeckTallyAddPinLaw", name := "perm3", desc := "(I)[I" } : Jvm.MethodName) method_2_code (1 : Nat) (Option.some (Jvm.ClassFile.FieldType.array Jvm.ClassFile.FieldType.int)), Jvm.Cond.code ({ cls := "com/example/evenhand/evenhand/DeckTally", name := "rank", desc := "([I)I" } : Jvm.MethodName) prog_6_method_7_code (6 : Nat) (Option.some Jvm.ClassFile.FieldType.int), Jvm.Cond.code ({ cls := "com/example/evenhand/evenhand/DeckTallyAddPinLaw", name := "row3", desc := "([J[I[II)Z" } : Jvm.MethodName) method_5_code (4 : Nat) (Option.some Jvm.ClassFile.FieldType.boolean), Jvm.Cond.code ({ cls := "com/example/evenhand/evenhand/DeckTallyAddPinLaw", name := "hit", desc := "([III)J" } : Jvm.MethodName) method_3_code (3 : Nat) (Option.some Jvm.ClassFile.FieldType.long), Jvm.Cond.code ({ cls := "com/example/evenhand/evenhand/DeckTallyAddPinLaw", name := "same", desc := "(II)J" } : Jvm.MethodName) method_4_code (2 : Nat) (Option.some Jvm.ClassFile.FieldType.long)]
set_option maxRecDepth 65536 in
theorem codes_eq : words1.filter isCode = codes1 := rfl
theorem w_codes : ∀ c ∈ words1.filter isCode, c.before args0 about1 = true := by
  rw [codes_eq]
  intro c hc
  simp only [codes1, List.mem_cons, List.not_mem_nil, or_false] at hc
  rcases hc with rfl | rfl | rfl | rfl | rfl | rfl | rfl | rfl | rfl | rfl | rfl | rfl | rfl
  · exact w_c0
  · exact w_c1
  · exact w_c2
  · exact w_c3
  · exact w_c4
  · exact w_c5
  · exact w_c6
  · exact w_c7
  · exact w_c8
  · exact w_c9
  · exact w_c10
  · exact w_c11
  · exact w_c12
set_option maxRecDepth 65536 in
theorem w_t1 : (words1.take 24).all (fun c => isCode c || c.before args0 about1) = true := by decide +kernel
set_option maxRecDepth 65536 in
theorem w_t2 : ((words1.drop 24).take 24).all (fun c => isCode c || c.before args0 about1) = true := by decide +kernel
set_option maxRecDepth 65536 in
theorem w_t3 : ((words1.drop 24).drop 24).all (fun c => isCode c || c.before args0 about1) = true := by decide +kernel
theorem w_tables : (allAtoms (Jvm.Cond.code x code maxLocals ret :: tables_1)).before args0 about1 = true := by
  rw [allAtoms_all]
  show words1.all (fun c => c.before args0 about1) = true
  refine all_split ?_ w_codes
  rw [← List.take_append_drop 24 words1, List.all_append, w_t1, ← List.take_append_drop 24 (words1.drop 24), List.all_append, w_t2, w_t3]
  rfl
set_option maxRecDepth 65536 in
theorem w_case : (Jvm.Cond.and given_1 narrow_1).before args0 about1 = true := by decide +kernel
theorem w_applies : (headSpec (Jvm.Cond.code x code maxLocals ret :: tables_1) room_1).applies x e0.platform about1 = true :=
  (Spec.applies_iff w_frames).mpr ⟨w_running, w_runnable, w_alone, w_named, w_hears, w_ripe, w_room, w_tables⟩
theorem atStart : AtStart classFile x code maxLocals ret World_1 tables_1 room_1 Calls_1 rest_1 Pre_1 launch0 p0 e0 about1 theMethod args0 below0 :=
  ⟨lists_1, trivial, launch0.admits_env _ _ _, launch0.least_env, fairChoices_fair.cas, fairChoices_fair.clock, w_frames, w_args, w_heap, w_applies, trivial, trivial, w_case⟩
end start1
theorem witness_1 : WitnessClaimed_1 := ⟨start1.p0, start1.e0, start1.about1, start1.theMethod, start1.args0, start1.below0, start1.atStart⟩
end Jvm.Pilot.@@N@@
