import JvmDerived
import JvmDerived.Pilot.@@N@@Statement
import JvmDerived.Pilot.@@N@@Code
set_option linter.unusedVariables false
set_option linter.unusedSimpArgs false
namespace Jvm.RoadKit
open Sem ClassFile Op Lib Jvm.Stand Jvm.Free Jvm.LawKit
theorem Ext.keep {h h' : Heap} (E : Ext h h') (ws : List Addr) : Keep h h' ws := (Keep.refl _ _).ext E
theorem Keep.toExt {h h' : Heap} (K : Keep h h' []) : Ext h h' := ⟨K.1, fun a c q => K.2.1 a c q nin0⟩
theorem Sta.keep {Z : State} {h : Heap} {C f d : String} {v : Value} {h' : Heap} {ws : List Addr} (F : Sta Z h C f d v) (K : Keep h h' ws) (q : ∀ x ∈ ws, ∃ c : Cell, h[x]? = some c ∧ c.vm.isStatics = false) : Sta Z h' C f d v := by
  obtain ⟨cf, i, k, f, st, cell, h1, h2, h3, h4, h5, h6, h7⟩ := F
  exact ⟨cf, i, k, f, st, cell, h1, h2, h3, h4, K.2.1 st cell h5 (fun z => by obtain ⟨c, e1, e2⟩ := q st z; cases e1.symm.trans h5; rw [e2] at h6; cases h6), h6, h7⟩
theorem Ins.keep {Z : State} {h : Heap} {a : Addr} {C : String} {b : Bool} {h' : Heap} {ws : List Addr} (F : Ins Z h a C b) (K : Keep h h' ws) : Ins Z h' a C b := by
  obtain ⟨cell, cT, h1, h2, h3⟩ := F
  obtain ⟨c', q, r1, r2, -⟩ := K.2.2 a cell h1
  exact ⟨c', cT, q, h2, by rw [r1, r2]; exact h3⟩
end Jvm.RoadKit
namespace Jvm.Pilot.@@N@@
open Jvm Jvm.ClassFile Sem Op Lib Jvm.Free Jvm.Stand Jvm.LawKit Jvm.RoadKit Bundle Jvm.Pilot.@@N@@.Jvm.D
/-- what a walk is about: all that is fixed while one body runs -/
abbrev Wk : Type := Program × Launch × Env × Room × State × MethodId × Array Value × List Frame × Method × Code × State × Nat
def Cx (w : Wk) (R : Room) (Z : State) (n0 : Nat) (own : String) (bytes : ByteArray) (mx : Nat) (rt : Option FieldType) (nm : String) : Prop :=
  match w with
  | ⟨p, _, _, R', s, m, _, _, meth, c, Z', k⟩ => p.tables.exec = Jvm.exec ∧ c.code = bytes ∧ c.maxLocals = mx ∧ s.vm.findClass own = some m.cls ∧ Z.Warmed39 s.vm ∧ meth.sig.returnType = rt ∧ meth.name = nm ∧ meth.locks = false ∧ R' = R ∧ Z' = Z ∧ k = n0 ∧ n0 ≤ s.heap.size
def At1 (w : Wk) (T : State) (h : Heap) (k n : Nat) : Prop :=
  match w with
  | ⟨p, l, e, R, s, m, args, below, meth, c, _, n0⟩ => ∃ locs, Stand p l e R s m args below meth c T locs k n ∧ T.heap = h ∧ Fr n0 locs
def Go (w : Wk) (Q : Option Value → Heap → Prop) (T : State) (pc : Nat) (L : Array Slot) (st : List Value) : Prop :=
  match w with
  | ⟨p, _, e, R, s, m, _, below, _, _, _, n0⟩ => ∃ s₂ o, Steps p.tables e below (T.setTop (mkF m pc L st)) s₂ ∧ s₂.status = .running ∧ Ended s₂ below o ∧ ∃ v Lc, o = .returned v ∧ (Q v s₂.heap ∧ Fr n0 Lc) ∧ FrameEnd s o s₂ Lc R.cells R.slots
def Dc (bytes : ByteArray) (pc : Nat) (i : Instr) (n pc' : Nat) : Prop := decode bytes pc = .ok (i, n) ∧ pc + n = pc'
/-- a callee's contract -/
def Con (l : Launch) (Z : State) (y : MethodName) (bytes : ByteArray) (mx : Nat) (rt : Option FieldType) (R : Room) (as' : Array Value) (h0 : Heap) (n0 : Nat) (Q : Option Value → Heap → Prop) : Prop :=
  ∀ ws, MetFree l y (head1 (Jvm.Cond.code y bytes mx rt :: ws) R) (fun a U => a = as' ∧ Z.Warmed39 U.vm ∧ U.heap = h0) (fun _ _ _ _ _ => True) (fun _ U o U' => ∃ v L, o = .returned v ∧ (Q v U'.heap ∧ Fr n0 L) ∧ FrameEnd U o U' L R.cells R.slots)
def RI (P : Int32 → Heap → Prop) : Option Value → Heap → Prop := fun v h => ∃ z : Int32, v = some (.int z) ∧ P z h
def RL (P : Int64 → Heap → Prop) : Option Value → Heap → Prop := fun v h => ∃ z : Int64, v = some (.long z) ∧ P z h
def RR (P : Value → Heap → Prop) : Option Value → Heap → Prop := fun v h => ∃ z : Value, v = some z ∧ z.isRef = true ∧ P z h
def RV (P : Heap → Prop) : Option Value → Heap → Prop := fun v h => v = none ∧ P h
/-- Java's x >>> y -/
def iU (x y : Int32) : Int32 := (x.toUInt32 >>> (y &&& 31).toUInt32).toInt32
def lU (x : Int64) (y : Int32) : Int64 := (x.toUInt64 >>> (y &&& 0x3f).toInt64.toUInt64).toInt64
section Own
variable {w : Wk} {R : Room} {Z : State} {n0 : Nat} {own : String} {bytes : ByteArray} {mx : Nat} {rt : Option FieldType} {nm : String} {T : State} {h : Heap} {k n : Nat} {Q : Option Value → Heap → Prop} {pc pc' : Nat} {L L' : Array Slot} {st st' : List Value}
theorem con_intro {l : Launch} {y : MethodName} {as' : Array Value} {h0 : Heap} (hp : plainFor y = true) (hef : ∀ m, entryFrame m as' mx = mkF m 0 L []) (hz : n0 ≤ h0.size)
    (body : ∀ w T, Cx w R Z n0 y.cls bytes mx rt y.name → At1 w T h0 0 0 → Go w Q T 0 L []) : Con l Z y bytes mx rt R as' h0 n0 Q := by
  intro ws
  refine MetFree.of_bodySF hp hisR ?_
  intro p e s m args below meth c s₁ Bd hml0 hP hK
  obtain ⟨rfl, hZ, hh⟩ := hP
  have X0 : Stand p l e R s m args below meth c s₁ [] 0 0 := Stand.of_body Bd
  have e0 : s₁.heap = h0 := by rw [← hh, Bd.state]; rfl
  have B := body ⟨p, l, e, R, s, m, args, below, meth, c, Z, n0⟩ s₁ ⟨Bd.exec, Bd.bytes, hml0, findClass_of_methodNamed Bd.named, hZ, Bd.returns, (name_of_methodNamed Bd.named Bd.method).1, Bd.notSynchronized, rfl, rfl, rfl, by rw [hh]; exact hz⟩ ⟨[], X0, e0, Fr.nil n0⟩
  obtain ⟨s₂, o, h1, h2⟩ := B
  exact ⟨s₂, o, castTop (hef m) h1, h2⟩
theorem go_step (K : Cx w R Z n0 own bytes mx rt nm) (H : At1 w T h k n)
    (hs : ∀ (p : Program) (e : Env) (m : MethodId) (below : List Frame) (c : Code), p.tables.exec = Jvm.exec → c.code = bytes → At T m c below → ∀ t, Steps p.tables e below (T.setTop (mkF m pc' L' st')) t → Steps p.tables e below (T.setTop (mkF m pc L st)) t)
    (G : Go w Q T pc' L' st') : Go w Q T pc L st := by
  obtain ⟨p, l, e, R', s, m, args, below, meth, c, Z', k0⟩ := w
  obtain ⟨hx, hby, -⟩ := K
  obtain ⟨locs, X, -⟩ := H
  obtain ⟨s₂, o, h1, h2⟩ := G
  exact ⟨s₂, o, hs p e m below c hx hby X.here _ h1, h2⟩
theorem dcb {c : Code} {i : Instr} {q : Nat} (hby : c.code = bytes) (d : Dc bytes pc i q pc') : decode c.code pc = .ok (i, q) := by rw [hby]; exact d.1
theorem go_iadd {x y : Int32} (K : Cx w R Z n0 own bytes mx rt nm) (H : At1 w T h k n) (d : Dc bytes pc .iadd 1 pc') (G : ∀ z : Int32, z = x + y → Go w Q T pc' L (.int z :: st)) : Go w Q T pc L (.int y :: .int x :: st) := by
  obtain ⟨d1, rfl⟩ := d
  exact go_step K H (fun p e m below c hx hby hA t kk => XS.iadd hA hx rfl (by rw [hby]; exact d1) rfl kk) (G _ rfl)
theorem go_ladd {x y : Int64} (K : Cx w R Z n0 own bytes mx rt nm) (H : At1 w T h k n) (d : Dc bytes pc .ladd 1 pc') (G : ∀ z : Int64, z = x + y → Go w Q T pc' L (.long z :: st)) : Go w Q T pc L (.long y :: .long x :: st) := by
  obtain ⟨d1, rfl⟩ := d
  exact go_step K H (fun p e m below c hx hby hA t kk => XS.ladd hA hx rfl (by rw [hby]; exact d1) rfl kk) (G _ rfl)
theorem go_isub {x y : Int32} (K : Cx w R Z n0 own bytes mx rt nm) (H : At1 w T h k n) (d : Dc bytes pc .isub 1 pc') (G : ∀ z : Int32, z = x - y → Go w Q T pc' L (.int z :: st)) : Go w Q T pc L (.int y :: .int x :: st) := by
  obtain ⟨d1, rfl⟩ := d
  exact go_step K H (fun p e m below c hx hby hA t kk => XS.isub hA hx rfl (by rw [hby]; exact d1) rfl kk) (G _ rfl)
theorem go_lsub {x y : Int64} (K : Cx w R Z n0 own bytes mx rt nm) (H : At1 w T h k n) (d : Dc bytes pc .lsub 1 pc') (G : ∀ z : Int64, z = x - y → Go w Q T pc' L (.long z :: st)) : Go w Q T pc L (.long y :: .long x :: st) := by
  obtain ⟨d1, rfl⟩ := d
  exact go_step K H (fun p e m below c hx hby hA t kk => XS.lsub hA hx rfl (by rw [hby]; exact d1) rfl kk) (G _ rfl)
theorem go_imul {x y : Int32} (K : Cx w R Z n0 own bytes mx rt nm) (H : At1 w T h k n) (d : Dc bytes pc .imul 1 pc') (G : ∀ z : Int32, z = x * y → Go w Q T pc' L (.int z :: st)) : Go w Q T pc L (.int y :: .int x :: st) := by
  obtain ⟨d1, rfl⟩ := d
  exact go_step K H (fun p e m below c hx hby hA t kk => XS.imul hA hx rfl (by rw [hby]; exact d1) rfl kk) (G _ rfl)
theorem go_lmul {x y : Int64} (K : Cx w R Z n0 own bytes mx rt nm) (H : At1 w T h k n) (d : Dc bytes pc .lmul 1 pc') (G : ∀ z : Int64, z = x * y → Go w Q T pc' L (.long z :: st)) : Go w Q T pc L (.long y :: .long x :: st) := by
  obtain ⟨d1, rfl⟩ := d
  exact go_step K H (fun p e m below c hx hby hA t kk => XS.lmul hA hx rfl (by rw [hby]; exact d1) rfl kk) (G _ rfl)
theorem go_iand {x y : Int32} (K : Cx w R Z n0 own bytes mx rt nm) (H : At1 w T h k n) (d : Dc bytes pc .iand 1 pc') (G : ∀ z : Int32, z = x &&& y → Go w Q T pc' L (.int z :: st)) : Go w Q T pc L (.int y :: .int x :: st) := by
  obtain ⟨d1, rfl⟩ := d
  exact go_step K H (fun p e m below c hx hby hA t kk => XS.iand hA hx rfl (by rw [hby]; exact d1) rfl kk) (G _ rfl)
theorem go_land {x y : Int64} (K : Cx w R Z n0 own bytes mx rt nm) (H : At1 w T h k n) (d : Dc bytes pc .land 1 pc') (G : ∀ z : Int64, z = x &&& y → Go w Q T pc' L (.long z :: st)) : Go w Q T pc L (.long y :: .long x :: st) := by
  obtain ⟨d1, rfl⟩ := d
  exact go_step K H (fun p e m below c hx hby hA t kk => XS.land hA hx rfl (by rw [hby]; exact d1) rfl kk) (G _ rfl)
theorem go_ior {x y : Int32} (K : Cx w R Z n0 own bytes mx rt nm) (H : At1 w T h k n) (d : Dc bytes pc .ior 1 pc') (G : ∀ z : Int32, z = x ||| y → Go w Q T pc' L (.int z :: st)) : Go w Q T pc L (.int y :: .int x :: st) := by
  obtain ⟨d1, rfl⟩ := d
  exact go_step K H (fun p e m below c hx hby hA t kk => XS.ior hA hx rfl (by rw [hby]; exact d1) rfl kk) (G _ rfl)
theorem go_lor {x y : Int64} (K : Cx w R Z n0 own bytes mx rt nm) (H : At1 w T h k n) (d : Dc bytes pc .lor 1 pc') (G : ∀ z : Int64, z = x ||| y → Go w Q T pc' L (.long z :: st)) : Go w Q T pc L (.long y :: .long x :: st) := by
  obtain ⟨d1, rfl⟩ := d
  exact go_step K H (fun p e m below c hx hby hA t kk => XS.lor hA hx rfl (by rw [hby]; exact d1) rfl kk) (G _ rfl)
theorem go_ixor {x y : Int32} (K : Cx w R Z n0 own bytes mx rt nm) (H : At1 w T h k n) (d : Dc bytes pc .ixor 1 pc') (G : ∀ z : Int32, z = x ^^^ y → Go w Q T pc' L (.int z :: st)) : Go w Q T pc L (.int y :: .int x :: st) := by
  obtain ⟨d1, rfl⟩ := d
  exact go_step K H (fun p e m below c hx hby hA t kk => XS.ixor hA hx rfl (by rw [hby]; exact d1) rfl kk) (G _ rfl)
theorem go_lxor {x y : Int64} (K : Cx w R Z n0 own bytes mx rt nm) (H : At1 w T h k n) (d : Dc bytes pc .lxor 1 pc') (G : ∀ z : Int64, z = x ^^^ y → Go w Q T pc' L (.long z :: st)) : Go w Q T pc L (.long y :: .long x :: st) := by
  obtain ⟨d1, rfl⟩ := d
  exact go_step K H (fun p e m below c hx hby hA t kk => XS.lxor hA hx rfl (by rw [hby]; exact d1) rfl kk) (G _ rfl)
theorem go_ishl {x y : Int32} (K : Cx w R Z n0 own bytes mx rt nm) (H : At1 w T h k n) (d : Dc bytes pc .ishl 1 pc') (G : ∀ z : Int32, z = x <<< (y &&& 31) → Go w Q T pc' L (.int z :: st)) : Go w Q T pc L (.int y :: .int x :: st) := by
  obtain ⟨d1, rfl⟩ := d
  exact go_step K H (fun p e m below c hx hby hA t kk => XS.ishl hA hx rfl (by rw [hby]; exact d1) rfl kk) (G _ rfl)
theorem go_ishr {x y : Int32} (K : Cx w R Z n0 own bytes mx rt nm) (H : At1 w T h k n) (d : Dc bytes pc .ishr 1 pc') (G : ∀ z : Int32, z = x >>> (y &&& 31) → Go w Q T pc' L (.int z :: st)) : Go w Q T pc L (.int y :: .int x :: st) := by
  obtain ⟨d1, rfl⟩ := d
  exact go_step K H (fun p e m below c hx hby hA t kk => XS.ishr hA hx rfl (by rw [hby]; exact d1) rfl kk) (G _ rfl)
theorem go_iushr {x y : Int32} (K : Cx w R Z n0 own bytes mx rt nm) (H : At1 w T h k n) (d : Dc bytes pc .iushr 1 pc') (G : ∀ z : Int32, z = iU x y → Go w Q T pc' L (.int z :: st)) : Go w Q T pc L (.int y :: .int x :: st) := by
  obtain ⟨d1, rfl⟩ := d
  exact go_step K H (fun p e m below c hx hby hA t kk => XS.iushr hA hx rfl (by rw [hby]; exact d1) rfl kk) (G _ rfl)
theorem go_lshl {x : Int64} {y : Int32} (K : Cx w R Z n0 own bytes mx rt nm) (H : At1 w T h k n) (d : Dc bytes pc .lshl 1 pc') (G : ∀ z : Int64, z = x <<< (y &&& 0x3f).toInt64 → Go w Q T pc' L (.long z :: st)) : Go w Q T pc L (.int y :: .long x :: st) := by
  obtain ⟨d1, rfl⟩ := d
  exact go_step K H (fun p e m below c hx hby hA t kk => XS.lshl hA hx rfl (by rw [hby]; exact d1) rfl kk) (G _ rfl)
theorem go_lshr {x : Int64} {y : Int32} (K : Cx w R Z n0 own bytes mx rt nm) (H : At1 w T h k n) (d : Dc bytes pc .lshr 1 pc') (G : ∀ z : Int64, z = x >>> (y &&& 0x3f).toInt64 → Go w Q T pc' L (.long z :: st)) : Go w Q T pc L (.int y :: .long x :: st) := by
  obtain ⟨d1, rfl⟩ := d
  exact go_step K H (fun p e m below c hx hby hA t kk => XS.lshr hA hx rfl (by rw [hby]; exact d1) rfl kk) (G _ rfl)
theorem go_lushr {x : Int64} {y : Int32} (K : Cx w R Z n0 own bytes mx rt nm) (H : At1 w T h k n) (d : Dc bytes pc .lushr 1 pc') (G : ∀ z : Int64, z = lU x y → Go w Q T pc' L (.long z :: st)) : Go w Q T pc L (.int y :: .long x :: st) := by
  obtain ⟨d1, rfl⟩ := d
  exact go_step K H (fun p e m below c hx hby hA t kk => XS.lushr hA hx rfl (by rw [hby]; exact d1) rfl kk) (G _ rfl)
theorem go_idiv {x y : Int32} (K : Cx w R Z n0 own bytes mx rt nm) (H : At1 w T h k n) (d : Dc bytes pc .idiv 1 pc') (hy : y ≠ 0) (G : ∀ z : Int32, z = x / y → Go w Q T pc' L (.int z :: st)) : Go w Q T pc L (.int y :: .int x :: st) := by
  obtain ⟨d1, rfl⟩ := d
  exact go_step K H (fun p e m below c hx hby hA t kk => XS.idiv hA hx rfl (by rw [hby]; exact d1) rfl hy kk) (G _ rfl)
theorem go_irem (K : Cx w R Z n0 own bytes mx rt nm) (H : At1 w T h k n) {x y : Int32} (d : Dc bytes pc .irem 1 pc') (hy : y ≠ 0) (G : ∀ z : Int32, z = x % y → Go w Q T pc' L (.int z :: st)) : Go w Q T pc L (.int y :: .int x :: st) := by
  obtain ⟨d1, rfl⟩ := d
  exact go_step K H (fun p e m below c hx hby hA t kk => XS.irem hA hx rfl (by rw [hby]; exact d1) rfl hy (by rw [irem_eq_mod]; exact kk)) (G _ rfl)
theorem go_ldiv {x y : Int64} (K : Cx w R Z n0 own bytes mx rt nm) (H : At1 w T h k n) (d : Dc bytes pc .ldiv 1 pc') (hy : y ≠ 0) (G : ∀ z : Int64, z = x / y → Go w Q T pc' L (.long z :: st)) : Go w Q T pc L (.long y :: .long x :: st) := by
  obtain ⟨d1, rfl⟩ := d
  exact go_step K H (fun p e m below c hx hby hA t kk => XS.ldiv hA hx rfl (by rw [hby]; exact d1) rfl hy kk) (G _ rfl)
theorem go_lrem {x y : Int64} (K : Cx w R Z n0 own bytes mx rt nm) (H : At1 w T h k n) (d : Dc bytes pc .lrem 1 pc') (hy : y ≠ 0) (G : ∀ z : Int64, z = x - (x / y) * y → Go w Q T pc' L (.long z :: st)) : Go w Q T pc L (.long y :: .long x :: st) := by
  obtain ⟨d1, rfl⟩ := d
  exact go_step K H (fun p e m below c hx hby hA t kk => XS.lrem hA hx rfl (by rw [hby]; exact d1) rfl hy kk) (G _ rfl)
theorem go_ineg {x : Int32} (K : Cx w R Z n0 own bytes mx rt nm) (H : At1 w T h k n) (d : Dc bytes pc .ineg 1 pc') (G : ∀ z : Int32, z = -x → Go w Q T pc' L (.int z :: st)) : Go w Q T pc L (.int x :: st) := by
  obtain ⟨d1, rfl⟩ := d
  exact go_step K H (fun p e m below c hx hby hA t kk => XS.ineg hA hx rfl (by rw [hby]; exact d1) rfl kk) (G _ rfl)
theorem go_lneg {x : Int64} (K : Cx w R Z n0 own bytes mx rt nm) (H : At1 w T h k n) (d : Dc bytes pc .lneg 1 pc') (G : ∀ z : Int64, z = -x → Go w Q T pc' L (.long z :: st)) : Go w Q T pc L (.long x :: st) := by
  obtain ⟨d1, rfl⟩ := d
  exact go_step K H (fun p e m below c hx hby hA t kk => XS.lneg hA hx rfl (by rw [hby]; exact d1) rfl kk) (G _ rfl)
theorem go_i2l {x : Int32} (K : Cx w R Z n0 own bytes mx rt nm) (H : At1 w T h k n) (d : Dc bytes pc .i2l 1 pc') (G : ∀ z : Int64, z = x.toInt64 → Go w Q T pc' L (.long z :: st)) : Go w Q T pc L (.int x :: st) := by
  obtain ⟨d1, rfl⟩ := d
  exact go_step K H (fun p e m below c hx hby hA t kk => XS.i2l hA hx rfl (by rw [hby]; exact d1) rfl kk) (G _ rfl)
theorem go_l2i {x : Int64} (K : Cx w R Z n0 own bytes mx rt nm) (H : At1 w T h k n) (d : Dc bytes pc .l2i 1 pc') (G : ∀ z : Int32, z = x.toInt32 → Go w Q T pc' L (.int z :: st)) : Go w Q T pc L (.long x :: st) := by
  obtain ⟨d1, rfl⟩ := d
  exact go_step K H (fun p e m below c hx hby hA t kk => XS.l2i hA hx rfl (by rw [hby]; exact d1) rfl kk) (G _ rfl)
theorem go_i2b {x : Int32} (K : Cx w R Z n0 own bytes mx rt nm) (H : At1 w T h k n) (d : Dc bytes pc .i2b 1 pc') (G : ∀ z : Int32, z = x.toInt8.toInt32 → Go w Q T pc' L (.int z :: st)) : Go w Q T pc L (.int x :: st) := by
  obtain ⟨d1, rfl⟩ := d
  exact go_step K H (fun p e m below c hx hby hA t kk => XS.i2b hA hx rfl (by rw [hby]; exact d1) rfl kk) (G _ rfl)
theorem go_i2c {x : Int32} (K : Cx w R Z n0 own bytes mx rt nm) (H : At1 w T h k n) (d : Dc bytes pc .i2c 1 pc') (G : ∀ z : Int32, z = x.toUInt32.toUInt16.toUInt32.toInt32 → Go w Q T pc' L (.int z :: st)) : Go w Q T pc L (.int x :: st) := by
  obtain ⟨d1, rfl⟩ := d
  exact go_step K H (fun p e m below c hx hby hA t kk => XS.i2c hA hx rfl (by rw [hby]; exact d1) rfl kk) (G _ rfl)
theorem go_i2s {x : Int32} (K : Cx w R Z n0 own bytes mx rt nm) (H : At1 w T h k n) (d : Dc bytes pc .i2s 1 pc') (G : ∀ z : Int32, z = x.toInt16.toInt32 → Go w Q T pc' L (.int z :: st)) : Go w Q T pc L (.int x :: st) := by
  obtain ⟨d1, rfl⟩ := d
  exact go_step K H (fun p e m below c hx hby hA t kk => XS.i2s hA hx rfl (by rw [hby]; exact d1) rfl kk) (G _ rfl)
theorem go_lcmp {x y : Int64} (K : Cx w R Z n0 own bytes mx rt nm) (H : At1 w T h k n) (d : Dc bytes pc .lcmp 1 pc') (G : ∀ z : Int32, z = lcmpW x y → Go w Q T pc' L (.int z :: st)) : Go w Q T pc L (.long y :: .long x :: st) := by
  obtain ⟨d1, rfl⟩ := d
  exact go_step K H (fun p e m below c hx hby hA t kk => XS.lcmp hA hx rfl (by rw [hby]; exact d1) rfl kk) (G _ rfl)
theorem go_iloadN {j : Fin 4} {v : Int32} (K : Cx w R Z n0 own bytes mx rt nm) (H : At1 w T h k n) (d : Dc bytes pc (.iload_n j) 1 pc') (hl : L[j.val]? = some (.val (.int v))) (G : Go w Q T pc' L (.int v :: st)) : Go w Q T pc L st := by
  obtain ⟨d1, rfl⟩ := d
  exact go_step K H (fun p e m below c hx hby hA t kk => XS.iloadN hA hx rfl (by rw [hby]; exact d1) hl kk) G
theorem go_iload {j : Nat} {v : Int32} (K : Cx w R Z n0 own bytes mx rt nm) (H : At1 w T h k n) (d : Dc bytes pc (.iload j) 2 pc') (hl : L[j]? = some (.val (.int v))) (G : Go w Q T pc' L (.int v :: st)) : Go w Q T pc L st := by
  obtain ⟨d1, rfl⟩ := d
  exact go_step K H (fun p e m below c hx hby hA t kk => XS.iload hA hx rfl (by rw [hby]; exact d1) hl kk) G
theorem go_lloadN {j : Fin 4} {v : Int64} (K : Cx w R Z n0 own bytes mx rt nm) (H : At1 w T h k n) (d : Dc bytes pc (.lload_n j) 1 pc') (hl : L[j.val]? = some (.val (.long v))) (G : Go w Q T pc' L (.long v :: st)) : Go w Q T pc L st := by
  obtain ⟨d1, rfl⟩ := d
  exact go_step K H (fun p e m below c hx hby hA t kk => XS.lloadN hA hx rfl (by rw [hby]; exact d1) hl kk) G
theorem go_lload {j : Nat} {v : Int64} (K : Cx w R Z n0 own bytes mx rt nm) (H : At1 w T h k n) (d : Dc bytes pc (.lload j) 2 pc') (hl : L[j]? = some (.val (.long v))) (G : Go w Q T pc' L (.long v :: st)) : Go w Q T pc L st := by
  obtain ⟨d1, rfl⟩ := d
  exact go_step K H (fun p e m below c hx hby hA t kk => XS.lload hA hx rfl (by rw [hby]; exact d1) hl kk) G
theorem go_aloadN {j : Fin 4} {v : Value} (K : Cx w R Z n0 own bytes mx rt nm) (H : At1 w T h k n) (d : Dc bytes pc (.aload_n j) 1 pc') (hl : L[j.val]? = some (.val v)) (hv : v.isRef = true) (G : Go w Q T pc' L (v :: st)) : Go w Q T pc L st := by
  obtain ⟨d1, rfl⟩ := d
  exact go_step K H (fun p e m below c hx hby hA t kk => XS.aloadN hA hx rfl (by rw [hby]; exact d1) hl hv kk) G
theorem go_aload {j : Nat} {v : Value} (K : Cx w R Z n0 own bytes mx rt nm) (H : At1 w T h k n) (d : Dc bytes pc (.aload j) 2 pc') (hl : L[j]? = some (.val v)) (hv : v.isRef = true) (G : Go w Q T pc' L (v :: st)) : Go w Q T pc L st := by
  obtain ⟨d1, rfl⟩ := d
  exact go_step K H (fun p e m below c hx hby hA t kk => XS.aload hA hx rfl (by rw [hby]; exact d1) hl hv kk) G
theorem go_istoreN {j : Fin 4} {v : Int32} (K : Cx w R Z n0 own bytes mx rt nm) (H : At1 w T h k n) (d : Dc bytes pc (.istore_n j) 1 pc') (hl : storeLocals L j.val (.int v) = some L') (G : Go w Q T pc' L' st) : Go w Q T pc L (.int v :: st) := by
  obtain ⟨d1, rfl⟩ := d
  exact go_step K H (fun p e m below c hx hby hA t kk => XS.istoreN hA hx rfl (by rw [hby]; exact d1) rfl hl kk) G
theorem go_istore {j : Nat} {v : Int32} (K : Cx w R Z n0 own bytes mx rt nm) (H : At1 w T h k n) (d : Dc bytes pc (.istore j) 2 pc') (hl : storeLocals L j (.int v) = some L') (G : Go w Q T pc' L' st) : Go w Q T pc L (.int v :: st) := by
  obtain ⟨d1, rfl⟩ := d
  exact go_step K H (fun p e m below c hx hby hA t kk => XS.istore hA hx rfl (by rw [hby]; exact d1) rfl hl kk) G
theorem go_lstoreN {j : Fin 4} {v : Int64} (K : Cx w R Z n0 own bytes mx rt nm) (H : At1 w T h k n) (d : Dc bytes pc (.lstore_n j) 1 pc') (hl : storeLocals L j.val (.long v) = some L') (G : Go w Q T pc' L' st) : Go w Q T pc L (.long v :: st) := by
  obtain ⟨d1, rfl⟩ := d
  exact go_step K H (fun p e m below c hx hby hA t kk => XS.lstoreN hA hx rfl (by rw [hby]; exact d1) rfl hl kk) G
theorem go_lstore {j : Nat} {v : Int64} (K : Cx w R Z n0 own bytes mx rt nm) (H : At1 w T h k n) (d : Dc bytes pc (.lstore j) 2 pc') (hl : storeLocals L j (.long v) = some L') (G : Go w Q T pc' L' st) : Go w Q T pc L (.long v :: st) := by
  obtain ⟨d1, rfl⟩ := d
  exact go_step K H (fun p e m below c hx hby hA t kk => XS.lstore hA hx rfl (by rw [hby]; exact d1) rfl hl kk) G
theorem go_astoreN {j : Fin 4} {v : Value} (K : Cx w R Z n0 own bytes mx rt nm) (H : At1 w T h k n) (d : Dc bytes pc (.astore_n j) 1 pc') (hv : v.isRef = true) (hl : storeLocals L j.val v = some L') (G : Go w Q T pc' L' st) : Go w Q T pc L (v :: st) := by
  obtain ⟨d1, rfl⟩ := d
  exact go_step K H (fun p e m below c hx hby hA t kk => XS.astoreN hA hx rfl (by rw [hby]; exact d1) rfl hv hl kk) G
theorem go_astore {j : Nat} {v : Value} (K : Cx w R Z n0 own bytes mx rt nm) (H : At1 w T h k n) (d : Dc bytes pc (.astore j) 2 pc') (hv : v.isRef = true) (hl : storeLocals L j v = some L') (G : Go w Q T pc' L' st) : Go w Q T pc L (v :: st) := by
  obtain ⟨d1, rfl⟩ := d
  exact go_step K H (fun p e m below c hx hby hA t kk => XS.astore hA hx rfl (by rw [hby]; exact d1) rfl hv hl kk) G
theorem go_iinc {j : Nat} {cst : Int} {x z : Int32} (K : Cx w R Z n0 own bytes mx rt nm) (H : At1 w T h k n) (d : Dc bytes pc (.iinc j cst) 3 pc') (hl : L[j]? = some (.val (.int x))) (hz : z = x + Int32.ofInt cst) (hl' : storeLocals L j (.int z) = some L') (G : Go w Q T pc' L' st) : Go w Q T pc L st := by
  obtain ⟨d1, rfl⟩ := d
  exact go_step K H (fun p e m below c hx hby hA t kk => XS.iinc hA hx rfl (by rw [hby]; exact d1) hl (by rw [← hz]; exact hl') kk) G
theorem go_iconst {i : Int} (z : Int32) (K : Cx w R Z n0 own bytes mx rt nm) (H : At1 w T h k n) (d : Dc bytes pc (.iconst i) 1 pc') (hz : Int32.ofInt i = z) (G : Go w Q T pc' L (.int z :: st)) : Go w Q T pc L st := by
  obtain ⟨d1, rfl⟩ := d
  exact go_step K H (fun p e m below c hx hby hA t kk => XS.iconst hA hx rfl (by rw [hby]; exact d1) (by rw [hz]; exact kk)) G
theorem go_bipush {i : Int} (z : Int32) (K : Cx w R Z n0 own bytes mx rt nm) (H : At1 w T h k n) (d : Dc bytes pc (.bipush i) 2 pc') (hz : (Int8.ofInt i).toInt32 = z) (G : Go w Q T pc' L (.int z :: st)) : Go w Q T pc L st := by
  obtain ⟨d1, rfl⟩ := d
  exact go_step K H (fun p e m below c hx hby hA t kk => XS.bipush hA hx rfl (by rw [hby]; exact d1) (by rw [hz]; exact kk)) G
theorem go_sipush {i : Int} (z : Int32) (K : Cx w R Z n0 own bytes mx rt nm) (H : At1 w T h k n) (d : Dc bytes pc (.sipush i) 3 pc') (hz : (Int16.ofInt i).toInt32 = z) (G : Go w Q T pc' L (.int z :: st)) : Go w Q T pc L st := by
  obtain ⟨d1, rfl⟩ := d
  exact go_step K H (fun p e m below c hx hby hA t kk => XS.sipush hA hx rfl (by rw [hby]; exact d1) (by rw [hz]; exact kk)) G
theorem go_lconst {i : Fin 2} (z : Int64) (K : Cx w R Z n0 own bytes mx rt nm) (H : At1 w T h k n) (d : Dc bytes pc (.lconst i) 1 pc') (hz : Int64.ofNat i = z) (G : Go w Q T pc' L (.long z :: st)) : Go w Q T pc L st := by
  obtain ⟨d1, rfl⟩ := d
  exact go_step K H (fun p e m below c hx hby hA t kk => XS.lconst hA hx rfl (by rw [hby]; exact d1) (by rw [hz]; exact kk)) G
theorem go_null  (K : Cx w R Z n0 own bytes mx rt nm) (H : At1 w T h k n) (d : Dc bytes pc .aconst_null 1 pc') (G : Go w Q T pc' L (.null :: st)) : Go w Q T pc L st := by
  obtain ⟨d1, rfl⟩ := d
  exact go_step K H (fun p e m below c hx hby hA t kk => XS.aconstNull hA hx rfl (by rw [hby]; exact d1) kk) G
theorem go_dup {x : Value} (K : Cx w R Z n0 own bytes mx rt nm) (H : At1 w T h k n) (d : Dc bytes pc .dup 1 pc') (hc : x.category = 1) (G : Go w Q T pc' L (x :: x :: st)) : Go w Q T pc L (x :: st) := by
  obtain ⟨d1, rfl⟩ := d
  exact go_step K H (fun p e m below c hx hby hA t kk => XS.dup hA hx rfl (by rw [hby]; exact d1) rfl hc kk) G
theorem go_pop {x : Value} (K : Cx w R Z n0 own bytes mx rt nm) (H : At1 w T h k n) (d : Dc bytes pc .pop 1 pc') (hc : x.category = 1) (G : Go w Q T pc' L st) : Go w Q T pc L (x :: st) := by
  obtain ⟨d1, rfl⟩ := d
  exact go_step K H (fun p e m below c hx hby hA t kk => XS.pop hA hx rfl (by rw [hby]; exact d1) rfl hc kk) G
theorem go_dupX1 {x y : Value} (K : Cx w R Z n0 own bytes mx rt nm) (H : At1 w T h k n) (d : Dc bytes pc .dup_x1 1 pc') (hc : x.category = 1) (hc' : y.category = 1) (G : Go w Q T pc' L (x :: y :: x :: st)) : Go w Q T pc L (x :: y :: st) := by
  obtain ⟨d1, rfl⟩ := d
  exact go_step K H (fun p e m below c hx hby hA t kk => XS.dupX1 hA hx rfl (by rw [hby]; exact d1) rfl hc hc' kk) G
theorem go_dup2 {x y : Value} (K : Cx w R Z n0 own bytes mx rt nm) (H : At1 w T h k n) (d : Dc bytes pc .dup2 1 pc') (hc : x.category = 1) (hc' : y.category = 1) (G : Go w Q T pc' L (x :: y :: x :: y :: st)) : Go w Q T pc L (x :: y :: st) := by
  obtain ⟨d1, rfl⟩ := d
  exact go_step K H (fun p e m below c hx hby hA t kk => Jvm.Free.XT.dup2 hA hx rfl (by rw [hby]; exact d1) rfl hc hc' kk) G
theorem go_dup2L {x : Int64} (K : Cx w R Z n0 own bytes mx rt nm) (H : At1 w T h k n) (d : Dc bytes pc .dup2 1 pc') (G : Go w Q T pc' L (.long x :: .long x :: st)) : Go w Q T pc L (.long x :: st) := by
  obtain ⟨d1, rfl⟩ := d
  exact go_step K H (fun p e m below c hx hby hA t kk => Jvm.Free.XT.dup2L hA hx rfl (by rw [hby]; exact d1) rfl kk) G
def Jp (bytes : ByteArray) (pc : Nat) (i : Int → Instr) (yes no : Nat) : Prop := ∃ o : Int, decode bytes pc = .ok (i o, 3) ∧ 0 ≤ (pc : Int) + o ∧ ((pc : Int) + o).toNat = yes ∧ pc + 3 = no
theorem go_goto (K : Cx w R Z n0 own bytes mx rt nm) (H : At1 w T h k n) {no : Nat} (d : Jp bytes pc .goto pc' no) (G : Go w Q T pc' L st) : Go w Q T pc L st := by
  obtain ⟨o, d1, d2, d3, d4⟩ := d
  exact go_step K H (fun p e m below c hx hby hA t kk => XS.goto hA hx rfl rfl (by rw [hby]; exact d1) d2 d3 kk) G
theorem go_icmp_lt (K : Cx w R Z n0 own bytes mx rt nm) (H : At1 w T h k n) {x y : Int32} {yes no : Nat} (d : Jp bytes pc (.if_icmp .lt) yes no) (G1 : x < y → Go w Q T yes L st) (G2 : ¬ x < y → Go w Q T no L st) : Go w Q T pc L (.int y :: .int x :: st) := by
  obtain ⟨o, d1, d2, d3, rfl⟩ := d
  by_cases q : x < y
  · exact go_step K H (fun p e m below c hx hby hA t kk => XS.icmpYes hA hx rfl rfl (by rw [hby]; exact d1) rfl (tlt q).1 d2 d3 kk) (G1 q)
  · exact go_step K H (fun p e m below c hx hby hA t kk => XS.icmpNo hA hx rfl (by rw [hby]; exact d1) rfl (flt q).1 kk) (G2 q)
theorem go_if_lt (K : Cx w R Z n0 own bytes mx rt nm) (H : At1 w T h k n) {x : Int32} {yes no : Nat} (d : Jp bytes pc (.ifCond .lt) yes no) (G1 : x < (0 : Int32) → Go w Q T yes L st) (G2 : ¬ x < (0 : Int32) → Go w Q T no L st) : Go w Q T pc L (.int x :: st) := by
  obtain ⟨o, d1, d2, d3, rfl⟩ := d
  by_cases q : x < (0 : Int32)
  · exact go_step K H (fun p e m below c hx hby hA t kk => XS.ifYes hA hx rfl rfl (by rw [hby]; exact d1) rfl ((if0 _ _).trans (tlt q).1) d2 d3 kk) (G1 q)
  · exact go_step K H (fun p e m below c hx hby hA t kk => XS.ifNo hA hx rfl (by rw [hby]; exact d1) rfl ((if0 _ _).trans (flt q).1) kk) (G2 q)
theorem go_icmp_ge (K : Cx w R Z n0 own bytes mx rt nm) (H : At1 w T h k n) {x y : Int32} {yes no : Nat} (d : Jp bytes pc (.if_icmp .ge) yes no) (G1 : ¬ x < y → Go w Q T yes L st) (G2 : x < y → Go w Q T no L st) : Go w Q T pc L (.int y :: .int x :: st) := by
  obtain ⟨o, d1, d2, d3, rfl⟩ := d
  by_cases q : ¬ x < y
  · exact go_step K H (fun p e m below c hx hby hA t kk => XS.icmpYes hA hx rfl rfl (by rw [hby]; exact d1) rfl (flt q).2.1 d2 d3 kk) (G1 q)
  · exact go_step K H (fun p e m below c hx hby hA t kk => XS.icmpNo hA hx rfl (by rw [hby]; exact d1) rfl (tlt (Decidable.not_not.mp q)).2.1 kk) (G2 (Decidable.not_not.mp q))
theorem go_if_ge (K : Cx w R Z n0 own bytes mx rt nm) (H : At1 w T h k n) {x : Int32} {yes no : Nat} (d : Jp bytes pc (.ifCond .ge) yes no) (G1 : ¬ x < (0 : Int32) → Go w Q T yes L st) (G2 : x < (0 : Int32) → Go w Q T no L st) : Go w Q T pc L (.int x :: st) := by
  obtain ⟨o, d1, d2, d3, rfl⟩ := d
  by_cases q : ¬ x < (0 : Int32)
  · exact go_step K H (fun p e m below c hx hby hA t kk => XS.ifYes hA hx rfl rfl (by rw [hby]; exact d1) rfl ((if0 _ _).trans (flt q).2.1) d2 d3 kk) (G1 q)
  · exact go_step K H (fun p e m below c hx hby hA t kk => XS.ifNo hA hx rfl (by rw [hby]; exact d1) rfl ((if0 _ _).trans (tlt (Decidable.not_not.mp q)).2.1) kk) (G2 (Decidable.not_not.mp q))
theorem go_icmp_gt (K : Cx w R Z n0 own bytes mx rt nm) (H : At1 w T h k n) {x y : Int32} {yes no : Nat} (d : Jp bytes pc (.if_icmp .gt) yes no) (G1 : y < x → Go w Q T yes L st) (G2 : ¬ y < x → Go w Q T no L st) : Go w Q T pc L (.int y :: .int x :: st) := by
  obtain ⟨o, d1, d2, d3, rfl⟩ := d
  by_cases q : y < x
  · exact go_step K H (fun p e m below c hx hby hA t kk => XS.icmpYes hA hx rfl rfl (by rw [hby]; exact d1) rfl (tlt q).2.2.1 d2 d3 kk) (G1 q)
  · exact go_step K H (fun p e m below c hx hby hA t kk => XS.icmpNo hA hx rfl (by rw [hby]; exact d1) rfl (flt q).2.2.1 kk) (G2 q)
theorem go_if_gt (K : Cx w R Z n0 own bytes mx rt nm) (H : At1 w T h k n) {x : Int32} {yes no : Nat} (d : Jp bytes pc (.ifCond .gt) yes no) (G1 : (0 : Int32) < x → Go w Q T yes L st) (G2 : ¬ (0 : Int32) < x → Go w Q T no L st) : Go w Q T pc L (.int x :: st) := by
  obtain ⟨o, d1, d2, d3, rfl⟩ := d
  by_cases q : (0 : Int32) < x
  · exact go_step K H (fun p e m below c hx hby hA t kk => XS.ifYes hA hx rfl rfl (by rw [hby]; exact d1) rfl ((if0 _ _).trans (tlt q).2.2.1) d2 d3 kk) (G1 q)
  · exact go_step K H (fun p e m below c hx hby hA t kk => XS.ifNo hA hx rfl (by rw [hby]; exact d1) rfl ((if0 _ _).trans (flt q).2.2.1) kk) (G2 q)
theorem go_icmp_le (K : Cx w R Z n0 own bytes mx rt nm) (H : At1 w T h k n) {x y : Int32} {yes no : Nat} (d : Jp bytes pc (.if_icmp .le) yes no) (G1 : ¬ y < x → Go w Q T yes L st) (G2 : y < x → Go w Q T no L st) : Go w Q T pc L (.int y :: .int x :: st) := by
  obtain ⟨o, d1, d2, d3, rfl⟩ := d
  by_cases q : ¬ y < x
  · exact go_step K H (fun p e m below c hx hby hA t kk => XS.icmpYes hA hx rfl rfl (by rw [hby]; exact d1) rfl (flt q).2.2.2 d2 d3 kk) (G1 q)
  · exact go_step K H (fun p e m below c hx hby hA t kk => XS.icmpNo hA hx rfl (by rw [hby]; exact d1) rfl (tlt (Decidable.not_not.mp q)).2.2.2 kk) (G2 (Decidable.not_not.mp q))
theorem go_if_le (K : Cx w R Z n0 own bytes mx rt nm) (H : At1 w T h k n) {x : Int32} {yes no : Nat} (d : Jp bytes pc (.ifCond .le) yes no) (G1 : ¬ (0 : Int32) < x → Go w Q T yes L st) (G2 : (0 : Int32) < x → Go w Q T no L st) : Go w Q T pc L (.int x :: st) := by
  obtain ⟨o, d1, d2, d3, rfl⟩ := d
  by_cases q : ¬ (0 : Int32) < x
  · exact go_step K H (fun p e m below c hx hby hA t kk => XS.ifYes hA hx rfl rfl (by rw [hby]; exact d1) rfl ((if0 _ _).trans (flt q).2.2.2) d2 d3 kk) (G1 q)
  · exact go_step K H (fun p e m below c hx hby hA t kk => XS.ifNo hA hx rfl (by rw [hby]; exact d1) rfl ((if0 _ _).trans (tlt (Decidable.not_not.mp q)).2.2.2) kk) (G2 (Decidable.not_not.mp q))
theorem go_icmp_eq (K : Cx w R Z n0 own bytes mx rt nm) (H : At1 w T h k n) {x y : Int32} {yes no : Nat} (d : Jp bytes pc (.if_icmp .eq) yes no) (G1 : x = y → Go w Q T yes L st) (G2 : ¬ x = y → Go w Q T no L st) : Go w Q T pc L (.int y :: .int x :: st) := by
  obtain ⟨o, d1, d2, d3, rfl⟩ := d
  by_cases q : x = y
  · exact go_step K H (fun p e m below c hx hby hA t kk => XS.icmpYes hA hx rfl rfl (by rw [hby]; exact d1) rfl (teq q).1 d2 d3 kk) (G1 q)
  · exact go_step K H (fun p e m below c hx hby hA t kk => XS.icmpNo hA hx rfl (by rw [hby]; exact d1) rfl (feq q).1 kk) (G2 q)
theorem go_if_eq (K : Cx w R Z n0 own bytes mx rt nm) (H : At1 w T h k n) {x : Int32} {yes no : Nat} (d : Jp bytes pc (.ifCond .eq) yes no) (G1 : x = (0 : Int32) → Go w Q T yes L st) (G2 : ¬ x = (0 : Int32) → Go w Q T no L st) : Go w Q T pc L (.int x :: st) := by
  obtain ⟨o, d1, d2, d3, rfl⟩ := d
  by_cases q : x = (0 : Int32)
  · exact go_step K H (fun p e m below c hx hby hA t kk => XS.ifYes hA hx rfl rfl (by rw [hby]; exact d1) rfl ((if0 _ _).trans (teq q).1) d2 d3 kk) (G1 q)
  · exact go_step K H (fun p e m below c hx hby hA t kk => XS.ifNo hA hx rfl (by rw [hby]; exact d1) rfl ((if0 _ _).trans (feq q).1) kk) (G2 q)
theorem go_icmp_ne (K : Cx w R Z n0 own bytes mx rt nm) (H : At1 w T h k n) {x y : Int32} {yes no : Nat} (d : Jp bytes pc (.if_icmp .ne) yes no) (G1 : ¬ x = y → Go w Q T yes L st) (G2 : x = y → Go w Q T no L st) : Go w Q T pc L (.int y :: .int x :: st) := by
  obtain ⟨o, d1, d2, d3, rfl⟩ := d
  by_cases q : ¬ x = y
  · exact go_step K H (fun p e m below c hx hby hA t kk => XS.icmpYes hA hx rfl rfl (by rw [hby]; exact d1) rfl (feq q).2 d2 d3 kk) (G1 q)
  · exact go_step K H (fun p e m below c hx hby hA t kk => XS.icmpNo hA hx rfl (by rw [hby]; exact d1) rfl (teq (Decidable.not_not.mp q)).2 kk) (G2 (Decidable.not_not.mp q))
theorem go_if_ne (K : Cx w R Z n0 own bytes mx rt nm) (H : At1 w T h k n) {x : Int32} {yes no : Nat} (d : Jp bytes pc (.ifCond .ne) yes no) (G1 : ¬ x = (0 : Int32) → Go w Q T yes L st) (G2 : x = (0 : Int32) → Go w Q T no L st) : Go w Q T pc L (.int x :: st) := by
  obtain ⟨o, d1, d2, d3, rfl⟩ := d
  by_cases q : ¬ x = (0 : Int32)
  · exact go_step K H (fun p e m below c hx hby hA t kk => XS.ifYes hA hx rfl rfl (by rw [hby]; exact d1) rfl ((if0 _ _).trans (feq q).2) d2 d3 kk) (G1 q)
  · exact go_step K H (fun p e m below c hx hby hA t kk => XS.ifNo hA hx rfl (by rw [hby]; exact d1) rfl ((if0 _ _).trans (teq (Decidable.not_not.mp q)).2) kk) (G2 (Decidable.not_not.mp q))
theorem go_ifnull_yes (K : Cx w R Z n0 own bytes mx rt nm) (H : At1 w T h k n) {yes no : Nat} (d : Jp bytes pc .ifnull yes no) (G : Go w Q T yes L st) : Go w Q T pc L (.null :: st) := by
  obtain ⟨o, d1, d2, d3, rfl⟩ := d
  exact go_step K H (fun p e m below c hx hby hA t kk => XS.ifnullYes hA hx rfl rfl (by rw [hby]; exact d1) rfl d2 d3 kk) G
theorem go_ifnull_no (K : Cx w R Z n0 own bytes mx rt nm) (H : At1 w T h k n) {a : Addr} {yes no : Nat} (d : Jp bytes pc .ifnull yes no) (G : Go w Q T no L st) : Go w Q T pc L (.ref a :: st) := by
  obtain ⟨o, d1, d2, d3, rfl⟩ := d
  exact go_step K H (fun p e m below c hx hby hA t kk => XS.ifnullNo hA hx rfl (by rw [hby]; exact d1) rfl kk) G
theorem go_ifnonnull_yes (K : Cx w R Z n0 own bytes mx rt nm) (H : At1 w T h k n) {a : Addr} {yes no : Nat} (d : Jp bytes pc .ifnonnull yes no) (G : Go w Q T yes L st) : Go w Q T pc L (.ref a :: st) := by
  obtain ⟨o, d1, d2, d3, rfl⟩ := d
  exact go_step K H (fun p e m below c hx hby hA t kk => XS.ifnonnullYes hA hx rfl rfl (by rw [hby]; exact d1) rfl d2 d3 kk) G
theorem go_ifnonnull_no (K : Cx w R Z n0 own bytes mx rt nm) (H : At1 w T h k n) {yes no : Nat} (d : Jp bytes pc .ifnonnull yes no) (G : Go w Q T no L st) : Go w Q T pc L (.null :: st) := by
  obtain ⟨o, d1, d2, d3, rfl⟩ := d
  exact go_step K H (fun p e m below c hx hby hA t kk => XS.ifnonnullNo hA hx rfl (by rw [hby]; exact d1) rfl kk) G
theorem go_acmp_eq (K : Cx w R Z n0 own bytes mx rt nm) (H : At1 w T h k n) {x y : Value} (h1 : x.isRef = true) (h2 : y.isRef = true) {yes no : Nat} (d : Jp bytes pc (.if_acmp .eq) yes no) (G1 : x = y → Go w Q T yes L st) (G2 : ¬ x = y → Go w Q T no L st) : Go w Q T pc L (y :: x :: st) := by
  obtain ⟨p, l, e, R', s, m, args, below, meth, c, Z', k0⟩ := w
  obtain ⟨hx, hby, -⟩ := K
  obtain ⟨locs, X, -⟩ := H
  obtain ⟨o, d1, d2, d3, rfl⟩ := d
  by_cases q : x = y
  · obtain ⟨s₂, o2, g1, g2⟩ := G1 q
    exact ⟨s₂, o2, Jvm.RoadKit.acmp X hx rfl h1 h2 (pc' := yes) (same := true) rfl (by rw [hby]; exact d1) rfl (decide_eq_true q) d2 (by simp [acV, d3]) g1, g2⟩
  · obtain ⟨s₂, o2, g1, g2⟩ := G2 q
    exact ⟨s₂, o2, Jvm.RoadKit.acmp X hx rfl h1 h2 (pc' := pc + 3) (same := false) rfl (by rw [hby]; exact d1) rfl (decide_eq_false q) d2 (by simp [acV]) g1, g2⟩
theorem go_acmp_ne (K : Cx w R Z n0 own bytes mx rt nm) (H : At1 w T h k n) {x y : Value} (h1 : x.isRef = true) (h2 : y.isRef = true) {yes no : Nat} (d : Jp bytes pc (.if_acmp .ne) yes no) (G1 : ¬ x = y → Go w Q T yes L st) (G2 : x = y → Go w Q T no L st) : Go w Q T pc L (y :: x :: st) := by
  obtain ⟨p, l, e, R', s, m, args, below, meth, c, Z', k0⟩ := w
  obtain ⟨hx, hby, -⟩ := K
  obtain ⟨locs, X, -⟩ := H
  obtain ⟨o, d1, d2, d3, rfl⟩ := d
  by_cases q : x = y
  · obtain ⟨s₂, o2, g1, g2⟩ := G2 q
    exact ⟨s₂, o2, Jvm.RoadKit.acmp X hx rfl h1 h2 (pc' := pc + 3) (same := true) rfl (by rw [hby]; exact d1) rfl (decide_eq_true q) d2 (by simp [acV]) g1, g2⟩
  · obtain ⟨s₂, o2, g1, g2⟩ := G1 q
    exact ⟨s₂, o2, Jvm.RoadKit.acmp X hx rfl h1 h2 (pc' := yes) (same := false) rfl (by rw [hby]; exact d1) rfl (decide_eq_false q) d2 (by simp [acV, d3]) g1, g2⟩
/-- a step that hands on to a new state of the walk -/
theorem go_move {T' : State} (K : Cx w R Z n0 own bytes mx rt nm)
    (hs : ∀ (p : Program) (e : Env) (m : MethodId) (below : List Frame), (∃ l s args meth c, w = ⟨p, l, e, R, s, m, args, below, meth, c, Z, n0⟩) → ∀ t, Steps p.tables e below (T'.setTop (mkF m pc' L' st')) t → Steps p.tables e below (T.setTop (mkF m pc L st)) t)
    (G : Go w Q T' pc' L' st') : Go w Q T pc L st := by
  obtain ⟨p, l, e, R', s, m, args, below, meth, c, Z', k0⟩ := w
  obtain ⟨-, -, -, -, -, -, -, -, rfl, rfl, rfl, -⟩ := K
  obtain ⟨s₂, o, h1, h2⟩ := G
  exact ⟨s₂, o, hs p e m below ⟨l, s, args, meth, c, rfl⟩ _ h1, h2⟩
/-- one law a body's end -/
theorem go_leave (K : Cx w R Z n0 own bytes mx rt nm) (H : At1 w T h k n) {v : Option Value} (hv : rt = none → v = none) (hk : k ≤ R.cells) (hn : n ≤ R.slots)
    (hs : ∀ (p : Program) (l : Launch) (e : Env) (s : State) (m : MethodId) (args : Array Value) (below : List Frame) (meth : Method) (c : Code) (locs : List Loc), Stand p l e R s m args below meth c T locs k n → p.tables.exec = Jvm.exec → c.code = bytes → meth.sig.returnType = rt → ∀ fs, (∀ (f : JFrame) (acts : List Action), f.method = m → f.locked = none → f.entered = [] → (doReturn e (T.setTop f) acts v).1 = T.setFrames fs) → Steps p.tables e below (T.setTop (mkF m pc L st)) (T.setFrames fs))
    (hq : Q v h) : Go w Q T pc L st := by
  obtain ⟨p, l, e, R', s, m, args, below, meth, c, Z', k0⟩ := w
  obtain ⟨hx, hby, hml, hown, hZ, hret, hnm, hlk, rfl, rfl, rfl, h00⟩ := K
  obtain ⟨locs, X, eT, N⟩ := H
  obtain ⟨fs, hr, hrun, hended, hW, hsame⟩ := X.leave (v := v) (fun q => hv (hret ▸ q)) hlk
  exact ⟨_, _, hs p l e s m args below meth c locs X hx hby hret fs hr, hrun, hended, v, locs, rfl, ⟨by show Q v T.heap; rw [eT]; exact hq, N⟩, ⟨v, rfl⟩, hW, hsame.mono hk hn⟩
theorem go_ret (K : Cx w R Z n0 own bytes mx rt nm) (H : At1 w T h k n) {P : Heap → Prop} (d : Dc bytes pc .return_ 1 pc') (hr : rt = none) (hk : k ≤ R.cells) (hn : n ≤ R.slots) (hq : P h) : Go w (RV P) T pc L [] :=
  go_leave K H (fun _ => rfl) hk hn (fun p l e s m args below meth c locs X hx hby hret fs hl => X.returnOut hx (hret.trans hr) (dcb hby d) hl) ⟨rfl, hq⟩
theorem go_retV (K : Cx w R Z n0 own bytes mx rt nm) (H : At1 w T h k n) {v : Value} {t : FieldType} {i : Instr} (d : Dc bytes pc i 1 pc') (hr : rt = some t) (hnar : narrow t v = v)
    (hi : (i = .ireturn ∧ (t = .int ∨ t = .boolean ∨ t = .byte ∨ t = .char ∨ t = .short) ∧ ∃ z, v = .int z) ∨ (i = .lreturn ∧ t = .long ∧ ∃ z, v = .long z) ∨ (i = .dreturn ∧ t = .double ∧ ∃ z, v = .double z) ∨ (i = .freturn ∧ t = .float ∧ ∃ z, v = .float z) ∨ (i = .areturn ∧ t.isReference = true ∧ v.isRef = true))
    (hk : k ≤ R.cells) (hn : n ≤ R.slots) (hq : Q (some v) h) : Go w Q T pc L (v :: st) :=
  go_leave K H (fun q => by rw [hr] at q; cases q) hk hn (fun p l e s m args below meth c locs X hx hby hret fs hl => retOut X hx (hret.trans hr) hnar hi (dcb hby d) hl) hq
theorem go_iret (K : Cx w R Z n0 own bytes mx rt nm) (H : At1 w T h k n) {P : Int32 → Heap → Prop} {z : Int32} (d : Dc bytes pc .ireturn 1 pc') (hr : rt = some .int) (hk : k ≤ R.cells) (hn : n ≤ R.slots) (hq : P z h) : Go w (RI P) T pc L (.int z :: st) :=
  go_retV K H d hr rfl (Or.inl ⟨rfl, Or.inl rfl, z, rfl⟩) hk hn ⟨z, rfl, hq⟩
theorem go_zret (K : Cx w R Z n0 own bytes mx rt nm) (H : At1 w T h k n) {P : Int32 → Heap → Prop} {z : Int32} (d : Dc bytes pc .ireturn 1 pc') (hr : rt = some .boolean) (hz : nar .boolean z = z) (hk : k ≤ R.cells) (hn : n ≤ R.slots) (hq : P z h) : Go w (RI P) T pc L (.int z :: st) :=
  go_retV K H d hr (by show Value.int (nar .boolean z) = _; rw [hz]) (Or.inl ⟨rfl, Or.inr (Or.inl rfl), z, rfl⟩) hk hn ⟨z, rfl, hq⟩
theorem go_lret (K : Cx w R Z n0 own bytes mx rt nm) (H : At1 w T h k n) {P : Int64 → Heap → Prop} {z : Int64} (d : Dc bytes pc .lreturn 1 pc') (hr : rt = some .long) (hk : k ≤ R.cells) (hn : n ≤ R.slots) (hq : P z h) : Go w (RL P) T pc L (.long z :: st) :=
  go_retV K H d hr rfl (Or.inr (Or.inl ⟨rfl, rfl, z, rfl⟩)) hk hn ⟨z, rfl, hq⟩
theorem go_aret (K : Cx w R Z n0 own bytes mx rt nm) (H : At1 w T h k n) {P : Value → Heap → Prop} {z : Value} {t : FieldType} (d : Dc bytes pc .areturn 1 pc') (hr : rt = some t) (ht : t.isReference = true) (hz : z.isRef = true) (hk : k ≤ R.cells) (hn : n ≤ R.slots) (hq : P z h) : Go w (RR P) T pc L (z :: st) :=
  go_retV K H d hr (by rcases ref_cases hz with rfl | ⟨a, rfl⟩ <;> (cases t <;> first | rfl | (simp [FieldType.isReference] at ht))) (Or.inr (Or.inr (Or.inr (Or.inr ⟨rfl, ht, hz⟩)))) hk hn ⟨z, rfl, hz, hq⟩
theorem go_ldcI {a0 : Array Value} {idx : Nat} (z : Int32) (K : Cx w R Z n0 own bytes mx rt nm) (H : At1 w T h k n) (d : Dc bytes pc (.ldc idx) 2 pc') (w1 : (Cond.constant own idx z).before a0 Z = true) (G : Go w Q T pc' L (.int z :: st)) : Go w Q T pc L st := by
  obtain ⟨p, l, e, R', s, m, args, below, meth, c, Z', k0⟩ := w
  obtain ⟨hx, hby, hml, hown, hZ, -⟩ := K
  obtain ⟨locs, X, -⟩ := H
  obtain ⟨s₂, o, g1, g2⟩ := G
  obtain ⟨d1, rfl⟩ := d
  exact ⟨s₂, o, X.ldcInt hx hown (mvT hZ w1) rfl (by rw [hby]; exact d1) _ g1, g2⟩
theorem go_ldcwI {a0 : Array Value} {idx : Nat} (z : Int32) (K : Cx w R Z n0 own bytes mx rt nm) (H : At1 w T h k n) (d : Dc bytes pc (.ldc_w idx) 3 pc') (w1 : (Cond.constant own idx z).before a0 Z = true) (G : Go w Q T pc' L (.int z :: st)) : Go w Q T pc L st := by
  obtain ⟨p, l, e, R', s, m, args, below, meth, c, Z', k0⟩ := w
  obtain ⟨hx, hby, hml, hown, hZ, -⟩ := K
  obtain ⟨locs, X, -⟩ := H
  obtain ⟨s₂, o, g1, g2⟩ := G
  obtain ⟨d1, rfl⟩ := d
  exact ⟨s₂, o, X.ldcwInt hx hown (mvT hZ w1) rfl (by rw [hby]; exact d1) _ g1, g2⟩
theorem go_ldcL {a0 : Array Value} {idx : Nat} (z : Int64) (K : Cx w R Z n0 own bytes mx rt nm) (H : At1 w T h k n) (d : Dc bytes pc (.ldc2_w idx) 3 pc') (w1 : (Cond.constantLong own idx z).before a0 Z = true) (G : Go w Q T pc' L (.long z :: st)) : Go w Q T pc L st := by
  obtain ⟨p, l, e, R', s, m, args, below, meth, c, Z', k0⟩ := w
  obtain ⟨hx, hby, hml, hown, hZ, -⟩ := K
  obtain ⟨locs, X, -⟩ := H
  obtain ⟨s₂, o, g1, g2⟩ := G
  obtain ⟨d1, rfl⟩ := d
  exact ⟨s₂, o, X.ldc2Long hx hown (mvT hZ w1) rfl (by rw [hby]; exact d1) _ g1, g2⟩
theorem go_getfield {a0 : Array Value} {R0 O f ds host : String} {idx : Nat} {a : Addr} {v : Value} (K : Cx w R Z n0 own bytes mx rt nm) (H : At1 w T h k n) (d : Dc bytes pc (.getfield idx) 3 pc') (w1 : (Cond.fieldLink own idx R0 f ds).before a0 Z = true ∨ (Cond.fieldLinkNest own idx R0 f ds host).before a0 Z = true) (via : Via Z R0 O f ds) (F : Fld Z h a O f ds v)
    (G : ∀ T', At1 w T' h k n → Go w Q T' pc' L (v :: st)) : Go w Q T pc L (.ref a :: st) := by
  obtain ⟨p, l, e, R', s, m, args, below, meth, c, Z', k0⟩ := w
  obtain ⟨hx, hby, hml, hown, hZ, -⟩ := K
  obtain ⟨locs, X, eT, N⟩ := H
  obtain ⟨d1, rfl⟩ := d
  obtain ⟨T', X', e', stp⟩ := getF X hx hZ hown w1 via eT F (g := mkF m pc L (.ref a :: st)) rfl rfl (by rw [hby]; exact d1)
  obtain ⟨s₂, o, g1, g2⟩ := G T' ⟨locs, X', e', N⟩
  exact ⟨s₂, o, stp _ g1, g2⟩
theorem go_getstatic {a0 : Array Value} {R0 O f ds host : String} {idx : Nat} {v : Value} (K : Cx w R Z n0 own bytes mx rt nm) (H : At1 w T h k n) (d : Dc bytes pc (.getstatic idx) 3 pc') (w1 : (Cond.fieldLink own idx R0 f ds).before a0 Z = true ∨ (Cond.fieldLinkNest own idx R0 f ds host).before a0 Z = true) (via : Via Z R0 O f ds) (F : Sta Z h O f ds v)
    (G : ∀ T', At1 w T' h k n → Go w Q T' pc' L (v :: st)) : Go w Q T pc L st := by
  obtain ⟨p, l, e, R', s, m, args, below, meth, c, Z', k0⟩ := w
  obtain ⟨hx, hby, hml, hown, hZ, -⟩ := K
  obtain ⟨locs, X, eT, N⟩ := H
  obtain ⟨d1, rfl⟩ := d
  obtain ⟨T', X', e', stp⟩ := getS2 X hx hZ hown w1 via eT F (g := mkF m pc L st) rfl (by rw [hby]; exact d1)
  obtain ⟨s₂, o, g1, g2⟩ := G T' ⟨locs, X', e', N⟩
  exact ⟨s₂, o, stp _ g1, g2⟩
theorem go_putfield {a0 : Array Value} {R0 O f ds host C : String} {idx kk : Nat} {a : Addr} {v old : Value} {ty : FieldType} (K : Cx w R Z n0 own bytes mx rt nm) (H : At1 w T h k n) (d : Dc bytes pc (.putfield idx) 3 pc') (w1 : (Cond.fieldLink own idx R0 f ds).before a0 Z = true ∨ (Cond.fieldLinkNest own idx R0 f ds host).before a0 Z = true) (via : Via Z R0 O f ds)
    (F : Fld Z h a O f ds old) (E : Exa Z h a C) (Ly : (Cond.lays C O f ds).before a0 Z = true ∨ ((Cond.laysFinal C O f ds).before a0 Z = true ∧ own = O ∧ nm = "<init>")) (wi : (Cond.instantiable C kk).before a0 Z = true)
    (hty : parseFieldDescriptor ds = some ty) (hn : narrow ty v = v) (hf : fits ty v = true) (ha : n0 ≤ a)
    (G : ∀ T' h', At1 w T' h' k n → Wr h h' a (Jvm.RoadKit.slotOf Z O f ds) v → Go w Q T' pc' L st) : Go w Q T pc L (v :: .ref a :: st) := by
  obtain ⟨p, l, e, R', s, m, args, below, meth, c, Z', k0⟩ := w
  obtain ⟨hx, hby, hml, hown, hZ, hret, hnm, hlk, rfl, rfl, rfl, h00⟩ := K
  obtain ⟨locs, X, eT, N⟩ := H
  obtain ⟨d1, rfl⟩ := d
  obtain ⟨T', h', X', e', W, stp⟩ := putF X hx hZ hown w1 via eT F E (Ly.imp id fun q => ⟨q.1, q.2.1, hnm.trans q.2.2⟩) wi hty hn hf (g := mkF m pc L (v :: .ref a :: st)) rfl rfl (by rw [hby]; exact d1)
  obtain ⟨s₂, o, g1, g2⟩ := G T' h' ⟨_, X', e', Fr.snoc X' N ha⟩ W
  exact ⟨s₂, o, stp _ g1, g2⟩
theorem go_putfieldN {a0 : Array Value} {R0 O f ds C : String} {idx kk : Nat} {a : Addr} {v v' old : Value} {ty : FieldType} (K : Cx w R Z n0 own bytes mx rt nm) (H : At1 w T h k n) (d : Dc bytes pc (.putfield idx) 3 pc') (w1 : (Cond.fieldLink own idx R0 f ds).before a0 Z = true) (via : Via Z R0 O f ds)
    (F : Fld Z h a O f ds old) (E : Exa Z h a C) (Ly : (Cond.lays C O f ds).before a0 Z = true ∨ ((Cond.laysFinal C O f ds).before a0 Z = true ∧ own = O ∧ nm = "<init>")) (wi : (Cond.instantiable C kk).before a0 Z = true)
    (hty : parseFieldDescriptor ds = some ty) (hn : narrow ty v = v') (hf : fits ty v' = true) (ha : n0 ≤ a)
    (G : ∀ T' h', At1 w T' h' k n → Wr h h' a (Jvm.RoadKit.slotOf Z O f ds) v' → Go w Q T' pc' L st) : Go w Q T pc L (v :: .ref a :: st) := by
  obtain ⟨p, l, e, R', s, m, args, below, meth, c, Z', k0⟩ := w
  obtain ⟨hx, hby, hml, hown, hZ, hret, hnm, hlk, rfl, rfl, rfl, h00⟩ := K
  obtain ⟨locs, X, eT, N⟩ := H
  obtain ⟨d1, rfl⟩ := d
  obtain ⟨T', h', X', e', W, stp⟩ := putFN X hx hZ hown w1 via eT F E (Ly.imp id fun q => ⟨q.1, q.2.1, hnm.trans q.2.2⟩) wi hty hn hf (g := mkF m pc L (v :: .ref a :: st)) rfl rfl (by rw [hby]; exact d1)
  obtain ⟨s₂, o, g1, g2⟩ := G T' h' ⟨_, X', e', Fr.snoc X' N ha⟩ W
  exact ⟨s₂, o, stp _ g1, g2⟩
theorem go_new {a0 : Array Value} {C : String} {idx sl : Nat} (K : Cx w R Z n0 own bytes mx rt nm) (H : At1 w T h k n) (d : Dc bytes pc (.new idx) 3 pc') (w1 : (Cond.classLink own idx C).before a0 Z = true) (w2 : (Cond.instantiable C sl).before a0 Z = true) (w3 : (Cond.initialized C).before a0 Z = true) (hk : k + 1 ≤ R.cells) (hn : n + sl ≤ R.slots)
    (G : ∀ T' h' a, At1 w T' h' (k + 1) (n + sl) → a = h.size → n0 ≤ a → Ext h h' → Exa Z h' a C → (∀ {O f ds : String} {ty : FieldType}, Laid Z a0 C O f ds → parseFieldDescriptor ds = some ty → Fld Z h' a O f ds (defaultValue ty)) → Go w Q T' pc' L (.ref a :: st)) : Go w Q T pc L st := by
  obtain ⟨p, l, e, R', s, m, args, below, meth, c, Z', k0⟩ := w
  obtain ⟨hx, hby, hml, hown, hZ, hret, hnm, hlk, rfl, rfl, rfl, h00⟩ := K
  obtain ⟨locs, X, eT, N⟩ := H
  obtain ⟨d1, rfl⟩ := d
  obtain ⟨T', h', X', e', E, A, D, -, stp⟩ := newO X hx hZ hown w1 w2 w3 eT (g := mkF m pc L st) rfl (by rw [hby]; exact d1) hk hn
  obtain ⟨s₂, o, g1, g2⟩ := G T' h' h.size ⟨_, X', e', N⟩ rfl (by rw [← eT]; exact Nat.le_trans h00 X.same.2.1) E A D
  exact ⟨s₂, o, stp _ g1, g2⟩
theorem go_initO {a0 : Array Value} {idx : Nat} {a : Addr} (K : Cx w R Z n0 own bytes mx rt nm) (H : At1 w T h k n) (d : Dc bytes pc (.invokespecial idx) 3 pc') (w1 : (Cond.methodLink own idx Lib.objectInit).before a0 Z = true) (w2 : (Cond.instanceMethod Lib.objectInit).before a0 Z = true) (w3 : (Cond.code Lib.objectInit ⟨#[0xb1]⟩ 1 none).before a0 Z = true)
    (hL : L.size = mx) (hf : 1 ≤ R.frames) {W : Nat} (hW : (st.map fun v => v.category).sum = W) (hl : W + 12 ≤ R.locals)
    (G : ∀ T', At1 w T' h k n → Go w Q T' pc' L st) : Go w Q T pc L (.ref a :: st) := by
  obtain ⟨p, l, e, R', s, m, args, below, meth, c, Z', k0⟩ := w
  obtain ⟨hx, hby, hml, hown, hZ, hret, hnm, hlk, rfl, rfl, rfl, h00⟩ := K
  obtain ⟨locs, X, eT, N⟩ := H
  obtain ⟨d1, rfl⟩ := d
  obtain ⟨T', X', e', stp⟩ := initO X hx hZ hown w1 w2 w3 eT (g := mkF m pc L (.ref a :: st)) rfl (hL.trans hml.symm) rfl (by rw [hby]; exact d1) hf (W := W) (by show 2 * 0 + _ ≤ _; rw [hW]; omega) hl
  obtain ⟨s₂, o, g1, g2⟩ := G T' ⟨locs, X', e', N⟩
  exact ⟨s₂, o, stp _ g1, g2⟩
/-- an array: all its components -/
def VA (Z : State) (h : Heap) (a : Addr) (ty : FieldType) (vs : List Value) : Prop := ∃ c : Cell, Arr Z h a c ty ∧ c.slots.toList = vs ∧ vs.length < 2 ^ 31
def IA (Z : State) (h : Heap) (a : Addr) (xs : List Int32) : Prop := VA Z h a .int (xs.map Value.int)
def JA (Z : State) (h : Heap) (a : Addr) (xs : List Int64) : Prop := VA Z h a .long (xs.map Value.long)
theorem VA.ext {a : Addr} {ty : FieldType} {vs : List Value} {h' : Heap} (A : VA Z h a ty vs) (E : Ext h h') : VA Z h' a ty vs := by obtain ⟨c, A, r⟩ := A; exact ⟨c, A.ext E, r⟩
theorem VA.other {a b : Addr} {ty : FieldType} {vs : List Value} {h' : Heap} {sl : Nat} {v : Value} (A : VA Z h a ty vs) (W : Wr h h' b sl v) (q : a ≠ b) : VA Z h' a ty vs := by obtain ⟨c, A, r⟩ := A; exact ⟨c, A.other W q, r⟩
theorem VA.keep {a : Addr} {ty : FieldType} {vs : List Value} {h' : Heap} {ws : List Addr} (A : VA Z h a ty vs) (K : Keep h h' ws) (q : a ∉ ws) : VA Z h' a ty vs := by obtain ⟨c, A, r⟩ := A; exact ⟨c, ⟨K.2.1 a c A.1 q, A.2⟩, r⟩
theorem VA.lt {a : Addr} {ty : FieldType} {vs : List Value} (A : VA Z h a ty vs) : a < h.size := by obtain ⟨c, A, r⟩ := A; exact A.lt
theorem VA.len {a : Addr} {ty : FieldType} {vs : List Value} (A : VA Z h a ty vs) : vs.length < 2 ^ 31 := by obtain ⟨c, A, r1, r2⟩ := A; exact r2
theorem VA.set {a : Addr} {ty : FieldType} {vs : List Value} {h' : Heap} {i : Nat} {v : Value} (A : VA Z h a ty vs) (W : Wr h h' a i v) : VA Z h' a ty (vs.set i v) := by
  obtain ⟨c, A, r1, r2⟩ := A
  exact ⟨_, A.same W, by simp [Cell.setSlot, r1], by simpa using r2⟩
theorem IA.ext {a : Addr} {xs : List Int32} {h' : Heap} (A : IA Z h a xs) (E : Ext h h') : IA Z h' a xs := VA.ext A E
theorem IA.other {a b : Addr} {xs : List Int32} {h' : Heap} {sl : Nat} {v : Value} (A : IA Z h a xs) (W : Wr h h' b sl v) (q : a ≠ b) : IA Z h' a xs := VA.other A W q
theorem IA.keep {a : Addr} {xs : List Int32} {h' : Heap} {ws : List Addr} (A : IA Z h a xs) (K : Keep h h' ws) (q : a ∉ ws) : IA Z h' a xs := VA.keep A K q
theorem IA.lt {a : Addr} {xs : List Int32} (A : IA Z h a xs) : a < h.size := VA.lt A
theorem IA.len {a : Addr} {xs : List Int32} (A : IA Z h a xs) : xs.length < 2 ^ 31 := by simpa using VA.len A
theorem IA.set {a : Addr} {xs : List Int32} {h' : Heap} {i : Nat} {x : Int32} (A : IA Z h a xs) (W : Wr h h' a i (.int x)) : IA Z h' a (xs.set i x) := by
  have q := VA.set A W
  rw [← List.map_set] at q; exact q
theorem JA.ext {a : Addr} {xs : List Int64} {h' : Heap} (A : JA Z h a xs) (E : Ext h h') : JA Z h' a xs := VA.ext A E
theorem JA.other {a b : Addr} {xs : List Int64} {h' : Heap} {sl : Nat} {v : Value} (A : JA Z h a xs) (W : Wr h h' b sl v) (q : a ≠ b) : JA Z h' a xs := VA.other A W q
theorem JA.keep {a : Addr} {xs : List Int64} {h' : Heap} {ws : List Addr} (A : JA Z h a xs) (K : Keep h h' ws) (q : a ∉ ws) : JA Z h' a xs := VA.keep A K q
theorem JA.lt {a : Addr} {xs : List Int64} (A : JA Z h a xs) : a < h.size := VA.lt A
theorem JA.len {a : Addr} {xs : List Int64} (A : JA Z h a xs) : xs.length < 2 ^ 31 := by simpa using VA.len A
theorem JA.set {a : Addr} {xs : List Int64} {h' : Heap} {i : Nat} {x : Int64} (A : JA Z h a xs) (W : Wr h h' a i (.long x)) : JA Z h' a (xs.set i x) := by
  have q := VA.set A W
  rw [← List.map_set] at q; exact q
theorem idx_nat {j : Int32} {i : Nat} (hj : j.toInt = (i : Int)) : ¬ j < 0 ∧ j.toNatClampNeg = i := by
  constructor
  · rw [Int32.lt_iff_toInt_lt, hj]; show ¬ ((i : Int) < 0); omega
  · simp only [Int32.toNatClampNeg, hj]; omega
theorem slot_at {c : Cell} {vs : List Value} {i : Nat} {v : Value} (r : c.slots.toList = vs) (hi : vs[i]? = some v) : c.slots[i]? = some v := by rw [← Array.getElem?_toList, r]; exact hi
theorem inb_at {c : Cell} {vs : List Value} {j : Int32} {i : Nat} (r : c.slots.toList = vs) (hj : j.toInt = (i : Int)) (hi : i < vs.length) : ¬ (j < 0 ∨ c.slots.size ≤ j.toNatClampNeg) := by
  obtain ⟨h1, h2⟩ := idx_nat hj
  have e : c.slots.size = vs.length := by rw [← r]; simp
  rw [h2, e]
  rintro (q | q)
  · exact h1 q
  · omega
theorem lt_of_at {α : Type} {vs : List α} {i : Nat} {v : α} (hi : vs[i]? = some v) : i < vs.length := (List.getElem?_eq_some_iff.mp hi).1
theorem go_newarray {a0 : Array Value} {aty : ArrayType} {m : Int32} (cap : Nat) (K : Cx w R Z n0 own bytes mx rt nm) (H : At1 w T h k n) (d : Dc bytes pc (.newarray aty) 2 pc') (w1 : (Cond.arrayClass (newarray.typeOf aty)).before a0 Z = true) (hm : ¬ m < 0) (hcap : m.toNatClampNeg ≤ cap) (hb : cap * 8 ≤ 536870912) (hk : k + 1 ≤ R.cells) (hn : n + cap ≤ R.slots)
    (G : ∀ T' h' a, At1 w T' h' (k + 1) (n + cap) → a = h.size → n0 ≤ a → Ext h h' → VA Z h' a (newarray.typeOf aty) (List.replicate m.toNatClampNeg (defaultValue (newarray.typeOf aty))) → Go w Q T' pc' L (.ref a :: st)) : Go w Q T pc L (.int m :: st) := by
  obtain ⟨p, l, e, R', s, mm, args, below, meth, c, Z', k0⟩ := w
  obtain ⟨hx, hby, hml, hown, hZ, hret, hnm, hlk, rfl, rfl, rfl, h00⟩ := K
  obtain ⟨locs, X, eT, N⟩ := H
  obtain ⟨d1, rfl⟩ := d
  obtain ⟨T', h', cA, X', e', E, A, stp⟩ := newP X hx hZ w1 eT (g := mkF mm pc L (.int m :: st)) rfl (by rw [hby]; exact d1) rfl hm hcap hb hk hn
  obtain ⟨s₂, o, g1, g2⟩ := G T' h' h.size ⟨_, X', e', N⟩ rfl (by rw [← eT]; exact Nat.le_trans h00 X.same.2.1) E ⟨_, A, by simp [newA], by simpa using (back32 hm).2⟩
  exact ⟨s₂, o, stp _ g1, g2⟩
theorem go_arraylength {a : Addr} {ty : FieldType} {vs : List Value} (K : Cx w R Z n0 own bytes mx rt nm) (H : At1 w T h k n) (d : Dc bytes pc .arraylength 1 pc') (A : VA Z h a ty vs) (G : ∀ z : Int32, z.toInt = (vs.length : Int) → Go w Q T pc' L (.int z :: st)) : Go w Q T pc L (.ref a :: st) := by
  obtain ⟨p, l, e, R', s, m, args, below, meth, c, Z', k0⟩ := w
  obtain ⟨hx, hby, hml, hown, hZ, -⟩ := K
  obtain ⟨locs, X, eT, N⟩ := H
  obtain ⟨d1, rfl⟩ := d
  obtain ⟨cl, A, r1, r2⟩ := A
  have e : cl.slots.size = vs.length := by rw [← r1]; simp
  obtain ⟨s₂, o, g1, g2⟩ := G cl.slots.size.toInt32 (by rw [e]; exact len_toInt r2)
  exact ⟨s₂, o, X.arraylength hx (by rw [eT]; exact A.1) (State.isArrayOf_alike hZ.alike A.2.1) (g := mkF m pc L (.ref a :: st)) rfl rfl (by rw [hby]; exact d1) _ g1, g2⟩
theorem go_iaload {a : Addr} {vs : List Value} {j : Int32} (i : Nat) {v : Value} (K : Cx w R Z n0 own bytes mx rt nm) (H : At1 w T h k n) (d : Dc bytes pc .iaload 1 pc') (A : VA Z h a .int vs) (hj : j.toInt = (i : Int)) (hi : vs[i]? = some v) (G : Go w Q T pc' L (v :: st)) : Go w Q T pc L (.int j :: .ref a :: st) := by
  obtain ⟨p, l, e, R', s, m, args, below, meth, c, Z', k0⟩ := w
  obtain ⟨hx, hby, hml, hown, hZ, -⟩ := K
  obtain ⟨locs, X, eT, N⟩ := H
  obtain ⟨d1, rfl⟩ := d
  obtain ⟨cl, A, r1, r2⟩ := A
  obtain ⟨s₂, o, g1, g2⟩ := G
  exact ⟨s₂, o, X.iaload hx (by rw [eT]; exact A.1) (State.isArrayOf_alike hZ.alike A.2.1) A.2.2 (inb_at r1 hj (lt_of_at hi)) (by rw [(idx_nat hj).2]; exact slot_at r1 hi) (g := mkF m pc L (.int j :: .ref a :: st)) rfl rfl (by rw [hby]; exact d1) _ g1, g2⟩
theorem go_laload {a : Addr} {vs : List Value} {j : Int32} (i : Nat) {v : Value} (K : Cx w R Z n0 own bytes mx rt nm) (H : At1 w T h k n) (d : Dc bytes pc .laload 1 pc') (A : VA Z h a .long vs) (hj : j.toInt = (i : Int)) (hi : vs[i]? = some v) (G : Go w Q T pc' L (v :: st)) : Go w Q T pc L (.int j :: .ref a :: st) := by
  obtain ⟨p, l, e, R', s, m, args, below, meth, c, Z', k0⟩ := w
  obtain ⟨hx, hby, hml, hown, hZ, -⟩ := K
  obtain ⟨locs, X, eT, N⟩ := H
  obtain ⟨d1, rfl⟩ := d
  obtain ⟨cl, A, r1, r2⟩ := A
  obtain ⟨s₂, o, g1, g2⟩ := G
  exact ⟨s₂, o, X.laload hx (by rw [eT]; exact A.1) (State.isArrayOf_alike hZ.alike A.2.1) A.2.2 (inb_at r1 hj (lt_of_at hi)) (by rw [(idx_nat hj).2]; exact slot_at r1 hi) (g := mkF m pc L (.int j :: .ref a :: st)) rfl rfl (by rw [hby]; exact d1) _ g1, g2⟩
theorem go_caload {a : Addr} {vs : List Value} {j : Int32} (i : Nat) {v : Value} (K : Cx w R Z n0 own bytes mx rt nm) (H : At1 w T h k n) (d : Dc bytes pc .caload 1 pc') (A : VA Z h a .char vs) (hj : j.toInt = (i : Int)) (hi : vs[i]? = some v) (G : Go w Q T pc' L (v :: st)) : Go w Q T pc L (.int j :: .ref a :: st) := by
  obtain ⟨p, l, e, R', s, m, args, below, meth, c, Z', k0⟩ := w
  obtain ⟨hx, hby, hml, hown, hZ, -⟩ := K
  obtain ⟨locs, X, eT, N⟩ := H
  obtain ⟨d1, rfl⟩ := d
  obtain ⟨cl, A, r1, r2⟩ := A
  obtain ⟨s₂, o, g1, g2⟩ := G
  exact ⟨s₂, o, X.caload hx (by rw [eT]; exact A.1) (State.isArrayOf_alike hZ.alike A.2.1) A.2.2 (inb_at r1 hj (lt_of_at hi)) (by rw [(idx_nat hj).2]; exact slot_at r1 hi) (g := mkF m pc L (.int j :: .ref a :: st)) rfl rfl (by rw [hby]; exact d1) _ g1, g2⟩
theorem go_baload {a : Addr} {vs : List Value} {j : Int32} (i : Nat) {v : Value} (K : Cx w R Z n0 own bytes mx rt nm) (H : At1 w T h k n) (d : Dc bytes pc .baload 1 pc') (A : VA Z h a .byte vs) (hj : j.toInt = (i : Int)) (hi : vs[i]? = some v) (G : Go w Q T pc' L (v :: st)) : Go w Q T pc L (.int j :: .ref a :: st) := by
  obtain ⟨p, l, e, R', s, m, args, below, meth, c, Z', k0⟩ := w
  obtain ⟨hx, hby, hml, hown, hZ, -⟩ := K
  obtain ⟨locs, X, eT, N⟩ := H
  obtain ⟨d1, rfl⟩ := d
  obtain ⟨cl, A, r1, r2⟩ := A
  obtain ⟨s₂, o, g1, g2⟩ := G
  exact ⟨s₂, o, X.baloadBytes hx (by rw [eT]; exact A.1) (State.isArrayOf_alike hZ.alike A.2.1) A.2.2 (inb_at r1 hj (lt_of_at hi)) (by rw [(idx_nat hj).2]; exact slot_at r1 hi) (g := mkF m pc L (.int j :: .ref a :: st)) rfl rfl (by rw [hby]; exact d1) _ g1, g2⟩
theorem go_aaload {a : Addr} {ty : FieldType} {vs : List Value} {j : Int32} (i : Nat) {v : Value} (K : Cx w R Z n0 own bytes mx rt nm) (H : At1 w T h k n) (d : Dc bytes pc .aaload 1 pc') (A : VA Z h a ty vs) (hty : ty.isReference = true) (hj : j.toInt = (i : Int)) (hi : vs[i]? = some v) (G : Go w Q T pc' L (v :: st)) : Go w Q T pc L (.int j :: .ref a :: st) := by
  obtain ⟨p, l, e, R', s, m, args, below, meth, c, Z', k0⟩ := w
  obtain ⟨hx, hby, hml, hown, hZ, -⟩ := K
  obtain ⟨locs, X, eT, N⟩ := H
  obtain ⟨d1, rfl⟩ := d
  obtain ⟨cl, A, r1, r2⟩ := A
  obtain ⟨s₂, o, g1, g2⟩ := G
  exact ⟨s₂, o, X.aaload hx (by rw [eT]; exact A.1) (State.isArrayOf_alike hZ.alike A.2.1) hty A.2.2 (inb_at r1 hj (lt_of_at hi)) (by rw [(idx_nat hj).2]; exact slot_at r1 hi) (g := mkF m pc L (.int j :: .ref a :: st)) rfl rfl (by rw [hby]; exact d1) _ g1, g2⟩
theorem go_iastore {a : Addr} {vs : List Value} {j : Int32} {x : Int32} (i : Nat) (K : Cx w R Z n0 own bytes mx rt nm) (H : At1 w T h k n) (d : Dc bytes pc .iastore 1 pc') (A : VA Z h a .int vs) (hj : j.toInt = (i : Int)) (hi : i < vs.length) (ha : n0 ≤ a) (G : ∀ T' h', At1 w T' h' k n → Wr h h' a i (.int x) → Go w Q T' pc' L st) : Go w Q T pc L (.int x :: .int j :: .ref a :: st) := by
  obtain ⟨p, l, e, R', s, m, args, below, meth, c, Z', k0⟩ := w
  obtain ⟨hx, hby, hml, hown, hZ, hret, hnm, hlk, rfl, rfl, rfl, h00⟩ := K
  obtain ⟨locs, X, eT, N⟩ := H
  obtain ⟨d1, rfl⟩ := d
  obtain ⟨cl, A, r1, r2⟩ := A
  obtain ⟨T', h', X', e', W, stp⟩ := stI X hx hZ eT A (inb_at r1 hj hi) (g := mkF m pc L (.int x :: .int j :: .ref a :: st)) rfl rfl (by rw [hby]; exact d1)
  obtain ⟨s₂, o, g1, g2⟩ := G T' h' ⟨_, X', e', Fr.snoc X' N ha⟩ (by rw [← (idx_nat hj).2]; exact W)
  exact ⟨s₂, o, stp _ g1, g2⟩
theorem go_lastore {a : Addr} {vs : List Value} {j : Int32} {x : Int64} (i : Nat) (K : Cx w R Z n0 own bytes mx rt nm) (H : At1 w T h k n) (d : Dc bytes pc .lastore 1 pc') (A : VA Z h a .long vs) (hj : j.toInt = (i : Int)) (hi : i < vs.length) (ha : n0 ≤ a) (G : ∀ T' h', At1 w T' h' k n → Wr h h' a i (.long x) → Go w Q T' pc' L st) : Go w Q T pc L (.long x :: .int j :: .ref a :: st) := by
  obtain ⟨p, l, e, R', s, m, args, below, meth, c, Z', k0⟩ := w
  obtain ⟨hx, hby, hml, hown, hZ, hret, hnm, hlk, rfl, rfl, rfl, h00⟩ := K
  obtain ⟨locs, X, eT, N⟩ := H
  obtain ⟨d1, rfl⟩ := d
  obtain ⟨cl, A, r1, r2⟩ := A
  obtain ⟨T', h', X', e', W, stp⟩ := stJ X hx hZ eT A (inb_at r1 hj hi) (g := mkF m pc L (.long x :: .int j :: .ref a :: st)) rfl rfl (by rw [hby]; exact d1)
  obtain ⟨s₂, o, g1, g2⟩ := G T' h' ⟨_, X', e', Fr.snoc X' N ha⟩ (by rw [← (idx_nat hj).2]; exact W)
  exact ⟨s₂, o, stp _ g1, g2⟩
theorem go_castore {a : Addr} {vs : List Value} {j : Int32} {x : Int32} (i : Nat) (K : Cx w R Z n0 own bytes mx rt nm) (H : At1 w T h k n) (d : Dc bytes pc .castore 1 pc') (A : VA Z h a .char vs) (hj : j.toInt = (i : Int)) (hi : i < vs.length) (ha : n0 ≤ a) (G : ∀ T' h', At1 w T' h' k n → Wr h h' a i (.int (nar .char x)) → Go w Q T' pc' L st) : Go w Q T pc L (.int x :: .int j :: .ref a :: st) := by
  obtain ⟨p, l, e, R', s, m, args, below, meth, c, Z', k0⟩ := w
  obtain ⟨hx, hby, hml, hown, hZ, hret, hnm, hlk, rfl, rfl, rfl, h00⟩ := K
  obtain ⟨locs, X, eT, N⟩ := H
  obtain ⟨d1, rfl⟩ := d
  obtain ⟨cl, A, r1, r2⟩ := A
  obtain ⟨T', h', X', e', W, stp⟩ := stC X hx hZ eT A (inb_at r1 hj hi) (g := mkF m pc L (.int x :: .int j :: .ref a :: st)) rfl rfl (by rw [hby]; exact d1)
  obtain ⟨s₂, o, g1, g2⟩ := G T' h' ⟨_, X', e', Fr.snoc X' N ha⟩ (by rw [← (idx_nat hj).2]; exact W)
  exact ⟨s₂, o, stp _ g1, g2⟩
theorem go_bastore {a : Addr} {vs : List Value} {j : Int32} {x : Int32} (i : Nat) (K : Cx w R Z n0 own bytes mx rt nm) (H : At1 w T h k n) (d : Dc bytes pc .bastore 1 pc') (A : VA Z h a .byte vs) (hj : j.toInt = (i : Int)) (hi : i < vs.length) (ha : n0 ≤ a) (G : ∀ T' h', At1 w T' h' k n → Wr h h' a i (.int x.toInt8.toInt32) → Go w Q T' pc' L st) : Go w Q T pc L (.int x :: .int j :: .ref a :: st) := by
  obtain ⟨p, l, e, R', s, m, args, below, meth, c, Z', k0⟩ := w
  obtain ⟨hx, hby, hml, hown, hZ, hret, hnm, hlk, rfl, rfl, rfl, h00⟩ := K
  obtain ⟨locs, X, eT, N⟩ := H
  obtain ⟨d1, rfl⟩ := d
  obtain ⟨cl, A, r1, r2⟩ := A
  obtain ⟨T', h', X', e', W, stp⟩ := stB X hx hZ eT A (inb_at r1 hj hi) (g := mkF m pc L (.int x :: .int j :: .ref a :: st)) rfl rfl (by rw [hby]; exact d1)
  obtain ⟨s₂, o, g1, g2⟩ := G T' h' ⟨_, X', e', Fr.snoc X' N ha⟩ (by rw [← (idx_nat hj).2]; exact W)
  exact ⟨s₂, o, stp _ g1, g2⟩
theorem at_nat {α : Type} {xs : List α} {j : Int32} (h0 : 0 ≤ j.toInt) (h1 : j.toInt < xs.length) : ∃ (i : Nat) (x : α), j.toInt = (i : Int) ∧ xs[i]? = some x :=
  ⟨j.toInt.toNat, _, (Int.toNat_of_nonneg h0).symm, List.getElem?_eq_getElem (by omega)⟩
theorem go_iaI {a : Addr} {xs : List Int32} {j : Int32} (K : Cx w R Z n0 own bytes mx rt nm) (H : At1 w T h k n) (d : Dc bytes pc .iaload 1 pc') (A : IA Z h a xs) (h0 : 0 ≤ j.toInt) (h1 : j.toInt < xs.length) (G : ∀ (i : Nat) (x : Int32), j.toInt = (i : Int) → xs[i]? = some x → Go w Q T pc' L (.int x :: st)) : Go w Q T pc L (.int j :: .ref a :: st) := by
  obtain ⟨i, x, e, hx⟩ := at_nat h0 h1
  exact go_iaload i K H d A e (by rw [List.getElem?_map, hx]; rfl) (G i x e hx)
theorem go_laJ {a : Addr} {xs : List Int64} {j : Int32} (K : Cx w R Z n0 own bytes mx rt nm) (H : At1 w T h k n) (d : Dc bytes pc .laload 1 pc') (A : JA Z h a xs) (h0 : 0 ≤ j.toInt) (h1 : j.toInt < xs.length) (G : ∀ (i : Nat) (x : Int64), j.toInt = (i : Int) → xs[i]? = some x → Go w Q T pc' L (.long x :: st)) : Go w Q T pc L (.int j :: .ref a :: st) := by
  obtain ⟨i, x, e, hx⟩ := at_nat h0 h1
  exact go_laload i K H d A e (by rw [List.getElem?_map, hx]; rfl) (G i x e hx)
theorem go_iasI {a : Addr} {xs : List Int32} {j x : Int32} (K : Cx w R Z n0 own bytes mx rt nm) (H : At1 w T h k n) (d : Dc bytes pc .iastore 1 pc') (A : IA Z h a xs) (h0 : 0 ≤ j.toInt) (h1 : j.toInt < xs.length) (ha : n0 ≤ a) (G : ∀ T' h' (i : Nat), At1 w T' h' k n → j.toInt = (i : Int) → Wr h h' a i (.int x) → IA Z h' a (xs.set i x) → Go w Q T' pc' L st) : Go w Q T pc L (.int x :: .int j :: .ref a :: st) := by
  have e : j.toInt = (j.toInt.toNat : Int) := (Int.toNat_of_nonneg h0).symm
  exact go_iastore j.toInt.toNat K H d A e (by rw [List.length_map]; omega) ha fun T' h' H' W => G T' h' _ H' e W (IA.set A W)
theorem go_lasJ {a : Addr} {xs : List Int64} {j : Int32} {x : Int64} (K : Cx w R Z n0 own bytes mx rt nm) (H : At1 w T h k n) (d : Dc bytes pc .lastore 1 pc') (A : JA Z h a xs) (h0 : 0 ≤ j.toInt) (h1 : j.toInt < xs.length) (ha : n0 ≤ a) (G : ∀ T' h' (i : Nat), At1 w T' h' k n → j.toInt = (i : Int) → Wr h h' a i (.long x) → JA Z h' a (xs.set i x) → Go w Q T' pc' L st) : Go w Q T pc L (.long x :: .int j :: .ref a :: st) := by
  have e : j.toInt = (j.toInt.toNat : Int) := (Int.toNat_of_nonneg h0).symm
  exact go_lastore j.toInt.toNat K H d A e (by rw [List.length_map]; omega) ha fun T' h' H' W => G T' h' _ H' e W (JA.set A W)
/-- an array of references over C: all its components -/
def OA (Z : State) (h : Heap) (a : Addr) (C : String) (vs : List Value) : Prop := ∃ c : Cell, Arr Z h a c (.object C) ∧ c.slots.toList = vs ∧ vs.length < 2 ^ 31 ∧ Ovr Z c.cls C
theorem OA.va {a : Addr} {C : String} {vs : List Value} (A : OA Z h a C vs) : VA Z h a (.object C) vs := by obtain ⟨c, A, r1, r2, -⟩ := A; exact ⟨c, A, r1, r2⟩
theorem OA.ext {a : Addr} {C : String} {vs : List Value} {h' : Heap} (A : OA Z h a C vs) (E : Ext h h') : OA Z h' a C vs := by obtain ⟨c, A, r⟩ := A; exact ⟨c, A.ext E, r⟩
theorem OA.other {a b : Addr} {C : String} {vs : List Value} {h' : Heap} {sl : Nat} {v : Value} (A : OA Z h a C vs) (W : Wr h h' b sl v) (q : a ≠ b) : OA Z h' a C vs := by obtain ⟨c, A, r⟩ := A; exact ⟨c, A.other W q, r⟩
theorem OA.keep {a : Addr} {C : String} {vs : List Value} {h' : Heap} {ws : List Addr} (A : OA Z h a C vs) (K : Keep h h' ws) (q : a ∉ ws) : OA Z h' a C vs := by obtain ⟨c, A, r⟩ := A; exact ⟨c, ⟨K.2.1 a c A.1 q, A.2⟩, r⟩
theorem OA.lt {a : Addr} {C : String} {vs : List Value} (A : OA Z h a C vs) : a < h.size := A.va.lt
theorem OA.set {a : Addr} {C : String} {vs : List Value} {h' : Heap} {i : Nat} {v : Value} (A : OA Z h a C vs) (W : Wr h h' a i v) : OA Z h' a C (vs.set i v) := by
  obtain ⟨c, A, r1, r2, r3⟩ := A
  exact ⟨_, A.same W, by simp [Cell.setSlot, r1], by simpa using r2, r3⟩
theorem go_anewarray {a0 : Array Value} {C : String} {idx : Nat} {m : Int32} (cap : Nat) (K : Cx w R Z n0 own bytes mx rt nm) (H : At1 w T h k n) (d : Dc bytes pc (.anewarray idx) 3 pc') (w1 : (Cond.classLink own idx C).before a0 Z = true) (w2 : (Cond.arrayOver (.object C)).before a0 Z = true) (hm : ¬ m < 0) (hcap : m.toNatClampNeg ≤ cap) (hb : cap * 8 ≤ 536870912) (hk : k + 1 ≤ R.cells) (hn : n + cap ≤ R.slots)
    (G : ∀ T' h' a, At1 w T' h' (k + 1) (n + cap) → a = h.size → n0 ≤ a → Ext h h' → OA Z h' a C (List.replicate m.toNatClampNeg .null) → Go w Q T' pc' L (.ref a :: st)) : Go w Q T pc L (.int m :: st) := by
  obtain ⟨p, l, e, R', s, mm, args, below, meth, c, Z', k0⟩ := w
  obtain ⟨hx, hby, hml, hown, hZ, hret, hnm, hlk, rfl, rfl, rfl, h00⟩ := K
  obtain ⟨locs, X, eT, N⟩ := H
  obtain ⟨d1, rfl⟩ := d
  obtain ⟨T', h', cA, X', e', E, A, O, stp⟩ := newR X hx hZ hown w1 w2 eT (g := mkF mm pc L (.int m :: st)) rfl (by rw [hby]; exact d1) rfl hm hcap hb hk hn
  obtain ⟨s₂, o, g1, g2⟩ := G T' h' h.size ⟨_, X', e', N⟩ rfl (by rw [← eT]; exact Nat.le_trans h00 X.same.2.1) E ⟨_, A, by simp [newA, defaultValue], by simpa using (back32 hm).2, O⟩
  exact ⟨s₂, o, stp _ g1, g2⟩
theorem go_aastore {a : Addr} {C : String} {vs : List Value} {j : Int32} {v : Value} (i : Nat) (K : Cx w R Z n0 own bytes mx rt nm) (H : At1 w T h k n) (d : Dc bytes pc .aastore 1 pc') (A : OA Z h a C vs) (hv : v = .null ∨ ∃ y, v = .ref y ∧ Ins Z h y C true) (hj : j.toInt = (i : Int)) (hi : i < vs.length) (ha : n0 ≤ a) (G : ∀ T' h', At1 w T' h' k n → Wr h h' a i v → OA Z h' a C (vs.set i v) → Go w Q T' pc' L st) : Go w Q T pc L (v :: .int j :: .ref a :: st) := by
  obtain ⟨p, l, e, R', s, m, args, below, meth, c, Z', k0⟩ := w
  obtain ⟨hx, hby, hml, hown, hZ, hret, hnm, hlk, rfl, rfl, rfl, h00⟩ := K
  obtain ⟨locs, X, eT, N⟩ := H
  obtain ⟨d1, rfl⟩ := d
  have A' := A
  obtain ⟨cl, A, r1, r2, r3⟩ := A
  have S : Sto Z' h a v := by
    rcases hv with rfl | ⟨y, rfl, I⟩
    · exact Or.inl rfl
    · exact Sto.of A r3 I
  obtain ⟨T', h', X', e', W, stp⟩ := stR X hx hZ eT A (inb_at r1 hj hi) rfl S (g := mkF m pc L (v :: .int j :: .ref a :: st)) rfl rfl (by rw [hby]; exact d1)
  have W' : Wr h h' a i v := by rw [← (idx_nat hj).2]; exact W
  obtain ⟨s₂, o, g1, g2⟩ := G T' h' ⟨_, X', e', Fr.snoc X' N ha⟩ W' (A'.set W')
  exact ⟨s₂, o, stp _ g1, g2⟩
theorem go_checkcast {a0 : Array Value} {C : String} {idx : Nat} {a : Addr} (K : Cx w R Z n0 own bytes mx rt nm) (H : At1 w T h k n) (d : Dc bytes pc (.checkcast idx) 3 pc') (w1 : (Cond.classLink own idx C).before a0 Z = true) (F : Ins Z h a C true)
    (G : ∀ T', At1 w T' h k n → Go w Q T' pc' L (.ref a :: st)) : Go w Q T pc L (.ref a :: st) := by
  obtain ⟨p, l, e, R', s, m, args, below, meth, c, Z', k0⟩ := w
  obtain ⟨hx, hby, hml, hown, hZ, -⟩ := K
  obtain ⟨locs, X, eT, N⟩ := H
  obtain ⟨d1, rfl⟩ := d
  obtain ⟨T', X', e', stp⟩ := castY X hx hZ hown w1 eT F (g := mkF m pc L (.ref a :: st)) rfl rfl (by rw [hby]; exact d1)
  obtain ⟨s₂, o, g1, g2⟩ := G T' ⟨locs, X', e', N⟩
  exact ⟨s₂, o, stp _ g1, g2⟩
theorem go_instY {a0 : Array Value} {C : String} {idx : Nat} {a : Addr} (K : Cx w R Z n0 own bytes mx rt nm) (H : At1 w T h k n) (d : Dc bytes pc (.instanceof idx) 3 pc') (w1 : (Cond.classLink own idx C).before a0 Z = true) (F : Ins Z h a C true)
    (G : ∀ T', At1 w T' h k n → Go w Q T' pc' L (.int 1 :: st)) : Go w Q T pc L (.ref a :: st) := by
  obtain ⟨p, l, e, R', s, m, args, below, meth, c, Z', k0⟩ := w
  obtain ⟨hx, hby, hml, hown, hZ, -⟩ := K
  obtain ⟨locs, X, eT, N⟩ := H
  obtain ⟨d1, rfl⟩ := d
  obtain ⟨T', X', e', stp⟩ := instY X hx hZ hown w1 eT F (g := mkF m pc L (.ref a :: st)) rfl rfl (by rw [hby]; exact d1)
  obtain ⟨s₂, o, g1, g2⟩ := G T' ⟨locs, X', e', N⟩
  exact ⟨s₂, o, stp _ g1, g2⟩
theorem eqI_v {t : Term} {z : Int32} {args : Array Value} {s : State} (h : (Cond.eq t (.int z)).value args s none s [] = some true) : t.eval args s none [] s = some (.int z) := by
  obtain ⟨x, y, h1, h2, k1, k2⟩ := cmp_v (Or.inl h)
  cases (Term.int_eval z).symm.trans h2
  obtain ⟨q, rfl⟩ := k2
  rw [h1, gotT (Cond.eq_ints h1 h2) h]
theorem len_size {t : Term} {z : Int32} {a : Addr} {c : Cell} {args : Array Value} {s : State} (h : (Term.length t).eval args s none [] s = some (.int z)) (ht : t.eval args s none [] s = some (.ref a)) (hc : s.heap[a]? = some c) : (c.slots.size : Int) = z.toInt := by
  obtain ⟨a', c', e1, e2, e3⟩ := Term.length_spec h
  cases ht.symm.trans e1
  cases hc.symm.trans (State.arrayAt?_spec e2).1
  by_cases q : c.slots.size < 2 ^ 31
  · cases e3; exact (len_toInt q).symm
  · simp [Term.eval, ht, e2, q] at h
theorem elem_val {t : Term} {z : Int32} {a : Addr} {c : Cell} {args : Array Value} {s : State} {j : Int32} (h : (Term.elem t (.int j)).eval args s none [] s = some (.int z)) (ht : t.eval args s none [] s = some (.ref a)) (hc : s.heap[a]? = some c) : c.slots[j.toNatClampNeg]? = some (.int z) := (elem_in h ht (Term.int_eval j) hc).2
theorem go_instNull {idx : Nat} (K : Cx w R Z n0 own bytes mx rt nm) (H : At1 w T h k n) (d : Dc bytes pc (.instanceof idx) 3 pc') (G : Go w Q T pc' L (.int 0 :: st)) : Go w Q T pc L (.null :: st) := by
  obtain ⟨p, l, e, R', s, m, args, below, meth, c, Z', k0⟩ := w
  obtain ⟨hx, hby, -⟩ := K
  obtain ⟨locs, X, eT, N⟩ := H
  obtain ⟨d1, rfl⟩ := d
  obtain ⟨s₂, o, g1, g2⟩ := G
  exact ⟨s₂, o, X.instanceofNull hx (g := mkF m pc L (.null :: st)) rfl rfl (by rw [hby]; exact d1) _ g1, g2⟩
theorem go_instNo {a0 : Array Value} {C C' : String} {idx : Nat} {a : Addr} (K : Cx w R Z n0 own bytes mx rt nm) (H : At1 w T h k n) (d : Dc bytes pc (.instanceof idx) 3 pc') (w1 : (Cond.classLink own idx C).before a0 Z = true) (E : Exa Z h a C') (F : ∃ c t, Z.vm.findClass C' = some c ∧ Z.vm.findClass C = some t ∧ Z.vm.assignable c t = false)
    (G : ∀ T', At1 w T' h k n → Go w Q T' pc' L (.int 0 :: st)) : Go w Q T pc L (.ref a :: st) := by
  obtain ⟨p, l, e, R', s, m, args, below, meth, c, Z', k0⟩ := w
  obtain ⟨hx, hby, hml, hown, hZ, -⟩ := K
  obtain ⟨locs, X, eT, N⟩ := H
  obtain ⟨d1, rfl⟩ := d
  obtain ⟨T', X', e', stp⟩ := instNo X hx hZ hown w1 eT E F (g := mkF m pc L (.ref a :: st)) rfl rfl (by rw [hby]; exact d1)
  obtain ⟨s₂, o, g1, g2⟩ := G T' ⟨locs, X', e', N⟩
  exact ⟨s₂, o, stp _ g1, g2⟩
theorem ns_root {a0 : Array Value} {O C : String} {j : Nat} (w1 : (Cond.noSuperclass O).before a0 Z = true) (wk : (Cond.instantiable C j).before a0 Z = true) (hn : O ≠ C) : NS Z O C := by
  obtain ⟨c, k, h1, h2, h3, -, -⟩ := Cond.noSuperclass_spec w1
  obtain ⟨t, kt, g1, -⟩ := Cond.instantiable_spec wk
  have ne := ids_ne h1 g1 hn
  refine ⟨c, t, h1, g1, fun fuel => ?_⟩
  cases fuel with
  | zero => rfl
  | succ f => simp [Vm.isSubclassAux, ne, h2, h3]
theorem ns_no {a0 : Array Value} {C S C' : String} {j : Nat} (w1 : (Cond.superclass C S).before a0 Z = true) (wk : (Cond.instantiable C' j).before a0 Z = true) (n : NS Z C C') (hn : C ≠ C') : ∃ c t, Z.vm.findClass C = some c ∧ Z.vm.findClass C' = some t ∧ Z.vm.assignable c t = false := by
  obtain ⟨c, t, h0, g0, n3⟩ := n
  obtain ⟨p, k, kp, h1, h2, h3, h4, h5, -, h7⟩ := Cond.superclass_spec h0 w1
  obtain ⟨q, k', g1, g2, g3, g4, -⟩ := Cond.instantiable_spec wk
  cases g0.symm.trans g1
  have ne := ids_ne h0 g0 hn
  refine ⟨c, _, h0, g0, ?_⟩
  show Z.vm.assignableAux (255 + 1) c _ = false
  simp [Vm.assignableAux, ne, h2, g2, h5, g3, (Bool.or_eq_false_iff.mp g4).1, Vm.isSubclass, n3]
theorem VA.arv {a : Addr} {ty : FieldType} {vs : List Value} (A : VA Z h a ty vs) (dv : Value) (hf : ∀ v ∈ vs, fits ty v = true) : ∃ cid, Arv Z h a cid ty (Nat.toInt32 vs.length) vs dv := by
  obtain ⟨c, A, r1, r2⟩ := A
  have hs : c.slots.size = vs.length := by rw [← r1]; simp
  have hn : (Nat.toInt32 vs.length).toNatClampNeg = vs.length := by simp only [Int32.toNatClampNeg, len_toInt r2]; rfl
  refine ⟨c.cls, c, A, rfl, by rw [hn, hs], ?_, fun i hi => ?_, fun i hi => ?_⟩
  · rw [Int32.lt_iff_toInt_lt, len_toInt r2]; show ¬ ((vs.length : Int) < 0); omega
  · rw [hs] at hi
    rw [← Array.getElem?_toList, r1, List.getD_eq_getElem?_getD, List.getElem?_eq_getElem hi]; rfl
  · rw [hs] at hi
    rw [List.getD_eq_getElem?_getD, List.getElem?_eq_getElem hi]; exact hf _ (List.getElem_mem hi)
theorem VA.of_arr {a : Addr} {ty : FieldType} {c : Cell} {vs : List Value} (A : Arr Z h a c ty) (hs : c.slots.size = vs.length) (hl : vs.length < 2 ^ 31) (he : ∀ i, i < vs.length → c.slots[i]? = vs[i]?) : VA Z h a ty vs := by
  refine ⟨c, A, List.ext_getElem? fun i => ?_, hl⟩
  rw [Array.getElem?_toList]
  by_cases q : i < vs.length
  · exact he i q
  · rw [List.getElem?_eq_none (by omega), Array.getElem?_eq_none (by omega)]
theorem VA.of_arv {a : Addr} {ty : FieldType} {cid : ClassId} {z : Int32} {vs : List Value} {dv : Value} (A : Arv Z h a cid ty z vs dv) (hl : vs.length = z.toNatClampNeg) (hz : vs.length < 2 ^ 31) : VA Z h a ty vs := by
  obtain ⟨c, A, -, hs, -, H, -⟩ := A
  refine VA.of_arr A (by rw [hs, hl]) hz fun i hi => ?_
  rw [H i (by rw [hs, ← hl]; exact hi), List.getD_eq_getElem?_getD, List.getElem?_eq_getElem hi]; rfl
theorem go_copyI {a0 : Array Value} {idx : Nat} {a b : Addr} {xs ys : List Int32} {sp dp nn : Int32} (i j l : Nat) (K : Cx w R Z n0 own bytes mx rt nm) (H : At1 w T h k n) (d : Dc bytes pc (.invokestatic idx) 3 pc') (w1 : (Cond.methodLink own idx Jvm.Stand.acN).before a0 Z = true) (w2 : (Cond.native Jvm.Stand.acN).before a0 Z = true) (w3 : (Cond.static Jvm.Stand.acN).before a0 Z = true) (w4 : (Cond.initialized "java/lang/System").before a0 Z = true)
    (A : IA Z h a xs) (B : IA Z h b ys) (e1 : sp.toInt = (i : Int)) (e2 : dp.toInt = (j : Int)) (e3 : nn.toInt = (l : Int)) (b1 : i + l ≤ xs.length) (b2 : j + l ≤ ys.length) (ge : n0 ≤ b) (hL : L.size = mx) (hf : 1 ≤ R.frames) {W : Nat} (hW : (st.map fun v => v.category).sum = W) (hl : W + (nativeFrameWords "java/lang/System" "arraycopy" 5 + 11) ≤ R.locals)
    (G : ∀ T' h', At1 w T' h' k n → Keep h h' [b] → IA Z h' b (ys.take j ++ (xs.drop i).take l ++ ys.drop (j + l)) → Go w Q T' pc' L st) : Go w Q T pc L (.int nn :: .int dp :: .ref b :: .int sp :: .ref a :: st) := by
  obtain ⟨p, l', e, R', s, m, args, below, meth, c, Z', k0⟩ := w
  obtain ⟨hx, hby, hml, hown, hZ, hret, hnm, hlk, rfl, rfl, rfl, h00⟩ := K
  obtain ⟨locs, X, eT, N⟩ := H
  obtain ⟨d1, rfl⟩ := d
  have ft : ∀ (zs : List Int32), ∀ v ∈ zs.map Value.int, fits .int v = true := fun zs v hv => by obtain ⟨y, -, rfl⟩ := List.mem_map.mp hv; rfl
  have la := A.len
  have lb := B.len
  obtain ⟨ca, VA1⟩ := VA.arv A (.int 0) (ft xs)
  obtain ⟨cb, VB1⟩ := VA.arv B (.int 0) (ft ys)
  have la' : (Nat.toInt32 (xs.map Value.int).length).toNatClampNeg = xs.length := by simp only [List.length_map, Int32.toNatClampNeg, len_toInt la]; rfl
  have lb' : (Nat.toInt32 (ys.map Value.int).length).toNatClampNeg = ys.length := by simp only [List.length_map, Int32.toNatClampNeg, len_toInt lb]; rfl
  have hus : ((xs.drop i).take l).map Value.int = (List.range nn.toNatClampNeg).map fun q => (xs.map Value.int).getD (sp.toNatClampNeg + q) (.int 0) := by
    rw [(idx_nat e3).2, (idx_nat e1).2]
    apply List.ext_getElem?
    intro q
    rw [List.getElem?_map, List.getElem?_map]
    by_cases hq : q < l
    · rw [List.getElem?_take_of_lt hq, List.getElem?_drop, List.getElem?_range hq, List.getElem?_eq_getElem (show i + q < xs.length by omega)]
      simp [List.getD_eq_getElem?_getD, List.getElem?_eq_getElem (show i + q < xs.length by omega)]
    · rw [List.getElem?_eq_none (by simp; omega), List.getElem?_eq_none (by simp; omega)]; rfl
  obtain ⟨T', h', L2, X', e', N', K', B', stp⟩ := cpA X hx hZ hown w1 w2 w3 w4 eT VA1 VB1 (Or.inl ⟨rfl, rfl⟩) (idx_nat e1).1 (idx_nat e2).1 (idx_nat e3).1 (by rw [(idx_nat e1).2, (idx_nat e3).2, la']; exact b1) (by rw [(idx_nat e2).2, (idx_nat e3).2, lb']; exact b2) hus (by rw [(idx_nat e2).2, (idx_nat e3).2, List.length_map]; exact b2) N ge (g := mkF m pc L (.int nn :: .int dp :: .ref b :: .int sp :: .ref a :: st)) rfl (hL.trans hml.symm) rfl (by rw [hby]; exact d1) hf (W := W) (by show 2 * 0 + _ ≤ _; rw [hW]; omega) hl
  rw [(idx_nat e2).2, (idx_nat e3).2] at B'
  have B2 : IA Z' h' b (ys.take j ++ (xs.drop i).take l ++ ys.drop (j + l)) := by
    have q := VA.of_arv B' (by rw [lb']; simp; omega) (by simp; omega)
    rw [← List.map_take, ← List.map_drop, ← List.map_append, ← List.map_append] at q
    exact q
  obtain ⟨s₂, o, g1, g2⟩ := G T' h' ⟨_, X', e', N'⟩ K' B2
  exact ⟨s₂, o, stp _ g1, g2⟩
theorem f_iadd {v x y : Int32} (e : v = x + y) : (v.toInt - (x.toInt + y.toInt)) % 4294967296 = 0 := e ▸ c_iadd x y
theorem f_isub {v x y : Int32} (e : v = x - y) : (v.toInt - (x.toInt - y.toInt)) % 4294967296 = 0 := e ▸ c_isub x y
theorem f_imul {v x y : Int32} (e : v = x * y) : (v.toInt - (x.toInt * y.toInt)) % 4294967296 = 0 := e ▸ c_imul x y
theorem f_ineg {v x : Int32} (e : v = -x) : (v.toInt - (-x.toInt)) % 4294967296 = 0 := e ▸ c_ineg x
theorem f_ladd {v x y : Int64} (e : v = x + y) : (v.toInt - (x.toInt + y.toInt)) % 18446744073709551616 = 0 := e ▸ c_ladd x y
theorem f_lsub {v x y : Int64} (e : v = x - y) : (v.toInt - (x.toInt - y.toInt)) % 18446744073709551616 = 0 := e ▸ c_lsub x y
theorem f_lmul {v x y : Int64} (e : v = x * y) : (v.toInt - (x.toInt * y.toInt)) % 18446744073709551616 = 0 := e ▸ c_lmul x y
theorem f_lneg {v x : Int64} (e : v = -x) : (v.toInt - (-x.toInt)) % 18446744073709551616 = 0 := e ▸ c_lneg x
theorem f_l2i {v : Int32} {x : Int64} (e : v = x.toInt32) : (v.toInt - x.toInt) % 4294967296 = 0 := e ▸ c_l2i x
theorem f_i2l {v : Int64} {x : Int32} (e : v = x.toInt64) : v.toInt = x.toInt := e ▸ c_i2l x
theorem f_i2b {v x : Int32} (e : v = x.toInt8.toInt32) : (v.toInt - x.toInt) % 256 = 0 ∧ -128 ≤ v.toInt ∧ v.toInt < 128 := e ▸ c_i2b x
theorem f_i2s {v x : Int32} (e : v = x.toInt16.toInt32) : (v.toInt - x.toInt) % 65536 = 0 ∧ -32768 ≤ v.toInt ∧ v.toInt < 32768 := e ▸ c_i2s x
theorem f_i2c {v x : Int32} (e : v = x.toUInt32.toUInt16.toUInt32.toInt32) : (v.toInt - x.toInt) % 65536 = 0 ∧ 0 ≤ v.toInt ∧ v.toInt < 65536 := e ▸ c_i2c x
theorem f_mask {v x m : Int32} (M : Nat) (k : Nat) (e : v = x &&& m) (hk : k ≤ 31) (hm : m.toBitVec.toNat = 2 ^ k - 1) (hM : 2 ^ k = M) : v.toInt = x.toInt % (M : Nat) := by rw [e, ← hM]; exact c_mask x m k hk hm
theorem f_maskL {v x m : Int64} (M : Nat) (k : Nat) (e : v = x &&& m) (hk : k ≤ 63) (hm : m.toBitVec.toNat = 2 ^ k - 1) (hM : 2 ^ k = M) : v.toInt = x.toInt % (M : Nat) := by rw [e, ← hM]; exact c_maskL x m k hk hm
theorem f_ishr {v x q : Int32} (M : Nat) (k : Nat) (e : v = x >>> (q &&& 31)) (hk : q.toBitVec.toNat % 32 = k) (hM : 2 ^ k = M) : v.toInt = x.toInt / (M : Nat) := by rw [e, ← hM]; exact c_ishr x q k hk
theorem f_ishl {v x q : Int32} (M : Nat) (k : Nat) (e : v = x <<< (q &&& 31)) (hk : q.toBitVec.toNat % 32 = k) (hM : 2 ^ k = M) : (v.toInt - x.toInt * (M : Nat)) % 4294967296 = 0 := by rw [e, ← hM]; exact c_ishl x q k hk
theorem f_iushr {v x q : Int32} (M : Nat) (k : Nat) (e : v = iU x q) (hk : q.toBitVec.toNat % 32 = k) (h0 : 0 < k) (hM : 2 ^ k = M) : v.toInt = (x.toInt % 4294967296) / (M : Nat) := by rw [e, ← hM]; exact c_iushr x q k hk h0
theorem f_lshr {v x : Int64} {q : Int32} (M : Nat) (k : Nat) (e : v = x >>> (q &&& 0x3f).toInt64) (hk : q.toBitVec.toNat % 64 = k) (hM : 2 ^ k = M) : v.toInt = x.toInt / (M : Nat) := by rw [e, ← hM]; exact c_lshr x q k hk
theorem f_lshl {v x : Int64} {q : Int32} (M : Nat) (k : Nat) (e : v = x <<< (q &&& 0x3f).toInt64) (hk : q.toBitVec.toNat % 64 = k) (hM : 2 ^ k = M) : (v.toInt - x.toInt * (M : Nat)) % 18446744073709551616 = 0 := by rw [e, ← hM]; exact c_lshl x q k hk
theorem f_lushr {v x : Int64} {q : Int32} (M : Nat) (k : Nat) (e : v = lU x q) (hk : q.toBitVec.toNat % 64 = k) (h0 : 0 < k) (hM : 2 ^ k = M) : v.toInt = (x.toInt % 18446744073709551616) / (M : Nat) := by rw [e, ← hM]; exact c_lushr x q k hk h0
theorem f_idiv {v x y : Int32} (d : Int) (e : v = x / y) (hy : y.toInt = d) (hd : y ≠ -1) : (0 ≤ x.toInt → v.toInt = x.toInt / d) ∧ (x.toInt < 0 → v.toInt = -((-x.toInt) / d)) := e ▸ c_idiv x y d hy hd
theorem f_irem {v x y : Int32} (d : Int) (e : v = x % y) (hy : y.toInt = d) : (0 ≤ x.toInt → v.toInt = x.toInt % d) ∧ (x.toInt < 0 → v.toInt = -((-x.toInt) % d)) := e ▸ c_irem x y d hy
theorem f_ldiv {v x y : Int64} (d : Int) (e : v = x / y) (hy : y.toInt = d) (hd : y ≠ -1) : (0 ≤ x.toInt → v.toInt = x.toInt / d) ∧ (x.toInt < 0 → v.toInt = -((-x.toInt) / d)) := e ▸ c_ldiv x y d hy hd
theorem f_lrem {v x y : Int64} (d : Int) (e : v = x - (x / y) * y) (hy : y.toInt = d) : (0 ≤ x.toInt → v.toInt = x.toInt % d) ∧ (x.toInt < 0 → v.toInt = -((-x.toInt) % d)) := e ▸ c_lrem x y d hy
theorem f_lcmp {v : Int32} {x y : Int64} (e : v = lcmpW x y) : (x.toInt < y.toInt → v.toInt = -1) ∧ (x.toInt = y.toInt → v.toInt = 0) ∧ (y.toInt < x.toInt → v.toInt = 1) := e ▸ c_lcmp x y
def bI (p : Prop) [Decidable p] : Int32 := if p then 1 else 0
theorem bI_t {p : Prop} [Decidable p] (h : p) : bI p = 1 := if_pos h
theorem bI_f {p : Prop} [Decidable p] (h : ¬ p) : bI p = 0 := if_neg h
theorem bI_nar {p : Prop} [Decidable p] : nar .boolean (bI p) = bI p := by unfold bI; split <;> decide
theorem bI_iff {p q : Prop} [Decidable p] [Decidable q] (h : p ↔ q) : bI p = bI q := by simp [bI, h]
theorem bI_eq0 {p : Prop} [Decidable p] : bI p = 0 ↔ ¬ p := by unfold bI; split <;> simp_all
theorem bI_eq1 {p : Prop} [Decidable p] : bI p = 1 ↔ p := by unfold bI; split <;> simp_all
theorem bI_inj {p q : Prop} [Decidable p] [Decidable q] : bI p = bI q ↔ (p ↔ q) := by unfold bI; split <;> split <;> simp_all
theorem bI_ne0 {p : Prop} [Decidable p] : ¬ bI p = 0 ↔ p := by unfold bI; split <;> simp_all
theorem go_lookup (K : Cx w R Z n0 own bytes mx rt nm) (H : At1 w T h k n) {x : Int32} {df off : Int} {ps : Array (Int × Int)} {q yes no : Nat} (d : Dc bytes pc (.lookupswitch df ps) q pc') (hs : (ps.toList.zip (ps.toList.drop 1)).all (fun (a, next) => a.1 < next.1) = true) (hall : ∀ p ∈ ps.toList, p.2 = off) (hy0 : 0 ≤ (pc : Int) + off) (hy : ((pc : Int) + off).toNat = yes) (hn0 : 0 ≤ (pc : Int) + df) (hn : ((pc : Int) + df).toNat = no)
    (G1 : x.toInt ∈ ps.toList.map (·.1) → Go w Q T yes L st) (G2 : x.toInt ∉ ps.toList.map (·.1) → Go w Q T no L st) : Go w Q T pc L (.int x :: st) := by
  obtain ⟨p, l, e, R', s, m, args, below, meth, c, Z', k0⟩ := w
  obtain ⟨hx, hby, -⟩ := K
  obtain ⟨locs, X, -⟩ := H
  subst hy hn
  cases hf : ps.find? (·.1 == x.toInt) with
  | none =>
    have : x.toInt ∉ ps.toList.map (·.1) := by
      intro hm
      obtain ⟨a, ha, e⟩ := List.mem_map.mp hm
      have := Array.find?_eq_none.mp hf a (Array.mem_toList_iff.mp ha)
      simp [e] at this
    obtain ⟨s₂, o, g1, g2⟩ := G2 this
    exact ⟨s₂, o, X.lookupswitchMiss hx (g := mkF m pc L (.int x :: st)) rfl rfl (by rw [hby]; exact d.1) hs hf hn0 _ g1, g2⟩
  | some a =>
    obtain ⟨b, off'⟩ := a
    have hm := Array.mem_toList_iff.mpr (Array.mem_of_find?_eq_some hf)
    have hb : b = x.toInt := by simpa using Array.find?_some hf
    obtain rfl : off' = off := hall _ hm
    obtain ⟨s₂, o, g1, g2⟩ := G1 (List.mem_map.mpr ⟨_, hm, hb⟩)
    exact ⟨s₂, o, X.lookupswitchHit hx (g := mkF m pc L (.int x :: st)) rfl rfl (by rw [hby]; exact d.1) hs hf hy0 _ g1, g2⟩
theorem con_back {l : Launch} {p : Program} {e : Env} {s : State} {args : Array Value} {below : List Frame} {a0 : Array Value} {y : MethodName} {yb : ByteArray} {ym : Nat} {yr : Option FieldType} {rm : Room} {as' : Array Value} {P : Option Value → Heap → Prop} {len W : Nat}
    (C : Con l Z y yb ym yr rm as' h n0 P) (hZ : Z.Warmed39 s.vm) (wc : (Cond.code y yb ym yr).before a0 Z = true) (wz : (Cond.initialized y.cls).before a0 Z = true) (hf : rm.frames + 1 ≤ R.frames) (hl : W + (ym + 11) + rm.locals ≤ R.locals) :
    Back l R p e below s args y len W (fun A a => a = as' ∧ A.U.heap = h ∧ A.cells + rm.cells ≤ R.cells ∧ A.slots + rm.slots ≤ R.slots)
      (fun A _ v B => ∃ Lc, (P v B.U.heap ∧ Fr n0 Lc) ∧ B.locs = A.locs ++ Lc ∧ B.cells = A.cells + rm.cells ∧ B.slots = A.slots + rm.slots) :=
  backOf (Q := fun v hh Lc => P v hh ∧ Fr n0 Lc) (C []) hZ wc wz hf hl
theorem at_size (K : Cx w R Z n0 own bytes mx rt nm) (H : At1 w T h k n) : n0 ≤ h.size := by
  obtain ⟨p, l, e, R', s, m, args, below, meth, c, Z', k0⟩ := w
  obtain ⟨hx, hby, hml, hown, hZ, hret, hnm, hlk, rfl, rfl, rfl, h00⟩ := K
  obtain ⟨locs, X, eT, N⟩ := H
  rw [← eT]; exact Nat.le_trans h00 X.same.2.1
theorem go_callS {a0 : Array Value} {idx : Nat} {y : MethodName} {yb : ByteArray} {ym : Nat} {yr : Option FieldType} {rm : Room} {P : Option Value → Heap → Prop} {ps : List FieldType} {rr : Option FieldType} (argsL : List Value)
    (K : Cx w R Z n0 own bytes mx rt nm) (H : At1 w T h k n) (d : Dc bytes pc (.invokestatic idx) 3 pc') (w1 : (Cond.methodLink own idx y).before a0 Z = true) (w2 : (Cond.static y).before a0 Z = true) (w3 : (Cond.initialized y.cls).before a0 Z = true) (w4 : (Cond.code y yb ym yr).before a0 Z = true)
    (hy : y.cls ≠ "java/lang/invoke/MethodHandle" ∧ y.cls ≠ "java/lang/invoke/VarHandle") (C : ∀ l, Con l Z y yb ym yr rm argsL.toArray h n0 P) (hd : parseMethodDescriptor y.desc = some ⟨ps, rr⟩) (hlen : argsL.length = ps.length) (hs : st = argsL.reverse ++ st')
    (hL : L.size = mx) (hf : rm.frames + 1 ≤ R.frames) {W : Nat} (hW : (st'.map fun v => v.category).sum = W) (hl : W + (ym + 11) + rm.locals ≤ R.locals) (hk : k + rm.cells ≤ R.cells) (hn : n + rm.slots ≤ R.slots)
    (G : ∀ T' h' v, At1 w T' h' (k + rm.cells) (n + rm.slots) → P v h' → Go w Q T' pc' L (v.toList ++ st')) : Go w Q T pc L st := by
  obtain ⟨p, l, e, R', s, m, args, below, meth, c, Z', k0⟩ := w
  obtain ⟨hx, hby, hml, hown, hZ, hret, hnm, hlk, rfl, rfl, rfl, h00⟩ := K
  obtain ⟨locs, X, eT, N⟩ := H
  obtain ⟨d1, rfl⟩ := d
  obtain ⟨v, vm₁, ⟨T', L1, k1, n1⟩, -, X', ⟨Lc, ⟨hQ, N'⟩, l1, y1, z1⟩, stp⟩ := Jvm.LawKit.callS X hx (y := y) hown (mvT hZ w1) (mvT hZ w2) (mvT hZ w3) (mvT hZ w4) hy (con_back (W := W) (C l) hZ w4 w3 hf hl) (g := mkF m pc L st) rfl (hL.trans hml.symm) (argsL := argsL) (rest := st') (lenOf hd hlen) hs (by show 2 * 0 + _ ≤ _; rw [hW]; omega) (by rw [hby]; exact d1) (fun _ _ => ⟨rfl, eT, hk, hn⟩)
  dsimp only [Pt.U, Pt.locs, Pt.cells, Pt.slots] at X' l1 y1 z1 stp hQ
  subst l1 y1 z1
  obtain ⟨s₂, o, g1, g2⟩ := G T' T'.heap v ⟨_, X', rfl, Fr.app N N'⟩ hQ
  exact ⟨s₂, o, stp _ g1, g2⟩
theorem go_callI {a0 : Array Value} {idx : Nat} {y : MethodName} {yb : ByteArray} {ym : Nat} {rm : Room} {P : Option Value → Heap → Prop} {ps : List FieldType} {rr : Option FieldType} {a : Addr} (argsL : List Value)
    (K : Cx w R Z n0 own bytes mx rt nm) (H : At1 w T h k n) (d : Dc bytes pc (.invokespecial idx) 3 pc') (hy1 : y.name = "<init>") (w1 : (Cond.methodLink own idx y).before a0 Z = true) (w2 : (Cond.instanceMethod y).before a0 Z = true) (w3 : (Cond.initialized y.cls).before a0 Z = true) (w4 : (Cond.code y yb ym none).before a0 Z = true)
    (hy : y.cls ≠ "java/lang/invoke/MethodHandle" ∧ y.cls ≠ "java/lang/invoke/VarHandle") (C : ∀ l, Con l Z y yb ym none rm (.ref a :: argsL).toArray h n0 P) (hd : parseMethodDescriptor y.desc = some ⟨ps, rr⟩) (hlen : argsL.length = ps.length) (hs : st = argsL.reverse ++ .ref a :: st')
    (hL : L.size = mx) (hf : rm.frames + 1 ≤ R.frames) {W : Nat} (hW : (st'.map fun v => v.category).sum = W) (hl : W + (ym + 11) + rm.locals ≤ R.locals) (hk : k + rm.cells ≤ R.cells) (hn : n + rm.slots ≤ R.slots)
    (G : ∀ T' h' v, At1 w T' h' (k + rm.cells) (n + rm.slots) → P v h' → Go w Q T' pc' L (v.toList ++ st')) : Go w Q T pc L st := by
  obtain ⟨p, l, e, R', s, m, args, below, meth, c, Z', k0⟩ := w
  obtain ⟨hx, hby, hml, hown, hZ, hret, hnm, hlk, rfl, rfl, rfl, h00⟩ := K
  obtain ⟨locs, X, eT, N⟩ := H
  obtain ⟨d1, rfl⟩ := d
  obtain ⟨v, vm₁, ⟨T', L1, k1, n1⟩, -, X', ⟨Lc, ⟨hQ, N'⟩, l1, y1, z1⟩, stp⟩ := X.specialBack hx (y := y) hy1 hown (mvT hZ w1) (mvT hZ w2) (mvT hZ w4) hy (con_back (W := W) (C l) hZ w4 w3 hf hl) (g := mkF m pc L st) rfl (hL.trans hml.symm) (Steps.refl _) (a := a) (argsL := argsL) (rest := st') (lenOf hd hlen) hs (by show 2 * 0 + _ ≤ _; rw [hW]; omega) (by rw [hby]; exact d1) (fun _ _ => ⟨rfl, eT, hk, hn⟩)
  dsimp only [Pt.U, Pt.locs, Pt.cells, Pt.slots] at X' l1 y1 z1 stp hQ
  subst l1 y1 z1
  obtain ⟨s₂, o, g1, g2⟩ := G T' T'.heap v ⟨_, X', rfl, Fr.app N N'⟩ hQ
  exact ⟨s₂, o, stp.trans g1, g2⟩
theorem go_callV {a0 : Array Value} {idx : Nat} {y z : MethodName} {yb : ByteArray} {ym : Nat} {yr : Option FieldType} {rm : Room} {P : Option Value → Heap → Prop} {ps : List FieldType} {rr : Option FieldType} {a : Addr} {CC : String} (argsL : List Value)
    (K : Cx w R Z n0 own bytes mx rt nm) (H : At1 w T h k n) (d : Dc bytes pc (.invokevirtual idx) 3 pc') (E : Exa Z h a CC) (w1 : (Cond.methodLink own idx y).before a0 Z = true) (wd : (Cond.declares y).before a0 Z = true) (hnf : ∀ s : State, Z.Warmed39 s.vm → NotFace s y) (ws : (Cond.selects CC y z).before a0 Z = true) (w2 : (Cond.instanceMethod z).before a0 Z = true) (w3 : (Cond.initialized z.cls).before a0 Z = true) (w4 : (Cond.code z yb ym yr).before a0 Z = true)
    (hy : y.cls ≠ "java/lang/invoke/MethodHandle" ∧ y.cls ≠ "java/lang/invoke/VarHandle") (C : ∀ l, Con l Z z yb ym yr rm (.ref a :: argsL).toArray h n0 P) (hd : parseMethodDescriptor y.desc = some ⟨ps, rr⟩) (hlen : argsL.length = ps.length) (hs : st = argsL.reverse ++ .ref a :: st')
    (hL : L.size = mx) (hf : rm.frames + 1 ≤ R.frames) {W : Nat} (hW : (st'.map fun v => v.category).sum = W) (hl : W + (ym + 11) + rm.locals ≤ R.locals) (hk : k + rm.cells ≤ R.cells) (hn : n + rm.slots ≤ R.slots)
    (G : ∀ T' h' v, At1 w T' h' (k + rm.cells) (n + rm.slots) → P v h' → Go w Q T' pc' L (v.toList ++ st')) : Go w Q T pc L st := by
  obtain ⟨p, l, e, R', s, m, args, below, meth, c, Z', k0⟩ := w
  obtain ⟨hx, hby, hml, hown, hZ, hret, hnm, hlk, rfl, rfl, rfl, h00⟩ := K
  obtain ⟨locs, X, eT, N⟩ := H
  obtain ⟨d1, rfl⟩ := d
  obtain ⟨cq, kq, q1, q2, q3⟩ := isOf hZ eT E
  obtain ⟨v, vm₁, ⟨T', L1, k1, n1⟩, -, X', ⟨Lc, ⟨hQ, N'⟩, l1, y1, z1⟩, stp⟩ := X.virtualBack hx (y := y) (z := z) hown (mvT hZ w1) (mvT hZ wd) (hnf s hZ) (mvT hZ ws) (mvT hZ w2) hy (con_back (W := W) (C l) hZ w4 w3 hf hl) q1 q3 (g := mkF m pc L st) rfl (hL.trans hml.symm) (Steps.refl _) (argsL := argsL) (rest := st') (lenOf hd hlen) hs (by show 2 * 0 + _ ≤ _; rw [hW]; omega) (by rw [hby]; exact d1) (fun _ _ => ⟨rfl, eT, hk, hn⟩)
  dsimp only [Pt.U, Pt.locs, Pt.cells, Pt.slots] at X' l1 y1 z1 stp hQ
  subst l1 y1 z1
  obtain ⟨s₂, o, g1, g2⟩ := G T' T'.heap v ⟨_, X', rfl, Fr.app N N'⟩ hQ
  exact ⟨s₂, o, stp.trans g1, g2⟩
theorem go_callP {a0 : Array Value} {idx : Nat} {y : MethodName} {yb : ByteArray} {ym : Nat} {yr : Option FieldType} {rm : Room} {P : Option Value → Heap → Prop} {ps : List FieldType} {rr : Option FieldType} {a : Addr} {CC : String} (argsL : List Value)
    (K : Cx w R Z n0 own bytes mx rt nm) (H : At1 w T h k n) (d : Dc bytes pc (.invokevirtual idx) 3 pc') (E : Exa Z h a CC) (w1 : (Cond.methodLink own idx y).before a0 Z = true) (w2 : (Cond.instanceMethod y).before a0 Z = true) (ws : (Cond.selects y.cls y y).before a0 Z = true) (wp : (Cond.privateMethod y).before a0 Z = true) (w3 : (Cond.initialized y.cls).before a0 Z = true) (w4 : (Cond.code y yb ym yr).before a0 Z = true)
    (hy : y.cls ≠ "java/lang/invoke/MethodHandle" ∧ y.cls ≠ "java/lang/invoke/VarHandle") (C : ∀ l, Con l Z y yb ym yr rm (.ref a :: argsL).toArray h n0 P) (hd : parseMethodDescriptor y.desc = some ⟨ps, rr⟩) (hlen : argsL.length = ps.length) (hs : st = argsL.reverse ++ .ref a :: st')
    (hL : L.size = mx) (hf : rm.frames + 1 ≤ R.frames) {W : Nat} (hW : (st'.map fun v => v.category).sum = W) (hl : W + (ym + 11) + rm.locals ≤ R.locals) (hk : k + rm.cells ≤ R.cells) (hn : n + rm.slots ≤ R.slots)
    (G : ∀ T' h' v, At1 w T' h' (k + rm.cells) (n + rm.slots) → P v h' → Go w Q T' pc' L (v.toList ++ st')) : Go w Q T pc L st := by
  obtain ⟨p, l, e, R', s, m, args, below, meth, c, Z', k0⟩ := w
  obtain ⟨hx, hby, hml, hown, hZ, hret, hnm, hlk, rfl, rfl, rfl, h00⟩ := K
  obtain ⟨locs, X, eT, N⟩ := H
  obtain ⟨d1, rfl⟩ := d
  obtain ⟨cq, q1, q2⟩ := E.cell
  obtain ⟨v, vm₁, ⟨T', L1, k1, n1⟩, -, X', ⟨Lc, ⟨hQ, N'⟩, l1, y1, z1⟩, stp⟩ := X.privateBack hx (y := y) hown (mvT hZ w1) (mvT hZ w2) (mvT hZ ws) (Cond.privateMethod_at (mvP hZ wp (args := #[]))) (mvT hZ w4) hy (con_back (W := W) (C l) hZ w4 w3 hf hl) (g := mkF m pc L st) rfl (hL.trans hml.symm) (Steps.refl _) (a := a) (by rw [eT]; exact q1) q2 (argsL := argsL) (rest := st') (lenOf hd hlen) hs (by show 2 * 0 + _ ≤ _; rw [hW]; omega) (by rw [hby]; exact d1) (fun _ _ => ⟨rfl, eT, hk, hn⟩)
  dsimp only [Pt.U, Pt.locs, Pt.cells, Pt.slots] at X' l1 y1 z1 stp hQ
  subst l1 y1 z1
  obtain ⟨s₂, o, g1, g2⟩ := G T' T'.heap v ⟨_, X', rfl, Fr.app N N'⟩ hQ
  exact ⟨s₂, o, stp.trans g1, g2⟩
theorem go_callF {a0 : Array Value} {idx cnt : Nat} {y z : MethodName} {yb : ByteArray} {ym : Nat} {yr : Option FieldType} {rm : Room} {P : Option Value → Heap → Prop} {ps : List FieldType} {rr : Option FieldType} {a : Addr} {CC : String} (argsL : List Value)
    (K : Cx w R Z n0 own bytes mx rt nm) (H : At1 w T h k n) (d : Dc bytes pc (.invokeinterface idx cnt) 5 pc') (E : Exa Z h a CC) (w1 : (Cond.methodLink own idx y).before a0 Z = true) (wd : (Cond.declares y).before a0 Z = true) (wf : (Cond.interfaceMethod y.cls y.cls y.name y.desc).before a0 Z = true) (ws : (Cond.selects CC y z).before a0 Z = true) (w2 : (Cond.instanceMethod z).before a0 Z = true) (wp : (Cond.publicMethod z).before a0 Z = true) (wu : (Cond.unhidden CC y.name y.desc).before a0 Z = true) (wc : (Cond.castable CC y.cls).before a0 Z = true) (w3 : (Cond.initialized z.cls).before a0 Z = true) (w4 : (Cond.code z yb ym yr).before a0 Z = true)
    (hy : y.cls ≠ "java/lang/invoke/MethodHandle" ∧ y.cls ≠ "java/lang/invoke/VarHandle") (C : ∀ l, Con l Z z yb ym yr rm (.ref a :: argsL).toArray h n0 P) (hd : parseMethodDescriptor y.desc = some ⟨ps, rr⟩) (hlen : argsL.length = ps.length) (hs : st = argsL.reverse ++ .ref a :: st')
    (hL : L.size = mx) (hf : rm.frames + 1 ≤ R.frames) {W : Nat} (hW : (st'.map fun v => v.category).sum = W) (hl : W + (ym + 11) + rm.locals ≤ R.locals) (hk : k + rm.cells ≤ R.cells) (hn : n + rm.slots ≤ R.slots)
    (G : ∀ T' h' v, At1 w T' h' (k + rm.cells) (n + rm.slots) → P v h' → Go w Q T' pc' L (v.toList ++ st')) : Go w Q T pc L st := by
  obtain ⟨p, l, e, R', s, m, args, below, meth, c, Z', k0⟩ := w
  obtain ⟨hx, hby, hml, hown, hZ, hret, hnm, hlk, rfl, rfl, rfl, h00⟩ := K
  obtain ⟨locs, X, eT, N⟩ := H
  obtain ⟨d1, rfl⟩ := d
  obtain ⟨cq, kq, q1, q2, q3⟩ := isOf hZ eT E
  obtain ⟨v, vm₁, ⟨T', L1, k1, n1⟩, -, X', ⟨Lc, ⟨hQ, N'⟩, l1, y1, z1⟩, stp⟩ := X.interfaceBack hx (xi := y) (y := z) hown (mvT hZ w1) (mvT hZ wd) (mvT hZ wf (by simp [Cond.onTables, Cond.keepsFace, Cond.keeps, Cond.steady, Cond.faceAtom, hy.1, hy.2])) (mvT hZ ws) (mvT hZ w2) (mvT hZ wp) (mvT hZ wu) (mvT hZ wc) hy (con_back (W := W) (C l) hZ w4 w3 hf hl) q1 q2 q3 (g := mkF m pc L st) rfl (hL.trans hml.symm) (Steps.refl _) (argsL := argsL) (rest := st') (lenOf hd hlen) hs (by show 2 * 0 + _ ≤ _; rw [hW]; omega) (by rw [hby]; exact d1) (fun _ _ => ⟨rfl, eT, hk, hn⟩)
  dsimp only [Pt.U, Pt.locs, Pt.cells, Pt.slots] at X' l1 y1 z1 stp hQ
  subst l1 y1 z1
  obtain ⟨s₂, o, g1, g2⟩ := G T' T'.heap v ⟨_, X', rfl, Fr.app N N'⟩ hQ
  exact ⟨s₂, o, stp.trans g1, g2⟩
theorem ref_at {a0 a1 : Array Value} {U : State} {idx : Nat} {y : MethodName} (hU : Z.Warmed39 U.vm) (hy : y.cls ≠ "java/lang/invoke/MethodHandle" ∧ y.cls ≠ "java/lang/invoke/VarHandle") (w2 : (Cond.instanceMethod y).before a0 Z = true) (w1 : (Cond.methodRef own idx y).before a0 Z = true) : (Cond.methodRef own idx y).before a1 U = true := by
  obtain ⟨mk, _, hn, -⟩ := Cond.instanceMethod_spec w2
  have q := Cond.methodRef_warmed39 hU hn hy w1
  simp only [Cond.before, Cond.holds, Cond.value] at q ⊢
  exact q
theorem go_callIR {a0 : Array Value} {idx : Nat} {y : MethodName} {yb : ByteArray} {ym : Nat} {rm : Room} {P : Option Value → Heap → Prop} {ps : List FieldType} {rr : Option FieldType} {a : Addr} (argsL : List Value)
    (K : Cx w R Z n0 own bytes mx rt nm) (H : At1 w T h k n) (d : Dc bytes pc (.invokespecial idx) 3 pc') (hy1 : y.name = "<init>") (w1 : (Cond.methodRef own idx y).before a0 Z = true) (w2 : (Cond.instanceMethod y).before a0 Z = true) (w3 : (Cond.initialized y.cls).before a0 Z = true) (w4 : (Cond.code y yb ym none).before a0 Z = true)
    (hy : y.cls ≠ "java/lang/invoke/MethodHandle" ∧ y.cls ≠ "java/lang/invoke/VarHandle") (C : ∀ l, Con l Z y yb ym none rm (.ref a :: argsL).toArray h n0 P) (hd : parseMethodDescriptor y.desc = some ⟨ps, rr⟩) (hlen : argsL.length = ps.length) (hs : st = argsL.reverse ++ .ref a :: st')
    (hL : L.size = mx) (hf : rm.frames + 1 ≤ R.frames) {W : Nat} (hW : (st'.map fun v => v.category).sum = W) (hl : W + (ym + 11) + rm.locals ≤ R.locals) (hk : k + rm.cells ≤ R.cells) (hn : n + rm.slots ≤ R.slots)
    (G : ∀ T' h' v, At1 w T' h' (k + rm.cells) (n + rm.slots) → P v h' → Go w Q T' pc' L (v.toList ++ st')) : Go w Q T pc L st := by
  obtain ⟨p, l, e, R', s, m, args, below, meth, c, Z', k0⟩ := w
  obtain ⟨hx, hby, hml, hown, hZ, hret, hnm, hlk, rfl, rfl, rfl, h00⟩ := K
  obtain ⟨locs, X, eT, N⟩ := H
  obtain ⟨d1, rfl⟩ := d
  have S : SCall p l e R' s m args below meth c idx y := SCall.of_ready hx hy1 (mvT hZ w2) (mvT hZ w4) (fun U r hU hnr => by
    have hA := hU.alike
    have hUZ : Z'.Warmed39 U.vm := wtrans hZ hU
    have hnU : U.methodNamed? y = some r := by
      have q : (s.setVm U.vm).methodNamed? y = some r := by rw [State.methodNamed?_setVm hA]; exact hnr
      exact q
    have hoU : U.vm.findClass own = some m.cls := by rw [hA.findClass]; exact hown
    obtain ⟨m', c', e1, e2, e3, e4⟩ := Cond.methodRef_named (first := U) (o := none) (idx := []) (args := args) e hoU (ref_at hUZ hy w2 w1)
    have e5 : U.methodFound? y.cls y.name y.desc = some r := State.methodFound?_of_named hnU hy
    cases e1.symm.trans e5
    cases e3.symm.trans (findClass_of_methodNamed hnU)
    exact ⟨e4, e2⟩)
  obtain ⟨v, vm₁, ⟨T', L1, k1, n1⟩, -, X', ⟨Lc, ⟨hQ, N'⟩, l1, y1, z1⟩, stp⟩ := S X (con_back (W := W) (C l) hZ w4 w3 hf hl) (g := mkF m pc L st) rfl (hL.trans hml.symm) (Steps.refl _) (a := a) (argsL := argsL) (rest := st') (lenOf hd hlen) hs (by show 2 * 0 + _ ≤ _; rw [hW]; omega) (by rw [hby]; exact d1) (fun _ _ => ⟨rfl, eT, hk, hn⟩)
  dsimp only [Pt.U, Pt.locs, Pt.cells, Pt.slots] at X' l1 y1 z1 stp hQ
  subst l1 y1 z1
  obtain ⟨s₂, o, g1, g2⟩ := G T' T'.heap v ⟨_, X', rfl, Fr.app N N'⟩ hQ
  exact ⟨s₂, o, stp.trans g1, g2⟩
theorem sel_priv {a0 : Array Value} {y : MethodName} {j : Nat} (wi : (Cond.instantiable y.cls j).before a0 Z = true) (wp : (Cond.privateMethod y).before a0 Z = true) (w2 : (Cond.instanceMethod y).before a0 Z = true) (hy : y.cls ≠ "java/lang/invoke/MethodHandle" ∧ y.cls ≠ "java/lang/invoke/VarHandle") : (Cond.selects y.cls y y).before a0 Z = true := by
  obtain ⟨c, k, h1, h2, h3, h4, -⟩ := Cond.instantiable_spec wi
  exact selects_self_of_private h1 h2 (Bool.or_eq_false_iff.mp h4).1 (Cond.privateMethod_at wp) w2 hy
theorem nf_sel {a0 : Array Value} {CC : String} {y : MethodName} (ws : (Cond.selects CC y y).before a0 Z = true) : ∀ s : State, Z.Warmed39 s.vm → NotFace s y := fun s hZ => notFace_of_selects (args := #[]) (mvT hZ ws)
theorem own_comes {Post : Tables → Env → Array Value → State → Outcome → State → Prop} {ck sk : Nat} (hpost : ∀ tb e args s v u, (limb_1_1.after args s (.returned v) u = true ∧ limb_1_2.after args s (.returned v) u = true) → FrameEnd s (.returned v) u (Jvm.fieldLocs frame_1_writes args s ++ Jvm.arrayLocs frame_1_arrays args s ++ Jvm.staticLocs frame_1_statics s) ck sk → Post tb e args s (.returned v) u) (h1 : room_1.cells ≤ ck) (h2 : room_1.slots ≤ sk)
    (hl : ∀ (l : Launch) (tb : Tables) (e : Env) (s : State) (args : Array Value), heapFits s = true → rest_1 tb e args s → (Jvm.Cond.and given_1 narrow_1).value args s none s [] = some true → (∀ d ∈ tables_1, d.before args s = true) → Con l s x code maxLocals ret room_1 args s.heap s.heap.size (RI fun z _ => z = 1)) :
    ArmFor flags0 classFile x code maxLocals ret World_1 tables_1 room_1 Calls_1 rest_1 Pre_1 Post := by
  intro l hfl _ _ p e ha hc hk s m args below hf hA hF happ hP
  obtain ⟨hcalls, hrest, hpre⟩ := hP
  obtain ⟨-, -, -, hnamed, -, -, -, hat⟩ := (Spec.applies_iff hf).mp happ
  have hg := Cond.before_iff.mp (show (Jvm.Cond.and given_1 narrow_1).before args s = true from hpre)
  have hw := fun d (hd : d ∈ tables_1) => atoms_spec (ws := Jvm.Cond.code x code maxLocals ret :: tables_1) hat d (List.mem_cons_of_mem _ hd)
  obtain ⟨n, o, g1, g2, g3, v, L, rfl, ⟨⟨z, rfl, rfl⟩, N⟩, hq⟩ := hl l _ _ s args hF hrest hg hw tables_1 p e ha hc hk s m _ below hf ((Spec.applies_iff_loose hf).mp happ).1 ⟨rfl, State.Warmed39.refl s, rfl⟩ trivial
  exact ⟨n, _, g1, g2, g3, hpost _ _ _ _ _ _ ⟨Cond.after_iff.mpr rfl, Cond.after_iff.mpr (eq_i res_at (Term.int_eval (1)) rfl)⟩ ⟨hq.1, hq.2.1, (hq.2.2.sift fun y hy => Or.inr (N y hy)).mono h1 h2⟩⟩
end Own
end Jvm.Pilot.@@N@@
namespace Jvm.Pilot.@@N@@
open Jvm Jvm.ClassFile Sem Op Lib Jvm.Free Jvm.Stand Jvm.LawKit Jvm.RoadKit Bundle Jvm.Pilot.@@N@@.Jvm.D
def Cl (Z : State) (h : Heap) (a : Addr) (m n : Int32) : Prop := Exa Z h a "com/example/admit/admit/Claim" ∧ Fld Z h a "com/example/admit/admit/Claim" "member" "I" (.int m) ∧ Fld Z h a "com/example/admit/admit/Claim" "number" "I" (.int n)
theorem Cl.ext {Z : State} {h h' : Heap} {a : Addr} {m n : Int32} (O : Cl Z h a m n) (E : Ext h h') : Cl Z h' a m n := ⟨O.1.ext E, O.2.1.ext E, O.2.2.ext E⟩
theorem Cl.keep {Z : State} {h h' : Heap} {a b : Addr} {m n : Int32} (O : Cl Z h a m n) (K : Keep h h' [b]) (q : a ≠ b) : Cl Z h' a m n := ⟨O.1.keep K, O.2.1.keep K (ninS q nin0), O.2.2.keep K (ninS q nin0)⟩
theorem Cl.ne {Z : State} {h : Heap} {a b : Addr} {m n : Int32} (O : Cl Z h a m n) (q : b = h.size) : a ≠ b := Nat.ne_of_lt (q ▸ O.1.lt)
theorem d0_0 : Dc prog_4_method_1_code 0 (.aload_n 0) 1 1 := ⟨by decide +kernel, rfl⟩
theorem d0_1 : Dc prog_4_method_1_code 1 (.invokespecial 1) 3 4 := ⟨by decide +kernel, rfl⟩
theorem d0_4 : Dc prog_4_method_1_code 4 (.aload_n 0) 1 5 := ⟨by decide +kernel, rfl⟩
theorem d0_5 : Dc prog_4_method_1_code 5 (.iload_n 1) 1 6 := ⟨by decide +kernel, rfl⟩
theorem d0_6 : Dc prog_4_method_1_code 6 (.putfield 7) 3 9 := ⟨by decide +kernel, rfl⟩
theorem d0_9 : Dc prog_4_method_1_code 9 (.aload_n 0) 1 10 := ⟨by decide +kernel, rfl⟩
theorem d0_10 : Dc prog_4_method_1_code 10 (.iload_n 2) 1 11 := ⟨by decide +kernel, rfl⟩
theorem d0_11 : Dc prog_4_method_1_code 11 (.putfield 13) 3 14 := ⟨by decide +kernel, rfl⟩
theorem d0_14 : Dc prog_4_method_1_code 14 .return_ 1 15 := ⟨by decide +kernel, rfl⟩
theorem d1_0 : Dc prog_4_method_4_code 0 (.aload_n 0) 1 1 := ⟨by decide +kernel, rfl⟩
theorem d1_1 : Dc prog_4_method_4_code 1 (.getfield 7) 3 4 := ⟨by decide +kernel, rfl⟩
theorem d1_4 : Dc prog_4_method_4_code 4 (.aload_n 1) 1 5 := ⟨by decide +kernel, rfl⟩
theorem d1_5 : Dc prog_4_method_4_code 5 (.getfield 7) 3 8 := ⟨by decide +kernel, rfl⟩
theorem d1_8 : Jp prog_4_method_4_code 8 (.if_icmp .ne) 26 11 := ⟨18, by decide +kernel, by decide, by decide, rfl⟩
theorem d1_11 : Dc prog_4_method_4_code 11 (.aload_n 0) 1 12 := ⟨by decide +kernel, rfl⟩
theorem d1_12 : Dc prog_4_method_4_code 12 (.getfield 13) 3 15 := ⟨by decide +kernel, rfl⟩
theorem d1_15 : Dc prog_4_method_4_code 15 (.aload_n 1) 1 16 := ⟨by decide +kernel, rfl⟩
theorem d1_16 : Dc prog_4_method_4_code 16 (.getfield 13) 3 19 := ⟨by decide +kernel, rfl⟩
theorem d1_19 : Jp prog_4_method_4_code 19 (.if_icmp .ge) 26 22 := ⟨7, by decide +kernel, by decide, by decide, rfl⟩
theorem d1_22 : Dc prog_4_method_4_code 22 (.iconst 1) 1 23 := ⟨by decide +kernel, rfl⟩
theorem d1_23 : Jp prog_4_method_4_code 23 .goto 27 26 := ⟨4, by decide +kernel, by decide, by decide, rfl⟩
theorem d1_26 : Dc prog_4_method_4_code 26 (.iconst 0) 1 27 := ⟨by decide +kernel, rfl⟩
theorem d1_27 : Dc prog_4_method_4_code 27 .ireturn 1 28 := ⟨by decide +kernel, rfl⟩
theorem d2_0 : Dc code 0 (.iload 5) 2 2 := ⟨by decide +kernel, rfl⟩
theorem d2_2 : Dc code 2 (.iconst 1) 1 3 := ⟨by decide +kernel, rfl⟩
theorem d2_3 : Dc code 3 .iand 1 4 := ⟨by decide +kernel, rfl⟩
theorem d2_4 : Jp code 4 (.ifCond .eq) 11 7 := ⟨7, by decide +kernel, by decide, by decide, rfl⟩
theorem d2_7 : Dc code 7 (.iload_n 0) 1 8 := ⟨by decide +kernel, rfl⟩
theorem d2_8 : Jp code 8 .goto 12 11 := ⟨4, by decide +kernel, by decide, by decide, rfl⟩
theorem d2_11 : Dc code 11 (.iload_n 1) 1 12 := ⟨by decide +kernel, rfl⟩
theorem d2_12 : Dc code 12 (.istore 6) 2 14 := ⟨by decide +kernel, rfl⟩
theorem d2_14 : Dc code 14 (.iload 5) 2 16 := ⟨by decide +kernel, rfl⟩
theorem d2_16 : Dc code 16 (.iconst 2) 1 17 := ⟨by decide +kernel, rfl⟩
theorem d2_17 : Dc code 17 .iand 1 18 := ⟨by decide +kernel, rfl⟩
theorem d2_18 : Jp code 18 (.ifCond .eq) 25 21 := ⟨7, by decide +kernel, by decide, by decide, rfl⟩
theorem d2_21 : Dc code 21 (.iload_n 0) 1 22 := ⟨by decide +kernel, rfl⟩
theorem d2_22 : Jp code 22 .goto 27 25 := ⟨5, by decide +kernel, by decide, by decide, rfl⟩
theorem d2_25 : Dc code 25 (.iload 6) 2 27 := ⟨by decide +kernel, rfl⟩
theorem d2_27 : Dc code 27 (.istore 7) 2 29 := ⟨by decide +kernel, rfl⟩
theorem d2_29 : Dc code 29 (.iload_n 2) 1 30 := ⟨by decide +kernel, rfl⟩
theorem d2_30 : Dc code 30 (.ldc 9) 2 32 := ⟨by decide +kernel, rfl⟩
theorem d2_32 : Jp code 32 (.if_icmp .eq) 39 35 := ⟨7, by decide +kernel, by decide, by decide, rfl⟩
theorem d2_35 : Dc code 35 (.iconst 1) 1 36 := ⟨by decide +kernel, rfl⟩
theorem d2_36 : Jp code 36 .goto 40 39 := ⟨4, by decide +kernel, by decide, by decide, rfl⟩
theorem d2_39 : Dc code 39 (.iconst 0) 1 40 := ⟨by decide +kernel, rfl⟩
theorem d2_40 : Dc code 40 (.istore 8) 2 42 := ⟨by decide +kernel, rfl⟩
theorem d2_42 : Dc code 42 (.new 10) 3 45 := ⟨by decide +kernel, rfl⟩
theorem d2_45 : Dc code 45 .dup 1 46 := ⟨by decide +kernel, rfl⟩
theorem d2_46 : Dc code 46 (.iload_n 0) 1 47 := ⟨by decide +kernel, rfl⟩
theorem d2_47 : Dc code 47 (.iload_n 2) 1 48 := ⟨by decide +kernel, rfl⟩
theorem d2_48 : Dc code 48 (.invokespecial 12) 3 51 := ⟨by decide +kernel, rfl⟩
theorem d2_51 : Dc code 51 (.astore 9) 2 53 := ⟨by decide +kernel, rfl⟩
theorem d2_53 : Dc code 53 (.new 10) 3 56 := ⟨by decide +kernel, rfl⟩
theorem d2_56 : Dc code 56 .dup 1 57 := ⟨by decide +kernel, rfl⟩
theorem d2_57 : Dc code 57 (.iload 6) 2 59 := ⟨by decide +kernel, rfl⟩
theorem d2_59 : Dc code 59 (.iload_n 3) 1 60 := ⟨by decide +kernel, rfl⟩
theorem d2_60 : Dc code 60 (.invokespecial 12) 3 63 := ⟨by decide +kernel, rfl⟩
theorem d2_63 : Dc code 63 (.astore 10) 2 65 := ⟨by decide +kernel, rfl⟩
theorem d2_65 : Dc code 65 (.new 10) 3 68 := ⟨by decide +kernel, rfl⟩
theorem d2_68 : Dc code 68 .dup 1 69 := ⟨by decide +kernel, rfl⟩
theorem d2_69 : Dc code 69 (.iload 7) 2 71 := ⟨by decide +kernel, rfl⟩
theorem d2_71 : Dc code 71 (.iload 4) 2 73 := ⟨by decide +kernel, rfl⟩
theorem d2_73 : Dc code 73 (.invokespecial 12) 3 76 := ⟨by decide +kernel, rfl⟩
theorem d2_76 : Dc code 76 (.astore 11) 2 78 := ⟨by decide +kernel, rfl⟩
theorem d2_78 : Dc code 78 (.new 10) 3 81 := ⟨by decide +kernel, rfl⟩
theorem d2_81 : Dc code 81 .dup 1 82 := ⟨by decide +kernel, rfl⟩
theorem d2_82 : Dc code 82 (.iload_n 0) 1 83 := ⟨by decide +kernel, rfl⟩
theorem d2_83 : Dc code 83 (.iload 8) 2 85 := ⟨by decide +kernel, rfl⟩
theorem d2_85 : Jp code 85 (.ifCond .eq) 94 88 := ⟨9, by decide +kernel, by decide, by decide, rfl⟩
theorem d2_88 : Dc code 88 (.iload_n 2) 1 89 := ⟨by decide +kernel, rfl⟩
theorem d2_89 : Dc code 89 (.iconst 1) 1 90 := ⟨by decide +kernel, rfl⟩
theorem d2_90 : Dc code 90 .iadd 1 91 := ⟨by decide +kernel, rfl⟩
theorem d2_91 : Jp code 91 .goto 95 94 := ⟨4, by decide +kernel, by decide, by decide, rfl⟩
theorem d2_94 : Dc code 94 (.iload_n 2) 1 95 := ⟨by decide +kernel, rfl⟩
theorem d2_95 : Dc code 95 (.invokespecial 12) 3 98 := ⟨by decide +kernel, rfl⟩
theorem d2_98 : Dc code 98 (.astore 12) 2 100 := ⟨by decide +kernel, rfl⟩
theorem d2_100 : Dc code 100 (.aload 9) 2 102 := ⟨by decide +kernel, rfl⟩
theorem d2_102 : Dc code 102 (.aload 10) 2 104 := ⟨by decide +kernel, rfl⟩
theorem d2_104 : Dc code 104 (.invokevirtual 15) 3 107 := ⟨by decide +kernel, rfl⟩
theorem d2_107 : Dc code 107 (.istore 13) 2 109 := ⟨by decide +kernel, rfl⟩
theorem d2_109 : Dc code 109 (.aload 10) 2 111 := ⟨by decide +kernel, rfl⟩
theorem d2_111 : Dc code 111 (.aload 9) 2 113 := ⟨by decide +kernel, rfl⟩
theorem d2_113 : Dc code 113 (.invokevirtual 15) 3 116 := ⟨by decide +kernel, rfl⟩
theorem d2_116 : Dc code 116 (.istore 14) 2 118 := ⟨by decide +kernel, rfl⟩
theorem d2_118 : Dc code 118 (.aload 10) 2 120 := ⟨by decide +kernel, rfl⟩
theorem d2_120 : Dc code 120 (.aload 11) 2 122 := ⟨by decide +kernel, rfl⟩
theorem d2_122 : Dc code 122 (.invokevirtual 15) 3 125 := ⟨by decide +kernel, rfl⟩
theorem d2_125 : Dc code 125 (.istore 15) 2 127 := ⟨by decide +kernel, rfl⟩
theorem d2_127 : Dc code 127 (.aload 9) 2 129 := ⟨by decide +kernel, rfl⟩
theorem d2_129 : Dc code 129 (.aload 11) 2 131 := ⟨by decide +kernel, rfl⟩
theorem d2_131 : Dc code 131 (.invokevirtual 15) 3 134 := ⟨by decide +kernel, rfl⟩
theorem d2_134 : Dc code 134 (.istore 16) 2 136 := ⟨by decide +kernel, rfl⟩
theorem d2_136 : Dc code 136 (.aload 9) 2 138 := ⟨by decide +kernel, rfl⟩
theorem d2_138 : Dc code 138 (.aload 12) 2 140 := ⟨by decide +kernel, rfl⟩
theorem d2_140 : Dc code 140 (.invokevirtual 15) 3 143 := ⟨by decide +kernel, rfl⟩
theorem d2_143 : Dc code 143 (.istore 17) 2 145 := ⟨by decide +kernel, rfl⟩
theorem d2_145 : Dc code 145 (.iload_n 0) 1 146 := ⟨by decide +kernel, rfl⟩
theorem d2_146 : Dc code 146 (.iload 6) 2 148 := ⟨by decide +kernel, rfl⟩
theorem d2_148 : Jp code 148 (.if_icmp .eq) 171 151 := ⟨23, by decide +kernel, by decide, by decide, rfl⟩
theorem d2_151 : Dc code 151 (.iload 13) 2 153 := ⟨by decide +kernel, rfl⟩
theorem d2_153 : Jp code 153 (.ifCond .ne) 165 156 := ⟨12, by decide +kernel, by decide, by decide, rfl⟩
theorem d2_156 : Dc code 156 (.iload 14) 2 158 := ⟨by decide +kernel, rfl⟩
theorem d2_158 : Jp code 158 (.ifCond .ne) 165 161 := ⟨7, by decide +kernel, by decide, by decide, rfl⟩
theorem d2_161 : Dc code 161 (.iconst 1) 1 162 := ⟨by decide +kernel, rfl⟩
theorem d2_162 : Jp code 162 .goto 166 165 := ⟨4, by decide +kernel, by decide, by decide, rfl⟩
theorem d2_166 : Dc code 166 (.istore 18) 2 168 := ⟨by decide +kernel, rfl⟩
theorem d2_168 : Jp code 168 .goto 218 171 := ⟨50, by decide +kernel, by decide, by decide, rfl⟩
theorem d2_171 : Dc code 171 (.iload 13) 2 173 := ⟨by decide +kernel, rfl⟩
theorem d2_173 : Jp code 173 (.ifCond .eq) 180 176 := ⟨7, by decide +kernel, by decide, by decide, rfl⟩
theorem d2_176 : Dc code 176 (.iconst 1) 1 177 := ⟨by decide +kernel, rfl⟩
theorem d2_177 : Jp code 177 .goto 181 180 := ⟨4, by decide +kernel, by decide, by decide, rfl⟩
theorem d2_180 : Dc code 180 (.iconst 0) 1 181 := ⟨by decide +kernel, rfl⟩
theorem d2_181 : Dc code 181 (.iload 14) 2 183 := ⟨by decide +kernel, rfl⟩
theorem d2_183 : Jp code 183 (.ifCond .eq) 190 186 := ⟨7, by decide +kernel, by decide, by decide, rfl⟩
theorem d2_186 : Dc code 186 (.iconst 1) 1 187 := ⟨by decide +kernel, rfl⟩
theorem d2_187 : Jp code 187 .goto 191 190 := ⟨4, by decide +kernel, by decide, by decide, rfl⟩
theorem d2_190 : Dc code 190 (.iconst 0) 1 191 := ⟨by decide +kernel, rfl⟩
theorem d2_191 : Dc code 191 .iadd 1 192 := ⟨by decide +kernel, rfl⟩
theorem d2_192 : Dc code 192 (.iload_n 2) 1 193 := ⟨by decide +kernel, rfl⟩
theorem d2_193 : Dc code 193 (.iload_n 3) 1 194 := ⟨by decide +kernel, rfl⟩
theorem d2_194 : Jp code 194 (.if_icmp .ne) 201 197 := ⟨7, by decide +kernel, by decide, by decide, rfl⟩
theorem d2_197 : Dc code 197 (.iconst 1) 1 198 := ⟨by decide +kernel, rfl⟩
theorem d2_198 : Jp code 198 .goto 202 201 := ⟨4, by decide +kernel, by decide, by decide, rfl⟩
theorem d2_201 : Dc code 201 (.iconst 0) 1 202 := ⟨by decide +kernel, rfl⟩
theorem d2_202 : Dc code 202 .iadd 1 203 := ⟨by decide +kernel, rfl⟩
theorem d2_203 : Dc code 203 (.istore 19) 2 205 := ⟨by decide +kernel, rfl⟩
theorem d2_205 : Dc code 205 (.iload 19) 2 207 := ⟨by decide +kernel, rfl⟩
theorem d2_207 : Dc code 207 (.iconst 1) 1 208 := ⟨by decide +kernel, rfl⟩
theorem d2_208 : Jp code 208 (.if_icmp .ne) 215 211 := ⟨7, by decide +kernel, by decide, by decide, rfl⟩
theorem d2_211 : Dc code 211 (.iconst 1) 1 212 := ⟨by decide +kernel, rfl⟩
theorem d2_212 : Jp code 212 .goto 216 215 := ⟨4, by decide +kernel, by decide, by decide, rfl⟩
theorem d2_216 : Dc code 216 (.istore 18) 2 218 := ⟨by decide +kernel, rfl⟩
theorem d2_218 : Dc code 218 (.iload 13) 2 220 := ⟨by decide +kernel, rfl⟩
theorem d2_220 : Jp code 220 (.ifCond .eq) 236 223 := ⟨16, by decide +kernel, by decide, by decide, rfl⟩
theorem d2_223 : Dc code 223 (.iload 15) 2 225 := ⟨by decide +kernel, rfl⟩
theorem d2_225 : Jp code 225 (.ifCond .eq) 236 228 := ⟨11, by decide +kernel, by decide, by decide, rfl⟩
theorem d2_228 : Dc code 228 (.iload 16) 2 230 := ⟨by decide +kernel, rfl⟩
theorem d2_230 : Jp code 230 (.ifCond .ne) 236 233 := ⟨6, by decide +kernel, by decide, by decide, rfl⟩
theorem d2_236 : Dc code 236 (.iload 17) 2 238 := ⟨by decide +kernel, rfl⟩
theorem d2_238 : Dc code 238 (.iload 8) 2 240 := ⟨by decide +kernel, rfl⟩
theorem d2_240 : Jp code 240 (.if_icmp .eq) 246 243 := ⟨6, by decide +kernel, by decide, by decide, rfl⟩
theorem d2_246 : Dc code 246 (.iload 18) 2 248 := ⟨by decide +kernel, rfl⟩
theorem d2_248 : Dc code 248 .ireturn 1 249 := ⟨by decide +kernel, rfl⟩
theorem pn0 : plainFor (⟨"com/example/admit/admit/Claim", "<init>", "(II)V"⟩ : MethodName) = true := plainFor_of_name (by first | (simp [plainName, overriddenIn]; done) | decide +kernel)
theorem pn1 : plainFor (⟨"com/example/admit/admit/Claim", "precedes", "(Lcom/example/admit/admit/Claim;)Z"⟩ : MethodName) = true := plainFor_of_name (by first | (simp [plainName, overriddenIn]; done) | decide +kernel)
theorem pn2 : plainFor x = true := plainFor_of_name (by first | (simp [plainName, overriddenIn]; done) | decide +kernel)
theorem pd0 : parseMethodDescriptor "(II)V" = some ⟨[.int, .int], none⟩ := by decide +kernel
theorem pd1 : parseMethodDescriptor "(Lcom/example/admit/admit/Claim;)Z" = some ⟨[(.object "com/example/admit/admit/Claim")], some .boolean⟩ := by decide +kernel
set_option maxRecDepth 65536 in
set_option maxHeartbeats 40000000 in
theorem rm1 (Z : State) (a0 : Array Value) (hw : ∀ d ∈ tables_1, d.before a0 Z = true) (a : Addr) (u0 : Int32) (u1 : Int32) (h0 : Heap) (n0 : Nat) (Z0 : n0 ≤ h0.size) (v0 v1 : Value) (F0 : Fld Z h0 a "com/example/admit/admit/Claim" "member" "I" v0) (G0 : Fld Z h0 a "com/example/admit/admit/Claim" "number" "I" v1) (E0 : Exa Z h0 a "com/example/admit/admit/Claim") (g0 : n0 ≤ a) (l : Launch) :
    Con l Z (⟨"com/example/admit/admit/Claim", "<init>", "(II)V"⟩ : MethodName) prog_4_method_1_code 3 none ({ frames := 1, cells := 0, slots := 0, locals := 12 } : Room) #[(.ref a), (.int u0), (.int u1)] h0 n0 (RV fun h => Cl Z h a u0 u1 ∧ Keep h0 h [a]) := by
  refine con_intro pn0 (L := #[.val (.ref a), .val (.int u0), .val (.int u1)]) (fun m => by first | (simp [entryFrame, mkF, argsToLocals, Value.category, maxLocals]; done) | rfl) Z0 (fun w T K H => ?_)
  refine go_aloadN K H d0_0 rfl rfl ?_
  refine go_initO K H d0_1 (hw _ (List.mem_of_getElem? (i := 7) rfl)) (hw _ (List.mem_of_getElem? (i := 8) rfl)) (hw _ (List.mem_of_getElem? (i := 9) rfl)) rfl (by decide) (W := 0) rfl (by decide) fun T1 HT1 => ?_
  refine go_aloadN K HT1 d0_4 rfl rfl ?_
  refine go_iloadN K HT1 d0_5 rfl ?_
  refine go_putfield K HT1 d0_6 (host := "") (Or.inl (hw _ (List.mem_of_getElem? (i := 10) rfl))) Via.refl (F0) (E0) (Or.inr ⟨(hw _ (List.mem_of_getElem? (i := 11) rfl)), rfl, rfl⟩) (hw _ (List.mem_of_getElem? (i := 2) rfl)) (ty := .int) (by decide) rfl rfl (g0) fun T2 h2 H2 W2 => ?_
  have G1 := G0.other W2 (Or.inr (slot_ne (Z := Z) (a0 := a0) (Or.inr (hw _ (List.mem_of_getElem? (i := 13) rfl))) (Or.inr (hw _ (List.mem_of_getElem? (i := 11) rfl))) (by decide) (t := .int) (by decide) (t' := .int) (by decide)))
  have F1 := F0.same W2
  refine go_aloadN K H2 d0_9 rfl rfl ?_
  refine go_iloadN K H2 d0_10 rfl ?_
  refine go_putfield K H2 d0_11 (host := "") (Or.inl (hw _ (List.mem_of_getElem? (i := 12) rfl))) Via.refl (G1) (E0.wr W2) (Or.inr ⟨(hw _ (List.mem_of_getElem? (i := 13) rfl)), rfl, rfl⟩) (hw _ (List.mem_of_getElem? (i := 2) rfl)) (ty := .int) (by decide) rfl rfl (g0) fun T3 h3 H3 W3 => ?_
  exact go_ret K H3 d0_14 rfl (by decide) (by decide) (⟨⟨(E0.wr W2).wr W3, F1.other W3 (Or.inr (slot_ne (Z := Z) (a0 := a0) (Or.inr (hw _ (List.mem_of_getElem? (i := 11) rfl))) (Or.inr (hw _ (List.mem_of_getElem? (i := 13) rfl))) (by decide) (t := .int) (by decide) (t' := .int) (by decide))), G1.same W3⟩, ((Keep.refl _ _).wr W2 (Or.inl (List.mem_singleton.mpr rfl))).wr W3 (Or.inl (List.mem_singleton.mpr rfl))⟩)
set_option maxRecDepth 65536 in
set_option maxHeartbeats 40000000 in
theorem rm2 (Z : State) (a0 : Array Value) (hw : ∀ d ∈ tables_1, d.before a0 Z = true) (a : Addr) (b : Addr) (h0 : Heap) (n0 : Nat) (Z0 : n0 ≤ h0.size) (m1 k1 m2 k2 : Int32) (A : Cl Z h0 a m1 k1) (B : Cl Z h0 b m2 k2) (l : Launch) :
    Con l Z (⟨"com/example/admit/admit/Claim", "precedes", "(Lcom/example/admit/admit/Claim;)Z"⟩ : MethodName) prog_4_method_4_code 2 (some .boolean) ({ frames := 0, cells := 0, slots := 0, locals := 0 } : Room) #[(.ref a), (.ref b)] h0 n0 (RI fun z h => z = bI (m1.toInt = m2.toInt ∧ k1.toInt < k2.toInt) ∧ h0 = h) := by
  refine con_intro pn1 (L := #[.val (.ref a), .val (.ref b)]) (fun m => by first | (simp [entryFrame, mkF, argsToLocals, Value.category, maxLocals]; done) | rfl) Z0 (fun w T K H => ?_)
  refine go_aloadN K H d1_0 rfl rfl ?_
  refine go_getfield K H d1_1 (host := "") (Or.inl (hw _ (List.mem_of_getElem? (i := 10) rfl))) Via.refl (A.2.1) fun T1 HT1 => ?_
  refine go_aloadN K HT1 d1_4 rfl rfl ?_
  refine go_getfield K HT1 d1_5 (host := "") (Or.inl (hw _ (List.mem_of_getElem? (i := 10) rfl))) Via.refl (B.2.1) fun T2 HT2 => ?_
  refine go_icmp_ne K HT2 d1_8 (fun c8 => ?_) (fun c8 => ?_)
  · refine go_iconst (0) K HT2 d1_26 (by decide) ?_
    exact go_zret K HT2 d1_27 rfl (by decide) (by decide) (by decide) (⟨by refine (bI_f ?_).symm; (try simp only [or_true, true_or, and_true, true_and, not_true_eq_false, not_false_eq_true, Int32.lt_iff_toInt_lt, Int32.le_iff_toInt_le, ← Int32.toInt_inj, Int64.lt_iff_toInt_lt, Int64.le_iff_toInt_le, ← Int64.toInt_inj, Int32.reduceToInt, Int64.reduceToInt, ne_eq] at *) <;> omega, rfl⟩)
  · refine go_aloadN K HT2 d1_11 rfl rfl ?_
    refine go_getfield K HT2 d1_12 (host := "") (Or.inl (hw _ (List.mem_of_getElem? (i := 12) rfl))) Via.refl (A.2.2) fun T3 HT3 => ?_
    refine go_aloadN K HT3 d1_15 rfl rfl ?_
    refine go_getfield K HT3 d1_16 (host := "") (Or.inl (hw _ (List.mem_of_getElem? (i := 12) rfl))) Via.refl (B.2.2) fun T4 HT4 => ?_
    refine go_icmp_ge K HT4 d1_19 (fun c19 => ?_) (fun c19 => ?_)
    · refine go_iconst (0) K HT4 d1_26 (by decide) ?_
      exact go_zret K HT4 d1_27 rfl (by decide) (by decide) (by decide) (⟨by refine (bI_f ?_).symm; (try simp only [or_true, true_or, and_true, true_and, not_true_eq_false, not_false_eq_true, Int32.lt_iff_toInt_lt, Int32.le_iff_toInt_le, ← Int32.toInt_inj, Int64.lt_iff_toInt_lt, Int64.le_iff_toInt_le, ← Int64.toInt_inj, Int32.reduceToInt, Int64.reduceToInt, ne_eq] at *) <;> omega, rfl⟩)
    · refine go_iconst (1) K HT4 d1_22 (by decide) ?_
      refine go_goto K HT4 d1_23 ?_
      exact go_zret K HT4 d1_27 rfl (by decide) (by decide) (by decide) (⟨by refine (bI_t ?_).symm; (try simp only [or_true, true_or, and_true, true_and, not_true_eq_false, not_false_eq_true, Int32.lt_iff_toInt_lt, Int32.le_iff_toInt_le, ← Int32.toInt_inj, Int64.lt_iff_toInt_lt, Int64.le_iff_toInt_le, ← Int64.toInt_inj, Int32.reduceToInt, Int64.reduceToInt, ne_eq] at *) <;> omega, rfl⟩)
set_option maxRecDepth 65536 in
set_option maxHeartbeats 40000000 in
theorem rm0 (Z : State) (a0 : Array Value) (hw : ∀ d ∈ tables_1, d.before a0 Z = true) (u0 : Int32) (u1 : Int32) (u2 : Int32) (u3 : Int32) (u4 : Int32) (u5 : Int32) (h0 : Heap) (n0 : Nat) (Z0 : n0 ≤ h0.size)  (l : Launch) :
    Con l Z x code maxLocals ret room_1 #[(.int u0), (.int u1), (.int u2), (.int u3), (.int u4), (.int u5)] h0 n0 (RI fun z _ => z = 1) := by
  refine con_intro pn2 (L := #[.val (.int u0), .val (.int u1), .val (.int u2), .val (.int u3), .val (.int u4), .val (.int u5), .unset, .unset, .unset, .unset, .unset, .unset, .unset, .unset, .unset, .unset, .unset, .unset, .unset, .unset]) (fun m => by first | (simp [entryFrame, mkF, argsToLocals, Value.category, maxLocals]; done) | rfl) Z0 (fun w T K H => ?_)
  refine go_iload K H d2_0 rfl ?_
  refine go_iconst (1) K H d2_2 (by decide) ?_
  refine go_iand K H d2_3 fun v1 ev1 => ?_
  have fv1 := f_mask 2 1 ev1 (by decide) (by decide) (by decide)
  have J12 : ∀ (m2 : Int32), Go w (RI fun z _ => z = 1) T 12 #[.val (.int u0), .val (.int u1), .val (.int u2), .val (.int u3), .val (.int u4), .val (.int u5), .unset, .unset, .unset, .unset, .unset, .unset, .unset, .unset, .unset, .unset, .unset, .unset, .unset, .unset] [(.int m2)] := by
    intro m2
    refine go_istore K H d2_12 (L' := #[.val (.int u0), .val (.int u1), .val (.int u2), .val (.int u3), .val (.int u4), .val (.int u5), .val (.int m2), .unset, .unset, .unset, .unset, .unset, .unset, .unset, .unset, .unset, .unset, .unset, .unset, .unset]) rfl ?_
    refine go_iload K H d2_14 rfl ?_
    refine go_iconst (2) K H d2_16 (by decide) ?_
    refine go_iand K H d2_17 fun v2 ev2 => ?_
    have J27 : ∀ (m3 : Int32), Go w (RI fun z _ => z = 1) T 27 #[.val (.int u0), .val (.int u1), .val (.int u2), .val (.int u3), .val (.int u4), .val (.int u5), .val (.int m2), .unset, .unset, .unset, .unset, .unset, .unset, .unset, .unset, .unset, .unset, .unset, .unset, .unset] [(.int m3)] := by
      intro m3
      refine go_istore K H d2_27 (L' := #[.val (.int u0), .val (.int u1), .val (.int u2), .val (.int u3), .val (.int u4), .val (.int u5), .val (.int m2), .val (.int m3), .unset, .unset, .unset, .unset, .unset, .unset, .unset, .unset, .unset, .unset, .unset, .unset]) rfl ?_
      refine go_iloadN K H d2_29 rfl ?_
      refine go_ldcI (2147483647) K H d2_30 (hw _ (List.mem_of_getElem? (i := 0) rfl)) ?_
      have J40 : ∀ (hn : Int32) (hz : hn = bI (u2.toInt ≠ 2147483647)), Go w (RI fun z _ => z = 1) T 40 #[.val (.int u0), .val (.int u1), .val (.int u2), .val (.int u3), .val (.int u4), .val (.int u5), .val (.int m2), .val (.int m3), .unset, .unset, .unset, .unset, .unset, .unset, .unset, .unset, .unset, .unset, .unset, .unset] [(.int hn)] := by
        intro hn hz
        refine go_istore K H d2_40 (L' := #[.val (.int u0), .val (.int u1), .val (.int u2), .val (.int u3), .val (.int u4), .val (.int u5), .val (.int m2), .val (.int m3), .val (.int hn), .unset, .unset, .unset, .unset, .unset, .unset, .unset, .unset, .unset, .unset, .unset]) rfl ?_
        refine go_new K H d2_42 (hw _ (List.mem_of_getElem? (i := 1) rfl)) (hw _ (List.mem_of_getElem? (i := 2) rfl)) (hw _ (List.mem_of_getElem? (i := 3) rfl)) (by decide) (by decide) fun T3 h3 a H3 g3 l3 E3 A3 D3 => ?_
        refine go_dup K H3 d2_45 rfl ?_
        refine go_iloadN K H3 d2_46 rfl ?_
        refine go_iloadN K H3 d2_47 rfl ?_
        refine go_callI [(.int u0), (.int u2)] K H3 d2_48 rfl (hw _ (List.mem_of_getElem? (i := 4) rfl)) (hw _ (List.mem_of_getElem? (i := 5) rfl)) (hw _ (List.mem_of_getElem? (i := 3) rfl)) (hw _ (List.mem_of_getElem? (i := 6) rfl)) (st' := [(.ref a)]) (by decide) (rm1 Z a0 hw _ _ _ _ n0 (at_size K H3) _ _ (D3 (Or.inr (hw _ (List.mem_of_getElem? (i := 11) rfl))) (ty := .int) (by decide)) (D3 (Or.inr (hw _ (List.mem_of_getElem? (i := 13) rfl))) (ty := .int) (by decide)) A3 l3) pd0 rfl rfl rfl (by decide) (W := 1) rfl (by decide) (by decide) (by decide) fun T4 h4 v4 H4 q4 => ?_
        obtain ⟨rfl, Oa, Ka⟩ := q4
        show Go w _ _ 51 #[.val (.int u0), .val (.int u1), .val (.int u2), .val (.int u3), .val (.int u4), .val (.int u5), .val (.int m2), .val (.int m3), .val (.int hn), .unset, .unset, .unset, .unset, .unset, .unset, .unset, .unset, .unset, .unset, .unset] [(.ref a)]
        refine go_astore K H4 d2_51 rfl (L' := #[.val (.int u0), .val (.int u1), .val (.int u2), .val (.int u3), .val (.int u4), .val (.int u5), .val (.int m2), .val (.int m3), .val (.int hn), .val (.ref a), .unset, .unset, .unset, .unset, .unset, .unset, .unset, .unset, .unset, .unset]) rfl ?_
        refine go_new K H4 d2_53 (hw _ (List.mem_of_getElem? (i := 1) rfl)) (hw _ (List.mem_of_getElem? (i := 2) rfl)) (hw _ (List.mem_of_getElem? (i := 3) rfl)) (by decide) (by decide) fun T5 h5 b H5 g5 l5 E5 A5 D5 => ?_
        replace neab := Oa.ne g5
        replace Oa := Oa.ext E5
        refine go_dup K H5 d2_56 rfl ?_
        refine go_iload K H5 d2_57 rfl ?_
        refine go_iloadN K H5 d2_59 rfl ?_
        refine go_callI [(.int m2), (.int u3)] K H5 d2_60 rfl (hw _ (List.mem_of_getElem? (i := 4) rfl)) (hw _ (List.mem_of_getElem? (i := 5) rfl)) (hw _ (List.mem_of_getElem? (i := 3) rfl)) (hw _ (List.mem_of_getElem? (i := 6) rfl)) (st' := [(.ref b)]) (by decide) (rm1 Z a0 hw _ _ _ _ n0 (at_size K H5) _ _ (D5 (Or.inr (hw _ (List.mem_of_getElem? (i := 11) rfl))) (ty := .int) (by decide)) (D5 (Or.inr (hw _ (List.mem_of_getElem? (i := 13) rfl))) (ty := .int) (by decide)) A5 l5) pd0 rfl rfl rfl (by decide) (W := 1) rfl (by decide) (by decide) (by decide) fun T6 h6 v6 H6 q6 => ?_
        obtain ⟨rfl, Ob, Kb⟩ := q6
        show Go w _ _ 63 #[.val (.int u0), .val (.int u1), .val (.int u2), .val (.int u3), .val (.int u4), .val (.int u5), .val (.int m2), .val (.int m3), .val (.int hn), .val (.ref a), .unset, .unset, .unset, .unset, .unset, .unset, .unset, .unset, .unset, .unset] [(.ref b)]
        replace Oa := Oa.keep Kb neab
        refine go_astore K H6 d2_63 rfl (L' := #[.val (.int u0), .val (.int u1), .val (.int u2), .val (.int u3), .val (.int u4), .val (.int u5), .val (.int m2), .val (.int m3), .val (.int hn), .val (.ref a), .val (.ref b), .unset, .unset, .unset, .unset, .unset, .unset, .unset, .unset, .unset]) rfl ?_
        refine go_new K H6 d2_65 (hw _ (List.mem_of_getElem? (i := 1) rfl)) (hw _ (List.mem_of_getElem? (i := 2) rfl)) (hw _ (List.mem_of_getElem? (i := 3) rfl)) (by decide) (by decide) fun T7 h7 c H7 g7 l7 E7 A7 D7 => ?_
        replace neac := Oa.ne g7
        replace Oa := Oa.ext E7
        replace nebc := Ob.ne g7
        replace Ob := Ob.ext E7
        refine go_dup K H7 d2_68 rfl ?_
        refine go_iload K H7 d2_69 rfl ?_
        refine go_iload K H7 d2_71 rfl ?_
        refine go_callI [(.int m3), (.int u4)] K H7 d2_73 rfl (hw _ (List.mem_of_getElem? (i := 4) rfl)) (hw _ (List.mem_of_getElem? (i := 5) rfl)) (hw _ (List.mem_of_getElem? (i := 3) rfl)) (hw _ (List.mem_of_getElem? (i := 6) rfl)) (st' := [(.ref c)]) (by decide) (rm1 Z a0 hw _ _ _ _ n0 (at_size K H7) _ _ (D7 (Or.inr (hw _ (List.mem_of_getElem? (i := 11) rfl))) (ty := .int) (by decide)) (D7 (Or.inr (hw _ (List.mem_of_getElem? (i := 13) rfl))) (ty := .int) (by decide)) A7 l7) pd0 rfl rfl rfl (by decide) (W := 1) rfl (by decide) (by decide) (by decide) fun T8 h8 v8 H8 q8 => ?_
        obtain ⟨rfl, Oc, Kc⟩ := q8
        show Go w _ _ 76 #[.val (.int u0), .val (.int u1), .val (.int u2), .val (.int u3), .val (.int u4), .val (.int u5), .val (.int m2), .val (.int m3), .val (.int hn), .val (.ref a), .val (.ref b), .unset, .unset, .unset, .unset, .unset, .unset, .unset, .unset, .unset] [(.ref c)]
        replace Oa := Oa.keep Kc neac
        replace Ob := Ob.keep Kc nebc
        refine go_astore K H8 d2_76 rfl (L' := #[.val (.int u0), .val (.int u1), .val (.int u2), .val (.int u3), .val (.int u4), .val (.int u5), .val (.int m2), .val (.int m3), .val (.int hn), .val (.ref a), .val (.ref b), .val (.ref c), .unset, .unset, .unset, .unset, .unset, .unset, .unset, .unset]) rfl ?_
        refine go_new K H8 d2_78 (hw _ (List.mem_of_getElem? (i := 1) rfl)) (hw _ (List.mem_of_getElem? (i := 2) rfl)) (hw _ (List.mem_of_getElem? (i := 3) rfl)) (by decide) (by decide) fun T9 h9 s H9 g9 l9 E9 A9 D9 => ?_
        replace neas := Oa.ne g9
        replace Oa := Oa.ext E9
        replace nebs := Ob.ne g9
        replace Ob := Ob.ext E9
        replace necs := Oc.ne g9
        replace Oc := Oc.ext E9
        refine go_dup K H9 d2_81 rfl ?_
        refine go_iloadN K H9 d2_82 rfl ?_
        refine go_iload K H9 d2_83 rfl ?_
        have J95 : ∀ (nx : Int32) (hnx : nx.toInt = if u2.toInt ≠ 2147483647 then u2.toInt + 1 else u2.toInt), Go w (RI fun z _ => z = 1) T9 95 #[.val (.int u0), .val (.int u1), .val (.int u2), .val (.int u3), .val (.int u4), .val (.int u5), .val (.int m2), .val (.int m3), .val (.int hn), .val (.ref a), .val (.ref b), .val (.ref c), .unset, .unset, .unset, .unset, .unset, .unset, .unset, .unset] [(.int nx), (.int u0), (.ref s), (.ref s)] := by
          intro nx hnx
          refine go_callI [(.int u0), (.int nx)] K H9 d2_95 rfl (hw _ (List.mem_of_getElem? (i := 4) rfl)) (hw _ (List.mem_of_getElem? (i := 5) rfl)) (hw _ (List.mem_of_getElem? (i := 3) rfl)) (hw _ (List.mem_of_getElem? (i := 6) rfl)) (st' := [(.ref s)]) (by decide) (rm1 Z a0 hw _ _ _ _ n0 (at_size K H9) _ _ (D9 (Or.inr (hw _ (List.mem_of_getElem? (i := 11) rfl))) (ty := .int) (by decide)) (D9 (Or.inr (hw _ (List.mem_of_getElem? (i := 13) rfl))) (ty := .int) (by decide)) A9 l9) pd0 rfl rfl rfl (by decide) (W := 1) rfl (by decide) (by decide) (by decide) fun T10 h10 v10 H10 q10 => ?_
          obtain ⟨rfl, Os, Ks⟩ := q10
          show Go w _ _ 98 #[.val (.int u0), .val (.int u1), .val (.int u2), .val (.int u3), .val (.int u4), .val (.int u5), .val (.int m2), .val (.int m3), .val (.int hn), .val (.ref a), .val (.ref b), .val (.ref c), .unset, .unset, .unset, .unset, .unset, .unset, .unset, .unset] [(.ref s)]
          replace Oa := Oa.keep Ks neas
          replace Ob := Ob.keep Ks nebs
          replace Oc := Oc.keep Ks necs
          refine go_astore K H10 d2_98 rfl (L' := #[.val (.int u0), .val (.int u1), .val (.int u2), .val (.int u3), .val (.int u4), .val (.int u5), .val (.int m2), .val (.int m3), .val (.int hn), .val (.ref a), .val (.ref b), .val (.ref c), .val (.ref s), .unset, .unset, .unset, .unset, .unset, .unset, .unset]) rfl ?_
          refine go_aload K H10 d2_100 rfl rfl ?_
          refine go_aload K H10 d2_102 rfl rfl ?_
          refine go_callV [(.ref b)] K H10 d2_104 (Oa.1) (hw _ (List.mem_of_getElem? (i := 14) rfl)) (hw _ (List.mem_of_getElem? (i := 15) rfl)) (nf_sel (hw _ (List.mem_of_getElem? (i := 17) rfl))) (hw _ (List.mem_of_getElem? (i := 17) rfl)) (hw _ (List.mem_of_getElem? (i := 16) rfl)) (hw _ (List.mem_of_getElem? (i := 3) rfl)) (hw _ (List.mem_of_getElem? (i := 18) rfl)) (st' := []) (by decide) (rm2 Z a0 hw _ _ _ n0 (at_size K H10) _ _ _ _ Oa Ob) pd1 rfl rfl rfl (by decide) (W := 0) rfl (by decide) (by decide) (by decide) fun T11 h11 v11 H11 q11 => ?_
          obtain ⟨z11, rfl, b1, rfl⟩ := q11
          show Go w _ _ 107 #[.val (.int u0), .val (.int u1), .val (.int u2), .val (.int u3), .val (.int u4), .val (.int u5), .val (.int m2), .val (.int m3), .val (.int hn), .val (.ref a), .val (.ref b), .val (.ref c), .val (.ref s), .unset, .unset, .unset, .unset, .unset, .unset, .unset] [(.int z11)]
          refine go_istore K H11 d2_107 (L' := #[.val (.int u0), .val (.int u1), .val (.int u2), .val (.int u3), .val (.int u4), .val (.int u5), .val (.int m2), .val (.int m3), .val (.int hn), .val (.ref a), .val (.ref b), .val (.ref c), .val (.ref s), .val (.int z11), .unset, .unset, .unset, .unset, .unset, .unset]) rfl ?_
          refine go_aload K H11 d2_109 rfl rfl ?_
          refine go_aload K H11 d2_111 rfl rfl ?_
          refine go_callV [(.ref a)] K H11 d2_113 (Ob.1) (hw _ (List.mem_of_getElem? (i := 14) rfl)) (hw _ (List.mem_of_getElem? (i := 15) rfl)) (nf_sel (hw _ (List.mem_of_getElem? (i := 17) rfl))) (hw _ (List.mem_of_getElem? (i := 17) rfl)) (hw _ (List.mem_of_getElem? (i := 16) rfl)) (hw _ (List.mem_of_getElem? (i := 3) rfl)) (hw _ (List.mem_of_getElem? (i := 18) rfl)) (st' := []) (by decide) (rm2 Z a0 hw _ _ _ n0 (at_size K H11) _ _ _ _ Ob Oa) pd1 rfl rfl rfl (by decide) (W := 0) rfl (by decide) (by decide) (by decide) fun T12 h12 v12 H12 q12 => ?_
          obtain ⟨z12, rfl, b2, rfl⟩ := q12
          show Go w _ _ 116 #[.val (.int u0), .val (.int u1), .val (.int u2), .val (.int u3), .val (.int u4), .val (.int u5), .val (.int m2), .val (.int m3), .val (.int hn), .val (.ref a), .val (.ref b), .val (.ref c), .val (.ref s), .val (.int z11), .unset, .unset, .unset, .unset, .unset, .unset] [(.int z12)]
          refine go_istore K H12 d2_116 (L' := #[.val (.int u0), .val (.int u1), .val (.int u2), .val (.int u3), .val (.int u4), .val (.int u5), .val (.int m2), .val (.int m3), .val (.int hn), .val (.ref a), .val (.ref b), .val (.ref c), .val (.ref s), .val (.int z11), .val (.int z12), .unset, .unset, .unset, .unset, .unset]) rfl ?_
          refine go_aload K H12 d2_118 rfl rfl ?_
          refine go_aload K H12 d2_120 rfl rfl ?_
          refine go_callV [(.ref c)] K H12 d2_122 (Ob.1) (hw _ (List.mem_of_getElem? (i := 14) rfl)) (hw _ (List.mem_of_getElem? (i := 15) rfl)) (nf_sel (hw _ (List.mem_of_getElem? (i := 17) rfl))) (hw _ (List.mem_of_getElem? (i := 17) rfl)) (hw _ (List.mem_of_getElem? (i := 16) rfl)) (hw _ (List.mem_of_getElem? (i := 3) rfl)) (hw _ (List.mem_of_getElem? (i := 18) rfl)) (st' := []) (by decide) (rm2 Z a0 hw _ _ _ n0 (at_size K H12) _ _ _ _ Ob Oc) pd1 rfl rfl rfl (by decide) (W := 0) rfl (by decide) (by decide) (by decide) fun T13 h13 v13 H13 q13 => ?_
          obtain ⟨z13, rfl, b3, rfl⟩ := q13
          show Go w _ _ 125 #[.val (.int u0), .val (.int u1), .val (.int u2), .val (.int u3), .val (.int u4), .val (.int u5), .val (.int m2), .val (.int m3), .val (.int hn), .val (.ref a), .val (.ref b), .val (.ref c), .val (.ref s), .val (.int z11), .val (.int z12), .unset, .unset, .unset, .unset, .unset] [(.int z13)]
          refine go_istore K H13 d2_125 (L' := #[.val (.int u0), .val (.int u1), .val (.int u2), .val (.int u3), .val (.int u4), .val (.int u5), .val (.int m2), .val (.int m3), .val (.int hn), .val (.ref a), .val (.ref b), .val (.ref c), .val (.ref s), .val (.int z11), .val (.int z12), .val (.int z13), .unset, .unset, .unset, .unset]) rfl ?_
          refine go_aload K H13 d2_127 rfl rfl ?_
          refine go_aload K H13 d2_129 rfl rfl ?_
          refine go_callV [(.ref c)] K H13 d2_131 (Oa.1) (hw _ (List.mem_of_getElem? (i := 14) rfl)) (hw _ (List.mem_of_getElem? (i := 15) rfl)) (nf_sel (hw _ (List.mem_of_getElem? (i := 17) rfl))) (hw _ (List.mem_of_getElem? (i := 17) rfl)) (hw _ (List.mem_of_getElem? (i := 16) rfl)) (hw _ (List.mem_of_getElem? (i := 3) rfl)) (hw _ (List.mem_of_getElem? (i := 18) rfl)) (st' := []) (by decide) (rm2 Z a0 hw _ _ _ n0 (at_size K H13) _ _ _ _ Oa Oc) pd1 rfl rfl rfl (by decide) (W := 0) rfl (by decide) (by decide) (by decide) fun T14 h14 v14 H14 q14 => ?_
          obtain ⟨z14, rfl, b4, rfl⟩ := q14
          show Go w _ _ 134 #[.val (.int u0), .val (.int u1), .val (.int u2), .val (.int u3), .val (.int u4), .val (.int u5), .val (.int m2), .val (.int m3), .val (.int hn), .val (.ref a), .val (.ref b), .val (.ref c), .val (.ref s), .val (.int z11), .val (.int z12), .val (.int z13), .unset, .unset, .unset, .unset] [(.int z14)]
          refine go_istore K H14 d2_134 (L' := #[.val (.int u0), .val (.int u1), .val (.int u2), .val (.int u3), .val (.int u4), .val (.int u5), .val (.int m2), .val (.int m3), .val (.int hn), .val (.ref a), .val (.ref b), .val (.ref c), .val (.ref s), .val (.int z11), .val (.int z12), .val (.int z13), .val (.int z14), .unset, .unset, .unset]) rfl ?_
          refine go_aload K H14 d2_136 rfl rfl ?_
          refine go_aload K H14 d2_138 rfl rfl ?_
          refine go_callV [(.ref s)] K H14 d2_140 (Oa.1) (hw _ (List.mem_of_getElem? (i := 14) rfl)) (hw _ (List.mem_of_getElem? (i := 15) rfl)) (nf_sel (hw _ (List.mem_of_getElem? (i := 17) rfl))) (hw _ (List.mem_of_getElem? (i := 17) rfl)) (hw _ (List.mem_of_getElem? (i := 16) rfl)) (hw _ (List.mem_of_getElem? (i := 3) rfl)) (hw _ (List.mem_of_getElem? (i := 18) rfl)) (st' := []) (by decide) (rm2 Z a0 hw _ _ _ n0 (at_size K H14) _ _ _ _ Oa Os) pd1 rfl rfl rfl (by decide) (W := 0) rfl (by decide) (by decide) (by decide) fun T15 h15 v15 H15 q15 => ?_
          obtain ⟨z15, rfl, b5, rfl⟩ := q15
          show Go w _ _ 143 #[.val (.int u0), .val (.int u1), .val (.int u2), .val (.int u3), .val (.int u4), .val (.int u5), .val (.int m2), .val (.int m3), .val (.int hn), .val (.ref a), .val (.ref b), .val (.ref c), .val (.ref s), .val (.int z11), .val (.int z12), .val (.int z13), .val (.int z14), .unset, .unset, .unset] [(.int z15)]
          refine go_istore K H15 d2_143 (L' := #[.val (.int u0), .val (.int u1), .val (.int u2), .val (.int u3), .val (.int u4), .val (.int u5), .val (.int m2), .val (.int m3), .val (.int hn), .val (.ref a), .val (.ref b), .val (.ref c), .val (.ref s), .val (.int z11), .val (.int z12), .val (.int z13), .val (.int z14), .val (.int z15), .unset, .unset]) rfl ?_
          refine go_iloadN K H15 d2_145 rfl ?_
          refine go_iload K H15 d2_146 rfl ?_
          have J218 : ∀ (l19 : Slot), Go w (RI fun z _ => z = 1) T15 218 #[.val (.int u0), .val (.int u1), .val (.int u2), .val (.int u3), .val (.int u4), .val (.int u5), .val (.int m2), .val (.int m3), .val (.int hn), .val (.ref a), .val (.ref b), .val (.ref c), .val (.ref s), .val (.int z11), .val (.int z12), .val (.int z13), .val (.int z14), .val (.int z15), .val (.int 1), l19] [] := by
            intro l19
            refine go_iload K H15 d2_218 rfl ?_
            refine go_if_eq K H15 d2_220 (fun c220 => ?_) (fun c220 => ?_)
            · refine go_iload K H15 d2_236 rfl ?_
              refine go_iload K H15 d2_238 rfl ?_
              refine go_icmp_eq K H15 d2_240 (fun c240 => ?_) (fun c240 => False.elim (by clear b1 b2 b3 b4; simp only [b5, hz, bI_eq0, bI_ne0, bI_eq1, bI_inj, Decidable.not_not] at * <;> (try simp only [or_true, true_or, and_true, true_and, not_true_eq_false, not_false_eq_true, Int32.lt_iff_toInt_lt, Int32.le_iff_toInt_le, ← Int32.toInt_inj, Int64.lt_iff_toInt_lt, Int64.le_iff_toInt_le, ← Int64.toInt_inj, Int32.reduceToInt, Int64.reduceToInt, ne_eq] at *) <;> omega))
              refine go_iload K H15 d2_246 rfl ?_
              exact go_zret K H15 d2_248 rfl (by decide) (by decide) (by decide) (rfl)
            · refine go_iload K H15 d2_223 rfl ?_
              refine go_if_eq K H15 d2_225 (fun c225 => ?_) (fun c225 => ?_)
              · refine go_iload K H15 d2_236 rfl ?_
                refine go_iload K H15 d2_238 rfl ?_
                refine go_icmp_eq K H15 d2_240 (fun c240 => ?_) (fun c240 => False.elim (by clear b1 b2 b3 b4; simp only [b5, hz, bI_eq0, bI_ne0, bI_eq1, bI_inj, Decidable.not_not] at * <;> (try simp only [or_true, true_or, and_true, true_and, not_true_eq_false, not_false_eq_true, Int32.lt_iff_toInt_lt, Int32.le_iff_toInt_le, ← Int32.toInt_inj, Int64.lt_iff_toInt_lt, Int64.le_iff_toInt_le, ← Int64.toInt_inj, Int32.reduceToInt, Int64.reduceToInt, ne_eq] at *) <;> omega))
                refine go_iload K H15 d2_246 rfl ?_
                exact go_zret K H15 d2_248 rfl (by decide) (by decide) (by decide) (rfl)
              · refine go_iload K H15 d2_228 rfl ?_
                refine go_if_ne K H15 d2_230 (fun c230 => ?_) (fun c230 => False.elim (by simp only [b1, b2, b3, b4, b5, hz, bI_eq0, bI_ne0, bI_eq1, bI_inj, Decidable.not_not] at * <;> (try simp only [or_true, true_or, and_true, true_and, not_true_eq_false, not_false_eq_true, Int32.lt_iff_toInt_lt, Int32.le_iff_toInt_le, ← Int32.toInt_inj, Int64.lt_iff_toInt_lt, Int64.le_iff_toInt_le, ← Int64.toInt_inj, Int32.reduceToInt, Int64.reduceToInt, ne_eq] at *) <;> omega))
                refine go_iload K H15 d2_236 rfl ?_
                refine go_iload K H15 d2_238 rfl ?_
                refine go_icmp_eq K H15 d2_240 (fun c240 => ?_) (fun c240 => False.elim (by clear b1 b2 b3 b4; simp only [b5, hz, bI_eq0, bI_ne0, bI_eq1, bI_inj, Decidable.not_not] at * <;> (try simp only [or_true, true_or, and_true, true_and, not_true_eq_false, not_false_eq_true, Int32.lt_iff_toInt_lt, Int32.le_iff_toInt_le, ← Int32.toInt_inj, Int64.lt_iff_toInt_lt, Int64.le_iff_toInt_le, ← Int64.toInt_inj, Int32.reduceToInt, Int64.reduceToInt, ne_eq] at *) <;> omega))
                refine go_iload K H15 d2_246 rfl ?_
                exact go_zret K H15 d2_248 rfl (by decide) (by decide) (by decide) (rfl)
          refine go_icmp_eq K H15 d2_148 (fun c148 => ?_) (fun c148 => ?_)
          · refine go_iload K H15 d2_171 rfl ?_
            refine go_if_eq K H15 d2_173 (fun c173 => ?_) (fun c173 => ?_)
            · refine go_iconst (0) K H15 d2_180 (by decide) ?_
              refine go_iload K H15 d2_181 rfl ?_
              refine go_if_eq K H15 d2_183 (fun c183 => ?_) (fun c183 => ?_)
              · refine go_iconst (0) K H15 d2_190 (by decide) ?_
                refine go_iadd K H15 d2_191 fun v16 ev16 => ?_
                obtain rfl : v16 = (0 : Int32) := ev16.trans (by decide)
                refine go_iloadN K H15 d2_192 rfl ?_
                refine go_iloadN K H15 d2_193 rfl ?_
                refine go_icmp_ne K H15 d2_194 (fun c194 => ?_) (fun c194 => ?_)
                · refine go_iconst (0) K H15 d2_201 (by decide) ?_
                  refine go_iadd K H15 d2_202 fun v17 ev17 => ?_
                  obtain rfl : v17 = (0 : Int32) := ev17.trans (by decide)
                  refine go_istore K H15 d2_203 (L' := #[.val (.int u0), .val (.int u1), .val (.int u2), .val (.int u3), .val (.int u4), .val (.int u5), .val (.int m2), .val (.int m3), .val (.int hn), .val (.ref a), .val (.ref b), .val (.ref c), .val (.ref s), .val (.int z11), .val (.int z12), .val (.int z13), .val (.int z14), .val (.int z15), .unset, .val (.int 0)]) rfl ?_
                  refine go_iload K H15 d2_205 rfl ?_
                  refine go_iconst (1) K H15 d2_207 (by decide) ?_
                  refine go_icmp_ne K H15 d2_208 (fun c208 => False.elim (by simp only [b1, b2, b3, b4, b5, hz, bI_eq0, bI_ne0, bI_eq1, bI_inj, Decidable.not_not] at * <;> (try simp only [or_true, true_or, and_true, true_and, not_true_eq_false, not_false_eq_true, Int32.lt_iff_toInt_lt, Int32.le_iff_toInt_le, ← Int32.toInt_inj, Int64.lt_iff_toInt_lt, Int64.le_iff_toInt_le, ← Int64.toInt_inj, Int32.reduceToInt, Int64.reduceToInt, ne_eq] at *) <;> omega)) (fun c208 => ?_)
                  refine go_iconst (1) K H15 d2_211 (by decide) ?_
                  refine go_goto K H15 d2_212 ?_
                  refine go_istore K H15 d2_216 (L' := #[.val (.int u0), .val (.int u1), .val (.int u2), .val (.int u3), .val (.int u4), .val (.int u5), .val (.int m2), .val (.int m3), .val (.int hn), .val (.ref a), .val (.ref b), .val (.ref c), .val (.ref s), .val (.int z11), .val (.int z12), .val (.int z13), .val (.int z14), .val (.int z15), .val (.int 1), .val (.int 0)]) rfl ?_
                  exact J218 _
                · refine go_iconst (1) K H15 d2_197 (by decide) ?_
                  refine go_goto K H15 d2_198 ?_
                  refine go_iadd K H15 d2_202 fun v18 ev18 => ?_
                  obtain rfl : v18 = (1 : Int32) := ev18.trans (by decide)
                  refine go_istore K H15 d2_203 (L' := #[.val (.int u0), .val (.int u1), .val (.int u2), .val (.int u3), .val (.int u4), .val (.int u5), .val (.int m2), .val (.int m3), .val (.int hn), .val (.ref a), .val (.ref b), .val (.ref c), .val (.ref s), .val (.int z11), .val (.int z12), .val (.int z13), .val (.int z14), .val (.int z15), .unset, .val (.int 1)]) rfl ?_
                  refine go_iload K H15 d2_205 rfl ?_
                  refine go_iconst (1) K H15 d2_207 (by decide) ?_
                  refine go_icmp_ne K H15 d2_208 (fun c208 => False.elim (by simp only [b1, b2, b3, b4, b5, hz, bI_eq0, bI_ne0, bI_eq1, bI_inj, Decidable.not_not] at * <;> (try simp only [or_true, true_or, and_true, true_and, not_true_eq_false, not_false_eq_true, Int32.lt_iff_toInt_lt, Int32.le_iff_toInt_le, ← Int32.toInt_inj, Int64.lt_iff_toInt_lt, Int64.le_iff_toInt_le, ← Int64.toInt_inj, Int32.reduceToInt, Int64.reduceToInt, ne_eq] at *) <;> omega)) (fun c208 => ?_)
                  refine go_iconst (1) K H15 d2_211 (by decide) ?_
                  refine go_goto K H15 d2_212 ?_
                  refine go_istore K H15 d2_216 (L' := #[.val (.int u0), .val (.int u1), .val (.int u2), .val (.int u3), .val (.int u4), .val (.int u5), .val (.int m2), .val (.int m3), .val (.int hn), .val (.ref a), .val (.ref b), .val (.ref c), .val (.ref s), .val (.int z11), .val (.int z12), .val (.int z13), .val (.int z14), .val (.int z15), .val (.int 1), .val (.int 1)]) rfl ?_
                  exact J218 _
              · refine go_iconst (1) K H15 d2_186 (by decide) ?_
                refine go_goto K H15 d2_187 ?_
                refine go_iadd K H15 d2_191 fun v19 ev19 => ?_
                obtain rfl : v19 = (1 : Int32) := ev19.trans (by decide)
                refine go_iloadN K H15 d2_192 rfl ?_
                refine go_iloadN K H15 d2_193 rfl ?_
                refine go_icmp_ne K H15 d2_194 (fun c194 => ?_) (fun c194 => ?_)
                · refine go_iconst (0) K H15 d2_201 (by decide) ?_
                  refine go_iadd K H15 d2_202 fun v20 ev20 => ?_
                  obtain rfl : v20 = (1 : Int32) := ev20.trans (by decide)
                  refine go_istore K H15 d2_203 (L' := #[.val (.int u0), .val (.int u1), .val (.int u2), .val (.int u3), .val (.int u4), .val (.int u5), .val (.int m2), .val (.int m3), .val (.int hn), .val (.ref a), .val (.ref b), .val (.ref c), .val (.ref s), .val (.int z11), .val (.int z12), .val (.int z13), .val (.int z14), .val (.int z15), .unset, .val (.int 1)]) rfl ?_
                  refine go_iload K H15 d2_205 rfl ?_
                  refine go_iconst (1) K H15 d2_207 (by decide) ?_
                  refine go_icmp_ne K H15 d2_208 (fun c208 => False.elim (by simp only [b1, b2, b3, b4, b5, hz, bI_eq0, bI_ne0, bI_eq1, bI_inj, Decidable.not_not] at * <;> (try simp only [or_true, true_or, and_true, true_and, not_true_eq_false, not_false_eq_true, Int32.lt_iff_toInt_lt, Int32.le_iff_toInt_le, ← Int32.toInt_inj, Int64.lt_iff_toInt_lt, Int64.le_iff_toInt_le, ← Int64.toInt_inj, Int32.reduceToInt, Int64.reduceToInt, ne_eq] at *) <;> omega)) (fun c208 => ?_)
                  refine go_iconst (1) K H15 d2_211 (by decide) ?_
                  refine go_goto K H15 d2_212 ?_
                  refine go_istore K H15 d2_216 (L' := #[.val (.int u0), .val (.int u1), .val (.int u2), .val (.int u3), .val (.int u4), .val (.int u5), .val (.int m2), .val (.int m3), .val (.int hn), .val (.ref a), .val (.ref b), .val (.ref c), .val (.ref s), .val (.int z11), .val (.int z12), .val (.int z13), .val (.int z14), .val (.int z15), .val (.int 1), .val (.int 1)]) rfl ?_
                  exact J218 _
                · refine go_iconst (1) K H15 d2_197 (by decide) ?_
                  refine go_goto K H15 d2_198 ?_
                  refine go_iadd K H15 d2_202 fun v21 ev21 => ?_
                  obtain rfl : v21 = (2 : Int32) := ev21.trans (by decide)
                  refine go_istore K H15 d2_203 (L' := #[.val (.int u0), .val (.int u1), .val (.int u2), .val (.int u3), .val (.int u4), .val (.int u5), .val (.int m2), .val (.int m3), .val (.int hn), .val (.ref a), .val (.ref b), .val (.ref c), .val (.ref s), .val (.int z11), .val (.int z12), .val (.int z13), .val (.int z14), .val (.int z15), .unset, .val (.int 2)]) rfl ?_
                  refine go_iload K H15 d2_205 rfl ?_
                  refine go_iconst (1) K H15 d2_207 (by decide) ?_
                  refine go_icmp_ne K H15 d2_208 (fun c208 => False.elim (by simp only [b1, b2, b3, b4, b5, hz, bI_eq0, bI_ne0, bI_eq1, bI_inj, Decidable.not_not] at * <;> (try simp only [or_true, true_or, and_true, true_and, not_true_eq_false, not_false_eq_true, Int32.lt_iff_toInt_lt, Int32.le_iff_toInt_le, ← Int32.toInt_inj, Int64.lt_iff_toInt_lt, Int64.le_iff_toInt_le, ← Int64.toInt_inj, Int32.reduceToInt, Int64.reduceToInt, ne_eq] at *) <;> omega)) (fun c208 => ?_)
                  refine go_iconst (1) K H15 d2_211 (by decide) ?_
                  refine go_goto K H15 d2_212 ?_
                  refine go_istore K H15 d2_216 (L' := #[.val (.int u0), .val (.int u1), .val (.int u2), .val (.int u3), .val (.int u4), .val (.int u5), .val (.int m2), .val (.int m3), .val (.int hn), .val (.ref a), .val (.ref b), .val (.ref c), .val (.ref s), .val (.int z11), .val (.int z12), .val (.int z13), .val (.int z14), .val (.int z15), .val (.int 1), .val (.int 2)]) rfl ?_
                  exact J218 _
            · refine go_iconst (1) K H15 d2_176 (by decide) ?_
              refine go_goto K H15 d2_177 ?_
              refine go_iload K H15 d2_181 rfl ?_
              refine go_if_eq K H15 d2_183 (fun c183 => ?_) (fun c183 => ?_)
              · refine go_iconst (0) K H15 d2_190 (by decide) ?_
                refine go_iadd K H15 d2_191 fun v22 ev22 => ?_
                obtain rfl : v22 = (1 : Int32) := ev22.trans (by decide)
                refine go_iloadN K H15 d2_192 rfl ?_
                refine go_iloadN K H15 d2_193 rfl ?_
                refine go_icmp_ne K H15 d2_194 (fun c194 => ?_) (fun c194 => ?_)
                · refine go_iconst (0) K H15 d2_201 (by decide) ?_
                  refine go_iadd K H15 d2_202 fun v23 ev23 => ?_
                  obtain rfl : v23 = (1 : Int32) := ev23.trans (by decide)
                  refine go_istore K H15 d2_203 (L' := #[.val (.int u0), .val (.int u1), .val (.int u2), .val (.int u3), .val (.int u4), .val (.int u5), .val (.int m2), .val (.int m3), .val (.int hn), .val (.ref a), .val (.ref b), .val (.ref c), .val (.ref s), .val (.int z11), .val (.int z12), .val (.int z13), .val (.int z14), .val (.int z15), .unset, .val (.int 1)]) rfl ?_
                  refine go_iload K H15 d2_205 rfl ?_
                  refine go_iconst (1) K H15 d2_207 (by decide) ?_
                  refine go_icmp_ne K H15 d2_208 (fun c208 => False.elim (by simp only [b1, b2, b3, b4, b5, hz, bI_eq0, bI_ne0, bI_eq1, bI_inj, Decidable.not_not] at * <;> (try simp only [or_true, true_or, and_true, true_and, not_true_eq_false, not_false_eq_true, Int32.lt_iff_toInt_lt, Int32.le_iff_toInt_le, ← Int32.toInt_inj, Int64.lt_iff_toInt_lt, Int64.le_iff_toInt_le, ← Int64.toInt_inj, Int32.reduceToInt, Int64.reduceToInt, ne_eq] at *) <;> omega)) (fun c208 => ?_)
                  refine go_iconst (1) K H15 d2_211 (by decide) ?_
                  refine go_goto K H15 d2_212 ?_
                  refine go_istore K H15 d2_216 (L' := #[.val (.int u0), .val (.int u1), .val (.int u2), .val (.int u3), .val (.int u4), .val (.int u5), .val (.int m2), .val (.int m3), .val (.int hn), .val (.ref a), .val (.ref b), .val (.ref c), .val (.ref s), .val (.int z11), .val (.int z12), .val (.int z13), .val (.int z14), .val (.int z15), .val (.int 1), .val (.int 1)]) rfl ?_
                  exact J218 _
                · refine go_iconst (1) K H15 d2_197 (by decide) ?_
                  refine go_goto K H15 d2_198 ?_
                  refine go_iadd K H15 d2_202 fun v24 ev24 => ?_
                  obtain rfl : v24 = (2 : Int32) := ev24.trans (by decide)
                  refine go_istore K H15 d2_203 (L' := #[.val (.int u0), .val (.int u1), .val (.int u2), .val (.int u3), .val (.int u4), .val (.int u5), .val (.int m2), .val (.int m3), .val (.int hn), .val (.ref a), .val (.ref b), .val (.ref c), .val (.ref s), .val (.int z11), .val (.int z12), .val (.int z13), .val (.int z14), .val (.int z15), .unset, .val (.int 2)]) rfl ?_
                  refine go_iload K H15 d2_205 rfl ?_
                  refine go_iconst (1) K H15 d2_207 (by decide) ?_
                  refine go_icmp_ne K H15 d2_208 (fun c208 => False.elim (by simp only [b1, b2, b3, b4, b5, hz, bI_eq0, bI_ne0, bI_eq1, bI_inj, Decidable.not_not] at * <;> (try simp only [or_true, true_or, and_true, true_and, not_true_eq_false, not_false_eq_true, Int32.lt_iff_toInt_lt, Int32.le_iff_toInt_le, ← Int32.toInt_inj, Int64.lt_iff_toInt_lt, Int64.le_iff_toInt_le, ← Int64.toInt_inj, Int32.reduceToInt, Int64.reduceToInt, ne_eq] at *) <;> omega)) (fun c208 => ?_)
                  refine go_iconst (1) K H15 d2_211 (by decide) ?_
                  refine go_goto K H15 d2_212 ?_
                  refine go_istore K H15 d2_216 (L' := #[.val (.int u0), .val (.int u1), .val (.int u2), .val (.int u3), .val (.int u4), .val (.int u5), .val (.int m2), .val (.int m3), .val (.int hn), .val (.ref a), .val (.ref b), .val (.ref c), .val (.ref s), .val (.int z11), .val (.int z12), .val (.int z13), .val (.int z14), .val (.int z15), .val (.int 1), .val (.int 2)]) rfl ?_
                  exact J218 _
              · refine go_iconst (1) K H15 d2_186 (by decide) ?_
                refine go_goto K H15 d2_187 ?_
                refine go_iadd K H15 d2_191 fun v25 ev25 => ?_
                obtain rfl : v25 = (2 : Int32) := ev25.trans (by decide)
                refine go_iloadN K H15 d2_192 rfl ?_
                refine go_iloadN K H15 d2_193 rfl ?_
                refine go_icmp_ne K H15 d2_194 (fun c194 => ?_) (fun c194 => ?_)
                · refine go_iconst (0) K H15 d2_201 (by decide) ?_
                  refine go_iadd K H15 d2_202 fun v26 ev26 => ?_
                  obtain rfl : v26 = (2 : Int32) := ev26.trans (by decide)
                  refine go_istore K H15 d2_203 (L' := #[.val (.int u0), .val (.int u1), .val (.int u2), .val (.int u3), .val (.int u4), .val (.int u5), .val (.int m2), .val (.int m3), .val (.int hn), .val (.ref a), .val (.ref b), .val (.ref c), .val (.ref s), .val (.int z11), .val (.int z12), .val (.int z13), .val (.int z14), .val (.int z15), .unset, .val (.int 2)]) rfl ?_
                  refine go_iload K H15 d2_205 rfl ?_
                  refine go_iconst (1) K H15 d2_207 (by decide) ?_
                  refine go_icmp_ne K H15 d2_208 (fun c208 => False.elim (by simp only [b1, b2, b3, b4, b5, hz, bI_eq0, bI_ne0, bI_eq1, bI_inj, Decidable.not_not] at * <;> (try simp only [or_true, true_or, and_true, true_and, not_true_eq_false, not_false_eq_true, Int32.lt_iff_toInt_lt, Int32.le_iff_toInt_le, ← Int32.toInt_inj, Int64.lt_iff_toInt_lt, Int64.le_iff_toInt_le, ← Int64.toInt_inj, Int32.reduceToInt, Int64.reduceToInt, ne_eq] at *) <;> omega)) (fun c208 => ?_)
                  refine go_iconst (1) K H15 d2_211 (by decide) ?_
                  refine go_goto K H15 d2_212 ?_
                  refine go_istore K H15 d2_216 (L' := #[.val (.int u0), .val (.int u1), .val (.int u2), .val (.int u3), .val (.int u4), .val (.int u5), .val (.int m2), .val (.int m3), .val (.int hn), .val (.ref a), .val (.ref b), .val (.ref c), .val (.ref s), .val (.int z11), .val (.int z12), .val (.int z13), .val (.int z14), .val (.int z15), .val (.int 1), .val (.int 2)]) rfl ?_
                  exact J218 _
                · refine go_iconst (1) K H15 d2_197 (by decide) ?_
                  refine go_goto K H15 d2_198 ?_
                  refine go_iadd K H15 d2_202 fun v27 ev27 => ?_
                  obtain rfl : v27 = (3 : Int32) := ev27.trans (by decide)
                  refine go_istore K H15 d2_203 (L' := #[.val (.int u0), .val (.int u1), .val (.int u2), .val (.int u3), .val (.int u4), .val (.int u5), .val (.int m2), .val (.int m3), .val (.int hn), .val (.ref a), .val (.ref b), .val (.ref c), .val (.ref s), .val (.int z11), .val (.int z12), .val (.int z13), .val (.int z14), .val (.int z15), .unset, .val (.int 3)]) rfl ?_
                  refine go_iload K H15 d2_205 rfl ?_
                  refine go_iconst (1) K H15 d2_207 (by decide) ?_
                  refine go_icmp_ne K H15 d2_208 (fun c208 => False.elim (by simp only [b1, b2, b3, b4, b5, hz, bI_eq0, bI_ne0, bI_eq1, bI_inj, Decidable.not_not] at * <;> (try simp only [or_true, true_or, and_true, true_and, not_true_eq_false, not_false_eq_true, Int32.lt_iff_toInt_lt, Int32.le_iff_toInt_le, ← Int32.toInt_inj, Int64.lt_iff_toInt_lt, Int64.le_iff_toInt_le, ← Int64.toInt_inj, Int32.reduceToInt, Int64.reduceToInt, ne_eq] at *) <;> omega)) (fun c208 => ?_)
                  refine go_iconst (1) K H15 d2_211 (by decide) ?_
                  refine go_goto K H15 d2_212 ?_
                  refine go_istore K H15 d2_216 (L' := #[.val (.int u0), .val (.int u1), .val (.int u2), .val (.int u3), .val (.int u4), .val (.int u5), .val (.int m2), .val (.int m3), .val (.int hn), .val (.ref a), .val (.ref b), .val (.ref c), .val (.ref s), .val (.int z11), .val (.int z12), .val (.int z13), .val (.int z14), .val (.int z15), .val (.int 1), .val (.int 3)]) rfl ?_
                  exact J218 _
          · refine go_iload K H15 d2_151 rfl ?_
            refine go_if_ne K H15 d2_153 (fun c153 => False.elim (by simp only [b1, b2, b3, b4, b5, hz, bI_eq0, bI_ne0, bI_eq1, bI_inj, Decidable.not_not] at * <;> (try simp only [or_true, true_or, and_true, true_and, not_true_eq_false, not_false_eq_true, Int32.lt_iff_toInt_lt, Int32.le_iff_toInt_le, ← Int32.toInt_inj, Int64.lt_iff_toInt_lt, Int64.le_iff_toInt_le, ← Int64.toInt_inj, Int32.reduceToInt, Int64.reduceToInt, ne_eq] at *) <;> omega)) (fun c153 => ?_)
            refine go_iload K H15 d2_156 rfl ?_
            refine go_if_ne K H15 d2_158 (fun c158 => False.elim (by simp only [b1, b2, b3, b4, b5, hz, bI_eq0, bI_ne0, bI_eq1, bI_inj, Decidable.not_not] at * <;> (try simp only [or_true, true_or, and_true, true_and, not_true_eq_false, not_false_eq_true, Int32.lt_iff_toInt_lt, Int32.le_iff_toInt_le, ← Int32.toInt_inj, Int64.lt_iff_toInt_lt, Int64.le_iff_toInt_le, ← Int64.toInt_inj, Int32.reduceToInt, Int64.reduceToInt, ne_eq] at *) <;> omega)) (fun c158 => ?_)
            refine go_iconst (1) K H15 d2_161 (by decide) ?_
            refine go_goto K H15 d2_162 ?_
            refine go_istore K H15 d2_166 (L' := #[.val (.int u0), .val (.int u1), .val (.int u2), .val (.int u3), .val (.int u4), .val (.int u5), .val (.int m2), .val (.int m3), .val (.int hn), .val (.ref a), .val (.ref b), .val (.ref c), .val (.ref s), .val (.int z11), .val (.int z12), .val (.int z13), .val (.int z14), .val (.int z15), .val (.int 1), .unset]) rfl ?_
            refine go_goto K H15 d2_168 ?_
            exact J218 _
        refine go_if_eq K H9 d2_85 (fun c85 => ?_) (fun c85 => ?_)
        · refine go_iloadN K H9 d2_94 rfl ?_
          exact J95 _ (by rw [hz, bI_eq0] at c85; rw [if_neg c85])
        · refine go_iloadN K H9 d2_88 rfl ?_
          refine go_iconst (1) K H9 d2_89 (by decide) ?_
          refine go_iadd K H9 d2_90 fun v28 ev28 => ?_
          have fv28 := f_iadd ev28
          have rv28 := rng32 v28
          refine go_goto K H9 d2_91 ?_
          exact J95 _ (by rw [hz, bI_ne0] at c85; rw [if_pos c85]; have := rng32 u2; (try simp only [or_true, true_or, and_true, true_and, not_true_eq_false, not_false_eq_true, Int32.lt_iff_toInt_lt, Int32.le_iff_toInt_le, ← Int32.toInt_inj, Int64.lt_iff_toInt_lt, Int64.le_iff_toInt_le, ← Int64.toInt_inj, Int32.reduceToInt, Int64.reduceToInt, ne_eq] at *) <;> omega)
      refine go_icmp_eq K H d2_32 (fun c32 => ?_) (fun c32 => ?_)
      · refine go_iconst (0) K H d2_39 (by decide) ?_
        exact J40 _ (by refine (bI_f ?_).symm; (try simp only [or_true, true_or, and_true, true_and, not_true_eq_false, not_false_eq_true, Int32.lt_iff_toInt_lt, Int32.le_iff_toInt_le, ← Int32.toInt_inj, Int64.lt_iff_toInt_lt, Int64.le_iff_toInt_le, ← Int64.toInt_inj, Int32.reduceToInt, Int64.reduceToInt, ne_eq] at *) <;> omega)
      · refine go_iconst (1) K H d2_35 (by decide) ?_
        refine go_goto K H d2_36 ?_
        exact J40 _ (by refine (bI_t ?_).symm; (try simp only [or_true, true_or, and_true, true_and, not_true_eq_false, not_false_eq_true, Int32.lt_iff_toInt_lt, Int32.le_iff_toInt_le, ← Int32.toInt_inj, Int64.lt_iff_toInt_lt, Int64.le_iff_toInt_le, ← Int64.toInt_inj, Int32.reduceToInt, Int64.reduceToInt, ne_eq] at *) <;> omega)
    refine go_if_eq K H d2_18 (fun c18 => ?_) (fun c18 => ?_)
    · refine go_iload K H d2_25 rfl ?_
      exact J27 _
    · refine go_iloadN K H d2_21 rfl ?_
      refine go_goto K H d2_22 ?_
      exact J27 _
  refine go_if_eq K H d2_4 (fun c4 => ?_) (fun c4 => ?_)
  · refine go_iloadN K H d2_11 rfl ?_
    exact J12 _
  · refine go_iloadN K H d2_7 rfl ?_
    refine go_goto K H d2_8 ?_
    exact J12 _
set_option maxRecDepth 65536 in
set_option maxHeartbeats 40000000 in
theorem own_law (l : Launch) (s : State) (args : Array Value) (hF : heapFits s = true) (hrest : True) (hg : (Jvm.Cond.and given_1 narrow_1).value args s none s [] = some true) (hw : ∀ d ∈ tables_1, d.before args s = true) : Con l s x code maxLocals ret room_1 args s.heap s.heap.size (RI fun z _ => z = 1) := by
  obtain ⟨hg, hn⟩ := and_e hg
  obtain ⟨g0, hg⟩ := and_e hg
  obtain ⟨w0, w1, w2, w3, w4, w5, rfl⟩ : ∃ w0 w1 w2 w3 w4 w5 : Value, args = #[w0, w1, w2, w3, w4, w5] := by
    have hs : args.size = 6 := by simpa [Cond.value, given_1] using g0
    obtain ⟨L⟩ := args
    match L, hs with
    | [w0, w1, w2, w3, w4, w5], _ => exact ⟨w0, w1, w2, w3, w4, w5, rfl⟩
  obtain ⟨g1, hg⟩ := and_e hg
  obtain ⟨i0, ei0⟩ := is_v g1
  obtain rfl : w0 = (.int i0) := Option.some.inj ei0
  obtain ⟨g2, hg⟩ := and_e hg
  obtain ⟨i1, ei1⟩ := is_v g2
  obtain rfl : w1 = (.int i1) := Option.some.inj ei1
  obtain ⟨g3, hg⟩ := and_e hg
  obtain ⟨i2, ei2⟩ := is_v g3
  obtain rfl : w2 = (.int i2) := Option.some.inj ei2
  obtain ⟨g4, hg⟩ := and_e hg
  obtain ⟨i3, ei3⟩ := is_v g4
  obtain rfl : w3 = (.int i3) := Option.some.inj ei3
  obtain ⟨g5, hg⟩ := and_e hg
  obtain ⟨i4, ei4⟩ := is_v g5
  obtain rfl : w4 = (.int i4) := Option.some.inj ei4
  obtain ⟨i5, ei5⟩ := is_v hg
  obtain rfl : w5 = (.int i5) := Option.some.inj ei5
  exact rm0 s _ hw i0 i1 i2 i3 i4 i5 s.heap s.heap.size (Nat.le_refl _)  l
theorem main_1_1 : Claimed_1_1 := own_comes (ck := 16) (sk := 128) (fun _ _ _ _ _ _ h hF => ⟨h.1, hF⟩) (by decide) (by decide) fun l _ _ s args hF hr hg hw => own_law l s args hF trivial hg hw
theorem main_1_2 : Claimed_1_2 := own_comes (ck := 16) (sk := 128) (fun _ _ _ _ _ _ h hF => ⟨h.2, hF⟩) (by decide) (by decide) fun l _ _ s args hF hr hg hw => own_law l s args hF trivial hg hw
end Jvm.Pilot.@@N@@
namespace Jvm.Pilot.@@N@@
open Jvm Jvm.ClassFile Sem Op Lib Jvm.Free Jvm.Stand Jvm.Pilot.@@N@@.Jvm.D
/-! MADE BY PROGRAM (witnessworld.py) out of the Statement's table words and the real class files: 9 classes; the members and pool entries that the words name. The judged class is class 1, her method 1. -/
namespace start1
open Jvm.ClassFile
def u (s : String) : CpInfo := .utf8 (stringToUtf16 s)
/-- a pool by its gaps: so many unusable entries, then the entry; so many at the end -/
def gap : Nat → List CpInfo → List CpInfo
  | 0, r => r
  | n + 1, r => .unusable :: gap n r
def poolList (es : List (Nat × CpInfo)) (last : Nat) : List CpInfo := es.foldr (fun e r => gap e.1 (e.2 :: r)) (gap last [])
def pool (es : List (Nat × CpInfo)) (last : Nat) : Array CpInfo := ⟨poolList es last⟩
def fileOf (pool : Array CpInfo) (this : Nat) (attrs : Array Attribute := #[]) (ms : Array MethodInfo := #[]) (fl : Nat := 33) (sup : Nat := 0) (ifs : Array Nat := #[]) (fds : Array FieldInfo := #[]) : ClassFile where
  minorVersion := 0
  majorVersion := 65
  constantPool := pool
  accessFlags := fl
  thisClass := this
  superClass := sup
  interfaces := ifs
  fields := fds
  methods := ms
  attributes := attrs
def plain (name : String) (sup : Option ClassId) : Class where
  name := name
  kind := .ordinary
  loader := none
  accessFlags := 33
  super := sup
  interfaces := #[]
  cf := none
  fields := #[]
  methods := #[]
  instanceTypes := #[]
  staticTypes := #[]
  resolved := #[]
  callSites := []
  init := .initialized
  statics := none
  mirror := none

def pool0 : Array CpInfo := pool [(5, u "<init>"), (0, u "()V"), (1, .class_ 10), (1, u "java/lang/Object")] 113

def k0c0 : Code := { maxStack := 0, maxLocals := 1, code := object_method_1_code, exceptionTable := #[], attributes := #[] }
def k0m0 : Method := { name := "<init>", desc := "()V", sig := { parameters := [], returnType := none }, accessFlags := 1, code := some k0c0 }
/-- java/lang/Object -/
def k0 : Class := { plain "java/lang/Object" none with
  accessFlags := 33
  interfaces := #[]
  cf := some (fileOf pool0 8 #[] #[{ accessFlags := 1, nameIndex := 5, descriptorIndex := 6, attributes := #[] }] 33 0 #[] #[])
  fields := #[]
  methods := #[k0m0]
  instanceTypes := #[]
  staticTypes := #[]
  resolved := Array.replicate 124 none
  statics := none }

def pool1 : Array CpInfo := pool [(2, .class_ 4), (1, u "java/lang/Object"), (0, u "<init>"), (0, u "()V"), (2, .integer 2147483647), (0, .class_ 11), (0, u "com/example/admit/admit/Claim"), (0, .methodref 10 13), (0, .nameAndType 5 14), (0, u "(II)V"), (0, .methodref 10 16), (0, .nameAndType 17 18), (0, u "precedes"), (0, u "(Lcom/example/admit/admit/Claim;)Z"), (0, .class_ 20), (0, u "com/example/admit/admit/ClaimPrecedesPinLaw"), (2, u "law"), (0, u "(IIIIII)Z")] 3

def k1m0 : Method := { name := "<init>", desc := "()V", sig := { parameters := [], returnType := none }, accessFlags := 1, code := none }
def k1c1 : Code := { maxStack := 5, maxLocals := 20, code := code, exceptionTable := #[], attributes := #[] }
def k1m1 : Method := { name := "law", desc := "(IIIIII)Z", sig := { parameters := [.int, .int, .int, .int, .int, .int], returnType := some .boolean }, accessFlags := 9, code := some k1c1 }
/-- com/example/admit/admit/ClaimPrecedesPinLaw -/
def k1 : Class := { plain "com/example/admit/admit/ClaimPrecedesPinLaw" (some 0) with
  accessFlags := 49
  interfaces := #[]
  cf := some (fileOf pool1 19 #[] #[{ accessFlags := 1, nameIndex := 5, descriptorIndex := 6, attributes := #[] }, { accessFlags := 9, nameIndex := 23, descriptorIndex := 24, attributes := #[] }] 49 2 #[] #[])
  fields := #[]
  methods := #[k1m0, k1m1]
  instanceTypes := #[]
  staticTypes := #[]
  resolved := Array.replicate 28 none
  statics := none }

def pool2 : Array CpInfo := pool [(1, .methodref 2 3), (0, .class_ 4), (0, .nameAndType 5 6), (0, u "java/lang/Object"), (0, u "<init>"), (0, u "()V"), (0, .fieldref 8 9), (0, .class_ 10), (0, .nameAndType 11 12), (0, u "com/example/admit/admit/Claim"), (0, u "member"), (0, u "I"), (0, .fieldref 8 14), (0, .nameAndType 15 12), (0, u "number"), (0, u "(II)V"), (3, u "precedes"), (0, u "(Lcom/example/admit/admit/Claim;)Z")] 6

def k2c0 : Code := { maxStack := 2, maxLocals := 3, code := prog_4_method_1_code, exceptionTable := #[], attributes := #[] }
def k2m0 : Method := { name := "<init>", desc := "(II)V", sig := { parameters := [.int, .int], returnType := none }, accessFlags := 1, code := some k2c0 }
def k2c1 : Code := { maxStack := 2, maxLocals := 2, code := prog_4_method_4_code, exceptionTable := #[], attributes := #[] }
def k2m1 : Method := { name := "precedes", desc := "(Lcom/example/admit/admit/Claim;)Z", sig := { parameters := [(.object "com/example/admit/admit/Claim")], returnType := some .boolean }, accessFlags := 1, code := some k2c1 }
/-- com/example/admit/admit/Claim -/
def k2 : Class := { plain "com/example/admit/admit/Claim" (some 0) with
  accessFlags := 33
  interfaces := #[]
  cf := some (fileOf pool2 8 #[] #[{ accessFlags := 1, nameIndex := 5, descriptorIndex := 16, attributes := #[] }, { accessFlags := 1, nameIndex := 20, descriptorIndex := 21, attributes := #[] }] 33 2 #[] #[{ accessFlags := 18, nameIndex := 11, descriptorIndex := 12, attributes := #[] }, { accessFlags := 18, nameIndex := 15, descriptorIndex := 12, attributes := #[] }])
  fields := #[{ name := "member", type := .int, accessFlags := 18, slot := 0, constantValue := 0 }, { name := "number", type := .int, accessFlags := 18, slot := 1, constantValue := 0 }]
  methods := #[k2m0, k2m1]
  instanceTypes := #[.int, .int]
  staticTypes := #[]
  resolved := Array.replicate 28 none
  statics := none }

def pool3 : Array CpInfo := pool [(1, u "java/lang/Cloneable"), (0, .class_ 1), (0, u "java/lang/Object"), (0, .class_ 3)] 3

/-- java/lang/Cloneable -/
def k3 : Class := { plain "java/lang/Cloneable" (some 0) with
  accessFlags := 1537
  interfaces := #[]
  cf := some (fileOf pool3 2 #[] #[] 1537 4 #[] #[])
  fields := #[]
  methods := #[]
  instanceTypes := #[]
  staticTypes := #[]
  resolved := Array.replicate 8 none
  statics := none }

def pool4 : Array CpInfo := pool [(1, u "java/io/Serializable"), (0, .class_ 1), (0, u "java/lang/Object"), (0, .class_ 3)] 3

/-- java/io/Serializable -/
def k4 : Class := { plain "java/io/Serializable" (some 0) with
  accessFlags := 1537
  interfaces := #[]
  cf := some (fileOf pool4 2 #[] #[] 1537 4 #[] #[])
  fields := #[]
  methods := #[]
  instanceTypes := #[]
  staticTypes := #[]
  resolved := Array.replicate 8 none
  statics := none }

/-- the primitive byte -/
def k5 : Class := { plain "byte" none with kind := .primitive 'B', accessFlags := 0x411 }
/-- [B -/
def k6 : Class := { plain "[B" (some 0) with kind := .array 5 .byte, interfaces := #[3, 4], accessFlags := 1041 }

/-- the primitive int -/
def k7 : Class := { plain "int" none with kind := .primitive 'I', accessFlags := 0x411 }
/-- [I -/
def k8 : Class := { plain "[I" (some 0) with kind := .array 7 .int, interfaces := #[3, 4], accessFlags := 1041 }

def heap : Heap := #[]
def classes : Array Class := #[k0, k1, k2, k3, k4, k5, k6, k7, k8]
def interned : List (Array UInt16 × Addr) := []
def slotsUsed : Nat := 0
def theMethod : MethodId := ⟨1, 1⟩
def args0 : Array Value := #[.int 0, .int 1, .int 2, .int 3, .int 4, .int 5]
def aboutOver (below : List Frame) : State where
  vm := { classes := classes, interned := interned.toArray }
  heap := heap
  slotsUsed := slotsUsed
  threads := #[{ frames := .invoking theMethod args0 :: below }]
def below0 : List Frame := [.native { method := ⟨0, 0⟩, args := #[] }]
def about1 : State := aboutOver below0
def p0 : Program := .bare "" "" ""
def e0 : Env := launch0.env 0 0 0
theorem w_frames : about1.frames = Frame.invoking theMethod args0 :: below0 := rfl
set_option maxRecDepth 65536 in
theorem w_args : argsFit about1.vm theMethod args0 = true := by decide +kernel
set_option maxRecDepth 65536 in
theorem w_heap : heapFits about1 = true := by decide +kernel
set_option maxRecDepth 65536 in
theorem w_runnable : about1.curStatus? = some .runnable := by decide +kernel
set_option maxRecDepth 65536 in
theorem w_alone : about1.alone = true := by decide +kernel
set_option maxRecDepth 65536 in
theorem w_named : about1.methodNamed? x = some theMethod := by decide +kernel
set_option maxRecDepth 65536 in
theorem w_hears : about1.hears theMethod below0 = true := by decide +kernel
set_option maxRecDepth 65536 in
theorem w_ripe : about1.ripe theMethod args0 below0 = true := by decide +kernel
theorem w_running : about1.status = .running := rfl
set_option maxRecDepth 65536 in
theorem w_room : about1.hasRoom e0.platform room_1 = true :=
  launch0.hasRoom_least _ room_1 (by decide +kernel) (by decide +kernel) (by decide +kernel) (by decide +kernel) (by decide +kernel) (by decide +kernel)
theorem allAtoms_all (ts : List Jvm.Cond) (a : Array Jvm.Value) (st : Jvm.State) : (allAtoms ts).before a st = ts.all (fun c => c.before a st) := by
  induction ts with
  | nil => rfl
  | cons c t ih =>
    show (Jvm.Cond.and c (allAtoms t)).before a st = _
    rw [Jvm.Cond.before_and, ih, List.all_cons]
def words1 : List Jvm.Cond := Jvm.Cond.code x code maxLocals ret :: tables_1
/-- a 'code' word, met by the world's own term for the bytes: nothing is compared byte by byte -/
theorem code_word {y : MethodName} {bytes : ByteArray} {mx : Nat} {rt : Option FieldType} {a : Array Value} {s : State} {m : MethodId} {meth : Method} {c : Code} (h1 : s.methodNamed? y = some m) (h2 : s.vm.method? m = some meth) (h3 : meth.code = some c) (h4 : c.code = bytes)
    (h5 : (c.maxLocals == mx && c.exceptionTable.isEmpty && decide (c.maxStack ≤ mostOperands) && decide (meth.sig.returnType = rt) && !meth.locks && decide (parseMethodDescriptor y.desc = some meth.sig)) = true) : (Jvm.Cond.code y bytes mx rt).before a s = true := by
  simp only [Bool.and_eq_true, beq_iff_eq, Bool.not_eq_true', decide_eq_true_eq] at h5
  obtain ⟨⟨⟨⟨⟨g1, g2⟩, g3⟩, g4⟩, g5⟩, g6⟩ := h5
  simp [Cond.before, Cond.holds, Cond.value, h1, h2, h3, h4, g1, g2, g3, g4, g5, g6]
def isCode : Jvm.Cond → Bool
  | .code _ _ _ _ => true
  | _ => false
theorem all_split {L : List Jvm.Cond} {P : Jvm.Cond → Bool} (h1 : L.all (fun c => isCode c || P c) = true) (h2 : ∀ c ∈ L.filter isCode, P c = true) : L.all P = true := by
  refine List.all_eq_true.mpr fun c hc => ?_
  have h := List.all_eq_true.mp h1 c hc
  rcases Bool.eq_false_or_eq_true (isCode c) with hi | hi
  · exact h2 c (List.mem_filter.mpr ⟨hc, hi⟩)
  · simpa [hi] using h
set_option maxRecDepth 65536 in
theorem w_c0 : (Jvm.Cond.code x code maxLocals ret).before args0 about1 = true := code_word (m := ⟨1, 1⟩) (meth := k1m1) (c := k1c1) (by decide +kernel) rfl rfl rfl (by decide +kernel)
set_option maxRecDepth 65536 in
theorem w_c1 : (Jvm.Cond.code ({ cls := "com/example/admit/admit/Claim", name := "<init>", desc := "(II)V" } : Jvm.MethodName) prog_4_method_1_code (3 : Nat) (Option.none : Option Jvm.ClassFile.FieldType)).before args0 about1 = true := code_word (m := ⟨2, 0⟩) (meth := k2m0) (c := k2c0) (by decide +kernel) rfl rfl rfl (by decide +kernel)
set_option maxRecDepth 65536 in
theorem w_c2 : (Jvm.Cond.code ({ cls := "java/lang/Object", name := "<init>", desc := "()V" } : Jvm.MethodName) object_method_1_code (1 : Nat) (Option.none : Option Jvm.ClassFile.FieldType)).before args0 about1 = true := code_word (m := ⟨0, 0⟩) (meth := k0m0) (c := k0c0) (by decide +kernel) rfl rfl rfl (by decide +kernel)
set_option maxRecDepth 65536 in
theorem w_c3 : (Jvm.Cond.code ({ cls := "com/example/admit/admit/Claim", name := "precedes", desc := "(Lcom/example/admit/admit/Claim;)Z" } : Jvm.MethodName) prog_4_method_4_code (2 : Nat) (Option.some Jvm.ClassFile.FieldType.boolean)).before args0 about1 = true := code_word (m := ⟨2, 1⟩) (meth := k2m1) (c := k2c1) (by decide +kernel) rfl rfl rfl (by decide +kernel)
def codes1 : List Jvm.Cond := [Jvm.Cond.code x code maxLocals ret, Jvm.Cond.code ({ cls := "com/example/admit/admit/Claim", name := "<init>", desc := "(II)V" } : Jvm.MethodName) prog_4_method_1_code (3 : Nat) (Option.none : Option Jvm.ClassFile.FieldType), Jvm.Cond.code ({ cls := "java/lang/Object", name := "<init>", desc := "()V" } : Jvm.MethodName) object_method_1_code (1 : Nat) (Option.none : Option Jvm.ClassFile.FieldType), Jvm.Cond.code ({ cls := "com/example/admit/admit/Claim", name := "precedes", desc := "(Lcom/example/admit/admit/Claim;)Z" } : Jvm.MethodName) prog_4_method_4_code (2 : Nat) (Option.some Jvm.ClassFile.FieldType.boolean)]
set_option maxRecDepth 65536 in
theorem codes_eq : words1.filter isCode = codes1 := rfl
theorem w_codes : ∀ c ∈ words1.filter isCode, c.before args0 about1 = true := by
  rw [codes_eq]
  intro c hc
  simp only [codes1, List.mem_cons, List.not_mem_nil, or_false] at hc
  rcases hc with rfl | rfl | rfl | rfl
  · exact w_c0
  · exact w_c1
  · exact w_c2
  · exact w_c3
set_option maxRecDepth 65536 in
theorem w_t1 : words1.all (fun c => isCode c || c.before args0 about1) = true := by decide +kernel
theorem w_tables : (allAtoms (Jvm.Cond.code x code maxLocals ret :: tables_1)).before args0 about1 = true := by
  rw [allAtoms_all]
  show words1.all (fun c => c.before args0 about1) = true
  refine all_split ?_ w_codes
  rw [w_t1]
set_option maxRecDepth 65536 in
theorem w_case : (Jvm.Cond.and given_1 narrow_1).before args0 about1 = true := by decide +kernel
theorem w_applies : (headSpec (Jvm.Cond.code x code maxLocals ret :: tables_1) room_1).applies x e0.platform about1 = true :=
  (Spec.applies_iff w_frames).mpr ⟨w_running, w_runnable, w_alone, w_named, w_hears, w_ripe, w_room, w_tables⟩
theorem atStart : AtStart classFile x code maxLocals ret World_1 tables_1 room_1 Calls_1 rest_1 Pre_1 launch0 p0 e0 about1 theMethod args0 below0 :=
  ⟨lists_1, trivial, launch0.admits_env _ _ _, launch0.least_env, fairChoices_fair.cas, fairChoices_fair.clock, w_frames, w_args, w_heap, w_applies, trivial, trivial, w_case⟩
end start1
theorem witness_1 : WitnessClaimed_1 := ⟨start1.p0, start1.e0, start1.about1, start1.theMethod, start1.args0, start1.below0, start1.atStart⟩
end Jvm.Pilot.@@N@@
