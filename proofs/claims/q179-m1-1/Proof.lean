import JvmDerived
import JvmDerived.Pilot.@@N@@Statement
import JvmDerived.Pilot.@@N@@Code
set_option linter.unusedVariables false
set_option linter.unusedSimpArgs false
namespace Jvm.Own
open Sem ClassFile Op Lib Bundle Jvm.Stand Jvm.Free Jvm.LawKit Jvm.RoadKit
theorem nl {a b : Nat} (h : Nat.ble a b = true) : a ≤ b := Nat.le_of_ble_eq_true h
section Core
variable {nw : Bool} {p : Program} {l : Launch} {e : Env} {R : Room} {s : State} {m : MethodId} {args : Array Value} {below : List Frame} {meth : Method} {c : Code} {code : ByteArray} {ml : Nat} {nm : String} {ret : Option FieldType} {Z : State} {a0 : Array Value} {EL : List (String × Nat)} {own : String} {P : Option Value → Vm → Heap → Prop}
variable {vm vm' : Vm} {h h' h0 h1 h2 : Heap} {k n pc : Nat} {L : Array Slot} {S : List Value}
/-- what the walk knows of its tables and heap -/
def On (nw : Bool) (s : State) (m : MethodId) (Z : State) (a0 : Array Value) (EL : List (String × Nat)) (own : String) (vm : Vm) (h : Heap) : Prop :=
  (∃ k0, s.Since vm k0 ∧ k0 ≤ h.size) ∧ Z.Warmed39 vm ∧ vm.findClass own = some m.cls ∧ CHv Z EL vm h ∧ Ext Z.heap h ∧ EW Z a0 EL ∧ (nw = true → s.WarmedH vm)
/-- from the heap h, the tables vm and this frame the body returns, and P holds of what it leaves -/
def Go (nw : Bool) (p : Program) (l : Launch) (e : Env) (R : Room) (s : State) (m : MethodId) (args : Array Value) (below : List Frame) (meth : Method) (c : Code) (code : ByteArray) (ml : Nat) (nm : String) (ret : Option FieldType) (Z : State) (a0 : Array Value) (EL : List (String × Nat)) (own : String) (P : Option Value → Vm → Heap → Prop)
    (vm : Vm) (h : Heap) (k n pc : Nat) (L : Array Slot) (S : List Value) : Prop :=
  p.tables.exec = Jvm.exec → c.code = code → c.maxLocals = ml → meth.locks = false → meth.name = nm → meth.sig.returnType = ret → On nw s m Z a0 EL own vm h →
  ∀ (T : State) (locs : List Loc) (cells slots : Nat), Stand p l e R (s.setVm vm) m args below meth c T locs cells slots → T.heap = h → Fr Z.heap.size locs → cells ≤ k → slots ≤ n →
  ∃ (s₂ : State) (v : Option Value), Steps p.tables e below (T.setTop (mkF m pc L S)) s₂ ∧ s₂.status = .running ∧ Ended s₂ below (.returned v) ∧ P v s₂.vm s₂.heap ∧ CHr Z EL vm h s₂.vm s₂.heap ∧ Ext Z.heap s₂.heap ∧
    ∃ L', Fr Z.heap.size L' ∧ ReturnedEndW s (.returned v) s₂ L' R.cells R.slots ∧ (nw = true → s.WarmedH s₂.vm)
theorem Go.mono {k' n' : Nat} (hk : k ≤ k') (hn : n ≤ n') (g : Go nw p l e R s m args below meth c code ml nm ret Z a0 EL own P vm h k' n' pc L S) : Go nw p l e R s m args below meth c code ml nm ret Z a0 EL own P vm h k n pc L S :=
  fun hx hc hm hl hnm hr hon T locs cells slots X hh hF q1 q2 => g hx hc hm hl hnm hr hon T locs cells slots X hh hF (Nat.le_trans q1 hk) (Nat.le_trans q2 hn)
theorem Go.know (g : Ext Z.heap h → Z.Warmed39 vm → CHv Z EL vm h → Go nw p l e R s m args below meth c code ml nm ret Z a0 EL own P vm h k n pc L S) : Go nw p l e R s m args below meth c code ml nm ret Z a0 EL own P vm h k n pc L S :=
  fun hx hc hm hl hnm hr hon => g hon.2.2.2.2.1 hon.2.1 hon.2.2.2.1 hx hc hm hl hnm hr hon
theorem Go.step {pc' : Nat} {L' : Array Slot} {S' : List Value} (st : ∀ T, At T m c below → p.tables.exec = Jvm.exec → c.code = code → ∀ target, Steps p.tables e below (T.setTop (mkF m pc' L' S')) target → Steps p.tables e below (T.setTop (mkF m pc L S)) target)
    (g : Go nw p l e R s m args below meth c code ml nm ret Z a0 EL own P vm h k n pc' L' S') : Go nw p l e R s m args below meth c code ml nm ret Z a0 EL own P vm h k n pc L S := by
  intro hx hc hm hl hnm hr hon T locs cells slots X hh hF hk hn
  obtain ⟨s₂, v, st2, r⟩ := g hx hc hm hl hnm hr hon T locs cells slots X hh hF hk hn
  exact ⟨s₂, v, st T X.here hx hc _ st2, r⟩
/-- a step that may note an entry of the pool, the heap as it was -/
theorem Go.note {pc' : Nat} {L' : Array Slot} {S' : List Value} (st : ∀ T locs cells slots, Stand p l e R (s.setVm vm) m args below meth c T locs cells slots → T.heap = h → p.tables.exec = Jvm.exec → c.code = code → c.maxLocals = ml → On nw s m Z a0 EL own vm h →
      ∃ T', Stand p l e R (s.setVm vm) m args below meth c T' locs cells slots ∧ T'.heap = h ∧ ∀ target, Steps p.tables e below (T'.setTop (mkF m pc' L' S')) target → Steps p.tables e below (T.setTop (mkF m pc L S)) target)
    (g : Go nw p l e R s m args below meth c code ml nm ret Z a0 EL own P vm h k n pc' L' S') : Go nw p l e R s m args below meth c code ml nm ret Z a0 EL own P vm h k n pc L S := by
  intro hx hc hm hl hnm hr hon T locs cells slots X hh hF hk hn
  obtain ⟨T', X', hh', st2⟩ := st T locs cells slots X hh hx hc hm hon
  obtain ⟨s₂, v, st3, r⟩ := g hx hc hm hl hnm hr hon T' locs cells slots X' hh' hF hk hn
  exact ⟨s₂, v, st2 _ st3, r⟩
theorem On.ext (hon : On nw s m Z a0 EL own vm h) (E : Ext h h') : On nw s m Z a0 EL own vm h' := by
  obtain ⟨⟨k0, a1, a2⟩, a3, a4, a5, a6, a7, a8⟩ := hon
  exact ⟨⟨k0, a1, Nat.le_trans a2 E.1⟩, a3, a4, a5.ext E, ⟨Nat.le_trans a6.1 E.1, fun a c q => E.2 _ _ (a6.2 _ _ q)⟩, a7, a8⟩
theorem On.wr {a : Addr} {sl : Nat} {v : Value} (hon : On nw s m Z a0 EL own vm h) (W : Wr h h' a sl v) (Sa : Safe Z EL vm h a) (hz : Z.heap.size ≤ a) : On nw s m Z a0 EL own vm h' := by
  obtain ⟨⟨k0, a1, a2⟩, a3, a4, a5, a6, a7, a8⟩ := hon
  have O : Old Z Z.heap.size h' := Old.wr (Z := Z) ⟨rfl, a6⟩ W hz
  exact ⟨⟨k0, a1, by rw [W.size]; exact a2⟩, a3, a4, a5.wr W Sa, O.2, a7, a8⟩
/-- a step that makes a cell -/
theorem Go.made {pc' dk dn : Nat} {L' : Array Slot} {S' : Addr → List Value} {F : Heap → Addr → Prop} (hk0 : k + dk ≤ R.cells) (hn0 : n + dn ≤ R.slots)
    (st : ∀ T locs cells slots, Stand p l e R (s.setVm vm) m args below meth c T locs cells slots → T.heap = h → p.tables.exec = Jvm.exec → c.code = code → c.maxLocals = ml → On nw s m Z a0 EL own vm h → cells + dk ≤ R.cells → slots + dn ≤ R.slots →
      ∃ T' h', Stand p l e R (s.setVm vm) m args below meth c T' locs (cells + dk) (slots + dn) ∧ T'.heap = h' ∧ Ext h h' ∧ F h' h.size ∧ ∀ target, Steps p.tables e below (T'.setTop (mkF m pc' L' (S' h.size))) target → Steps p.tables e below (T.setTop (mkF m pc L S)) target)
    (g : ∀ a h', a = h.size → Ext h h' → F h' a → Safe Z EL vm h' a → Z.heap.size ≤ a → CHr Z EL vm h vm h' → Go nw p l e R s m args below meth c code ml nm ret Z a0 EL own P vm h' (k + dk) (n + dn) pc' L' (S' a)) : Go nw p l e R s m args below meth c code ml nm ret Z a0 EL own P vm h k n pc L S := by
  intro hx hc hm hl hnm hr hon T locs cells slots X hh hF hk hn
  obtain ⟨T', h', X', hh', E, Fh, st2⟩ := st T locs cells slots X hh hx hc hm hon (by omega) (by omega)
  have ch : CHr Z EL vm h vm h' := CHr.ext E hon.2.2.2.1
  obtain ⟨s₂, v, st3, r1, r2, r3, r4, r5⟩ := g h.size h' rfl E Fh (Safe.ext E hon.2.2.2.1 (Safe.new (Nat.le_refl _))) hon.2.2.2.2.1.1 ch hx hc hm hl hnm hr (hon.ext E) T' locs (cells + dk) (slots + dn) X' hh' hF (by omega) (by omega)
  exact ⟨s₂, v, st2 _ st3, r1, r2, r3, ch.trans r4, r5⟩
/-- a step that writes one slot of a cell made since the law began -/
theorem Go.wrote {pc' : Nat} {L' : Array Slot} {S' : List Value} {a : Addr} {sl : Nat} {w : Value} (Sa : Safe Z EL vm h a) (hz : Z.heap.size ≤ a)
    (st : ∀ T locs cells slots, Stand p l e R (s.setVm vm) m args below meth c T locs cells slots → T.heap = h → p.tables.exec = Jvm.exec → c.code = code → c.maxLocals = ml → meth.name = nm → On nw s m Z a0 EL own vm h →
      ∃ T' h', Stand p l e R (s.setVm vm) m args below meth c T' (locs ++ [⟨a, sl⟩]) cells slots ∧ T'.heap = h' ∧ Wr h h' a sl w ∧ ∀ target, Steps p.tables e below (T'.setTop (mkF m pc' L' S')) target → Steps p.tables e below (T.setTop (mkF m pc L S)) target)
    (g : ∀ h', Wr h h' a sl w → Safe Z EL vm h' a → CHr Z EL vm h vm h' → Go nw p l e R s m args below meth c code ml nm ret Z a0 EL own P vm h' k n pc' L' S') : Go nw p l e R s m args below meth c code ml nm ret Z a0 EL own P vm h k n pc L S := by
  intro hx hc hm hl hnm hr hon T locs cells slots X hh hF hk hn
  obtain ⟨T', h', X', hh', W, st2⟩ := st T locs cells slots X hh hx hc hm hnm hon
  have ch : CHr Z EL vm h vm h' := CHr.wr W Sa hon.2.2.2.1
  obtain ⟨s₂, v, st3, r1, r2, r3, r4, r5⟩ := g h' W (Safe.wr W Sa hon.2.2.2.1 Sa) ch hx hc hm hl hnm hr (hon.wr W Sa hz) T' _ cells slots X' hh' (Fr.snoc X' hF hz) hk hn
  exact ⟨s₂, v, st2 _ st3, r1, r2, r3, ch.trans r4, r5⟩
theorem Go.iload_n {i : Fin 4} {v : Int32} (pc' : Nat) (hd : decode code pc = .ok (.iload_n i, 1)) (hp : pc + 1 = pc') (hl : L[i.val]? = some (.val (.int v))) (g : Go nw p l e R s m args below meth c code ml nm ret Z a0 EL own P vm h k n pc' L (.int v :: S)) : Go nw p l e R s m args below meth c code ml nm ret Z a0 EL own P vm h k n pc L S := by
  subst hp; exact g.step fun T hT hx hc _ q => XS.iloadN (g := mkF m pc L (S)) hT hx rfl (hb hc hd) hl q
theorem Go.iload {i : Nat} {v : Int32} (pc' : Nat) (hd : decode code pc = .ok (.iload i, 2)) (hp : pc + 2 = pc') (hl : L[i]? = some (.val (.int v))) (g : Go nw p l e R s m args below meth c code ml nm ret Z a0 EL own P vm h k n pc' L (.int v :: S)) : Go nw p l e R s m args below meth c code ml nm ret Z a0 EL own P vm h k n pc L S := by
  subst hp; exact g.step fun T hT hx hc _ q => XS.iload (g := mkF m pc L (S)) hT hx rfl (hb hc hd) hl q
theorem Go.lload_n {i : Fin 4} {v : Int64} (pc' : Nat) (hd : decode code pc = .ok (.lload_n i, 1)) (hp : pc + 1 = pc') (hl : L[i.val]? = some (.val (.long v))) (g : Go nw p l e R s m args below meth c code ml nm ret Z a0 EL own P vm h k n pc' L (.long v :: S)) : Go nw p l e R s m args below meth c code ml nm ret Z a0 EL own P vm h k n pc L S := by
  subst hp; exact g.step fun T hT hx hc _ q => XS.lloadN (g := mkF m pc L (S)) hT hx rfl (hb hc hd) hl q
theorem Go.lload {i : Nat} {v : Int64} (pc' : Nat) (hd : decode code pc = .ok (.lload i, 2)) (hp : pc + 2 = pc') (hl : L[i]? = some (.val (.long v))) (g : Go nw p l e R s m args below meth c code ml nm ret Z a0 EL own P vm h k n pc' L (.long v :: S)) : Go nw p l e R s m args below meth c code ml nm ret Z a0 EL own P vm h k n pc L S := by
  subst hp; exact g.step fun T hT hx hc _ q => XS.lload (g := mkF m pc L (S)) hT hx rfl (hb hc hd) hl q
theorem Go.aload_n {i : Fin 4} {v : Value} (pc' : Nat) (hd : decode code pc = .ok (.aload_n i, 1)) (hp : pc + 1 = pc') (hl : L[i.val]? = some (.val v)) (hv : v.isRef = true) (g : Go nw p l e R s m args below meth c code ml nm ret Z a0 EL own P vm h k n pc' L (v :: S)) : Go nw p l e R s m args below meth c code ml nm ret Z a0 EL own P vm h k n pc L S := by
  subst hp; exact g.step fun T hT hx hc _ q => XS.aloadN (g := mkF m pc L (S)) hT hx rfl (hb hc hd) hl hv q
theorem Go.aload {i : Nat} {v : Value} (pc' : Nat) (hd : decode code pc = .ok (.aload i, 2)) (hp : pc + 2 = pc') (hl : L[i]? = some (.val v)) (hv : v.isRef = true) (g : Go nw p l e R s m args below meth c code ml nm ret Z a0 EL own P vm h k n pc' L (v :: S)) : Go nw p l e R s m args below meth c code ml nm ret Z a0 EL own P vm h k n pc L S := by
  subst hp; exact g.step fun T hT hx hc _ q => XS.aload (g := mkF m pc L (S)) hT hx rfl (hb hc hd) hl hv q
theorem Go.iconst {i : Int} (v : Int32) (pc' : Nat) (hd : decode code pc = .ok (.iconst i, 1)) (hp : pc + 1 = pc') (hv : Int32.ofInt i = v) (g : Go nw p l e R s m args below meth c code ml nm ret Z a0 EL own P vm h k n pc' L (.int v :: S)) : Go nw p l e R s m args below meth c code ml nm ret Z a0 EL own P vm h k n pc L S := by
  subst hp hv; exact g.step fun T hT hx hc _ q => XS.iconst hT hx rfl (hb hc hd) q
theorem Go.bipush {i : Int} (v : Int32) (pc' : Nat) (hd : decode code pc = .ok (.bipush i, 2)) (hp : pc + 2 = pc') (hv : (Int8.ofInt i).toInt32 = v) (g : Go nw p l e R s m args below meth c code ml nm ret Z a0 EL own P vm h k n pc' L (.int v :: S)) : Go nw p l e R s m args below meth c code ml nm ret Z a0 EL own P vm h k n pc L S := by
  subst hp hv; exact g.step fun T hT hx hc _ q => XS.bipush hT hx rfl (hb hc hd) q
theorem Go.sipush {i : Int} (v : Int32) (pc' : Nat) (hd : decode code pc = .ok (.sipush i, 3)) (hp : pc + 3 = pc') (hv : (Int16.ofInt i).toInt32 = v) (g : Go nw p l e R s m args below meth c code ml nm ret Z a0 EL own P vm h k n pc' L (.int v :: S)) : Go nw p l e R s m args below meth c code ml nm ret Z a0 EL own P vm h k n pc L S := by
  subst hp hv; exact g.step fun T hT hx hc _ q => XS.sipush hT hx rfl (hb hc hd) q
theorem Go.lconst {i : Fin 2} (v : Int64) (pc' : Nat) (hd : decode code pc = .ok (.lconst i, 1)) (hp : pc + 1 = pc') (hv : Int64.ofNat i = v) (g : Go nw p l e R s m args below meth c code ml nm ret Z a0 EL own P vm h k n pc' L (.long v :: S)) : Go nw p l e R s m args below meth c code ml nm ret Z a0 EL own P vm h k n pc L S := by
  subst hp hv; exact g.step fun T hT hx hc _ q => XS.lconst hT hx rfl (hb hc hd) q
theorem Go.aconst_null  (pc' : Nat) (hd : decode code pc = .ok (.aconst_null, 1)) (hp : pc + 1 = pc') (g : Go nw p l e R s m args below meth c code ml nm ret Z a0 EL own P vm h k n pc' L (.null :: S)) : Go nw p l e R s m args below meth c code ml nm ret Z a0 EL own P vm h k n pc L S := by
  subst hp; exact g.step fun T hT hx hc _ q => XS.aconstNull (g := mkF m pc L (S)) hT hx rfl (hb hc hd)  q
theorem Go.istore_n {i : Fin 4} {v : Int32} (L' : Array Slot) (pc' : Nat) (hd : decode code pc = .ok (.istore_n i, 1)) (hp : pc + 1 = pc') (hl : storeLocals L i.val (.int v) = some L') (g : Go nw p l e R s m args below meth c code ml nm ret Z a0 EL own P vm h k n pc' L' S) : Go nw p l e R s m args below meth c code ml nm ret Z a0 EL own P vm h k n pc L (.int v :: S) := by
  subst hp; exact g.step fun T hT hx hc _ q => XS.istoreN hT hx rfl (hb hc hd) rfl hl q
theorem Go.istore {i : Nat} {v : Int32} (L' : Array Slot) (pc' : Nat) (hd : decode code pc = .ok (.istore i, 2)) (hp : pc + 2 = pc') (hl : storeLocals L i (.int v) = some L') (g : Go nw p l e R s m args below meth c code ml nm ret Z a0 EL own P vm h k n pc' L' S) : Go nw p l e R s m args below meth c code ml nm ret Z a0 EL own P vm h k n pc L (.int v :: S) := by
  subst hp; exact g.step fun T hT hx hc _ q => XS.istore hT hx rfl (hb hc hd) rfl hl q
theorem Go.lstore_n {i : Fin 4} {v : Int64} (L' : Array Slot) (pc' : Nat) (hd : decode code pc = .ok (.lstore_n i, 1)) (hp : pc + 1 = pc') (hl : storeLocals L i.val (.long v) = some L') (g : Go nw p l e R s m args below meth c code ml nm ret Z a0 EL own P vm h k n pc' L' S) : Go nw p l e R s m args below meth c code ml nm ret Z a0 EL own P vm h k n pc L (.long v :: S) := by
  subst hp; exact g.step fun T hT hx hc _ q => XS.lstoreN hT hx rfl (hb hc hd) rfl hl q
theorem Go.lstore {i : Nat} {v : Int64} (L' : Array Slot) (pc' : Nat) (hd : decode code pc = .ok (.lstore i, 2)) (hp : pc + 2 = pc') (hl : storeLocals L i (.long v) = some L') (g : Go nw p l e R s m args below meth c code ml nm ret Z a0 EL own P vm h k n pc' L' S) : Go nw p l e R s m args below meth c code ml nm ret Z a0 EL own P vm h k n pc L (.long v :: S) := by
  subst hp; exact g.step fun T hT hx hc _ q => XS.lstore hT hx rfl (hb hc hd) rfl hl q
theorem Go.astore_n {i : Fin 4} {v : Value} (L' : Array Slot) (pc' : Nat) (hd : decode code pc = .ok (.astore_n i, 1)) (hp : pc + 1 = pc') (hv : v.isRef = true) (hl : storeLocals L i.val v = some L') (g : Go nw p l e R s m args below meth c code ml nm ret Z a0 EL own P vm h k n pc' L' S) : Go nw p l e R s m args below meth c code ml nm ret Z a0 EL own P vm h k n pc L (v :: S) := by
  subst hp; exact g.step fun T hT hx hc _ q => XS.astoreN hT hx rfl (hb hc hd) rfl hv hl q
theorem Go.astore {i : Nat} {v : Value} (L' : Array Slot) (pc' : Nat) (hd : decode code pc = .ok (.astore i, 2)) (hp : pc + 2 = pc') (hv : v.isRef = true) (hl : storeLocals L i v = some L') (g : Go nw p l e R s m args below meth c code ml nm ret Z a0 EL own P vm h k n pc' L' S) : Go nw p l e R s m args below meth c code ml nm ret Z a0 EL own P vm h k n pc L (v :: S) := by
  subst hp; exact g.step fun T hT hx hc _ q => XS.astore hT hx rfl (hb hc hd) rfl hv hl q
theorem Go.iinc {i : Nat} {cst : Int} {x : Int32} (w : Int32) (L' : Array Slot) (pc' : Nat) (hd : decode code pc = .ok (.iinc i cst, 3)) (hp : pc + 3 = pc') (hl : L[i]? = some (.val (.int x))) (hw : x + Int32.ofInt cst = w) (hl' : storeLocals L i (.int w) = some L') (g : Go nw p l e R s m args below meth c code ml nm ret Z a0 EL own P vm h k n pc' L' S) : Go nw p l e R s m args below meth c code ml nm ret Z a0 EL own P vm h k n pc L S := by
  subst hp hw; exact g.step fun T hT hx hc _ q => XS.iinc hT hx rfl (hb hc hd) hl hl' q
theorem Go.iadd {x y : Int32} (z : Int32) (pc' : Nat) (hd : decode code pc = .ok (.iadd, 1)) (hp : pc + 1 = pc') (hz : x + y = z) (g : Go nw p l e R s m args below meth c code ml nm ret Z a0 EL own P vm h k n pc' L (.int z :: S)) : Go nw p l e R s m args below meth c code ml nm ret Z a0 EL own P vm h k n pc L (.int y :: .int x :: S) := by
  subst hp hz; exact g.step fun T hT hx hc _ q => XS.iadd hT hx rfl (hb hc hd) rfl  q
theorem Go.isub {x y : Int32} (z : Int32) (pc' : Nat) (hd : decode code pc = .ok (.isub, 1)) (hp : pc + 1 = pc') (hz : x - y = z) (g : Go nw p l e R s m args below meth c code ml nm ret Z a0 EL own P vm h k n pc' L (.int z :: S)) : Go nw p l e R s m args below meth c code ml nm ret Z a0 EL own P vm h k n pc L (.int y :: .int x :: S) := by
  subst hp hz; exact g.step fun T hT hx hc _ q => XS.isub hT hx rfl (hb hc hd) rfl  q
theorem Go.imul {x y : Int32} (z : Int32) (pc' : Nat) (hd : decode code pc = .ok (.imul, 1)) (hp : pc + 1 = pc') (hz : x * y = z) (g : Go nw p l e R s m args below meth c code ml nm ret Z a0 EL own P vm h k n pc' L (.int z :: S)) : Go nw p l e R s m args below meth c code ml nm ret Z a0 EL own P vm h k n pc L (.int y :: .int x :: S) := by
  subst hp hz; exact g.step fun T hT hx hc _ q => XS.imul hT hx rfl (hb hc hd) rfl  q
theorem Go.iand {x y : Int32} (z : Int32) (pc' : Nat) (hd : decode code pc = .ok (.iand, 1)) (hp : pc + 1 = pc') (hz : x &&& y = z) (g : Go nw p l e R s m args below meth c code ml nm ret Z a0 EL own P vm h k n pc' L (.int z :: S)) : Go nw p l e R s m args below meth c code ml nm ret Z a0 EL own P vm h k n pc L (.int y :: .int x :: S) := by
  subst hp hz; exact g.step fun T hT hx hc _ q => XS.iand hT hx rfl (hb hc hd) rfl  q
theorem Go.ior {x y : Int32} (z : Int32) (pc' : Nat) (hd : decode code pc = .ok (.ior, 1)) (hp : pc + 1 = pc') (hz : x ||| y = z) (g : Go nw p l e R s m args below meth c code ml nm ret Z a0 EL own P vm h k n pc' L (.int z :: S)) : Go nw p l e R s m args below meth c code ml nm ret Z a0 EL own P vm h k n pc L (.int y :: .int x :: S) := by
  subst hp hz; exact g.step fun T hT hx hc _ q => XS.ior hT hx rfl (hb hc hd) rfl  q
theorem Go.ixor {x y : Int32} (z : Int32) (pc' : Nat) (hd : decode code pc = .ok (.ixor, 1)) (hp : pc + 1 = pc') (hz : x ^^^ y = z) (g : Go nw p l e R s m args below meth c code ml nm ret Z a0 EL own P vm h k n pc' L (.int z :: S)) : Go nw p l e R s m args below meth c code ml nm ret Z a0 EL own P vm h k n pc L (.int y :: .int x :: S) := by
  subst hp hz; exact g.step fun T hT hx hc _ q => XS.ixor hT hx rfl (hb hc hd) rfl  q
theorem Go.ishl {x y : Int32} (z : Int32) (pc' : Nat) (hd : decode code pc = .ok (.ishl, 1)) (hp : pc + 1 = pc') (hz : x <<< (y &&& 31) = z) (g : Go nw p l e R s m args below meth c code ml nm ret Z a0 EL own P vm h k n pc' L (.int z :: S)) : Go nw p l e R s m args below meth c code ml nm ret Z a0 EL own P vm h k n pc L (.int y :: .int x :: S) := by
  subst hp hz; exact g.step fun T hT hx hc _ q => XS.ishl hT hx rfl (hb hc hd) rfl  q
theorem Go.ishr {x y : Int32} (z : Int32) (pc' : Nat) (hd : decode code pc = .ok (.ishr, 1)) (hp : pc + 1 = pc') (hz : x >>> (y &&& 31) = z) (g : Go nw p l e R s m args below meth c code ml nm ret Z a0 EL own P vm h k n pc' L (.int z :: S)) : Go nw p l e R s m args below meth c code ml nm ret Z a0 EL own P vm h k n pc L (.int y :: .int x :: S) := by
  subst hp hz; exact g.step fun T hT hx hc _ q => XS.ishr hT hx rfl (hb hc hd) rfl  q
theorem Go.iushr {x y : Int32} (z : Int32) (pc' : Nat) (hd : decode code pc = .ok (.iushr, 1)) (hp : pc + 1 = pc') (hz : XT.ushr x y = z) (g : Go nw p l e R s m args below meth c code ml nm ret Z a0 EL own P vm h k n pc' L (.int z :: S)) : Go nw p l e R s m args below meth c code ml nm ret Z a0 EL own P vm h k n pc L (.int y :: .int x :: S) := by
  subst hp hz; exact g.step fun T hT hx hc _ q => XS.iushr hT hx rfl (hb hc hd) rfl  q
theorem Go.idiv {x y : Int32} (z : Int32) (pc' : Nat) (hd : decode code pc = .ok (.idiv, 1)) (hp : pc + 1 = pc') (hy : y ≠ 0) (hz : x / y = z) (g : Go nw p l e R s m args below meth c code ml nm ret Z a0 EL own P vm h k n pc' L (.int z :: S)) : Go nw p l e R s m args below meth c code ml nm ret Z a0 EL own P vm h k n pc L (.int y :: .int x :: S) := by
  subst hp hz; exact g.step fun T hT hx hc _ q => XS.idiv hT hx rfl (hb hc hd) rfl hy q
theorem Go.irem {x y : Int32} (z : Int32) (pc' : Nat) (hd : decode code pc = .ok (.irem, 1)) (hp : pc + 1 = pc') (hy : y ≠ 0) (hz : x - (x / y) * y = z) (g : Go nw p l e R s m args below meth c code ml nm ret Z a0 EL own P vm h k n pc' L (.int z :: S)) : Go nw p l e R s m args below meth c code ml nm ret Z a0 EL own P vm h k n pc L (.int y :: .int x :: S) := by
  subst hp hz; exact g.step fun T hT hx hc _ q => XS.irem hT hx rfl (hb hc hd) rfl hy q
theorem Go.ladd {x y : Int64} (z : Int64) (pc' : Nat) (hd : decode code pc = .ok (.ladd, 1)) (hp : pc + 1 = pc') (hz : x + y = z) (g : Go nw p l e R s m args below meth c code ml nm ret Z a0 EL own P vm h k n pc' L (.long z :: S)) : Go nw p l e R s m args below meth c code ml nm ret Z a0 EL own P vm h k n pc L (.long y :: .long x :: S) := by
  subst hp hz; exact g.step fun T hT hx hc _ q => XS.ladd hT hx rfl (hb hc hd) rfl q
theorem Go.lsub {x y : Int64} (z : Int64) (pc' : Nat) (hd : decode code pc = .ok (.lsub, 1)) (hp : pc + 1 = pc') (hz : x - y = z) (g : Go nw p l e R s m args below meth c code ml nm ret Z a0 EL own P vm h k n pc' L (.long z :: S)) : Go nw p l e R s m args below meth c code ml nm ret Z a0 EL own P vm h k n pc L (.long y :: .long x :: S) := by
  subst hp hz; exact g.step fun T hT hx hc _ q => XS.lsub hT hx rfl (hb hc hd) rfl q
theorem Go.lmul {x y : Int64} (z : Int64) (pc' : Nat) (hd : decode code pc = .ok (.lmul, 1)) (hp : pc + 1 = pc') (hz : x * y = z) (g : Go nw p l e R s m args below meth c code ml nm ret Z a0 EL own P vm h k n pc' L (.long z :: S)) : Go nw p l e R s m args below meth c code ml nm ret Z a0 EL own P vm h k n pc L (.long y :: .long x :: S) := by
  subst hp hz; exact g.step fun T hT hx hc _ q => XS.lmul hT hx rfl (hb hc hd) rfl q
theorem Go.land {x y : Int64} (z : Int64) (pc' : Nat) (hd : decode code pc = .ok (.land, 1)) (hp : pc + 1 = pc') (hz : x &&& y = z) (g : Go nw p l e R s m args below meth c code ml nm ret Z a0 EL own P vm h k n pc' L (.long z :: S)) : Go nw p l e R s m args below meth c code ml nm ret Z a0 EL own P vm h k n pc L (.long y :: .long x :: S) := by
  subst hp hz; exact g.step fun T hT hx hc _ q => XS.land hT hx rfl (hb hc hd) rfl q
theorem Go.lor {x y : Int64} (z : Int64) (pc' : Nat) (hd : decode code pc = .ok (.lor, 1)) (hp : pc + 1 = pc') (hz : x ||| y = z) (g : Go nw p l e R s m args below meth c code ml nm ret Z a0 EL own P vm h k n pc' L (.long z :: S)) : Go nw p l e R s m args below meth c code ml nm ret Z a0 EL own P vm h k n pc L (.long y :: .long x :: S) := by
  subst hp hz; exact g.step fun T hT hx hc _ q => XS.lor hT hx rfl (hb hc hd) rfl q
theorem Go.lxor {x y : Int64} (z : Int64) (pc' : Nat) (hd : decode code pc = .ok (.lxor, 1)) (hp : pc + 1 = pc') (hz : x ^^^ y = z) (g : Go nw p l e R s m args below meth c code ml nm ret Z a0 EL own P vm h k n pc' L (.long z :: S)) : Go nw p l e R s m args below meth c code ml nm ret Z a0 EL own P vm h k n pc L (.long y :: .long x :: S) := by
  subst hp hz; exact g.step fun T hT hx hc _ q => XS.lxor hT hx rfl (hb hc hd) rfl q
theorem Go.lshl {x : Int64} {y : Int32} (z : Int64) (pc' : Nat) (hd : decode code pc = .ok (.lshl, 1)) (hp : pc + 1 = pc') (hz : x <<< (y.toInt64 &&& 63) = z) (g : Go nw p l e R s m args below meth c code ml nm ret Z a0 EL own P vm h k n pc' L (.long z :: S)) : Go nw p l e R s m args below meth c code ml nm ret Z a0 EL own P vm h k n pc L (.int y :: .long x :: S) := by
  subst hp hz; exact g.step fun T hT hx hc _ q => XT.lshl hT hx rfl (hb hc hd) rfl q
theorem Go.lshr {x : Int64} {y : Int32} (z : Int64) (pc' : Nat) (hd : decode code pc = .ok (.lshr, 1)) (hp : pc + 1 = pc') (hz : x >>> (y.toInt64 &&& 63) = z) (g : Go nw p l e R s m args below meth c code ml nm ret Z a0 EL own P vm h k n pc' L (.long z :: S)) : Go nw p l e R s m args below meth c code ml nm ret Z a0 EL own P vm h k n pc L (.int y :: .long x :: S) := by
  subst hp hz; exact g.step fun T hT hx hc _ q => XT.lshr hT hx rfl (hb hc hd) rfl q
theorem Go.lushr {x : Int64} {y : Int32} (z : Int64) (pc' : Nat) (hd : decode code pc = .ok (.lushr, 1)) (hp : pc + 1 = pc') (hz : XT.ushrL x y = z) (g : Go nw p l e R s m args below meth c code ml nm ret Z a0 EL own P vm h k n pc' L (.long z :: S)) : Go nw p l e R s m args below meth c code ml nm ret Z a0 EL own P vm h k n pc L (.int y :: .long x :: S) := by
  subst hp hz; exact g.step fun T hT hx hc _ q => XT.lushr hT hx rfl (hb hc hd) rfl q
theorem Go.lcmp {x y : Int64} (z : Int32) (pc' : Nat) (hd : decode code pc = .ok (.lcmp, 1)) (hp : pc + 1 = pc') (hz : XT.cmpL x y = z) (g : Go nw p l e R s m args below meth c code ml nm ret Z a0 EL own P vm h k n pc' L (.int z :: S)) : Go nw p l e R s m args below meth c code ml nm ret Z a0 EL own P vm h k n pc L (.long y :: .long x :: S) := by
  subst hp hz; exact g.step fun T hT hx hc _ q => XS.lcmp hT hx rfl (hb hc hd) rfl q
theorem Go.ineg {x : Int32} (z : Int32) (pc' : Nat) (hd : decode code pc = .ok (.ineg, 1)) (hp : pc + 1 = pc') (hz : -x = z) (g : Go nw p l e R s m args below meth c code ml nm ret Z a0 EL own P vm h k n pc' L (.int z :: S)) : Go nw p l e R s m args below meth c code ml nm ret Z a0 EL own P vm h k n pc L (.int x :: S) := by
  subst hp hz; exact g.step fun T hT hx hc _ q => XS.ineg hT hx rfl (hb hc hd) rfl q
theorem Go.i2b {x : Int32} (z : Int32) (pc' : Nat) (hd : decode code pc = .ok (.i2b, 1)) (hp : pc + 1 = pc') (hz : x.toInt8.toInt32 = z) (g : Go nw p l e R s m args below meth c code ml nm ret Z a0 EL own P vm h k n pc' L (.int z :: S)) : Go nw p l e R s m args below meth c code ml nm ret Z a0 EL own P vm h k n pc L (.int x :: S) := by
  subst hp hz; exact g.step fun T hT hx hc _ q => XS.i2b hT hx rfl (hb hc hd) rfl q
theorem Go.i2c {x : Int32} (z : Int32) (pc' : Nat) (hd : decode code pc = .ok (.i2c, 1)) (hp : pc + 1 = pc') (hz : x.toUInt32.toUInt16.toUInt32.toInt32 = z) (g : Go nw p l e R s m args below meth c code ml nm ret Z a0 EL own P vm h k n pc' L (.int z :: S)) : Go nw p l e R s m args below meth c code ml nm ret Z a0 EL own P vm h k n pc L (.int x :: S) := by
  subst hp hz; exact g.step fun T hT hx hc _ q => XS.i2c hT hx rfl (hb hc hd) rfl q
theorem Go.i2s {x : Int32} (z : Int32) (pc' : Nat) (hd : decode code pc = .ok (.i2s, 1)) (hp : pc + 1 = pc') (hz : x.toInt16.toInt32 = z) (g : Go nw p l e R s m args below meth c code ml nm ret Z a0 EL own P vm h k n pc' L (.int z :: S)) : Go nw p l e R s m args below meth c code ml nm ret Z a0 EL own P vm h k n pc L (.int x :: S) := by
  subst hp hz; exact g.step fun T hT hx hc _ q => XS.i2s hT hx rfl (hb hc hd) rfl q
theorem Go.i2l {x : Int32} (z : Int64) (pc' : Nat) (hd : decode code pc = .ok (.i2l, 1)) (hp : pc + 1 = pc') (hz : x.toInt64 = z) (g : Go nw p l e R s m args below meth c code ml nm ret Z a0 EL own P vm h k n pc' L (.long z :: S)) : Go nw p l e R s m args below meth c code ml nm ret Z a0 EL own P vm h k n pc L (.int x :: S) := by
  subst hp hz; exact g.step fun T hT hx hc _ q => XS.i2l hT hx rfl (hb hc hd) rfl q
theorem Go.l2i {x : Int64} (z : Int32) (pc' : Nat) (hd : decode code pc = .ok (.l2i, 1)) (hp : pc + 1 = pc') (hz : x.toInt32 = z) (g : Go nw p l e R s m args below meth c code ml nm ret Z a0 EL own P vm h k n pc' L (.int z :: S)) : Go nw p l e R s m args below meth c code ml nm ret Z a0 EL own P vm h k n pc L (.long x :: S) := by
  subst hp hz; exact g.step fun T hT hx hc _ q => XS.l2i hT hx rfl (hb hc hd) rfl q
theorem Go.lneg {x : Int64} (z : Int64) (pc' : Nat) (hd : decode code pc = .ok (.lneg, 1)) (hp : pc + 1 = pc') (hz : -x = z) (g : Go nw p l e R s m args below meth c code ml nm ret Z a0 EL own P vm h k n pc' L (.long z :: S)) : Go nw p l e R s m args below meth c code ml nm ret Z a0 EL own P vm h k n pc L (.long x :: S) := by
  subst hp hz; exact g.step fun T hT hx hc _ q => XS.lneg hT hx rfl (hb hc hd) rfl q
theorem Go.dup {x : Value} (pc' : Nat) (hd : decode code pc = .ok (.dup, 1)) (hp : pc + 1 = pc') (hx1 : x.category = 1) (g : Go nw p l e R s m args below meth c code ml nm ret Z a0 EL own P vm h k n pc' L (x :: x :: S)) : Go nw p l e R s m args below meth c code ml nm ret Z a0 EL own P vm h k n pc L (x :: S) := by
  subst hp; exact g.step fun T hT hx hc _ q => XS.dup (g := mkF m pc L (x :: S)) hT hx rfl (hb hc hd) rfl hx1 q
theorem Go.pop {x : Value} (pc' : Nat) (hd : decode code pc = .ok (.pop, 1)) (hp : pc + 1 = pc') (hx1 : x.category = 1) (g : Go nw p l e R s m args below meth c code ml nm ret Z a0 EL own P vm h k n pc' L S) : Go nw p l e R s m args below meth c code ml nm ret Z a0 EL own P vm h k n pc L (x :: S) := by
  subst hp; exact g.step fun T hT hx hc _ q => XS.pop (g := mkF m pc L (x :: S)) hT hx rfl (hb hc hd) rfl hx1 q
theorem Go.dup_x1 {x y : Value} (pc' : Nat) (hd : decode code pc = .ok (.dup_x1, 1)) (hp : pc + 1 = pc') (hx1 : x.category = 1) (hx2 : y.category = 1) (g : Go nw p l e R s m args below meth c code ml nm ret Z a0 EL own P vm h k n pc' L (x :: y :: x :: S)) : Go nw p l e R s m args below meth c code ml nm ret Z a0 EL own P vm h k n pc L (x :: y :: S) := by
  subst hp; exact g.step fun T hT hx hc _ q => XS.dupX1 (g := mkF m pc L (x :: y :: S)) hT hx rfl (hb hc hd) rfl hx1 hx2 q
theorem Go.dup2 {x y : Value} (pc' : Nat) (hd : decode code pc = .ok (.dup2, 1)) (hp : pc + 1 = pc') (hx1 : x.category = 1) (hx2 : y.category = 1) (g : Go nw p l e R s m args below meth c code ml nm ret Z a0 EL own P vm h k n pc' L (x :: y :: x :: y :: S)) : Go nw p l e R s m args below meth c code ml nm ret Z a0 EL own P vm h k n pc L (x :: y :: S) := by
  subst hp; exact g.step fun T hT hx hc _ q => XT.dup2 (g := mkF m pc L (x :: y :: S)) hT hx rfl (hb hc hd) rfl hx1 hx2 q
theorem Go.goto {o : Int} (pc' : Nat) (hd : decode code pc = .ok (.goto o, 3)) (ho : 0 ≤ (pc : Int) + o) (hp : ((pc : Int) + o).toNat = pc') (g : Go nw p l e R s m args below meth c code ml nm ret Z a0 EL own P vm h k n pc' L S) : Go nw p l e R s m args below meth c code ml nm ret Z a0 EL own P vm h k n pc L S :=
  g.step fun T hT hx hc _ q => XS.goto hT hx rfl rfl (hb hc hd) ho hp q
theorem Go.ifB {cd : ClassFile.Cond} {x : Int32} {o : Int} (pc' pc'' : Nat) (hd : decode code pc = .ok (.ifCond cd o, 3)) (ho : 0 ≤ (pc : Int) + o) (hp : ((pc : Int) + o).toNat = pc') (hq : pc + 3 = pc'')
    (gt : ifCond.holds cd x = true → Go nw p l e R s m args below meth c code ml nm ret Z a0 EL own P vm h k n pc' L S) (gf : ifCond.holds cd x = false → Go nw p l e R s m args below meth c code ml nm ret Z a0 EL own P vm h k n pc'' L S) : Go nw p l e R s m args below meth c code ml nm ret Z a0 EL own P vm h k n pc L (.int x :: S) := by
  subst hq
  cases hh : ifCond.holds cd x
  · exact (gf hh).step fun T hT hx hc _ q => XS.ifNo hT hx rfl (hb hc hd) rfl hh q
  · exact (gt hh).step fun T hT hx hc _ q => XS.ifYes hT hx rfl rfl (hb hc hd) rfl hh ho hp q
theorem Go.icmpB {cd : ClassFile.Cond} {x y : Int32} {o : Int} (pc' pc'' : Nat) (hd : decode code pc = .ok (.if_icmp cd o, 3)) (ho : 0 ≤ (pc : Int) + o) (hp : ((pc : Int) + o).toNat = pc') (hq : pc + 3 = pc'')
    (gt : if_icmp.holds cd x y = true → Go nw p l e R s m args below meth c code ml nm ret Z a0 EL own P vm h k n pc' L S) (gf : if_icmp.holds cd x y = false → Go nw p l e R s m args below meth c code ml nm ret Z a0 EL own P vm h k n pc'' L S) : Go nw p l e R s m args below meth c code ml nm ret Z a0 EL own P vm h k n pc L (.int y :: .int x :: S) := by
  subst hq
  cases hh : if_icmp.holds cd x y
  · exact (gf hh).step fun T hT hx hc _ q => XS.icmpNo hT hx rfl (hb hc hd) rfl hh q
  · exact (gt hh).step fun T hT hx hc _ q => XS.icmpYes hT hx rfl rfl (hb hc hd) rfl hh ho hp q
theorem Go.if_icmpeq {x y : Int32} {o : Int} (pc' pc'' : Nat) (hd : decode code pc = .ok (.if_icmp .eq o, 3)) (ho : 0 ≤ (pc : Int) + o) (hp : ((pc : Int) + o).toNat = pc') (hq : pc + 3 = pc'')
    (gt : x = y → Go nw p l e R s m args below meth c code ml nm ret Z a0 EL own P vm h k n pc' L S) (gf : ¬ x = y → Go nw p l e R s m args below meth c code ml nm ret Z a0 EL own P vm h k n pc'' L S) : Go nw p l e R s m args below meth c code ml nm ret Z a0 EL own P vm h k n pc L (.int y :: .int x :: S) := by
  by_cases q : x = y
  · exact Go.icmpB pc' pc'' hd ho hp hq (fun r => by first | exact gt q | exact absurd (r.symm.trans (teq q).1) (by simp)) (fun r => by first | exact gf q | exact absurd (r.symm.trans (teq q).1) (by simp))
  · exact Go.icmpB pc' pc'' hd ho hp hq (fun r => by first | exact gt q | exact absurd (r.symm.trans (feq q).1) (by simp)) (fun r => by first | exact gf q | exact absurd (r.symm.trans (feq q).1) (by simp))
theorem Go.ifeq {x : Int32} {o : Int} (pc' pc'' : Nat) (hd : decode code pc = .ok (.ifCond .eq o, 3)) (ho : 0 ≤ (pc : Int) + o) (hp : ((pc : Int) + o).toNat = pc') (hq : pc + 3 = pc'')
    (gt : x = 0 → Go nw p l e R s m args below meth c code ml nm ret Z a0 EL own P vm h k n pc' L S) (gf : ¬ x = 0 → Go nw p l e R s m args below meth c code ml nm ret Z a0 EL own P vm h k n pc'' L S) : Go nw p l e R s m args below meth c code ml nm ret Z a0 EL own P vm h k n pc L (.int x :: S) := by
  by_cases q : x = 0
  · exact Go.ifB pc' pc'' hd ho hp hq (fun r => by first | exact gt q | exact absurd (r.symm.trans ((if0 _ _).trans (teq q).1)) (by simp)) (fun r => by first | exact gf q | exact absurd (r.symm.trans ((if0 _ _).trans (teq q).1)) (by simp))
  · exact Go.ifB pc' pc'' hd ho hp hq (fun r => by first | exact gt q | exact absurd (r.symm.trans ((if0 _ _).trans (feq q).1)) (by simp)) (fun r => by first | exact gf q | exact absurd (r.symm.trans ((if0 _ _).trans (feq q).1)) (by simp))
theorem Go.if_icmpne {x y : Int32} {o : Int} (pc' pc'' : Nat) (hd : decode code pc = .ok (.if_icmp .ne o, 3)) (ho : 0 ≤ (pc : Int) + o) (hp : ((pc : Int) + o).toNat = pc') (hq : pc + 3 = pc'')
    (gt : ¬ x = y → Go nw p l e R s m args below meth c code ml nm ret Z a0 EL own P vm h k n pc' L S) (gf : x = y → Go nw p l e R s m args below meth c code ml nm ret Z a0 EL own P vm h k n pc'' L S) : Go nw p l e R s m args below meth c code ml nm ret Z a0 EL own P vm h k n pc L (.int y :: .int x :: S) := by
  by_cases q : x = y
  · exact Go.icmpB pc' pc'' hd ho hp hq (fun r => by first | exact gt q | exact absurd (r.symm.trans (teq q).2) (by simp)) (fun r => by first | exact gf q | exact absurd (r.symm.trans (teq q).2) (by simp))
  · exact Go.icmpB pc' pc'' hd ho hp hq (fun r => by first | exact gt q | exact absurd (r.symm.trans (feq q).2) (by simp)) (fun r => by first | exact gf q | exact absurd (r.symm.trans (feq q).2) (by simp))
theorem Go.ifne {x : Int32} {o : Int} (pc' pc'' : Nat) (hd : decode code pc = .ok (.ifCond .ne o, 3)) (ho : 0 ≤ (pc : Int) + o) (hp : ((pc : Int) + o).toNat = pc') (hq : pc + 3 = pc'')
    (gt : ¬ x = 0 → Go nw p l e R s m args below meth c code ml nm ret Z a0 EL own P vm h k n pc' L S) (gf : x = 0 → Go nw p l e R s m args below meth c code ml nm ret Z a0 EL own P vm h k n pc'' L S) : Go nw p l e R s m args below meth c code ml nm ret Z a0 EL own P vm h k n pc L (.int x :: S) := by
  by_cases q : x = 0
  · exact Go.ifB pc' pc'' hd ho hp hq (fun r => by first | exact gt q | exact absurd (r.symm.trans ((if0 _ _).trans (teq q).2)) (by simp)) (fun r => by first | exact gf q | exact absurd (r.symm.trans ((if0 _ _).trans (teq q).2)) (by simp))
  · exact Go.ifB pc' pc'' hd ho hp hq (fun r => by first | exact gt q | exact absurd (r.symm.trans ((if0 _ _).trans (feq q).2)) (by simp)) (fun r => by first | exact gf q | exact absurd (r.symm.trans ((if0 _ _).trans (feq q).2)) (by simp))
theorem Go.if_icmplt {x y : Int32} {o : Int} (pc' pc'' : Nat) (hd : decode code pc = .ok (.if_icmp .lt o, 3)) (ho : 0 ≤ (pc : Int) + o) (hp : ((pc : Int) + o).toNat = pc') (hq : pc + 3 = pc'')
    (gt : x < y → Go nw p l e R s m args below meth c code ml nm ret Z a0 EL own P vm h k n pc' L S) (gf : ¬ x < y → Go nw p l e R s m args below meth c code ml nm ret Z a0 EL own P vm h k n pc'' L S) : Go nw p l e R s m args below meth c code ml nm ret Z a0 EL own P vm h k n pc L (.int y :: .int x :: S) := by
  by_cases q : x < y
  · exact Go.icmpB pc' pc'' hd ho hp hq (fun r => by first | exact gt q | exact absurd (r.symm.trans (tlt q).1) (by simp)) (fun r => by first | exact gf q | exact absurd (r.symm.trans (tlt q).1) (by simp))
  · exact Go.icmpB pc' pc'' hd ho hp hq (fun r => by first | exact gt q | exact absurd (r.symm.trans (flt q).1) (by simp)) (fun r => by first | exact gf q | exact absurd (r.symm.trans (flt q).1) (by simp))
theorem Go.iflt {x : Int32} {o : Int} (pc' pc'' : Nat) (hd : decode code pc = .ok (.ifCond .lt o, 3)) (ho : 0 ≤ (pc : Int) + o) (hp : ((pc : Int) + o).toNat = pc') (hq : pc + 3 = pc'')
    (gt : x < 0 → Go nw p l e R s m args below meth c code ml nm ret Z a0 EL own P vm h k n pc' L S) (gf : ¬ x < 0 → Go nw p l e R s m args below meth c code ml nm ret Z a0 EL own P vm h k n pc'' L S) : Go nw p l e R s m args below meth c code ml nm ret Z a0 EL own P vm h k n pc L (.int x :: S) := by
  by_cases q : x < 0
  · exact Go.ifB pc' pc'' hd ho hp hq (fun r => by first | exact gt q | exact absurd (r.symm.trans ((if0 _ _).trans (tlt q).1)) (by simp)) (fun r => by first | exact gf q | exact absurd (r.symm.trans ((if0 _ _).trans (tlt q).1)) (by simp))
  · exact Go.ifB pc' pc'' hd ho hp hq (fun r => by first | exact gt q | exact absurd (r.symm.trans ((if0 _ _).trans (flt q).1)) (by simp)) (fun r => by first | exact gf q | exact absurd (r.symm.trans ((if0 _ _).trans (flt q).1)) (by simp))
theorem Go.if_icmpge {x y : Int32} {o : Int} (pc' pc'' : Nat) (hd : decode code pc = .ok (.if_icmp .ge o, 3)) (ho : 0 ≤ (pc : Int) + o) (hp : ((pc : Int) + o).toNat = pc') (hq : pc + 3 = pc'')
    (gt : ¬ x < y → Go nw p l e R s m args below meth c code ml nm ret Z a0 EL own P vm h k n pc' L S) (gf : x < y → Go nw p l e R s m args below meth c code ml nm ret Z a0 EL own P vm h k n pc'' L S) : Go nw p l e R s m args below meth c code ml nm ret Z a0 EL own P vm h k n pc L (.int y :: .int x :: S) := by
  by_cases q : x < y
  · exact Go.icmpB pc' pc'' hd ho hp hq (fun r => by first | exact gt q | exact absurd (r.symm.trans (tlt q).2.1) (by simp)) (fun r => by first | exact gf q | exact absurd (r.symm.trans (tlt q).2.1) (by simp))
  · exact Go.icmpB pc' pc'' hd ho hp hq (fun r => by first | exact gt q | exact absurd (r.symm.trans (flt q).2.1) (by simp)) (fun r => by first | exact gf q | exact absurd (r.symm.trans (flt q).2.1) (by simp))
theorem Go.ifge {x : Int32} {o : Int} (pc' pc'' : Nat) (hd : decode code pc = .ok (.ifCond .ge o, 3)) (ho : 0 ≤ (pc : Int) + o) (hp : ((pc : Int) + o).toNat = pc') (hq : pc + 3 = pc'')
    (gt : ¬ x < 0 → Go nw p l e R s m args below meth c code ml nm ret Z a0 EL own P vm h k n pc' L S) (gf : x < 0 → Go nw p l e R s m args below meth c code ml nm ret Z a0 EL own P vm h k n pc'' L S) : Go nw p l e R s m args below meth c code ml nm ret Z a0 EL own P vm h k n pc L (.int x :: S) := by
  by_cases q : x < 0
  · exact Go.ifB pc' pc'' hd ho hp hq (fun r => by first | exact gt q | exact absurd (r.symm.trans ((if0 _ _).trans (tlt q).2.1)) (by simp)) (fun r => by first | exact gf q | exact absurd (r.symm.trans ((if0 _ _).trans (tlt q).2.1)) (by simp))
  · exact Go.ifB pc' pc'' hd ho hp hq (fun r => by first | exact gt q | exact absurd (r.symm.trans ((if0 _ _).trans (flt q).2.1)) (by simp)) (fun r => by first | exact gf q | exact absurd (r.symm.trans ((if0 _ _).trans (flt q).2.1)) (by simp))
theorem Go.if_icmpgt {x y : Int32} {o : Int} (pc' pc'' : Nat) (hd : decode code pc = .ok (.if_icmp .gt o, 3)) (ho : 0 ≤ (pc : Int) + o) (hp : ((pc : Int) + o).toNat = pc') (hq : pc + 3 = pc'')
    (gt : y < x → Go nw p l e R s m args below meth c code ml nm ret Z a0 EL own P vm h k n pc' L S) (gf : ¬ y < x → Go nw p l e R s m args below meth c code ml nm ret Z a0 EL own P vm h k n pc'' L S) : Go nw p l e R s m args below meth c code ml nm ret Z a0 EL own P vm h k n pc L (.int y :: .int x :: S) := by
  by_cases q : y < x
  · exact Go.icmpB pc' pc'' hd ho hp hq (fun r => by first | exact gt q | exact absurd (r.symm.trans (tlt q).2.2.1) (by simp)) (fun r => by first | exact gf q | exact absurd (r.symm.trans (tlt q).2.2.1) (by simp))
  · exact Go.icmpB pc' pc'' hd ho hp hq (fun r => by first | exact gt q | exact absurd (r.symm.trans (flt q).2.2.1) (by simp)) (fun r => by first | exact gf q | exact absurd (r.symm.trans (flt q).2.2.1) (by simp))
theorem Go.ifgt {x : Int32} {o : Int} (pc' pc'' : Nat) (hd : decode code pc = .ok (.ifCond .gt o, 3)) (ho : 0 ≤ (pc : Int) + o) (hp : ((pc : Int) + o).toNat = pc') (hq : pc + 3 = pc'')
    (gt : 0 < x → Go nw p l e R s m args below meth c code ml nm ret Z a0 EL own P vm h k n pc' L S) (gf : ¬ 0 < x → Go nw p l e R s m args below meth c code ml nm ret Z a0 EL own P vm h k n pc'' L S) : Go nw p l e R s m args below meth c code ml nm ret Z a0 EL own P vm h k n pc L (.int x :: S) := by
  by_cases q : 0 < x
  · exact Go.ifB pc' pc'' hd ho hp hq (fun r => by first | exact gt q | exact absurd (r.symm.trans ((if0 _ _).trans (tlt q).2.2.1)) (by simp)) (fun r => by first | exact gf q | exact absurd (r.symm.trans ((if0 _ _).trans (tlt q).2.2.1)) (by simp))
  · exact Go.ifB pc' pc'' hd ho hp hq (fun r => by first | exact gt q | exact absurd (r.symm.trans ((if0 _ _).trans (flt q).2.2.1)) (by simp)) (fun r => by first | exact gf q | exact absurd (r.symm.trans ((if0 _ _).trans (flt q).2.2.1)) (by simp))
theorem Go.if_icmple {x y : Int32} {o : Int} (pc' pc'' : Nat) (hd : decode code pc = .ok (.if_icmp .le o, 3)) (ho : 0 ≤ (pc : Int) + o) (hp : ((pc : Int) + o).toNat = pc') (hq : pc + 3 = pc'')
    (gt : ¬ y < x → Go nw p l e R s m args below meth c code ml nm ret Z a0 EL own P vm h k n pc' L S) (gf : y < x → Go nw p l e R s m args below meth c code ml nm ret Z a0 EL own P vm h k n pc'' L S) : Go nw p l e R s m args below meth c code ml nm ret Z a0 EL own P vm h k n pc L (.int y :: .int x :: S) := by
  by_cases q : y < x
  · exact Go.icmpB pc' pc'' hd ho hp hq (fun r => by first | exact gt q | exact absurd (r.symm.trans (tlt q).2.2.2) (by simp)) (fun r => by first | exact gf q | exact absurd (r.symm.trans (tlt q).2.2.2) (by simp))
  · exact Go.icmpB pc' pc'' hd ho hp hq (fun r => by first | exact gt q | exact absurd (r.symm.trans (flt q).2.2.2) (by simp)) (fun r => by first | exact gf q | exact absurd (r.symm.trans (flt q).2.2.2) (by simp))
theorem Go.ifle {x : Int32} {o : Int} (pc' pc'' : Nat) (hd : decode code pc = .ok (.ifCond .le o, 3)) (ho : 0 ≤ (pc : Int) + o) (hp : ((pc : Int) + o).toNat = pc') (hq : pc + 3 = pc'')
    (gt : ¬ 0 < x → Go nw p l e R s m args below meth c code ml nm ret Z a0 EL own P vm h k n pc' L S) (gf : 0 < x → Go nw p l e R s m args below meth c code ml nm ret Z a0 EL own P vm h k n pc'' L S) : Go nw p l e R s m args below meth c code ml nm ret Z a0 EL own P vm h k n pc L (.int x :: S) := by
  by_cases q : 0 < x
  · exact Go.ifB pc' pc'' hd ho hp hq (fun r => by first | exact gt q | exact absurd (r.symm.trans ((if0 _ _).trans (tlt q).2.2.2)) (by simp)) (fun r => by first | exact gf q | exact absurd (r.symm.trans ((if0 _ _).trans (tlt q).2.2.2)) (by simp))
  · exact Go.ifB pc' pc'' hd ho hp hq (fun r => by first | exact gt q | exact absurd (r.symm.trans ((if0 _ _).trans (flt q).2.2.2)) (by simp)) (fun r => by first | exact gf q | exact absurd (r.symm.trans ((if0 _ _).trans (flt q).2.2.2)) (by simp))
theorem Go.ifnull_y {o : Int} (pc' : Nat) (hd : decode code pc = .ok (.ifnull o, 3)) (ho : 0 ≤ (pc : Int) + o) (hp : ((pc : Int) + o).toNat = pc') (g : Go nw p l e R s m args below meth c code ml nm ret Z a0 EL own P vm h k n pc' L S) : Go nw p l e R s m args below meth c code ml nm ret Z a0 EL own P vm h k n pc L (.null :: S) :=
  g.step fun T hT hx hc _ q => XS.ifnullYes hT hx rfl rfl (hb hc hd) rfl ho hp q
theorem Go.ifnull_n {o : Int} {b : Addr} (pc' : Nat) (hd : decode code pc = .ok (.ifnull o, 3)) (hp : pc + 3 = pc') (g : Go nw p l e R s m args below meth c code ml nm ret Z a0 EL own P vm h k n pc' L S) : Go nw p l e R s m args below meth c code ml nm ret Z a0 EL own P vm h k n pc L (.ref b :: S) := by
  subst hp; exact g.step fun T hT hx hc _ q => XS.ifnullNo hT hx rfl (hb hc hd) rfl q
theorem Go.ifnonnull_y {o : Int} {b : Addr} (pc' : Nat) (hd : decode code pc = .ok (.ifnonnull o, 3)) (ho : 0 ≤ (pc : Int) + o) (hp : ((pc : Int) + o).toNat = pc') (g : Go nw p l e R s m args below meth c code ml nm ret Z a0 EL own P vm h k n pc' L S) : Go nw p l e R s m args below meth c code ml nm ret Z a0 EL own P vm h k n pc L (.ref b :: S) :=
  g.step fun T hT hx hc _ q => XS.ifnonnullYes hT hx rfl rfl (hb hc hd) rfl ho hp q
theorem Go.ifnonnull_n {o : Int} (pc' : Nat) (hd : decode code pc = .ok (.ifnonnull o, 3)) (hp : pc + 3 = pc') (g : Go nw p l e R s m args below meth c code ml nm ret Z a0 EL own P vm h k n pc' L S) : Go nw p l e R s m args below meth c code ml nm ret Z a0 EL own P vm h k n pc L (.null :: S) := by
  subst hp; exact g.step fun T hT hx hc _ q => XS.ifnonnullNo hT hx rfl (hb hc hd) rfl q
theorem Go.acmp_y {cd : ClassFile.ACond} {x y : Value} {o : Int} (pc' : Nat) (hd : decode code pc = .ok (.if_acmp cd o, 3)) (ho : 0 ≤ (pc : Int) + o) (hp : ((pc : Int) + o).toNat = pc') (h1 : x.isRef = true) (h2 : y.isRef = true) (hq : XT.acmp cd x y = true) (g : Go nw p l e R s m args below meth c code ml nm ret Z a0 EL own P vm h k n pc' L S) : Go nw p l e R s m args below meth c code ml nm ret Z a0 EL own P vm h k n pc L (y :: x :: S) :=
  g.step fun T hT hx hc _ q => XT.acmpYes hT hx rfl rfl (hb hc hd) rfl h1 h2 hq ho hp q
theorem Go.acmp_n {cd : ClassFile.ACond} {x y : Value} {o : Int} (pc' : Nat) (hd : decode code pc = .ok (.if_acmp cd o, 3)) (hp : pc + 3 = pc') (h1 : x.isRef = true) (h2 : y.isRef = true) (hq : XT.acmp cd x y = false) (g : Go nw p l e R s m args below meth c code ml nm ret Z a0 EL own P vm h k n pc' L S) : Go nw p l e R s m args below meth c code ml nm ret Z a0 EL own P vm h k n pc L (y :: x :: S) := by
  subst hp; exact g.step fun T hT hx hc _ q => XT.acmpNo hT hx rfl (hb hc hd) rfl h1 h2 hq q
theorem Go.getfield {O n' d : String} {idx : Nat} {a : Addr} {v : Value} (pc' : Nat) (hd : decode code pc = .ok (.getfield idx, 3)) (hp : pc + 3 = pc') (w : (Cond.fieldLink own idx O n' d).before a0 Z = true) (F : Fld Z h a O n' d v) (g : Go nw p l e R s m args below meth c code ml nm ret Z a0 EL own P vm h k n pc' L (v :: S)) : Go nw p l e R s m args below meth c code ml nm ret Z a0 EL own P vm h k n pc L (.ref a :: S) := by
  subst hp
  exact g.note fun T locs cells slots X hh hx hc hm hon => getF X hx hon.2.1 (host := "") hon.2.2.1 (Or.inl w) Via.refl hh F (g := mkF m pc L (.ref a :: S)) rfl rfl (hb hc hd)
theorem Go.getfieldV {R0 O n' d : String} {idx : Nat} {a : Addr} {v : Value} (pc' : Nat) (hd : decode code pc = .ok (.getfield idx, 3)) (hp : pc + 3 = pc') (w : (Cond.fieldLink own idx R0 n' d).before a0 Z = true) (via : (Cond.sameField R0 O n' d).before a0 Z = true) (F : Fld Z h a O n' d v) (g : Go nw p l e R s m args below meth c code ml nm ret Z a0 EL own P vm h k n pc' L (v :: S)) : Go nw p l e R s m args below meth c code ml nm ret Z a0 EL own P vm h k n pc L (.ref a :: S) := by
  subst hp
  exact g.note fun T locs cells slots X hh hx hc hm hon => getF X hx hon.2.1 (host := "") hon.2.2.1 (Or.inl w) (Via.of via) hh F (g := mkF m pc L (.ref a :: S)) rfl rfl (hb hc hd)
theorem Go.getstatic {O n' d : String} {idx : Nat} {v : Value} (pc' : Nat) (hd : decode code pc = .ok (.getstatic idx, 3)) (hp : pc + 3 = pc') (w : (Cond.fieldLink own idx O n' d).before a0 Z = true) (F : Sta Z h O n' d v) (g : Go nw p l e R s m args below meth c code ml nm ret Z a0 EL own P vm h k n pc' L (v :: S)) : Go nw p l e R s m args below meth c code ml nm ret Z a0 EL own P vm h k n pc L S := by
  subst hp
  exact g.note fun T locs cells slots X hh hx hc hm hon => getS X hx hon.2.1 (host := "") hon.2.2.1 w Via.refl hh F (g := mkF m pc L S) rfl (hb hc hd)
theorem Go.putfield {O n' d C : String} {idx kk : Nat} {ty : FieldType} {a : Addr} {v v0 : Value} (pc' : Nat) (hd : decode code pc = .ok (.putfield idx, 3)) (hp : pc + 3 = pc') (w : (Cond.fieldLink own idx O n' d).before a0 Z = true) (F : Fld Z h a O n' d v0) (E : Exa Z h a C)
    (Lf : (Cond.lays C O n' d).before a0 Z = true ∨ ((Cond.laysFinal C O n' d).before a0 Z = true ∧ own = O ∧ nm = "<init>")) (wi : (Cond.instantiable C kk).before a0 Z = true) (hty : parseFieldDescriptor d = some ty) (hn' : narrow ty v = v) (hf : fits ty v = true)
    (Sa : Safe Z EL vm h a) (hz : Z.heap.size ≤ a) (g : ∀ h', Wr h h' a (RoadKit.slotOf Z O n' d) v → Safe Z EL vm h' a → CHr Z EL vm h vm h' → Go nw p l e R s m args below meth c code ml nm ret Z a0 EL own P vm h' k n pc' L S) : Go nw p l e R s m args below meth c code ml nm ret Z a0 EL own P vm h k n pc L (v :: .ref a :: S) := by
  subst hp
  refine Go.wrote Sa hz (fun T locs cells slots X hh hx hc hm hnm hon => ?_) g
  exact putF X hx hon.2.1 (host := "") hon.2.2.1 (Or.inl w) Via.refl hh F E (Lf.imp id fun q => ⟨q.1, q.2.1, hnm.trans q.2.2⟩) wi hty hn' hf (g := mkF m pc L (v :: .ref a :: S)) rfl rfl (hb hc hd)
theorem Go.putfieldV {R0 O n' d C : String} {idx kk : Nat} {ty : FieldType} {a : Addr} {v v0 : Value} (pc' : Nat) (hd : decode code pc = .ok (.putfield idx, 3)) (hp : pc + 3 = pc') (w : (Cond.fieldLink own idx R0 n' d).before a0 Z = true) (via : (Cond.sameField R0 O n' d).before a0 Z = true) (F : Fld Z h a O n' d v0) (E : Exa Z h a C)
    (Lf : (Cond.lays C O n' d).before a0 Z = true ∨ ((Cond.laysFinal C O n' d).before a0 Z = true ∧ own = O ∧ nm = "<init>")) (wi : (Cond.instantiable C kk).before a0 Z = true) (hty : parseFieldDescriptor d = some ty) (hn' : narrow ty v = v) (hf : fits ty v = true)
    (Sa : Safe Z EL vm h a) (hz : Z.heap.size ≤ a) (g : ∀ h', Wr h h' a (RoadKit.slotOf Z O n' d) v → Safe Z EL vm h' a → CHr Z EL vm h vm h' → Go nw p l e R s m args below meth c code ml nm ret Z a0 EL own P vm h' k n pc' L S) : Go nw p l e R s m args below meth c code ml nm ret Z a0 EL own P vm h k n pc L (v :: .ref a :: S) := by
  subst hp
  refine Go.wrote Sa hz (fun T locs cells slots X hh hx hc hm hnm hon => ?_) g
  exact putF X hx hon.2.1 (host := "") hon.2.2.1 (Or.inl w) (Via.of via) hh F E (Lf.imp id fun q => ⟨q.1, q.2.1, hnm.trans q.2.2⟩) wi hty hn' hf (g := mkF m pc L (v :: .ref a :: S)) rfl rfl (hb hc hd)
theorem Go.new {C : String} {idx nf : Nat} (pc' : Nat) (hd : decode code pc = .ok (.new idx, 3)) (hp : pc + 3 = pc') (w : (Cond.classLink own idx C).before a0 Z = true) (wi : (Cond.instantiable C nf).before a0 Z = true) (wz : (Cond.initialized C).before a0 Z = true) (hk0 : k + 1 ≤ R.cells) (hn0 : n + nf ≤ R.slots)
    (g : ∀ a h', a = h.size → Ext h h' → (Exa Z h' a C ∧ ∀ {O n' d : String} {ty : FieldType}, Laid Z a0 C O n' d → parseFieldDescriptor d = some ty → Fld Z h' a O n' d (defaultValue ty)) → Safe Z EL vm h' a → Z.heap.size ≤ a → CHr Z EL vm h vm h' → Go nw p l e R s m args below meth c code ml nm ret Z a0 EL own P vm h' (k + 1) (n + nf) pc' L (.ref a :: S)) : Go nw p l e R s m args below meth c code ml nm ret Z a0 EL own P vm h k n pc L S := by
  subst hp
  refine Go.made (dk := 1) (dn := nf) (S' := fun a => .ref a :: S) (F := fun h' a => Exa Z h' a C ∧ ∀ {O n' d : String} {ty : FieldType}, Laid Z a0 C O n' d → parseFieldDescriptor d = some ty → Fld Z h' a O n' d (defaultValue ty)) hk0 hn0 (fun T locs cells slots X hh hx hc hm hon q1 q2 => ?_) g
  obtain ⟨T', h', X', e', E, A, D, -, st⟩ := newO X hx hon.2.1 hon.2.2.1 w wi wz hh (g := mkF m pc L S) rfl (hb hc hd) q1 q2
  exact ⟨T', h', X', e', E, ⟨A, D⟩, st⟩
theorem Go.newarray {aty : ArrayType} {z : Int32} (cap : Nat) (pc' : Nat) (hd : decode code pc = .ok (.newarray aty, 2)) (hp : pc + 2 = pc') (w : (Cond.arrayClass (newarray.typeOf aty)).before a0 Z = true) (hz : ¬ z < 0) (hcap : z.toNatClampNeg ≤ cap) (hb8 : cap * 8 ≤ 536870912) (hk0 : k + 1 ≤ R.cells) (hn0 : n + cap ≤ R.slots)
    (g : ∀ a h', a = h.size → Ext h h' → (∃ cA, Arv Z h' a cA (newarray.typeOf aty) z [] (defaultValue (newarray.typeOf aty))) → Safe Z EL vm h' a → Z.heap.size ≤ a → CHr Z EL vm h vm h' → Go nw p l e R s m args below meth c code ml nm ret Z a0 EL own P vm h' (k + 1) (n + cap) pc' L (.ref a :: S)) : Go nw p l e R s m args below meth c code ml nm ret Z a0 EL own P vm h k n pc L (.int z :: S) := by
  subst hp
  refine Go.made (dk := 1) (dn := cap) (S' := fun a => .ref a :: S) (F := fun h' a => ∃ cA, Arv Z h' a cA (newarray.typeOf aty) z [] (defaultValue (newarray.typeOf aty))) hk0 hn0 (fun T locs cells slots X hh hx hc hm hon q1 q2 => ?_) g
  obtain ⟨T', h', cA, X', e', E, A, st⟩ := newP X hx hon.2.1 w hh (g := mkF m pc L (.int z :: S)) rfl (hb hc hd) rfl hz hcap hb8 q1 q2
  exact ⟨T', h', X', e', E, ⟨cA, Arv.new A hz⟩, st⟩
theorem Go.arraylength {a : Addr} {kA : ClassId} {ty : FieldType} {z : Int32} {vs : List Value} {dv : Value} (pc' : Nat) (hd : decode code pc = .ok (.arraylength, 1)) (hp : pc + 1 = pc') (A : Arv Z h a kA ty z vs dv) (g : Go nw p l e R s m args below meth c code ml nm ret Z a0 EL own P vm h k n pc' L (.int z :: S)) : Go nw p l e R s m args below meth c code ml nm ret Z a0 EL own P vm h k n pc L (.ref a :: S) := by
  subst hp
  refine g.note fun T locs cells slots X hh hx hc hm hon => ⟨T, X, hh, fun target q => ?_⟩
  obtain ⟨cl, A1, A2, A3, A4, A5, A6⟩ := A
  refine X.arraylength hx (cell := cl) (by rw [hh]; exact A1.1) (State.isArrayOf_alike hon.2.1.alike A1.2.1) (g := mkF m pc L (.ref a :: S)) rfl (rest := S) rfl (hb hc hd) _ ?_
  rw [len_of A3 A4]; exact q
theorem Go.caload {a : Addr} {kA : ClassId} {z j : Int32} {vs : List Value} {dv : Value} (v : Value) (pc' : Nat) (hd : decode code pc = .ok (.caload, 1)) (hp : pc + 1 = pc') (A : Arv Z h a kA .char z vs dv) (hj : ¬ j < 0 ∧ j < z) (hv : vs.getD j.toNatClampNeg dv = v) (g : Go nw p l e R s m args below meth c code ml nm ret Z a0 EL own P vm h k n pc' L (v :: S)) : Go nw p l e R s m args below meth c code ml nm ret Z a0 EL own P vm h k n pc L (.int j :: .ref a :: S) := by
  subst hp
  refine g.note fun T locs cells slots X hh hx hc hm hon => ⟨T, X, hh, fun target q => ?_⟩
  obtain ⟨cl, A1, A2, A3, A4, A5, A6⟩ := A
  have hin := inb_of A3 hj
  exact X.caload hx (by rw [hh]; exact A1.1) (State.isArrayOf_alike hon.2.1.alike A1.2.1) A1.2.2 hin (A5.at hin hv) (g := mkF m pc L (.int j :: .ref a :: S)) rfl rfl (hb hc hd) _ q
theorem Go.iaload {a : Addr} {kA : ClassId} {z j : Int32} {vs : List Value} {dv : Value} (v : Value) (pc' : Nat) (hd : decode code pc = .ok (.iaload, 1)) (hp : pc + 1 = pc') (A : Arv Z h a kA .int z vs dv) (hj : ¬ j < 0 ∧ j < z) (hv : vs.getD j.toNatClampNeg dv = v) (g : Go nw p l e R s m args below meth c code ml nm ret Z a0 EL own P vm h k n pc' L (v :: S)) : Go nw p l e R s m args below meth c code ml nm ret Z a0 EL own P vm h k n pc L (.int j :: .ref a :: S) := by
  subst hp
  refine g.note fun T locs cells slots X hh hx hc hm hon => ⟨T, X, hh, fun target q => ?_⟩
  obtain ⟨cl, A1, A2, A3, A4, A5, A6⟩ := A
  have hin := inb_of A3 hj
  exact X.iaload hx (by rw [hh]; exact A1.1) (State.isArrayOf_alike hon.2.1.alike A1.2.1) A1.2.2 hin (A5.at hin hv) (g := mkF m pc L (.int j :: .ref a :: S)) rfl rfl (hb hc hd) _ q
theorem Go.baload {a : Addr} {kA : ClassId} {z j : Int32} {vs : List Value} {dv : Value} (v : Value) (pc' : Nat) (hd : decode code pc = .ok (.baload, 1)) (hp : pc + 1 = pc') (A : Arv Z h a kA .byte z vs dv) (hj : ¬ j < 0 ∧ j < z) (hv : vs.getD j.toNatClampNeg dv = v) (g : Go nw p l e R s m args below meth c code ml nm ret Z a0 EL own P vm h k n pc' L (v :: S)) : Go nw p l e R s m args below meth c code ml nm ret Z a0 EL own P vm h k n pc L (.int j :: .ref a :: S) := by
  subst hp
  refine g.note fun T locs cells slots X hh hx hc hm hon => ⟨T, X, hh, fun target q => ?_⟩
  obtain ⟨cl, A1, A2, A3, A4, A5, A6⟩ := A
  have hin := inb_of A3 hj
  exact X.baloadBytes hx (by rw [hh]; exact A1.1) (State.isArrayOf_alike hon.2.1.alike A1.2.1) A1.2.2 hin (A5.at hin hv) (g := mkF m pc L (.int j :: .ref a :: S)) rfl rfl (hb hc hd) _ q
theorem Go.aaload {a : Addr} {kA : ClassId} {ty : FieldType} {z j : Int32} {vs : List Value} {dv : Value} (v : Value) (pc' : Nat) (hd : decode code pc = .ok (.aaload, 1)) (hp : pc + 1 = pc') (A : Arv Z h a kA ty z vs dv) (hty : ty.isReference = true) (hj : ¬ j < 0 ∧ j < z) (hv : vs.getD j.toNatClampNeg dv = v) (g : Go nw p l e R s m args below meth c code ml nm ret Z a0 EL own P vm h k n pc' L (v :: S)) : Go nw p l e R s m args below meth c code ml nm ret Z a0 EL own P vm h k n pc L (.int j :: .ref a :: S) := by
  subst hp
  refine g.note fun T locs cells slots X hh hx hc hm hon => ⟨T, X, hh, fun target q => ?_⟩
  obtain ⟨cl, A1, A2, A3, A4, A5, A6⟩ := A
  have hin := inb_of A3 hj
  exact X.aaload hx (by rw [hh]; exact A1.1) (State.isArrayOf_alike hon.2.1.alike A1.2.1) hty A1.2.2 hin (A5.at hin hv) (g := mkF m pc L (.int j :: .ref a :: S)) rfl rfl (hb hc hd) _ q
theorem Go.castore {a : Addr} {kA : ClassId} {z j x : Int32} {vs : List Value} {dv : Value} (i : Nat) (y : Int32) (vs' : List Value) (pc' : Nat) (hd : decode code pc = .ok (.castore, 1)) (hp : pc + 1 = pc') (A : Arv Z h a kA .char z vs dv) (hj : ¬ j < 0 ∧ j < z) (hi : j.toNatClampNeg = i) (hl : i < vs.length) (hy : nar .char x = y) (hvs : vs.set i (.int y) = vs') (Sa : Safe Z EL vm h a) (hz : Z.heap.size ≤ a)
    (g : ∀ h', Keep h h' [a] → Arv Z h' a kA .char z vs' dv → Safe Z EL vm h' a → CHr Z EL vm h vm h' → Go nw p l e R s m args below meth c code ml nm ret Z a0 EL own P vm h' k n pc' L S) : Go nw p l e R s m args below meth c code ml nm ret Z a0 EL own P vm h k n pc L (.int x :: .int j :: .ref a :: S) := by
  subst hp hy hvs
  obtain ⟨cl, A1, A2, A3, A4, A5, A6⟩ := A
  have hin := inb_of A3 hj
  refine Go.wrote Sa hz (sl := j.toNatClampNeg) (w := .int (nar .char x)) (fun T locs cells slots X hh hx hc hm hnm hon => ?_) (fun h' W s2 ch => g h' (Keep.of_wr W) (Arv.set A1 A2 A3 A4 A5 A6 (fits_nar_char _) W i hi hl) s2 ch)
  exact stC X hx hon.2.1 hh A1 hin (g := mkF m pc L (.int x :: .int j :: .ref a :: S)) rfl rfl (hb hc hd)
theorem Go.iastore {a : Addr} {kA : ClassId} {z j x : Int32} {vs : List Value} {dv : Value} (i : Nat) (y : Int32) (vs' : List Value) (pc' : Nat) (hd : decode code pc = .ok (.iastore, 1)) (hp : pc + 1 = pc') (A : Arv Z h a kA .int z vs dv) (hj : ¬ j < 0 ∧ j < z) (hi : j.toNatClampNeg = i) (hl : i < vs.length) (hy : x = y) (hvs : vs.set i (.int y) = vs') (Sa : Safe Z EL vm h a) (hz : Z.heap.size ≤ a)
    (g : ∀ h', Keep h h' [a] → Arv Z h' a kA .int z vs' dv → Safe Z EL vm h' a → CHr Z EL vm h vm h' → Go nw p l e R s m args below meth c code ml nm ret Z a0 EL own P vm h' k n pc' L S) : Go nw p l e R s m args below meth c code ml nm ret Z a0 EL own P vm h k n pc L (.int x :: .int j :: .ref a :: S) := by
  subst hp hy hvs
  obtain ⟨cl, A1, A2, A3, A4, A5, A6⟩ := A
  have hin := inb_of A3 hj
  refine Go.wrote Sa hz (sl := j.toNatClampNeg) (w := .int (x)) (fun T locs cells slots X hh hx hc hm hnm hon => ?_) (fun h' W s2 ch => g h' (Keep.of_wr W) (Arv.set A1 A2 A3 A4 A5 A6 (rfl) W i hi hl) s2 ch)
  exact stI X hx hon.2.1 hh A1 hin (g := mkF m pc L (.int x :: .int j :: .ref a :: S)) rfl rfl (hb hc hd)
theorem Go.bastore {a : Addr} {kA : ClassId} {z j x : Int32} {vs : List Value} {dv : Value} (i : Nat) (y : Int32) (vs' : List Value) (pc' : Nat) (hd : decode code pc = .ok (.bastore, 1)) (hp : pc + 1 = pc') (A : Arv Z h a kA .byte z vs dv) (hj : ¬ j < 0 ∧ j < z) (hi : j.toNatClampNeg = i) (hl : i < vs.length) (hy : x.toInt8.toInt32 = y) (hvs : vs.set i (.int y) = vs') (Sa : Safe Z EL vm h a) (hz : Z.heap.size ≤ a)
    (g : ∀ h', Keep h h' [a] → Arv Z h' a kA .byte z vs' dv → Safe Z EL vm h' a → CHr Z EL vm h vm h' → Go nw p l e R s m args below meth c code ml nm ret Z a0 EL own P vm h' k n pc' L S) : Go nw p l e R s m args below meth c code ml nm ret Z a0 EL own P vm h k n pc L (.int x :: .int j :: .ref a :: S) := by
  subst hp hy hvs
  obtain ⟨cl, A1, A2, A3, A4, A5, A6⟩ := A
  have hin := inb_of A3 hj
  refine Go.wrote Sa hz (sl := j.toNatClampNeg) (w := .int (x.toInt8.toInt32)) (fun T locs cells slots X hh hx hc hm hnm hon => ?_) (fun h' W s2 ch => g h' (Keep.of_wr W) (Arv.set A1 A2 A3 A4 A5 A6 (fits_nar_byte _) W i hi hl) s2 ch)
  exact stB X hx hon.2.1 hh A1 hin (g := mkF m pc L (.int x :: .int j :: .ref a :: S)) rfl rfl (hb hc hd)
theorem Go.fin {v : Option Value} (hk0 : k ≤ R.cells) (hn0 : n ≤ R.slots) (hv : ret = none → v = none) (hP : ∀ vm', CHr Z EL vm h vm' h → P v vm' h)
    (st : ∀ (T : State) (locs : List Loc) (cells slots : Nat), Stand p l e R (s.setVm vm) m args below meth c T locs cells slots → p.tables.exec = Jvm.exec → c.code = code → meth.sig.returnType = ret → ∀ fs : List Frame, (∀ (f : JFrame) (acts : List Action), f.method = m → f.locked = none → f.entered = [] → (doReturn e (T.setTop f) acts v).1 = T.setFrames fs) → Steps p.tables e below (T.setTop (mkF m pc L S)) (T.setFrames fs)) : Go nw p l e R s m args below meth c code ml nm ret Z a0 EL own P vm h k n pc L S := by
  intro hx hc hm hl hnm hr hon T locs cells slots X hh hF hk hn
  obtain ⟨⟨k0, a1, a2⟩, a3, a4, a5, a6, a7, a8⟩ := hon
  obtain ⟨fs, h1, h2, h3, h4⟩ := X.leaveW a1 (by rw [hh]; exact a2) (v := v) (fun q => hv (hr ▸ q)) hl
  have ch : CHr Z EL vm h T.vm h := CHv.at X a3 a7 a5
  have hh' : (T.setFrames fs).heap = h := hh
  refine ⟨_, v, st T locs cells slots X hx hc hr fs h1, h2, h3, by rw [hh']; exact hP _ ch, by rw [hh']; exact ch, by rw [hh']; exact a6, locs, hF, ?_, fun q => ?_⟩
  · obtain ⟨q1, q2, q3, q4⟩ := h4
    exact ⟨q1, q2, q3, q4.mono (Nat.le_trans hk hk0) (Nat.le_trans hn hn0)⟩
  · exact State.WarmedH.trans (t := s.setVm vm) (a8 q) X.warmed
theorem Go.return_ (hd : decode code pc = .ok (.return_, 1)) (hr : ret = none) (hk0 : k ≤ R.cells) (hn0 : n ≤ R.slots) (hP : ∀ vm', CHr Z EL vm h vm' h → P none vm' h) : Go nw p l e R s m args below meth c code ml nm ret Z a0 EL own P vm h k n pc L ([]) :=
  Go.fin (v := none) hk0 hn0 (fun _ => rfl) hP fun T locs cells slots X hx hc hrt fs hl => X.returnOut hx (hrt.trans hr) (hb hc hd) hl
theorem Go.areturn {t : FieldType} {w : Value} (hd : decode code pc = .ok (.areturn, 1)) (hr : ret = some t) (ht : t.isReference = true) (hw : w.isRef = true) (hk0 : k ≤ R.cells) (hn0 : n ≤ R.slots) (hP : ∀ vm', CHr Z EL vm h vm' h → P (some w) vm' h) : Go nw p l e R s m args below meth c code ml nm ret Z a0 EL own P vm h k n pc L (w :: S) :=
  Go.fin (v := some w) hk0 hn0 (fun q => by rw [hr] at q; cases q) hP fun T locs cells slots X hx hc hrt fs hl => retOut X hx (hrt.trans hr) (by cases t <;> first | rfl | cases ht) (Or.inr (Or.inr (Or.inr (Or.inr ⟨rfl, ht, hw⟩)))) (hb hc hd) hl
theorem Go.ireturn {t : FieldType} {x : Int32} (hd : decode code pc = .ok (.ireturn, 1)) (hr : ret = some t) (hn' : narrow t (.int x) = .int x) (ht : t = .int ∨ t = .boolean ∨ t = .byte ∨ t = .char ∨ t = .short) (hk0 : k ≤ R.cells) (hn0 : n ≤ R.slots) (hP : ∀ vm', CHr Z EL vm h vm' h → P (some (.int x)) vm' h) : Go nw p l e R s m args below meth c code ml nm ret Z a0 EL own P vm h k n pc L (.int x :: S) :=
  Go.fin (v := some (.int x)) hk0 hn0 (fun q => by rw [hr] at q; cases q) hP fun T locs cells slots X hx hc hrt fs hl => retOut X hx (hrt.trans hr) hn' (Or.inl ⟨rfl, ht, _, rfl⟩) (hb hc hd) hl
theorem Go.initObject {idx : Nat} {a : Addr} (W : Nat) (pc' : Nat) (hd : decode code pc = .ok (.invokespecial idx, 3)) (hp : pc + 3 = pc') (w1 : (Cond.methodLink own idx Lib.objectInit).before a0 Z = true) (w2 : (Cond.instanceMethod Lib.objectInit).before a0 Z = true) (w3 : (Cond.code Lib.objectInit ⟨#[0xb1]⟩ 1 none).before a0 Z = true)
    (hsz : L.size = ml) (hf : 1 ≤ R.frames) (hW : (S.map fun v => v.category).sum ≤ W) (hl : W + 12 ≤ R.locals) (g : Go nw p l e R s m args below meth c code ml nm ret Z a0 EL own P vm h k n pc' L S) : Go nw p l e R s m args below meth c code ml nm ret Z a0 EL own P vm h k n pc L (.ref a :: S) := by
  subst hp
  exact g.note fun T locs cells slots X hh hx hc hm hon => initO X hx hon.2.1 hon.2.2.1 w1 w2 w3 hh (g := mkF m pc L (.ref a :: S)) rfl (hsz.trans hm.symm) rfl (hb hc hd) hf (by show 2 * 0 + _ ≤ _; omega) hl
/-- what a callee promises: at the heap h and tables that have booked no more than vm -/
def Ctr (nw : Bool) (l : Launch) (Z : State) (a0 : Array Value) (EL : List (String × Nat)) (y : MethodName) (code : ByteArray) (ml : Nat) (ret : Option FieldType) (rm : Room) (as' : Array Value) (vm : Vm) (h : Heap) (Q : Option Value → Vm → Heap → Prop) : Prop :=
  ∀ ws : List Jvm.Cond, MetFree l y (head1 (Jvm.Cond.code y code ml ret :: ws) rm) (fun a U => a = as' ∧ Z.Warmed39 U.vm ∧ U.heap = h ∧ CHr Z EL vm h U.vm h ∧ Ext Z.heap h ∧ EW Z a0 EL) (fun _ _ _ _ _ => True)
    (fun _ U o U' => ∃ v L, o = .returned v ∧ Q v U'.vm U'.heap ∧ CHr Z EL U.vm h U'.vm U'.heap ∧ Ext Z.heap U'.heap ∧ Fr Z.heap.size L ∧ ReturnedEndW U o U' L rm.cells rm.slots ∧ (nw = true → U.WarmedH U'.vm))
theorem Ctr.of_go {y : MethodName} {rm : Room} {as' : Array Value} {Q : Option Value → Vm → Heap → Prop} {L0 : Array Slot} (hpn : plainFor y = true) (hent : ∀ m, entryFrame m as' ml = mkF m 0 L0 [])
    (body : ∀ (p : Program) (e : Env) (s : State) (m : MethodId) (below : List Frame) (meth : Method) (c : Code) (vm1 : Vm), CHr Z EL vm h vm1 h → Go nw p l e rm s m as' below meth c code ml y.name ret Z a0 EL y.cls Q vm1 h 0 0 0 L0 []) : Ctr nw l Z a0 EL y code ml ret rm as' vm h Q := by
  intro ws
  refine MetFree.of_bodySF hpn hisR ?_
  intro p e s m args below meth c s₁ Bd hml0 hP hK
  obtain ⟨rfl, hZ, hh, hch, hext, hew⟩ := hP
  have e0 : s₁.heap = h := by rw [← hh, Bd.state]; rfl
  have X0 : Stand p l e rm (s.setVm s.vm) m args below meth c s₁ [] 0 0 := Stand.of_body Bd
  obtain ⟨s₂, v, st, h1, h2, h3, h4, hE, L', h5, h6, h7⟩ := body p e s m below meth c s.vm hch Bd.exec Bd.bytes hml0 Bd.notSynchronized (name_of_methodNamed Bd.named Bd.method).1 Bd.returns
    ⟨⟨0, (State.WarmedH.refl s).since _, Nat.zero_le _⟩, hZ, findClass_of_methodNamed Bd.named, hch.1, hext, hew, fun _ => State.WarmedH.refl s⟩ s₁ [] 0 0 X0 e0 (Fr.nil _) (Nat.le_refl _) (Nat.le_refl _)
  exact ⟨s₂, _, castTop (hent m) st, h1, h2, v, L', rfl, h3, h4, hE, h5, h6, h7⟩
/-- the callee's contract, as a call wants it -/
theorem Ctr.back {y : MethodName} {code' : ByteArray} {ml' : Nat} {ret' : Option FieldType} {rm : Room} {as' : Array Value} {Q : Option Value → Vm → Heap → Prop} {len W : Nat} (C : Ctr nw l Z a0 EL y code' ml' ret' rm as' vm h Q) (hon : On nw s m Z a0 EL own vm h)
    (wc : (Jvm.Cond.code y code' ml' ret').before a0 Z = true) (wz : (Jvm.Cond.initialized y.cls).before a0 Z = true) (hf : rm.frames + 1 ≤ R.frames) (hl : W + (ml' + 11) + rm.locals ≤ R.locals) :
    BackS l R p e below (s.setVm vm) args y len W (fun A a => a = as' ∧ A.U.heap = h ∧ A.cells + rm.cells ≤ R.cells ∧ A.slots + rm.slots ≤ R.slots)
      (fun A _ v B => ∃ L, Q v B.U.vm B.U.heap ∧ CHr Z EL vm h B.U.vm B.U.heap ∧ Ext Z.heap B.U.heap ∧ Fr Z.heap.size L ∧ B.locs = A.locs ++ L ∧ B.cells = A.cells + rm.cells ∧ B.slots = A.slots + rm.slots ∧ (nw = true → s.WarmedH B.U.vm)) := by
  obtain ⟨⟨k0, a1, a2⟩, a3, a4, a5, a6, a7, a8⟩ := hon
  refine BackS.of_freeW (bytes := code') (maxL := ml') (ret := ret') (E := fun _ first o t L k n => k = rm.cells ∧ n = rm.slots ∧ (∃ v, o = .returned v ∧ Q v t.vm t.heap) ∧ CHr Z EL first.vm h t.vm t.heap ∧ Ext Z.heap t.heap ∧ Fr Z.heap.size L ∧ (nw = true → first.WarmedH t.vm)) (C []) hf hl
    (fun m meth c A a Y hp => have hU : Z.Warmed39 A.U.vm := wtrans (s := s.setVm vm) a3 Y.warmed
      ⟨by show (Jvm.Cond.and _ .tt).before a A.U = true; rw [Cond.before_and, mv hU wc]; rfl, mv hU wc, mv hU wz, hp.2.2.1, hp.2.2.2⟩)
    (fun m meth c A a g mk Y hp => ⟨hp.1, wtrans (s := s.setVm vm) a3 Y.warmed, hp.2.1, (show CHr Z EL vm h A.U.vm h from CHv.at Y a3 a7 a5), a6, a7⟩) (fun _ _ _ _ _ _ _ _ _ => trivial)
    (fun _ _ _ _ ⟨v, L, h1, h2, h3, hE, h4, h5, h6⟩ => ⟨L, _, _, h5, rfl, rfl, ⟨v, h1, h2⟩, h3, hE, h4, h6⟩)
    (fun m meth c A a g mk v t L k n Y hp _ _ hE => ?_)
  obtain ⟨e1, e2, ⟨v', e3, e4⟩, e5, e5', e6, e7⟩ := hE
  cases e3; subst e1 e2
  refine ⟨L, e4, (CHv.at Y a3 a7 a5).trans e5, e5', e6, rfl, rfl, rfl, fun q => ?_⟩
  have w1 : s.WarmedH A.U.vm := State.WarmedH.trans (t := s.setVm vm) (a8 q) Y.warmed
  exact State.WarmedH.trans (t := A.U) w1 (e7 q)
/-- behind a call that a BackS pays -/
theorem Go.called {rm : Room} {Q : Option Value → Vm → Heap → Prop} {len pc' : Nat} {rest : List Value} (hp : pc + len = pc') (hk0 : k + rm.cells ≤ R.cells) (hn0 : n + rm.slots ≤ R.slots)
    (st : ∀ T locs cells slots, Stand p l e R (s.setVm vm) m args below meth c T locs cells slots → T.heap = h → p.tables.exec = Jvm.exec → c.code = code → c.maxLocals = ml → On nw s m Z a0 EL own vm h → cells + rm.cells ≤ R.cells → slots + rm.slots ≤ R.slots →
      ∃ (v : Option Value) (vm₁ : Vm) (B : Pt), (s.setVm vm).WarmedH vm₁ ∧ Stand p l e R ((s.setVm vm).setVm B.U.vm) m args below meth c B.U B.locs B.cells B.slots ∧ (s.setVm vm).Since B.U.vm B.U.heap.size ∧ T.heap.size ≤ B.U.heap.size ∧
        (∃ L, Q v B.U.vm B.U.heap ∧ CHr Z EL vm h B.U.vm B.U.heap ∧ Ext Z.heap B.U.heap ∧ Fr Z.heap.size L ∧ B.locs = locs ++ L ∧ B.cells = cells + rm.cells ∧ B.slots = slots + rm.slots ∧ (nw = true → s.WarmedH B.U.vm)) ∧
        Steps p.tables e below (T.setTop (mkF m pc L S)) (B.U.setTop { mkF m pc L S with pc := pc + len, stack := v.toList ++ rest }))
    (g : ∀ v vm' h', Q v vm' h' → CHr Z EL vm h vm' h' → Go nw p l e R s m args below meth c code ml nm ret Z a0 EL own P vm' h' (k + rm.cells) (n + rm.slots) pc' L (v.toList ++ rest)) : Go nw p l e R s m args below meth c code ml nm ret Z a0 EL own P vm h k n pc L S := by
  intro hx hc hm hl hnm hr hon T locs cells slots X hh hF hk hn
  obtain ⟨v, vm₁, B, -, X', hS, hg, ⟨L1, hQ, hC, hE, hFr, e1, e2, e3, hW⟩, st2⟩ := st T locs cells slots X hh hx hc hm hon (by omega) (by omega)
  obtain ⟨U, Ls, c1, s1⟩ := B
  dsimp only [Pt.U, Pt.locs, Pt.cells, Pt.slots] at X' hS hg hQ hC hE e1 e2 e3 hW st2
  subst e1 e2 e3 hp
  obtain ⟨⟨k0, a1, a2⟩, a3, a4, a5, a6, a7, a8⟩ := hon
  have hon' : On nw s m Z a0 EL own U.vm U.heap := ⟨⟨U.heap.size, a1.trans hS (Nat.le_trans a2 hC.2.1), Nat.le_refl _⟩, State.Warmed39.trans (t := s.setVm vm) a3 hS.1, (hS.1.alike.findClass _ _).trans a4, hC.1, hE, a7, hW⟩
  obtain ⟨s₂, v2, st3, r1, r2, r3, r4, r5⟩ := g v U.vm U.heap hQ hC hx hc hm hl hnm hr hon' U _ _ _ X' rfl (Fr.app hF hFr) (by omega) (by omega)
  exact ⟨s₂, v2, st2.trans st3, r1, r2, r3, hC.trans r4, r5⟩
theorem Go.invokestatic {idx : Nat} {y : MethodName} {code' : ByteArray} {ml' : Nat} {ret' : Option FieldType} {rm : Room} {Q : Option Value → Vm → Heap → Prop} {ps : List FieldType} {r : Option FieldType} {rest : List Value} (W : Nat) (argsL : List Value) (pc' : Nat) (hd : decode code pc = .ok (.invokestatic idx, 3)) (hp : pc + 3 = pc') (w1 : (Jvm.Cond.methodLink own idx y).before a0 Z = true) (w2 : (Jvm.Cond.static y).before a0 Z = true) (w3 : (Jvm.Cond.initialized y.cls).before a0 Z = true) (w4 : (Jvm.Cond.code y code' ml' ret').before a0 Z = true) (hy : y.cls ≠ "java/lang/invoke/MethodHandle" ∧ y.cls ≠ "java/lang/invoke/VarHandle")
    (C : Ctr nw l Z a0 EL y code' ml' ret' rm argsL.toArray vm h Q) (hdesc : parseMethodDescriptor y.desc = some ⟨ps, r⟩) (hlen : argsL.length = ps.length) (hst : S = argsL.reverse ++ rest) (hsz : L.size = ml) (hf : rm.frames + 1 ≤ R.frames) (hW : (rest.map fun v => v.category).sum ≤ W) (hl : W + (ml' + 11) + rm.locals ≤ R.locals) (hk0 : k + rm.cells ≤ R.cells) (hn0 : n + rm.slots ≤ R.slots)
    (g : ∀ v vm' h', Q v vm' h' → CHr Z EL vm h vm' h' → Go nw p l e R s m args below meth c code ml nm ret Z a0 EL own P vm' h' (k + rm.cells) (n + rm.slots) pc' L (v.toList ++ rest)) : Go nw p l e R s m args below meth c code ml nm ret Z a0 EL own P vm h k n pc L S := by
  refine Go.called (rm := rm) (Q := Q) (rest := rest) hp hk0 hn0 (fun T locs cells slots X hh hx hc hm hon q1 q2 => ?_) g
  exact callSS X hx hon.2.2.1 (mvT (s := s.setVm vm) hon.2.1 w1) (mvT (s := s.setVm vm) hon.2.1 w2) (mvT (s := s.setVm vm) hon.2.1 w3) (mvT (s := s.setVm vm) hon.2.1 w4) hy (C.back hon w4 w3 hf hl) (g := mkF m pc L S) rfl (hsz.trans hm.symm) (argsL := argsL) (rest := rest) (lenOf hdesc hlen) hst (by show 2 * 0 + _ ≤ _; omega) (hb hc hd) (fun _ _ => ⟨rfl, hh, q1, q2⟩)
theorem Go.invokespecial {idx : Nat} {y : MethodName} {code' : ByteArray} {ml' : Nat} {rm : Room} {Q : Option Value → Vm → Heap → Prop} {ps : List FieldType} {r : Option FieldType} {rest : List Value} (W : Nat) (a : Addr) (argsL : List Value) (pc' : Nat) (hd : decode code pc = .ok (.invokespecial idx, 3)) (hp : pc + 3 = pc') (hy1 : y.name = "<init>") (w1 : (Jvm.Cond.methodLink own idx y).before a0 Z = true) (w2 : (Jvm.Cond.instanceMethod y).before a0 Z = true) (w3 : (Jvm.Cond.initialized y.cls).before a0 Z = true) (w4 : (Jvm.Cond.code y code' ml' none).before a0 Z = true) (hy : y.cls ≠ "java/lang/invoke/MethodHandle" ∧ y.cls ≠ "java/lang/invoke/VarHandle")
    (C : Ctr nw l Z a0 EL y code' ml' none rm (.ref a :: argsL).toArray vm h Q) (hdesc : parseMethodDescriptor y.desc = some ⟨ps, r⟩) (hlen : argsL.length = ps.length) (hst : S = argsL.reverse ++ .ref a :: rest) (hsz : L.size = ml) (hf : rm.frames + 1 ≤ R.frames) (hW : (rest.map fun v => v.category).sum ≤ W) (hl : W + (ml' + 11) + rm.locals ≤ R.locals) (hk0 : k + rm.cells ≤ R.cells) (hn0 : n + rm.slots ≤ R.slots)
    (g : ∀ v vm' h', Q v vm' h' → CHr Z EL vm h vm' h' → Go nw p l e R s m args below meth c code ml nm ret Z a0 EL own P vm' h' (k + rm.cells) (n + rm.slots) pc' L (v.toList ++ rest)) : Go nw p l e R s m args below meth c code ml nm ret Z a0 EL own P vm h k n pc L S := by
  refine Go.called (rm := rm) (Q := Q) (rest := rest) hp hk0 hn0 (fun T locs cells slots X hh hx hc hm hon q1 q2 => ?_) g
  exact X.specialBackS hx hy1 hon.2.2.1 (mvT (s := s.setVm vm) hon.2.1 w1) (mvT (s := s.setVm vm) hon.2.1 w2) (mvT (s := s.setVm vm) hon.2.1 w4) hy (C.back hon w4 w3 hf hl) (g := mkF m pc L S) rfl (hsz.trans hm.symm) (Steps.refl _) (a := a) (argsL := argsL) (rest := rest) (lenOf hdesc hlen) hst (by show 2 * 0 + _ ≤ _; omega) (hb hc hd) (fun _ _ => ⟨rfl, hh, q1, q2⟩)
theorem Go.invokevirtual {idx : Nat} {y : MethodName} {code' : ByteArray} {ml' : Nat} {ret' : Option FieldType} {rm : Room} {Q : Option Value → Vm → Heap → Prop} {ps : List FieldType} {r : Option FieldType} {rest : List Value} {x : MethodName} {cls : String} (W : Nat) (a : Addr) (argsL : List Value) (pc' : Nat) (hd : decode code pc = .ok (.invokevirtual idx, 3)) (hp : pc + 3 = pc') (E : Exa Z h a cls) (w1 : (Jvm.Cond.methodLink own idx x).before a0 Z = true) (w2 : (Jvm.Cond.declares x).before a0 Z = true) (nf : ∀ s : State, Z.Warmed39 s.vm → NotFace s x) (ws : (Jvm.Cond.selects cls x y).before a0 Z = true) (wi : (Jvm.Cond.instanceMethod y).before a0 Z = true) (w3 : (Jvm.Cond.initialized y.cls).before a0 Z = true) (w4 : (Jvm.Cond.code y code' ml' ret').before a0 Z = true)
    (hy : x.cls ≠ "java/lang/invoke/MethodHandle" ∧ x.cls ≠ "java/lang/invoke/VarHandle") (C : Ctr nw l Z a0 EL y code' ml' ret' rm (.ref a :: argsL).toArray vm h Q) (hdesc : parseMethodDescriptor x.desc = some ⟨ps, r⟩) (hlen : argsL.length = ps.length) (hst : S = argsL.reverse ++ .ref a :: rest) (hsz : L.size = ml) (hf : rm.frames + 1 ≤ R.frames) (hW : (rest.map fun v => v.category).sum ≤ W) (hl : W + (ml' + 11) + rm.locals ≤ R.locals) (hk0 : k + rm.cells ≤ R.cells) (hn0 : n + rm.slots ≤ R.slots)
    (g : ∀ v vm' h', Q v vm' h' → CHr Z EL vm h vm' h' → Go nw p l e R s m args below meth c code ml nm ret Z a0 EL own P vm' h' (k + rm.cells) (n + rm.slots) pc' L (v.toList ++ rest)) : Go nw p l e R s m args below meth c code ml nm ret Z a0 EL own P vm h k n pc L S := by
  refine Go.called (rm := rm) (Q := Q) (rest := rest) hp hk0 hn0 (fun T locs cells slots X hh hx hc hm hon q1 q2 => ?_) g
  obtain ⟨cB, kB, b1, b2, b3⟩ := isOf (s := s.setVm vm) hon.2.1 hh E
  exact X.virtualBackS hx hon.2.2.1 (mvT (s := s.setVm vm) hon.2.1 w1) (mvT (s := s.setVm vm) hon.2.1 w2) (nf (s.setVm vm) hon.2.1) (mvT (s := s.setVm vm) hon.2.1 ws) (mvT (s := s.setVm vm) hon.2.1 wi) hy (C.back hon w4 w3 hf hl) b1 b3 (g := mkF m pc L S) rfl (hsz.trans hm.symm) (Steps.refl _) (argsL := argsL) (rest := rest) (lenOf hdesc hlen) hst (by show 2 * 0 + _ ≤ _; omega) (hb hc hd) (fun _ _ => ⟨rfl, hh, q1, q2⟩)
theorem On.keep {ws : List Addr} (hon : On nw s m Z a0 EL own vm h) (K : Keep h h' ws) (hs : ∀ x ∈ ws, Safe Z EL vm h x) (hz : ∀ x ∈ ws, Z.heap.size ≤ x) : On nw s m Z a0 EL own vm h' := by
  obtain ⟨⟨k0, a1, a2⟩, a3, a4, a5, a6, a7, a8⟩ := hon
  exact ⟨⟨k0, a1, Nat.le_trans a2 K.1⟩, a3, a4, a5.keep K hs, (Old.keep (Z := Z) ⟨rfl, a6⟩ K hz).2, a7, a8⟩
/-- behind a call that a Back pays: the tables' base as it was -/
theorem Go.calledB {Q : Option Value → Heap → List Loc → Prop} {dk dn len pc' : Nat} {rest : List Value} (hp : pc + len = pc') (hk0 : k + dk ≤ R.cells) (hn0 : n + dn ≤ R.slots)
    (st : ∀ T locs cells slots, Stand p l e R (s.setVm vm) m args below meth c T locs cells slots → T.heap = h → p.tables.exec = Jvm.exec → c.code = code → c.maxLocals = ml → On nw s m Z a0 EL own vm h → cells + dk ≤ R.cells → slots + dn ≤ R.slots →
      ∃ (v : Option Value) (vm₁ : Vm) (B : Pt), (s.setVm vm).WarmedH vm₁ ∧ Stand p l e R (s.setVm vm) m args below meth c B.U B.locs B.cells B.slots ∧ (∃ L, Q v B.U.heap L ∧ B.locs = locs ++ L ∧ B.cells = cells + dk ∧ B.slots = slots + dn) ∧
        Steps p.tables e below (T.setTop (mkF m pc L S)) (B.U.setTop { mkF m pc L S with pc := pc + len, stack := v.toList ++ rest }))
    (hQ : ∀ v h' lc, Q v h' lc → Fr Z.heap.size lc ∧ ∃ ws, Keep h h' ws ∧ (∀ x ∈ ws, Safe Z EL vm h x) ∧ ∀ x ∈ ws, Z.heap.size ≤ x)
    (g : ∀ v h' lc, Q v h' lc → CHr Z EL vm h vm h' → Go nw p l e R s m args below meth c code ml nm ret Z a0 EL own P vm h' (k + dk) (n + dn) pc' L (v.toList ++ rest)) : Go nw p l e R s m args below meth c code ml nm ret Z a0 EL own P vm h k n pc L S := by
  intro hx hc hm hl hnm hr hon T locs cells slots X hh hF hk hn
  obtain ⟨v, vm₁, B, -, X', ⟨L1, hq, e1, e2, e3⟩, st2⟩ := st T locs cells slots X hh hx hc hm hon (by omega) (by omega)
  obtain ⟨U, Ls, c1, s1⟩ := B
  dsimp only [Pt.U, Pt.locs, Pt.cells, Pt.slots] at X' hq e1 e2 e3 st2
  subst e1 e2 e3 hp
  obtain ⟨hFr, ws, K, hs, hz⟩ := hQ _ _ _ hq
  have ch : CHr Z EL vm h vm U.heap := CHr.keep K hs hon.2.2.2.1
  obtain ⟨s₂, v2, st3, r1, r2, r3, r4, r5⟩ := g v U.heap L1 hq ch hx hc hm hl hnm hr (hon.keep K hs hz) U _ _ _ X' rfl (Fr.app hF hFr) (by omega) (by omega)
  exact ⟨s₂, v2, st2.trans st3, r1, r2, r3, ch.trans r4, r5⟩
theorem Go.virtB {idx : Nat} {x y : MethodName} {cls : String} {Q : Option Value → Heap → List Loc → Prop} {dk dn : Nat} {ps : List FieldType} {r : Option FieldType} {rest : List Value} (W : Nat) (a : Addr) (argsL : List Value) (pc' : Nat) (hd : decode code pc = .ok (.invokevirtual idx, 3)) (hp : pc + 3 = pc') (E : Exa Z h a cls)
    (w1 : (Jvm.Cond.methodLink own idx x).before a0 Z = true) (w2 : (Jvm.Cond.declares x).before a0 Z = true) (nf : ∀ s : State, Z.Warmed39 s.vm → NotFace s x) (ws : (Jvm.Cond.selects cls x y).before a0 Z = true) (wi : (Jvm.Cond.instanceMethod y).before a0 Z = true) (hy : x.cls ≠ "java/lang/invoke/MethodHandle" ∧ x.cls ≠ "java/lang/invoke/VarHandle")
    (B : Z.Warmed39 (s.setVm vm).vm → Ext Z.heap h → Back l R p e below (s.setVm vm) args y 3 W (fun A as => as = (.ref a :: argsL).toArray ∧ A.U.heap = h ∧ A.cells + dk ≤ R.cells ∧ A.slots + dn ≤ R.slots) (fun A _ v B => ∃ L, Q v B.U.heap L ∧ B.locs = A.locs ++ L ∧ B.cells = A.cells + dk ∧ B.slots = A.slots + dn))
    (hdesc : parseMethodDescriptor x.desc = some ⟨ps, r⟩) (hlen : argsL.length = ps.length) (hst : S = argsL.reverse ++ .ref a :: rest) (hsz : L.size = ml) (hW : (rest.map fun v => v.category).sum ≤ W) (hk0 : k + dk ≤ R.cells) (hn0 : n + dn ≤ R.slots)
    (hQ : ∀ v h' lc, Q v h' lc → Fr Z.heap.size lc ∧ ∃ ws, Keep h h' ws ∧ (∀ x ∈ ws, Safe Z EL vm h x) ∧ ∀ x ∈ ws, Z.heap.size ≤ x) (g : ∀ v h' lc, Q v h' lc → CHr Z EL vm h vm h' → Go nw p l e R s m args below meth c code ml nm ret Z a0 EL own P vm h' (k + dk) (n + dn) pc' L (v.toList ++ rest)) : Go nw p l e R s m args below meth c code ml nm ret Z a0 EL own P vm h k n pc L S := by
  refine Go.calledB (rest := rest) hp hk0 hn0 (fun T locs cells slots X hh hx hc hm hon q1 q2 => ?_) hQ g
  obtain ⟨cB, kB, b1, b2, b3⟩ := isOf (s := s.setVm vm) hon.2.1 hh E
  exact X.virtualBack hx hon.2.2.1 (mvT (s := s.setVm vm) hon.2.1 w1) (mvT (s := s.setVm vm) hon.2.1 w2) (nf (s.setVm vm) hon.2.1) (mvT (s := s.setVm vm) hon.2.1 ws) (mvT (s := s.setVm vm) hon.2.1 wi) hy (B hon.2.1 hon.2.2.2.2.1) b1 b3 (g := mkF m pc L S) rfl (hsz.trans hm.symm) (Steps.refl _) (argsL := argsL) (rest := rest) (lenOf hdesc hlen) hst (by show 2 * 0 + _ ≤ _; omega) (hb hc hd) (fun _ _ => ⟨rfl, hh, q1, q2⟩)
theorem Go.specB {idx : Nat} {y : MethodName} {code' : ByteArray} {ml' : Nat} {Q : Option Value → Heap → List Loc → Prop} {dk dn : Nat} {ps : List FieldType} {r : Option FieldType} {rest : List Value} (W : Nat) (a : Addr) (argsL : List Value) (pc' : Nat) (hd : decode code pc = .ok (.invokespecial idx, 3)) (hp : pc + 3 = pc') (hy1 : y.name = "<init>")
    (w1 : (Jvm.Cond.methodLink own idx y).before a0 Z = true) (w2 : (Jvm.Cond.instanceMethod y).before a0 Z = true) (w4 : (Jvm.Cond.code y code' ml' none).before a0 Z = true) (hy : y.cls ≠ "java/lang/invoke/MethodHandle" ∧ y.cls ≠ "java/lang/invoke/VarHandle")
    (B : Z.Warmed39 (s.setVm vm).vm → Ext Z.heap h → Back l R p e below (s.setVm vm) args y 3 W (fun A as => as = (.ref a :: argsL).toArray ∧ A.U.heap = h ∧ A.cells + dk ≤ R.cells ∧ A.slots + dn ≤ R.slots) (fun A _ v B => ∃ L, Q v B.U.heap L ∧ B.locs = A.locs ++ L ∧ B.cells = A.cells + dk ∧ B.slots = A.slots + dn))
    (hdesc : parseMethodDescriptor y.desc = some ⟨ps, r⟩) (hlen : argsL.length = ps.length) (hst : S = argsL.reverse ++ .ref a :: rest) (hsz : L.size = ml) (hW : (rest.map fun v => v.category).sum ≤ W) (hk0 : k + dk ≤ R.cells) (hn0 : n + dn ≤ R.slots)
    (hQ : ∀ v h' lc, Q v h' lc → Fr Z.heap.size lc ∧ ∃ ws, Keep h h' ws ∧ (∀ x ∈ ws, Safe Z EL vm h x) ∧ ∀ x ∈ ws, Z.heap.size ≤ x) (g : ∀ v h' lc, Q v h' lc → CHr Z EL vm h vm h' → Go nw p l e R s m args below meth c code ml nm ret Z a0 EL own P vm h' (k + dk) (n + dn) pc' L (v.toList ++ rest)) : Go nw p l e R s m args below meth c code ml nm ret Z a0 EL own P vm h k n pc L S := by
  refine Go.calledB (rest := rest) hp hk0 hn0 (fun T locs cells slots X hh hx hc hm hon q1 q2 => ?_) hQ g
  exact X.specialBack hx hy1 hon.2.2.1 (mvT (s := s.setVm vm) hon.2.1 w1) (mvT (s := s.setVm vm) hon.2.1 w2) (mvT (s := s.setVm vm) hon.2.1 w4) hy (B hon.2.1 hon.2.2.2.2.1) (g := mkF m pc L S) rfl (hsz.trans hm.symm) (Steps.refl _) (a := a) (argsL := argsL) (rest := rest) (lenOf hdesc hlen) hst (by show 2 * 0 + _ ≤ _; omega) (hb hc hd) (fun _ _ => ⟨rfl, hh, q1, q2⟩)
/-- ldc of a String constant that EL lists, its text read -/
theorem Go.ldcS {idx : Nat} {text : String} {vs : List Value} {z : Int32} (cap : Nat) (pc' : Nat) (hd : decode code pc = .ok (.ldc idx, 2)) (hp : pc + 2 = pc') (hnw : nw = false) (w : (Jvm.Cond.stringLink own idx text).before a0 Z = true) (wS : ∀ a ∈ Bundle.stringAtoms, a.before a0 Z = true) (hmem : (own, idx) ∈ EL)
    (ht : (∀ c ∈ text.toList, c.toNat < 256) ∧ text.toList.map (fun c => Value.int (Jvm.Lit.byteI c.toNat.toUInt16)) = vs) (hz : ¬ z < 0) (hl : z.toNatClampNeg = vs.length) (hcap : 4 * text.toList.length ≤ cap) (hbig : cap ≤ 536870912) (hk0 : k + 2 ≤ R.cells) (hn0 : n + (cap + 4) ≤ R.slots)
    (g : ∀ (a b : Addr) (kb : ClassId) (vm' : Vm) (h' : Heap), Ext h h' → Exa Z h' a "java/lang/String" → Fld Z h' a "java/lang/String" "coder" "B" (.int 0) → Fld Z h' a "java/lang/String" "value" "[B" (.ref b) → Arv Z h' b kb .byte z vs (.int 0) → (∀ x, Safe Z EL vm' h' x → x ≠ a ∧ x ≠ b) → CHr Z EL vm h vm' h' → Go nw p l e R s m args below meth c code ml nm ret Z a0 EL own P vm' h' (k + 2) (n + (cap + 4)) pc' L (.ref a :: S)) : Go nw p l e R s m args below meth c code ml nm ret Z a0 EL own P vm h k n pc L S := by
  subst hp
  intro hx hc hm hl' hnm hr hon T locs cells slots X hh hF hk hn
  obtain ⟨⟨k0, a1, a2⟩, a3, a4, a5, a6, a7, a8⟩ := hon
  obtain ⟨a, T', h', k1, b, kb, X', e', E, hS, hk1, hZ', hf', A, C1, V1, K1, -, -, ch, -, hne, st⟩ := ldcCH X hx a3 a4 w wS hh a1 a2 a7 hmem a5 ht hz hl (g := mkF m pc L S) rfl (hb hc hd) hcap hbig (by omega) (by omega)
  have hon' : On nw s m Z a0 EL own T'.vm h' := ⟨⟨k1, hS, hk1⟩, hZ', hf', ch.1, ⟨Nat.le_trans a6.1 E.1, fun a c q => E.2 _ _ (a6.2 _ _ q)⟩, a7, fun q => by rw [hnw] at q; cases q⟩
  obtain ⟨s₂, v2, st3, r1, r2, r3, r4, r5⟩ := g a b kb T'.vm h' E A C1 V1 K1 hne ch hx hc hm hl' hnm hr hon' T' _ _ _ X' e' hF (by omega) (by omega)
  exact ⟨s₂, v2, st _ st3, r1, r2, r3, ch.trans r4, r5⟩
theorem Go.castY {K : String} {idx : Nat} {a : Addr} (pc' : Nat) (hd : decode code pc = .ok (.checkcast idx, 3)) (hp : pc + 3 = pc') (w : (Jvm.Cond.classLink own idx K).before a0 Z = true) (F : Ins Z h a K true) (g : Go nw p l e R s m args below meth c code ml nm ret Z a0 EL own P vm h k n pc' L (.ref a :: S)) : Go nw p l e R s m args below meth c code ml nm ret Z a0 EL own P vm h k n pc L (.ref a :: S) := by
  subst hp
  exact g.note fun T locs cells slots X hh hx hc hm hon => RoadKit.castY X hx hon.2.1 hon.2.2.1 w hh F (g := mkF m pc L (.ref a :: S)) rfl rfl (hb hc hd)
theorem Go.instY {K : String} {idx : Nat} {a : Addr} (pc' : Nat) (hd : decode code pc = .ok (.instanceof idx, 3)) (hp : pc + 3 = pc') (w : (Jvm.Cond.classLink own idx K).before a0 Z = true) (F : Ins Z h a K true) (g : Go nw p l e R s m args below meth c code ml nm ret Z a0 EL own P vm h k n pc' L (.int 1 :: S)) : Go nw p l e R s m args below meth c code ml nm ret Z a0 EL own P vm h k n pc L (.ref a :: S) := by
  subst hp
  exact g.note fun T locs cells slots X hh hx hc hm hon => RoadKit.instY X hx hon.2.1 hon.2.2.1 w hh F (g := mkF m pc L (.ref a :: S)) rfl rfl (hb hc hd)
theorem Go.instN {K C : String} {idx : Nat} {a : Addr} (pc' : Nat) (hd : decode code pc = .ok (.instanceof idx, 3)) (hp : pc + 3 = pc') (w : (Jvm.Cond.classLink own idx K).before a0 Z = true) (E : Exa Z h a C) (F : ∃ c t, Z.vm.findClass C = some c ∧ Z.vm.findClass K = some t ∧ Z.vm.assignable c t = false) (g : Go nw p l e R s m args below meth c code ml nm ret Z a0 EL own P vm h k n pc' L (.int 0 :: S)) : Go nw p l e R s m args below meth c code ml nm ret Z a0 EL own P vm h k n pc L (.ref a :: S) := by
  subst hp
  exact g.note fun T locs cells slots X hh hx hc hm hon => instNo X hx hon.2.1 hon.2.2.1 w hh E F (g := mkF m pc L (.ref a :: S)) rfl rfl (hb hc hd)
theorem Go.ldc2_w {idx : Nat} {v : Int64} (w : (Jvm.Cond.constantLong own idx v).before a0 Z = true) (pc' : Nat) (hd : decode code pc = .ok (.ldc2_w idx, 3)) (hp : pc + 3 = pc') (g : Go nw p l e R s m args below meth c code ml nm ret Z a0 EL own P vm h k n pc' L (.long v :: S)) : Go nw p l e R s m args below meth c code ml nm ret Z a0 EL own P vm h k n pc L S := by
  subst hp
  exact g.note fun T locs cells slots X hh hx hc hm hon => ⟨T, X, hh, fun target q => ldc2J X hx hon.2.2.1 (mvT (s := s.setVm vm) hon.2.1 w) (g := mkF m pc L S) rfl (hb hc hd) q⟩
theorem Go.instNull {idx : Nat} (pc' : Nat) (hd : decode code pc = .ok (.instanceof idx, 3)) (hp : pc + 3 = pc') (g : Go nw p l e R s m args below meth c code ml nm ret Z a0 EL own P vm h k n pc' L (.int 0 :: S)) : Go nw p l e R s m args below meth c code ml nm ret Z a0 EL own P vm h k n pc L (.null :: S) := by
  subst hp
  exact g.note fun T locs cells slots X hh hx hc hm hon => ⟨T, X, hh, instanceofNull X hx (g := mkF m pc L (.null :: S)) rfl rfl (hb hc hd)⟩
theorem Go.anewarray {C : String} {idx : Nat} {z : Int32} (cap : Nat) (pc' : Nat) (hd : decode code pc = .ok (.anewarray idx, 3)) (hp : pc + 3 = pc') (w1 : (Jvm.Cond.classLink own idx C).before a0 Z = true) (w2 : (Jvm.Cond.arrayOver (.object C)).before a0 Z = true) (hz : ¬ z < 0) (hcap : z.toNatClampNeg ≤ cap) (hb8 : cap * 8 ≤ 536870912) (hk0 : k + 1 ≤ R.cells) (hn0 : n + cap ≤ R.slots)
    (g : ∀ a h', a = h.size → Ext h h' → (∃ cA, Arv Z h' a cA (.object C) z [] .null ∧ Ovr Z cA C) → Safe Z EL vm h' a → Z.heap.size ≤ a → CHr Z EL vm h vm h' → Go nw p l e R s m args below meth c code ml nm ret Z a0 EL own P vm h' (k + 1) (n + cap) pc' L (.ref a :: S)) : Go nw p l e R s m args below meth c code ml nm ret Z a0 EL own P vm h k n pc L (.int z :: S) := by
  subst hp
  refine Go.made (dk := 1) (dn := cap) (S' := fun a => .ref a :: S) (F := fun h' a => ∃ cA, Arv Z h' a cA (.object C) z [] .null ∧ Ovr Z cA C) hk0 hn0 (fun T locs cells slots X hh hx hc hm hon q1 q2 => ?_) g
  obtain ⟨T', h', cA, X', e', E, A, O, st⟩ := newR X hx hon.2.1 hon.2.2.1 w1 w2 hh (g := mkF m pc L (.int z :: S)) rfl (hb hc hd) rfl hz hcap hb8 q1 q2
  exact ⟨T', h', X', e', E, ⟨cA, Arv.new A hz, O⟩, st⟩
theorem Go.aastore {a y : Addr} {kA : ClassId} {C : String} {z j : Int32} {vs : List Value} {dv : Value} (i : Nat) (vs' : List Value) (pc' : Nat) (hd : decode code pc = .ok (.aastore, 1)) (hp : pc + 1 = pc') (A : Arv Z h a kA (.object C) z vs dv) (O : Ovr Z kA C) (I : Ins Z h y C true) (hj : ¬ j < 0 ∧ j < z) (hi : j.toNatClampNeg = i) (hl : i < vs.length) (hvs : vs.set i (.ref y) = vs') (Sa : Safe Z EL vm h a) (hz : Z.heap.size ≤ a)
    (g : ∀ h', Keep h h' [a] → Arv Z h' a kA (.object C) z vs' dv → Safe Z EL vm h' a → CHr Z EL vm h vm h' → Go nw p l e R s m args below meth c code ml nm ret Z a0 EL own P vm h' k n pc' L S) : Go nw p l e R s m args below meth c code ml nm ret Z a0 EL own P vm h k n pc L (.ref y :: .int j :: .ref a :: S) := by
  subst hp hvs
  obtain ⟨cl, A1, A2, A3, A4, A5, A6⟩ := A
  have hin := inb_of A3 hj
  refine Go.wrote Sa hz (sl := j.toNatClampNeg) (w := .ref y) (fun T locs cells slots X hh hx hc hm hnm hon => ?_) (fun h' W s2 ch => g h' (Keep.of_wr W) (Arv.set A1 A2 A3 A4 A5 A6 rfl W i hi hl) s2 ch)
  exact stR X hx hon.2.1 hh A1 hin rfl (Sto.ofV A1 A2 O I) (g := mkF m pc L (.ref y :: .int j :: .ref a :: S)) rfl rfl (hb hc hd)
theorem Go.invokeinterface {idx : Nat} {y : MethodName} {code' : ByteArray} {ml' : Nat} {ret' : Option FieldType} {rm : Room} {Q : Option Value → Vm → Heap → Prop} {ps : List FieldType} {r : Option FieldType} {rest : List Value} {xi : MethodName} {cls : String} {cnt : Nat} (W : Nat) (a : Addr) (argsL : List Value) (pc' : Nat) (hd : decode code pc = .ok (.invokeinterface idx cnt, 5)) (hp : pc + 5 = pc') (E : Exa Z h a cls) (w1 : (Jvm.Cond.methodLink own idx xi).before a0 Z = true) (w2 : (Jvm.Cond.declares xi).before a0 Z = true) (wf : ∀ s' : State, Z.Warmed39 s'.vm → (Jvm.Cond.interfaceMethod xi.cls xi.cls xi.name xi.desc).before args s' = true) (ws : (Jvm.Cond.selects cls xi y).before a0 Z = true) (wi : (Jvm.Cond.instanceMethod y).before a0 Z = true) (wp : (Jvm.Cond.publicMethod y).before a0 Z = true) (wu : (Jvm.Cond.unhidden cls xi.name xi.desc).before a0 Z = true) (wc : (Jvm.Cond.castable cls xi.cls).before a0 Z = true) (w3 : (Jvm.Cond.initialized y.cls).before a0 Z = true) (w4 : (Jvm.Cond.code y code' ml' ret').before a0 Z = true)
    (hy : xi.cls ≠ "java/lang/invoke/MethodHandle" ∧ xi.cls ≠ "java/lang/invoke/VarHandle") (C : Ctr nw l Z a0 EL y code' ml' ret' rm (.ref a :: argsL).toArray vm h Q) (hdesc : parseMethodDescriptor xi.desc = some ⟨ps, r⟩) (hlen : argsL.length = ps.length) (hst : S = argsL.reverse ++ .ref a :: rest) (hsz : L.size = ml) (hf : rm.frames + 1 ≤ R.frames) (hW : (rest.map fun v => v.category).sum ≤ W) (hl : W + (ml' + 11) + rm.locals ≤ R.locals) (hk0 : k + rm.cells ≤ R.cells) (hn0 : n + rm.slots ≤ R.slots)
    (g : ∀ v vm' h', Q v vm' h' → CHr Z EL vm h vm' h' → Go nw p l e R s m args below meth c code ml nm ret Z a0 EL own P vm' h' (k + rm.cells) (n + rm.slots) pc' L (v.toList ++ rest)) : Go nw p l e R s m args below meth c code ml nm ret Z a0 EL own P vm h k n pc L S := by
  refine Go.called (rm := rm) (Q := Q) (rest := rest) hp hk0 hn0 (fun T locs cells slots X hh hx hc hm hon q1 q2 => ?_) g
  obtain ⟨cB, kB, b1, b2, b3⟩ := isOf (s := s.setVm vm) hon.2.1 hh E
  exact X.interfaceBackS hx hon.2.2.1 (mvT (s := s.setVm vm) hon.2.1 w1) (mvT (s := s.setVm vm) hon.2.1 w2) (wf (s.setVm vm) hon.2.1) (mvT (s := s.setVm vm) hon.2.1 ws) (mvT (s := s.setVm vm) hon.2.1 wi) (mvT (s := s.setVm vm) hon.2.1 wp) (mvT (s := s.setVm vm) hon.2.1 wu) (mvT (s := s.setVm vm) hon.2.1 wc) hy (C.back hon w4 w3 hf hl) b1 b2 b3 (g := mkF m pc L S) rfl (hsz.trans hm.symm) (Steps.refl _) (argsL := argsL) (rest := rest) (lenOf hdesc hlen) hst (by show 2 * 0 + _ ≤ _; omega) (hb hc hd) (fun _ _ => ⟨rfl, hh, q1, q2⟩)
theorem Go.ldcI {idx : Nat} {v : Int32} (w : (Jvm.Cond.constant own idx v).before a0 Z = true) (pc' : Nat) (hd : decode code pc = .ok (.ldc idx, 2)) (hp : pc + 2 = pc') (g : Go nw p l e R s m args below meth c code ml nm ret Z a0 EL own P vm h k n pc' L (.int v :: S)) : Go nw p l e R s m args below meth c code ml nm ret Z a0 EL own P vm h k n pc L S := by
  subst hp
  exact g.note fun T locs cells slots X hh hx hc hm hon => ⟨T, X, hh, fun target q => Jvm.Stand.ldcI X hx hon.2.2.1 (mvT (s := s.setVm vm) hon.2.1 w) (g := mkF m pc L S) rfl (hb hc hd) q⟩
end Core
end Jvm.Own

namespace Jvm.Own
open Sem ClassFile Op Lib Bundle Jvm.Stand Jvm.Free Jvm.LawKit Jvm.RoadKit
section Facts
variable {Z : State} {a0 : Array Value} {EL : List (String × Nat)} {vm vm' : Vm} {h h' h0 h1 h2 : Heap} {a b x : Addr} {cs ds : List Int32} {ws : List Addr} {C : String} {n : Nat}
theorem Ext.rfl' (h : Heap) : Ext h h := ⟨Nat.le_refl _, fun _ _ q => q⟩
theorem Ext.tr (E : Ext h h1) (F : Ext h1 h2) : Ext h h2 := ⟨Nat.le_trans E.1 F.1, fun a c q => F.2 _ _ (E.2 _ _ q)⟩
/-- only new cells written: from the old heap's side nothing has changed -/
theorem Ext.kp (E : Ext h h1) (K : Keep h1 h2 ws) (q : ∀ x ∈ ws, h.size ≤ x) : Ext h h2 :=
  ⟨Nat.le_trans E.1 K.1, fun a c r => K.2.1 a c (E.2 _ _ r) fun z => absurd (Array.getElem?_eq_some_iff.mp r).1 (Nat.not_lt.mpr (q a z))⟩
theorem Ext.kp1 (E : Ext h h1) (K : Keep h1 h2 [x]) (e : x = h.size) : Ext h h2 := Ext.kp E K fun y hy => by cases List.mem_singleton.mp hy; exact Nat.le_of_eq e.symm
theorem Ext.kq1 (E : Ext h h1) (K : Keep h1 h2 [x]) (e : h.size ≤ x) : Ext h h2 := Ext.kp E K fun y hy => by cases List.mem_singleton.mp hy; exact e
theorem Ext.wr1 {sl : Nat} {v : Value} (E : Ext h h1) (W : Wr h1 h2 x sl v) (e : h.size ≤ x) : Ext h h2 := Ext.kq1 E (Keep.of_wr W) e
theorem Keep.ofExt (E : Ext h h') (ws : List Addr) : Keep h h' ws := (Keep.refl h ws).ext E
theorem Keep.e0 (K : Keep h h' []) : Ext h h' := ⟨K.1, fun a c q => K.2.1 a c q nin0⟩
theorem ne_of_new (q : a < h.size) (r : h.size ≤ b) : a ≠ b := Nat.ne_of_lt (Nat.lt_of_lt_of_le q r)
/-- a Latin-1 String of these chars -/
def Str (Z : State) (h : Heap) (a : Addr) (cs : List Int32) : Prop :=
  ∃ (b : Addr) (kb : ClassId), Exa Z h a "java/lang/String" ∧ Fld Z h a "java/lang/String" "coder" "B" (.int 0) ∧ Fld Z h a "java/lang/String" "value" "[B" (.ref b) ∧
    Arv Z h b kb .byte (Int32.ofNat cs.length) ((cs.map fun c => c.toInt8.toInt32).map Value.int) (.int 0) ∧ cs.length ≤ 4000 ∧ ∀ c ∈ cs, ¬ c < 0 ∧ ¬ (255 : Int32) < c
theorem Str.ext (S : Str Z h a cs) (E : Ext h h') : Str Z h' a cs := by
  obtain ⟨b, kb, s1, s2, s3, s4, s5⟩ := S
  exact ⟨b, kb, s1.ext E, s2.ext E, s3.ext E, s4.ext E, s5⟩
theorem Str.exa (S : Str Z h a cs) : Exa Z h a "java/lang/String" := by obtain ⟨b, kb, s1, -⟩ := S; exact s1
theorem Str.lt (S : Str Z h a cs) : a < h.size := S.exa.lt
/-- an object of another class is written -/
theorem Str.keepE (S : Str Z h a cs) (K : Keep h h' [x]) (E : Exa Z h x C) (hC : C ≠ "java/lang/String") (wi : (Jvm.Cond.instantiable C n).before a0 Z = true) : Str Z h' a cs := by
  obtain ⟨b, kb, s1, s2, s3, s4, s5⟩ := S
  have n1 : a ∉ [x] := ninS (fun q => (Exa.ne E s1 hC) q.symm) nin0
  have n2 : b ∉ [x] := ninS (fun q => (Exa.neArv E s4 wi) q.symm) nin0
  exact ⟨b, kb, s1.keep K, s2.keep K n1, s3.keep K n1, s4.keep K n2, s5⟩
theorem Str.wrE {sl : Nat} {v : Value} (S : Str Z h a cs) (W : Wr h h' x sl v) (E : Exa Z h x C) (hC : C ≠ "java/lang/String") (wi : (Jvm.Cond.instantiable C n).before a0 Z = true) : Str Z h' a cs := S.keepE (Keep.of_wr W) E hC wi
/-- an array of another kind is written -/
theorem Str.keepA {k : ClassId} {ty : FieldType} {z : Int32} {vs : List Value} {dv : Value} {nI : Nat} (S : Str Z h a cs) (K : Keep h h' [x]) (A : Arv Z h x k ty z vs dv) (ht : ty ≠ .byte) (wi : (Jvm.Cond.instantiable "java/lang/String" nI).before a0 Z = true) : Str Z h' a cs := by
  obtain ⟨b, kb, s1, s2, s3, s4, s5⟩ := S
  have n1 : a ∉ [x] := ninS (Exa.neArv s1 A wi) nin0
  have n2 : b ∉ [x] := ninS (fun q => by
    subst q
    obtain ⟨c1, ⟨e1, ⟨-, k1, f1, p1, g1⟩, -⟩, -⟩ := s4
    obtain ⟨c2, ⟨e2, ⟨-, k2, f2, p2, g2⟩, -⟩, -⟩ := A
    cases e1.symm.trans e2
    cases f1.symm.trans f2
    rw [g1] at g2
    cases g2
    exact ht rfl) nin0
  exact ⟨b, kb, s1.keep K, s2.keep K n1, s3.keep K n1, s4.keep K n2, s5⟩
theorem Exa.insOf (E : Exa Z h a C) : Ins Z h a C true := Ins.self E
theorem i2c255 (x : Int32) : (x &&& 255).toUInt32.toUInt16.toUInt32.toInt32 = x &&& 255 := i2c_mask x
theorem and255 (x : Int32) : ¬ (x &&& (255 : Int32)) < 0 ∧ ¬ (255 : Int32) < (x &&& (255 : Int32)) := by
  have t : ∀ k : Fin 256, ¬ (Int32.ofNat k.val) < 0 ∧ ¬ (255 : Int32) < Int32.ofNat k.val := by decide +kernel
  have h : (x &&& 255).toBitVec.toNat < 256 := by
    simp only [Int32.toBitVec_and, BitVec.toNat_and]
    exact Nat.lt_succ_of_le Nat.and_le_right
  have e : (x &&& 255) = Int32.ofNat (x &&& 255).toBitVec.toNat := by
    apply Int32.toBitVec_inj.mp
    show _ = BitVec.ofNat 32 _
    rw [BitVec.ofNat_toNat]; simp
  rw [e]
  exact t ⟨_, h⟩
theorem narC {x : Int32} (h : ¬ x < 0 ∧ ¬ (255 : Int32) < x) : nar .char x = x := by
  have e : x = x &&& 255 := by
    obtain ⟨h1, h2⟩ := h
    apply Int32.toInt_inj.mp
    rw [c_mask x 255 8 (by decide) (by decide)]
    rw [Int32.lt_iff_toInt_lt] at h1 h2
    have e1 : (0 : Int32).toInt = 0 := rfl
    have e2 : (255 : Int32).toInt = 255 := rfl
    omega
  rw [e]; exact i2c_mask x
theorem narZ {x : Int32} (h : x = 0 ∨ x = 1) : narrow .boolean (.int x) = .int x := by rcases h with rfl | rfl <;> rfl
theorem narCv {x : Int32} (h : ¬ x < 0 ∧ ¬ (255 : Int32) < x) : narrow .char (.int x) = .int x := (show narrow .char (.int x) = .int (nar .char x) from rfl).trans (by rw [narC h])
theorem l2i_mask {y m : Int64} {k : Nat} (hk : k ≤ 30) (hm : m.toBitVec.toNat = 2 ^ k - 1) : ((y &&& m).toInt32).toInt = y.toInt % (2 ^ k : Nat) := by
  have h1 := c_maskL y m k (by omega) hm
  have h2 := c_l2i (y &&& m)
  rw [h1] at h2
  have h3 := rng32 (y &&& m).toInt32
  have h4 : (2 ^ k : Nat) ≤ 2 ^ 30 := Nat.pow_le_pow_right (by decide) hk
  have h5 : 0 < (2 ^ k : Nat) := Nat.pow_pos (by decide)
  have h6 := Int.emod_nonneg y.toInt (b := ((2 ^ k : Nat) : Int)) (by omega)
  have h7 := Int.emod_lt_of_pos y.toInt (b := ((2 ^ k : Nat) : Int)) (by omega)
  omega
theorem b255L (y : Int64) : ¬ (y &&& (255 : Int64)).toInt32 < 0 ∧ ¬ (255 : Int32) < (y &&& (255 : Int64)).toInt32 := by
  have h := l2i_mask (y := y) (m := 255) (k := 8) (by decide) (by decide)
  rw [Int32.lt_iff_toInt_lt, Int32.lt_iff_toInt_lt, h]
  have e1 : (0 : Int32).toInt = 0 := rfl
  have e2 : (255 : Int32).toInt = 255 := rfl
  omega
theorem ofNat_toInt {n : Nat} (h : n < 2 ^ 31) : (Int32.ofNat n).toInt = n := len_toInt h
theorem ofNat_lt {i n : Nat} (hi : i < 2 ^ 31) (hn : n < 2 ^ 31) : Int32.ofNat i < Int32.ofNat n ↔ i < n := by
  rw [Int32.lt_iff_toInt_lt, ofNat_toInt hi, ofNat_toInt hn]; omega
theorem Str.at {i : Nat} (S : Str Z h a cs) (hi : i < cs.length) : ¬ cs.getD i 0 < 0 ∧ ¬ (255 : Int32) < cs.getD i 0 := by
  obtain ⟨b, kb, -, -, -, -, -, q⟩ := S
  have e : cs.getD i 0 = cs[i] := by simp [List.getD_eq_getElem?_getD, hi]
  rw [e]; exact q _ (List.getElem_mem _)
theorem Str.len (S : Str Z h a cs) : cs.length ≤ 4000 := by obtain ⟨b, kb, -, -, -, -, q, -⟩ := S; exact q
theorem refCat {v : Value} (h : v.isRef = true) : v.category = 1 := by rcases ref_cases h with rfl | ⟨a, rfl⟩ <;> rfl
/-- a truth as an int -/
def bi (P : Prop) [Decidable P] : Int32 := if P then 1 else 0
theorem bi_t {P : Prop} [Decidable P] (h : P) : bi P = 1 := if_pos h
theorem bi_f {P : Prop} [Decidable P] (h : ¬ P) : bi P = 0 := if_neg h
theorem bi0 {P : Prop} [Decidable P] : bi P = 0 ↔ ¬ P := by unfold bi; by_cases h : P <;> simp [h]
theorem bi1 {P : Prop} [Decidable P] : bi P = 1 ↔ P := by unfold bi; by_cases h : P <;> simp [h]
theorem bi_iff {P Q : Prop} [Decidable P] [Decidable Q] (h : P ↔ Q) : bi P = bi Q := by unfold bi; by_cases q : Q <;> simp [q, h]
theorem bi01 (P : Prop) [Decidable P] : bi P = 0 ∨ bi P = 1 := by unfold bi; by_cases h : P <;> simp [h]
theorem biZ (P : Prop) [Decidable P] : narrow .boolean (.int (bi P)) = .int (bi P) := narZ (bi01 P)
/-- a class that is no subclass of K -/
theorem noSub {C K O : String} {nk : Nat} (hC : (Jvm.Cond.superclass C O).before a0 Z = true) (hO : (Jvm.Cond.noSuperclass O).before a0 Z = true) (hK : (Jvm.Cond.instantiable K nk).before a0 Z = true) (n1 : C ≠ K) (n2 : O ≠ K) : ∃ c t, Z.vm.findClass C = some c ∧ Z.vm.findClass K = some t ∧ Z.vm.assignable c t = false := by
  obtain ⟨t, kt, g1, g2, g3, g4⟩ := Cond.instantiable_spec hK
  obtain ⟨o, ko, o1, o2, o3, -, -⟩ := Cond.noSuperclass_spec hO
  obtain ⟨c, h0⟩ := found_sup hC
  obtain ⟨p, k, kp, h1, h2, h3, h4, h5, -, h7⟩ := Cond.superclass_spec h0 hC
  cases o1.symm.trans h1
  have ne := ids_ne h0 g1 n1
  have no := ids_ne o1 g1 n2
  refine ⟨c, t, h0, g1, ?_⟩
  have sub : ∀ fuel, Z.vm.isSubclassAux fuel c t = false := fun fuel => by
    cases fuel with
    | zero => rfl
    | succ f =>
      cases f with
      | zero => simp [Vm.isSubclassAux, ne, h2, h4]
      | succ f => simp [Vm.isSubclassAux, ne, h2, h4, no, o2, o3]
  have g5 : kt.isInterface = false := by
    have q := g4.1
    simp only [Bool.or_eq_false_iff] at q
    exact q.1
  show Z.vm.assignableAux (255 + 1) c t = false
  simp [Vm.assignableAux, ne, h2, g2, h5, g3, g5, Vm.isSubclass, sub]
end Facts
end Jvm.Own
/- laws to paste: Road.backV (cut by pick.py; bodies as the Statement names them) -/
namespace Jvm.Pilot.@@N@@
namespace StrChars
open Jvm Sem ClassFile Op Lib Jvm.Stand Jvm.Free.XT Jvm.Free.ALB Jvm.Free.JM Jvm.Free
open Jvm.Lib.Cold (StaticIs)
/-- a char array whose places are chars -/
def Ch (a : Addr) (A : Cell) (U : State) : Prop := Arr .char a A U ∧ Typed .char A
theorem Ch.mv {a : Addr} {A : Cell} {U U' : State} (h : Ch a A U) (hal : U.vm.Alike U'.vm) (hh : U'.heap = U.heap) : Ch a A U' := ⟨h.1.mv hal hh, h.2⟩
theorem Ch.keep {a : Addr} {A : Cell} {U U' : State} (h : Ch a A U) (hal : U.vm.Alike U'.vm) (hk : U'.heap[a]? = some A) : Ch a A U' := ⟨h.1.keep hal hk, h.2⟩
/-- what place i of a char[]'s cell holds -/
def cv (A : Cell) (i : Nat) : Int32 := match A.slots[i]? with | some (.int x) => x | _ => 0
theorem Ch.get {a : Addr} {A : Cell} {U : State} (h : Ch a A U) {i : Nat} (hi : i < A.slots.size) : A.slots[i]? = some (.int (cv A i)) := by
  have e := Array.getElem?_eq_getElem hi
  have f := h.2 i _ e
  unfold cv; rw [e]
  generalize A.slots[i] = v at f
  cases v <;> simp [fits] at f ⊢
/-- the byte that i2b leaves of a char -/
def lo8 (x : Int32) : Int32 := x.toInt8.toInt32
theorem fits_lo8 (y : Int32) : fits .byte (.int (lo8 y)) = true := by
  have h1 := y.toInt8.le_toInt
  have h2 := y.toInt8.toInt_lt
  simp only [lo8, fits, Bool.and_eq_true, decide_eq_true_eq, Int32.le_iff_toInt_le, Int8.toInt_toInt32, show (-128 : Int32).toInt = -128 from by decide, show (127 : Int32).toInt = 127 from by decide]
  omega
/-- A' is A but that each place j of lo .. hi - 1 holds f j -/
def Laid (A A' : Cell) (lo hi : Nat) (f : Nat → Value) : Prop := A'.cls = A.cls ∧ A'.vm = A.vm ∧ A'.slots.size = A.slots.size ∧ ∀ i, A'.slots[i]? = if lo ≤ i ∧ i < hi then some (f i) else A.slots[i]?
theorem Laid.zero (A : Cell) (lo : Nat) (f : Nat → Value) : Laid A A lo (lo + 0) f := ⟨rfl, rfl, rfl, fun i => by rw [if_neg (by omega)]⟩
theorem Laid.step {A Ak : Cell} {lo k : Nat} {f : Nat → Value} {v : Value} (h : Laid A Ak lo k f) (hlo : lo ≤ k) (hk : k < Ak.slots.size) (hv : v = f k) : Laid A (Ak.setSlot k v) lo (k + 1) f := by
  refine ⟨h.1, h.2.1, by simpa [Cell.setSlot] using h.2.2.1, fun i => ?_⟩
  by_cases e : k = i
  · subst e; rw [Cell.slots_setSlot_self v hk, if_pos (by omega), hv]
  · rw [Cell.slots_setSlot_ne v e, h.2.2.2 i]
    by_cases q : lo ≤ i ∧ i < k
    · rw [if_pos q, if_pos (by omega)]
    · rw [if_neg q, if_neg (by omega)]
def U16 : String := "java/lang/StringUTF16"
namespace Cmp5
def yN : MethodName := ⟨"java/lang/StringUTF16", "compress", "([CI[BII)I"⟩
abbrev yB : ByteArray := jdk_52_method_21_code
theorem d0 : decode yB 0 = .ok (.iconst 0, 1) := by decide +kernel
theorem d1 : decode yB 1 = .ok (.istore 5, 2) := by decide +kernel
theorem d3 : decode yB 3 = .ok (.iload 5, 2) := by decide +kernel
theorem d5 : decode yB 5 = .ok (.iload 4, 2) := by decide +kernel
theorem d7 : decode yB 7 = .ok (.if_icmp (.ge) 37, 3) := by decide +kernel
theorem d10 : decode yB 10 = .ok (.aload_n 0, 1) := by decide +kernel
theorem d11 : decode yB 11 = .ok (.iload_n 1, 1) := by decide +kernel
theorem d12 : decode yB 12 = .ok (.caload, 1) := by decide +kernel
theorem d13 : decode yB 13 = .ok (.istore 6, 2) := by decide +kernel
theorem d15 : decode yB 15 = .ok (.iload 6, 2) := by decide +kernel
theorem d17 : decode yB 17 = .ok (.sipush 255, 3) := by decide +kernel
theorem d20 : decode yB 20 = .ok (.if_icmp (.le) 6, 3) := by decide +kernel
theorem d26 : decode yB 26 = .ok (.aload_n 2, 1) := by decide +kernel
theorem d27 : decode yB 27 = .ok (.iload_n 3, 1) := by decide +kernel
theorem d28 : decode yB 28 = .ok (.iload 6, 2) := by decide +kernel
theorem d30 : decode yB 30 = .ok (.i2b, 1) := by decide +kernel
theorem d31 : decode yB 31 = .ok (.bastore, 1) := by decide +kernel
theorem d32 : decode yB 32 = .ok (.iinc 1 1, 3) := by decide +kernel
theorem d35 : decode yB 35 = .ok (.iinc 3 1, 3) := by decide +kernel
theorem d38 : decode yB 38 = .ok (.iinc 5 1, 3) := by decide +kernel
theorem d41 : decode yB 41 = .ok (.goto (-38), 3) := by decide +kernel
theorem d44 : decode yB 44 = .ok (.iload 4, 2) := by decide +kernel
theorem d46 : decode yB 46 = .ok (.ireturn, 1) := by decide +kernel
def site : List Cond := []
def tab : Cond := tabOf yN yB 7 (some .int) site
def P (b : Addr) (A : Cell) (d : Addr) (B : Cell) (o q len : Nat) (args : Array Value) (s : State) : Prop := args = #[.ref b, .int (Int32.ofNat o), .ref d, .int (Int32.ofNat q), .int (Int32.ofNat len)] ∧ Ch b A s ∧ Arr .byte d B s ∧ b ≠ d ∧ o + len ≤ A.slots.size ∧ q + len ≤ B.slots.size ∧ ∀ i, i < len → ¬ 255 < cv A (o + i)
def E (b : Addr) (A : Cell) (d : Addr) (B : Cell) (o q len : Nat) (r : Option Value) (s u : State) : Prop := r = some (.int (Int32.ofNat len)) ∧ ∃ B', Put d B' s u ∧ Laid B B' q (q + len) (fun j => Value.int (lo8 (cv A (o + (j - q)))))
/-- no char of the range above 255: len; the places written hold each char's low byte -/
theorem law (l : Launch) (b : Addr) (A : Cell) (d : Addr) (B : Cell) (o q len : Nat) : Law l yN 5 5 0 0 yB 7 (some .int) site (P b A d B o q len) (E b A d B o q len) (copyLocs d q len) 0 0 := by
  refine Law.of_walk (plainFor_of_name (by decide +kernel)) (by decide +kernel) (by decide +kernel) (by decide) (fun _ _ h => by rw [h.1]; rfl) (fun _ U U' hal hh h => ⟨h.1, h.2.1.mv hal hh, h.2.2.1.mv hal hh, h.2.2.2⟩) (fun r U U' V V' h1 hal h2 h => ⟨h.1, h.2.elim fun B' q => ⟨B', q.1.mv h1 h2, q.2⟩⟩) ?_
  intro p e s m args below meth c s₁ X0 hexec hbytes hml hret hlk hnm hown hh0 W hP
  obtain ⟨rfl, hA, hB, hne, l1, l2, hp⟩ := hP
  have c1 : Steps p.tables e below (s₁.setTop (entryFrame m #[.ref b, .int (Int32.ofNat o), .ref d, .int (Int32.ofNat q), .int (Int32.ofNat len)] 7)) (s₁.setTop (mkF m 0 #[.val (.ref b), .val (.int (Int32.ofNat o)), .val (.ref d), .val (.int (Int32.ofNat q)), .val (.int (Int32.ofNat len)), .unset, .unset] [])) := entry rfl
  have hA0 := hA.1.mv X0.warmed.alike hh0
  have hB0 := hB.mv X0.warmed.alike hh0
  have a31 := hA.1.2.2.2
  have c2 : Steps p.tables e below (s₁.setTop (entryFrame m #[.ref b, .int (Int32.ofNat o), .ref d, .int (Int32.ofNat q), .int (Int32.ofNat len)] 7)) (s₁.setTop (mkF m 3 #[.val (.ref b), .val (.int (Int32.ofNat o)), .val (.ref d), .val (.int (Int32.ofNat q)), .val (.int (Int32.ofNat len)), .val (.int 0), .unset] [])) := c1.trans (by
    refine iconstV X0.here hexec rfl 0 (hb hbytes d0) (by decide) ?_
    refine XS.istore X0.here hexec rfl (hb hbytes d1) rfl rfl ?_
    exact Steps.refl _)
  have loop : ∀ (r i : Nat), i + r = len → ∀ (z : Slot), (z = .unset ∨ ∃ w, z = .val w ∧ w.category = 1) → ∀ (Tl : State) (Bk : Cell), Stand p l e { frames := 0, locals := 0, cells := 0, slots := 0 } s m #[.ref b, .int (Int32.ofNat o), .ref d, .int (Int32.ofNat q), .int (Int32.ofNat len)] below meth c Tl ([] ++ copyLocs d q i) 0 0 → Put d Bk s₁ Tl → Laid B Bk q (q + i) (fun j => Value.int (lo8 (cv A (o + (j - q))))) →
      Steps p.tables e below (s₁.setTop (entryFrame m #[.ref b, .int (Int32.ofNat o), .ref d, .int (Int32.ofNat q), .int (Int32.ofNat len)] 7)) (Tl.setTop (mkF m 3 #[.val (.ref b), .val (.int (Int32.ofNat (o + i))), .val (.ref d), .val (.int (Int32.ofNat (q + i))), .val (.int (Int32.ofNat len)), .val (.int (Int32.ofNat i)), z] [])) → ∃ (T' : State) (B' : Cell) (z' : Slot), Stand p l e { frames := 0, locals := 0, cells := 0, slots := 0 } s m #[.ref b, .int (Int32.ofNat o), .ref d, .int (Int32.ofNat q), .int (Int32.ofNat len)] below meth c T' ([] ++ copyLocs d q len) 0 0 ∧ Put d B' s₁ T' ∧ Laid B B' q (q + len) (fun j => Value.int (lo8 (cv A (o + (j - q))))) ∧
      Steps p.tables e below (s₁.setTop (entryFrame m #[.ref b, .int (Int32.ofNat o), .ref d, .int (Int32.ofNat q), .int (Int32.ofNat len)] 7)) (T'.setTop (mkF m 3 #[.val (.ref b), .val (.int (Int32.ofNat (o + len))), .val (.ref d), .val (.int (Int32.ofNat (q + len))), .val (.int (Int32.ofNat len)), .val (.int (Int32.ofNat len)), z'] [])) := by
    intro r
    induction r with
    | zero =>
      intro i hi z hz Tl Bk Xl pl fl cl
      have hil : i = len := by omega
      rw [hil] at Xl fl cl
      exact ⟨Tl, Bk, z, Xl, pl, fl, cl⟩
    | succ r ih =>
      intro i hi z hz Tl Bk Xl pl fl cl
      have all := X0.warmed.alike.symm.trans Xl.warmed.alike
      have hAl := hA0.keep all (pl.other hne hA0.1)
      have hBk := hB0.like all pl.1 fl.1 fl.2.1 fl.2.2.1
      have hlt : q + i < Bk.slots.size := by rw [fl.2.2.1]; omega
      have c3 : Steps p.tables e below (s₁.setTop (entryFrame m #[.ref b, .int (Int32.ofNat o), .ref d, .int (Int32.ofNat q), .int (Int32.ofNat len)] 7)) (Tl.setTop (mkF m 12 #[.val (.ref b), .val (.int (Int32.ofNat (o + i))), .val (.ref d), .val (.int (Int32.ofNat (q + i))), .val (.int (Int32.ofNat len)), .val (.int (Int32.ofNat i)), z] [.int (Int32.ofNat (o + i)), .ref b])) := cl.trans (by
        refine XS.iload Xl.here hexec rfl (hb hbytes d3) rfl ?_
        refine XS.iload Xl.here hexec rfl (hb hbytes d5) rfl ?_
        refine XS.icmpNo Xl.here hexec rfl (hb hbytes d7) rfl (ii_ge_f (lt32 (by omega) (by omega))) ?_
        refine XS.aloadN Xl.here hexec rfl (hb hbytes d10) rfl rfl ?_
        refine XS.iloadN Xl.here hexec rfl (hb hbytes d11) rfl ?_
        exact Steps.refl _)
      have c4 : Steps p.tables e below (s₁.setTop (entryFrame m #[.ref b, .int (Int32.ofNat o), .ref d, .int (Int32.ofNat q), .int (Int32.ofNat len)] 7)) (Tl.setTop (mkF m 13 #[.val (.ref b), .val (.int (Int32.ofNat (o + i))), .val (.ref d), .val (.int (Int32.ofNat (q + i))), .val (.int (Int32.ofNat len)), .val (.int (Int32.ofNat i)), z] [.int (cv A (o + i))])) := c3.trans (by
        refine Xl.aget hexec hAl rfl (hA.get (i := o + i) (by omega)) rfl rfl (hb hbytes d12) ?_
        exact Steps.refl _)
      have c5 : Steps p.tables e below (s₁.setTop (entryFrame m #[.ref b, .int (Int32.ofNat o), .ref d, .int (Int32.ofNat q), .int (Int32.ofNat len)] 7)) (Tl.setTop (mkF m 15 #[.val (.ref b), .val (.int (Int32.ofNat (o + i))), .val (.ref d), .val (.int (Int32.ofNat (q + i))), .val (.int (Int32.ofNat len)), .val (.int (Int32.ofNat i)), .val (.int (cv A (o + i)))] [])) := c4.trans (by
        refine XS.istoreS Xl.here hexec rfl (hb hbytes d13) rfl rfl hz ?_
        exact Steps.refl _)
      have c6 : Steps p.tables e below (s₁.setTop (entryFrame m #[.ref b, .int (Int32.ofNat o), .ref d, .int (Int32.ofNat q), .int (Int32.ofNat len)] 7)) (Tl.setTop (mkF m 31 #[.val (.ref b), .val (.int (Int32.ofNat (o + i))), .val (.ref d), .val (.int (Int32.ofNat (q + i))), .val (.int (Int32.ofNat len)), .val (.int (Int32.ofNat i)), .val (.int (cv A (o + i)))] [.int (lo8 (cv A (o + i))), .int (Int32.ofNat (q + i)), .ref d])) := c5.trans (by
        refine XS.iload Xl.here hexec rfl (hb hbytes d15) rfl ?_
        refine sipushV Xl.here hexec rfl 255 (hb hbytes d17) (by decide) ?_
        refine XS.icmpYes Xl.here hexec rfl (pc0 := 20) rfl (hb hbytes d20) rfl (ii_le_t (hp i (by omega))) (by decide) rfl ?_
        refine XS.aloadN Xl.here hexec rfl (hb hbytes d26) rfl rfl ?_
        refine XS.iloadN Xl.here hexec rfl (hb hbytes d27) rfl ?_
        refine XS.iload Xl.here hexec rfl (hb hbytes d28) rfl ?_
        refine i2b Xl.here hexec rfl (hb hbytes d30) rfl ?_
        exact Steps.refl _)
      obtain ⟨T7, X7, p7, st7⟩ := Xl.aput hexec hBk rfl hlt rfl (fits_lo8 (cv A (o + i))) (g := (mkF m 31 #[.val (.ref b), .val (.int (Int32.ofNat (o + i))), .val (.ref d), .val (.int (Int32.ofNat (q + i))), .val (.int (Int32.ofNat len)), .val (.int (Int32.ofNat i)), .val (.int (cv A (o + i)))] [.int (lo8 (cv A (o + i))), .int (Int32.ofNat (q + i)), .ref d])) rfl (rest := []) rfl (hb hbytes d31)
      have c8 : Steps p.tables e below (s₁.setTop (entryFrame m #[.ref b, .int (Int32.ofNat o), .ref d, .int (Int32.ofNat q), .int (Int32.ofNat len)] 7)) (T7.setTop (mkF m 32 #[.val (.ref b), .val (.int (Int32.ofNat (o + i))), .val (.ref d), .val (.int (Int32.ofNat (q + i))), .val (.int (Int32.ofNat len)), .val (.int (Int32.ofNat i)), .val (.int (cv A (o + i)))] [])) := c6.trans (st7 _ (Steps.refl _))
      have c9 : Steps p.tables e below (s₁.setTop (entryFrame m #[.ref b, .int (Int32.ofNat o), .ref d, .int (Int32.ofNat q), .int (Int32.ofNat len)] 7)) (T7.setTop (mkF m 3 #[.val (.ref b), .val (.int (Int32.ofNat (o + i) + 1)), .val (.ref d), .val (.int (Int32.ofNat (q + i) + 1)), .val (.int (Int32.ofNat len)), .val (.int (Int32.ofNat i + 1)), .val (.int (cv A (o + i)))] [])) := c8.trans (by
        refine iincV X7.here hexec rfl 1 (hb hbytes d32) (by decide) rfl rfl ?_
        refine iincV X7.here hexec rfl 1 (hb hbytes d35) (by decide) rfl rfl ?_
        refine iincV X7.here hexec rfl 1 (hb hbytes d38) (by decide) rfl rfl ?_
        refine XS.goto X7.here hexec rfl (pc0 := 41) rfl (hb hbytes d41) (by decide) rfl ?_
        exact Steps.refl _)
      have c10 : Steps p.tables e below (s₁.setTop (entryFrame m #[.ref b, .int (Int32.ofNat o), .ref d, .int (Int32.ofNat q), .int (Int32.ofNat len)] 7)) (T7.setTop (mkF m 3 #[.val (.ref b), .val (.int (Int32.ofNat (o + (i + 1)))), .val (.ref d), .val (.int (Int32.ofNat (q + (i + 1)))), .val (.int (Int32.ofNat len)), .val (.int (Int32.ofNat (i + 1))), .val (.int (cv A (o + i)))] [])) := by
        have := c9
        rw [succ32, succ32, succ32] at this
        exact this
      exact ih (i + 1) (by omega) _ (Or.inr ⟨_, rfl, rfl⟩) T7 _ (by rw [copyLocs_step, ← List.append_assoc]; exact X7) (pl.trans p7) (fl.step (by omega) hlt (by simp)) c10
  obtain ⟨T9, B9, z9, X9, p9, f9, g9⟩ := loop len 0 (by omega) .unset (Or.inl rfl) s₁ B (by simpa [copyLocs] using X0) ⟨hB0.1, fun _ _ => rfl, rfl⟩ (Laid.zero _ _ _) c2
  have c11 : Steps p.tables e below (s₁.setTop (entryFrame m #[.ref b, .int (Int32.ofNat o), .ref d, .int (Int32.ofNat q), .int (Int32.ofNat len)] 7)) (T9.setTop (mkF m 46 #[.val (.ref b), .val (.int (Int32.ofNat (o + len))), .val (.ref d), .val (.int (Int32.ofNat (q + len))), .val (.int (Int32.ofNat len)), .val (.int (Int32.ofNat len)), z9] [.int (Int32.ofNat len)])) := g9.trans (by
    refine XS.iload X9.here hexec rfl (hb hbytes d3) rfl ?_
    refine XS.iload X9.here hexec rfl (hb hbytes d5) rfl ?_
    refine XS.icmpYes X9.here hexec rfl (pc0 := 7) rfl (hb hbytes d7) rfl (ii_ge_t (nlt32 (by omega) (Nat.le_refl _))) (by decide) rfl ?_
    refine XS.iload X9.here hexec rfl (hb hbytes d44) rfl ?_
    exact Steps.refl _)
  exact ⟨T9, some (.int (Int32.ofNat len)), _, _, _, X9, by simp, rfl, rfl, (fun h => by cases h), ⟨rfl, B9, p9.from hh0, f9⟩, fun fs hl => c11.trans (X9.ireturnOut hexec hret rfl (Or.inl rfl) (hb hbytes d46) hl)⟩
end Cmp5
namespace Cmp3
def yN : MethodName := ⟨"java/lang/StringUTF16", "compress", "([CII)[B"⟩
abbrev yB : ByteArray := jdk_52_method_16_code
theorem d0 : decode yB 0 = .ok (.iload_n 2, 1) := by decide +kernel
theorem d1 : decode yB 1 = .ok (.newarray .byte, 2) := by decide +kernel
theorem d3 : decode yB 3 = .ok (.astore_n 3, 1) := by decide +kernel
theorem d4 : decode yB 4 = .ok (.aload_n 0, 1) := by decide +kernel
theorem d5 : decode yB 5 = .ok (.iload_n 1, 1) := by decide +kernel
theorem d6 : decode yB 6 = .ok (.aload_n 3, 1) := by decide +kernel
theorem d7 : decode yB 7 = .ok (.iconst 0, 1) := by decide +kernel
theorem d8 : decode yB 8 = .ok (.iload_n 2, 1) := by decide +kernel
theorem d9 : decode yB 9 = .ok (.invokestatic 115, 3) := by decide +kernel
theorem d12 : decode yB 12 = .ok (.istore 4, 2) := by decide +kernel
theorem d14 : decode yB 14 = .ok (.iload 4, 2) := by decide +kernel
theorem d16 : decode yB 16 = .ok (.iload_n 2, 1) := by decide +kernel
theorem d17 : decode yB 17 = .ok (.if_icmp (.eq) 40, 3) := by decide +kernel
theorem d57 : decode yB 57 = .ok (.aload_n 3, 1) := by decide +kernel
theorem d58 : decode yB 58 = .ok (.areturn, 1) := by decide +kernel
def site : List Cond := [.arrayClass .byte, Cmp5.tab] ++ staticW U16 115 Cmp5.yN
def tab : Cond := tabOf yN yB 6 (some (.array .byte)) site
def P (b : Addr) (A : Cell) (o len : Nat) (args : Array Value) (s : State) : Prop := args = #[.ref b, .int (Int32.ofNat o), .int (Int32.ofNat len)] ∧ Ch b A s ∧ o + len ≤ A.slots.size ∧ len ≤ 536870912 ∧ ∀ i, i < len → ¬ 255 < cv A (o + i)
def E (b : Addr) (A : Cell) (o len : Nat) (r : Option Value) (s u : State) : Prop := NewArr .byte "[B" len (fun j => .int (lo8 (cv A (o + j)))) r s u ∧ u.heap.size = s.heap.size + 1
/-- no char of the range above 255: a new byte[] of their low bytes -/
theorem law (l : Launch) (b : Addr) (A : Cell) (o len : Nat) : Law l yN 3 3 1 18 yB 6 (some (.array .byte)) site (P b A o len) (E b A o len) [] 1 len := by
  refine Law.of_walk (plainFor_of_name (by decide +kernel)) (by decide +kernel) (by decide +kernel) (by decide) (fun _ _ h => by rw [h.1]; rfl) (fun _ U U' hal hh h => ⟨h.1, h.2.1.mv hal hh, h.2.2⟩) (fun r U U' V V' h1 hal h2 h => ⟨NewArr.mv r U U' V V' h1 hal h2 h.1, by rw [h1, h2]; exact h.2⟩) ?_
  intro p e s m args below meth c s₁ X0 hexec hbytes hml hret hlk hnm hown hh0 W hP
  obtain ⟨rfl, hA, l1, l2, hp⟩ := hP
  have a31 := hA.1.2.2.2
  have c1 : Steps p.tables e below (s₁.setTop (entryFrame m #[.ref b, .int (Int32.ofNat o), .int (Int32.ofNat len)] 6)) (s₁.setTop (mkF m 0 #[.val (.ref b), .val (.int (Int32.ofNat o)), .val (.int (Int32.ofNat len)), .unset, .unset, .unset] [])) := entry rfl
  have c2 : Steps p.tables e below (s₁.setTop (entryFrame m #[.ref b, .int (Int32.ofNat o), .int (Int32.ofNat len)] 6)) (s₁.setTop (mkF m 1 #[.val (.ref b), .val (.int (Int32.ofNat o)), .val (.int (Int32.ofNat len)), .unset, .unset, .unset] [.int (Int32.ofNat len)])) := c1.trans (by
    refine XS.iloadN X0.here hexec rfl (hb hbytes d0) rfl ?_
    exact Steps.refl _)
  obtain ⟨T3, B3, X3, ba3, bs3, bv3, bh3, bf3, st3⟩ := X0.anew hexec (atype := .byte) (wk W (.arrayClass .byte)) rfl (by show len * 1 ≤ _; omega) (by omega) (g := (mkF m 1 #[.val (.ref b), .val (.int (Int32.ofNat o)), .val (.int (Int32.ofNat len)), .unset, .unset, .unset] [.int (Int32.ofNat len)])) rfl (hb hbytes d1) (rest := []) rfl (Nat.le_refl _) (by show 0 + len ≤ len; omega)
  rw [hh0] at ba3 st3
  have kp3 : XT.Kept s T3 := (XT.Kept.of_eq hh0).push bh3
  have hA3 := hA.keep X3.warmed.alike (kp3 _ _ hA.1.1)
  have hne : b ≠ s.heap.size := hA.1.ne
  have c4 : Steps p.tables e below (s₁.setTop (entryFrame m #[.ref b, .int (Int32.ofNat o), .int (Int32.ofNat len)] 6)) (T3.setTop (mkF m 3 #[.val (.ref b), .val (.int (Int32.ofNat o)), .val (.int (Int32.ofNat len)), .unset, .unset, .unset] [.ref s.heap.size])) := c2.trans (st3 _ (Steps.refl _))
  have c5 : Steps p.tables e below (s₁.setTop (entryFrame m #[.ref b, .int (Int32.ofNat o), .int (Int32.ofNat len)] 6)) (T3.setTop (mkF m 9 #[.val (.ref b), .val (.int (Int32.ofNat o)), .val (.int (Int32.ofNat len)), .val (.ref s.heap.size), .unset, .unset] [.int (Int32.ofNat len), .int 0, .ref s.heap.size, .int (Int32.ofNat o), .ref b])) := c4.trans (by
    refine XS.astoreN X3.here hexec rfl (hb hbytes d3) rfl rfl rfl ?_
    refine XS.aloadN X3.here hexec rfl (hb hbytes d4) rfl rfl ?_
    refine XS.iloadN X3.here hexec rfl (hb hbytes d5) rfl ?_
    refine XS.aloadN X3.here hexec rfl (hb hbytes d6) rfl rfl ?_
    refine iconstV X3.here hexec rfl 0 (hb hbytes d7) (by decide) ?_
    refine XS.iloadN X3.here hexec rfl (hb hbytes d8) rfl ?_
    exact Steps.refl _)
  obtain ⟨v6, T6, X6, E6, g6⟩ := X3.callS hexec (Cmp5.law l b A s.heap.size B3 o 0 len) hown (wks W (staticW U16 115 Cmp5.yN)) (wk W Cmp5.tab) (W := 0) (Nat.le_of_ble_eq_true rfl) (Nat.le_of_ble_eq_true rfl) (Nat.le_refl _) (by show 0 + len + 0 ≤ len; omega) (g := (mkF m 9 #[.val (.ref b), .val (.int (Int32.ofNat o)), .val (.int (Int32.ofNat len)), .val (.ref s.heap.size), .unset, .unset] [.int (Int32.ofNat len), .int (Int32.ofNat 0), .ref s.heap.size, .int (Int32.ofNat o), .ref b])) rfl (by rw [hml]; rfl) c5 (argsL := [.ref b, .int (Int32.ofNat o), .ref s.heap.size, .int (Int32.ofNat 0), .int (Int32.ofNat len)]) (rest := []) rfl rfl (by show 2 * 0 + 0 ≤ _; decide) (hb hbytes d9) (⟨rfl, hA3, ba3, hne, l1, by rw [bs3]; simp, hp⟩)
  obtain ⟨rfl, B6, p6, f6⟩ := E6
  have c7 : Steps p.tables e below (s₁.setTop (entryFrame m #[.ref b, .int (Int32.ofNat o), .int (Int32.ofNat len)] 6)) (T6.setTop (mkF m 12 #[.val (.ref b), .val (.int (Int32.ofNat o)), .val (.int (Int32.ofNat len)), .val (.ref s.heap.size), .unset, .unset] [.int (Int32.ofNat len)])) := g6
  have c8 : Steps p.tables e below (s₁.setTop (entryFrame m #[.ref b, .int (Int32.ofNat o), .int (Int32.ofNat len)] 6)) (T6.setTop (mkF m 58 #[.val (.ref b), .val (.int (Int32.ofNat o)), .val (.int (Int32.ofNat len)), .val (.ref s.heap.size), .val (.int (Int32.ofNat len)), .unset] [.ref s.heap.size])) := c7.trans (by
    refine XS.istore X6.here hexec rfl (hb hbytes d12) rfl rfl ?_
    refine XS.iload X6.here hexec rfl (hb hbytes d14) rfl ?_
    refine XS.iloadN X6.here hexec rfl (hb hbytes d16) rfl ?_
    refine XS.icmpYes X6.here hexec rfl (pc0 := 17) rfl (hb hbytes d17) rfl (ii_eq_t rfl) (by decide) rfl ?_
    refine XS.aloadN X6.here hexec rfl (hb hbytes d57) rfl rfl ?_
    exact Steps.refl _)
  have X8 := X6.wide (L' := []) (cells' := 1) (slots' := len) (fun x hx hlt => by
    simp only [List.nil_append, copyLocs, List.mem_map, List.mem_range] at hx
    obtain ⟨i, -, rfl⟩ := hx
    exact absurd hlt (Nat.lt_irrefl _)) (Nat.le_refl _) (by omega)
  exact ⟨T6, some (.ref s.heap.size), _, _, _, X8, rfl, rfl, rfl, (fun h => by cases h), ⟨⟨rfl, B6, ba3.like (X3.warmed.alike.symm.trans X6.warmed.alike) p6.1 f6.1 f6.2.1 f6.2.2.1, f6.2.1.trans bv3, by rw [X6.warmed.alike.findClass, f6.1]; exact bf3, by rw [f6.2.2.1, bs3]; simp, fun j hj => by rw [f6.2.2.2 j, if_pos (by omega)]; rfl, kp3.put p6 (Nat.le_refl _)⟩, by rw [p6.2.2, bh3, hh0]; simp⟩, fun fs hl => c8.trans (X8.areturnOut hexec rfl hret rfl (hb hbytes d58) hl)⟩
end Cmp3
namespace CodL
def yN : MethodName := ⟨"java/lang/StringUTF16", "coderFromArrayLen", "([BI)B"⟩
abbrev yB : ByteArray := jdk_52_method_15_code
theorem d0 : decode yB 0 = .ok (.iload_n 1, 1) := by decide +kernel
theorem d1 : decode yB 1 = .ok (.aload_n 0, 1) := by decide +kernel
theorem d2 : decode yB 2 = .ok (.arraylength, 1) := by decide +kernel
theorem d3 : decode yB 3 = .ok (.isub, 1) := by decide +kernel
theorem d4 : decode yB 4 = .ok (.bipush 31, 2) := by decide +kernel
theorem d6 : decode yB 6 = .ok (.iushr, 1) := by decide +kernel
theorem d7 : decode yB 7 = .ok (.i2b, 1) := by decide +kernel
theorem d8 : decode yB 8 = .ok (.ireturn, 1) := by decide +kernel
def site : List Cond := []
def tab : Cond := tabOf yN yB 2 (some .byte) site
def P (d : Addr) (B : Cell) (args : Array Value) (s : State) : Prop := args = #[.ref d, .int (Int32.ofNat B.slots.size)] ∧ Arr .byte d B s
def E (r : Option Value) (s u : State) : Prop := XT.PureE (some (.int 0)) r s u
/-- an array as long as the number of chars: LATIN1 -/
theorem law (l : Launch) (d : Addr) (B : Cell) : Law l yN 2 2 0 0 yB 2 (some .byte) site (P d B) E [] 0 0 := by
  refine Law.of_walk (plainFor_of_name (by decide +kernel)) (by decide +kernel) (by decide +kernel) (by decide) (fun _ _ h => by rw [h.1]; rfl) (fun _ U U' hal hh h => ⟨h.1, h.2.mv hal hh⟩) (fun r U U' V V' h1 hal h2 h => XT.PureE.mv r U U' V V' h1 hal h2 h) ?_
  intro p e s m args below meth c s₁ X0 hexec hbytes hml hret hlk hnm hown hh0 W hP
  obtain ⟨rfl, hB⟩ := hP
  have hB0 := hB.mv X0.warmed.alike hh0
  have c1 : Steps p.tables e below (s₁.setTop (entryFrame m #[.ref d, .int (Int32.ofNat B.slots.size)] 2)) (s₁.setTop (mkF m 0 #[.val (.ref d), .val (.int (Int32.ofNat B.slots.size))] [])) := entry rfl
  have c2 : Steps p.tables e below (s₁.setTop (entryFrame m #[.ref d, .int (Int32.ofNat B.slots.size)] 2)) (s₁.setTop (mkF m 2 #[.val (.ref d), .val (.int (Int32.ofNat B.slots.size))] [.ref d, .int (Int32.ofNat B.slots.size)])) := c1.trans (by
    refine XS.iloadN X0.here hexec rfl (hb hbytes d0) rfl ?_
    refine XS.aloadN X0.here hexec rfl (hb hbytes d1) rfl rfl ?_
    exact Steps.refl _)
  have c3 : Steps p.tables e below (s₁.setTop (entryFrame m #[.ref d, .int (Int32.ofNat B.slots.size)] 2)) (s₁.setTop (mkF m 8 #[.val (.ref d), .val (.int (Int32.ofNat B.slots.size))] [.int (lo8 (ushr (Int32.ofNat B.slots.size - Int32.ofNat B.slots.size) 31))])) := c2.trans (by
    refine X0.alen hexec hB0 rfl rfl (hb hbytes d2) ?_
    refine XS.isub X0.here hexec rfl (hb hbytes d3) rfl ?_
    refine bipushV X0.here hexec rfl 31 (hb hbytes d4) (by decide) ?_
    refine iushr X0.here hexec rfl (hb hbytes d6) rfl ?_
    refine i2b X0.here hexec rfl (hb hbytes d7) rfl ?_
    exact Steps.refl _)
  have e0 : lo8 (ushr (Int32.ofNat B.slots.size - Int32.ofNat B.slots.size) 31) = 0 := by rw [Int32.sub_self]; decide
  rw [e0] at c3
  exact ⟨s₁, some (.int 0), _, _, _, X0, rfl, rfl, rfl, (fun h => by cases h), ⟨rfl, hh0⟩, fun fs hl => c3.trans (X0.ireturnOut hexec hret rfl (Or.inr (Or.inr (Or.inl rfl))) (hb hbytes d8) hl)⟩
end CodL
/-- the String at a is Latin-1 over a new byte[] (the heap's one new cell): the low bytes of the len chars of A from o on; every cell but a is kept -/
def Got (a : Addr) (D : Cell) (fV fC : Field) (A : Cell) (o len : Nat) (r : Option Value) (s u : State) : Prop := r = none ∧ ∃ D' V : Cell, Blank "java/lang/String" a D' u ∧ Same D D' [fV.slot, fC.slot] ∧ D'.slots[fV.slot]? = some (.ref s.heap.size) ∧ D'.slots[fC.slot]? = some (.int 0) ∧ Arr .byte s.heap.size V u ∧ V.vm = .none ∧ u.vm.findClass "[B" = some V.cls ∧ V.slots.size = len ∧ (∀ j, j < len → V.slots[j]? = some (.int (lo8 (cv A (o + j))))) ∧ (∀ (y : Addr) (c : Cell), y ≠ a → s.heap[y]? = some c → u.heap[y]? = some c) ∧ u.heap.size = s.heap.size + 1
theorem Got.mv {a : Addr} {D A : Cell} {fV fC : Field} {o len : Nat} : ∀ r (U U' V V' : State), U'.heap = U.heap → V.vm.Alike V'.vm → V'.heap = V.heap → Got a D fV fC A o len r U V → Got a D fV fC A o len r U' V' :=
  fun r U U' V V' h1 hal h2 ⟨e0, D', X, a1, a2, a3, a4, a5, a6, a7, a8, a9, a10, a11⟩ => ⟨e0, D', X, a1.mv hal h2, a2, by rw [h1]; exact a3, a4, by rw [h1]; exact a5.mv hal h2, a6, by rw [hal.findClass]; exact a7, a8, a9, by rw [h1, h2]; exact a10, by rw [h1, h2]; exact a11⟩
namespace New4
def yN : MethodName := ⟨"java/lang/String", "<init>", "([CIILjava/lang/Void;)V"⟩
abbrev yB : ByteArray := jdk_42_method_149_code
theorem d0 : decode yB 0 = .ok (.aload_n 0, 1) := by decide +kernel
theorem d1 : decode yB 1 = .ok (.invokespecial 1, 3) := by decide +kernel
theorem d4 : decode yB 4 = .ok (.iload_n 3, 1) := by decide +kernel
theorem d5 : decode yB 5 = .ok (.ifCond (.ne) 22, 3) := by decide +kernel
theorem d27 : decode yB 27 = .ok (.getstatic 38, 3) := by decide +kernel
theorem d30 : decode yB 30 = .ok (.ifCond (.eq) 28, 3) := by decide +kernel
theorem d33 : decode yB 33 = .ok (.aload_n 1, 1) := by decide +kernel
theorem d34 : decode yB 34 = .ok (.iload_n 2, 1) := by decide +kernel
theorem d35 : decode yB 35 = .ok (.iload_n 3, 1) := by decide +kernel
theorem d36 : decode yB 36 = .ok (.invokestatic 177, 3) := by decide +kernel
theorem d39 : decode yB 39 = .ok (.astore 5, 2) := by decide +kernel
theorem d41 : decode yB 41 = .ok (.aload_n 0, 1) := by decide +kernel
theorem d42 : decode yB 42 = .ok (.aload 5, 2) := by decide +kernel
theorem d44 : decode yB 44 = .ok (.iload_n 3, 1) := by decide +kernel
theorem d45 : decode yB 45 = .ok (.invokestatic 47, 3) := by decide +kernel
theorem d48 : decode yB 48 = .ok (.putfield 15, 3) := by decide +kernel
theorem d51 : decode yB 51 = .ok (.aload_n 0, 1) := by decide +kernel
theorem d52 : decode yB 52 = .ok (.aload 5, 2) := by decide +kernel
theorem d54 : decode yB 54 = .ok (.putfield 9, 3) := by decide +kernel
theorem d57 : decode yB 57 = .ok (.return_, 1) := by decide +kernel
def site : List Cond := [.fieldLink "java/lang/String" 38 "java/lang/String" "COMPACT_STRINGS" "Z", Cmp3.tab, CodL.tab, .laysFinal "java/lang/String" "java/lang/String" "value" "[B", .fieldLink "java/lang/String" 9 "java/lang/String" "value" "[B", .laysFinal "java/lang/String" "java/lang/String" "coder" "B", .fieldLink "java/lang/String" 15 "java/lang/String" "coder" "B"] ++ objW "java/lang/String" 1 ++ staticW "java/lang/String" 177 Cmp3.yN ++ staticW "java/lang/String" 47 CodL.yN
def tab : Cond := tabOf yN yB 6 none site
def P (a : Addr) (D : Cell) (fV fC : Field) (b : Addr) (A : Cell) (z : Int32) (o len : Nat) (args : Array Value) (s : State) : Prop := args = #[.ref a, .ref b, .int (Int32.ofNat o), .int (Int32.ofNat len), .null] ∧ Blank "java/lang/String" a D s ∧ Found "java/lang/String" "value" "[B" fV s ∧ Found "java/lang/String" "coder" "B" fC s ∧ Ch b A s ∧ StaticIs s "java/lang/String" "COMPACT_STRINGS" "Z" (.int z) ∧ ¬ z = 0 ∧ 0 < len ∧ o + len ≤ A.slots.size ∧ len ≤ 536870912 ∧ ∀ i, i < len → ¬ 255 < cv A (o + i)
def E (a : Addr) (D : Cell) (fV fC : Field) (A : Cell) (o len : Nat) (r : Option Value) (s u : State) : Prop := Got a D fV fC A o len r s u
/-- len > 0, no char of the range above 255: a Latin-1 String of their low bytes -/
theorem law (l : Launch) (a : Addr) (D : Cell) (fV fC : Field) (b : Addr) (A : Cell) (z : Int32) (o len : Nat) : Law l yN 5 4 2 35 yB 6 none site (P a D fV fC b A z o len) (E a D fV fC A o len) [⟨a, fC.slot⟩, ⟨a, fV.slot⟩] 1 len := by
  refine Law.of_walk (plainFor_of_name (by decide +kernel)) (by decide +kernel) (by decide +kernel) (by decide) (fun _ _ h => by rw [h.1]; rfl) (fun _ U U' hal hh h => ⟨h.1, h.2.1.mv hal hh, h.2.2.1.al hal, h.2.2.2.1.al hal, h.2.2.2.2.1.mv hal hh, h.2.2.2.2.2.1.there hal hh, h.2.2.2.2.2.2⟩) (fun r U U' V V' h1 hal h2 h => Got.mv r U U' V V' h1 hal h2 h) ?_
  intro p e s m args below meth c s₁ X0 hexec hbytes hml hret hlk hnm hown hh0 W hP
  obtain ⟨rfl, hB, f1, f2, hA, s1, hz, l0, l1, l2, hp⟩ := hP
  have a31 := hA.1.2.2.2
  have c1 : Steps p.tables e below (s₁.setTop (entryFrame m #[.ref a, .ref b, .int (Int32.ofNat o), .int (Int32.ofNat len), .null] 6)) (s₁.setTop (mkF m 0 #[.val (.ref a), .val (.ref b), .val (.int (Int32.ofNat o)), .val (.int (Int32.ofNat len)), .val .null, .unset] [])) := entry rfl
  have c2 : Steps p.tables e below (s₁.setTop (entryFrame m #[.ref a, .ref b, .int (Int32.ofNat o), .int (Int32.ofNat len), .null] 6)) (s₁.setTop (mkF m 1 #[.val (.ref a), .val (.ref b), .val (.int (Int32.ofNat o)), .val (.int (Int32.ofNat len)), .val .null, .unset] [.ref a])) := c1.trans (by
    refine XS.aloadN X0.here hexec rfl (hb hbytes d0) rfl rfl ?_
    exact Steps.refl _)
  obtain ⟨T3, X3, q3, st3⟩ := X0.oinit hexec hown (wks W (objW "java/lang/String" 1)) (g := (mkF m 1 #[.val (.ref a), .val (.ref b), .val (.int (Int32.ofNat o)), .val (.int (Int32.ofNat len)), .val .null, .unset] [.ref a])) rfl (by rw [hml]; rfl) (rest := []) rfl (hb hbytes d1) (W := 0) (by show 2 * 0 + 0 ≤ _; decide) (Nat.le_of_ble_eq_true rfl) (Nat.le_of_ble_eq_true rfl)
  have hh3 := q3.trans hh0
  have c4 : Steps p.tables e below (s₁.setTop (entryFrame m #[.ref a, .ref b, .int (Int32.ofNat o), .int (Int32.ofNat len), .null] 6)) (T3.setTop (mkF m 27 #[.val (.ref a), .val (.ref b), .val (.int (Int32.ofNat o)), .val (.int (Int32.ofNat len)), .val .null, .unset] [])) := (c2.trans (st3 _ (Steps.refl _))).trans (by
    refine XS.iloadN X3.here hexec rfl (hb hbytes d4) rfl ?_
    refine XS.ifYes X3.here hexec rfl (pc0 := 5) rfl (hb hbytes d5) rfl (i0_ne_t (nz32 (by omega) l0)) (by decide) rfl ?_
    exact Steps.refl _)
  obtain ⟨T5, X5, q5, st5⟩ := X3.sget hexec hown (wk W (.fieldLink "java/lang/String" 38 "java/lang/String" "COMPACT_STRINGS" "Z")) s1 (fun _ _ h => by rw [hh3]; exact h) (g := (mkF m 27 #[.val (.ref a), .val (.ref b), .val (.int (Int32.ofNat o)), .val (.int (Int32.ofNat len)), .val .null, .unset] [])) rfl (hb hbytes d27)
  have hh5 := q5.trans hh3
  have c6 : Steps p.tables e below (s₁.setTop (entryFrame m #[.ref a, .ref b, .int (Int32.ofNat o), .int (Int32.ofNat len), .null] 6)) (T5.setTop (mkF m 30 #[.val (.ref a), .val (.ref b), .val (.int (Int32.ofNat o)), .val (.int (Int32.ofNat len)), .val .null, .unset] [.int z])) := c4.trans (st5 _ (Steps.refl _))
  have c7 : Steps p.tables e below (s₁.setTop (entryFrame m #[.ref a, .ref b, .int (Int32.ofNat o), .int (Int32.ofNat len), .null] 6)) (T5.setTop (mkF m 36 #[.val (.ref a), .val (.ref b), .val (.int (Int32.ofNat o)), .val (.int (Int32.ofNat len)), .val .null, .unset] [.int (Int32.ofNat len), .int (Int32.ofNat o), .ref b])) := c6.trans (by
    refine XS.ifNo X5.here hexec rfl (hb hbytes d30) rfl (i0_eq_f hz) ?_
    refine XS.aloadN X5.here hexec rfl (hb hbytes d33) rfl rfl ?_
    refine XS.iloadN X5.here hexec rfl (hb hbytes d34) rfl ?_
    refine XS.iloadN X5.here hexec rfl (hb hbytes d35) rfl ?_
    exact Steps.refl _)
  obtain ⟨v8, T8, X8, E8, g8⟩ := X5.callS hexec (Cmp3.law l b A o len) hown (wks W (staticW "java/lang/String" 177 Cmp3.yN)) (wk W Cmp3.tab) (W := 0) (Nat.le_of_ble_eq_true rfl) (Nat.le_of_ble_eq_true rfl) (Nat.le_refl _) (by show 0 + len ≤ len; omega) (g := (mkF m 36 #[.val (.ref a), .val (.ref b), .val (.int (Int32.ofNat o)), .val (.int (Int32.ofNat len)), .val .null, .unset] [.int (Int32.ofNat len), .int (Int32.ofNat o), .ref b])) rfl (by rw [hml]; rfl) c7 (argsL := [.ref b, .int (Int32.ofNat o), .int (Int32.ofNat len)]) (rest := []) rfl rfl (by show 2 * 0 + 0 ≤ _; decide) (hb hbytes d36) (⟨rfl, hA.mv X5.warmed.alike hh5, l1, l2, hp⟩)
  obtain ⟨e8, z8⟩ := E8
  obtain ⟨rfl, N, n1, n2, n3, n4, n5, n6⟩ := NewArr.mv _ T5 s _ _ hh5.symm (Vm.Alike.refl _) rfl e8
  rw [hh5] at z8
  have hB1 := hB.keep X8.warmed.alike (n6 _ _ hB.1)
  have hne : s.heap.size ≠ a := (Nat.ne_of_lt (Array.getElem?_eq_some_iff.mp hB.1).1).symm
  have c9 : Steps p.tables e below (s₁.setTop (entryFrame m #[.ref a, .ref b, .int (Int32.ofNat o), .int (Int32.ofNat len), .null] 6)) (T8.setTop (mkF m 39 #[.val (.ref a), .val (.ref b), .val (.int (Int32.ofNat o)), .val (.int (Int32.ofNat len)), .val .null, .unset] [.ref s.heap.size])) := g8
  have c10 : Steps p.tables e below (s₁.setTop (entryFrame m #[.ref a, .ref b, .int (Int32.ofNat o), .int (Int32.ofNat len), .null] 6)) (T8.setTop (mkF m 45 #[.val (.ref a), .val (.ref b), .val (.int (Int32.ofNat o)), .val (.int (Int32.ofNat len)), .val .null, .val (.ref s.heap.size)] [.int (Int32.ofNat N.slots.size), .ref s.heap.size, .ref a])) := by
    have hc : Steps p.tables e below (s₁.setTop (entryFrame m #[.ref a, .ref b, .int (Int32.ofNat o), .int (Int32.ofNat len), .null] 6)) (T8.setTop (mkF m 45 #[.val (.ref a), .val (.ref b), .val (.int (Int32.ofNat o)), .val (.int (Int32.ofNat len)), .val .null, .val (.ref s.heap.size)] [.int (Int32.ofNat len), .ref s.heap.size, .ref a])) := c9.trans (by
      refine XS.astore X8.here hexec rfl (hb hbytes d39) rfl rfl rfl ?_
      refine XS.aloadN X8.here hexec rfl (hb hbytes d41) rfl rfl ?_
      refine XS.aload X8.here hexec rfl (hb hbytes d42) rfl rfl ?_
      refine XS.iloadN X8.here hexec rfl (hb hbytes d44) rfl ?_
      exact Steps.refl _)
    rw [n4]; exact hc
  obtain ⟨v11, T11, X11, E11, g11⟩ := X8.callS hexec (CodL.law l s.heap.size N) hown (wks W (staticW "java/lang/String" 47 CodL.yN)) (wk W CodL.tab) (W := 1) (Nat.le_of_ble_eq_true rfl) (Nat.le_of_ble_eq_true rfl) (Nat.le_refl _) (by show 0 + len + 0 ≤ len; omega) (g := (mkF m 45 #[.val (.ref a), .val (.ref b), .val (.int (Int32.ofNat o)), .val (.int (Int32.ofNat len)), .val .null, .val (.ref s.heap.size)] [.int (Int32.ofNat N.slots.size), .ref s.heap.size, .ref a])) rfl (by rw [hml]; rfl) c10 (argsL := [.ref s.heap.size, .int (Int32.ofNat N.slots.size)]) (rest := [.ref a]) rfl rfl (by show 2 * 0 + (1 + 0) ≤ _; decide) (hb hbytes d45) (⟨rfl, n1⟩)
  obtain ⟨rfl, q11⟩ := E11
  have hB11 := hB1.mv (X8.warmed.alike.symm.trans X11.warmed.alike) q11
  have c12 : Steps p.tables e below (s₁.setTop (entryFrame m #[.ref a, .ref b, .int (Int32.ofNat o), .int (Int32.ofNat len), .null] 6)) (T11.setTop (mkF m 48 #[.val (.ref a), .val (.ref b), .val (.int (Int32.ofNat o)), .val (.int (Int32.ofNat len)), .val .null, .val (.ref s.heap.size)] [.int 0, .ref a])) := g11
  obtain ⟨T13, X13, p13, bl13, sl13, st13⟩ := X11.finit hexec hown (wk W (.fieldLink "java/lang/String" 15 "java/lang/String" "coder" "B")) (Or.inr ⟨_, (wk W (.laysFinal "java/lang/String" "java/lang/String" "coder" "B"))⟩) (Or.inl ⟨rfl, hnm⟩) f2 (Or.inl rfl) hB11 (t := .byte) (by decide +kernel) rfl (g := (mkF m 48 #[.val (.ref a), .val (.ref b), .val (.int (Int32.ofNat o)), .val (.int (Int32.ofNat len)), .val .null, .val (.ref s.heap.size)] [.int 0, .ref a])) rfl (rest := []) rfl (hb hbytes d48)
  have c14 : Steps p.tables e below (s₁.setTop (entryFrame m #[.ref a, .ref b, .int (Int32.ofNat o), .int (Int32.ofNat len), .null] 6)) (T13.setTop (mkF m 54 #[.val (.ref a), .val (.ref b), .val (.int (Int32.ofNat o)), .val (.int (Int32.ofNat len)), .val .null, .val (.ref s.heap.size)] [.ref s.heap.size, .ref a])) := (c12.trans (st13 _ (Steps.refl _))).trans (by
    refine XS.aloadN X13.here hexec rfl (hb hbytes d51) rfl rfl ?_
    refine XS.aload X13.here hexec rfl (hb hbytes d52) rfl rfl ?_
    exact Steps.refl _)
  obtain ⟨T15, X15, p15, bl15, sl15, st15⟩ := X13.finit hexec hown (wk W (.fieldLink "java/lang/String" 9 "java/lang/String" "value" "[B")) (Or.inr ⟨_, (wk W (.laysFinal "java/lang/String" "java/lang/String" "value" "[B"))⟩) (Or.inl ⟨rfl, hnm⟩) f1 (Or.inl rfl) bl13 (t := (.array .byte)) (by decide +kernel) rfl (g := (mkF m 54 #[.val (.ref a), .val (.ref b), .val (.int (Int32.ofNat o)), .val (.int (Int32.ofNat len)), .val .null, .val (.ref s.heap.size)] [.ref s.heap.size, .ref a])) rfl (rest := []) rfl (hb hbytes d54)
  have c16 : Steps p.tables e below (s₁.setTop (entryFrame m #[.ref a, .ref b, .int (Int32.ofNat o), .int (Int32.ofNat len), .null] 6)) (T15.setTop (mkF m 57 #[.val (.ref a), .val (.ref b), .val (.int (Int32.ofNat o)), .val (.int (Int32.ofNat len)), .val .null, .val (.ref s.heap.size)] [])) := c14.trans (st15 _ (Steps.refl _))
  have ap := apart (Or.inr ⟨_, (wk W (.laysFinal "java/lang/String" "java/lang/String" "value" "[B"))⟩) (Or.inr ⟨_, (wk W (.laysFinal "java/lang/String" "java/lang/String" "coder" "B"))⟩) f1 f2 (t₁ := .array .byte) (t₂ := .byte) (by decide +kernel) (by decide +kernel) (by decide)
  have al := X8.warmed.alike.symm.trans X15.warmed.alike
  have n7 : T11.heap[s.heap.size]? = some N := by rw [q11]; exact n1.1
  exact ⟨T15, none, _, _, _, X15, by simp, rfl, by omega, (fun _ => rfl), ⟨rfl, _, N, bl15, ((Same.refl D _).set _ (by simp)).set _ (by simp), sl15, (Cell.slots_setSlot_ne _ ap).trans sl13, n1.keep al (p15.other hne (p13.other hne n7)), n2, by rw [al.findClass]; exact n3, n4, n5, fun y c h1 h2 => p15.other h1 (p13.other h1 (by rw [q11]; exact n6 y c h2)), by rw [p15.2.2, p13.2.2, q11]; exact z8⟩, fun fs hl => c16.trans (X15.returnOut hexec hret (hb hbytes d57) hl)⟩
end New4
namespace New1
def yN : MethodName := ⟨"java/lang/String", "<init>", "([C)V"⟩
abbrev yB : ByteArray := jdk_42_method_3_code
theorem d0 : decode yB 0 = .ok (.aload_n 0, 1) := by decide +kernel
theorem d1 : decode yB 1 = .ok (.aload_n 1, 1) := by decide +kernel
theorem d2 : decode yB 2 = .ok (.iconst 0, 1) := by decide +kernel
theorem d3 : decode yB 3 = .ok (.aload_n 1, 1) := by decide +kernel
theorem d4 : decode yB 4 = .ok (.arraylength, 1) := by decide +kernel
theorem d5 : decode yB 5 = .ok (.aconst_null, 1) := by decide +kernel
theorem d6 : decode yB 6 = .ok (.invokespecial 27, 3) := by decide +kernel
theorem d9 : decode yB 9 = .ok (.return_, 1) := by decide +kernel
def site : List Cond := [New4.tab] ++ initW "java/lang/String" 27 New4.yN
def tab : Cond := tabOf yN yB 2 none site
def P (a : Addr) (D : Cell) (fV fC : Field) (b : Addr) (A : Cell) (z : Int32) (args : Array Value) (s : State) : Prop := args = #[.ref a, .ref b] ∧ Blank "java/lang/String" a D s ∧ Found "java/lang/String" "value" "[B" fV s ∧ Found "java/lang/String" "coder" "B" fC s ∧ Ch b A s ∧ StaticIs s "java/lang/String" "COMPACT_STRINGS" "Z" (.int z) ∧ ¬ z = 0 ∧ 0 < A.slots.size ∧ A.slots.size ≤ 536870912 ∧ ∀ i, i < A.slots.size → ¬ 255 < cv A i
def E (a : Addr) (D : Cell) (fV fC : Field) (A : Cell) (r : Option Value) (s u : State) : Prop := Got a D fV fC A 0 A.slots.size r s u
/-- new String(chars), not empty, no char above 255: a Latin-1 String of their low bytes -/
theorem law (l : Launch) (a : Addr) (D : Cell) (fV fC : Field) (b : Addr) (A : Cell) (z : Int32) : Law l yN 2 1 3 52 yB 2 none site (P a D fV fC b A z) (E a D fV fC A) [⟨a, fC.slot⟩, ⟨a, fV.slot⟩] 1 A.slots.size := by
  refine Law.of_walk (plainFor_of_name (by decide +kernel)) (by decide +kernel) (by decide +kernel) (by decide) (fun _ _ h => by rw [h.1]; rfl) (fun _ U U' hal hh h => ⟨h.1, h.2.1.mv hal hh, h.2.2.1.al hal, h.2.2.2.1.al hal, h.2.2.2.2.1.mv hal hh, h.2.2.2.2.2.1.there hal hh, h.2.2.2.2.2.2⟩) (fun r U U' V V' h1 hal h2 h => Got.mv r U U' V V' h1 hal h2 h) ?_
  intro p e s m args below meth c s₁ X0 hexec hbytes hml hret hlk hnm hown hh0 W hP
  obtain ⟨rfl, hB, f1, f2, hA, s1, hz, l0, l2, hp⟩ := hP
  have c1 : Steps p.tables e below (s₁.setTop (entryFrame m #[.ref a, .ref b] 2)) (s₁.setTop (mkF m 0 #[.val (.ref a), .val (.ref b)] [])) := entry rfl
  have c2 : Steps p.tables e below (s₁.setTop (entryFrame m #[.ref a, .ref b] 2)) (s₁.setTop (mkF m 6 #[.val (.ref a), .val (.ref b)] [.null, .int (Int32.ofNat A.slots.size), .int 0, .ref b, .ref a])) := c1.trans (by
    refine XS.aloadN X0.here hexec rfl (hb hbytes d0) rfl rfl ?_
    refine XS.aloadN X0.here hexec rfl (hb hbytes d1) rfl rfl ?_
    refine iconstV X0.here hexec rfl 0 (hb hbytes d2) (by decide) ?_
    refine XS.aloadN X0.here hexec rfl (hb hbytes d3) rfl rfl ?_
    refine X0.alen hexec (hA.1.mv X0.warmed.alike hh0) rfl rfl (hb hbytes d4) ?_
    refine XS.aconstNull X0.here hexec rfl (hb hbytes d5) ?_
    exact Steps.refl _)
  obtain ⟨v3, T3, X3, E3, g3⟩ := X0.callN hexec (New4.law l a D fV fC b A z 0 A.slots.size) rfl hown (wks W (initW "java/lang/String" 27 New4.yN)) (W New4.tab (by simp only [site, List.mem_cons, List.mem_append, true_or, or_true])) (W := 0) (Nat.le_of_ble_eq_true rfl) (Nat.le_of_ble_eq_true rfl) (Nat.le_refl _) (by show 0 + A.slots.size ≤ A.slots.size; omega) (g := (mkF m 6 #[.val (.ref a), .val (.ref b)] [.null, .int (Int32.ofNat A.slots.size), .int (Int32.ofNat 0), .ref b, .ref a])) rfl (by rw [hml]; rfl) c2 (argsL := [.ref b, .int (Int32.ofNat 0), .int (Int32.ofNat A.slots.size), .null]) (rest := []) rfl rfl (by show 2 * 0 + 0 ≤ _; decide) (hb hbytes d6) (⟨rfl, hB.mv X0.warmed.alike hh0, f1.al X0.warmed.alike, f2.al X0.warmed.alike, hA.mv X0.warmed.alike hh0, s1.there X0.warmed.alike hh0, hz, l0, by omega, l2, fun i hi => by rw [Nat.zero_add]; exact hp i hi⟩)
  have e0 := Got.mv _ s₁ s _ _ hh0.symm (Vm.Alike.refl _) rfl E3
  obtain rfl := e0.1
  have c4 : Steps p.tables e below (s₁.setTop (entryFrame m #[.ref a, .ref b] 2)) (T3.setTop (mkF m 9 #[.val (.ref a), .val (.ref b)] [])) := g3
  exact ⟨T3, none, _, _, _, X3, by simp, rfl, by omega, (fun _ => rfl), e0, fun fs hl => c4.trans (X3.returnOut hexec hret (hb hbytes d9) hl)⟩
theorem pays {l : Launch} {R : Room} {p : Program} {e : Env} {below : List Frame} {s : State} {sargs : Array Value} {len W : Nat} (a : Addr) (D : Cell) (fV fC : Field) (b : Addr) (A : Cell) (z : Int32) (htab : tab.before sargs s = true) (hfr : 4 ≤ R.frames) (hlo : W + 65 ≤ R.locals) :
    Back l R p e below s sargs yN len W (fun A₁ a₁ => A₁.cells + 1 ≤ R.cells ∧ A₁.slots + A.slots.size ≤ R.slots ∧ P a D fV fC b A z a₁ A₁.U) (fun A₁ _ v₁ B₁ => E a D fV fC A v₁ A₁.U B₁.U ∧ B₁.locs = A₁.locs ++ [⟨a, fC.slot⟩, ⟨a, fV.slot⟩] ∧ B₁.cells = A₁.cells + 1 ∧ B₁.slots = A₁.slots + A.slots.size) :=
  (law l a D fV fC b A z).pays htab hfr (by omega)
end New1
end StrChars
namespace StrChars.Road
open Jvm Sem ClassFile Op Lib Jvm.Stand Jvm.Free Jvm.Free.XT
open Jvm.Lib.Cold (StaticIs)
abbrev ST : String := "java/lang/String"
/-- every table word that New1's law asks, flat -/
abbrev words : List Jvm.Cond := [.code New1.yN New1.yB 2 none, .initialized ST, .methodLink ST 27 New4.yN, .instanceMethod New4.yN,
  .code New4.yN New4.yB 6 none, .fieldLink ST 38 ST "COMPACT_STRINGS" "Z", .laysFinal ST ST "value" "[B", .fieldLink ST 9 ST "value" "[B", .laysFinal ST ST "coder" "B", .fieldLink ST 15 ST "coder" "B",
  .methodLink ST 1 Lib.objectInit, .instanceMethod Lib.objectInit, .code Lib.objectInit ⟨#[0xb1]⟩ 1 none, .methodLink ST 177 Cmp3.yN, .static Cmp3.yN, .methodLink ST 47 CodL.yN, .static CodL.yN,
  .code Cmp3.yN Cmp3.yB 6 (some (.array .byte)), .initialized U16, .arrayClass .byte, .methodLink U16 115 Cmp5.yN, .static Cmp5.yN, .code Cmp5.yN Cmp5.yB 7 (some .int), .code CodL.yN CodL.yB 2 (some .byte)]
theorem tab_of {a : Array Value} {s : State} (h : ∀ w ∈ words, w.before a s = true) : New1.tab.before a s = true := by
  have h5 : Cmp5.tab.before a s = true := unparts (wk h (.code Cmp5.yN Cmp5.yB 7 (some .int))) (wks h (.initialized Cmp5.yN.cls :: Cmp5.site))
  have hc : CodL.tab.before a s = true := unparts (wk h (.code CodL.yN CodL.yB 2 (some .byte))) (wks h (.initialized CodL.yN.cls :: CodL.site))
  have q5 : ∀ w ∈ Cmp5.tab :: words, w.before a s = true := fun w hw => (List.mem_cons.mp hw).elim (fun e => e ▸ h5) (h w)
  have h3 : Cmp3.tab.before a s = true := unparts (wk q5 (.code Cmp3.yN Cmp3.yB 6 (some (.array .byte)))) (wks q5 (.initialized Cmp3.yN.cls :: Cmp3.site))
  have q3 : ∀ w ∈ Cmp3.tab :: CodL.tab :: words, w.before a s = true := fun w hw => (List.mem_cons.mp hw).elim (fun e => e ▸ h3) fun hw => (List.mem_cons.mp hw).elim (fun e => e ▸ hc) (h w)
  have h4 : New4.tab.before a s = true := unparts (wk q3 (.code New4.yN New4.yB 6 none)) (wks q3 (.initialized New4.yN.cls :: New4.site))
  have q4 : ∀ w ∈ New4.tab :: words, w.before a s = true := fun w hw => (List.mem_cons.mp hw).elim (fun e => e ▸ h4) (h w)
  exact unparts (wk q4 (.code New1.yN New1.yB 2 none)) (wks q4 (.initialized New1.yN.cls :: New1.site))
/-- the words ride from the start Z to the walk's own state -/
theorem moved {Z s : State} {a0 args : Array Value} (hZ : Z.Warmed39 s.vm) (hw : ∀ d ∈ words, d.before a0 Z = true) : ∀ d ∈ words, d.before args s = true := fun d hd => by
  have q := hw d hd
  have t : ∀ d ∈ words, d = .arrayClass .byte ∨ (d.onTables && d.keepsFace) = true := by decide +kernel
  rcases t d hd with rfl | t
  · exact RoadKit.mvA hZ q
  · exact RoadKit.mv hZ q t
/-- WHAT COMES BACK, over the tables of the start Z: h the heap at the call, h' behind it -/
def Q (Z : State) (x : Addr) (A : Cell) (h : Heap) (v : Option Value) (h' : Heap) (L : List Loc) : Prop := v = none ∧ (∀ y ∈ L, y.base = x) ∧ RoadKit.Keep h h' [x] ∧ h'.size = h.size + 1 ∧ RoadKit.Exa Z h' x ST ∧ RoadKit.Fld Z h' x ST "value" "[B" (.ref h.size) ∧ RoadKit.Fld Z h' x ST "coder" "B" (.int 0) ∧
  (∃ V : Cell, RoadKit.Arr Z h' h.size V .byte ∧ V.vm = .none ∧ Z.vm.findClass "[B" = some V.cls ∧ V.slots.size = A.slots.size ∧ ∀ j, j < A.slots.size → V.slots[j]? = some (.int (lo8 (cv A j)))) ∧
  ∀ (O n d : String) (w : Value), RoadKit.Fld Z h x O n d w → RoadKit.slotOf Z O n d ≠ RoadKit.slotOf Z ST "value" "[B" → RoadKit.slotOf Z O n d ≠ RoadKit.slotOf Z ST "coder" "B" → RoadKit.Fld Z h' x O n d w
/-- **new String(chars) AT A CALL, IN THE ROAD'S FORM**: for specialBack behind newO: x the fresh String, b the char[] with the cell A -/
theorem back {p : Program} {l : Launch} {e : Env} {R : Room} {s : State} {args : Array Value} {below : List Frame} {len W : Nat} {Z : State} {a0 : Array Value} {h : Heap} (hZ : Z.Warmed39 s.vm) (hw : ∀ d ∈ words, d.before a0 Z = true) {kI : Nat} (wi : (Jvm.Cond.instantiable ST kI).before a0 Z = true)
    {x b : Addr} {A : Cell} {z : Int32} {v0 c0 : Value} (E : RoadKit.Exa Z h x ST) (V : RoadKit.Fld Z h x ST "value" "[B" v0) (C : RoadKit.Fld Z h x ST "coder" "B" c0) (K : RoadKit.Arr Z h b A .char) (hty : Typed .char A) (S : RoadKit.Sta Z h ST "COMPACT_STRINGS" "Z" (.int z)) (hz : ¬ z = 0)
    (l0 : 0 < A.slots.size) (l2 : A.slots.size ≤ 536870912) (hp : ∀ i, i < A.slots.size → ¬ 255 < cv A i) (hfr : 4 ≤ R.frames) (hlo : W + 65 ≤ R.locals) :
    Back l R p e below s args New1.yN len W (fun P a => a = #[.ref x, .ref b] ∧ P.U.heap = h ∧ P.cells + 1 ≤ R.cells ∧ P.slots + A.slots.size ≤ R.slots)
      (fun P _ v B => ∃ L, Q Z x A h v B.U.heap L ∧ B.locs = P.locs ++ L ∧ B.cells = P.cells + 1 ∧ B.slots = P.slots + A.slots.size) := by
  intro m meth c P g ig mk a X hg hsize hdg hW hn hp'
  obtain ⟨rfl, rfl, r1, r2⟩ := hp'
  have al : Z.vm.Alike P.U.vm := hZ.alike.trans X.warmed.alike
  obtain ⟨D, cfV, kV, iV, fV, hD, gV, stV, knV, obV, asV, slV⟩ := id V
  obtain ⟨D', cfC, kC, iC, fC, hD', gC, stC, -, -, asC, slC⟩ := id C
  cases hD.symm.trans hD'
  obtain ⟨D2, kD, e1, e2, e3, e4, e5⟩ := id E
  cases hD.symm.trans e1
  obtain ⟨c2, k2, i1, i2, i3, -⟩ := Cond.instantiable_spec wi
  cases e2.symm.trans i1
  cases e3.symm.trans i2
  obtain ⟨kU, u1, u2⟩ := al.2.2 _ _ e3
  have hB : Blank ST x D P.U := ⟨hD, ⟨knV, fun q hq => by rw [hq] at obV; cases obV⟩, by rw [al.findClass]; exact e2, kU, u1, by rw [u2]; exact i3, by rw [u2]; exact e5 i3⟩
  have F1 : Found ST "value" "[B" fV P.U := ⟨SBG.found_only al ⟨cfV, kV, iV, gV⟩, stV⟩
  have F2 : Found ST "coder" "B" fC P.U := ⟨SBG.found_only al ⟨cfC, kC, iC, gC⟩, stC⟩
  have hA : Ch b A P.U := ⟨⟨K.1, State.isArrayOf_alike al K.2.1, K.2.2, by omega⟩, hty⟩
  have hS : StaticIs P.U ST "COMPACT_STRINGS" "Z" (.int z) := by
    obtain ⟨cfS, iS, kS, fS, st, cS, t1, t2, t3, t4, t5, t6, t7⟩ := S
    exact StaticIs.there (s := { Z with heap := P.U.heap }) ⟨cfS, iS, kS, fS, st, cS, t1, t2, t3, t4, t5, (fun q => by rw [q] at t6; cases t6), t7⟩ al rfl
  obtain ⟨v, B, X', ⟨⟨hv, E', V', q1, q2, q3, q4, q5, q6, q7, q8, q9, q10, q11⟩, hl, hc, hs⟩, st⟩ := New1.pays x D fV fC b A z (tab_of (moved hZ hw)) hfr hlo m meth c P g ig mk _ X hg hsize hdg hW hn ⟨r1, r2, rfl, hB, F1, F2, hA, hS, hz, l0, l2, hp⟩
  have al' : Z.vm.Alike B.U.vm := hZ.alike.trans X'.warmed.alike
  have hsz : E'.slots.size = D.slots.size := by
    obtain ⟨-, -, -, kB, w1, w2, w3⟩ := q1
    obtain ⟨kB', y1, y2⟩ := al'.2.2 _ _ e3
    rw [q2.2.1] at w1
    cases w1.symm.trans y1
    rw [w3, e5 i3, y2]
  refine ⟨v, B, X', ⟨_, ⟨hv, ?_, ⟨by omega, fun y cy hy hn' => q10 y cy (by simpa using hn') hy, fun y cy hy => ?_⟩, q11, ⟨E', _, q1.1, by rw [q2.2.1]; exact e2, by rw [q2.2.1]; exact e3, by rw [q2.1]; exact obV, fun _ => by rw [hsz]; exact e5 i3⟩,
    ⟨E', cfV, kV, iV, fV, q1.1, gV, stV, by rw [q2.1]; exact knV, by rw [q2.1]; exact obV, by rw [q2.2.1]; exact asV, q3⟩, ⟨E', cfC, kC, iC, fC, q1.1, gC, stC, by rw [q2.1]; exact knV, by rw [q2.1]; exact obV, by rw [q2.2.1]; exact asC, q4⟩,
    ⟨V', ⟨q5.1, State.isArrayOf_alike al'.symm q5.2.1, q5.2.2.1⟩, q6, by rw [← al'.findClass]; exact q7, q8, fun j hj => by have := q9 j hj; rwa [Nat.zero_add] at this⟩, fun O n d w F n1 n2 => ?_⟩, hl, hc, hs⟩, st⟩
  · intro y hy
    simp only [List.mem_cons, List.not_mem_nil, or_false] at hy
    rcases hy with rfl | rfl <;> rfl
  · by_cases q : y = x
    · subst q
      cases hD.symm.trans hy
      exact ⟨E', q1.1, q2.2.1, q2.1, hsz⟩
    · exact ⟨cy, q10 y cy q hy, rfl, rfl, rfl⟩
  · obtain ⟨D3, cf, k, i, f, g1, g2, g3, g4, g5, g6, g7⟩ := F
    cases hD.symm.trans g1
    simp only [RoadKit.slotOf, g2, gV, gC, Option.map_some, Option.getD_some] at n1 n2
    exact ⟨E', cf, k, i, f, q1.1, g2, g3, by rw [q2.1]; exact g4, by rw [q2.1]; exact g5, by rw [q2.2.1]; exact g6, by rw [q2.2.2 f.slot (by simp [n1, n2])]; exact g7⟩
end StrChars.Road
namespace StrChars.Road
open Jvm Sem ClassFile Op Lib Jvm.Stand Jvm.Free Jvm.Free.XT
/-- WHAT COMES BACK, the byte[] as a list of values -/
def QA (Z : State) (x : Addr) (zn : Int32) (cs : List Int32) (h : Heap) (v : Option Value) (h' : Heap) (L : List Loc) : Prop := v = none ∧ (∀ y ∈ L, y.base = x) ∧ RoadKit.Keep h h' [x] ∧ h'.size = h.size + 1 ∧ RoadKit.Exa Z h' x ST ∧ RoadKit.Fld Z h' x ST "value" "[B" (.ref h.size) ∧ RoadKit.Fld Z h' x ST "coder" "B" (.int 0) ∧
  (∃ kb, Z.vm.findClass "[B" = some kb ∧ RoadKit.Arv Z h' h.size kb .byte zn (cs.map fun c => .int (lo8 c)) (.int 0)) ∧
  ∀ (O n d : String) (w : Value), RoadKit.Fld Z h x O n d w → RoadKit.slotOf Z O n d ≠ RoadKit.slotOf Z ST "value" "[B" → RoadKit.slotOf Z O n d ≠ RoadKit.slotOf Z ST "coder" "B" → RoadKit.Fld Z h' x O n d w
/-- **new String(chars) AT A CALL, THE ARRAYS AS LISTS**: the char[] at b holds cs, not empty, no char above 255 -/
theorem backArv {p : Program} {l : Launch} {e : Env} {R : Room} {s : State} {args : Array Value} {below : List Frame} {len W : Nat} {Z : State} {a0 : Array Value} {h : Heap} (hZ : Z.Warmed39 s.vm) (hw : ∀ d ∈ words, d.before a0 Z = true) {kI : Nat} (wi : (Jvm.Cond.instantiable ST kI).before a0 Z = true)
    {x b : Addr} {k : ClassId} {zn z : Int32} {cs : List Int32} {dv v0 c0 : Value} (E : RoadKit.Exa Z h x ST) (V : RoadKit.Fld Z h x ST "value" "[B" v0) (C : RoadKit.Fld Z h x ST "coder" "B" c0) (K : RoadKit.Arv Z h b k .char zn (cs.map Value.int) dv) (S : RoadKit.Sta Z h ST "COMPACT_STRINGS" "Z" (.int z)) (hz : ¬ z = 0)
    (hlen : zn.toNatClampNeg = cs.length) (h0 : 0 < cs.length) (hbig : cs.length ≤ 536870912) (hall : ∀ c ∈ cs, ¬ 255 < c) (hfr : 4 ≤ R.frames) (hlo : W + 65 ≤ R.locals) :
    Back l R p e below s args New1.yN len W (fun P a => a = #[.ref x, .ref b] ∧ P.U.heap = h ∧ P.cells + 1 ≤ R.cells ∧ P.slots + cs.length ≤ R.slots)
      (fun P _ v B => ∃ L, QA Z x zn cs h v B.U.heap L ∧ B.locs = P.locs ++ L ∧ B.cells = P.cells + 1 ∧ B.slots = P.slots + cs.length) := by
  obtain ⟨A, K1, K2, K3, K4, K5, K6⟩ := K
  have e : A.slots.size = cs.length := K3.trans hlen
  have hat : ∀ (i : Nat) (hi : i < cs.length), A.slots[i]? = some (.int cs[i]) := fun i hi => by rw [K5 i (by omega)]; simp [List.getD_eq_getElem?_getD, hi]
  have hcv : ∀ (i : Nat) (hi : i < cs.length), cv A i = cs[i] := fun i hi => by unfold cv; rw [hat i hi]
  have hty : Typed .char A := fun i v hv => by
    have hi : i < A.slots.size := (Array.getElem?_eq_some_iff.mp hv).1
    have q := K5 i hi
    rw [hv] at q
    rw [Option.some.inj q]
    exact K6 i hi
  refine Back.mono (back hZ hw wi E V C K1 hty S hz (by omega) (by omega) (fun i hi => by rw [hcv i (by omega)]; exact hall _ (List.getElem_mem _)) hfr hlo) (fun P a hp => ⟨hp.1, hp.2.1, hp.2.2.1, by rw [e]; exact hp.2.2.2⟩) (fun P a v B hp hq => ?_)
  obtain ⟨L, ⟨q1, q2, q3, q4, q5, q6, q7, ⟨V', v1, v2, v3, v4, v5⟩, q9⟩, hl, hc, hs⟩ := hq
  refine ⟨L, ⟨q1, q2, q3, q4, q5, q6, q7, ⟨V'.cls, v3, V', v1, rfl, by rw [v4, e, hlen], K4, fun i hi => ?_, fun i hi => ?_⟩, q9⟩, hl, hc, by rw [hs, e]⟩
  · have hi' : i < cs.length := by omega
    rw [v5 i (by omega), hcv i hi']; simp [List.getD_eq_getElem?_getD, hi']
  · have hi' : i < cs.length := by omega
    simp only [List.getD_eq_getElem?_getD, List.getElem?_map, List.getElem?_eq_getElem hi', Option.map_some, Option.getD_some]
    exact fits_lo8 _
end StrChars.Road
namespace StrChars.Road
open Jvm Sem ClassFile Op Lib Jvm.Stand Jvm.Free Jvm.Free.XT
/-- WHAT COMES BACK, in the writer's own shape -/
def QV (Z : State) (x : Addr) (N : Int32) (bs : List Int32) (h : Heap) (n0 : Nat) (v : Option Value) (h' : Heap) (L : List Loc) : Prop := v = none ∧ RoadKit.Fr n0 L ∧ RoadKit.Keep h h' [x] ∧ RoadKit.Exa Z h' x ST ∧ RoadKit.Fld Z h' x ST "coder" "B" (.int 0) ∧
  ∃ (t : Addr) (kb : ClassId), n0 ≤ t ∧ h.size ≤ t ∧ ¬ t = x ∧ RoadKit.Fld Z h' x ST "value" "[B" (.ref t) ∧ RoadKit.Arv Z h' t kb .byte N (bs.map Value.int) (.int 0)
/-- **new String(chars) AT A CALL, FOR THE WRITER**: a char[] of n known ints, each 0 to 255 -/
theorem backV {p : Program} {l : Launch} {e : Env} {R : Room} {s : State} {args : Array Value} {below : List Frame} {len W : Nat} {Z : State} {a0 : Array Value} {h : Heap} (hZ : Z.Warmed39 s.vm) (hw : ∀ d ∈ words, d.before a0 Z = true) {kI : Nat} (wi : (Jvm.Cond.instantiable ST kI).before a0 Z = true)
    {x b : Addr} {kC : ClassId} {cs bs : List Int32} {d v0 c0 : Value} {z N : Int32} {n n0 : Nat} (hx0 : n0 ≤ x) (hh0 : n0 ≤ h.size) (E : RoadKit.Exa Z h x ST) (V : RoadKit.Fld Z h x ST "value" "[B" v0) (C : RoadKit.Fld Z h x ST "coder" "B" c0) (K : RoadKit.Arv Z h b kC .char N (cs.map Value.int) d) (S : RoadKit.Sta Z h ST "COMPACT_STRINGS" "Z" (.int z)) (hz : ¬ z = 0)
    (hn : cs.length = n) (hN : N = Int32.ofNat n) (l0 : 0 < n) (l2 : n ≤ 4000) (hp : ∀ c ∈ cs, ¬ c < 0 ∧ ¬ (255 : Int32) < c) (hb : bs = cs.map (fun c => c.toInt8.toInt32)) (hfr : 4 ≤ R.frames) (hlo : W + 65 ≤ R.locals) :
    Back l R p e below s args (⟨"java/lang/String", "<init>", "([C)V"⟩ : MethodName) len W (fun P a => a = #[.ref x, .ref b] ∧ P.U.heap = h ∧ P.cells + 1 ≤ R.cells ∧ P.slots + n ≤ R.slots)
      (fun P _ v B => ∃ L, QV Z x N bs h n0 v B.U.heap L ∧ B.locs = P.locs ++ L ∧ B.cells = P.cells + 1 ∧ B.slots = P.slots + n) := by
  subst hn hN hb
  refine Back.mono (backArv hZ hw wi E V C K S hz (n32 (by omega)) l0 (by omega) (fun c hc => (hp c hc).2) hfr hlo) (fun P a hp => hp) (fun P a v B hp hq => ?_)
  obtain ⟨L, ⟨q1, q2, q3, q4, q5, q6, q7, ⟨kb, v1, v2⟩, q9⟩, hl, hc, hs⟩ := hq
  exact ⟨L, ⟨q1, fun y hy => by rw [q2 y hy]; exact hx0, q3, q5, q7, h.size, kb, hh0, Nat.le_refl _, Nat.ne_of_gt E.lt, q6, by rw [List.map_map]; exact v2⟩, hl, hc, hs⟩
end StrChars.Road
end Jvm.Pilot.@@N@@
namespace Jvm.Pilot.@@N@@
open Jvm Jvm.ClassFile Sem Op Lib Jvm.Free Jvm.Stand Jvm.LawKit Jvm.RoadKit Bundle Jvm.Pilot.@@N@@.Jvm.D Jvm.Own
/-- what the case says of its start -/
def Wd (Z : State) (a0 : Array Value) : Prop := (∀ (k : Nat) {d : Jvm.Cond}, tables_1[k]? = some d → d.before a0 Z = true) ∧ (∃ z : Int32, Sta Z Z.heap "java/lang/String" "COMPACT_STRINGS" "Z" (.int z) ∧ ¬ z = 0) ∧ ∃ fm : Value, Sta Z Z.heap "jdk/internal/util/Preconditions" "SIOOBE_FORMATTER" "Ljava/util/function/BiFunction;" fm ∧ fm.isRef = true
theorem Wd.hw {Z : State} {a0 : Array Value} (W : Wd Z a0) : ∀ d ∈ tables_1, d.before a0 Z = true := fun d hd => by
  obtain ⟨i, hi⟩ := List.mem_iff_getElem?.mp hd
  exact W.1 i hi
theorem Wd.sub {Z : State} {a0 : Array Value} (W : Wd Z a0) {ws : List Jvm.Cond} (h : ∀ d ∈ ws, d ∈ tables_1) : ∀ d ∈ ws, d.before a0 Z = true := fun d hd => W.hw d (h d hd)
theorem pdC : parseMethodDescriptor "([C)V" = some ⟨[(.array .char)], none⟩ := by decide +kernel
theorem up255 {cs : List Int32} (h : ∀ c ∈ cs, ¬ c < 0 ∧ ¬ (255 : Int32) < c) : ∀ c ∈ cs, ¬ c < 0 ∧ ¬ (65535 : Int32) < c := fun c hc => ⟨(h c hc).1, fun q => (h c hc).2 (by rw [Int32.lt_iff_toInt_lt] at q ⊢; have e1 : (65535 : Int32).toInt = 65535 := rfl; have e2 : (255 : Int32).toInt = 255 := rfl; omega)⟩
section StrGo
variable {nw : Bool} {p : Program} {l : Launch} {e : Env} {R : Room} {s : State} {m : MethodId} {args : Array Value} {below : List Frame} {meth : Method} {c : Code} {code : ByteArray} {ml : Nat} {nm : String} {ret : Option FieldType} {Z : State} {a0 : Array Value} {EL : List (String × Nat)} {own : String} {P : Option Value → Vm → Heap → Prop}
variable {vm vm' : Vm} {h h' h0 h1 h2 : Heap} {k n pc : Nat} {L : Array Slot} {S : List Value}
/-- new String(chars), one to 4,000 of them, each 0 to 255 -/
theorem goStrNew (W : Wd Z a0) {idx : Nat} {x b : Addr} {kC : ClassId} {N : Int32} {v0 c0 dv : Value} {rest : List Value} (Wk : Nat) (cs : List Int32) (pc' : Nat) (hd : decode code pc = .ok (.invokespecial idx, 3)) (hp : pc + 3 = pc') (w1 : (Jvm.Cond.methodLink own idx (⟨"java/lang/String", "<init>", "([C)V"⟩ : MethodName)).before a0 Z = true)
    (E : Exa Z h x "java/lang/String") (V : Fld Z h x "java/lang/String" "value" "[B" v0) (C : Fld Z h x "java/lang/String" "coder" "B" c0) (K : Arv Z h b kC .char N (cs.map Value.int) dv) (hN : N = Int32.ofNat cs.length) (l0 : 0 < cs.length) (l2 : cs.length ≤ 4000) (hcs : ∀ c ∈ cs, ¬ c < 0 ∧ ¬ (255 : Int32) < c)
    (hst : S = .ref b :: .ref x :: rest) (hsz : L.size = ml) (hW : (rest.map fun v => v.category).sum ≤ Wk) (hfr : 4 ≤ R.frames) (hlo : Wk + 65 ≤ R.locals) (hk0 : k + 1 ≤ R.cells) (hn0 : n + cs.length ≤ R.slots) (Sx : Safe Z EL vm h x) (hz : Z.heap.size ≤ x)
    (g : ∀ h', Keep h h' [x] → Str Z h' x cs → CHr Z EL vm h vm h' → Go nw p l e R s m args below meth c code ml nm ret Z a0 EL own P vm h' (k + 1) (n + cs.length) pc' L rest) : Go nw p l e R s m args below meth c code ml nm ret Z a0 EL own P vm h k n pc L S := by
  obtain ⟨z, Cz, hz0⟩ := W.2.1
  refine Go.specB (Q := fun v h' L => StrChars.Road.QV Z x N (cs.map fun c => c.toInt8.toInt32) h Z.heap.size v h' L) (dk := 1) (dn := cs.length) (rest := rest) Wk x [.ref b] pc' hd hp rfl w1 (W.1 10 rfl) (W.1 11 rfl) (by decide)
    (fun hZ hE => StrChars.Road.backV hZ (W.sub (by decide +kernel)) (W.1 7 rfl) (bs := cs.map fun c => c.toInt8.toInt32) hz hE.1 E V C K (Cz.ext hE) hz0 rfl hN l0 l2 hcs rfl hfr hlo) pdC rfl hst hsz hW hk0 hn0
    (fun v h' L q => ⟨q.2.1, [x], q.2.2.1, fun y hy => by cases List.mem_singleton.mp hy; exact Sx, fun y hy => by cases List.mem_singleton.mp hy; exact hz⟩) (fun v h' L q ch => ?_)
  obtain ⟨rfl, q2, q3, q4, q5, t, kb, q6, q7, q8, q9, q10⟩ := q
  exact g h' q3 ⟨t, kb, q4, q5, q9, by rw [← hN]; exact q10, l2, hcs⟩ ch
end StrGo
end Jvm.Pilot.@@N@@
namespace Jvm.Pilot.@@N@@
open Jvm Jvm.ClassFile Sem Op Lib Jvm.Free Jvm.Stand Jvm.LawKit Jvm.RoadKit Bundle Jvm.Pilot.@@N@@.Jvm.D Jvm.Own

def chV (x : Int32) : Int32 := if (x &&& (3 : Int32)) = 0 then 36 else if (x &&& (3 : Int32)) = 1 then 35 else if (x &&& (3 : Int32)) = 2 then 123 else (XT.ushr x (2 : Int32)) &&& (255 : Int32)
theorem chB (x : Int32) : ¬ chV x < 0 ∧ ¬ (255 : Int32) < chV x := by
  unfold chV
  split
  · decide
  · split
    · decide
    · split
      · decide
      · exact and255 _
/-- the pair d0 d1 stands at place i -/
def At2 (cs : List Int32) (d0 d1 : Int32) (i : Nat) : Prop := i + 1 < cs.length ∧ cs.getD i 0 = d0 ∧ cs.getD (i + 1) 0 = d1
def Has2 (cs : List Int32) (d0 d1 : Int32) : Prop := ∃ i, At2 cs d0 d1 i
abbrev by8 (c : Int32) : Int32 := c.toInt8.toInt32
theorem by8_inj {x y : Int32} (hx : ¬ x < 0 ∧ ¬ (255 : Int32) < x) (hy : ¬ y < 0 ∧ ¬ (255 : Int32) < y) : by8 x = by8 y ↔ x = y := by
  constructor
  · intro h
    have a := c_i2b x
    have b := c_i2b y
    have e : x.toInt8.toInt32 = y.toInt8.toInt32 := h
    rw [e] at a
    obtain ⟨h1, h2⟩ := hx
    obtain ⟨h3, h4⟩ := hy
    rw [Int32.lt_iff_toInt_lt] at h1 h2 h3 h4
    have e1 : (0 : Int32).toInt = 0 := rfl
    have e2 : (255 : Int32).toInt = 255 := rfl
    apply Int32.toInt_inj.mp
    omega
  · rintro rfl; rfl
theorem getB (cs : List Int32) (i : Nat) : ((cs.map fun c => c.toInt8.toInt32).map Value.int).getD i (.int 0) = .int (by8 (cs.getD i 0)) := by
  simp only [List.getD_eq_getElem?_getD, List.getElem?_map]
  cases cs[i]? <;> rfl
theorem getIn {cs : List Int32} (h : ∀ c ∈ cs, ¬ c < 0 ∧ ¬ (255 : Int32) < c) {i : Nat} (hi : i < cs.length) : ¬ cs.getD i 0 < 0 ∧ ¬ (255 : Int32) < cs.getD i 0 := by
  have e : cs.getD i 0 = cs[i] := by simp [List.getD_eq_getElem?_getD, hi]
  rw [e]; exact h _ (List.getElem_mem _)
theorem ofNat_add1 (j : Nat) : Int32.ofNat j + 1 = Int32.ofNat (j + 1) := by
  apply Int32.toBitVec_inj.mp
  show BitVec.ofNat 32 j + BitVec.ofNat 32 1 = BitVec.ofNat 32 (j + 1)
  rw [← BitVec.ofNat_add]
theorem ofNat_add21 (j : Nat) : Int32.ofNat j + 2 - 1 = Int32.ofNat (j + 1) := by
  rw [Int32.sub_eq_add_neg, Int32.add_assoc, show (2 : Int32) + -1 = 1 from by decide]
  exact ofNat_add1 j
theorem inb {j n : Nat} (hj : j < n) (hn : n ≤ 4000) : ¬ Int32.ofNat j < 0 ∧ Int32.ofNat j < Int32.ofNat n := by
  refine ⟨?_, (ofNat_lt (by omega) (by omega)).mpr hj⟩
  rw [Int32.lt_iff_toInt_lt, ofNat_toInt (by omega)]
  have e1 : (0 : Int32).toInt = 0 := rfl
  omega
theorem clamp {j : Nat} (hj : j ≤ 5000) : (Int32.ofNat j).toNatClampNeg = j := by
  show ((Int32.ofNat j).toInt).toNat = j
  rw [ofNat_toInt (by omega)]; omega

abbrev OP (x y : Int32) : Prop := (x = 36 ∨ x = 35) ∧ y = 123
theorem len6 (x : Int32) : (x &&& (2147483647 : Int32)) % (6 : Int32) = 0 ∨ (x &&& (2147483647 : Int32)) % (6 : Int32) = 1 ∨ (x &&& (2147483647 : Int32)) % (6 : Int32) = 2 ∨ (x &&& (2147483647 : Int32)) % (6 : Int32) = 3 ∨ (x &&& (2147483647 : Int32)) % (6 : Int32) = 4 ∨ (x &&& (2147483647 : Int32)) % (6 : Int32) = 5 := by
  have h1 := c_mask x 2147483647 31 (by decide) (by decide)
  have h2 := (c_irem (x &&& 2147483647) 6 6 rfl).1 (by rw [h1]; omega)
  have h3 : ((x &&& (2147483647 : Int32)) % (6 : Int32)).toInt = 0 ∨ ((x &&& (2147483647 : Int32)) % (6 : Int32)).toInt = 1 ∨ ((x &&& (2147483647 : Int32)) % (6 : Int32)).toInt = 2 ∨ ((x &&& (2147483647 : Int32)) % (6 : Int32)).toInt = 3 ∨ ((x &&& (2147483647 : Int32)) % (6 : Int32)).toInt = 4 ∨ ((x &&& (2147483647 : Int32)) % (6 : Int32)).toInt = 5 := by rw [h2]; omega
  rcases h3 with h | h | h | h | h | h
  · exact Or.inl (Int32.toInt_inj.mp h)
  · exact Or.inr (Or.inl (Int32.toInt_inj.mp h))
  · exact Or.inr (Or.inr (Or.inl (Int32.toInt_inj.mp h)))
  · exact Or.inr (Or.inr (Or.inr (Or.inl (Int32.toInt_inj.mp h))))
  · exact Or.inr (Or.inr (Or.inr (Or.inr (Or.inl (Int32.toInt_inj.mp h)))))
  · exact Or.inr (Or.inr (Or.inr (Or.inr (Or.inr (Int32.toInt_inj.mp h)))))
theorem has_cons {x y : Int32} {r : List Int32} {d0 d1 : Int32} : Has2 (x :: y :: r) d0 d1 ↔ (x = d0 ∧ y = d1) ∨ Has2 (y :: r) d0 d1 := by
  constructor
  · rintro ⟨i, h1, h2, h3⟩
    cases i with
    | zero => exact Or.inl ⟨h2, h3⟩
    | succ i => exact Or.inr ⟨i, by simpa using h1, by simpa using h2, by simpa using h3⟩
  · rintro (⟨rfl, rfl⟩ | ⟨i, h1, h2, h3⟩)
    · exact ⟨0, by simp, rfl, rfl⟩
    · exact ⟨i + 1, by simpa using h1, by simpa using h2, by simpa using h3⟩
theorem has_one {x : Int32} {d0 d1 : Int32} : ¬ Has2 [x] d0 d1 := by rintro ⟨i, h1, -⟩; simp at h1
theorem has_nil {d0 d1 : Int32} : ¬ Has2 [] d0 d1 := by rintro ⟨i, h1, -⟩; simp at h1
theorem has0 : (Has2 [] 36 123 ∨ Has2 [] 35 123) ↔ (False) := by
  simp only [has_cons, has_one, has_nil, OP, or_false, or_self]
theorem has1 {x0 : Int32} : (Has2 [x0] 36 123 ∨ Has2 [x0] 35 123) ↔ (False) := by
  simp only [has_cons, has_one, has_nil, OP, or_false, or_self]
theorem has2 {x0 x1 : Int32} : (Has2 [x0, x1] 36 123 ∨ Has2 [x0, x1] 35 123) ↔ (OP x0 x1) := by
  simp only [has_cons, has_one, has_nil, OP, or_false, or_self]
  grind
theorem has3 {x0 x1 x2 : Int32} : (Has2 [x0, x1, x2] 36 123 ∨ Has2 [x0, x1, x2] 35 123) ↔ (OP x0 x1 ∨ OP x1 x2) := by
  simp only [has_cons, has_one, has_nil, OP, or_false, or_self]
  grind
theorem has4 {x0 x1 x2 x3 : Int32} : (Has2 [x0, x1, x2, x3] 36 123 ∨ Has2 [x0, x1, x2, x3] 35 123) ↔ (OP x0 x1 ∨ OP x1 x2 ∨ OP x2 x3) := by
  simp only [has_cons, has_one, has_nil, OP, or_false, or_self]
  grind
theorem has5 {x0 x1 x2 x3 x4 : Int32} : (Has2 [x0, x1, x2, x3, x4] 36 123 ∨ Has2 [x0, x1, x2, x3, x4] 35 123) ↔ (OP x0 x1 ∨ OP x1 x2 ∨ OP x2 x3 ∨ OP x3 x4) := by
  simp only [has_cons, has_one, has_nil, OP, or_false, or_self]
  grind
theorem lit_ok_ : ((∀ c ∈ ("" : String).toList, c.toNat < 256) ∧ ("" : String).toList.map (fun c => Value.int (Jvm.Lit.byteI c.toNat.toUInt16)) = []) ∧ 4 * ("" : String).toList.length ≤ 0 := by decide +kernel
theorem lit_ok__24_7b : ((∀ c ∈ ("${" : String).toList, c.toNat < 256) ∧ ("${" : String).toList.map (fun c => Value.int (Jvm.Lit.byteI c.toNat.toUInt16)) = [.int (36), .int (123)]) ∧ 4 * ("${" : String).toList.length ≤ 8 := by decide +kernel
theorem lit_ok__23_7b : ((∀ c ∈ ("#{" : String).toList, c.toNat < 256) ∧ ("#{" : String).toList.map (fun c => Value.int (Jvm.Lit.byteI c.toNat.toUInt16)) = [.int (35), .int (123)]) ∧ 4 * ("#{" : String).toList.length ≤ 8 := by decide +kernel
theorem d_jdk_42_m149_0 : decode jdk_42_method_149_code 0 = .ok (.aload_n 0, 1) := by decide +kernel
theorem d_jdk_42_m149_1 : decode jdk_42_method_149_code 1 = .ok (.invokespecial 1, 3) := by decide +kernel
theorem d_jdk_42_m149_4 : decode jdk_42_method_149_code 4 = .ok (.iload_n 3, 1) := by decide +kernel
theorem d_jdk_42_m149_5 : decode jdk_42_method_149_code 5 = .ok (.ifCond .ne 22, 3) := by decide +kernel
theorem d_jdk_42_m149_8 : decode jdk_42_method_149_code 8 = .ok (.aload_n 0, 1) := by decide +kernel
theorem d_jdk_42_m149_9 : decode jdk_42_method_149_code 9 = .ok (.ldc 7, 2) := by decide +kernel
theorem d_jdk_42_m149_11 : decode jdk_42_method_149_code 11 = .ok (.getfield 9, 3) := by decide +kernel
theorem d_jdk_42_m149_14 : decode jdk_42_method_149_code 14 = .ok (.putfield 9, 3) := by decide +kernel
theorem d_jdk_42_m149_17 : decode jdk_42_method_149_code 17 = .ok (.aload_n 0, 1) := by decide +kernel
theorem d_jdk_42_m149_18 : decode jdk_42_method_149_code 18 = .ok (.ldc 7, 2) := by decide +kernel
theorem d_jdk_42_m149_20 : decode jdk_42_method_149_code 20 = .ok (.getfield 15, 3) := by decide +kernel
theorem d_jdk_42_m149_23 : decode jdk_42_method_149_code 23 = .ok (.putfield 15, 3) := by decide +kernel
theorem d_jdk_42_m149_26 : decode jdk_42_method_149_code 26 = .ok (.return_, 1) := by decide +kernel
theorem d_jdk_42_m149_27 : decode jdk_42_method_149_code 27 = .ok (.getstatic 38, 3) := by decide +kernel
theorem d_jdk_42_m149_30 : decode jdk_42_method_149_code 30 = .ok (.ifCond .eq 28, 3) := by decide +kernel
theorem d_jdk_42_m149_33 : decode jdk_42_method_149_code 33 = .ok (.aload_n 1, 1) := by decide +kernel
theorem d_jdk_42_m149_34 : decode jdk_42_method_149_code 34 = .ok (.iload_n 2, 1) := by decide +kernel
theorem d_jdk_42_m149_35 : decode jdk_42_method_149_code 35 = .ok (.iload_n 3, 1) := by decide +kernel
theorem d_jdk_42_m149_36 : decode jdk_42_method_149_code 36 = .ok (.invokestatic 177, 3) := by decide +kernel
theorem d_jdk_42_m149_39 : decode jdk_42_method_149_code 39 = .ok (.astore 5, 2) := by decide +kernel
theorem d_jdk_42_m149_41 : decode jdk_42_method_149_code 41 = .ok (.aload_n 0, 1) := by decide +kernel
theorem d_jdk_42_m149_42 : decode jdk_42_method_149_code 42 = .ok (.aload 5, 2) := by decide +kernel
theorem d_jdk_42_m149_44 : decode jdk_42_method_149_code 44 = .ok (.iload_n 3, 1) := by decide +kernel
theorem d_jdk_42_m149_45 : decode jdk_42_method_149_code 45 = .ok (.invokestatic 47, 3) := by decide +kernel
theorem d_jdk_42_m149_48 : decode jdk_42_method_149_code 48 = .ok (.putfield 15, 3) := by decide +kernel
theorem d_jdk_42_m149_51 : decode jdk_42_method_149_code 51 = .ok (.aload_n 0, 1) := by decide +kernel
theorem d_jdk_42_m149_52 : decode jdk_42_method_149_code 52 = .ok (.aload 5, 2) := by decide +kernel
theorem d_jdk_42_m149_54 : decode jdk_42_method_149_code 54 = .ok (.putfield 9, 3) := by decide +kernel
theorem d_jdk_42_m149_57 : decode jdk_42_method_149_code 57 = .ok (.return_, 1) := by decide +kernel
theorem d_jdk_42_m149_58 : decode jdk_42_method_149_code 58 = .ok (.aload_n 0, 1) := by decide +kernel
theorem d_jdk_42_m149_59 : decode jdk_42_method_149_code 59 = .ok (.iconst 1, 1) := by decide +kernel
theorem d_jdk_42_m149_60 : decode jdk_42_method_149_code 60 = .ok (.putfield 15, 3) := by decide +kernel
theorem d_jdk_42_m149_63 : decode jdk_42_method_149_code 63 = .ok (.aload_n 0, 1) := by decide +kernel
theorem d_jdk_42_m149_64 : decode jdk_42_method_149_code 64 = .ok (.aload_n 1, 1) := by decide +kernel
theorem d_jdk_42_m149_65 : decode jdk_42_method_149_code 65 = .ok (.iload_n 2, 1) := by decide +kernel
theorem d_jdk_42_m149_66 : decode jdk_42_method_149_code 66 = .ok (.iload_n 3, 1) := by decide +kernel
theorem d_jdk_42_m149_67 : decode jdk_42_method_149_code 67 = .ok (.invokestatic 180, 3) := by decide +kernel
theorem d_jdk_42_m149_70 : decode jdk_42_method_149_code 70 = .ok (.putfield 9, 3) := by decide +kernel
theorem d_jdk_42_m149_73 : decode jdk_42_method_149_code 73 = .ok (.return_, 1) := by decide +kernel
set_option maxRecDepth 65536 in
set_option maxHeartbeats 40000000 in
theorem cEmp4 {l : Launch} {Z : State} {a0 : Array Value} (W : Wd Z a0) {EL : List (String × Nat)} {vm : Vm} {h : Heap} {a b : Addr} {v0 c0 : Value} (hm : ("java/lang/String", 7) ∈ EL) (E : Exa Z h a "java/lang/String") (F1 : Fld Z h a "java/lang/String" "value" "[B" (v0)) (F2 : Fld Z h a "java/lang/String" "coder" "B" (c0)) (Sa : Safe Z EL vm h a) (hz : Z.heap.size ≤ a) :
    Ctr false l Z a0 EL (⟨"java/lang/String", "<init>", "([CIILjava/lang/Void;)V"⟩ : MethodName) jdk_42_method_149_code 6 none ({ frames := 1, cells := 4, slots := 8, locals := 12 } : Room) #[.ref a, .ref b, .int (0 : Int32), .int (0 : Int32), .null] vm h (fun v vm' h' => v = none ∧ Keep h h' [a] ∧ Str Z h' a []) := by
  refine Ctr.of_go (L0 := #[.val (.ref a), .val (.ref b), .val (.int (0 : Int32)), .val (.int (0 : Int32)), .val (.null), .unset]) (by first | exact plainFor_of_name (by first | (simp [plainName, overriddenIn]; done) | decide +kernel) | decide +kernel) (fun m => by first | (simp [entryFrame, mkF, argsToLocals, Value.category, maxLocals]; done) | rfl) (fun p e s m below meth c vmi chi => ?_)
  refine Go.aload_n 1 d_jdk_42_m149_0 rfl rfl rfl ?_
  refine Go.initObject 0 4 d_jdk_42_m149_1 rfl (W.1 16 rfl) (W.1 17 rfl) (W.1 18 rfl) rfl (nl rfl) (nl rfl) (nl rfl) ?_
  refine Go.iload_n 5 d_jdk_42_m149_4 rfl rfl ?_
  refine Go.ifne 27 8 d_jdk_42_m149_5 (by decide) rfl rfl (fun q1 => absurd rfl q1) (fun q1 => ?_)
  refine Go.aload_n 9 d_jdk_42_m149_8 rfl rfl rfl ?_
  refine Go.ldcS (text := "") (vs := []) (z := (0 : Int32)) 0 11 d_jdk_42_m149_9 rfl rfl (W.1 19 rfl) (W.sub (by decide +kernel)) hm lit_ok_.1 (by decide) (by decide) lit_ok_.2 (by decide) (nl rfl) (nl rfl) (fun y1 b2 k2 vm2 h2 E2 A2 C2 V2 B2 N2 c2 => ?_)
  have T2 : Str Z h2 y1 [] := ⟨b2, k2, A2, C2, V2, B2, by decide, by decide⟩
  refine Go.getfield 14 d_jdk_42_m149_11 rfl (W.1 25 rfl) V2 ?_
  have f3 := F1.ext E2
  have f4 := E.ext E2
  have f5 := CHr.safe (CHr.trans chi c2) E.lt Sa
  have L5 := Nat.lt_of_lt_of_le E.lt (CHr.trans chi c2).2.1
  refine Go.putfield 17 d_jdk_42_m149_14 rfl (W.1 25 rfl) f3 f4 (Or.inr ⟨(W.1 21 rfl), rfl, rfl⟩) (W.1 7 rfl) (ty := (.array .byte)) (by decide) rfl rfl f5 hz (fun h6 X6 S6 c6 => ?_)
  have Ea := f4.wr X6
  have G1 := f3.same X6
  have F2a := (F2.ext E2).other X6 (Or.inr (slot_ne (a0 := a0) (C := "java/lang/String") (Or.inr (W.1 22 rfl)) (Or.inr (W.1 21 rfl)) (by decide) (t := .byte) (t' := (.array .byte)) (by decide) (by decide)))
  have K1 := Arv.other B2 X6 (Ne.symm (N2 _ f5).2)
  have ba := (N2 _ f5).2
  refine Go.aload_n 18 d_jdk_42_m149_17 rfl rfl rfl ?_
  refine Go.ldcS (text := "") (vs := []) (z := (0 : Int32)) 0 20 d_jdk_42_m149_18 rfl rfl (W.1 19 rfl) (W.sub (by decide +kernel)) hm lit_ok_.1 (by decide) (by decide) lit_ok_.2 (by decide) (nl rfl) (nl rfl) (fun y2 b7 k7 vm7 h7 E7 A7 C7 V7 B7 N7 c7 => ?_)
  have T7 : Str Z h7 y2 [] := ⟨b7, k7, A7, C7, V7, B7, by decide, by decide⟩
  refine Go.getfield 23 d_jdk_42_m149_20 rfl (W.1 26 rfl) C7 ?_
  have f8 := CHr.safe c7 Ea.lt S6
  have L8 := Nat.lt_of_lt_of_le Ea.lt c7.2.1
  refine Go.putfield 26 d_jdk_42_m149_23 rfl (W.1 26 rfl) (F2a.ext E7) (Ea.ext E7) (Or.inr ⟨(W.1 22 rfl), rfl, rfl⟩) (W.1 7 rfl) (ty := .byte) (by decide) rfl rfl f8 hz (fun h9 X9 S9 c9 => ?_)
  exact Go.return_ d_jdk_42_m149_26 rfl (nl rfl) (nl rfl) (fun vm' ch => ⟨rfl, (((Keep.ofExt E2 [a]).wr X6 (Or.inl (by simp))).ext E7).wr X9 (Or.inl (by simp)), ⟨_, _, (Ea.ext E7).wr X9, (F2a.ext E7).same X9, (G1.ext E7).other X9 (Or.inr (slot_ne (a0 := a0) (C := "java/lang/String") (Or.inr (W.1 21 rfl)) (Or.inr (W.1 22 rfl)) (by decide) (t := (.array .byte)) (t' := .byte) (by decide) (by decide))), Arv.other (K1.ext E7) X9 (Ne.symm ba), by decide, fun _ q => nomatch q⟩⟩)
theorem d_jdk_42_m3_0 : decode jdk_42_method_3_code 0 = .ok (.aload_n 0, 1) := by decide +kernel
theorem d_jdk_42_m3_1 : decode jdk_42_method_3_code 1 = .ok (.aload_n 1, 1) := by decide +kernel
theorem d_jdk_42_m3_2 : decode jdk_42_method_3_code 2 = .ok (.iconst 0, 1) := by decide +kernel
theorem d_jdk_42_m3_3 : decode jdk_42_method_3_code 3 = .ok (.aload_n 1, 1) := by decide +kernel
theorem d_jdk_42_m3_4 : decode jdk_42_method_3_code 4 = .ok (.arraylength, 1) := by decide +kernel
theorem d_jdk_42_m3_5 : decode jdk_42_method_3_code 5 = .ok (.aconst_null, 1) := by decide +kernel
theorem d_jdk_42_m3_6 : decode jdk_42_method_3_code 6 = .ok (.invokespecial 27, 3) := by decide +kernel
theorem d_jdk_42_m3_9 : decode jdk_42_method_3_code 9 = .ok (.return_, 1) := by decide +kernel
set_option maxRecDepth 65536 in
set_option maxHeartbeats 40000000 in
theorem cEmp1 {l : Launch} {Z : State} {a0 : Array Value} (W : Wd Z a0) {EL : List (String × Nat)} {vm : Vm} {h : Heap} {a b : Addr} {v0 c0 dv : Value} {kC : ClassId} {vs : List Value} (hm : ("java/lang/String", 7) ∈ EL) (E : Exa Z h a "java/lang/String") (F1 : Fld Z h a "java/lang/String" "value" "[B" (v0)) (F2 : Fld Z h a "java/lang/String" "coder" "B" (c0)) (A : Arv Z h b kC .char (0 : Int32) vs dv) (Sa : Safe Z EL vm h a) (hz : Z.heap.size ≤ a) :
    Ctr false l Z a0 EL (⟨"java/lang/String", "<init>", "([C)V"⟩ : MethodName) jdk_42_method_3_code 2 none ({ frames := 2, cells := 4, slots := 8, locals := 29 } : Room) #[.ref a, .ref b] vm h (fun v vm' h' => v = none ∧ Keep h h' [a] ∧ Str Z h' a []) := by
  refine Ctr.of_go (L0 := #[.val (.ref a), .val (.ref b)]) (by first | exact plainFor_of_name (by first | (simp [plainName, overriddenIn]; done) | decide +kernel) | decide +kernel) (fun m => by first | (simp [entryFrame, mkF, argsToLocals, Value.category, maxLocals]; done) | rfl) (fun p e s m below meth c vmi chi => ?_)
  refine Go.aload_n 1 d_jdk_42_m3_0 rfl rfl rfl ?_
  refine Go.aload_n 2 d_jdk_42_m3_1 rfl rfl rfl ?_
  refine Go.iconst (0) 3 d_jdk_42_m3_2 rfl rfl ?_
  refine Go.aload_n 4 d_jdk_42_m3_3 rfl rfl rfl ?_
  refine Go.arraylength 5 d_jdk_42_m3_4 rfl A ?_
  refine Go.aconst_null 6 d_jdk_42_m3_5 rfl ?_
  refine Go.invokespecial (rest := []) 0 a [.ref b, .int (0 : Int32), .int (0 : Int32), .null] 9 d_jdk_42_m3_6 rfl rfl (W.1 12 rfl) (W.1 13 rfl) (W.1 8 rfl) (W.1 15 rfl) (by decide) (cEmp4 W hm E F1 F2 (chi.safe E.lt Sa) hz) (by decide +kernel : parseMethodDescriptor "([CIILjava/lang/Void;)V" = some ⟨[(.array .char), .int, .int, (.object "java/lang/Void")], none⟩) rfl rfl rfl (nl rfl) (nl rfl) (nl rfl) (nl rfl) (nl rfl) (fun v1 vm1 h1 ⟨rv, K, T⟩ c1 => ?_)
  subst rv
  exact Go.return_ d_jdk_42_m3_9 rfl (nl rfl) (nl rfl) (fun vm' ch => ⟨rfl, K, T⟩)
theorem d_m2_0 : decode method_2_code 0 = .ok (.iload_n 0, 1) := by decide +kernel
theorem d_m2_1 : decode method_2_code 1 = .ok (.iconst 3, 1) := by decide +kernel
theorem d_m2_2 : decode method_2_code 2 = .ok (.iand, 1) := by decide +kernel
theorem d_m2_3 : decode method_2_code 3 = .ok (.istore_n 1, 1) := by decide +kernel
theorem d_m2_4 : decode method_2_code 4 = .ok (.iload_n 1, 1) := by decide +kernel
theorem d_m2_5 : decode method_2_code 5 = .ok (.ifCond .ne 6, 3) := by decide +kernel
theorem d_m2_8 : decode method_2_code 8 = .ok (.bipush 36, 2) := by decide +kernel
theorem d_m2_10 : decode method_2_code 10 = .ok (.ireturn, 1) := by decide +kernel
theorem d_m2_11 : decode method_2_code 11 = .ok (.iload_n 1, 1) := by decide +kernel
theorem d_m2_12 : decode method_2_code 12 = .ok (.iconst 1, 1) := by decide +kernel
theorem d_m2_13 : decode method_2_code 13 = .ok (.if_icmp .ne 6, 3) := by decide +kernel
theorem d_m2_16 : decode method_2_code 16 = .ok (.bipush 35, 2) := by decide +kernel
theorem d_m2_18 : decode method_2_code 18 = .ok (.ireturn, 1) := by decide +kernel
theorem d_m2_19 : decode method_2_code 19 = .ok (.iload_n 1, 1) := by decide +kernel
theorem d_m2_20 : decode method_2_code 20 = .ok (.iconst 2, 1) := by decide +kernel
theorem d_m2_21 : decode method_2_code 21 = .ok (.if_icmp .ne 6, 3) := by decide +kernel
theorem d_m2_24 : decode method_2_code 24 = .ok (.bipush 123, 2) := by decide +kernel
theorem d_m2_26 : decode method_2_code 26 = .ok (.ireturn, 1) := by decide +kernel
theorem d_m2_27 : decode method_2_code 27 = .ok (.iload_n 0, 1) := by decide +kernel
theorem d_m2_28 : decode method_2_code 28 = .ok (.iconst 2, 1) := by decide +kernel
theorem d_m2_29 : decode method_2_code 29 = .ok (.iushr, 1) := by decide +kernel
theorem d_m2_30 : decode method_2_code 30 = .ok (.sipush 255, 3) := by decide +kernel
theorem d_m2_33 : decode method_2_code 33 = .ok (.iand, 1) := by decide +kernel
theorem d_m2_34 : decode method_2_code 34 = .ok (.i2c, 1) := by decide +kernel
theorem d_m2_35 : decode method_2_code 35 = .ok (.ireturn, 1) := by decide +kernel
set_option maxRecDepth 65536 in
set_option maxHeartbeats 40000000 in
theorem cCh {l : Launch} {Z : State} {a0 : Array Value} (W : Wd Z a0) {EL : List (String × Nat)} {vm : Vm} {h : Heap} {nw : Bool} {x : Int32} :
    Ctr nw l Z a0 EL (⟨"com/example/guide/guide/io/FlowLanguageIsExpressionPinLaw", "ch", "(I)C"⟩ : MethodName) method_2_code 2 (some .char) ({ frames := 0, cells := 0, slots := 0, locals := 0 } : Room) #[.int x] vm h (fun v vm' h' => v = some (.int (chV x)) ∧ h' = h) := by
  refine Ctr.of_go (L0 := #[.val (.int x), .unset]) (by first | exact plainFor_of_name (by first | (simp [plainName, overriddenIn]; done) | decide +kernel) | decide +kernel) (fun m => by first | (simp [entryFrame, mkF, argsToLocals, Value.category, maxLocals]; done) | rfl) (fun p e s m below meth c vmi chi => ?_)
  refine Go.iload_n 1 d_m2_0 rfl rfl ?_
  refine Go.iconst (3) 2 d_m2_1 rfl rfl ?_
  refine Go.iand (x &&& (3 : Int32)) 3 d_m2_2 rfl rfl ?_
  refine Go.istore_n #[.val (.int x), .val (.int (x &&& (3 : Int32)))] 4 d_m2_3 rfl rfl ?_
  refine Go.iload_n 5 d_m2_4 rfl rfl ?_
  refine Go.ifne 11 8 d_m2_5 (by decide) rfl rfl (fun q0 => ?_) (fun q0 => ?_)
  · refine Go.iload_n 12 d_m2_11 rfl rfl ?_
    refine Go.iconst (1) 13 d_m2_12 rfl rfl ?_
    refine Go.if_icmpne 19 16 d_m2_13 (by decide) rfl rfl (fun q1 => ?_) (fun q1 => ?_)
    · refine Go.iload_n 20 d_m2_19 rfl rfl ?_
      refine Go.iconst (2) 21 d_m2_20 rfl rfl ?_
      refine Go.if_icmpne 27 24 d_m2_21 (by decide) rfl rfl (fun q2 => ?_) (fun q2 => ?_)
      · refine Go.iload_n 28 d_m2_27 rfl rfl ?_
        refine Go.iconst (2) 29 d_m2_28 rfl rfl ?_
        refine Go.iushr (XT.ushr x (2 : Int32)) 30 d_m2_29 rfl rfl ?_
        refine Go.sipush (255) 33 d_m2_30 rfl rfl ?_
        refine Go.iand ((XT.ushr x (2 : Int32)) &&& (255 : Int32)) 34 d_m2_33 rfl rfl ?_
        refine Go.i2c ((XT.ushr x (2 : Int32)) &&& (255 : Int32)) 35 d_m2_34 rfl (i2c_mask _) ?_
        exact Go.ireturn d_m2_35 rfl (narCv (and255 _)) (by simp) (nl rfl) (nl rfl) (fun vm' ch => ⟨congrArg (fun z => some (Value.int z)) (by unfold chV; rw [if_neg q0, if_neg q1, if_neg q2]), rfl⟩)
      · refine Go.bipush (123) 26 d_m2_24 rfl rfl ?_
        exact Go.ireturn d_m2_26 rfl rfl (by simp) (nl rfl) (nl rfl) (fun vm' ch => ⟨congrArg (fun z => some (Value.int z)) (by unfold chV; rw [if_neg q0, if_neg q1, if_pos q2]), rfl⟩)
    · refine Go.bipush (35) 18 d_m2_16 rfl rfl ?_
      exact Go.ireturn d_m2_18 rfl rfl (by simp) (nl rfl) (nl rfl) (fun vm' ch => ⟨congrArg (fun z => some (Value.int z)) (by unfold chV; rw [if_neg q0, if_pos q1]), rfl⟩)
  · refine Go.bipush (36) 10 d_m2_8 rfl rfl ?_
    exact Go.ireturn d_m2_10 rfl rfl (by simp) (nl rfl) (nl rfl) (fun vm' ch => ⟨congrArg (fun z => some (Value.int z)) (by unfold chV; rw [if_pos q0]), rfl⟩)
theorem d_m3_0 : decode method_3_code 0 = .ok (.iload_n 0, 1) := by decide +kernel
theorem d_m3_1 : decode method_3_code 1 = .ok (.bipush 36, 2) := by decide +kernel
theorem d_m3_3 : decode method_3_code 3 = .ok (.if_icmp .eq 9, 3) := by decide +kernel
theorem d_m3_6 : decode method_3_code 6 = .ok (.iload_n 0, 1) := by decide +kernel
theorem d_m3_7 : decode method_3_code 7 = .ok (.bipush 35, 2) := by decide +kernel
theorem d_m3_9 : decode method_3_code 9 = .ok (.if_icmp .ne 13, 3) := by decide +kernel
theorem d_m3_12 : decode method_3_code 12 = .ok (.iload_n 1, 1) := by decide +kernel
theorem d_m3_13 : decode method_3_code 13 = .ok (.bipush 123, 2) := by decide +kernel
theorem d_m3_15 : decode method_3_code 15 = .ok (.if_icmp .ne 7, 3) := by decide +kernel
theorem d_m3_18 : decode method_3_code 18 = .ok (.iconst 1, 1) := by decide +kernel
theorem d_m3_19 : decode method_3_code 19 = .ok (.goto 4, 3) := by decide +kernel
theorem d_m3_22 : decode method_3_code 22 = .ok (.iconst 0, 1) := by decide +kernel
theorem d_m3_23 : decode method_3_code 23 = .ok (.ireturn, 1) := by decide +kernel
set_option maxRecDepth 65536 in
set_option maxHeartbeats 40000000 in
theorem cOpens {l : Launch} {Z : State} {a0 : Array Value} (W : Wd Z a0) {EL : List (String × Nat)} {vm : Vm} {h : Heap} {nw : Bool} {x y : Int32} :
    Ctr nw l Z a0 EL (⟨"com/example/guide/guide/io/FlowLanguageIsExpressionPinLaw", "opens", "(CC)Z"⟩ : MethodName) method_3_code 2 (some .boolean) ({ frames := 0, cells := 0, slots := 0, locals := 0 } : Room) #[.int x, .int y] vm h (fun v vm' h' => v = some (.int (bi ((x = 36 ∨ x = 35) ∧ y = 123))) ∧ h' = h) := by
  refine Ctr.of_go (L0 := #[.val (.int x), .val (.int y)]) (by first | exact plainFor_of_name (by first | (simp [plainName, overriddenIn]; done) | decide +kernel) | decide +kernel) (fun m => by first | (simp [entryFrame, mkF, argsToLocals, Value.category, maxLocals]; done) | rfl) (fun p e s m below meth c vmi chi => ?_)
  refine Go.iload_n 1 d_m3_0 rfl rfl ?_
  refine Go.bipush (36) 3 d_m3_1 rfl rfl ?_
  refine Go.if_icmpeq 12 6 d_m3_3 (by decide) rfl rfl (fun a0 => ?_) (fun a0 => ?_)
  · refine Go.iload_n 13 d_m3_12 rfl rfl ?_
    refine Go.bipush (123) 15 d_m3_13 rfl rfl ?_
    refine Go.if_icmpne 22 18 d_m3_15 (by decide) rfl rfl (fun a2 => ?_) (fun a2 => ?_)
    · refine Go.iconst (0) 23 d_m3_22 rfl rfl ?_
      exact Go.ireturn d_m3_23 rfl rfl (by simp) (nl rfl) (nl rfl) (fun vm' ch => ⟨congrArg (fun z => some (Value.int z)) (by simp_all [bi]), rfl⟩)
    · refine Go.iconst (1) 19 d_m3_18 rfl rfl ?_
      refine Go.goto 23 d_m3_19 (by decide) rfl ?_
      exact Go.ireturn d_m3_23 rfl rfl (by simp) (nl rfl) (nl rfl) (fun vm' ch => ⟨congrArg (fun z => some (Value.int z)) (by simp_all [bi]), rfl⟩)
  · refine Go.iload_n 7 d_m3_6 rfl rfl ?_
    refine Go.bipush (35) 9 d_m3_7 rfl rfl ?_
    refine Go.if_icmpne 22 12 d_m3_9 (by decide) rfl rfl (fun a1 => ?_) (fun a1 => ?_)
    · refine Go.iconst (0) 23 d_m3_22 rfl rfl ?_
      exact Go.ireturn d_m3_23 rfl rfl (by simp) (nl rfl) (nl rfl) (fun vm' ch => ⟨congrArg (fun z => some (Value.int z)) (by simp_all [bi]), rfl⟩)
    · refine Go.iload_n 13 d_m3_12 rfl rfl ?_
      refine Go.bipush (123) 15 d_m3_13 rfl rfl ?_
      refine Go.if_icmpne 22 18 d_m3_15 (by decide) rfl rfl (fun a2 => ?_) (fun a2 => ?_)
      · refine Go.iconst (0) 23 d_m3_22 rfl rfl ?_
        exact Go.ireturn d_m3_23 rfl rfl (by simp) (nl rfl) (nl rfl) (fun vm' ch => ⟨congrArg (fun z => some (Value.int z)) (by simp_all [bi]), rfl⟩)
      · refine Go.iconst (1) 19 d_m3_18 rfl rfl ?_
        refine Go.goto 23 d_m3_19 (by decide) rfl ?_
        exact Go.ireturn d_m3_23 rfl rfl (by simp) (nl rfl) (nl rfl) (fun vm' ch => ⟨congrArg (fun z => some (Value.int z)) (by simp_all [bi]), rfl⟩)
theorem d_jdk_42_m152_0 : decode jdk_42_method_152_code 0 = .ok (.getstatic 38, 3) := by decide +kernel
theorem d_jdk_42_m152_3 : decode jdk_42_method_152_code 3 = .ok (.ifCond .eq 10, 3) := by decide +kernel
theorem d_jdk_42_m152_6 : decode jdk_42_method_152_code 6 = .ok (.aload_n 0, 1) := by decide +kernel
theorem d_jdk_42_m152_7 : decode jdk_42_method_152_code 7 = .ok (.getfield 15, 3) := by decide +kernel
theorem d_jdk_42_m152_10 : decode jdk_42_method_152_code 10 = .ok (.goto 4, 3) := by decide +kernel
theorem d_jdk_42_m152_13 : decode jdk_42_method_152_code 13 = .ok (.iconst 1, 1) := by decide +kernel
theorem d_jdk_42_m152_14 : decode jdk_42_method_152_code 14 = .ok (.ireturn, 1) := by decide +kernel
set_option maxRecDepth 65536 in
set_option maxHeartbeats 40000000 in
theorem cCoder {l : Launch} {Z : State} {a0 : Array Value} (W : Wd Z a0) {EL : List (String × Nat)} {vm : Vm} {h : Heap} {nw : Bool} {a : Addr} (F : Fld Z h a "java/lang/String" "coder" "B" (.int 0)) :
    Ctr nw l Z a0 EL (⟨"java/lang/String", "coder", "()B"⟩ : MethodName) jdk_42_method_152_code 1 (some .byte) ({ frames := 0, cells := 0, slots := 0, locals := 0 } : Room) #[.ref a] vm h (fun v vm' h' => v = some (.int 0) ∧ h' = h) := by
  refine Ctr.of_go (L0 := #[.val (.ref a)]) (by first | exact plainFor_of_name (by first | (simp [plainName, overriddenIn]; done) | decide +kernel) | decide +kernel) (fun m => by first | (simp [entryFrame, mkF, argsToLocals, Value.category, maxLocals]; done) | rfl) (fun p e s m below meth c vmi chi => ?_)
  obtain ⟨zc1, Cz1, hz1⟩ := W.2.1
  refine Go.know fun hE1 _ _ => ?_
  refine Go.getstatic 3 d_jdk_42_m152_0 rfl (W.1 56 rfl) (Cz1.ext hE1) ?_
  refine Go.ifeq 13 6 d_jdk_42_m152_3 (by decide) rfl rfl (fun q2 => absurd q2 hz1) (fun q2 => ?_)
  refine Go.aload_n 7 d_jdk_42_m152_6 rfl rfl rfl ?_
  refine Go.getfield 10 d_jdk_42_m152_7 rfl (W.1 26 rfl) F ?_
  refine Go.goto 14 d_jdk_42_m152_10 (by decide) rfl ?_
  exact Go.ireturn d_jdk_42_m152_14 rfl rfl (by simp) (nl rfl) (nl rfl) (fun vm' ch => ⟨rfl, rfl⟩)
theorem d_jdk_42_m154_0 : decode jdk_42_method_154_code 0 = .ok (.getstatic 38, 3) := by decide +kernel
theorem d_jdk_42_m154_3 : decode jdk_42_method_154_code 3 = .ok (.ifCond .eq 14, 3) := by decide +kernel
theorem d_jdk_42_m154_6 : decode jdk_42_method_154_code 6 = .ok (.aload_n 0, 1) := by decide +kernel
theorem d_jdk_42_m154_7 : decode jdk_42_method_154_code 7 = .ok (.getfield 15, 3) := by decide +kernel
theorem d_jdk_42_m154_10 : decode jdk_42_method_154_code 10 = .ok (.ifCond .ne 7, 3) := by decide +kernel
theorem d_jdk_42_m154_13 : decode jdk_42_method_154_code 13 = .ok (.iconst 1, 1) := by decide +kernel
theorem d_jdk_42_m154_14 : decode jdk_42_method_154_code 14 = .ok (.goto 4, 3) := by decide +kernel
theorem d_jdk_42_m154_17 : decode jdk_42_method_154_code 17 = .ok (.iconst 0, 1) := by decide +kernel
theorem d_jdk_42_m154_18 : decode jdk_42_method_154_code 18 = .ok (.ireturn, 1) := by decide +kernel
set_option maxRecDepth 65536 in
set_option maxHeartbeats 40000000 in
theorem cIsL {l : Launch} {Z : State} {a0 : Array Value} (W : Wd Z a0) {EL : List (String × Nat)} {vm : Vm} {h : Heap} {nw : Bool} {a : Addr} (F : Fld Z h a "java/lang/String" "coder" "B" (.int 0)) :
    Ctr nw l Z a0 EL (⟨"java/lang/String", "isLatin1", "()Z"⟩ : MethodName) jdk_42_method_154_code 1 (some .boolean) ({ frames := 0, cells := 0, slots := 0, locals := 0 } : Room) #[.ref a] vm h (fun v vm' h' => v = some (.int 1) ∧ h' = h) := by
  refine Ctr.of_go (L0 := #[.val (.ref a)]) (by first | exact plainFor_of_name (by first | (simp [plainName, overriddenIn]; done) | decide +kernel) | decide +kernel) (fun m => by first | (simp [entryFrame, mkF, argsToLocals, Value.category, maxLocals]; done) | rfl) (fun p e s m below meth c vmi chi => ?_)
  obtain ⟨zc1, Cz1, hz1⟩ := W.2.1
  refine Go.know fun hE1 _ _ => ?_
  refine Go.getstatic 3 d_jdk_42_m154_0 rfl (W.1 56 rfl) (Cz1.ext hE1) ?_
  refine Go.ifeq 17 6 d_jdk_42_m154_3 (by decide) rfl rfl (fun q2 => absurd q2 hz1) (fun q2 => ?_)
  refine Go.aload_n 7 d_jdk_42_m154_6 rfl rfl rfl ?_
  refine Go.getfield 10 d_jdk_42_m154_7 rfl (W.1 26 rfl) F ?_
  refine Go.ifne 17 13 d_jdk_42_m154_10 (by decide) rfl rfl (fun q3 => absurd rfl q3) (fun q3 => ?_)
  refine Go.iconst (1) 14 d_jdk_42_m154_13 rfl rfl ?_
  refine Go.goto 18 d_jdk_42_m154_14 (by decide) rfl ?_
  exact Go.ireturn d_jdk_42_m154_18 rfl rfl (by simp) (nl rfl) (nl rfl) (fun vm' ch => ⟨rfl, rfl⟩)
theorem d_jdk_42_m126_0 : decode jdk_42_method_126_code 0 = .ok (.aload_n 0, 1) := by decide +kernel
theorem d_jdk_42_m126_1 : decode jdk_42_method_126_code 1 = .ok (.areturn, 1) := by decide +kernel
set_option maxRecDepth 65536 in
set_option maxHeartbeats 40000000 in
theorem cToStr {l : Launch} {Z : State} {a0 : Array Value} (W : Wd Z a0) {EL : List (String × Nat)} {vm : Vm} {h : Heap} {nw : Bool} {a : Addr} :
    Ctr nw l Z a0 EL (⟨"java/lang/String", "toString", "()Ljava/lang/String;"⟩ : MethodName) jdk_42_method_126_code 1 (some (.object "java/lang/String")) ({ frames := 0, cells := 0, slots := 0, locals := 0 } : Room) #[.ref a] vm h (fun v vm' h' => v = some (.ref a) ∧ h' = h) := by
  refine Ctr.of_go (L0 := #[.val (.ref a)]) (by first | exact plainFor_of_name (by first | (simp [plainName, overriddenIn]; done) | decide +kernel) | decide +kernel) (fun m => by first | (simp [entryFrame, mkF, argsToLocals, Value.category, maxLocals]; done) | rfl) (fun p e s m below meth c vmi chi => ?_)
  refine Go.aload_n 1 d_jdk_42_m126_0 rfl rfl rfl ?_
  exact Go.areturn d_jdk_42_m126_1 rfl rfl rfl (nl rfl) (nl rfl) (fun vm' ch => ⟨rfl, rfl⟩)
theorem d_jdk_43_m25_0 : decode jdk_43_method_25_code 0 = .ok (.aload_n 2, 1) := by decide +kernel
theorem d_jdk_43_m25_1 : decode jdk_43_method_25_code 1 = .ok (.iconst 0, 1) := by decide +kernel
theorem d_jdk_43_m25_2 : decode jdk_43_method_25_code 2 = .ok (.baload, 1) := by decide +kernel
theorem d_jdk_43_m25_3 : decode jdk_43_method_25_code 3 = .ok (.istore 5, 2) := by decide +kernel
theorem d_jdk_43_m25_5 : decode jdk_43_method_25_code 5 = .ok (.iload_n 1, 1) := by decide +kernel
theorem d_jdk_43_m25_6 : decode jdk_43_method_25_code 6 = .ok (.iload_n 3, 1) := by decide +kernel
theorem d_jdk_43_m25_7 : decode jdk_43_method_25_code 7 = .ok (.isub, 1) := by decide +kernel
theorem d_jdk_43_m25_8 : decode jdk_43_method_25_code 8 = .ok (.istore 6, 2) := by decide +kernel
theorem d_jdk_43_m25_10 : decode jdk_43_method_25_code 10 = .ok (.iload 4, 2) := by decide +kernel
theorem d_jdk_43_m25_12 : decode jdk_43_method_25_code 12 = .ok (.istore 7, 2) := by decide +kernel
theorem d_jdk_43_m25_14 : decode jdk_43_method_25_code 14 = .ok (.iload 7, 2) := by decide +kernel
theorem d_jdk_43_m25_16 : decode jdk_43_method_25_code 16 = .ok (.iload 6, 2) := by decide +kernel
theorem d_jdk_43_m25_18 : decode jdk_43_method_25_code 18 = .ok (.if_icmp .gt 101, 3) := by decide +kernel
theorem d_jdk_43_m25_21 : decode jdk_43_method_25_code 21 = .ok (.aload_n 0, 1) := by decide +kernel
theorem d_jdk_43_m25_22 : decode jdk_43_method_25_code 22 = .ok (.iload 7, 2) := by decide +kernel
theorem d_jdk_43_m25_24 : decode jdk_43_method_25_code 24 = .ok (.baload, 1) := by decide +kernel
theorem d_jdk_43_m25_25 : decode jdk_43_method_25_code 25 = .ok (.iload 5, 2) := by decide +kernel
theorem d_jdk_43_m25_27 : decode jdk_43_method_25_code 27 = .ok (.if_icmp .eq 25, 3) := by decide +kernel
theorem d_jdk_43_m25_30 : decode jdk_43_method_25_code 30 = .ok (.iinc 7 1, 3) := by decide +kernel
theorem d_jdk_43_m25_33 : decode jdk_43_method_25_code 33 = .ok (.iload 7, 2) := by decide +kernel
theorem d_jdk_43_m25_35 : decode jdk_43_method_25_code 35 = .ok (.iload 6, 2) := by decide +kernel
theorem d_jdk_43_m25_37 : decode jdk_43_method_25_code 37 = .ok (.if_icmp .gt 15, 3) := by decide +kernel
theorem d_jdk_43_m25_40 : decode jdk_43_method_25_code 40 = .ok (.aload_n 0, 1) := by decide +kernel
theorem d_jdk_43_m25_41 : decode jdk_43_method_25_code 41 = .ok (.iload 7, 2) := by decide +kernel
theorem d_jdk_43_m25_43 : decode jdk_43_method_25_code 43 = .ok (.baload, 1) := by decide +kernel
theorem d_jdk_43_m25_44 : decode jdk_43_method_25_code 44 = .ok (.iload 5, 2) := by decide +kernel
theorem d_jdk_43_m25_46 : decode jdk_43_method_25_code 46 = .ok (.if_icmp .eq 6, 3) := by decide +kernel
theorem d_jdk_43_m25_49 : decode jdk_43_method_25_code 49 = .ok (.goto (-19), 3) := by decide +kernel
theorem d_jdk_43_m25_52 : decode jdk_43_method_25_code 52 = .ok (.iload 7, 2) := by decide +kernel
theorem d_jdk_43_m25_54 : decode jdk_43_method_25_code 54 = .ok (.iload 6, 2) := by decide +kernel
theorem d_jdk_43_m25_56 : decode jdk_43_method_25_code 56 = .ok (.if_icmp .gt 57, 3) := by decide +kernel
theorem d_jdk_43_m25_59 : decode jdk_43_method_25_code 59 = .ok (.iload 7, 2) := by decide +kernel
theorem d_jdk_43_m25_61 : decode jdk_43_method_25_code 61 = .ok (.iconst 1, 1) := by decide +kernel
theorem d_jdk_43_m25_62 : decode jdk_43_method_25_code 62 = .ok (.iadd, 1) := by decide +kernel
theorem d_jdk_43_m25_63 : decode jdk_43_method_25_code 63 = .ok (.istore 8, 2) := by decide +kernel
theorem d_jdk_43_m25_65 : decode jdk_43_method_25_code 65 = .ok (.iload 8, 2) := by decide +kernel
theorem d_jdk_43_m25_67 : decode jdk_43_method_25_code 67 = .ok (.iload_n 3, 1) := by decide +kernel
theorem d_jdk_43_m25_68 : decode jdk_43_method_25_code 68 = .ok (.iadd, 1) := by decide +kernel
theorem d_jdk_43_m25_69 : decode jdk_43_method_25_code 69 = .ok (.iconst 1, 1) := by decide +kernel
theorem d_jdk_43_m25_70 : decode jdk_43_method_25_code 70 = .ok (.isub, 1) := by decide +kernel
theorem d_jdk_43_m25_71 : decode jdk_43_method_25_code 71 = .ok (.istore 9, 2) := by decide +kernel
theorem d_jdk_43_m25_73 : decode jdk_43_method_25_code 73 = .ok (.iconst 1, 1) := by decide +kernel
theorem d_jdk_43_m25_74 : decode jdk_43_method_25_code 74 = .ok (.istore 10, 2) := by decide +kernel
theorem d_jdk_43_m25_76 : decode jdk_43_method_25_code 76 = .ok (.iload 8, 2) := by decide +kernel
theorem d_jdk_43_m25_78 : decode jdk_43_method_25_code 78 = .ok (.iload 9, 2) := by decide +kernel
theorem d_jdk_43_m25_80 : decode jdk_43_method_25_code 80 = .ok (.if_icmp .ge 23, 3) := by decide +kernel
theorem d_jdk_43_m25_83 : decode jdk_43_method_25_code 83 = .ok (.aload_n 0, 1) := by decide +kernel
theorem d_jdk_43_m25_84 : decode jdk_43_method_25_code 84 = .ok (.iload 8, 2) := by decide +kernel
theorem d_jdk_43_m25_86 : decode jdk_43_method_25_code 86 = .ok (.baload, 1) := by decide +kernel
theorem d_jdk_43_m25_87 : decode jdk_43_method_25_code 87 = .ok (.aload_n 2, 1) := by decide +kernel
theorem d_jdk_43_m25_88 : decode jdk_43_method_25_code 88 = .ok (.iload 10, 2) := by decide +kernel
theorem d_jdk_43_m25_90 : decode jdk_43_method_25_code 90 = .ok (.baload, 1) := by decide +kernel
theorem d_jdk_43_m25_91 : decode jdk_43_method_25_code 91 = .ok (.if_icmp .ne 12, 3) := by decide +kernel
theorem d_jdk_43_m25_94 : decode jdk_43_method_25_code 94 = .ok (.iinc 8 1, 3) := by decide +kernel
theorem d_jdk_43_m25_97 : decode jdk_43_method_25_code 97 = .ok (.iinc 10 1, 3) := by decide +kernel
theorem d_jdk_43_m25_100 : decode jdk_43_method_25_code 100 = .ok (.goto (-24), 3) := by decide +kernel
theorem d_jdk_43_m25_103 : decode jdk_43_method_25_code 103 = .ok (.iload 8, 2) := by decide +kernel
theorem d_jdk_43_m25_105 : decode jdk_43_method_25_code 105 = .ok (.iload 9, 2) := by decide +kernel
theorem d_jdk_43_m25_107 : decode jdk_43_method_25_code 107 = .ok (.if_icmp .ne 6, 3) := by decide +kernel
theorem d_jdk_43_m25_110 : decode jdk_43_method_25_code 110 = .ok (.iload 7, 2) := by decide +kernel
theorem d_jdk_43_m25_112 : decode jdk_43_method_25_code 112 = .ok (.ireturn, 1) := by decide +kernel
theorem d_jdk_43_m25_113 : decode jdk_43_method_25_code 113 = .ok (.iinc 7 1, 3) := by decide +kernel
theorem d_jdk_43_m25_116 : decode jdk_43_method_25_code 116 = .ok (.goto (-102), 3) := by decide +kernel
theorem d_jdk_43_m25_119 : decode jdk_43_method_25_code 119 = .ok (.iconst (-1), 1) := by decide +kernel
theorem d_jdk_43_m25_120 : decode jdk_43_method_25_code 120 = .ok (.ireturn, 1) := by decide +kernel
set_option maxRecDepth 65536 in
set_option maxHeartbeats 40000000 in
theorem cIx5 {l : Launch} {Z : State} {a0 : Array Value} (W : Wd Z a0) {EL : List (String × Nat)} {vm : Vm} {h : Heap} {nw : Bool} {va vb : Addr} {kA kB : ClassId} {cs : List Int32} {d0 d1 : Int32} (A : Arv Z h va kA .byte (Int32.ofNat cs.length) ((cs.map fun c => c.toInt8.toInt32).map Value.int) (.int 0)) (hl : cs.length ≤ 4000) (hcs : ∀ c ∈ cs, ¬ c < 0 ∧ ¬ (255 : Int32) < c) (B : Arv Z h vb kB .byte (2 : Int32) [.int (by8 d0), .int (by8 d1)] (.int 0)) (hd : (¬ d0 < 0 ∧ ¬ (255 : Int32) < d0) ∧ ¬ d1 < 0 ∧ ¬ (255 : Int32) < d1) :
    Ctr nw l Z a0 EL (⟨"java/lang/StringLatin1", "indexOf", "([BI[BII)I"⟩ : MethodName) jdk_43_method_25_code 11 (some .int) ({ frames := 0, cells := 0, slots := 0, locals := 0 } : Room) #[.ref va, .int (Int32.ofNat cs.length), .ref vb, .int (2 : Int32), .int (0 : Int32)] vm h (fun v vm' h' => ∃ r : Int32, v = some (.int r) ∧ h' = h ∧ ((¬ r < 0 ∧ Has2 cs d0 d1) ∨ (r < 0 ∧ ¬ Has2 cs d0 d1))) := by
  refine Ctr.of_go (L0 := #[.val (.ref va), .val (.int (Int32.ofNat cs.length)), .val (.ref vb), .val (.int (2 : Int32)), .val (.int (0 : Int32)), .unset, .unset, .unset, .unset, .unset, .unset]) (by first | exact plainFor_of_name (by first | (simp [plainName, overriddenIn]; done) | decide +kernel) | decide +kernel) (fun m => by first | (simp [entryFrame, mkF, argsToLocals, Value.category, maxLocals]; done) | rfl) (fun p e s m below meth c vmi chi => ?_)
  refine Go.aload_n 1 d_jdk_43_m25_0 rfl rfl rfl ?_
  refine Go.iconst (0) 2 d_jdk_43_m25_1 rfl rfl ?_
  refine Go.baload (.int (by8 d0)) 3 d_jdk_43_m25_2 rfl B (by decide) rfl ?_
  refine Go.istore #[.val (.ref va), .val (.int (Int32.ofNat cs.length)), .val (.ref vb), .val (.int (2 : Int32)), .val (.int (0 : Int32)), .val (.int (by8 d0)), .unset, .unset, .unset, .unset, .unset] 5 d_jdk_43_m25_3 rfl rfl ?_
  refine Go.iload_n 6 d_jdk_43_m25_5 rfl rfl ?_
  refine Go.iload_n 7 d_jdk_43_m25_6 rfl rfl ?_
  refine Go.isub ((Int32.ofNat cs.length) - (2 : Int32)) 8 d_jdk_43_m25_7 rfl rfl ?_
  refine Go.istore #[.val (.ref va), .val (.int (Int32.ofNat cs.length)), .val (.ref vb), .val (.int (2 : Int32)), .val (.int (0 : Int32)), .val (.int (by8 d0)), .val (.int ((Int32.ofNat cs.length) - (2 : Int32))), .unset, .unset, .unset, .unset] 10 d_jdk_43_m25_8 rfl rfl ?_
  refine Go.iload 12 d_jdk_43_m25_10 rfl rfl ?_
  refine Go.istore #[.val (.ref va), .val (.int (Int32.ofNat cs.length)), .val (.ref vb), .val (.int (2 : Int32)), .val (.int (0 : Int32)), .val (.int (by8 d0)), .val (.int ((Int32.ofNat cs.length) - (2 : Int32))), .val (.int (0 : Int32)), .unset, .unset, .unset] 14 d_jdk_43_m25_12 rfl rfl ?_
  have hmx : ∀ j : Nat, j ≤ 5000 → ((Int32.ofNat cs.length - (2 : Int32)) < Int32.ofNat j ↔ cs.length < j + 2) := by
    intro j hj
    have e := c_isub (Int32.ofNat cs.length) 2
    have r := rng32 (Int32.ofNat cs.length - (2 : Int32))
    rw [ofNat_toInt (by omega)] at e
    have e2 : (2 : Int32).toInt = 2 := rfl
    rw [Int32.lt_iff_toInt_lt, ofNat_toInt (by omega)]
    omega
  have big : ∀ j : Nat, j ≤ 5000 → cs.length < j + 2 → (∀ (vmi : Vm) (o8 o9 o10 : Slot), One o8 → One o9 → One o10 → (∀ i, i < j → ¬ At2 cs d0 d1 i) → Go nw p l e ({ frames := 0, cells := 0, slots := 0, locals := 0 } : Room) s m #[.ref va, .int (Int32.ofNat cs.length), .ref vb, .int (2 : Int32), .int (0 : Int32)] below meth c jdk_43_method_25_code 11 "indexOf" (some .int) Z a0 EL "java/lang/StringLatin1" (fun v vm' h' => ∃ r : Int32, v = some (.int r) ∧ h' = h ∧ ((¬ r < 0 ∧ Has2 cs d0 d1) ∨ (r < 0 ∧ ¬ Has2 cs d0 d1))) vmi h 0 0 14 #[.val (.ref va), .val (.int (Int32.ofNat cs.length)), .val (.ref vb), .val (.int (2 : Int32)), .val (.int (0 : Int32)), .val (.int (by8 d0)), .val (.int (Int32.ofNat cs.length - (2 : Int32))), .val (.int (Int32.ofNat j)), o8, o9, o10] []) := by
    intro j hj hb vmi o8 o9 o10 u8 u9 u10 hno
    refine Go.iload 16 d_jdk_43_m25_14 rfl rfl ?_
    refine Go.iload 18 d_jdk_43_m25_16 rfl rfl ?_
    refine Go.if_icmpgt 119 21 d_jdk_43_m25_18 (by decide) rfl rfl (fun q1 => ?_) (fun q1 => absurd ((hmx j hj).mpr hb) q1)
    refine Go.iconst (-1) 120 d_jdk_43_m25_119 rfl rfl ?_
    exact Go.ireturn d_jdk_43_m25_120 rfl rfl (by simp) (nl rfl) (nl rfl) (fun vm' ch => ⟨_, rfl, rfl, Or.inr ⟨by decide, fun ⟨i, hi⟩ => hno i (by have := hi.1; omega) hi⟩⟩)
  have all : ∀ k j : Nat, j + k = cs.length + 1 → (∀ (vmi : Vm) (o8 o9 o10 : Slot), One o8 → One o9 → One o10 → (∀ i, i < j → ¬ At2 cs d0 d1 i) → Go nw p l e ({ frames := 0, cells := 0, slots := 0, locals := 0 } : Room) s m #[.ref va, .int (Int32.ofNat cs.length), .ref vb, .int (2 : Int32), .int (0 : Int32)] below meth c jdk_43_method_25_code 11 "indexOf" (some .int) Z a0 EL "java/lang/StringLatin1" (fun v vm' h' => ∃ r : Int32, v = some (.int r) ∧ h' = h ∧ ((¬ r < 0 ∧ Has2 cs d0 d1) ∨ (r < 0 ∧ ¬ Has2 cs d0 d1))) vmi h 0 0 14 #[.val (.ref va), .val (.int (Int32.ofNat cs.length)), .val (.ref vb), .val (.int (2 : Int32)), .val (.int (0 : Int32)), .val (.int (by8 d0)), .val (.int (Int32.ofNat cs.length - (2 : Int32))), .val (.int (Int32.ofNat j)), o8, o9, o10] []) ∧ (∀ (vmi : Vm) (o8 o9 o10 : Slot), One o8 → One o9 → One o10 → (∀ i, i < j + 1 → ¬ At2 cs d0 d1 i) → Go nw p l e ({ frames := 0, cells := 0, slots := 0, locals := 0 } : Room) s m #[.ref va, .int (Int32.ofNat cs.length), .ref vb, .int (2 : Int32), .int (0 : Int32)] below meth c jdk_43_method_25_code 11 "indexOf" (some .int) Z a0 EL "java/lang/StringLatin1" (fun v vm' h' => ∃ r : Int32, v = some (.int r) ∧ h' = h ∧ ((¬ r < 0 ∧ Has2 cs d0 d1) ∨ (r < 0 ∧ ¬ Has2 cs d0 d1))) vmi h 0 0 30 #[.val (.ref va), .val (.int (Int32.ofNat cs.length)), .val (.ref vb), .val (.int (2 : Int32)), .val (.int (0 : Int32)), .val (.int (by8 d0)), .val (.int (Int32.ofNat cs.length - (2 : Int32))), .val (.int (Int32.ofNat j)), o8, o9, o10] []) ∧ (∀ (vmi : Vm) (o8 o9 o10 : Slot), One o8 → One o9 → One o10 → (j + 2 ≤ cs.length → cs.getD j 0 = d0) → (∀ i, i < j → ¬ At2 cs d0 d1 i) → Go nw p l e ({ frames := 0, cells := 0, slots := 0, locals := 0 } : Room) s m #[.ref va, .int (Int32.ofNat cs.length), .ref vb, .int (2 : Int32), .int (0 : Int32)] below meth c jdk_43_method_25_code 11 "indexOf" (some .int) Z a0 EL "java/lang/StringLatin1" (fun v vm' h' => ∃ r : Int32, v = some (.int r) ∧ h' = h ∧ ((¬ r < 0 ∧ Has2 cs d0 d1) ∨ (r < 0 ∧ ¬ Has2 cs d0 d1))) vmi h 0 0 52 #[.val (.ref va), .val (.int (Int32.ofNat cs.length)), .val (.ref vb), .val (.int (2 : Int32)), .val (.int (0 : Int32)), .val (.int (by8 d0)), .val (.int (Int32.ofNat cs.length - (2 : Int32))), .val (.int (Int32.ofNat j)), o8, o9, o10] []) := by
    intro k
    induction k with
    | zero =>
      intro j hj
      have p52 : (∀ (vmi : Vm) (o8 o9 o10 : Slot), One o8 → One o9 → One o10 → (j + 2 ≤ cs.length → cs.getD j 0 = d0) → (∀ i, i < j → ¬ At2 cs d0 d1 i) → Go nw p l e ({ frames := 0, cells := 0, slots := 0, locals := 0 } : Room) s m #[.ref va, .int (Int32.ofNat cs.length), .ref vb, .int (2 : Int32), .int (0 : Int32)] below meth c jdk_43_method_25_code 11 "indexOf" (some .int) Z a0 EL "java/lang/StringLatin1" (fun v vm' h' => ∃ r : Int32, v = some (.int r) ∧ h' = h ∧ ((¬ r < 0 ∧ Has2 cs d0 d1) ∨ (r < 0 ∧ ¬ Has2 cs d0 d1))) vmi h 0 0 52 #[.val (.ref va), .val (.int (Int32.ofNat cs.length)), .val (.ref vb), .val (.int (2 : Int32)), .val (.int (0 : Int32)), .val (.int (by8 d0)), .val (.int (Int32.ofNat cs.length - (2 : Int32))), .val (.int (Int32.ofNat j)), o8, o9, o10] []) := by
        intro vmi o8 o9 o10 u8 u9 u10 _ hno
        refine Go.iload 54 d_jdk_43_m25_52 rfl rfl ?_
        refine Go.iload 56 d_jdk_43_m25_54 rfl rfl ?_
        refine Go.if_icmpgt 113 59 d_jdk_43_m25_56 (by decide) rfl rfl (fun q2 => ?_) (fun q2 => absurd ((hmx j (by omega)).mpr (by omega)) q2)
        refine Go.iinc (Int32.ofNat (j + 1)) #[.val (.ref va), .val (.int (Int32.ofNat cs.length)), .val (.ref vb), .val (.int (2 : Int32)), .val (.int (0 : Int32)), .val (.int (by8 d0)), .val (.int (Int32.ofNat cs.length - (2 : Int32))), .val (.int (Int32.ofNat (j + 1))), o8, o9, o10] 116 d_jdk_43_m25_113 rfl rfl (ofNat_add1 j) rfl ?_
        refine Go.goto 14 d_jdk_43_m25_116 (by decide) rfl ?_
        exact big (j + 1) (by omega) (by omega) _ _ _ _ u8 u9 u10 (fun i hi z => hno i (by have := z.1; omega) z)
      refine ⟨big j (by omega) (by omega), ?_, p52⟩
      intro vmi o8 o9 o10 u8 u9 u10 hno
      refine Go.iinc (Int32.ofNat (j + 1)) #[.val (.ref va), .val (.int (Int32.ofNat cs.length)), .val (.ref vb), .val (.int (2 : Int32)), .val (.int (0 : Int32)), .val (.int (by8 d0)), .val (.int (Int32.ofNat cs.length - (2 : Int32))), .val (.int (Int32.ofNat (j + 1))), o8, o9, o10] 33 d_jdk_43_m25_30 rfl rfl (ofNat_add1 j) rfl ?_
      refine Go.iload 35 d_jdk_43_m25_33 rfl rfl ?_
      refine Go.iload 37 d_jdk_43_m25_35 rfl rfl ?_
      refine Go.if_icmpgt 52 40 d_jdk_43_m25_37 (by decide) rfl rfl (fun q3 => ?_) (fun q3 => absurd ((hmx (j + 1) (by omega)).mpr (by omega)) q3)
      show Go nw p l e ({ frames := 0, cells := 0, slots := 0, locals := 0 } : Room) s m #[.ref va, .int (Int32.ofNat cs.length), .ref vb, .int (2 : Int32), .int (0 : Int32)] below meth c jdk_43_method_25_code 11 "indexOf" (some .int) Z a0 EL "java/lang/StringLatin1" (fun v vm' h' => ∃ r : Int32, v = some (.int r) ∧ h' = h ∧ ((¬ r < 0 ∧ Has2 cs d0 d1) ∨ (r < 0 ∧ ¬ Has2 cs d0 d1))) vmi h 0 0 52 #[.val (.ref va), .val (.int (Int32.ofNat cs.length)), .val (.ref vb), .val (.int (2 : Int32)), .val (.int (0 : Int32)), .val (.int (by8 d0)), .val (.int (Int32.ofNat cs.length - (2 : Int32))), .val (.int (Int32.ofNat (j + 1))), o8, o9, o10] []
      refine Go.iload 54 d_jdk_43_m25_52 rfl rfl ?_
      refine Go.iload 56 d_jdk_43_m25_54 rfl rfl ?_
      refine Go.if_icmpgt 113 59 d_jdk_43_m25_56 (by decide) rfl rfl (fun q4 => ?_) (fun q4 => absurd ((hmx (j + 1) (by omega)).mpr (by omega)) q4)
      refine Go.iinc (Int32.ofNat (j + 2)) #[.val (.ref va), .val (.int (Int32.ofNat cs.length)), .val (.ref vb), .val (.int (2 : Int32)), .val (.int (0 : Int32)), .val (.int (by8 d0)), .val (.int (Int32.ofNat cs.length - (2 : Int32))), .val (.int (Int32.ofNat (j + 2))), o8, o9, o10] 116 d_jdk_43_m25_113 rfl rfl (ofNat_add1 (j + 1)) rfl ?_
      refine Go.goto 14 d_jdk_43_m25_116 (by decide) rfl ?_
      exact big (j + 2) (by omega) (by omega) _ _ _ _ u8 u9 u10 (fun i hi z => hno i (by have := z.1; omega) z)
    | succ k ih =>
      intro j hj
      obtain ⟨i14, i30, i52⟩ := ih (j + 1) (by omega)
      have p52 : (∀ (vmi : Vm) (o8 o9 o10 : Slot), One o8 → One o9 → One o10 → (j + 2 ≤ cs.length → cs.getD j 0 = d0) → (∀ i, i < j → ¬ At2 cs d0 d1 i) → Go nw p l e ({ frames := 0, cells := 0, slots := 0, locals := 0 } : Room) s m #[.ref va, .int (Int32.ofNat cs.length), .ref vb, .int (2 : Int32), .int (0 : Int32)] below meth c jdk_43_method_25_code 11 "indexOf" (some .int) Z a0 EL "java/lang/StringLatin1" (fun v vm' h' => ∃ r : Int32, v = some (.int r) ∧ h' = h ∧ ((¬ r < 0 ∧ Has2 cs d0 d1) ∨ (r < 0 ∧ ¬ Has2 cs d0 d1))) vmi h 0 0 52 #[.val (.ref va), .val (.int (Int32.ofNat cs.length)), .val (.ref vb), .val (.int (2 : Int32)), .val (.int (0 : Int32)), .val (.int (by8 d0)), .val (.int (Int32.ofNat cs.length - (2 : Int32))), .val (.int (Int32.ofNat j)), o8, o9, o10] []) := by
        intro vmi o8 o9 o10 u8 u9 u10 hf hno
        refine Go.iload 54 d_jdk_43_m25_52 rfl rfl ?_
        refine Go.iload 56 d_jdk_43_m25_54 rfl rfl ?_
        refine Go.if_icmpgt 113 59 d_jdk_43_m25_56 (by decide) rfl rfl (fun qe => ?_) (fun qe => ?_)
        · refine Go.iinc (Int32.ofNat (j + 1)) #[.val (.ref va), .val (.int (Int32.ofNat cs.length)), .val (.ref vb), .val (.int (2 : Int32)), .val (.int (0 : Int32)), .val (.int (by8 d0)), .val (.int (Int32.ofNat cs.length - (2 : Int32))), .val (.int (Int32.ofNat (j + 1))), o8, o9, o10] 116 d_jdk_43_m25_113 rfl rfl (ofNat_add1 j) rfl ?_
          refine Go.goto 14 d_jdk_43_m25_116 (by decide) rfl ?_
          exact i14 _ _ _ _ u8 u9 u10 (fun i hi z => by have z1 := z.1; have := (hmx j (by omega)).mp qe; exact hno i (by omega) z)
        · have hb : j + 2 ≤ cs.length := Nat.le_of_not_lt fun z => qe ((hmx j (by omega)).mpr z)
          refine Go.iload 61 d_jdk_43_m25_59 rfl rfl ?_
          refine Go.iconst (1) 62 d_jdk_43_m25_61 rfl rfl ?_
          refine Go.iadd (Int32.ofNat (j + 1)) 63 d_jdk_43_m25_62 rfl (ofNat_add1 j) ?_
          refine Go.istore #[.val (.ref va), .val (.int (Int32.ofNat cs.length)), .val (.ref vb), .val (.int (2 : Int32)), .val (.int (0 : Int32)), .val (.int (by8 d0)), .val (.int (Int32.ofNat cs.length - (2 : Int32))), .val (.int (Int32.ofNat j)), .val (.int (Int32.ofNat (j + 1))), o9, o10] 65 d_jdk_43_m25_63 rfl (XS.store1 rfl u8 rfl) ?_
          refine Go.iload 67 d_jdk_43_m25_65 rfl rfl ?_
          refine Go.iload_n 68 d_jdk_43_m25_67 rfl rfl ?_
          refine Go.iadd ((Int32.ofNat (j + 1)) + (2 : Int32)) 69 d_jdk_43_m25_68 rfl rfl ?_
          refine Go.iconst (1) 70 d_jdk_43_m25_69 rfl rfl ?_
          refine Go.isub (Int32.ofNat (j + 2)) 71 d_jdk_43_m25_70 rfl (ofNat_add21 (j + 1)) ?_
          refine Go.istore #[.val (.ref va), .val (.int (Int32.ofNat cs.length)), .val (.ref vb), .val (.int (2 : Int32)), .val (.int (0 : Int32)), .val (.int (by8 d0)), .val (.int (Int32.ofNat cs.length - (2 : Int32))), .val (.int (Int32.ofNat j)), .val (.int (Int32.ofNat (j + 1))), .val (.int (Int32.ofNat (j + 2))), o10] 73 d_jdk_43_m25_71 rfl (XS.store1 rfl u9 rfl) ?_
          refine Go.iconst (1) 74 d_jdk_43_m25_73 rfl rfl ?_
          refine Go.istore #[.val (.ref va), .val (.int (Int32.ofNat cs.length)), .val (.ref vb), .val (.int (2 : Int32)), .val (.int (0 : Int32)), .val (.int (by8 d0)), .val (.int (Int32.ofNat cs.length - (2 : Int32))), .val (.int (Int32.ofNat j)), .val (.int (Int32.ofNat (j + 1))), .val (.int (Int32.ofNat (j + 2))), .val (.int (1 : Int32))] 76 d_jdk_43_m25_74 rfl (XS.store1 rfl u10 rfl) ?_
          refine Go.iload 78 d_jdk_43_m25_76 rfl rfl ?_
          refine Go.iload 80 d_jdk_43_m25_78 rfl rfl ?_
          refine Go.if_icmpge 103 83 d_jdk_43_m25_80 (by decide) rfl rfl (fun q5 => absurd ((ofNat_lt (by omega) (by omega)).mpr (Nat.lt_succ_self (j + 1))) q5) (fun q5 => ?_)
          refine Go.aload_n 84 d_jdk_43_m25_83 rfl rfl rfl ?_
          refine Go.iload 86 d_jdk_43_m25_84 rfl rfl ?_
          refine Go.baload (.int (by8 (cs.getD (j + 1) 0))) 87 d_jdk_43_m25_86 rfl A (inb (by omega) hl) (by rw [clamp (by omega)]; exact getB cs (j + 1)) ?_
          refine Go.aload_n 88 d_jdk_43_m25_87 rfl rfl rfl ?_
          refine Go.iload 90 d_jdk_43_m25_88 rfl rfl ?_
          refine Go.baload (.int (by8 d1)) 91 d_jdk_43_m25_90 rfl B (by decide) rfl ?_
          refine Go.if_icmpne 103 94 d_jdk_43_m25_91 (by decide) rfl rfl (fun q1 => ?_) (fun q1 => ?_)
          · refine Go.iload 105 d_jdk_43_m25_103 rfl rfl ?_
            refine Go.iload 107 d_jdk_43_m25_105 rfl rfl ?_
            refine Go.if_icmpne 113 110 d_jdk_43_m25_107 (by decide) rfl rfl (fun q6 => ?_) (fun q6 => absurd q6 (fun z => by have z1 := congrArg Int32.toInt z; rw [ofNat_toInt (by omega), ofNat_toInt (by omega)] at z1; omega))
            refine Go.iinc (Int32.ofNat (j + 1)) #[.val (.ref va), .val (.int (Int32.ofNat cs.length)), .val (.ref vb), .val (.int (2 : Int32)), .val (.int (0 : Int32)), .val (.int (by8 d0)), .val (.int (Int32.ofNat cs.length - (2 : Int32))), .val (.int (Int32.ofNat (j + 1))), .val (.int (Int32.ofNat (j + 1))), .val (.int (Int32.ofNat (j + 2))), .val (.int (1 : Int32))] 116 d_jdk_43_m25_113 rfl rfl (ofNat_add1 j) rfl ?_
            refine Go.goto 14 d_jdk_43_m25_116 (by decide) rfl ?_
            exact i14 _ _ _ _ (One.val rfl) (One.val rfl) (One.val rfl) (fun i hi z => by rcases Nat.lt_succ_iff_lt_or_eq.mp hi with q | rfl; exact hno i q z; exact q1 ((by8_inj (getIn hcs (by omega)) hd.2).mpr z.2.2))
          · refine Go.iinc (Int32.ofNat (j + 2)) #[.val (.ref va), .val (.int (Int32.ofNat cs.length)), .val (.ref vb), .val (.int (2 : Int32)), .val (.int (0 : Int32)), .val (.int (by8 d0)), .val (.int (Int32.ofNat cs.length - (2 : Int32))), .val (.int (Int32.ofNat j)), .val (.int (Int32.ofNat (j + 2))), .val (.int (Int32.ofNat (j + 2))), .val (.int (1 : Int32))] 97 d_jdk_43_m25_94 rfl rfl (ofNat_add1 (j + 1)) rfl ?_
            refine Go.iinc (2 : Int32) #[.val (.ref va), .val (.int (Int32.ofNat cs.length)), .val (.ref vb), .val (.int (2 : Int32)), .val (.int (0 : Int32)), .val (.int (by8 d0)), .val (.int (Int32.ofNat cs.length - (2 : Int32))), .val (.int (Int32.ofNat j)), .val (.int (Int32.ofNat (j + 2))), .val (.int (Int32.ofNat (j + 2))), .val (.int (2 : Int32))] 100 d_jdk_43_m25_97 rfl rfl rfl rfl ?_
            refine Go.goto 76 d_jdk_43_m25_100 (by decide) rfl ?_
            refine Go.iload 78 d_jdk_43_m25_76 rfl rfl ?_
            refine Go.iload 80 d_jdk_43_m25_78 rfl rfl ?_
            refine Go.if_icmpge 103 83 d_jdk_43_m25_80 (by decide) rfl rfl (fun q7 => ?_) (fun q7 => absurd q7 (fun z => by rw [Int32.lt_iff_toInt_lt] at z; omega))
            refine Go.iload 105 d_jdk_43_m25_103 rfl rfl ?_
            refine Go.iload 107 d_jdk_43_m25_105 rfl rfl ?_
            refine Go.if_icmpne 113 110 d_jdk_43_m25_107 (by decide) rfl rfl (fun q8 => absurd rfl q8) (fun q8 => ?_)
            refine Go.iload 112 d_jdk_43_m25_110 rfl rfl ?_
            exact Go.ireturn d_jdk_43_m25_112 rfl rfl (by simp) (nl rfl) (nl rfl) (fun vm' ch => ⟨_, rfl, rfl, Or.inl ⟨(inb (show j < cs.length by omega) hl).1, j, by omega, hf hb, (by8_inj (getIn hcs (by omega)) hd.2).mp q1⟩⟩)
      have p30 : (∀ (vmi : Vm) (o8 o9 o10 : Slot), One o8 → One o9 → One o10 → (∀ i, i < j + 1 → ¬ At2 cs d0 d1 i) → Go nw p l e ({ frames := 0, cells := 0, slots := 0, locals := 0 } : Room) s m #[.ref va, .int (Int32.ofNat cs.length), .ref vb, .int (2 : Int32), .int (0 : Int32)] below meth c jdk_43_method_25_code 11 "indexOf" (some .int) Z a0 EL "java/lang/StringLatin1" (fun v vm' h' => ∃ r : Int32, v = some (.int r) ∧ h' = h ∧ ((¬ r < 0 ∧ Has2 cs d0 d1) ∨ (r < 0 ∧ ¬ Has2 cs d0 d1))) vmi h 0 0 30 #[.val (.ref va), .val (.int (Int32.ofNat cs.length)), .val (.ref vb), .val (.int (2 : Int32)), .val (.int (0 : Int32)), .val (.int (by8 d0)), .val (.int (Int32.ofNat cs.length - (2 : Int32))), .val (.int (Int32.ofNat j)), o8, o9, o10] []) := by
        intro vmi o8 o9 o10 u8 u9 u10 hno
        refine Go.iinc (Int32.ofNat (j + 1)) #[.val (.ref va), .val (.int (Int32.ofNat cs.length)), .val (.ref vb), .val (.int (2 : Int32)), .val (.int (0 : Int32)), .val (.int (by8 d0)), .val (.int (Int32.ofNat cs.length - (2 : Int32))), .val (.int (Int32.ofNat (j + 1))), o8, o9, o10] 33 d_jdk_43_m25_30 rfl rfl (ofNat_add1 j) rfl ?_
        refine Go.iload 35 d_jdk_43_m25_33 rfl rfl ?_
        refine Go.iload 37 d_jdk_43_m25_35 rfl rfl ?_
        refine Go.if_icmpgt 52 40 d_jdk_43_m25_37 (by decide) rfl rfl (fun qe => ?_) (fun qe => ?_)
        · exact i52 _ _ _ _ u8 u9 u10 (fun z => by have := (hmx (j + 1) (by omega)).mp qe; omega) hno
        · have hb : j + 3 ≤ cs.length := Nat.le_of_not_lt fun z => qe ((hmx (j + 1) (by omega)).mpr (by omega))
          refine Go.aload_n 41 d_jdk_43_m25_40 rfl rfl rfl ?_
          refine Go.iload 43 d_jdk_43_m25_41 rfl rfl ?_
          refine Go.baload (.int (by8 (cs.getD (j + 1) 0))) 44 d_jdk_43_m25_43 rfl A (inb (by omega) hl) (by rw [clamp (by omega)]; exact getB cs (j + 1)) ?_
          refine Go.iload 46 d_jdk_43_m25_44 rfl rfl ?_
          refine Go.if_icmpeq 52 49 d_jdk_43_m25_46 (by decide) rfl rfl (fun q0 => ?_) (fun q0 => ?_)
          · exact i52 _ _ _ _ u8 u9 u10 (fun _ => (by8_inj (getIn hcs (by omega)) hd.1).mp q0) hno
          · refine Go.goto 30 d_jdk_43_m25_49 (by decide) rfl ?_
            exact i30 _ _ _ _ u8 u9 u10 (fun i hi z => by rcases Nat.lt_succ_iff_lt_or_eq.mp hi with q | rfl; exact hno i q z; exact q0 ((by8_inj (getIn hcs (by omega)) hd.1).mpr z.2.1))
      refine ⟨?_, p30, p52⟩
      intro vmi o8 o9 o10 u8 u9 u10 hno
      refine Go.iload 16 d_jdk_43_m25_14 rfl rfl ?_
      refine Go.iload 18 d_jdk_43_m25_16 rfl rfl ?_
      refine Go.if_icmpgt 119 21 d_jdk_43_m25_18 (by decide) rfl rfl (fun qe => ?_) (fun qe => ?_)
      · refine Go.iconst (-1) 120 d_jdk_43_m25_119 rfl rfl ?_
        exact Go.ireturn d_jdk_43_m25_120 rfl rfl (by simp) (nl rfl) (nl rfl) (fun vm' ch => ⟨_, rfl, rfl, Or.inr ⟨by decide, fun ⟨i, hi⟩ => hno i (by have := hi.1; have := (hmx j (by omega)).mp qe; omega) hi⟩⟩)
      · have hb : j + 2 ≤ cs.length := Nat.le_of_not_lt fun z => qe ((hmx j (by omega)).mpr z)
        refine Go.aload_n 22 d_jdk_43_m25_21 rfl rfl rfl ?_
        refine Go.iload 24 d_jdk_43_m25_22 rfl rfl ?_
        refine Go.baload (.int (by8 (cs.getD j 0))) 25 d_jdk_43_m25_24 rfl A (inb (by omega) hl) (by rw [clamp (by omega)]; exact getB cs j) ?_
        refine Go.iload 27 d_jdk_43_m25_25 rfl rfl ?_
        refine Go.if_icmpeq 52 30 d_jdk_43_m25_27 (by decide) rfl rfl (fun q0 => ?_) (fun q0 => ?_)
        · exact p52 _ _ _ _ u8 u9 u10 (fun _ => (by8_inj (getIn hcs (by omega)) hd.1).mp q0) hno
        · exact p30 _ _ _ _ u8 u9 u10 (fun i hi z => by rcases Nat.lt_succ_iff_lt_or_eq.mp hi with q | rfl; exact hno i q z; exact q0 ((by8_inj (getIn hcs (by omega)) hd.1).mpr z.2.1))
  exact (all (cs.length + 1) 0 (by omega)).1 _ _ _ _ One.u One.u One.u (fun i hi => absurd hi (Nat.not_lt_zero _))
theorem d_jdk_43_m24_0 : decode jdk_43_method_24_code 0 = .ok (.aload_n 1, 1) := by decide +kernel
theorem d_jdk_43_m24_1 : decode jdk_43_method_24_code 1 = .ok (.arraylength, 1) := by decide +kernel
theorem d_jdk_43_m24_2 : decode jdk_43_method_24_code 2 = .ok (.ifCond .ne 5, 3) := by decide +kernel
theorem d_jdk_43_m24_5 : decode jdk_43_method_24_code 5 = .ok (.iconst 0, 1) := by decide +kernel
theorem d_jdk_43_m24_6 : decode jdk_43_method_24_code 6 = .ok (.ireturn, 1) := by decide +kernel
theorem d_jdk_43_m24_7 : decode jdk_43_method_24_code 7 = .ok (.aload_n 0, 1) := by decide +kernel
theorem d_jdk_43_m24_8 : decode jdk_43_method_24_code 8 = .ok (.arraylength, 1) := by decide +kernel
theorem d_jdk_43_m24_9 : decode jdk_43_method_24_code 9 = .ok (.ifCond .ne 5, 3) := by decide +kernel
theorem d_jdk_43_m24_12 : decode jdk_43_method_24_code 12 = .ok (.iconst (-1), 1) := by decide +kernel
theorem d_jdk_43_m24_13 : decode jdk_43_method_24_code 13 = .ok (.ireturn, 1) := by decide +kernel
theorem d_jdk_43_m24_14 : decode jdk_43_method_24_code 14 = .ok (.aload_n 0, 1) := by decide +kernel
theorem d_jdk_43_m24_15 : decode jdk_43_method_24_code 15 = .ok (.aload_n 0, 1) := by decide +kernel
theorem d_jdk_43_m24_16 : decode jdk_43_method_24_code 16 = .ok (.arraylength, 1) := by decide +kernel
theorem d_jdk_43_m24_17 : decode jdk_43_method_24_code 17 = .ok (.aload_n 1, 1) := by decide +kernel
theorem d_jdk_43_m24_18 : decode jdk_43_method_24_code 18 = .ok (.aload_n 1, 1) := by decide +kernel
theorem d_jdk_43_m24_19 : decode jdk_43_method_24_code 19 = .ok (.arraylength, 1) := by decide +kernel
theorem d_jdk_43_m24_20 : decode jdk_43_method_24_code 20 = .ok (.iconst 0, 1) := by decide +kernel
theorem d_jdk_43_m24_21 : decode jdk_43_method_24_code 21 = .ok (.invokestatic 99, 3) := by decide +kernel
theorem d_jdk_43_m24_24 : decode jdk_43_method_24_code 24 = .ok (.ireturn, 1) := by decide +kernel
set_option maxRecDepth 65536 in
set_option maxHeartbeats 40000000 in
theorem cIx2 {l : Launch} {Z : State} {a0 : Array Value} (W : Wd Z a0) {EL : List (String × Nat)} {vm : Vm} {h : Heap} {nw : Bool} {va vb : Addr} {kA kB : ClassId} {cs : List Int32} {d0 d1 : Int32} (A : Arv Z h va kA .byte (Int32.ofNat cs.length) ((cs.map fun c => c.toInt8.toInt32).map Value.int) (.int 0)) (hl : cs.length ≤ 4000) (hcs : ∀ c ∈ cs, ¬ c < 0 ∧ ¬ (255 : Int32) < c) (B : Arv Z h vb kB .byte (2 : Int32) [.int (by8 d0), .int (by8 d1)] (.int 0)) (hd : (¬ d0 < 0 ∧ ¬ (255 : Int32) < d0) ∧ ¬ d1 < 0 ∧ ¬ (255 : Int32) < d1) :
    Ctr nw l Z a0 EL (⟨"java/lang/StringLatin1", "indexOf", "([B[B)I"⟩ : MethodName) jdk_43_method_24_code 2 (some .int) ({ frames := 1, cells := 0, slots := 0, locals := 22 } : Room) #[.ref va, .ref vb] vm h (fun v vm' h' => ∃ r : Int32, v = some (.int r) ∧ h' = h ∧ ((¬ r < 0 ∧ Has2 cs d0 d1) ∨ (r < 0 ∧ ¬ Has2 cs d0 d1))) := by
  refine Ctr.of_go (L0 := #[.val (.ref va), .val (.ref vb)]) (by first | exact plainFor_of_name (by first | (simp [plainName, overriddenIn]; done) | decide +kernel) | decide +kernel) (fun m => by first | (simp [entryFrame, mkF, argsToLocals, Value.category, maxLocals]; done) | rfl) (fun p e s m below meth c vmi chi => ?_)
  refine Go.aload_n 1 d_jdk_43_m24_0 rfl rfl rfl ?_
  refine Go.arraylength 2 d_jdk_43_m24_1 rfl B ?_
  refine Go.ifne 7 5 d_jdk_43_m24_2 (by decide) rfl rfl (fun q1 => ?_) (fun q1 => absurd q1 (by decide))
  refine Go.aload_n 8 d_jdk_43_m24_7 rfl rfl rfl ?_
  refine Go.arraylength 9 d_jdk_43_m24_8 rfl A ?_
  refine Go.ifne 14 12 d_jdk_43_m24_9 (by decide) rfl rfl (fun qn => ?_) (fun qn => ?_)
  · refine Go.aload_n 15 d_jdk_43_m24_14 rfl rfl rfl ?_
    refine Go.aload_n 16 d_jdk_43_m24_15 rfl rfl rfl ?_
    refine Go.arraylength 17 d_jdk_43_m24_16 rfl A ?_
    refine Go.aload_n 18 d_jdk_43_m24_17 rfl rfl rfl ?_
    refine Go.aload_n 19 d_jdk_43_m24_18 rfl rfl rfl ?_
    refine Go.arraylength 20 d_jdk_43_m24_19 rfl B ?_
    refine Go.iconst (0) 21 d_jdk_43_m24_20 rfl rfl ?_
    refine Go.invokestatic (rest := []) 0 [.ref va, .int (Int32.ofNat cs.length), .ref vb, .int (2 : Int32), .int (0 : Int32)] 24 d_jdk_43_m24_21 rfl (W.1 80 rfl) (W.1 81 rfl) (W.1 64 rfl) (W.1 82 rfl) (by decide) (cIx5 W A hl hcs B hd) (by decide +kernel : parseMethodDescriptor "([BI[BII)I" = some ⟨[(.array .byte), .int, (.array .byte), .int, .int], (some .int)⟩) rfl rfl rfl (nl rfl) (nl rfl) (nl rfl) (nl rfl) (nl rfl) (fun v2 vm2 h2 ⟨r, rv, hh, hq⟩ c2 => ?_)
    subst rv; replace hh := hh.symm; subst hh
    exact Go.ireturn d_jdk_43_m24_24 rfl rfl (by simp) (nl rfl) (nl rfl) (fun vm' ch => ⟨r, rfl, rfl, hq⟩)
  · refine Go.iconst (-1) 13 d_jdk_43_m24_12 rfl rfl ?_
    exact Go.ireturn d_jdk_43_m24_13 rfl rfl (by simp) (nl rfl) (nl rfl) (fun vm' ch => ⟨_, rfl, rfl, Or.inr ⟨by decide, fun ⟨i, hi⟩ => by have z := congrArg Int32.toInt qn; rw [ofNat_toInt (by omega)] at z; have e : (0 : Int32).toInt = 0 := rfl; have := hi.1; omega⟩⟩)
theorem d_jdk_42_m84_0 : decode jdk_42_method_84_code 0 = .ok (.aload_n 0, 1) := by decide +kernel
theorem d_jdk_42_m84_1 : decode jdk_42_method_84_code 1 = .ok (.invokevirtual 335, 3) := by decide +kernel
theorem d_jdk_42_m84_4 : decode jdk_42_method_84_code 4 = .ok (.istore_n 2, 1) := by decide +kernel
theorem d_jdk_42_m84_5 : decode jdk_42_method_84_code 5 = .ok (.iload_n 2, 1) := by decide +kernel
theorem d_jdk_42_m84_6 : decode jdk_42_method_84_code 6 = .ok (.aload_n 1, 1) := by decide +kernel
theorem d_jdk_42_m84_7 : decode jdk_42_method_84_code 7 = .ok (.invokevirtual 335, 3) := by decide +kernel
theorem d_jdk_42_m84_10 : decode jdk_42_method_84_code 10 = .ok (.if_icmp .ne 36, 3) := by decide +kernel
theorem d_jdk_42_m84_13 : decode jdk_42_method_84_code 13 = .ok (.aload_n 0, 1) := by decide +kernel
theorem d_jdk_42_m84_14 : decode jdk_42_method_84_code 14 = .ok (.invokevirtual 492, 3) := by decide +kernel
theorem d_jdk_42_m84_17 : decode jdk_42_method_84_code 17 = .ok (.ifCond .eq 17, 3) := by decide +kernel
theorem d_jdk_42_m84_20 : decode jdk_42_method_84_code 20 = .ok (.aload_n 0, 1) := by decide +kernel
theorem d_jdk_42_m84_21 : decode jdk_42_method_84_code 21 = .ok (.getfield 9, 3) := by decide +kernel
theorem d_jdk_42_m84_24 : decode jdk_42_method_84_code 24 = .ok (.aload_n 1, 1) := by decide +kernel
theorem d_jdk_42_m84_25 : decode jdk_42_method_84_code 25 = .ok (.getfield 9, 3) := by decide +kernel
theorem d_jdk_42_m84_28 : decode jdk_42_method_84_code 28 = .ok (.invokestatic 647, 3) := by decide +kernel
theorem d_jdk_42_m84_31 : decode jdk_42_method_84_code 31 = .ok (.goto 14, 3) := by decide +kernel
theorem d_jdk_42_m84_34 : decode jdk_42_method_84_code 34 = .ok (.aload_n 0, 1) := by decide +kernel
theorem d_jdk_42_m84_35 : decode jdk_42_method_84_code 35 = .ok (.getfield 9, 3) := by decide +kernel
theorem d_jdk_42_m84_38 : decode jdk_42_method_84_code 38 = .ok (.aload_n 1, 1) := by decide +kernel
theorem d_jdk_42_m84_39 : decode jdk_42_method_84_code 39 = .ok (.getfield 9, 3) := by decide +kernel
theorem d_jdk_42_m84_42 : decode jdk_42_method_84_code 42 = .ok (.invokestatic 649, 3) := by decide +kernel
theorem d_jdk_42_m84_45 : decode jdk_42_method_84_code 45 = .ok (.ireturn, 1) := by decide +kernel
theorem d_jdk_42_m84_46 : decode jdk_42_method_84_code 46 = .ok (.iload_n 2, 1) := by decide +kernel
theorem d_jdk_42_m84_47 : decode jdk_42_method_84_code 47 = .ok (.ifCond .ne 5, 3) := by decide +kernel
theorem d_jdk_42_m84_50 : decode jdk_42_method_84_code 50 = .ok (.iconst (-1), 1) := by decide +kernel
theorem d_jdk_42_m84_51 : decode jdk_42_method_84_code 51 = .ok (.ireturn, 1) := by decide +kernel
theorem d_jdk_42_m84_52 : decode jdk_42_method_84_code 52 = .ok (.aload_n 0, 1) := by decide +kernel
theorem d_jdk_42_m84_53 : decode jdk_42_method_84_code 53 = .ok (.getfield 9, 3) := by decide +kernel
theorem d_jdk_42_m84_56 : decode jdk_42_method_84_code 56 = .ok (.aload_n 1, 1) := by decide +kernel
theorem d_jdk_42_m84_57 : decode jdk_42_method_84_code 57 = .ok (.getfield 9, 3) := by decide +kernel
theorem d_jdk_42_m84_60 : decode jdk_42_method_84_code 60 = .ok (.invokestatic 650, 3) := by decide +kernel
theorem d_jdk_42_m84_63 : decode jdk_42_method_84_code 63 = .ok (.ireturn, 1) := by decide +kernel
set_option maxRecDepth 65536 in
set_option maxHeartbeats 40000000 in
theorem cIxS {l : Launch} {Z : State} {a0 : Array Value} (W : Wd Z a0) {EL : List (String × Nat)} {vm : Vm} {h : Heap} {nw : Bool} {a b : Addr} {cs : List Int32} {d0 d1 : Int32} (Ta : Str Z h a cs) (Tb : Str Z h b [d0, d1]) :
    Ctr nw l Z a0 EL (⟨"java/lang/String", "indexOf", "(Ljava/lang/String;)I"⟩ : MethodName) jdk_42_method_84_code 3 (some .int) ({ frames := 2, cells := 0, slots := 0, locals := 35 } : Room) #[.ref a, .ref b] vm h (fun v vm' h' => ∃ r : Int32, v = some (.int r) ∧ h' = h ∧ ((¬ r < 0 ∧ Has2 cs d0 d1) ∨ (r < 0 ∧ ¬ Has2 cs d0 d1))) := by
  refine Ctr.of_go (L0 := #[.val (.ref a), .val (.ref b), .unset]) (by first | exact plainFor_of_name (by first | (simp [plainName, overriddenIn]; done) | decide +kernel) | decide +kernel) (fun m => by first | (simp [entryFrame, mkF, argsToLocals, Value.category, maxLocals]; done) | rfl) (fun p e s m below meth c vmi chi => ?_)
  obtain ⟨va, kA, a1, a2, a3, a4, a5, a6⟩ := Ta
  obtain ⟨vb, kB, b1, b2, b3, b4, b5, b6⟩ := Tb
  refine Go.aload_n 1 d_jdk_42_m84_0 rfl rfl rfl ?_
  refine Go.invokevirtual (rest := []) 0 a [] 4 d_jdk_42_m84_1 rfl a1 (W.1 51 rfl) (W.1 52 rfl) (fun s hs => notFace_of_selects (args := #[]) (mvT hs (W.1 54 rfl))) (W.1 54 rfl) (W.1 53 rfl) (W.1 8 rfl) (W.1 55 rfl) (by decide) (cCoder W a2) (by decide +kernel : parseMethodDescriptor "()B" = some ⟨[], (some .byte)⟩) rfl rfl rfl (nl rfl) (nl rfl) (nl rfl) (nl rfl) (nl rfl) (fun v1 vm1 h1 ⟨rv, hh⟩ c1 => ?_)
  subst rv; replace hh := hh.symm; subst hh
  refine Go.istore_n #[.val (.ref a), .val (.ref b), .val (.int (0 : Int32))] 5 d_jdk_42_m84_4 rfl rfl ?_
  refine Go.iload_n 6 d_jdk_42_m84_5 rfl rfl ?_
  refine Go.aload_n 7 d_jdk_42_m84_6 rfl rfl rfl ?_
  refine Go.invokevirtual (rest := [.int (0 : Int32)]) 1 b [] 10 d_jdk_42_m84_7 rfl b1 (W.1 51 rfl) (W.1 52 rfl) (fun s hs => notFace_of_selects (args := #[]) (mvT hs (W.1 54 rfl))) (W.1 54 rfl) (W.1 53 rfl) (W.1 8 rfl) (W.1 55 rfl) (by decide) (cCoder W b2) (by decide +kernel : parseMethodDescriptor "()B" = some ⟨[], (some .byte)⟩) rfl rfl rfl (nl rfl) (nl rfl) (nl rfl) (nl rfl) (nl rfl) (fun v2 vm2 h2 ⟨rv, hh⟩ c2 => ?_)
  subst rv; replace hh := hh.symm; subst hh
  refine Go.if_icmpne 46 13 d_jdk_42_m84_10 (by decide) rfl rfl (fun q3 => absurd rfl q3) (fun q3 => ?_)
  refine Go.aload_n 14 d_jdk_42_m84_13 rfl rfl rfl ?_
  refine Go.invokevirtual (rest := []) 0 a [] 17 d_jdk_42_m84_14 rfl a1 (W.1 57 rfl) (W.1 58 rfl) (fun s hs => notFace_of_selects (args := #[]) (mvT hs (W.1 60 rfl))) (W.1 60 rfl) (W.1 59 rfl) (W.1 8 rfl) (W.1 61 rfl) (by decide) (cIsL W a2) (by decide +kernel : parseMethodDescriptor "()Z" = some ⟨[], (some .boolean)⟩) rfl rfl rfl (nl rfl) (nl rfl) (nl rfl) (nl rfl) (nl rfl) (fun v4 vm4 h4 ⟨rv, hh⟩ c4 => ?_)
  subst rv; replace hh := hh.symm; subst hh
  refine Go.ifeq 34 20 d_jdk_42_m84_17 (by decide) rfl rfl (fun q5 => absurd q5 (by decide)) (fun q5 => ?_)
  refine Go.aload_n 21 d_jdk_42_m84_20 rfl rfl rfl ?_
  refine Go.getfield 24 d_jdk_42_m84_21 rfl (W.1 25 rfl) a3 ?_
  refine Go.aload_n 25 d_jdk_42_m84_24 rfl rfl rfl ?_
  refine Go.getfield 28 d_jdk_42_m84_25 rfl (W.1 25 rfl) b3 ?_
  refine Go.invokestatic (rest := []) 0 [.ref va, .ref vb] 31 d_jdk_42_m84_28 rfl (W.1 62 rfl) (W.1 63 rfl) (W.1 64 rfl) (W.1 65 rfl) (by decide) (cIx2 W a4 a5 a6 b4 ⟨b6 d0 (by simp), b6 d1 (by simp)⟩) (by decide +kernel : parseMethodDescriptor "([B[B)I" = some ⟨[(.array .byte), (.array .byte)], (some .int)⟩) rfl rfl rfl (nl rfl) (nl rfl) (nl rfl) (nl rfl) (nl rfl) (fun v6 vm6 h6 ⟨r, rv, hh, hq⟩ c6 => ?_)
  subst rv; replace hh := hh.symm; subst hh
  refine Go.goto 45 d_jdk_42_m84_31 (by decide) rfl ?_
  exact Go.ireturn d_jdk_42_m84_45 rfl rfl (by simp) (nl rfl) (nl rfl) (fun vm' ch => ⟨r, rfl, rfl, hq⟩)
theorem d_jdk_42_m97_0 : decode jdk_42_method_97_code 0 = .ok (.aload_n 0, 1) := by decide +kernel
theorem d_jdk_42_m97_1 : decode jdk_42_method_97_code 1 = .ok (.aload_n 1, 1) := by decide +kernel
theorem d_jdk_42_m97_2 : decode jdk_42_method_97_code 2 = .ok (.invokeinterface 710 1, 5) := by decide +kernel
theorem d_jdk_42_m97_7 : decode jdk_42_method_97_code 7 = .ok (.invokevirtual 711, 3) := by decide +kernel
theorem d_jdk_42_m97_10 : decode jdk_42_method_97_code 10 = .ok (.ifCond .lt 7, 3) := by decide +kernel
theorem d_jdk_42_m97_13 : decode jdk_42_method_97_code 13 = .ok (.iconst 1, 1) := by decide +kernel
theorem d_jdk_42_m97_14 : decode jdk_42_method_97_code 14 = .ok (.goto 4, 3) := by decide +kernel
theorem d_jdk_42_m97_17 : decode jdk_42_method_97_code 17 = .ok (.iconst 0, 1) := by decide +kernel
theorem d_jdk_42_m97_18 : decode jdk_42_method_97_code 18 = .ok (.ireturn, 1) := by decide +kernel
set_option maxRecDepth 65536 in
set_option maxHeartbeats 40000000 in
theorem cContains {l : Launch} {Z : State} {a0 : Array Value} (W : Wd Z a0) {EL : List (String × Nat)} {vm : Vm} {h : Heap} {nw : Bool} {a b : Addr} {cs : List Int32} {d0 d1 : Int32} (Ta : Str Z h a cs) (Tb : Str Z h b [d0, d1]) :
    Ctr nw l Z a0 EL (⟨"java/lang/String", "contains", "(Ljava/lang/CharSequence;)Z"⟩ : MethodName) jdk_42_method_97_code 2 (some .boolean) ({ frames := 3, cells := 0, slots := 0, locals := 49 } : Room) #[.ref a, .ref b] vm h (fun v vm' h' => ∃ r : Int32, v = some (.int r) ∧ h' = h ∧ ((r = 1 ∧ Has2 cs d0 d1) ∨ (r = 0 ∧ ¬ Has2 cs d0 d1))) := by
  refine Ctr.of_go (L0 := #[.val (.ref a), .val (.ref b)]) (by first | exact plainFor_of_name (by first | (simp [plainName, overriddenIn]; done) | decide +kernel) | decide +kernel) (fun m => by first | (simp [entryFrame, mkF, argsToLocals, Value.category, maxLocals]; done) | rfl) (fun p e s m below meth c vmi chi => ?_)
  refine Go.aload_n 1 d_jdk_42_m97_0 rfl rfl rfl ?_
  refine Go.aload_n 2 d_jdk_42_m97_1 rfl rfl rfl ?_
  refine Go.invokeinterface (rest := [.ref a]) 1 b [] 7 d_jdk_42_m97_2 rfl Tb.exa (W.1 37 rfl) (W.1 38 rfl) (fun s hs => mvT hs (W.1 39 rfl)) (W.1 40 rfl) (W.1 41 rfl) (W.1 42 rfl) (W.1 43 rfl) (W.1 44 rfl) (W.1 8 rfl) (W.1 45 rfl) (by decide) (cToStr W) (by decide +kernel : parseMethodDescriptor "()Ljava/lang/String;" = some ⟨[], (some (.object "java/lang/String"))⟩) rfl rfl rfl (nl rfl) (nl rfl) (nl rfl) (nl rfl) (nl rfl) (fun v1 vm1 h1 ⟨rv, hh⟩ c1 => ?_)
  subst rv; replace hh := hh.symm; subst hh
  refine Go.invokevirtual (rest := []) 0 a [.ref b] 10 d_jdk_42_m97_7 rfl Ta.exa (W.1 46 rfl) (W.1 47 rfl) (fun s hs => notFace_of_selects (args := #[]) (mvT hs (W.1 49 rfl))) (W.1 49 rfl) (W.1 48 rfl) (W.1 8 rfl) (W.1 50 rfl) (by decide) (cIxS W Ta Tb) (by decide +kernel : parseMethodDescriptor "(Ljava/lang/String;)I" = some ⟨[(.object "java/lang/String")], (some .int)⟩) rfl rfl rfl (nl rfl) (nl rfl) (nl rfl) (nl rfl) (nl rfl) (fun v2 vm2 h2 ⟨r, rv, hh, hq⟩ c2 => ?_)
  subst rv; replace hh := hh.symm; subst hh
  refine Go.iflt 17 13 d_jdk_42_m97_10 (by decide) rfl rfl (fun qr => ?_) (fun qr => ?_)
  · refine Go.iconst (0) 18 d_jdk_42_m97_17 rfl rfl ?_
    exact Go.ireturn d_jdk_42_m97_18 rfl rfl (by simp) (nl rfl) (nl rfl) (fun vm' ch => ⟨_, rfl, rfl, Or.inr ⟨rfl, by rcases hq with ⟨z, _⟩ | ⟨_, z⟩; exact absurd qr z; exact z⟩⟩)
  · refine Go.iconst (1) 14 d_jdk_42_m97_13 rfl rfl ?_
    refine Go.goto 18 d_jdk_42_m97_14 (by decide) rfl ?_
    exact Go.ireturn d_jdk_42_m97_18 rfl rfl (by simp) (nl rfl) (nl rfl) (fun vm' ch => ⟨_, rfl, rfl, Or.inl ⟨rfl, by rcases hq with ⟨_, z⟩ | ⟨z, _⟩; exact z; exact absurd z qr⟩⟩)
theorem d_prog_27_m3_0 : decode prog_27_method_3_code 0 = .ok (.aload_n 0, 1) := by decide +kernel
theorem d_prog_27_m3_1 : decode prog_27_method_3_code 1 = .ok (.ldc 21, 2) := by decide +kernel
theorem d_prog_27_m3_3 : decode prog_27_method_3_code 3 = .ok (.invokevirtual 23, 3) := by decide +kernel
theorem d_prog_27_m3_6 : decode prog_27_method_3_code 6 = .ok (.ifCond .ne 12, 3) := by decide +kernel
theorem d_prog_27_m3_9 : decode prog_27_method_3_code 9 = .ok (.aload_n 0, 1) := by decide +kernel
theorem d_prog_27_m3_10 : decode prog_27_method_3_code 10 = .ok (.ldc 29, 2) := by decide +kernel
theorem d_prog_27_m3_12 : decode prog_27_method_3_code 12 = .ok (.invokevirtual 23, 3) := by decide +kernel
theorem d_prog_27_m3_15 : decode prog_27_method_3_code 15 = .ok (.ifCond .eq 7, 3) := by decide +kernel
theorem d_prog_27_m3_18 : decode prog_27_method_3_code 18 = .ok (.iconst 1, 1) := by decide +kernel
theorem d_prog_27_m3_19 : decode prog_27_method_3_code 19 = .ok (.goto 4, 3) := by decide +kernel
theorem d_prog_27_m3_22 : decode prog_27_method_3_code 22 = .ok (.iconst 0, 1) := by decide +kernel
theorem d_prog_27_m3_23 : decode prog_27_method_3_code 23 = .ok (.ireturn, 1) := by decide +kernel
set_option maxRecDepth 65536 in
set_option maxHeartbeats 40000000 in
theorem cIsExpr {l : Launch} {Z : State} {a0 : Array Value} (W : Wd Z a0) {EL : List (String × Nat)} {vm : Vm} {h : Heap} {a : Addr} {cs : List Int32} (hm : ("com/example/guide/guide/io/FlowLanguage", 21) ∈ EL ∧ ("com/example/guide/guide/io/FlowLanguage", 29) ∈ EL) (T : Str Z h a cs) :
    Ctr false l Z a0 EL (⟨"com/example/guide/guide/io/FlowLanguage", "isExpression", "(Ljava/lang/String;)Z"⟩ : MethodName) prog_27_method_3_code 1 (some .boolean) ({ frames := 4, cells := 4, slots := 24, locals := 62 } : Room) #[.ref a] vm h (fun v vm' h' => ∃ r : Int32, v = some (.int r) ∧ ((r = 1 ∧ (Has2 cs 36 123 ∨ Has2 cs 35 123)) ∨ (r = 0 ∧ ¬ (Has2 cs 36 123 ∨ Has2 cs 35 123)))) := by
  refine Ctr.of_go (L0 := #[.val (.ref a)]) (by first | exact plainFor_of_name (by first | (simp [plainName, overriddenIn]; done) | decide +kernel) | decide +kernel) (fun m => by first | (simp [entryFrame, mkF, argsToLocals, Value.category, maxLocals]; done) | rfl) (fun p e s m below meth c vmi chi => ?_)
  refine Go.aload_n 1 d_prog_27_m3_0 rfl rfl rfl ?_
  refine Go.ldcS (text := "${") (vs := [.int (36), .int (123)]) (z := (2 : Int32)) 8 3 d_prog_27_m3_1 rfl rfl (W.1 31 rfl) (W.sub (by decide +kernel)) hm.1 lit_ok__24_7b.1 (by decide) (by decide) lit_ok__24_7b.2 (by decide) (nl rfl) (nl rfl) (fun y1 b1 k1 vm1 h1 E1 A1 C1 V1 B1 N1 c1 => ?_)
  have T1 : Str Z h1 y1 [36, 123] := ⟨b1, k1, A1, C1, V1, B1, by decide, by decide⟩
  have f2 := T.ext E1
  refine Go.invokevirtual (rest := []) 0 a [.ref y1] 6 d_prog_27_m3_3 rfl f2.exa (W.1 32 rfl) (W.1 33 rfl) (fun s hs => notFace_of_selects (args := #[]) (mvT hs (W.1 35 rfl))) (W.1 35 rfl) (W.1 34 rfl) (W.1 8 rfl) (W.1 36 rfl) (by decide) (cContains W f2 T1) (by decide +kernel : parseMethodDescriptor "(Ljava/lang/CharSequence;)Z" = some ⟨[(.object "java/lang/CharSequence")], (some .boolean)⟩) rfl rfl rfl (nl rfl) (nl rfl) (nl rfl) (nl rfl) (nl rfl) (fun v3 vm3 h3 ⟨r1, rv, hh, hq1⟩ c3 => ?_)
  subst rv; replace hh := hh.symm; subst hh
  refine Go.ifne 18 9 d_prog_27_m3_6 (by decide) rfl rfl (fun qa => ?_) (fun qa => ?_)
  · refine Go.iconst (1) 19 d_prog_27_m3_18 rfl rfl ?_
    refine Go.goto 23 d_prog_27_m3_19 (by decide) rfl ?_
    exact Go.ireturn d_prog_27_m3_23 rfl rfl (by simp) (nl rfl) (nl rfl) (fun vm' ch => ⟨_, rfl, Or.inl ⟨rfl, Or.inl (by rcases hq1 with ⟨_, z⟩ | ⟨z, _⟩; exact z; exact absurd z qa)⟩⟩)
  · refine Go.aload_n 10 d_prog_27_m3_9 rfl rfl rfl ?_
    refine Go.ldcS (text := "#{") (vs := [.int (35), .int (123)]) (z := (2 : Int32)) 8 12 d_prog_27_m3_10 rfl rfl (W.1 66 rfl) (W.sub (by decide +kernel)) hm.2 lit_ok__23_7b.1 (by decide) (by decide) lit_ok__23_7b.2 (by decide) (nl rfl) (nl rfl) (fun y2 b4 k4 vm4 h4 E4 A4 C4 V4 B4 N4 c4 => ?_)
    have T4 : Str Z h4 y2 [35, 123] := ⟨b4, k4, A4, C4, V4, B4, by decide, by decide⟩
    have f5 := f2.ext E4
    refine Go.invokevirtual (rest := []) 0 a [.ref y2] 15 d_prog_27_m3_12 rfl f5.exa (W.1 32 rfl) (W.1 33 rfl) (fun s hs => notFace_of_selects (args := #[]) (mvT hs (W.1 35 rfl))) (W.1 35 rfl) (W.1 34 rfl) (W.1 8 rfl) (W.1 36 rfl) (by decide) (cContains W f5 T4) (by decide +kernel : parseMethodDescriptor "(Ljava/lang/CharSequence;)Z" = some ⟨[(.object "java/lang/CharSequence")], (some .boolean)⟩) rfl rfl rfl (nl rfl) (nl rfl) (nl rfl) (nl rfl) (nl rfl) (fun v6 vm6 h6 ⟨r2, rv, hh, hq2⟩ c6 => ?_)
    subst rv; replace hh := hh.symm; subst hh
    refine Go.ifeq 22 18 d_prog_27_m3_15 (by decide) rfl rfl (fun qb => ?_) (fun qb => ?_)
    · refine Go.iconst (0) 23 d_prog_27_m3_22 rfl rfl ?_
      exact Go.ireturn d_prog_27_m3_23 rfl rfl (by simp) (nl rfl) (nl rfl) (fun vm' ch => ⟨_, rfl, Or.inr ⟨rfl, fun z => z.elim (by rcases hq1 with ⟨z, _⟩ | ⟨_, z⟩; exact absurd (qa.symm.trans z) (by decide); exact z) (by rcases hq2 with ⟨z, _⟩ | ⟨_, z⟩; exact absurd (qb.symm.trans z) (by decide); exact z)⟩⟩)
    · refine Go.iconst (1) 19 d_prog_27_m3_18 rfl rfl ?_
      refine Go.goto 23 d_prog_27_m3_19 (by decide) rfl ?_
      exact Go.ireturn d_prog_27_m3_23 rfl rfl (by simp) (nl rfl) (nl rfl) (fun vm' ch => ⟨_, rfl, Or.inl ⟨rfl, Or.inr (by rcases hq2 with ⟨_, z⟩ | ⟨z, _⟩; exact z; exact absurd z qb)⟩⟩)
set_option maxRecDepth 65536 in
set_option maxHeartbeats 40000000 in
theorem cLaw {l : Launch} {Z : State} {a0 : Array Value} (W : Wd Z a0)  {vm : Vm} {h : Heap} {n_ a_ b_ c_ d_ e_ : Int32} :
    Ctr false l Z a0 consts_1 x code maxLocals ret room_1 #[.int n_, .int a_, .int b_, .int c_, .int d_, .int e_] vm h (fun v vm' h' => v = some (.int 1)) := by
  refine Ctr.of_go (L0 := #[.val (.int n_), .val (.int a_), .val (.int b_), .val (.int c_), .val (.int d_), .val (.int e_), .unset, .unset, .unset, .unset, .unset, .unset, .unset, .unset, .unset]) (by first | exact plainFor_of_name (by first | (simp [plainName, overriddenIn]; done) | decide +kernel) | decide +kernel) (fun m => by first | (simp [entryFrame, mkF, argsToLocals, Value.category, maxLocals]; done) | rfl) (fun p e s m below meth c vmi chi => ?_)
  refine Go.iload_n 1 at_0 rfl rfl ?_
  refine Go.ldcI (W.1 0 rfl) 3 at_1 rfl ?_
  refine Go.iand (n_ &&& (2147483647 : Int32)) 4 at_3 rfl rfl ?_
  refine Go.bipush (6) 6 at_4 rfl rfl ?_
  rcases len6 n_ with hc | hc | hc | hc | hc | hc
  · refine Go.irem (0 : Int32) 7 at_6 rfl (by decide) ((irem_eq_mod _ _).trans hc) ?_
    refine Go.istore #[.val (.int n_), .val (.int a_), .val (.int b_), .val (.int c_), .val (.int d_), .val (.int e_), .val (.int (0 : Int32)), .unset, .unset, .unset, .unset, .unset, .unset, .unset, .unset] 9 at_7 rfl rfl ?_
    refine Go.iload_n 10 at_9 rfl rfl ?_
    refine Go.invokestatic (rest := []) 0 [.int a_] 13 at_10 rfl (W.1 1 rfl) (W.1 2 rfl) (W.1 3 rfl) (W.1 4 rfl) (by decide) (cCh W ) (by decide +kernel : parseMethodDescriptor "(I)C" = some ⟨[.int], (some .char)⟩) rfl rfl rfl (nl rfl) (nl rfl) (nl rfl) (nl rfl) (nl rfl) (fun v1 vm1 h1 ⟨rv, hh⟩ c1 => ?_)
    subst rv; replace hh := hh.symm; subst hh
    refine Go.istore #[.val (.int n_), .val (.int a_), .val (.int b_), .val (.int c_), .val (.int d_), .val (.int e_), .val (.int (0 : Int32)), .val (.int (chV a_)), .unset, .unset, .unset, .unset, .unset, .unset, .unset] 15 at_13 rfl rfl ?_
    refine Go.iload_n 16 at_15 rfl rfl ?_
    refine Go.invokestatic (rest := []) 0 [.int b_] 19 at_16 rfl (W.1 1 rfl) (W.1 2 rfl) (W.1 3 rfl) (W.1 4 rfl) (by decide) (cCh W ) (by decide +kernel : parseMethodDescriptor "(I)C" = some ⟨[.int], (some .char)⟩) rfl rfl rfl (nl rfl) (nl rfl) (nl rfl) (nl rfl) (nl rfl) (fun v2 vm2 h2 ⟨rv, hh⟩ c2 => ?_)
    subst rv; replace hh := hh.symm; subst hh
    refine Go.istore #[.val (.int n_), .val (.int a_), .val (.int b_), .val (.int c_), .val (.int d_), .val (.int e_), .val (.int (0 : Int32)), .val (.int (chV a_)), .val (.int (chV b_)), .unset, .unset, .unset, .unset, .unset, .unset] 21 at_19 rfl rfl ?_
    refine Go.iload_n 22 at_21 rfl rfl ?_
    refine Go.invokestatic (rest := []) 0 [.int c_] 25 at_22 rfl (W.1 1 rfl) (W.1 2 rfl) (W.1 3 rfl) (W.1 4 rfl) (by decide) (cCh W ) (by decide +kernel : parseMethodDescriptor "(I)C" = some ⟨[.int], (some .char)⟩) rfl rfl rfl (nl rfl) (nl rfl) (nl rfl) (nl rfl) (nl rfl) (fun v3 vm3 h3 ⟨rv, hh⟩ c3 => ?_)
    subst rv; replace hh := hh.symm; subst hh
    refine Go.istore #[.val (.int n_), .val (.int a_), .val (.int b_), .val (.int c_), .val (.int d_), .val (.int e_), .val (.int (0 : Int32)), .val (.int (chV a_)), .val (.int (chV b_)), .val (.int (chV c_)), .unset, .unset, .unset, .unset, .unset] 27 at_25 rfl rfl ?_
    refine Go.iload 29 at_27 rfl rfl ?_
    refine Go.invokestatic (rest := []) 0 [.int d_] 32 at_29 rfl (W.1 1 rfl) (W.1 2 rfl) (W.1 3 rfl) (W.1 4 rfl) (by decide) (cCh W ) (by decide +kernel : parseMethodDescriptor "(I)C" = some ⟨[.int], (some .char)⟩) rfl rfl rfl (nl rfl) (nl rfl) (nl rfl) (nl rfl) (nl rfl) (fun v4 vm4 h4 ⟨rv, hh⟩ c4 => ?_)
    subst rv; replace hh := hh.symm; subst hh
    refine Go.istore #[.val (.int n_), .val (.int a_), .val (.int b_), .val (.int c_), .val (.int d_), .val (.int e_), .val (.int (0 : Int32)), .val (.int (chV a_)), .val (.int (chV b_)), .val (.int (chV c_)), .val (.int (chV d_)), .unset, .unset, .unset, .unset] 34 at_32 rfl rfl ?_
    refine Go.iload 36 at_34 rfl rfl ?_
    refine Go.invokestatic (rest := []) 0 [.int e_] 39 at_36 rfl (W.1 1 rfl) (W.1 2 rfl) (W.1 3 rfl) (W.1 4 rfl) (by decide) (cCh W ) (by decide +kernel : parseMethodDescriptor "(I)C" = some ⟨[.int], (some .char)⟩) rfl rfl rfl (nl rfl) (nl rfl) (nl rfl) (nl rfl) (nl rfl) (fun v5 vm5 h5 ⟨rv, hh⟩ c5 => ?_)
    subst rv; replace hh := hh.symm; subst hh
    refine Go.istore #[.val (.int n_), .val (.int a_), .val (.int b_), .val (.int c_), .val (.int d_), .val (.int e_), .val (.int (0 : Int32)), .val (.int (chV a_)), .val (.int (chV b_)), .val (.int (chV c_)), .val (.int (chV d_)), .val (.int (chV e_)), .unset, .unset, .unset] 41 at_39 rfl rfl ?_
    refine Go.iload 43 at_41 rfl rfl ?_
    refine Go.ifne 54 46 at_43 (by decide) rfl rfl (fun q6 => absurd rfl q6) (fun q6 => ?_)
    refine Go.iconst (0) 47 at_46 rfl rfl ?_
    refine Go.newarray 0 49 at_47 rfl (W.1 5 rfl) (by decide) (by decide) (by decide) (nl rfl) (nl rfl) (fun bb h7 e7 E7 ⟨k7, B7⟩ S7 z7 c7 => ?_)
    have A7 : Arv Z h7 bb k7 .char (0 : Int32) [] (.int 0) := B7.pad (pad_rep [] (.int 0) 0)
    refine Go.astore #[.val (.int n_), .val (.int a_), .val (.int b_), .val (.int c_), .val (.int d_), .val (.int e_), .val (.int (0 : Int32)), .val (.int (chV a_)), .val (.int (chV b_)), .val (.int (chV c_)), .val (.int (chV d_)), .val (.int (chV e_)), .val (.ref bb), .unset, .unset] 51 at_49 rfl rfl rfl ?_
    refine Go.goto 190 at_51 (by decide) rfl ?_
    refine Go.new 193 at_190 rfl (W.1 6 rfl) (W.1 7 rfl) (W.1 8 rfl) (nl rfl) (nl rfl) (fun s1 h8 e8 E8 ⟨A8, D8⟩ S8 z8 c8 => ?_)
    refine Go.dup 194 at_193 rfl rfl ?_
    refine Go.aload 196 at_194 rfl rfl rfl ?_
    have f9 := D8 (Or.inr (W.1 21 rfl)) (ty := (.array .byte)) (by decide)
    have f10 := D8 (Or.inr (W.1 22 rfl)) (ty := .byte) (by decide)
    have f11 := A7.ext E8
    refine Go.invokespecial (rest := [.ref s1]) 1 s1 [.ref bb] 199 at_196 rfl rfl (W.1 9 rfl) (W.1 10 rfl) (W.1 8 rfl) (W.1 11 rfl) (by decide) (cEmp1 W (by decide) A8 f9 f10 f11 S8 z8) (by decide +kernel : parseMethodDescriptor "([C)V" = some ⟨[(.array .char)], none⟩) rfl rfl rfl (nl rfl) (nl rfl) (nl rfl) (nl rfl) (nl rfl) (fun v12 vm12 h12 ⟨rv, K12, T12⟩ c12 => ?_)
    subst rv
    have E12 := Ext.kp1 E8 K12 e8
    refine Go.astore #[.val (.int n_), .val (.int a_), .val (.int b_), .val (.int c_), .val (.int d_), .val (.int e_), .val (.int (0 : Int32)), .val (.int (chV a_)), .val (.int (chV b_)), .val (.int (chV c_)), .val (.int (chV d_)), .val (.int (chV e_)), .val (.ref bb), .val (.ref s1), .unset] 201 at_199 rfl rfl rfl ?_
    refine Go.iload 203 at_201 rfl rfl ?_
    refine Go.iconst (2) 204 at_203 rfl rfl ?_
    have hH : (Has2 [] 36 123 ∨ Has2 [] 35 123) ↔ (False) := has0
    have J : ∀ (vmj : Vm) (u : Int32), ((u = 1 ∧ (False)) ∨ (u = 0 ∧ ¬ (False))) → Go false p l e room_1 s m #[.int n_, .int a_, .int b_, .int c_, .int d_, .int e_] below meth c code maxLocals "law" ret Z a0 consts_1 "com/example/guide/guide/io/FlowLanguageIsExpressionPinLaw" (fun v vm' h' => v = some (.int 1)) vmj h12 6 12 270 #[.val (.int n_), .val (.int a_), .val (.int b_), .val (.int c_), .val (.int d_), .val (.int e_), .val (.int (0 : Int32)), .val (.int (chV a_)), .val (.int (chV b_)), .val (.int (chV c_)), .val (.int (chV d_)), .val (.int (chV e_)), .val (.ref bb), .val (.ref s1), .unset] [.int u] := by
      intro vmj u hu
      refine Go.istore #[.val (.int n_), .val (.int a_), .val (.int b_), .val (.int c_), .val (.int d_), .val (.int e_), .val (.int (0 : Int32)), .val (.int (chV a_)), .val (.int (chV b_)), .val (.int (chV c_)), .val (.int (chV d_)), .val (.int (chV e_)), .val (.ref bb), .val (.ref s1), .val (.int u)] 272 at_270 rfl rfl ?_
      refine Go.aload 274 at_272 rfl rfl rfl ?_
      refine Go.invokestatic (rest := []) 0 [.ref s1] 277 at_274 rfl (W.1 27 rfl) (W.1 28 rfl) (W.1 29 rfl) (W.1 30 rfl) (by decide) (cIsExpr W (by decide) T12) (by decide +kernel : parseMethodDescriptor "(Ljava/lang/String;)Z" = some ⟨[(.object "java/lang/String")], (some .boolean)⟩) rfl rfl rfl (nl rfl) (nl rfl) (nl rfl) (nl rfl) (nl rfl) (fun v13 vm13 h13 ⟨r1, rv, hq⟩ c13 => ?_)
      subst rv
      refine Go.iload 279 at_277 rfl rfl ?_
      refine Go.if_icmpne 286 282 at_279 (by decide) rfl rfl (fun q14 => absurd (by rcases hq with ⟨z1, z2⟩ | ⟨z1, z2⟩ <;> rcases hu with ⟨y1, y2⟩ | ⟨y1, y2⟩ <;> first | exact z1.trans y1.symm | exact absurd (hH.mp z2) y2 | exact absurd (hH.mpr y2) z2) q14) (fun q14 => ?_)
      refine Go.iconst (1) 283 at_282 rfl rfl ?_
      refine Go.goto 287 at_283 (by decide) rfl ?_
      exact Go.ireturn at_287 rfl rfl (by simp) (nl rfl) (nl rfl) (fun vm' ch => rfl)
    refine Go.if_icmplt 217 207 at_204 (by decide) rfl rfl (fun q15 => ?_) (fun q15 => absurd (by decide) q15)
    refine Go.iload 219 at_217 rfl rfl ?_
    refine Go.iconst (3) 220 at_219 rfl rfl ?_
    refine Go.if_icmplt 233 223 at_220 (by decide) rfl rfl (fun q16 => ?_) (fun q16 => absurd (by decide) q16)
    refine Go.iload 235 at_233 rfl rfl ?_
    refine Go.iconst (4) 236 at_235 rfl rfl ?_
    refine Go.if_icmplt 249 239 at_236 (by decide) rfl rfl (fun q17 => ?_) (fun q17 => absurd (by decide) q17)
    refine Go.iload 251 at_249 rfl rfl ?_
    refine Go.iconst (5) 252 at_251 rfl rfl ?_
    refine Go.if_icmplt 269 255 at_252 (by decide) rfl rfl (fun q18 => ?_) (fun q18 => absurd (by decide) q18)
    refine Go.iconst (0) 270 at_269 rfl rfl ?_
    exact J _ _ (Or.inr ⟨rfl, fun z => z⟩)
  · refine Go.irem (1 : Int32) 7 at_6 rfl (by decide) ((irem_eq_mod _ _).trans hc) ?_
    refine Go.istore #[.val (.int n_), .val (.int a_), .val (.int b_), .val (.int c_), .val (.int d_), .val (.int e_), .val (.int (1 : Int32)), .unset, .unset, .unset, .unset, .unset, .unset, .unset, .unset] 9 at_7 rfl rfl ?_
    refine Go.iload_n 10 at_9 rfl rfl ?_
    refine Go.invokestatic (rest := []) 0 [.int a_] 13 at_10 rfl (W.1 1 rfl) (W.1 2 rfl) (W.1 3 rfl) (W.1 4 rfl) (by decide) (cCh W ) (by decide +kernel : parseMethodDescriptor "(I)C" = some ⟨[.int], (some .char)⟩) rfl rfl rfl (nl rfl) (nl rfl) (nl rfl) (nl rfl) (nl rfl) (fun v19 vm19 h19 ⟨rv, hh⟩ c19 => ?_)
    subst rv; replace hh := hh.symm; subst hh
    refine Go.istore #[.val (.int n_), .val (.int a_), .val (.int b_), .val (.int c_), .val (.int d_), .val (.int e_), .val (.int (1 : Int32)), .val (.int (chV a_)), .unset, .unset, .unset, .unset, .unset, .unset, .unset] 15 at_13 rfl rfl ?_
    refine Go.iload_n 16 at_15 rfl rfl ?_
    refine Go.invokestatic (rest := []) 0 [.int b_] 19 at_16 rfl (W.1 1 rfl) (W.1 2 rfl) (W.1 3 rfl) (W.1 4 rfl) (by decide) (cCh W ) (by decide +kernel : parseMethodDescriptor "(I)C" = some ⟨[.int], (some .char)⟩) rfl rfl rfl (nl rfl) (nl rfl) (nl rfl) (nl rfl) (nl rfl) (fun v20 vm20 h20 ⟨rv, hh⟩ c20 => ?_)
    subst rv; replace hh := hh.symm; subst hh
    refine Go.istore #[.val (.int n_), .val (.int a_), .val (.int b_), .val (.int c_), .val (.int d_), .val (.int e_), .val (.int (1 : Int32)), .val (.int (chV a_)), .val (.int (chV b_)), .unset, .unset, .unset, .unset, .unset, .unset] 21 at_19 rfl rfl ?_
    refine Go.iload_n 22 at_21 rfl rfl ?_
    refine Go.invokestatic (rest := []) 0 [.int c_] 25 at_22 rfl (W.1 1 rfl) (W.1 2 rfl) (W.1 3 rfl) (W.1 4 rfl) (by decide) (cCh W ) (by decide +kernel : parseMethodDescriptor "(I)C" = some ⟨[.int], (some .char)⟩) rfl rfl rfl (nl rfl) (nl rfl) (nl rfl) (nl rfl) (nl rfl) (fun v21 vm21 h21 ⟨rv, hh⟩ c21 => ?_)
    subst rv; replace hh := hh.symm; subst hh
    refine Go.istore #[.val (.int n_), .val (.int a_), .val (.int b_), .val (.int c_), .val (.int d_), .val (.int e_), .val (.int (1 : Int32)), .val (.int (chV a_)), .val (.int (chV b_)), .val (.int (chV c_)), .unset, .unset, .unset, .unset, .unset] 27 at_25 rfl rfl ?_
    refine Go.iload 29 at_27 rfl rfl ?_
    refine Go.invokestatic (rest := []) 0 [.int d_] 32 at_29 rfl (W.1 1 rfl) (W.1 2 rfl) (W.1 3 rfl) (W.1 4 rfl) (by decide) (cCh W ) (by decide +kernel : parseMethodDescriptor "(I)C" = some ⟨[.int], (some .char)⟩) rfl rfl rfl (nl rfl) (nl rfl) (nl rfl) (nl rfl) (nl rfl) (fun v22 vm22 h22 ⟨rv, hh⟩ c22 => ?_)
    subst rv; replace hh := hh.symm; subst hh
    refine Go.istore #[.val (.int n_), .val (.int a_), .val (.int b_), .val (.int c_), .val (.int d_), .val (.int e_), .val (.int (1 : Int32)), .val (.int (chV a_)), .val (.int (chV b_)), .val (.int (chV c_)), .val (.int (chV d_)), .unset, .unset, .unset, .unset] 34 at_32 rfl rfl ?_
    refine Go.iload 36 at_34 rfl rfl ?_
    refine Go.invokestatic (rest := []) 0 [.int e_] 39 at_36 rfl (W.1 1 rfl) (W.1 2 rfl) (W.1 3 rfl) (W.1 4 rfl) (by decide) (cCh W ) (by decide +kernel : parseMethodDescriptor "(I)C" = some ⟨[.int], (some .char)⟩) rfl rfl rfl (nl rfl) (nl rfl) (nl rfl) (nl rfl) (nl rfl) (fun v23 vm23 h23 ⟨rv, hh⟩ c23 => ?_)
    subst rv; replace hh := hh.symm; subst hh
    refine Go.istore #[.val (.int n_), .val (.int a_), .val (.int b_), .val (.int c_), .val (.int d_), .val (.int e_), .val (.int (1 : Int32)), .val (.int (chV a_)), .val (.int (chV b_)), .val (.int (chV c_)), .val (.int (chV d_)), .val (.int (chV e_)), .unset, .unset, .unset] 41 at_39 rfl rfl ?_
    refine Go.iload 43 at_41 rfl rfl ?_
    refine Go.ifne 54 46 at_43 (by decide) rfl rfl (fun q24 => ?_) (fun q24 => absurd q24 (by decide))
    refine Go.iload 56 at_54 rfl rfl ?_
    refine Go.iconst (1) 57 at_56 rfl rfl ?_
    refine Go.if_icmpne 73 60 at_57 (by decide) rfl rfl (fun q25 => absurd rfl q25) (fun q25 => ?_)
    refine Go.iconst (1) 61 at_60 rfl rfl ?_
    refine Go.newarray 1 63 at_61 rfl (W.1 5 rfl) (by decide) (by decide) (by decide) (nl rfl) (nl rfl) (fun bb h26 e26 E26 ⟨k26, B26⟩ S26 z26 c26 => ?_)
    have A26 : Arv Z h26 bb k26 .char (1 : Int32) [.int 0] (.int 0) := B26.pad (pad_rep [] (.int 0) 1)
    refine Go.dup 64 at_63 rfl rfl ?_
    refine Go.iconst (0) 65 at_64 rfl rfl ?_
    refine Go.iload 67 at_65 rfl rfl ?_
    refine Go.castore 0 (chV a_) [.int (chV a_)] 68 at_67 rfl A26 (by decide) rfl (nl rfl) (narC (chB _)) rfl S26 z26 (fun h27 K27 A27 S27 c27 => ?_)
    have E27 := Ext.kp1 E26 K27 e26
    refine Go.astore #[.val (.int n_), .val (.int a_), .val (.int b_), .val (.int c_), .val (.int d_), .val (.int e_), .val (.int (1 : Int32)), .val (.int (chV a_)), .val (.int (chV b_)), .val (.int (chV c_)), .val (.int (chV d_)), .val (.int (chV e_)), .val (.ref bb), .unset, .unset] 70 at_68 rfl rfl rfl ?_
    refine Go.goto 190 at_70 (by decide) rfl ?_
    refine Go.new 193 at_190 rfl (W.1 6 rfl) (W.1 7 rfl) (W.1 8 rfl) (nl rfl) (nl rfl) (fun s1 h28 e28 E28 ⟨A28, D28⟩ S28 z28 c28 => ?_)
    refine Go.dup 194 at_193 rfl rfl ?_
    refine Go.aload 196 at_194 rfl rfl rfl ?_
    have f30 := D28 (Or.inr (W.1 21 rfl)) (ty := (.array .byte)) (by decide)
    have f31 := D28 (Or.inr (W.1 22 rfl)) (ty := .byte) (by decide)
    have f32 := A27.ext E28
    refine goStrNew W 1 [(chV a_)] 199 at_196 rfl (W.1 9 rfl) A28 f30 f31 f32 rfl (nl rfl) (nl rfl) (by intro c hc; simp only [List.mem_cons, List.not_mem_nil, or_false] at hc; rcases hc with rfl <;> exact chB _) rfl rfl (nl rfl) (nl rfl) (nl rfl) (nl rfl) (nl rfl) S28 z28 (fun h29 K29 T29 c29 => ?_)
    have E29 := Ext.kp1 E28 K29 e28
    refine Go.astore #[.val (.int n_), .val (.int a_), .val (.int b_), .val (.int c_), .val (.int d_), .val (.int e_), .val (.int (1 : Int32)), .val (.int (chV a_)), .val (.int (chV b_)), .val (.int (chV c_)), .val (.int (chV d_)), .val (.int (chV e_)), .val (.ref bb), .val (.ref s1), .unset] 201 at_199 rfl rfl rfl ?_
    refine Go.iload 203 at_201 rfl rfl ?_
    refine Go.iconst (2) 204 at_203 rfl rfl ?_
    have hH : (Has2 [(chV a_)] 36 123 ∨ Has2 [(chV a_)] 35 123) ↔ (False) := has1
    have J : ∀ (vmj : Vm) (u : Int32), ((u = 1 ∧ (False)) ∨ (u = 0 ∧ ¬ (False))) → Go false p l e room_1 s m #[.int n_, .int a_, .int b_, .int c_, .int d_, .int e_] below meth c code maxLocals "law" ret Z a0 consts_1 "com/example/guide/guide/io/FlowLanguageIsExpressionPinLaw" (fun v vm' h' => v = some (.int 1)) vmj h29 3 6 270 #[.val (.int n_), .val (.int a_), .val (.int b_), .val (.int c_), .val (.int d_), .val (.int e_), .val (.int (1 : Int32)), .val (.int (chV a_)), .val (.int (chV b_)), .val (.int (chV c_)), .val (.int (chV d_)), .val (.int (chV e_)), .val (.ref bb), .val (.ref s1), .unset] [.int u] := by
      intro vmj u hu
      refine Go.istore #[.val (.int n_), .val (.int a_), .val (.int b_), .val (.int c_), .val (.int d_), .val (.int e_), .val (.int (1 : Int32)), .val (.int (chV a_)), .val (.int (chV b_)), .val (.int (chV c_)), .val (.int (chV d_)), .val (.int (chV e_)), .val (.ref bb), .val (.ref s1), .val (.int u)] 272 at_270 rfl rfl ?_
      refine Go.aload 274 at_272 rfl rfl rfl ?_
      refine Go.invokestatic (rest := []) 0 [.ref s1] 277 at_274 rfl (W.1 27 rfl) (W.1 28 rfl) (W.1 29 rfl) (W.1 30 rfl) (by decide) (cIsExpr W (by decide) T29) (by decide +kernel : parseMethodDescriptor "(Ljava/lang/String;)Z" = some ⟨[(.object "java/lang/String")], (some .boolean)⟩) rfl rfl rfl (nl rfl) (nl rfl) (nl rfl) (nl rfl) (nl rfl) (fun v33 vm33 h33 ⟨r1, rv, hq⟩ c33 => ?_)
      subst rv
      refine Go.iload 279 at_277 rfl rfl ?_
      refine Go.if_icmpne 286 282 at_279 (by decide) rfl rfl (fun q34 => absurd (by rcases hq with ⟨z1, z2⟩ | ⟨z1, z2⟩ <;> rcases hu with ⟨y1, y2⟩ | ⟨y1, y2⟩ <;> first | exact z1.trans y1.symm | exact absurd (hH.mp z2) y2 | exact absurd (hH.mpr y2) z2) q34) (fun q34 => ?_)
      refine Go.iconst (1) 283 at_282 rfl rfl ?_
      refine Go.goto 287 at_283 (by decide) rfl ?_
      exact Go.ireturn at_287 rfl rfl (by simp) (nl rfl) (nl rfl) (fun vm' ch => rfl)
    refine Go.if_icmplt 217 207 at_204 (by decide) rfl rfl (fun q35 => ?_) (fun q35 => absurd (by decide) q35)
    refine Go.iload 219 at_217 rfl rfl ?_
    refine Go.iconst (3) 220 at_219 rfl rfl ?_
    refine Go.if_icmplt 233 223 at_220 (by decide) rfl rfl (fun q36 => ?_) (fun q36 => absurd (by decide) q36)
    refine Go.iload 235 at_233 rfl rfl ?_
    refine Go.iconst (4) 236 at_235 rfl rfl ?_
    refine Go.if_icmplt 249 239 at_236 (by decide) rfl rfl (fun q37 => ?_) (fun q37 => absurd (by decide) q37)
    refine Go.iload 251 at_249 rfl rfl ?_
    refine Go.iconst (5) 252 at_251 rfl rfl ?_
    refine Go.if_icmplt 269 255 at_252 (by decide) rfl rfl (fun q38 => ?_) (fun q38 => absurd (by decide) q38)
    refine Go.iconst (0) 270 at_269 rfl rfl ?_
    exact J _ _ (Or.inr ⟨rfl, fun z => z⟩)
  · refine Go.irem (2 : Int32) 7 at_6 rfl (by decide) ((irem_eq_mod _ _).trans hc) ?_
    refine Go.istore #[.val (.int n_), .val (.int a_), .val (.int b_), .val (.int c_), .val (.int d_), .val (.int e_), .val (.int (2 : Int32)), .unset, .unset, .unset, .unset, .unset, .unset, .unset, .unset] 9 at_7 rfl rfl ?_
    refine Go.iload_n 10 at_9 rfl rfl ?_
    refine Go.invokestatic (rest := []) 0 [.int a_] 13 at_10 rfl (W.1 1 rfl) (W.1 2 rfl) (W.1 3 rfl) (W.1 4 rfl) (by decide) (cCh W ) (by decide +kernel : parseMethodDescriptor "(I)C" = some ⟨[.int], (some .char)⟩) rfl rfl rfl (nl rfl) (nl rfl) (nl rfl) (nl rfl) (nl rfl) (fun v39 vm39 h39 ⟨rv, hh⟩ c39 => ?_)
    subst rv; replace hh := hh.symm; subst hh
    refine Go.istore #[.val (.int n_), .val (.int a_), .val (.int b_), .val (.int c_), .val (.int d_), .val (.int e_), .val (.int (2 : Int32)), .val (.int (chV a_)), .unset, .unset, .unset, .unset, .unset, .unset, .unset] 15 at_13 rfl rfl ?_
    refine Go.iload_n 16 at_15 rfl rfl ?_
    refine Go.invokestatic (rest := []) 0 [.int b_] 19 at_16 rfl (W.1 1 rfl) (W.1 2 rfl) (W.1 3 rfl) (W.1 4 rfl) (by decide) (cCh W ) (by decide +kernel : parseMethodDescriptor "(I)C" = some ⟨[.int], (some .char)⟩) rfl rfl rfl (nl rfl) (nl rfl) (nl rfl) (nl rfl) (nl rfl) (fun v40 vm40 h40 ⟨rv, hh⟩ c40 => ?_)
    subst rv; replace hh := hh.symm; subst hh
    refine Go.istore #[.val (.int n_), .val (.int a_), .val (.int b_), .val (.int c_), .val (.int d_), .val (.int e_), .val (.int (2 : Int32)), .val (.int (chV a_)), .val (.int (chV b_)), .unset, .unset, .unset, .unset, .unset, .unset] 21 at_19 rfl rfl ?_
    refine Go.iload_n 22 at_21 rfl rfl ?_
    refine Go.invokestatic (rest := []) 0 [.int c_] 25 at_22 rfl (W.1 1 rfl) (W.1 2 rfl) (W.1 3 rfl) (W.1 4 rfl) (by decide) (cCh W ) (by decide +kernel : parseMethodDescriptor "(I)C" = some ⟨[.int], (some .char)⟩) rfl rfl rfl (nl rfl) (nl rfl) (nl rfl) (nl rfl) (nl rfl) (fun v41 vm41 h41 ⟨rv, hh⟩ c41 => ?_)
    subst rv; replace hh := hh.symm; subst hh
    refine Go.istore #[.val (.int n_), .val (.int a_), .val (.int b_), .val (.int c_), .val (.int d_), .val (.int e_), .val (.int (2 : Int32)), .val (.int (chV a_)), .val (.int (chV b_)), .val (.int (chV c_)), .unset, .unset, .unset, .unset, .unset] 27 at_25 rfl rfl ?_
    refine Go.iload 29 at_27 rfl rfl ?_
    refine Go.invokestatic (rest := []) 0 [.int d_] 32 at_29 rfl (W.1 1 rfl) (W.1 2 rfl) (W.1 3 rfl) (W.1 4 rfl) (by decide) (cCh W ) (by decide +kernel : parseMethodDescriptor "(I)C" = some ⟨[.int], (some .char)⟩) rfl rfl rfl (nl rfl) (nl rfl) (nl rfl) (nl rfl) (nl rfl) (fun v42 vm42 h42 ⟨rv, hh⟩ c42 => ?_)
    subst rv; replace hh := hh.symm; subst hh
    refine Go.istore #[.val (.int n_), .val (.int a_), .val (.int b_), .val (.int c_), .val (.int d_), .val (.int e_), .val (.int (2 : Int32)), .val (.int (chV a_)), .val (.int (chV b_)), .val (.int (chV c_)), .val (.int (chV d_)), .unset, .unset, .unset, .unset] 34 at_32 rfl rfl ?_
    refine Go.iload 36 at_34 rfl rfl ?_
    refine Go.invokestatic (rest := []) 0 [.int e_] 39 at_36 rfl (W.1 1 rfl) (W.1 2 rfl) (W.1 3 rfl) (W.1 4 rfl) (by decide) (cCh W ) (by decide +kernel : parseMethodDescriptor "(I)C" = some ⟨[.int], (some .char)⟩) rfl rfl rfl (nl rfl) (nl rfl) (nl rfl) (nl rfl) (nl rfl) (fun v43 vm43 h43 ⟨rv, hh⟩ c43 => ?_)
    subst rv; replace hh := hh.symm; subst hh
    refine Go.istore #[.val (.int n_), .val (.int a_), .val (.int b_), .val (.int c_), .val (.int d_), .val (.int e_), .val (.int (2 : Int32)), .val (.int (chV a_)), .val (.int (chV b_)), .val (.int (chV c_)), .val (.int (chV d_)), .val (.int (chV e_)), .unset, .unset, .unset] 41 at_39 rfl rfl ?_
    refine Go.iload 43 at_41 rfl rfl ?_
    refine Go.ifne 54 46 at_43 (by decide) rfl rfl (fun q44 => ?_) (fun q44 => absurd q44 (by decide))
    refine Go.iload 56 at_54 rfl rfl ?_
    refine Go.iconst (1) 57 at_56 rfl rfl ?_
    refine Go.if_icmpne 73 60 at_57 (by decide) rfl rfl (fun q45 => ?_) (fun q45 => absurd q45 (by decide))
    refine Go.iload 75 at_73 rfl rfl ?_
    refine Go.iconst (2) 76 at_75 rfl rfl ?_
    refine Go.if_icmpne 97 79 at_76 (by decide) rfl rfl (fun q46 => absurd rfl q46) (fun q46 => ?_)
    refine Go.iconst (2) 80 at_79 rfl rfl ?_
    refine Go.newarray 2 82 at_80 rfl (W.1 5 rfl) (by decide) (by decide) (by decide) (nl rfl) (nl rfl) (fun bb h47 e47 E47 ⟨k47, B47⟩ S47 z47 c47 => ?_)
    have A47 : Arv Z h47 bb k47 .char (2 : Int32) [.int 0, .int 0] (.int 0) := B47.pad (pad_rep [] (.int 0) 2)
    refine Go.dup 83 at_82 rfl rfl ?_
    refine Go.iconst (0) 84 at_83 rfl rfl ?_
    refine Go.iload 86 at_84 rfl rfl ?_
    refine Go.castore 0 (chV a_) [.int (chV a_), .int 0] 87 at_86 rfl A47 (by decide) rfl (nl rfl) (narC (chB _)) rfl S47 z47 (fun h48 K48 A48 S48 c48 => ?_)
    have E48 := Ext.kp1 E47 K48 e47
    refine Go.dup 88 at_87 rfl rfl ?_
    refine Go.iconst (1) 89 at_88 rfl rfl ?_
    refine Go.iload 91 at_89 rfl rfl ?_
    refine Go.castore 1 (chV b_) [.int (chV a_), .int (chV b_)] 92 at_91 rfl A48 (by decide) rfl (nl rfl) (narC (chB _)) rfl S48 z47 (fun h49 K49 A49 S49 c49 => ?_)
    have E49 := Ext.kp1 E48 K49 e47
    refine Go.astore #[.val (.int n_), .val (.int a_), .val (.int b_), .val (.int c_), .val (.int d_), .val (.int e_), .val (.int (2 : Int32)), .val (.int (chV a_)), .val (.int (chV b_)), .val (.int (chV c_)), .val (.int (chV d_)), .val (.int (chV e_)), .val (.ref bb), .unset, .unset] 94 at_92 rfl rfl rfl ?_
    refine Go.goto 190 at_94 (by decide) rfl ?_
    refine Go.new 193 at_190 rfl (W.1 6 rfl) (W.1 7 rfl) (W.1 8 rfl) (nl rfl) (nl rfl) (fun s1 h50 e50 E50 ⟨A50, D50⟩ S50 z50 c50 => ?_)
    refine Go.dup 194 at_193 rfl rfl ?_
    refine Go.aload 196 at_194 rfl rfl rfl ?_
    have f52 := D50 (Or.inr (W.1 21 rfl)) (ty := (.array .byte)) (by decide)
    have f53 := D50 (Or.inr (W.1 22 rfl)) (ty := .byte) (by decide)
    have f54 := A49.ext E50
    refine goStrNew W 1 [(chV a_), (chV b_)] 199 at_196 rfl (W.1 9 rfl) A50 f52 f53 f54 rfl (nl rfl) (nl rfl) (by intro c hc; simp only [List.mem_cons, List.not_mem_nil, or_false] at hc; rcases hc with rfl | rfl <;> exact chB _) rfl rfl (nl rfl) (nl rfl) (nl rfl) (nl rfl) (nl rfl) S50 z50 (fun h51 K51 T51 c51 => ?_)
    have E51 := Ext.kp1 E50 K51 e50
    refine Go.astore #[.val (.int n_), .val (.int a_), .val (.int b_), .val (.int c_), .val (.int d_), .val (.int e_), .val (.int (2 : Int32)), .val (.int (chV a_)), .val (.int (chV b_)), .val (.int (chV c_)), .val (.int (chV d_)), .val (.int (chV e_)), .val (.ref bb), .val (.ref s1), .unset] 201 at_199 rfl rfl rfl ?_
    refine Go.iload 203 at_201 rfl rfl ?_
    refine Go.iconst (2) 204 at_203 rfl rfl ?_
    have hH : (Has2 [(chV a_), (chV b_)] 36 123 ∨ Has2 [(chV a_), (chV b_)] 35 123) ↔ (OP (chV a_) (chV b_)) := has2
    have J : ∀ (vmj : Vm) (u : Int32), ((u = 1 ∧ (OP (chV a_) (chV b_))) ∨ (u = 0 ∧ ¬ (OP (chV a_) (chV b_)))) → Go false p l e room_1 s m #[.int n_, .int a_, .int b_, .int c_, .int d_, .int e_] below meth c code maxLocals "law" ret Z a0 consts_1 "com/example/guide/guide/io/FlowLanguageIsExpressionPinLaw" (fun v vm' h' => v = some (.int 1)) vmj h51 3 8 270 #[.val (.int n_), .val (.int a_), .val (.int b_), .val (.int c_), .val (.int d_), .val (.int e_), .val (.int (2 : Int32)), .val (.int (chV a_)), .val (.int (chV b_)), .val (.int (chV c_)), .val (.int (chV d_)), .val (.int (chV e_)), .val (.ref bb), .val (.ref s1), .unset] [.int u] := by
      intro vmj u hu
      refine Go.istore #[.val (.int n_), .val (.int a_), .val (.int b_), .val (.int c_), .val (.int d_), .val (.int e_), .val (.int (2 : Int32)), .val (.int (chV a_)), .val (.int (chV b_)), .val (.int (chV c_)), .val (.int (chV d_)), .val (.int (chV e_)), .val (.ref bb), .val (.ref s1), .val (.int u)] 272 at_270 rfl rfl ?_
      refine Go.aload 274 at_272 rfl rfl rfl ?_
      refine Go.invokestatic (rest := []) 0 [.ref s1] 277 at_274 rfl (W.1 27 rfl) (W.1 28 rfl) (W.1 29 rfl) (W.1 30 rfl) (by decide) (cIsExpr W (by decide) T51) (by decide +kernel : parseMethodDescriptor "(Ljava/lang/String;)Z" = some ⟨[(.object "java/lang/String")], (some .boolean)⟩) rfl rfl rfl (nl rfl) (nl rfl) (nl rfl) (nl rfl) (nl rfl) (fun v55 vm55 h55 ⟨r1, rv, hq⟩ c55 => ?_)
      subst rv
      refine Go.iload 279 at_277 rfl rfl ?_
      refine Go.if_icmpne 286 282 at_279 (by decide) rfl rfl (fun q56 => absurd (by rcases hq with ⟨z1, z2⟩ | ⟨z1, z2⟩ <;> rcases hu with ⟨y1, y2⟩ | ⟨y1, y2⟩ <;> first | exact z1.trans y1.symm | exact absurd (hH.mp z2) y2 | exact absurd (hH.mpr y2) z2) q56) (fun q56 => ?_)
      refine Go.iconst (1) 283 at_282 rfl rfl ?_
      refine Go.goto 287 at_283 (by decide) rfl ?_
      exact Go.ireturn at_287 rfl rfl (by simp) (nl rfl) (nl rfl) (fun vm' ch => rfl)
    refine Go.if_icmplt 217 207 at_204 (by decide) rfl rfl (fun q57 => absurd q57 (by decide)) (fun q57 => ?_)
    refine Go.iload 209 at_207 rfl rfl ?_
    refine Go.iload 211 at_209 rfl rfl ?_
    refine Go.invokestatic (rest := []) 0 [.int (chV a_), .int (chV b_)] 214 at_211 rfl (W.1 77 rfl) (W.1 78 rfl) (W.1 3 rfl) (W.1 79 rfl) (by decide) (cOpens W ) (by decide +kernel : parseMethodDescriptor "(CC)Z" = some ⟨[.char, .char], (some .boolean)⟩) rfl rfl rfl (nl rfl) (nl rfl) (nl rfl) (nl rfl) (nl rfl) (fun v58 vm58 h58 ⟨rv, hh⟩ c58 => ?_)
    subst rv; replace hh := hh.symm; subst hh
    refine Go.ifne 265 217 at_214 (by decide) rfl rfl (fun u0 => ?_) (fun u0 => ?_)
    · refine Go.iconst (1) 266 at_265 rfl rfl ?_
      refine Go.goto 270 at_266 (by decide) rfl ?_
      exact J _ _ (Or.inl ⟨rfl, Classical.not_not.mp (fun z => u0 (bi0.mpr z))⟩)
    · have y0 := bi0.mp u0
      refine Go.iload 219 at_217 rfl rfl ?_
      refine Go.iconst (3) 220 at_219 rfl rfl ?_
      refine Go.if_icmplt 233 223 at_220 (by decide) rfl rfl (fun q59 => ?_) (fun q59 => absurd (by decide) q59)
      refine Go.iload 235 at_233 rfl rfl ?_
      refine Go.iconst (4) 236 at_235 rfl rfl ?_
      refine Go.if_icmplt 249 239 at_236 (by decide) rfl rfl (fun q60 => ?_) (fun q60 => absurd (by decide) q60)
      refine Go.iload 251 at_249 rfl rfl ?_
      refine Go.iconst (5) 252 at_251 rfl rfl ?_
      refine Go.if_icmplt 269 255 at_252 (by decide) rfl rfl (fun q61 => ?_) (fun q61 => absurd (by decide) q61)
      refine Go.iconst (0) 270 at_269 rfl rfl ?_
      exact J _ _ (Or.inr ⟨rfl, y0⟩)
  · refine Go.irem (3 : Int32) 7 at_6 rfl (by decide) ((irem_eq_mod _ _).trans hc) ?_
    refine Go.istore #[.val (.int n_), .val (.int a_), .val (.int b_), .val (.int c_), .val (.int d_), .val (.int e_), .val (.int (3 : Int32)), .unset, .unset, .unset, .unset, .unset, .unset, .unset, .unset] 9 at_7 rfl rfl ?_
    refine Go.iload_n 10 at_9 rfl rfl ?_
    refine Go.invokestatic (rest := []) 0 [.int a_] 13 at_10 rfl (W.1 1 rfl) (W.1 2 rfl) (W.1 3 rfl) (W.1 4 rfl) (by decide) (cCh W ) (by decide +kernel : parseMethodDescriptor "(I)C" = some ⟨[.int], (some .char)⟩) rfl rfl rfl (nl rfl) (nl rfl) (nl rfl) (nl rfl) (nl rfl) (fun v62 vm62 h62 ⟨rv, hh⟩ c62 => ?_)
    subst rv; replace hh := hh.symm; subst hh
    refine Go.istore #[.val (.int n_), .val (.int a_), .val (.int b_), .val (.int c_), .val (.int d_), .val (.int e_), .val (.int (3 : Int32)), .val (.int (chV a_)), .unset, .unset, .unset, .unset, .unset, .unset, .unset] 15 at_13 rfl rfl ?_
    refine Go.iload_n 16 at_15 rfl rfl ?_
    refine Go.invokestatic (rest := []) 0 [.int b_] 19 at_16 rfl (W.1 1 rfl) (W.1 2 rfl) (W.1 3 rfl) (W.1 4 rfl) (by decide) (cCh W ) (by decide +kernel : parseMethodDescriptor "(I)C" = some ⟨[.int], (some .char)⟩) rfl rfl rfl (nl rfl) (nl rfl) (nl rfl) (nl rfl) (nl rfl) (fun v63 vm63 h63 ⟨rv, hh⟩ c63 => ?_)
    subst rv; replace hh := hh.symm; subst hh
    refine Go.istore #[.val (.int n_), .val (.int a_), .val (.int b_), .val (.int c_), .val (.int d_), .val (.int e_), .val (.int (3 : Int32)), .val (.int (chV a_)), .val (.int (chV b_)), .unset, .unset, .unset, .unset, .unset, .unset] 21 at_19 rfl rfl ?_
    refine Go.iload_n 22 at_21 rfl rfl ?_
    refine Go.invokestatic (rest := []) 0 [.int c_] 25 at_22 rfl (W.1 1 rfl) (W.1 2 rfl) (W.1 3 rfl) (W.1 4 rfl) (by decide) (cCh W ) (by decide +kernel : parseMethodDescriptor "(I)C" = some ⟨[.int], (some .char)⟩) rfl rfl rfl (nl rfl) (nl rfl) (nl rfl) (nl rfl) (nl rfl) (fun v64 vm64 h64 ⟨rv, hh⟩ c64 => ?_)
    subst rv; replace hh := hh.symm; subst hh
    refine Go.istore #[.val (.int n_), .val (.int a_), .val (.int b_), .val (.int c_), .val (.int d_), .val (.int e_), .val (.int (3 : Int32)), .val (.int (chV a_)), .val (.int (chV b_)), .val (.int (chV c_)), .unset, .unset, .unset, .unset, .unset] 27 at_25 rfl rfl ?_
    refine Go.iload 29 at_27 rfl rfl ?_
    refine Go.invokestatic (rest := []) 0 [.int d_] 32 at_29 rfl (W.1 1 rfl) (W.1 2 rfl) (W.1 3 rfl) (W.1 4 rfl) (by decide) (cCh W ) (by decide +kernel : parseMethodDescriptor "(I)C" = some ⟨[.int], (some .char)⟩) rfl rfl rfl (nl rfl) (nl rfl) (nl rfl) (nl rfl) (nl rfl) (fun v65 vm65 h65 ⟨rv, hh⟩ c65 => ?_)
    subst rv; replace hh := hh.symm; subst hh
    refine Go.istore #[.val (.int n_), .val (.int a_), .val (.int b_), .val (.int c_), .val (.int d_), .val (.int e_), .val (.int (3 : Int32)), .val (.int (chV a_)), .val (.int (chV b_)), .val (.int (chV c_)), .val (.int (chV d_)), .unset, .unset, .unset, .unset] 34 at_32 rfl rfl ?_
    refine Go.iload 36 at_34 rfl rfl ?_
    refine Go.invokestatic (rest := []) 0 [.int e_] 39 at_36 rfl (W.1 1 rfl) (W.1 2 rfl) (W.1 3 rfl) (W.1 4 rfl) (by decide) (cCh W ) (by decide +kernel : parseMethodDescriptor "(I)C" = some ⟨[.int], (some .char)⟩) rfl rfl rfl (nl rfl) (nl rfl) (nl rfl) (nl rfl) (nl rfl) (fun v66 vm66 h66 ⟨rv, hh⟩ c66 => ?_)
    subst rv; replace hh := hh.symm; subst hh
    refine Go.istore #[.val (.int n_), .val (.int a_), .val (.int b_), .val (.int c_), .val (.int d_), .val (.int e_), .val (.int (3 : Int32)), .val (.int (chV a_)), .val (.int (chV b_)), .val (.int (chV c_)), .val (.int (chV d_)), .val (.int (chV e_)), .unset, .unset, .unset] 41 at_39 rfl rfl ?_
    refine Go.iload 43 at_41 rfl rfl ?_
    refine Go.ifne 54 46 at_43 (by decide) rfl rfl (fun q67 => ?_) (fun q67 => absurd q67 (by decide))
    refine Go.iload 56 at_54 rfl rfl ?_
    refine Go.iconst (1) 57 at_56 rfl rfl ?_
    refine Go.if_icmpne 73 60 at_57 (by decide) rfl rfl (fun q68 => ?_) (fun q68 => absurd q68 (by decide))
    refine Go.iload 75 at_73 rfl rfl ?_
    refine Go.iconst (2) 76 at_75 rfl rfl ?_
    refine Go.if_icmpne 97 79 at_76 (by decide) rfl rfl (fun q69 => ?_) (fun q69 => absurd q69 (by decide))
    refine Go.iload 99 at_97 rfl rfl ?_
    refine Go.iconst (3) 100 at_99 rfl rfl ?_
    refine Go.if_icmpne 126 103 at_100 (by decide) rfl rfl (fun q70 => absurd rfl q70) (fun q70 => ?_)
    refine Go.iconst (3) 104 at_103 rfl rfl ?_
    refine Go.newarray 3 106 at_104 rfl (W.1 5 rfl) (by decide) (by decide) (by decide) (nl rfl) (nl rfl) (fun bb h71 e71 E71 ⟨k71, B71⟩ S71 z71 c71 => ?_)
    have A71 : Arv Z h71 bb k71 .char (3 : Int32) [.int 0, .int 0, .int 0] (.int 0) := B71.pad (pad_rep [] (.int 0) 3)
    refine Go.dup 107 at_106 rfl rfl ?_
    refine Go.iconst (0) 108 at_107 rfl rfl ?_
    refine Go.iload 110 at_108 rfl rfl ?_
    refine Go.castore 0 (chV a_) [.int (chV a_), .int 0, .int 0] 111 at_110 rfl A71 (by decide) rfl (nl rfl) (narC (chB _)) rfl S71 z71 (fun h72 K72 A72 S72 c72 => ?_)
    have E72 := Ext.kp1 E71 K72 e71
    refine Go.dup 112 at_111 rfl rfl ?_
    refine Go.iconst (1) 113 at_112 rfl rfl ?_
    refine Go.iload 115 at_113 rfl rfl ?_
    refine Go.castore 1 (chV b_) [.int (chV a_), .int (chV b_), .int 0] 116 at_115 rfl A72 (by decide) rfl (nl rfl) (narC (chB _)) rfl S72 z71 (fun h73 K73 A73 S73 c73 => ?_)
    have E73 := Ext.kp1 E72 K73 e71
    refine Go.dup 117 at_116 rfl rfl ?_
    refine Go.iconst (2) 118 at_117 rfl rfl ?_
    refine Go.iload 120 at_118 rfl rfl ?_
    refine Go.castore 2 (chV c_) [.int (chV a_), .int (chV b_), .int (chV c_)] 121 at_120 rfl A73 (by decide) rfl (nl rfl) (narC (chB _)) rfl S73 z71 (fun h74 K74 A74 S74 c74 => ?_)
    have E74 := Ext.kp1 E73 K74 e71
    refine Go.astore #[.val (.int n_), .val (.int a_), .val (.int b_), .val (.int c_), .val (.int d_), .val (.int e_), .val (.int (3 : Int32)), .val (.int (chV a_)), .val (.int (chV b_)), .val (.int (chV c_)), .val (.int (chV d_)), .val (.int (chV e_)), .val (.ref bb), .unset, .unset] 123 at_121 rfl rfl rfl ?_
    refine Go.goto 190 at_123 (by decide) rfl ?_
    refine Go.new 193 at_190 rfl (W.1 6 rfl) (W.1 7 rfl) (W.1 8 rfl) (nl rfl) (nl rfl) (fun s1 h75 e75 E75 ⟨A75, D75⟩ S75 z75 c75 => ?_)
    refine Go.dup 194 at_193 rfl rfl ?_
    refine Go.aload 196 at_194 rfl rfl rfl ?_
    have f77 := D75 (Or.inr (W.1 21 rfl)) (ty := (.array .byte)) (by decide)
    have f78 := D75 (Or.inr (W.1 22 rfl)) (ty := .byte) (by decide)
    have f79 := A74.ext E75
    refine goStrNew W 1 [(chV a_), (chV b_), (chV c_)] 199 at_196 rfl (W.1 9 rfl) A75 f77 f78 f79 rfl (nl rfl) (nl rfl) (by intro c hc; simp only [List.mem_cons, List.not_mem_nil, or_false] at hc; rcases hc with rfl | rfl | rfl <;> exact chB _) rfl rfl (nl rfl) (nl rfl) (nl rfl) (nl rfl) (nl rfl) S75 z75 (fun h76 K76 T76 c76 => ?_)
    have E76 := Ext.kp1 E75 K76 e75
    refine Go.astore #[.val (.int n_), .val (.int a_), .val (.int b_), .val (.int c_), .val (.int d_), .val (.int e_), .val (.int (3 : Int32)), .val (.int (chV a_)), .val (.int (chV b_)), .val (.int (chV c_)), .val (.int (chV d_)), .val (.int (chV e_)), .val (.ref bb), .val (.ref s1), .unset] 201 at_199 rfl rfl rfl ?_
    refine Go.iload 203 at_201 rfl rfl ?_
    refine Go.iconst (2) 204 at_203 rfl rfl ?_
    have hH : (Has2 [(chV a_), (chV b_), (chV c_)] 36 123 ∨ Has2 [(chV a_), (chV b_), (chV c_)] 35 123) ↔ (OP (chV a_) (chV b_) ∨ OP (chV b_) (chV c_)) := has3
    have J : ∀ (vmj : Vm) (u : Int32), ((u = 1 ∧ (OP (chV a_) (chV b_) ∨ OP (chV b_) (chV c_))) ∨ (u = 0 ∧ ¬ (OP (chV a_) (chV b_) ∨ OP (chV b_) (chV c_)))) → Go false p l e room_1 s m #[.int n_, .int a_, .int b_, .int c_, .int d_, .int e_] below meth c code maxLocals "law" ret Z a0 consts_1 "com/example/guide/guide/io/FlowLanguageIsExpressionPinLaw" (fun v vm' h' => v = some (.int 1)) vmj h76 3 10 270 #[.val (.int n_), .val (.int a_), .val (.int b_), .val (.int c_), .val (.int d_), .val (.int e_), .val (.int (3 : Int32)), .val (.int (chV a_)), .val (.int (chV b_)), .val (.int (chV c_)), .val (.int (chV d_)), .val (.int (chV e_)), .val (.ref bb), .val (.ref s1), .unset] [.int u] := by
      intro vmj u hu
      refine Go.istore #[.val (.int n_), .val (.int a_), .val (.int b_), .val (.int c_), .val (.int d_), .val (.int e_), .val (.int (3 : Int32)), .val (.int (chV a_)), .val (.int (chV b_)), .val (.int (chV c_)), .val (.int (chV d_)), .val (.int (chV e_)), .val (.ref bb), .val (.ref s1), .val (.int u)] 272 at_270 rfl rfl ?_
      refine Go.aload 274 at_272 rfl rfl rfl ?_
      refine Go.invokestatic (rest := []) 0 [.ref s1] 277 at_274 rfl (W.1 27 rfl) (W.1 28 rfl) (W.1 29 rfl) (W.1 30 rfl) (by decide) (cIsExpr W (by decide) T76) (by decide +kernel : parseMethodDescriptor "(Ljava/lang/String;)Z" = some ⟨[(.object "java/lang/String")], (some .boolean)⟩) rfl rfl rfl (nl rfl) (nl rfl) (nl rfl) (nl rfl) (nl rfl) (fun v80 vm80 h80 ⟨r1, rv, hq⟩ c80 => ?_)
      subst rv
      refine Go.iload 279 at_277 rfl rfl ?_
      refine Go.if_icmpne 286 282 at_279 (by decide) rfl rfl (fun q81 => absurd (by rcases hq with ⟨z1, z2⟩ | ⟨z1, z2⟩ <;> rcases hu with ⟨y1, y2⟩ | ⟨y1, y2⟩ <;> first | exact z1.trans y1.symm | exact absurd (hH.mp z2) y2 | exact absurd (hH.mpr y2) z2) q81) (fun q81 => ?_)
      refine Go.iconst (1) 283 at_282 rfl rfl ?_
      refine Go.goto 287 at_283 (by decide) rfl ?_
      exact Go.ireturn at_287 rfl rfl (by simp) (nl rfl) (nl rfl) (fun vm' ch => rfl)
    refine Go.if_icmplt 217 207 at_204 (by decide) rfl rfl (fun q82 => absurd q82 (by decide)) (fun q82 => ?_)
    refine Go.iload 209 at_207 rfl rfl ?_
    refine Go.iload 211 at_209 rfl rfl ?_
    refine Go.invokestatic (rest := []) 0 [.int (chV a_), .int (chV b_)] 214 at_211 rfl (W.1 77 rfl) (W.1 78 rfl) (W.1 3 rfl) (W.1 79 rfl) (by decide) (cOpens W ) (by decide +kernel : parseMethodDescriptor "(CC)Z" = some ⟨[.char, .char], (some .boolean)⟩) rfl rfl rfl (nl rfl) (nl rfl) (nl rfl) (nl rfl) (nl rfl) (fun v83 vm83 h83 ⟨rv, hh⟩ c83 => ?_)
    subst rv; replace hh := hh.symm; subst hh
    refine Go.ifne 265 217 at_214 (by decide) rfl rfl (fun u0 => ?_) (fun u0 => ?_)
    · refine Go.iconst (1) 266 at_265 rfl rfl ?_
      refine Go.goto 270 at_266 (by decide) rfl ?_
      exact J _ _ (Or.inl ⟨rfl, Or.inl (Classical.not_not.mp (fun z => u0 (bi0.mpr z)))⟩)
    · have y0 := bi0.mp u0
      refine Go.iload 219 at_217 rfl rfl ?_
      refine Go.iconst (3) 220 at_219 rfl rfl ?_
      refine Go.if_icmplt 233 223 at_220 (by decide) rfl rfl (fun q84 => absurd q84 (by decide)) (fun q84 => ?_)
      refine Go.iload 225 at_223 rfl rfl ?_
      refine Go.iload 227 at_225 rfl rfl ?_
      refine Go.invokestatic (rest := []) 0 [.int (chV b_), .int (chV c_)] 230 at_227 rfl (W.1 77 rfl) (W.1 78 rfl) (W.1 3 rfl) (W.1 79 rfl) (by decide) (cOpens W ) (by decide +kernel : parseMethodDescriptor "(CC)Z" = some ⟨[.char, .char], (some .boolean)⟩) rfl rfl rfl (nl rfl) (nl rfl) (nl rfl) (nl rfl) (nl rfl) (fun v85 vm85 h85 ⟨rv, hh⟩ c85 => ?_)
      subst rv; replace hh := hh.symm; subst hh
      refine Go.ifne 265 233 at_230 (by decide) rfl rfl (fun u1 => ?_) (fun u1 => ?_)
      · refine Go.iconst (1) 266 at_265 rfl rfl ?_
        refine Go.goto 270 at_266 (by decide) rfl ?_
        exact J _ _ (Or.inl ⟨rfl, Or.inr (Classical.not_not.mp (fun z => u1 (bi0.mpr z)))⟩)
      · have y1 := bi0.mp u1
        refine Go.iload 235 at_233 rfl rfl ?_
        refine Go.iconst (4) 236 at_235 rfl rfl ?_
        refine Go.if_icmplt 249 239 at_236 (by decide) rfl rfl (fun q86 => ?_) (fun q86 => absurd (by decide) q86)
        refine Go.iload 251 at_249 rfl rfl ?_
        refine Go.iconst (5) 252 at_251 rfl rfl ?_
        refine Go.if_icmplt 269 255 at_252 (by decide) rfl rfl (fun q87 => ?_) (fun q87 => absurd (by decide) q87)
        refine Go.iconst (0) 270 at_269 rfl rfl ?_
        exact J _ _ (Or.inr ⟨rfl, (fun z => z.elim y0 y1)⟩)
  · refine Go.irem (4 : Int32) 7 at_6 rfl (by decide) ((irem_eq_mod _ _).trans hc) ?_
    refine Go.istore #[.val (.int n_), .val (.int a_), .val (.int b_), .val (.int c_), .val (.int d_), .val (.int e_), .val (.int (4 : Int32)), .unset, .unset, .unset, .unset, .unset, .unset, .unset, .unset] 9 at_7 rfl rfl ?_
    refine Go.iload_n 10 at_9 rfl rfl ?_
    refine Go.invokestatic (rest := []) 0 [.int a_] 13 at_10 rfl (W.1 1 rfl) (W.1 2 rfl) (W.1 3 rfl) (W.1 4 rfl) (by decide) (cCh W ) (by decide +kernel : parseMethodDescriptor "(I)C" = some ⟨[.int], (some .char)⟩) rfl rfl rfl (nl rfl) (nl rfl) (nl rfl) (nl rfl) (nl rfl) (fun v88 vm88 h88 ⟨rv, hh⟩ c88 => ?_)
    subst rv; replace hh := hh.symm; subst hh
    refine Go.istore #[.val (.int n_), .val (.int a_), .val (.int b_), .val (.int c_), .val (.int d_), .val (.int e_), .val (.int (4 : Int32)), .val (.int (chV a_)), .unset, .unset, .unset, .unset, .unset, .unset, .unset] 15 at_13 rfl rfl ?_
    refine Go.iload_n 16 at_15 rfl rfl ?_
    refine Go.invokestatic (rest := []) 0 [.int b_] 19 at_16 rfl (W.1 1 rfl) (W.1 2 rfl) (W.1 3 rfl) (W.1 4 rfl) (by decide) (cCh W ) (by decide +kernel : parseMethodDescriptor "(I)C" = some ⟨[.int], (some .char)⟩) rfl rfl rfl (nl rfl) (nl rfl) (nl rfl) (nl rfl) (nl rfl) (fun v89 vm89 h89 ⟨rv, hh⟩ c89 => ?_)
    subst rv; replace hh := hh.symm; subst hh
    refine Go.istore #[.val (.int n_), .val (.int a_), .val (.int b_), .val (.int c_), .val (.int d_), .val (.int e_), .val (.int (4 : Int32)), .val (.int (chV a_)), .val (.int (chV b_)), .unset, .unset, .unset, .unset, .unset, .unset] 21 at_19 rfl rfl ?_
    refine Go.iload_n 22 at_21 rfl rfl ?_
    refine Go.invokestatic (rest := []) 0 [.int c_] 25 at_22 rfl (W.1 1 rfl) (W.1 2 rfl) (W.1 3 rfl) (W.1 4 rfl) (by decide) (cCh W ) (by decide +kernel : parseMethodDescriptor "(I)C" = some ⟨[.int], (some .char)⟩) rfl rfl rfl (nl rfl) (nl rfl) (nl rfl) (nl rfl) (nl rfl) (fun v90 vm90 h90 ⟨rv, hh⟩ c90 => ?_)
    subst rv; replace hh := hh.symm; subst hh
    refine Go.istore #[.val (.int n_), .val (.int a_), .val (.int b_), .val (.int c_), .val (.int d_), .val (.int e_), .val (.int (4 : Int32)), .val (.int (chV a_)), .val (.int (chV b_)), .val (.int (chV c_)), .unset, .unset, .unset, .unset, .unset] 27 at_25 rfl rfl ?_
    refine Go.iload 29 at_27 rfl rfl ?_
    refine Go.invokestatic (rest := []) 0 [.int d_] 32 at_29 rfl (W.1 1 rfl) (W.1 2 rfl) (W.1 3 rfl) (W.1 4 rfl) (by decide) (cCh W ) (by decide +kernel : parseMethodDescriptor "(I)C" = some ⟨[.int], (some .char)⟩) rfl rfl rfl (nl rfl) (nl rfl) (nl rfl) (nl rfl) (nl rfl) (fun v91 vm91 h91 ⟨rv, hh⟩ c91 => ?_)
    subst rv; replace hh := hh.symm; subst hh
    refine Go.istore #[.val (.int n_), .val (.int a_), .val (.int b_), .val (.int c_), .val (.int d_), .val (.int e_), .val (.int (4 : Int32)), .val (.int (chV a_)), .val (.int (chV b_)), .val (.int (chV c_)), .val (.int (chV d_)), .unset, .unset, .unset, .unset] 34 at_32 rfl rfl ?_
    refine Go.iload 36 at_34 rfl rfl ?_
    refine Go.invokestatic (rest := []) 0 [.int e_] 39 at_36 rfl (W.1 1 rfl) (W.1 2 rfl) (W.1 3 rfl) (W.1 4 rfl) (by decide) (cCh W ) (by decide +kernel : parseMethodDescriptor "(I)C" = some ⟨[.int], (some .char)⟩) rfl rfl rfl (nl rfl) (nl rfl) (nl rfl) (nl rfl) (nl rfl) (fun v92 vm92 h92 ⟨rv, hh⟩ c92 => ?_)
    subst rv; replace hh := hh.symm; subst hh
    refine Go.istore #[.val (.int n_), .val (.int a_), .val (.int b_), .val (.int c_), .val (.int d_), .val (.int e_), .val (.int (4 : Int32)), .val (.int (chV a_)), .val (.int (chV b_)), .val (.int (chV c_)), .val (.int (chV d_)), .val (.int (chV e_)), .unset, .unset, .unset] 41 at_39 rfl rfl ?_
    refine Go.iload 43 at_41 rfl rfl ?_
    refine Go.ifne 54 46 at_43 (by decide) rfl rfl (fun q93 => ?_) (fun q93 => absurd q93 (by decide))
    refine Go.iload 56 at_54 rfl rfl ?_
    refine Go.iconst (1) 57 at_56 rfl rfl ?_
    refine Go.if_icmpne 73 60 at_57 (by decide) rfl rfl (fun q94 => ?_) (fun q94 => absurd q94 (by decide))
    refine Go.iload 75 at_73 rfl rfl ?_
    refine Go.iconst (2) 76 at_75 rfl rfl ?_
    refine Go.if_icmpne 97 79 at_76 (by decide) rfl rfl (fun q95 => ?_) (fun q95 => absurd q95 (by decide))
    refine Go.iload 99 at_97 rfl rfl ?_
    refine Go.iconst (3) 100 at_99 rfl rfl ?_
    refine Go.if_icmpne 126 103 at_100 (by decide) rfl rfl (fun q96 => ?_) (fun q96 => absurd q96 (by decide))
    refine Go.iload 128 at_126 rfl rfl ?_
    refine Go.iconst (4) 129 at_128 rfl rfl ?_
    refine Go.if_icmpne 160 132 at_129 (by decide) rfl rfl (fun q97 => absurd rfl q97) (fun q97 => ?_)
    refine Go.iconst (4) 133 at_132 rfl rfl ?_
    refine Go.newarray 4 135 at_133 rfl (W.1 5 rfl) (by decide) (by decide) (by decide) (nl rfl) (nl rfl) (fun bb h98 e98 E98 ⟨k98, B98⟩ S98 z98 c98 => ?_)
    have A98 : Arv Z h98 bb k98 .char (4 : Int32) [.int 0, .int 0, .int 0, .int 0] (.int 0) := B98.pad (pad_rep [] (.int 0) 4)
    refine Go.dup 136 at_135 rfl rfl ?_
    refine Go.iconst (0) 137 at_136 rfl rfl ?_
    refine Go.iload 139 at_137 rfl rfl ?_
    refine Go.castore 0 (chV a_) [.int (chV a_), .int 0, .int 0, .int 0] 140 at_139 rfl A98 (by decide) rfl (nl rfl) (narC (chB _)) rfl S98 z98 (fun h99 K99 A99 S99 c99 => ?_)
    have E99 := Ext.kp1 E98 K99 e98
    refine Go.dup 141 at_140 rfl rfl ?_
    refine Go.iconst (1) 142 at_141 rfl rfl ?_
    refine Go.iload 144 at_142 rfl rfl ?_
    refine Go.castore 1 (chV b_) [.int (chV a_), .int (chV b_), .int 0, .int 0] 145 at_144 rfl A99 (by decide) rfl (nl rfl) (narC (chB _)) rfl S99 z98 (fun h100 K100 A100 S100 c100 => ?_)
    have E100 := Ext.kp1 E99 K100 e98
    refine Go.dup 146 at_145 rfl rfl ?_
    refine Go.iconst (2) 147 at_146 rfl rfl ?_
    refine Go.iload 149 at_147 rfl rfl ?_
    refine Go.castore 2 (chV c_) [.int (chV a_), .int (chV b_), .int (chV c_), .int 0] 150 at_149 rfl A100 (by decide) rfl (nl rfl) (narC (chB _)) rfl S100 z98 (fun h101 K101 A101 S101 c101 => ?_)
    have E101 := Ext.kp1 E100 K101 e98
    refine Go.dup 151 at_150 rfl rfl ?_
    refine Go.iconst (3) 152 at_151 rfl rfl ?_
    refine Go.iload 154 at_152 rfl rfl ?_
    refine Go.castore 3 (chV d_) [.int (chV a_), .int (chV b_), .int (chV c_), .int (chV d_)] 155 at_154 rfl A101 (by decide) rfl (nl rfl) (narC (chB _)) rfl S101 z98 (fun h102 K102 A102 S102 c102 => ?_)
    have E102 := Ext.kp1 E101 K102 e98
    refine Go.astore #[.val (.int n_), .val (.int a_), .val (.int b_), .val (.int c_), .val (.int d_), .val (.int e_), .val (.int (4 : Int32)), .val (.int (chV a_)), .val (.int (chV b_)), .val (.int (chV c_)), .val (.int (chV d_)), .val (.int (chV e_)), .val (.ref bb), .unset, .unset] 157 at_155 rfl rfl rfl ?_
    refine Go.goto 190 at_157 (by decide) rfl ?_
    refine Go.new 193 at_190 rfl (W.1 6 rfl) (W.1 7 rfl) (W.1 8 rfl) (nl rfl) (nl rfl) (fun s1 h103 e103 E103 ⟨A103, D103⟩ S103 z103 c103 => ?_)
    refine Go.dup 194 at_193 rfl rfl ?_
    refine Go.aload 196 at_194 rfl rfl rfl ?_
    have f105 := D103 (Or.inr (W.1 21 rfl)) (ty := (.array .byte)) (by decide)
    have f106 := D103 (Or.inr (W.1 22 rfl)) (ty := .byte) (by decide)
    have f107 := A102.ext E103
    refine goStrNew W 1 [(chV a_), (chV b_), (chV c_), (chV d_)] 199 at_196 rfl (W.1 9 rfl) A103 f105 f106 f107 rfl (nl rfl) (nl rfl) (by intro c hc; simp only [List.mem_cons, List.not_mem_nil, or_false] at hc; rcases hc with rfl | rfl | rfl | rfl <;> exact chB _) rfl rfl (nl rfl) (nl rfl) (nl rfl) (nl rfl) (nl rfl) S103 z103 (fun h104 K104 T104 c104 => ?_)
    have E104 := Ext.kp1 E103 K104 e103
    refine Go.astore #[.val (.int n_), .val (.int a_), .val (.int b_), .val (.int c_), .val (.int d_), .val (.int e_), .val (.int (4 : Int32)), .val (.int (chV a_)), .val (.int (chV b_)), .val (.int (chV c_)), .val (.int (chV d_)), .val (.int (chV e_)), .val (.ref bb), .val (.ref s1), .unset] 201 at_199 rfl rfl rfl ?_
    refine Go.iload 203 at_201 rfl rfl ?_
    refine Go.iconst (2) 204 at_203 rfl rfl ?_
    have hH : (Has2 [(chV a_), (chV b_), (chV c_), (chV d_)] 36 123 ∨ Has2 [(chV a_), (chV b_), (chV c_), (chV d_)] 35 123) ↔ (OP (chV a_) (chV b_) ∨ OP (chV b_) (chV c_) ∨ OP (chV c_) (chV d_)) := has4
    have J : ∀ (vmj : Vm) (u : Int32), ((u = 1 ∧ (OP (chV a_) (chV b_) ∨ OP (chV b_) (chV c_) ∨ OP (chV c_) (chV d_))) ∨ (u = 0 ∧ ¬ (OP (chV a_) (chV b_) ∨ OP (chV b_) (chV c_) ∨ OP (chV c_) (chV d_)))) → Go false p l e room_1 s m #[.int n_, .int a_, .int b_, .int c_, .int d_, .int e_] below meth c code maxLocals "law" ret Z a0 consts_1 "com/example/guide/guide/io/FlowLanguageIsExpressionPinLaw" (fun v vm' h' => v = some (.int 1)) vmj h104 3 12 270 #[.val (.int n_), .val (.int a_), .val (.int b_), .val (.int c_), .val (.int d_), .val (.int e_), .val (.int (4 : Int32)), .val (.int (chV a_)), .val (.int (chV b_)), .val (.int (chV c_)), .val (.int (chV d_)), .val (.int (chV e_)), .val (.ref bb), .val (.ref s1), .unset] [.int u] := by
      intro vmj u hu
      refine Go.istore #[.val (.int n_), .val (.int a_), .val (.int b_), .val (.int c_), .val (.int d_), .val (.int e_), .val (.int (4 : Int32)), .val (.int (chV a_)), .val (.int (chV b_)), .val (.int (chV c_)), .val (.int (chV d_)), .val (.int (chV e_)), .val (.ref bb), .val (.ref s1), .val (.int u)] 272 at_270 rfl rfl ?_
      refine Go.aload 274 at_272 rfl rfl rfl ?_
      refine Go.invokestatic (rest := []) 0 [.ref s1] 277 at_274 rfl (W.1 27 rfl) (W.1 28 rfl) (W.1 29 rfl) (W.1 30 rfl) (by decide) (cIsExpr W (by decide) T104) (by decide +kernel : parseMethodDescriptor "(Ljava/lang/String;)Z" = some ⟨[(.object "java/lang/String")], (some .boolean)⟩) rfl rfl rfl (nl rfl) (nl rfl) (nl rfl) (nl rfl) (nl rfl) (fun v108 vm108 h108 ⟨r1, rv, hq⟩ c108 => ?_)
      subst rv
      refine Go.iload 279 at_277 rfl rfl ?_
      refine Go.if_icmpne 286 282 at_279 (by decide) rfl rfl (fun q109 => absurd (by rcases hq with ⟨z1, z2⟩ | ⟨z1, z2⟩ <;> rcases hu with ⟨y1, y2⟩ | ⟨y1, y2⟩ <;> first | exact z1.trans y1.symm | exact absurd (hH.mp z2) y2 | exact absurd (hH.mpr y2) z2) q109) (fun q109 => ?_)
      refine Go.iconst (1) 283 at_282 rfl rfl ?_
      refine Go.goto 287 at_283 (by decide) rfl ?_
      exact Go.ireturn at_287 rfl rfl (by simp) (nl rfl) (nl rfl) (fun vm' ch => rfl)
    refine Go.if_icmplt 217 207 at_204 (by decide) rfl rfl (fun q110 => absurd q110 (by decide)) (fun q110 => ?_)
    refine Go.iload 209 at_207 rfl rfl ?_
    refine Go.iload 211 at_209 rfl rfl ?_
    refine Go.invokestatic (rest := []) 0 [.int (chV a_), .int (chV b_)] 214 at_211 rfl (W.1 77 rfl) (W.1 78 rfl) (W.1 3 rfl) (W.1 79 rfl) (by decide) (cOpens W ) (by decide +kernel : parseMethodDescriptor "(CC)Z" = some ⟨[.char, .char], (some .boolean)⟩) rfl rfl rfl (nl rfl) (nl rfl) (nl rfl) (nl rfl) (nl rfl) (fun v111 vm111 h111 ⟨rv, hh⟩ c111 => ?_)
    subst rv; replace hh := hh.symm; subst hh
    refine Go.ifne 265 217 at_214 (by decide) rfl rfl (fun u0 => ?_) (fun u0 => ?_)
    · refine Go.iconst (1) 266 at_265 rfl rfl ?_
      refine Go.goto 270 at_266 (by decide) rfl ?_
      exact J _ _ (Or.inl ⟨rfl, Or.inl (Classical.not_not.mp (fun z => u0 (bi0.mpr z)))⟩)
    · have y0 := bi0.mp u0
      refine Go.iload 219 at_217 rfl rfl ?_
      refine Go.iconst (3) 220 at_219 rfl rfl ?_
      refine Go.if_icmplt 233 223 at_220 (by decide) rfl rfl (fun q112 => absurd q112 (by decide)) (fun q112 => ?_)
      refine Go.iload 225 at_223 rfl rfl ?_
      refine Go.iload 227 at_225 rfl rfl ?_
      refine Go.invokestatic (rest := []) 0 [.int (chV b_), .int (chV c_)] 230 at_227 rfl (W.1 77 rfl) (W.1 78 rfl) (W.1 3 rfl) (W.1 79 rfl) (by decide) (cOpens W ) (by decide +kernel : parseMethodDescriptor "(CC)Z" = some ⟨[.char, .char], (some .boolean)⟩) rfl rfl rfl (nl rfl) (nl rfl) (nl rfl) (nl rfl) (nl rfl) (fun v113 vm113 h113 ⟨rv, hh⟩ c113 => ?_)
      subst rv; replace hh := hh.symm; subst hh
      refine Go.ifne 265 233 at_230 (by decide) rfl rfl (fun u1 => ?_) (fun u1 => ?_)
      · refine Go.iconst (1) 266 at_265 rfl rfl ?_
        refine Go.goto 270 at_266 (by decide) rfl ?_
        exact J _ _ (Or.inl ⟨rfl, Or.inr (Or.inl (Classical.not_not.mp (fun z => u1 (bi0.mpr z))))⟩)
      · have y1 := bi0.mp u1
        refine Go.iload 235 at_233 rfl rfl ?_
        refine Go.iconst (4) 236 at_235 rfl rfl ?_
        refine Go.if_icmplt 249 239 at_236 (by decide) rfl rfl (fun q114 => absurd q114 (by decide)) (fun q114 => ?_)
        refine Go.iload 241 at_239 rfl rfl ?_
        refine Go.iload 243 at_241 rfl rfl ?_
        refine Go.invokestatic (rest := []) 0 [.int (chV c_), .int (chV d_)] 246 at_243 rfl (W.1 77 rfl) (W.1 78 rfl) (W.1 3 rfl) (W.1 79 rfl) (by decide) (cOpens W ) (by decide +kernel : parseMethodDescriptor "(CC)Z" = some ⟨[.char, .char], (some .boolean)⟩) rfl rfl rfl (nl rfl) (nl rfl) (nl rfl) (nl rfl) (nl rfl) (fun v115 vm115 h115 ⟨rv, hh⟩ c115 => ?_)
        subst rv; replace hh := hh.symm; subst hh
        refine Go.ifne 265 249 at_246 (by decide) rfl rfl (fun u2 => ?_) (fun u2 => ?_)
        · refine Go.iconst (1) 266 at_265 rfl rfl ?_
          refine Go.goto 270 at_266 (by decide) rfl ?_
          exact J _ _ (Or.inl ⟨rfl, Or.inr (Or.inr (Classical.not_not.mp (fun z => u2 (bi0.mpr z))))⟩)
        · have y2 := bi0.mp u2
          refine Go.iload 251 at_249 rfl rfl ?_
          refine Go.iconst (5) 252 at_251 rfl rfl ?_
          refine Go.if_icmplt 269 255 at_252 (by decide) rfl rfl (fun q116 => ?_) (fun q116 => absurd (by decide) q116)
          refine Go.iconst (0) 270 at_269 rfl rfl ?_
          exact J _ _ (Or.inr ⟨rfl, (fun z => z.elim y0 (fun z => z.elim y1 y2))⟩)
  · refine Go.irem (5 : Int32) 7 at_6 rfl (by decide) ((irem_eq_mod _ _).trans hc) ?_
    refine Go.istore #[.val (.int n_), .val (.int a_), .val (.int b_), .val (.int c_), .val (.int d_), .val (.int e_), .val (.int (5 : Int32)), .unset, .unset, .unset, .unset, .unset, .unset, .unset, .unset] 9 at_7 rfl rfl ?_
    refine Go.iload_n 10 at_9 rfl rfl ?_
    refine Go.invokestatic (rest := []) 0 [.int a_] 13 at_10 rfl (W.1 1 rfl) (W.1 2 rfl) (W.1 3 rfl) (W.1 4 rfl) (by decide) (cCh W ) (by decide +kernel : parseMethodDescriptor "(I)C" = some ⟨[.int], (some .char)⟩) rfl rfl rfl (nl rfl) (nl rfl) (nl rfl) (nl rfl) (nl rfl) (fun v117 vm117 h117 ⟨rv, hh⟩ c117 => ?_)
    subst rv; replace hh := hh.symm; subst hh
    refine Go.istore #[.val (.int n_), .val (.int a_), .val (.int b_), .val (.int c_), .val (.int d_), .val (.int e_), .val (.int (5 : Int32)), .val (.int (chV a_)), .unset, .unset, .unset, .unset, .unset, .unset, .unset] 15 at_13 rfl rfl ?_
    refine Go.iload_n 16 at_15 rfl rfl ?_
    refine Go.invokestatic (rest := []) 0 [.int b_] 19 at_16 rfl (W.1 1 rfl) (W.1 2 rfl) (W.1 3 rfl) (W.1 4 rfl) (by decide) (cCh W ) (by decide +kernel : parseMethodDescriptor "(I)C" = some ⟨[.int], (some .char)⟩) rfl rfl rfl (nl rfl) (nl rfl) (nl rfl) (nl rfl) (nl rfl) (fun v118 vm118 h118 ⟨rv, hh⟩ c118 => ?_)
    subst rv; replace hh := hh.symm; subst hh
    refine Go.istore #[.val (.int n_), .val (.int a_), .val (.int b_), .val (.int c_), .val (.int d_), .val (.int e_), .val (.int (5 : Int32)), .val (.int (chV a_)), .val (.int (chV b_)), .unset, .unset, .unset, .unset, .unset, .unset] 21 at_19 rfl rfl ?_
    refine Go.iload_n 22 at_21 rfl rfl ?_
    refine Go.invokestatic (rest := []) 0 [.int c_] 25 at_22 rfl (W.1 1 rfl) (W.1 2 rfl) (W.1 3 rfl) (W.1 4 rfl) (by decide) (cCh W ) (by decide +kernel : parseMethodDescriptor "(I)C" = some ⟨[.int], (some .char)⟩) rfl rfl rfl (nl rfl) (nl rfl) (nl rfl) (nl rfl) (nl rfl) (fun v119 vm119 h119 ⟨rv, hh⟩ c119 => ?_)
    subst rv; replace hh := hh.symm; subst hh
    refine Go.istore #[.val (.int n_), .val (.int a_), .val (.int b_), .val (.int c_), .val (.int d_), .val (.int e_), .val (.int (5 : Int32)), .val (.int (chV a_)), .val (.int (chV b_)), .val (.int (chV c_)), .unset, .unset, .unset, .unset, .unset] 27 at_25 rfl rfl ?_
    refine Go.iload 29 at_27 rfl rfl ?_
    refine Go.invokestatic (rest := []) 0 [.int d_] 32 at_29 rfl (W.1 1 rfl) (W.1 2 rfl) (W.1 3 rfl) (W.1 4 rfl) (by decide) (cCh W ) (by decide +kernel : parseMethodDescriptor "(I)C" = some ⟨[.int], (some .char)⟩) rfl rfl rfl (nl rfl) (nl rfl) (nl rfl) (nl rfl) (nl rfl) (fun v120 vm120 h120 ⟨rv, hh⟩ c120 => ?_)
    subst rv; replace hh := hh.symm; subst hh
    refine Go.istore #[.val (.int n_), .val (.int a_), .val (.int b_), .val (.int c_), .val (.int d_), .val (.int e_), .val (.int (5 : Int32)), .val (.int (chV a_)), .val (.int (chV b_)), .val (.int (chV c_)), .val (.int (chV d_)), .unset, .unset, .unset, .unset] 34 at_32 rfl rfl ?_
    refine Go.iload 36 at_34 rfl rfl ?_
    refine Go.invokestatic (rest := []) 0 [.int e_] 39 at_36 rfl (W.1 1 rfl) (W.1 2 rfl) (W.1 3 rfl) (W.1 4 rfl) (by decide) (cCh W ) (by decide +kernel : parseMethodDescriptor "(I)C" = some ⟨[.int], (some .char)⟩) rfl rfl rfl (nl rfl) (nl rfl) (nl rfl) (nl rfl) (nl rfl) (fun v121 vm121 h121 ⟨rv, hh⟩ c121 => ?_)
    subst rv; replace hh := hh.symm; subst hh
    refine Go.istore #[.val (.int n_), .val (.int a_), .val (.int b_), .val (.int c_), .val (.int d_), .val (.int e_), .val (.int (5 : Int32)), .val (.int (chV a_)), .val (.int (chV b_)), .val (.int (chV c_)), .val (.int (chV d_)), .val (.int (chV e_)), .unset, .unset, .unset] 41 at_39 rfl rfl ?_
    refine Go.iload 43 at_41 rfl rfl ?_
    refine Go.ifne 54 46 at_43 (by decide) rfl rfl (fun q122 => ?_) (fun q122 => absurd q122 (by decide))
    refine Go.iload 56 at_54 rfl rfl ?_
    refine Go.iconst (1) 57 at_56 rfl rfl ?_
    refine Go.if_icmpne 73 60 at_57 (by decide) rfl rfl (fun q123 => ?_) (fun q123 => absurd q123 (by decide))
    refine Go.iload 75 at_73 rfl rfl ?_
    refine Go.iconst (2) 76 at_75 rfl rfl ?_
    refine Go.if_icmpne 97 79 at_76 (by decide) rfl rfl (fun q124 => ?_) (fun q124 => absurd q124 (by decide))
    refine Go.iload 99 at_97 rfl rfl ?_
    refine Go.iconst (3) 100 at_99 rfl rfl ?_
    refine Go.if_icmpne 126 103 at_100 (by decide) rfl rfl (fun q125 => ?_) (fun q125 => absurd q125 (by decide))
    refine Go.iload 128 at_126 rfl rfl ?_
    refine Go.iconst (4) 129 at_128 rfl rfl ?_
    refine Go.if_icmpne 160 132 at_129 (by decide) rfl rfl (fun q126 => ?_) (fun q126 => absurd q126 (by decide))
    refine Go.iconst (5) 161 at_160 rfl rfl ?_
    refine Go.newarray 5 163 at_161 rfl (W.1 5 rfl) (by decide) (by decide) (by decide) (nl rfl) (nl rfl) (fun bb h127 e127 E127 ⟨k127, B127⟩ S127 z127 c127 => ?_)
    have A127 : Arv Z h127 bb k127 .char (5 : Int32) [.int 0, .int 0, .int 0, .int 0, .int 0] (.int 0) := B127.pad (pad_rep [] (.int 0) 5)
    refine Go.dup 164 at_163 rfl rfl ?_
    refine Go.iconst (0) 165 at_164 rfl rfl ?_
    refine Go.iload 167 at_165 rfl rfl ?_
    refine Go.castore 0 (chV a_) [.int (chV a_), .int 0, .int 0, .int 0, .int 0] 168 at_167 rfl A127 (by decide) rfl (nl rfl) (narC (chB _)) rfl S127 z127 (fun h128 K128 A128 S128 c128 => ?_)
    have E128 := Ext.kp1 E127 K128 e127
    refine Go.dup 169 at_168 rfl rfl ?_
    refine Go.iconst (1) 170 at_169 rfl rfl ?_
    refine Go.iload 172 at_170 rfl rfl ?_
    refine Go.castore 1 (chV b_) [.int (chV a_), .int (chV b_), .int 0, .int 0, .int 0] 173 at_172 rfl A128 (by decide) rfl (nl rfl) (narC (chB _)) rfl S128 z127 (fun h129 K129 A129 S129 c129 => ?_)
    have E129 := Ext.kp1 E128 K129 e127
    refine Go.dup 174 at_173 rfl rfl ?_
    refine Go.iconst (2) 175 at_174 rfl rfl ?_
    refine Go.iload 177 at_175 rfl rfl ?_
    refine Go.castore 2 (chV c_) [.int (chV a_), .int (chV b_), .int (chV c_), .int 0, .int 0] 178 at_177 rfl A129 (by decide) rfl (nl rfl) (narC (chB _)) rfl S129 z127 (fun h130 K130 A130 S130 c130 => ?_)
    have E130 := Ext.kp1 E129 K130 e127
    refine Go.dup 179 at_178 rfl rfl ?_
    refine Go.iconst (3) 180 at_179 rfl rfl ?_
    refine Go.iload 182 at_180 rfl rfl ?_
    refine Go.castore 3 (chV d_) [.int (chV a_), .int (chV b_), .int (chV c_), .int (chV d_), .int 0] 183 at_182 rfl A130 (by decide) rfl (nl rfl) (narC (chB _)) rfl S130 z127 (fun h131 K131 A131 S131 c131 => ?_)
    have E131 := Ext.kp1 E130 K131 e127
    refine Go.dup 184 at_183 rfl rfl ?_
    refine Go.iconst (4) 185 at_184 rfl rfl ?_
    refine Go.iload 187 at_185 rfl rfl ?_
    refine Go.castore 4 (chV e_) [.int (chV a_), .int (chV b_), .int (chV c_), .int (chV d_), .int (chV e_)] 188 at_187 rfl A131 (by decide) rfl (nl rfl) (narC (chB _)) rfl S131 z127 (fun h132 K132 A132 S132 c132 => ?_)
    have E132 := Ext.kp1 E131 K132 e127
    refine Go.astore #[.val (.int n_), .val (.int a_), .val (.int b_), .val (.int c_), .val (.int d_), .val (.int e_), .val (.int (5 : Int32)), .val (.int (chV a_)), .val (.int (chV b_)), .val (.int (chV c_)), .val (.int (chV d_)), .val (.int (chV e_)), .val (.ref bb), .unset, .unset] 190 at_188 rfl rfl rfl ?_
    refine Go.new 193 at_190 rfl (W.1 6 rfl) (W.1 7 rfl) (W.1 8 rfl) (nl rfl) (nl rfl) (fun s1 h133 e133 E133 ⟨A133, D133⟩ S133 z133 c133 => ?_)
    refine Go.dup 194 at_193 rfl rfl ?_
    refine Go.aload 196 at_194 rfl rfl rfl ?_
    have f135 := D133 (Or.inr (W.1 21 rfl)) (ty := (.array .byte)) (by decide)
    have f136 := D133 (Or.inr (W.1 22 rfl)) (ty := .byte) (by decide)
    have f137 := A132.ext E133
    refine goStrNew W 1 [(chV a_), (chV b_), (chV c_), (chV d_), (chV e_)] 199 at_196 rfl (W.1 9 rfl) A133 f135 f136 f137 rfl (nl rfl) (nl rfl) (by intro c hc; simp only [List.mem_cons, List.not_mem_nil, or_false] at hc; rcases hc with rfl | rfl | rfl | rfl | rfl <;> exact chB _) rfl rfl (nl rfl) (nl rfl) (nl rfl) (nl rfl) (nl rfl) S133 z133 (fun h134 K134 T134 c134 => ?_)
    have E134 := Ext.kp1 E133 K134 e133
    refine Go.astore #[.val (.int n_), .val (.int a_), .val (.int b_), .val (.int c_), .val (.int d_), .val (.int e_), .val (.int (5 : Int32)), .val (.int (chV a_)), .val (.int (chV b_)), .val (.int (chV c_)), .val (.int (chV d_)), .val (.int (chV e_)), .val (.ref bb), .val (.ref s1), .unset] 201 at_199 rfl rfl rfl ?_
    refine Go.iload 203 at_201 rfl rfl ?_
    refine Go.iconst (2) 204 at_203 rfl rfl ?_
    have hH : (Has2 [(chV a_), (chV b_), (chV c_), (chV d_), (chV e_)] 36 123 ∨ Has2 [(chV a_), (chV b_), (chV c_), (chV d_), (chV e_)] 35 123) ↔ (OP (chV a_) (chV b_) ∨ OP (chV b_) (chV c_) ∨ OP (chV c_) (chV d_) ∨ OP (chV d_) (chV e_)) := has5
    have J : ∀ (vmj : Vm) (u : Int32), ((u = 1 ∧ (OP (chV a_) (chV b_) ∨ OP (chV b_) (chV c_) ∨ OP (chV c_) (chV d_) ∨ OP (chV d_) (chV e_))) ∨ (u = 0 ∧ ¬ (OP (chV a_) (chV b_) ∨ OP (chV b_) (chV c_) ∨ OP (chV c_) (chV d_) ∨ OP (chV d_) (chV e_)))) → Go false p l e room_1 s m #[.int n_, .int a_, .int b_, .int c_, .int d_, .int e_] below meth c code maxLocals "law" ret Z a0 consts_1 "com/example/guide/guide/io/FlowLanguageIsExpressionPinLaw" (fun v vm' h' => v = some (.int 1)) vmj h134 3 14 270 #[.val (.int n_), .val (.int a_), .val (.int b_), .val (.int c_), .val (.int d_), .val (.int e_), .val (.int (5 : Int32)), .val (.int (chV a_)), .val (.int (chV b_)), .val (.int (chV c_)), .val (.int (chV d_)), .val (.int (chV e_)), .val (.ref bb), .val (.ref s1), .unset] [.int u] := by
      intro vmj u hu
      refine Go.istore #[.val (.int n_), .val (.int a_), .val (.int b_), .val (.int c_), .val (.int d_), .val (.int e_), .val (.int (5 : Int32)), .val (.int (chV a_)), .val (.int (chV b_)), .val (.int (chV c_)), .val (.int (chV d_)), .val (.int (chV e_)), .val (.ref bb), .val (.ref s1), .val (.int u)] 272 at_270 rfl rfl ?_
      refine Go.aload 274 at_272 rfl rfl rfl ?_
      refine Go.invokestatic (rest := []) 0 [.ref s1] 277 at_274 rfl (W.1 27 rfl) (W.1 28 rfl) (W.1 29 rfl) (W.1 30 rfl) (by decide) (cIsExpr W (by decide) T134) (by decide +kernel : parseMethodDescriptor "(Ljava/lang/String;)Z" = some ⟨[(.object "java/lang/String")], (some .boolean)⟩) rfl rfl rfl (nl rfl) (nl rfl) (nl rfl) (nl rfl) (nl rfl) (fun v138 vm138 h138 ⟨r1, rv, hq⟩ c138 => ?_)
      subst rv
      refine Go.iload 279 at_277 rfl rfl ?_
      refine Go.if_icmpne 286 282 at_279 (by decide) rfl rfl (fun q139 => absurd (by rcases hq with ⟨z1, z2⟩ | ⟨z1, z2⟩ <;> rcases hu with ⟨y1, y2⟩ | ⟨y1, y2⟩ <;> first | exact z1.trans y1.symm | exact absurd (hH.mp z2) y2 | exact absurd (hH.mpr y2) z2) q139) (fun q139 => ?_)
      refine Go.iconst (1) 283 at_282 rfl rfl ?_
      refine Go.goto 287 at_283 (by decide) rfl ?_
      exact Go.ireturn at_287 rfl rfl (by simp) (nl rfl) (nl rfl) (fun vm' ch => rfl)
    refine Go.if_icmplt 217 207 at_204 (by decide) rfl rfl (fun q140 => absurd q140 (by decide)) (fun q140 => ?_)
    refine Go.iload 209 at_207 rfl rfl ?_
    refine Go.iload 211 at_209 rfl rfl ?_
    refine Go.invokestatic (rest := []) 0 [.int (chV a_), .int (chV b_)] 214 at_211 rfl (W.1 77 rfl) (W.1 78 rfl) (W.1 3 rfl) (W.1 79 rfl) (by decide) (cOpens W ) (by decide +kernel : parseMethodDescriptor "(CC)Z" = some ⟨[.char, .char], (some .boolean)⟩) rfl rfl rfl (nl rfl) (nl rfl) (nl rfl) (nl rfl) (nl rfl) (fun v141 vm141 h141 ⟨rv, hh⟩ c141 => ?_)
    subst rv; replace hh := hh.symm; subst hh
    refine Go.ifne 265 217 at_214 (by decide) rfl rfl (fun u0 => ?_) (fun u0 => ?_)
    · refine Go.iconst (1) 266 at_265 rfl rfl ?_
      refine Go.goto 270 at_266 (by decide) rfl ?_
      exact J _ _ (Or.inl ⟨rfl, Or.inl (Classical.not_not.mp (fun z => u0 (bi0.mpr z)))⟩)
    · have y0 := bi0.mp u0
      refine Go.iload 219 at_217 rfl rfl ?_
      refine Go.iconst (3) 220 at_219 rfl rfl ?_
      refine Go.if_icmplt 233 223 at_220 (by decide) rfl rfl (fun q142 => absurd q142 (by decide)) (fun q142 => ?_)
      refine Go.iload 225 at_223 rfl rfl ?_
      refine Go.iload 227 at_225 rfl rfl ?_
      refine Go.invokestatic (rest := []) 0 [.int (chV b_), .int (chV c_)] 230 at_227 rfl (W.1 77 rfl) (W.1 78 rfl) (W.1 3 rfl) (W.1 79 rfl) (by decide) (cOpens W ) (by decide +kernel : parseMethodDescriptor "(CC)Z" = some ⟨[.char, .char], (some .boolean)⟩) rfl rfl rfl (nl rfl) (nl rfl) (nl rfl) (nl rfl) (nl rfl) (fun v143 vm143 h143 ⟨rv, hh⟩ c143 => ?_)
      subst rv; replace hh := hh.symm; subst hh
      refine Go.ifne 265 233 at_230 (by decide) rfl rfl (fun u1 => ?_) (fun u1 => ?_)
      · refine Go.iconst (1) 266 at_265 rfl rfl ?_
        refine Go.goto 270 at_266 (by decide) rfl ?_
        exact J _ _ (Or.inl ⟨rfl, Or.inr (Or.inl (Classical.not_not.mp (fun z => u1 (bi0.mpr z))))⟩)
      · have y1 := bi0.mp u1
        refine Go.iload 235 at_233 rfl rfl ?_
        refine Go.iconst (4) 236 at_235 rfl rfl ?_
        refine Go.if_icmplt 249 239 at_236 (by decide) rfl rfl (fun q144 => absurd q144 (by decide)) (fun q144 => ?_)
        refine Go.iload 241 at_239 rfl rfl ?_
        refine Go.iload 243 at_241 rfl rfl ?_
        refine Go.invokestatic (rest := []) 0 [.int (chV c_), .int (chV d_)] 246 at_243 rfl (W.1 77 rfl) (W.1 78 rfl) (W.1 3 rfl) (W.1 79 rfl) (by decide) (cOpens W ) (by decide +kernel : parseMethodDescriptor "(CC)Z" = some ⟨[.char, .char], (some .boolean)⟩) rfl rfl rfl (nl rfl) (nl rfl) (nl rfl) (nl rfl) (nl rfl) (fun v145 vm145 h145 ⟨rv, hh⟩ c145 => ?_)
        subst rv; replace hh := hh.symm; subst hh
        refine Go.ifne 265 249 at_246 (by decide) rfl rfl (fun u2 => ?_) (fun u2 => ?_)
        · refine Go.iconst (1) 266 at_265 rfl rfl ?_
          refine Go.goto 270 at_266 (by decide) rfl ?_
          exact J _ _ (Or.inl ⟨rfl, Or.inr (Or.inr (Or.inl (Classical.not_not.mp (fun z => u2 (bi0.mpr z)))))⟩)
        · have y2 := bi0.mp u2
          refine Go.iload 251 at_249 rfl rfl ?_
          refine Go.iconst (5) 252 at_251 rfl rfl ?_
          refine Go.if_icmplt 269 255 at_252 (by decide) rfl rfl (fun q146 => absurd q146 (by decide)) (fun q146 => ?_)
          refine Go.iload 257 at_255 rfl rfl ?_
          refine Go.iload 259 at_257 rfl rfl ?_
          refine Go.invokestatic (rest := []) 0 [.int (chV d_), .int (chV e_)] 262 at_259 rfl (W.1 77 rfl) (W.1 78 rfl) (W.1 3 rfl) (W.1 79 rfl) (by decide) (cOpens W ) (by decide +kernel : parseMethodDescriptor "(CC)Z" = some ⟨[.char, .char], (some .boolean)⟩) rfl rfl rfl (nl rfl) (nl rfl) (nl rfl) (nl rfl) (nl rfl) (fun v147 vm147 h147 ⟨rv, hh⟩ c147 => ?_)
          subst rv; replace hh := hh.symm; subst hh
          refine Go.ifeq 269 265 at_262 (by decide) rfl rfl (fun u3 => ?_) (fun u3 => ?_)
          · have y3 := bi0.mp u3
            refine Go.iconst (0) 270 at_269 rfl rfl ?_
            exact J _ _ (Or.inr ⟨rfl, (fun z => z.elim y0 (fun z => z.elim y1 (fun z => z.elim y2 y3)))⟩)
          · refine Go.iconst (1) 266 at_265 rfl rfl ?_
            refine Go.goto 270 at_266 (by decide) rfl ?_
            exact J _ _ (Or.inl ⟨rfl, Or.inr (Or.inr (Or.inr (Classical.not_not.mp (fun z => u3 (bi0.mpr z)))))⟩)
set_option maxRecDepth 65536 in
theorem comes_1 {Post : Tables → Env → Array Value → State → Outcome → State → Prop} (hpost : ∀ tb e args s v u, (limb_1_1.after args s (.returned v) u = true ∧ limb_1_2.after args s (.returned v) u = true ∧ True) → Jvm.D.FramedW s (.returned v) u (Jvm.fieldLocs frame_1_writes args s ++ Jvm.arrayLocs frame_1_arrays args s ++ Jvm.staticLocs frame_1_statics s) 24 3200 → Post tb e args s (.returned v) u) :
    ArmFor flags0 classFile x code maxLocals ret World_1 tables_1 room_1 Calls_1 rest_1 Pre_1 Post := by
  intro l hfl _ _ p e ha hc hk s m args below hf hA hF happ hP
  obtain ⟨hcalls, hrest, hpre⟩ := hP
  obtain ⟨-, -, -, hnamed, -, -, -, hat⟩ := (Spec.applies_iff hf).mp happ
  obtain ⟨hg, hn⟩ := and_e (Cond.before_iff.mp (show (Jvm.Cond.and given_1 narrow_1).before args s = true from hpre))
  obtain ⟨g0, r0⟩ := and_e hg
  obtain ⟨g1, r1⟩ := and_e r0
  obtain ⟨g2, r2⟩ := and_e r1
  obtain ⟨g3, r3⟩ := and_e r2
  obtain ⟨g4, r4⟩ := and_e r3
  obtain ⟨g5, r5⟩ := and_e r4
  obtain ⟨w0, w1, w2, w3, w4, w5, rfl⟩ : ∃ w0 w1 w2 w3 w4 w5 : Value, args = #[w0, w1, w2, w3, w4, w5] := by
    have hs : args.size = 6 := by simpa [Cond.value, given_1] using g0
    obtain ⟨L⟩ := args
    match L, hs with
    | [w0, w1, w2, w3, w4, w5], _ => exact ⟨w0, w1, w2, w3, w4, w5, rfl⟩
  have hw := fun d (hd : d ∈ tables_1) => atoms_spec (ws := Jvm.Cond.code x code maxLocals ret :: tables_1) hat d (List.mem_cons_of_mem _ hd)
  obtain ⟨hsets, hown0⟩ := atoms_of _ (rest_1_c_eq ▸ (show rest_1_c.before _ s = true from hrest))
  obtain ⟨i0, ei0⟩ := is_v g1
  obtain rfl : w0 = (.int i0) := Option.some.inj ei0
  obtain ⟨i1, ei1⟩ := is_v g2
  obtain rfl : w1 = (.int i1) := Option.some.inj ei1
  obtain ⟨i2, ei2⟩ := is_v g3
  obtain rfl : w2 = (.int i2) := Option.some.inj ei2
  obtain ⟨i3, ei3⟩ := is_v g4
  obtain rfl : w3 = (.int i3) := Option.some.inj ei3
  obtain ⟨i4, ei4⟩ := is_v g5
  obtain rfl : w4 = (.int i4) := Option.some.inj ei4
  obtain ⟨i5, ei5⟩ := is_v r5
  obtain rfl : w5 = (.int i5) := Option.some.inj ei5
  have n5 := not_v (Cond.before_iff.mp (hsets _ (List.mem_of_getElem? (i := 2) rfl)))
  obtain ⟨zz, ez⟩ := is_v (Cond.before_iff.mp (hsets _ (List.mem_of_getElem? (i := 1) rfl)))
  have Sz : Sta s s.heap "java/lang/String" "COMPACT_STRINGS" "Z" (.int zz) := Sta.start ez (Or.inl (hsets _ (List.mem_of_getElem? (i := 0) rfl)))
  obtain ⟨vf, ef, rf⟩ := isR_v (Cond.before_iff.mp (hsets _ (List.mem_of_getElem? (i := 8) rfl)))
  have Sf : Sta s s.heap "jdk/internal/util/Preconditions" "SIOOBE_FORMATTER" "Ljava/util/function/BiFunction;" vf := Sta.start ef (Or.inl (hsets _ (List.mem_of_getElem? (i := 7) rfl)))
  have cz : ¬ (zz = (0 : Int32)) := gotF (Cond.eq_ints ez (Term.int_eval (0))) n5
  have W : Wd s #[.int i0, .int i1, .int i2, .int i3, .int i4, .int i5] := ⟨fun k _ q => hw _ (List.mem_of_getElem? q), ⟨zz, Sz, cz⟩, vf, Sf, rf⟩
  have hEW : EW s #[.int i0, .int i1, .int i2, .int i3, .int i4, .int i5] consts_1 := (EW.cons (W.1 31 rfl) (by decide +kernel) (EW.cons (W.1 66 rfl) (by decide +kernel) (EW.cons (W.1 19 rfl) (by decide +kernel) EW.nil)))
  have H : CHv s consts_1 s.vm s.heap := CHv.start hEW (fun p hp => hcalls.1 p hp) (hsets _ (List.mem_of_getElem? (i := 2) rfl)) (W.1 20 rfl) (W.1 7 rfl)
  obtain ⟨n, o, h1, h2, h3, v, L, rfl, q1, -, -, N, hq, hnw⟩ := cLaw W (n_ := i0) (a_ := i1) (b_ := i2) (c_ := i3) (d_ := i4) (e_ := i5) (l := l) tables_1 p e ha hc hk s m _ below hf ((Spec.applies_iff_loose hf).mp happ).1 ⟨rfl, State.Warmed39.refl s, rfl, CHr.refl H, Ext.rfl' _, hEW⟩ trivial
  subst q1
  obtain ⟨a1, a2, a3, a4⟩ := hq
  refine ⟨n, _, h1, h2, h3, hpost _ _ _ _ _ _ ⟨Cond.after_iff.mpr rfl, Cond.after_iff.mpr (eq_i res_at (Term.int_eval (1)) rfl), trivial⟩ ⟨a1, a2, a3, (a4.sift fun y hy => Or.inr (N y hy)).mono (by decide) (by decide)⟩⟩
theorem main_1_1 : Claimed_1_1 := comes_1 fun _ _ _ _ _ _ h hF => ⟨h.1, hF⟩
theorem main_1_2 : Claimed_1_2 := comes_1 fun _ _ _ _ _ _ h hF => ⟨h.2.1, hF⟩
end Jvm.Pilot.@@N@@
namespace Jvm.Pilot.@@N@@
open Jvm Jvm.ClassFile Sem Op Lib Jvm.Free Jvm.Stand Jvm.Pilot.@@N@@.Jvm.D
/-! MADE BY PROGRAM (witnessworld.py) out of the Statement's table words and the real class files: 20 classes; the members and pool entries that the words name. The judged class is class 1, her method 3. -/
namespace start1
open Jvm.ClassFile
def u (s : String) : CpInfo := .utf8 (stringToUtf16 s)
/-- a pool by its gaps: so many unusable entries, then the entry; so many at the end -/
def gap : Nat → List CpInfo → List CpInfo
  | 0, r => r
  | n + 1, r => .unusable :: gap n r
def poolList (es : List (Nat × CpInfo)) (last : Nat) : List CpInfo := es.foldr (fun e r => gap e.1 (e.2 :: r)) (gap last [])
def pool (es : List (Nat × CpInfo)) (last : Nat) : Array CpInfo := ⟨poolList es last⟩
def fileOf (pool : Array CpInfo) (this : Nat) (attrs : Array Attribute := #[]) (ms : Array MethodInfo := #[]) (fl : Nat := 33) (sup : Nat := 0) (ifs : Array Nat := #[]) (fds : Array FieldInfo := #[]) : ClassFile where
  minorVersion := 0
  majorVersion := 65
  constantPool := pool
  accessFlags := fl
  thisClass := this
  superClass := sup
  interfaces := ifs
  fields := fds
  methods := ms
  attributes := attrs
def plain (name : String) (sup : Option ClassId) : Class where
  name := name
  kind := .ordinary
  loader := none
  accessFlags := 33
  super := sup
  interfaces := #[]
  cf := none
  fields := #[]
  methods := #[]
  instanceTypes := #[]
  staticTypes := #[]
  resolved := #[]
  callSites := []
  init := .initialized
  statics := none
  mirror := none

def pool0 : Array CpInfo := pool [(5, u "<init>"), (0, u "()V"), (1, .class_ 10), (1, u "java/lang/Object")] 113

def k0c0 : Code := { maxStack := 0, maxLocals := 1, code := object_method_1_code, exceptionTable := #[], attributes := #[] }
def k0m0 : Method := { name := "<init>", desc := "()V", sig := { parameters := [], returnType := none }, accessFlags := 1, code := some k0c0 }
/-- java/lang/Object -/
def k0 : Class := { plain "java/lang/Object" none with
  accessFlags := 33
  interfaces := #[]
  cf := some (fileOf pool0 8 #[] #[{ accessFlags := 1, nameIndex := 5, descriptorIndex := 6, attributes := #[] }] 33 0 #[] #[])
  fields := #[]
  methods := #[k0m0]
  instanceTypes := #[]
  staticTypes := #[]
  resolved := Array.replicate 124 none
  statics := none }

def pool1 : Array CpInfo := pool [(2, .class_ 4), (1, u "java/lang/Object"), (0, u "<init>"), (0, u "()V"), (0, .integer 2147483647), (0, .methodref 9 10), (0, .class_ 11), (0, .nameAndType 12 13), (0, u "com/example/guide/guide/io/FlowLanguageIsExpressionPinLaw"), (0, u "ch"), (0, u "(I)C"), (0, .class_ 15), (0, u "java/lang/String"), (0, .methodref 14 17), (0, .nameAndType 5 18), (0, u "([C)V"), (0, .methodref 9 20), (0, .nameAndType 21 22), (0, u "opens"), (0, u "(CC)Z"), (0, .methodref 24 25), (0, .class_ 26), (0, .nameAndType 27 28), (0, u "com/example/guide/guide/io/FlowLanguage"), (0, u "isExpression"), (0, u "(Ljava/lang/String;)Z"), (3, u "law"), (0, u "(IIIIII)Z")] 4

def k1m0 : Method := { name := "<init>", desc := "()V", sig := { parameters := [], returnType := none }, accessFlags := 2, code := none }
def k1c1 : Code := { maxStack := 2, maxLocals := 2, code := method_2_code, exceptionTable := #[], attributes := #[] }
def k1m1 : Method := { name := "ch", desc := "(I)C", sig := { parameters := [.int], returnType := some .char }, accessFlags := 10, code := some k1c1 }
def k1c2 : Code := { maxStack := 2, maxLocals := 2, code := method_3_code, exceptionTable := #[], attributes := #[] }
def k1m2 : Method := { name := "opens", desc := "(CC)Z", sig := { parameters := [.char, .char], returnType := some .boolean }, accessFlags := 10, code := some k1c2 }
def k1c3 : Code := { maxStack := 4, maxLocals := 15, code := code, exceptionTable := #[], attributes := #[] }
def k1m3 : Method := { name := "law", desc := "(IIIIII)Z", sig := { parameters := [.int, .int, .int, .int, .int, .int], returnType := some .boolean }, accessFlags := 9, code := some k1c3 }
/-- com/example/guide/guide/io/FlowLanguageIsExpressionPinLaw -/
def k1 : Class := { plain "com/example/guide/guide/io/FlowLanguageIsExpressionPinLaw" (some 0) with
  accessFlags := 49
  interfaces := #[]
  cf := some (fileOf pool1 9 #[] #[{ accessFlags := 2, nameIndex := 5, descriptorIndex := 6, attributes := #[] }, { accessFlags := 10, nameIndex := 12, descriptorIndex := 13, attributes := #[] }, { accessFlags := 10, nameIndex := 21, descriptorIndex := 22, attributes := #[] }, { accessFlags := 9, nameIndex := 32, descriptorIndex := 33, attributes := #[] }] 49 2 #[] #[])
  fields := #[]
  methods := #[k1m0, k1m1, k1m2, k1m3]
  instanceTypes := #[]
  staticTypes := #[]
  resolved := Array.replicate 38 none
  statics := none }

def pool2 : Array CpInfo := pool [(1, .class_ 2), (0, u "java/io/Serializable"), (0, .class_ 4), (0, u "java/lang/Object")] 2

/-- java/io/Serializable -/
def k2 : Class := { plain "java/io/Serializable" (some 0) with
  accessFlags := 1537
  interfaces := #[]
  cf := some (fileOf pool2 1 #[] #[] 1537 3 #[] #[])
  fields := #[]
  methods := #[]
  instanceTypes := #[]
  staticTypes := #[]
  resolved := Array.replicate 7 none
  statics := none }

def pool3 : Array CpInfo := pool [(1, .class_ 2), (0, u "java/lang/Comparable"), (0, .class_ 4), (0, u "java/lang/Object")] 7

/-- java/lang/Comparable -/
def k3 : Class := { plain "java/lang/Comparable" (some 0) with
  accessFlags := 1537
  interfaces := #[]
  cf := some (fileOf pool3 1 #[] #[] 1537 3 #[] #[])
  fields := #[]
  methods := #[]
  instanceTypes := #[]
  staticTypes := #[]
  resolved := Array.replicate 12 none
  statics := none }

def pool4 : Array CpInfo := pool [(2, .class_ 4), (1, u "java/lang/CharSequence"), (42, .class_ 48), (0, u "java/lang/CharSequence$1CodePointIterator"), (10, .class_ 60), (0, u "java/lang/CharSequence$1CharIterator"), (5, .class_ 67), (0, u "java/lang/Object"), (10, u "toString"), (0, u "()Ljava/lang/String;")] 51

def k4m0 : Method := { name := "toString", desc := "()Ljava/lang/String;", sig := { parameters := [], returnType := some (.object "java/lang/String") }, accessFlags := 1025, code := none }
/-- java/lang/CharSequence -/
def k4 : Class := { plain "java/lang/CharSequence" (some 0) with
  accessFlags := 1537
  interfaces := #[]
  cf := some (fileOf pool4 2 #[.nestMembers #[47, 59]] #[{ accessFlags := 1025, nameIndex := 78, descriptorIndex := 79, attributes := #[] }] 1537 66 #[] #[])
  fields := #[]
  methods := #[k4m0]
  instanceTypes := #[]
  staticTypes := #[]
  resolved := Array.replicate 131 none
  statics := none }

def pool5 : Array CpInfo := pool [(1, .class_ 2), (0, u "java/lang/constant/Constable"), (0, .class_ 4), (0, u "java/lang/Object")] 6

/-- java/lang/constant/Constable -/
def k5 : Class := { plain "java/lang/constant/Constable" (some 0) with
  accessFlags := 1537
  interfaces := #[]
  cf := some (fileOf pool5 1 #[] #[] 1537 3 #[] #[])
  fields := #[]
  methods := #[]
  instanceTypes := #[]
  staticTypes := #[]
  resolved := Array.replicate 11 none
  statics := none }

def pool6 : Array CpInfo := pool [(1, .class_ 2), (0, u "java/lang/constant/ConstantDesc"), (0, .class_ 4), (0, u "java/lang/Object")] 32

/-- java/lang/constant/ConstantDesc -/
def k6 : Class := { plain "java/lang/constant/ConstantDesc" (some 0) with
  accessFlags := 1537
  interfaces := #[]
  cf := some (fileOf pool6 1 #[] #[] 1537 3 #[] #[])
  fields := #[]
  methods := #[]
  instanceTypes := #[]
  staticTypes := #[]
  resolved := Array.replicate 37 none
  statics := none }

def pool7 : Array CpInfo := pool [(1, .methodref 2 3), (0, .class_ 4), (0, .nameAndType 5 6), (0, u "java/lang/Object"), (0, u "<init>"), (0, u "()V"), (0, .string 8), (0, u ""), (0, .fieldref 10 11), (0, .class_ 12), (0, .nameAndType 13 14), (0, u "java/lang/String"), (0, u "value"), (0, u "[B"), (0, .fieldref 10 16), (0, .nameAndType 17 18), (0, u "coder"), (0, u "B"), (2, u "hash"), (0, u "I"), (2, u "hashIsZero"), (0, u "Z"), (0, .methodref 10 28), (0, .nameAndType 5 29), (0, u "([CIILjava/lang/Void;)V"), (8, .fieldref 10 39), (0, .nameAndType 40 26), (0, u "COMPACT_STRINGS"), (1, .class_ 44), (1, u "java/lang/StringUTF16"), (0, u "compress"), (1, .methodref 42 48), (0, .nameAndType 49 50), (0, u "coderFromArrayLen"), (0, u "([BI)B"), (56, .class_ 109), (1, u "java/lang/StringLatin1"), (32, u "()Z"), (34, .methodref 42 178), (0, .nameAndType 45 179), (0, u "([CII)[B"), (155, .methodref 10 336), (0, .nameAndType 17 337), (0, u "()B"), (124, .nameAndType 463 464), (0, u "toString"), (0, u "()Ljava/lang/String;"), (27, .methodref 10 493), (0, .nameAndType 494 142), (0, u "isLatin1"), (53, u "(Ljava/lang/CharSequence;)Z"), (26, .class_ 576), (0, u "java/lang/CharSequence"), (12, u "([B[B)I"), (9, u "CASE_INSENSITIVE_ORDER"), (0, u "Ljava/util/Comparator;"), (34, u "indexOf"), (11, .methodref 107 648), (0, .nameAndType 635 589), (61, .interfaceMethodref 575 462), (0, .methodref 10 712), (0, .nameAndType 635 713), (0, u "(Ljava/lang/String;)I"), (296, u "([C)V"), (90, u "serialPersistentFields"), (0, u "[Ljava/io/ObjectStreamField;"), (0, .class_ 1104), (0, u "java/lang/String$CaseInsensitiveComparator"), (1, .class_ 1107), (0, u "java/io/Serializable"), (0, .class_ 1109), (0, u "java/lang/Comparable"), (0, .class_ 1111), (0, u "java/lang/constant/Constable"), (0, .class_ 1113), (0, u "java/lang/constant/ConstantDesc"), (2, u "serialVersionUID"), (0, u "J"), (3, u "REPL"), (0, u "C"), (2, u "LATIN1"), (1, u "UTF16"), (163, u "contains")] 159

def k7m0 : Method := { name := "<init>", desc := "()V", sig := { parameters := [], returnType := none }, accessFlags := 1, code := none }
def k7c1 : Code := { maxStack := 5, maxLocals := 2, code := jdk_42_method_3_code, exceptionTable := #[], attributes := #[] }
def k7m1 : Method := { name := "<init>", desc := "([C)V", sig := { parameters := [(.array .char)], returnType := none }, accessFlags := 1, code := some k7c1 }
def k7c2 : Code := { maxStack := 2, maxLocals := 3, code := jdk_42_method_84_code, exceptionTable := #[], attributes := #[] }
def k7m2 : Method := { name := "indexOf", desc := "(Ljava/lang/String;)I", sig := { parameters := [(.object "java/lang/String")], returnType := some .int }, accessFlags := 1, code := some k7c2 }
def k7c3 : Code := { maxStack := 2, maxLocals := 2, code := jdk_42_method_97_code, exceptionTable := #[], attributes := #[] }
def k7m3 : Method := { name := "contains", desc := "(Ljava/lang/CharSequence;)Z", sig := { parameters := [(.object "java/lang/CharSequence")], returnType := some .boolean }, accessFlags := 1, code := some k7c3 }
def k7c4 : Code := { maxStack := 1, maxLocals := 1, code := jdk_42_method_126_code, exceptionTable := #[], attributes := #[] }
def k7m4 : Method := { name := "toString", desc := "()Ljava/lang/String;", sig := { parameters := [], returnType := some (.object "java/lang/String") }, accessFlags := 1, code := some k7c4 }
def k7c5 : Code := { maxStack := 4, maxLocals := 6, code := jdk_42_method_149_code, exceptionTable := #[], attributes := #[] }
def k7m5 : Method := { name := "<init>", desc := "([CIILjava/lang/Void;)V", sig := { parameters := [(.array .char), .int, .int, (.object "java/lang/Void")], returnType := none }, accessFlags := 2, code := some k7c5 }
def k7c6 : Code := { maxStack := 1, maxLocals := 1, code := jdk_42_method_152_code, exceptionTable := #[], attributes := #[] }
def k7m6 : Method := { name := "coder", desc := "()B", sig := { parameters := [], returnType := some .byte }, accessFlags := 0, code := some k7c6 }
def k7c7 : Code := { maxStack := 1, maxLocals := 1, code := jdk_42_method_154_code, exceptionTable := #[], attributes := #[] }
def k7m7 : Method := { name := "isLatin1", desc := "()Z", sig := { parameters := [], returnType := some .boolean }, accessFlags := 0, code := some k7c7 }
/-- java/lang/String -/
def k7 : Class := { plain "java/lang/String" (some 0) with
  accessFlags := 49
  interfaces := #[2, 3, 4, 5, 6]
  cf := some (fileOf pool7 10 #[.nestMembers #[1103]] #[{ accessFlags := 1, nameIndex := 5, descriptorIndex := 6, attributes := #[] }, { accessFlags := 1, nameIndex := 5, descriptorIndex := 1010, attributes := #[] }, { accessFlags := 1, nameIndex := 635, descriptorIndex := 713, attributes := #[] }, { accessFlags := 1, nameIndex := 1291, descriptorIndex := 548, attributes := #[] }, { accessFlags := 1, nameIndex := 463, descriptorIndex := 464, attributes := #[] }, { accessFlags := 2, nameIndex := 5, descriptorIndex := 29, attributes := #[] }, { accessFlags := 0, nameIndex := 17, descriptorIndex := 337, attributes := #[] }, { accessFlags := 0, nameIndex := 494, descriptorIndex := 142, attributes := #[] }] 49 2 #[1106, 1108, 575, 1110, 1112] #[{ accessFlags := 18, nameIndex := 13, descriptorIndex := 14, attributes := #[] }, { accessFlags := 18, nameIndex := 17, descriptorIndex := 18, attributes := #[] }, { accessFlags := 2, nameIndex := 21, descriptorIndex := 22, attributes := #[] }, { accessFlags := 2, nameIndex := 25, descriptorIndex := 26, attributes := #[] }, { accessFlags := 26, nameIndex := 1116, descriptorIndex := 1117, attributes := #[] }, { accessFlags := 24, nameIndex := 40, descriptorIndex := 26, attributes := #[] }, { accessFlags := 26, nameIndex := 1101, descriptorIndex := 1102, attributes := #[] }, { accessFlags := 26, nameIndex := 1121, descriptorIndex := 1122, attributes := #[] }, { accessFlags := 25, nameIndex := 599, descriptorIndex := 600, attributes := #[] }, { accessFlags := 24, nameIndex := 1125, descriptorIndex := 18, attributes := #[] }, { accessFlags := 24, nameIndex := 1127, descriptorIndex := 18, attributes := #[] }])
  fields := #[{ name := "value", type := (.array .byte), accessFlags := 18, slot := 0, constantValue := 0 }, { name := "coder", type := .byte, accessFlags := 18, slot := 1, constantValue := 0 }, { name := "hash", type := .int, accessFlags := 2, slot := 2, constantValue := 0 }, { name := "hashIsZero", type := .boolean, accessFlags := 2, slot := 3, constantValue := 0 }, { name := "serialVersionUID", type := .long, accessFlags := 26, slot := 0, constantValue := 0 }, { name := "COMPACT_STRINGS", type := .boolean, accessFlags := 24, slot := 1, constantValue := 0 }, { name := "serialPersistentFields", type := (.array (.object "java/io/ObjectStreamField")), accessFlags := 26, slot := 2, constantValue := 0 }, { name := "REPL", type := .char, accessFlags := 26, slot := 3, constantValue := 0 }, { name := "CASE_INSENSITIVE_ORDER", type := (.object "java/util/Comparator"), accessFlags := 25, slot := 4, constantValue := 0 }, { name := "LATIN1", type := .byte, accessFlags := 24, slot := 5, constantValue := 0 }, { name := "UTF16", type := .byte, accessFlags := 24, slot := 6, constantValue := 0 }]
  methods := #[k7m0, k7m1, k7m2, k7m3, k7m4, k7m5, k7m6, k7m7]
  instanceTypes := #[(.array .byte), .byte, .int, .boolean]
  staticTypes := #[.long, .boolean, (.array (.object "java/io/ObjectStreamField")), .char, (.object "java/util/Comparator"), .byte, .byte]
  resolved := Array.replicate 1451 none
  statics := some 0 }

def pool8 : Array CpInfo := pool [(2, .class_ 4), (1, u "java/lang/Object"), (0, u "<init>"), (0, u "()V"), (1, .class_ 10), (1, u "com/example/guide/guide/io/FlowLanguage"), (0, u "ELEMENTS"), (0, u "Ljava/util/Map;"), (6, .class_ 20), (0, u "com/example/guide/guide/io/FlowLanguage$Element"), (0, .string 22), (0, u "${"), (0, .methodref 24 25), (0, .class_ 26), (0, .nameAndType 27 28), (0, u "java/lang/String"), (0, u "contains"), (0, u "(Ljava/lang/CharSequence;)Z"), (0, .string 30), (0, u "#{"), (9, .class_ 42), (1, u "com/example/guide/guide/io/FlowLanguage$Kind"), (38, u "STATES"), (0, u "Ljava/util/Set;"), (48, u "ACTIONS"), (0, u "Ljava/util/List;"), (59, u "HOOKS"), (75, u "isExpression"), (0, u "(Ljava/lang/String;)Z")] 9

def k8m0 : Method := { name := "<init>", desc := "()V", sig := { parameters := [], returnType := none }, accessFlags := 2, code := none }
def k8c1 : Code := { maxStack := 2, maxLocals := 1, code := prog_27_method_3_code, exceptionTable := #[], attributes := #[] }
def k8m1 : Method := { name := "isExpression", desc := "(Ljava/lang/String;)Z", sig := { parameters := [(.object "java/lang/String")], returnType := some .boolean }, accessFlags := 8, code := some k8c1 }
/-- com/example/guide/guide/io/FlowLanguage -/
def k8 : Class := { plain "com/example/guide/guide/io/FlowLanguage" (some 0) with
  accessFlags := 48
  interfaces := #[]
  cf := some (fileOf pool8 8 #[.nestMembers #[19, 40]] #[{ accessFlags := 2, nameIndex := 5, descriptorIndex := 6, attributes := #[] }, { accessFlags := 8, nameIndex := 268, descriptorIndex := 269, attributes := #[] }] 48 2 #[] #[{ accessFlags := 24, nameIndex := 81, descriptorIndex := 82, attributes := #[] }, { accessFlags := 26, nameIndex := 131, descriptorIndex := 132, attributes := #[] }, { accessFlags := 26, nameIndex := 192, descriptorIndex := 132, attributes := #[] }, { accessFlags := 26, nameIndex := 11, descriptorIndex := 12, attributes := #[] }])
  fields := #[{ name := "STATES", type := (.object "java/util/Set"), accessFlags := 24, slot := 0, constantValue := 0 }, { name := "ACTIONS", type := (.object "java/util/List"), accessFlags := 26, slot := 1, constantValue := 0 }, { name := "HOOKS", type := (.object "java/util/List"), accessFlags := 26, slot := 2, constantValue := 0 }, { name := "ELEMENTS", type := (.object "java/util/Map"), accessFlags := 26, slot := 3, constantValue := 0 }]
  methods := #[k8m0, k8m1]
  instanceTypes := #[]
  staticTypes := #[(.object "java/util/Set"), (.object "java/util/List"), (.object "java/util/List"), (.object "java/util/Map")]
  resolved := Array.replicate 279 none
  statics := none }

def pool9 : Array CpInfo := pool [(4, .class_ 6), (1, u "java/lang/Object"), (0, u "<init>"), (0, u "()V"), (5, .class_ 16), (1, u "java/lang/StringLatin1"), (82, .methodref 14 100), (0, .nameAndType 101 102), (0, u "indexOf"), (0, u "([BI[BII)I"), (18, u "$assertionsDisabled"), (0, u "Z"), (98, .class_ 223), (1, u "java/lang/StringLatin1$LinesSpliterator"), (63, u "([B[B)I"), (102, .class_ 391), (0, u "java/lang/StringLatin1$CharsSpliterator")] 3

def k9m0 : Method := { name := "<init>", desc := "()V", sig := { parameters := [], returnType := none }, accessFlags := 0, code := none }
def k9c1 : Code := { maxStack := 5, maxLocals := 2, code := jdk_43_method_24_code, exceptionTable := #[], attributes := #[] }
def k9m1 : Method := { name := "indexOf", desc := "([B[B)I", sig := { parameters := [(.array .byte), (.array .byte)], returnType := some .int }, accessFlags := 9, code := some k9c1 }
def k9c2 : Code := { maxStack := 3, maxLocals := 11, code := jdk_43_method_25_code, exceptionTable := #[], attributes := #[] }
def k9m2 : Method := { name := "indexOf", desc := "([BI[BII)I", sig := { parameters := [(.array .byte), .int, (.array .byte), .int, .int], returnType := some .int }, accessFlags := 9, code := some k9c2 }
/-- java/lang/StringLatin1 -/
def k9 : Class := { plain "java/lang/StringLatin1" (some 0) with
  accessFlags := 48
  interfaces := #[]
  cf := some (fileOf pool9 14 #[.nestMembers #[390, 221]] #[{ accessFlags := 0, nameIndex := 7, descriptorIndex := 8, attributes := #[] }, { accessFlags := 9, nameIndex := 101, descriptorIndex := 287, attributes := #[] }, { accessFlags := 9, nameIndex := 101, descriptorIndex := 102, attributes := #[] }] 48 4 #[] #[{ accessFlags := 4120, nameIndex := 121, descriptorIndex := 122, attributes := #[] }])
  fields := #[{ name := "$assertionsDisabled", type := .boolean, accessFlags := 4120, slot := 0, constantValue := 0 }]
  methods := #[k9m0, k9m1, k9m2]
  instanceTypes := #[]
  staticTypes := #[.boolean]
  resolved := Array.replicate 395 none
  statics := none }

def pool10 : Array CpInfo := pool [(6, .class_ 8), (1, u "java/lang/Object"), (0, u "<init>"), (0, u "()V"), (1, .class_ 14), (1, u "java/lang/StringUTF16"), (31, u "$assertionsDisabled"), (0, u "Z"), (13, u "HI_BYTE_SHIFT"), (0, u "I"), (2, u "LO_BYTE_SHIFT"), (49, .methodref 12 116), (0, .nameAndType 117 118), (0, u "compress"), (0, u "([CI[BII)I"), (3, u "([CII)[B"), (138, u "coderFromArrayLen"), (0, u "([BI)B"), (106, .class_ 371), (1, u "java/lang/StringUTF16$LinesSpliterator"), (58, u "MAX_LENGTH"), (196, .class_ 628), (0, u "java/lang/StringUTF16$CodePointsSpliterator"), (0, .class_ 630), (0, u "java/lang/StringUTF16$CharsSpliterator")] 4

def k10m0 : Method := { name := "<init>", desc := "()V", sig := { parameters := [], returnType := none }, accessFlags := 0, code := none }
def k10c1 : Code := { maxStack := 2, maxLocals := 2, code := jdk_52_method_15_code, exceptionTable := #[], attributes := #[] }
def k10m1 : Method := { name := "coderFromArrayLen", desc := "([BI)B", sig := { parameters := [(.array .byte), .int], returnType := some .byte }, accessFlags := 8, code := some k10c1 }
def k10c2 : Code := { maxStack := 5, maxLocals := 6, code := jdk_52_method_16_code, exceptionTable := #[], attributes := #[] }
def k10m2 : Method := { name := "compress", desc := "([CII)[B", sig := { parameters := [(.array .char), .int, .int], returnType := some (.array .byte) }, accessFlags := 9, code := some k10c2 }
def k10c3 : Code := { maxStack := 3, maxLocals := 7, code := jdk_52_method_21_code, exceptionTable := #[], attributes := #[] }
def k10m3 : Method := { name := "compress", desc := "([CI[BII)I", sig := { parameters := [(.array .char), .int, (.array .byte), .int, .int], returnType := some .int }, accessFlags := 9, code := some k10c3 }
/-- java/lang/StringUTF16 -/
def k10 : Class := { plain "java/lang/StringUTF16" (some 0) with
  accessFlags := 48
  interfaces := #[]
  cf := some (fileOf pool10 12 #[.nestMembers #[627, 629, 369]] #[{ accessFlags := 0, nameIndex := 9, descriptorIndex := 10, attributes := #[] }, { accessFlags := 8, nameIndex := 261, descriptorIndex := 262, attributes := #[] }, { accessFlags := 9, nameIndex := 117, descriptorIndex := 122, attributes := #[] }, { accessFlags := 9, nameIndex := 117, descriptorIndex := 118, attributes := #[] }] 48 6 #[] #[{ accessFlags := 26, nameIndex := 61, descriptorIndex := 62, attributes := #[] }, { accessFlags := 26, nameIndex := 65, descriptorIndex := 62, attributes := #[] }, { accessFlags := 24, nameIndex := 430, descriptorIndex := 62, attributes := #[] }, { accessFlags := 4120, nameIndex := 46, descriptorIndex := 47, attributes := #[] }])
  fields := #[{ name := "HI_BYTE_SHIFT", type := .int, accessFlags := 26, slot := 0, constantValue := 0 }, { name := "LO_BYTE_SHIFT", type := .int, accessFlags := 26, slot := 1, constantValue := 0 }, { name := "MAX_LENGTH", type := .int, accessFlags := 24, slot := 2, constantValue := 0 }, { name := "$assertionsDisabled", type := .boolean, accessFlags := 4120, slot := 3, constantValue := 0 }]
  methods := #[k10m0, k10m1, k10m2, k10m3]
  instanceTypes := #[]
  staticTypes := #[.int, .int, .int, .boolean]
  resolved := Array.replicate 635 none
  statics := none }

def pool11 : Array CpInfo := pool [(2, .class_ 4), (1, u "java/lang/Object"), (0, u "<init>"), (0, u "()V"), (17, .class_ 26), (1, u "jdk/internal/util/Preconditions"), (28, .class_ 56), (0, u "jdk/internal/util/Preconditions$4"), (57, .class_ 115), (0, u "jdk/internal/util/Preconditions$1"), (7, u "SIOOBE_FORMATTER"), (0, u "Ljava/util/function/BiFunction;"), (0, .class_ 126), (0, u "jdk/internal/util/Preconditions$2"), (3, u "AIOOBE_FORMATTER"), (0, .class_ 132), (0, u "jdk/internal/util/Preconditions$3"), (3, u "IOOBE_FORMATTER")] 57

def k11m0 : Method := { name := "<init>", desc := "()V", sig := { parameters := [], returnType := none }, accessFlags := 1, code := none }
/-- jdk/internal/util/Preconditions -/
def k11 : Class := { plain "jdk/internal/util/Preconditions" (some 0) with
  accessFlags := 33
  interfaces := #[]
  cf := some (fileOf pool11 24 #[.nestMembers #[55, 131, 125, 114]] #[{ accessFlags := 1, nameIndex := 5, descriptorIndex := 6, attributes := #[] }] 33 2 #[] #[{ accessFlags := 25, nameIndex := 123, descriptorIndex := 124, attributes := #[] }, { accessFlags := 25, nameIndex := 130, descriptorIndex := 124, attributes := #[] }, { accessFlags := 25, nameIndex := 136, descriptorIndex := 124, attributes := #[] }])
  fields := #[{ name := "SIOOBE_FORMATTER", type := (.object "java/util/function/BiFunction"), accessFlags := 25, slot := 0, constantValue := 0 }, { name := "AIOOBE_FORMATTER", type := (.object "java/util/function/BiFunction"), accessFlags := 25, slot := 1, constantValue := 0 }, { name := "IOOBE_FORMATTER", type := (.object "java/util/function/BiFunction"), accessFlags := 25, slot := 2, constantValue := 0 }]
  methods := #[k11m0]
  instanceTypes := #[]
  staticTypes := #[(.object "java/util/function/BiFunction"), (.object "java/util/function/BiFunction"), (.object "java/util/function/BiFunction")]
  resolved := Array.replicate 194 none
  statics := some 1 }

def pool12 : Array CpInfo := pool [(9, u "<init>"), (6, .class_ 18), (1, u "java/lang/Object"), (0, u "()V"), (1, .class_ 23), (1, u "jdk/internal/util/ArraysSupport"), (0, u "LOG2_ARRAY_LONG_INDEX_SCALE"), (0, u "I"), (2, u "U"), (0, u "Ljdk/internal/misc/Unsafe;"), (8, u "BIG_ENDIAN"), (0, u "Z"), (8, u "LOG2_BYTE_BIT_SIZE"), (4, u "LOG2_ARRAY_INT_INDEX_SCALE"), (54, u "JLA"), (0, u "Ljdk/internal/access/JavaLangAccess;"), (11, u "LOG2_ARRAY_BOOLEAN_INDEX_SCALE"), (9, u "LOG2_ARRAY_BYTE_INDEX_SCALE"), (5, u "LOG2_ARRAY_CHAR_INDEX_SCALE"), (5, u "LOG2_ARRAY_SHORT_INDEX_SCALE"), (18, u "LOG2_ARRAY_FLOAT_INDEX_SCALE"), (24, u "LOG2_ARRAY_DOUBLE_INDEX_SCALE"), (89, u "T_BOOLEAN"), (2, u "T_CHAR"), (1, u "T_FLOAT"), (1, u "T_DOUBLE"), (1, u "T_BYTE"), (1, u "T_SHORT"), (1, u "T_INT"), (1, u "T_LONG"), (1, u "SOFT_MAX_ARRAY_LENGTH")] 83

def k12m0 : Method := { name := "<init>", desc := "()V", sig := { parameters := [], returnType := none }, accessFlags := 2, code := none }
/-- jdk/internal/util/ArraysSupport -/
def k12 : Class := { plain "jdk/internal/util/ArraysSupport" (some 0) with
  accessFlags := 33
  interfaces := #[]
  cf := some (fileOf pool12 21 #[] #[{ accessFlags := 2, nameIndex := 9, descriptorIndex := 19, attributes := #[] }] 33 16 #[] #[{ accessFlags := 24, nameIndex := 28, descriptorIndex := 29, attributes := #[] }, { accessFlags := 26, nameIndex := 38, descriptorIndex := 39, attributes := #[] }, { accessFlags := 25, nameIndex := 121, descriptorIndex := 25, attributes := #[] }, { accessFlags := 25, nameIndex := 131, descriptorIndex := 25, attributes := #[] }, { accessFlags := 25, nameIndex := 137, descriptorIndex := 25, attributes := #[] }, { accessFlags := 25, nameIndex := 143, descriptorIndex := 25, attributes := #[] }, { accessFlags := 25, nameIndex := 53, descriptorIndex := 25, attributes := #[] }, { accessFlags := 25, nameIndex := 24, descriptorIndex := 25, attributes := #[] }, { accessFlags := 25, nameIndex := 162, descriptorIndex := 25, attributes := #[] }, { accessFlags := 25, nameIndex := 187, descriptorIndex := 25, attributes := #[] }, { accessFlags := 26, nameIndex := 48, descriptorIndex := 25, attributes := #[] }, { accessFlags := 25, nameIndex := 277, descriptorIndex := 25, attributes := #[] }, { accessFlags := 25, nameIndex := 280, descriptorIndex := 25, attributes := #[] }, { accessFlags := 25, nameIndex := 282, descriptorIndex := 25, attributes := #[] }, { accessFlags := 25, nameIndex := 284, descriptorIndex := 25, attributes := #[] }, { accessFlags := 25, nameIndex := 286, descriptorIndex := 25, attributes := #[] }, { accessFlags := 25, nameIndex := 288, descriptorIndex := 25, attributes := #[] }, { accessFlags := 25, nameIndex := 290, descriptorIndex := 25, attributes := #[] }, { accessFlags := 25, nameIndex := 292, descriptorIndex := 25, attributes := #[] }, { accessFlags := 26, nameIndex := 108, descriptorIndex := 109, attributes := #[] }, { accessFlags := 25, nameIndex := 294, descriptorIndex := 25, attributes := #[] }])
  fields := #[{ name := "U", type := (.object "jdk/internal/misc/Unsafe"), accessFlags := 24, slot := 0, constantValue := 0 }, { name := "BIG_ENDIAN", type := .boolean, accessFlags := 26, slot := 1, constantValue := 0 }, { name := "LOG2_ARRAY_BOOLEAN_INDEX_SCALE", type := .int, accessFlags := 25, slot := 2, constantValue := 0 }, { name := "LOG2_ARRAY_BYTE_INDEX_SCALE", type := .int, accessFlags := 25, slot := 3, constantValue := 0 }, { name := "LOG2_ARRAY_CHAR_INDEX_SCALE", type := .int, accessFlags := 25, slot := 4, constantValue := 0 }, { name := "LOG2_ARRAY_SHORT_INDEX_SCALE", type := .int, accessFlags := 25, slot := 5, constantValue := 0 }, { name := "LOG2_ARRAY_INT_INDEX_SCALE", type := .int, accessFlags := 25, slot := 6, constantValue := 0 }, { name := "LOG2_ARRAY_LONG_INDEX_SCALE", type := .int, accessFlags := 25, slot := 7, constantValue := 0 }, { name := "LOG2_ARRAY_FLOAT_INDEX_SCALE", type := .int, accessFlags := 25, slot := 8, constantValue := 0 }, { name := "LOG2_ARRAY_DOUBLE_INDEX_SCALE", type := .int, accessFlags := 25, slot := 9, constantValue := 0 }, { name := "LOG2_BYTE_BIT_SIZE", type := .int, accessFlags := 26, slot := 10, constantValue := 0 }, { name := "T_BOOLEAN", type := .int, accessFlags := 25, slot := 11, constantValue := 0 }, { name := "T_CHAR", type := .int, accessFlags := 25, slot := 12, constantValue := 0 }, { name := "T_FLOAT", type := .int, accessFlags := 25, slot := 13, constantValue := 0 }, { name := "T_DOUBLE", type := .int, accessFlags := 25, slot := 14, constantValue := 0 }, { name := "T_BYTE", type := .int, accessFlags := 25, slot := 15, constantValue := 0 }, { name := "T_SHORT", type := .int, accessFlags := 25, slot := 16, constantValue := 0 }, { name := "T_INT", type := .int, accessFlags := 25, slot := 17, constantValue := 0 }, { name := "T_LONG", type := .int, accessFlags := 25, slot := 18, constantValue := 0 }, { name := "JLA", type := (.object "jdk/internal/access/JavaLangAccess"), accessFlags := 26, slot := 19, constantValue := 0 }, { name := "SOFT_MAX_ARRAY_LENGTH", type := .int, accessFlags := 25, slot := 20, constantValue := 0 }]
  methods := #[k12m0]
  instanceTypes := #[]
  staticTypes := #[(.object "jdk/internal/misc/Unsafe"), .boolean, .int, .int, .int, .int, .int, .int, .int, .int, .int, .int, .int, .int, .int, .int, .int, .int, .int, (.object "jdk/internal/access/JavaLangAccess"), .int]
  resolved := Array.replicate 378 none
  statics := none }

def pool13 : Array CpInfo := pool [(1, u "java/lang/Cloneable"), (0, .class_ 1), (0, u "java/lang/Object"), (0, .class_ 3)] 3

/-- java/lang/Cloneable -/
def k13 : Class := { plain "java/lang/Cloneable" (some 0) with
  accessFlags := 1537
  interfaces := #[]
  cf := some (fileOf pool13 2 #[] #[] 1537 4 #[] #[])
  fields := #[]
  methods := #[]
  instanceTypes := #[]
  staticTypes := #[]
  resolved := Array.replicate 8 none
  statics := none }

/-- the primitive byte -/
def k14 : Class := { plain "byte" none with kind := .primitive 'B', accessFlags := 0x411 }
/-- [B -/
def k15 : Class := { plain "[B" (some 0) with kind := .array 14 .byte, interfaces := #[13, 2], accessFlags := 1041 }

/-- the primitive char -/
def k16 : Class := { plain "char" none with kind := .primitive 'C', accessFlags := 0x411 }
/-- [C -/
def k17 : Class := { plain "[C" (some 0) with kind := .array 16 .char, interfaces := #[13, 2], accessFlags := 1041 }

/-- the primitive int -/
def k18 : Class := { plain "int" none with kind := .primitive 'I', accessFlags := 0x411 }
/-- [I -/
def k19 : Class := { plain "[I" (some 0) with kind := .array 18 .int, interfaces := #[13, 2], accessFlags := 1041 }

def heap : Heap := #[{ cls := 7, slots := #[.long 0, .int 1, .null, .int 0, .null, .int 0, .int 0], vm := .statics 7 },
  { cls := 11, slots := #[.null, .null, .null], vm := .statics 11 }]
def classes : Array Class := #[k0, k1, k2, k3, k4, k5, k6, k7, k8, k9, k10, k11, k12, k13, k14, k15, k16, k17, k18, k19]
def interned : List (Array UInt16 × Addr) := []
def slotsUsed : Nat := 10
def theMethod : MethodId := ⟨1, 3⟩
def args0 : Array Value := #[.int 5, .int 6, .int 7, .int 8, .int 9, .int 10]
def aboutOver (below : List Frame) : State where
  vm := { classes := classes, interned := interned.toArray }
  heap := heap
  slotsUsed := slotsUsed
  threads := #[{ frames := .invoking theMethod args0 :: below }]
def below0 : List Frame := [.native { method := ⟨0, 0⟩, args := #[] }]
def about1 : State := aboutOver below0
def p0 : Program := .bare "" "" ""
def e0 : Env := launch0.env 0 0 0
theorem w_frames : about1.frames = Frame.invoking theMethod args0 :: below0 := rfl
set_option maxRecDepth 65536 in
theorem w_args : argsFit about1.vm theMethod args0 = true := by decide +kernel
set_option maxRecDepth 65536 in
theorem w_heap : heapFits about1 = true := by decide +kernel
set_option maxRecDepth 65536 in
theorem w_runnable : about1.curStatus? = some .runnable := by decide +kernel
set_option maxRecDepth 65536 in
theorem w_alone : about1.alone = true := by decide +kernel
set_option maxRecDepth 65536 in
theorem w_named : about1.methodNamed? x = some theMethod := by decide +kernel
set_option maxRecDepth 65536 in
theorem w_hears : about1.hears theMethod below0 = true := by decide +kernel
set_option maxRecDepth 65536 in
theorem w_ripe : about1.ripe theMethod args0 below0 = true := by decide +kernel
theorem w_running : about1.status = .running := rfl
set_option maxRecDepth 65536 in
theorem w_room : about1.hasRoom e0.platform room_1 = true :=
  launch0.hasRoom_least _ room_1 (by decide +kernel) (by decide +kernel) (by decide +kernel) (by decide +kernel) (by decide +kernel) (by decide +kernel)
theorem allAtoms_all (ts : List Jvm.Cond) (a : Array Jvm.Value) (st : Jvm.State) : (allAtoms ts).before a st = ts.all (fun c => c.before a st) := by
  induction ts with
  | nil => rfl
  | cons c t ih =>
    show (Jvm.Cond.and c (allAtoms t)).before a st = _
    rw [Jvm.Cond.before_and, ih, List.all_cons]
def words1 : List Jvm.Cond := Jvm.Cond.code x code maxLocals ret :: tables_1
/-- a 'code' word, met by the world's own term for the bytes: nothing is compared byte by byte -/
theorem code_word {y : MethodName} {bytes : ByteArray} {mx : Nat} {rt : Option FieldType} {a : Array Value} {s : State} {m : MethodId} {meth : Method} {c : Code} (h1 : s.methodNamed? y = some m) (h2 : s.vm.method? m = some meth) (h3 : meth.code = some c) (h4 : c.code = bytes)
    (h5 : (c.maxLocals == mx && c.exceptionTable.isEmpty && decide (c.maxStack ≤ mostOperands) && decide (meth.sig.returnType = rt) && !meth.locks && decide (parseMethodDescriptor y.desc = some meth.sig)) = true) : (Jvm.Cond.code y bytes mx rt).before a s = true := by
  simp only [Bool.and_eq_true, beq_iff_eq, Bool.not_eq_true', decide_eq_true_eq] at h5
  obtain ⟨⟨⟨⟨⟨g1, g2⟩, g3⟩, g4⟩, g5⟩, g6⟩ := h5
  simp [Cond.before, Cond.holds, Cond.value, h1, h2, h3, h4, g1, g2, g3, g4, g5, g6]
def isCode : Jvm.Cond → Bool
  | .code _ _ _ _ => true
  | _ => false
theorem all_split {L : List Jvm.Cond} {P : Jvm.Cond → Bool} (h1 : L.all (fun c => isCode c || P c) = true) (h2 : ∀ c ∈ L.filter isCode, P c = true) : L.all P = true := by
  refine List.all_eq_true.mpr fun c hc => ?_
  have h := List.all_eq_true.mp h1 c hc
  rcases Bool.eq_false_or_eq_true (isCode c) with hi | hi
  · exact h2 c (List.mem_filter.mpr ⟨hc, hi⟩)
  · simpa [hi] using h
set_option maxRecDepth 65536 in
theorem w_c0 : (Jvm.Cond.code x code maxLocals ret).before args0 about1 = true := code_word (m := ⟨1, 3⟩) (meth := k1m3) (c := k1c3) (by decide +kernel) rfl rfl rfl (by decide +kernel)
set_option maxRecDepth 65536 in
theorem w_c1 : (Jvm.Cond.code ({ cls := "com/example/guide/guide/io/FlowLanguageIsExpressionPinLaw", name := "ch", desc := "(I)C" } : Jvm.MethodName) method_2_code (2 : Nat) (Option.some Jvm.ClassFile.FieldType.char)).before args0 about1 = true := code_word (m := ⟨1, 1⟩) (meth := k1m1) (c := k1c1) (by decide +kernel) rfl rfl rfl (by decide +kernel)
set_option maxRecDepth 65536 in
theorem w_c2 : (Jvm.Cond.code ({ cls := "java/lang/String", name := "<init>", desc := "([C)V" } : Jvm.MethodName) jdk_42_method_3_code (2 : Nat) (Option.none : Option Jvm.ClassFile.FieldType)).before args0 about1 = true := code_word (m := ⟨7, 1⟩) (meth := k7m1) (c := k7c1) (by decide +kernel) rfl rfl rfl (by decide +kernel)
set_option maxRecDepth 65536 in
theorem w_c3 : (Jvm.Cond.code ({ cls := "java/lang/String", name := "<init>", desc := "([CIILjava/lang/Void;)V" } : Jvm.MethodName) jdk_42_method_149_code (6 : Nat) (Option.none : Option Jvm.ClassFile.FieldType)).before args0 about1 = true := code_word (m := ⟨7, 5⟩) (meth := k7m5) (c := k7c5) (by decide +kernel) rfl rfl rfl (by decide +kernel)
set_option maxRecDepth 65536 in
theorem w_c4 : (Jvm.Cond.code ({ cls := "java/lang/Object", name := "<init>", desc := "()V" } : Jvm.MethodName) object_method_1_code (1 : Nat) (Option.none : Option Jvm.ClassFile.FieldType)).before args0 about1 = true := code_word (m := ⟨0, 0⟩) (meth := k0m0) (c := k0c0) (by decide +kernel) rfl rfl rfl (by decide +kernel)
set_option maxRecDepth 65536 in
theorem w_c5 : (Jvm.Cond.code ({ cls := "com/example/guide/guide/io/FlowLanguage", name := "isExpression", desc := "(Ljava/lang/String;)Z" } : Jvm.MethodName) prog_27_method_3_code (1 : Nat) (Option.some Jvm.ClassFile.FieldType.boolean)).before args0 about1 = true := code_word (m := ⟨8, 1⟩) (meth := k8m1) (c := k8c1) (by decide +kernel) rfl rfl rfl (by decide +kernel)
set_option maxRecDepth 65536 in
theorem w_c6 : (Jvm.Cond.code ({ cls := "java/lang/String", name := "contains", desc := "(Ljava/lang/CharSequence;)Z" } : Jvm.MethodName) jdk_42_method_97_code (2 : Nat) (Option.some Jvm.ClassFile.FieldType.boolean)).before args0 about1 = true := code_word (m := ⟨7, 3⟩) (meth := k7m3) (c := k7c3) (by decide +kernel) rfl rfl rfl (by decide +kernel)
set_option maxRecDepth 65536 in
theorem w_c7 : (Jvm.Cond.code ({ cls := "java/lang/String", name := "toString", desc := "()Ljava/lang/String;" } : Jvm.MethodName) jdk_42_method_126_code (1 : Nat) (Option.some (Jvm.ClassFile.FieldType.object "java/lang/String"))).before args0 about1 = true := code_word (m := ⟨7, 4⟩) (meth := k7m4) (c := k7c4) (by decide +kernel) rfl rfl rfl (by decide +kernel)
set_option maxRecDepth 65536 in
theorem w_c8 : (Jvm.Cond.code ({ cls := "java/lang/String", name := "indexOf", desc := "(Ljava/lang/String;)I" } : Jvm.MethodName) jdk_42_method_84_code (3 : Nat) (Option.some Jvm.ClassFile.FieldType.int)).before args0 about1 = true := code_word (m := ⟨7, 2⟩) (meth := k7m2) (c := k7c2) (by decide +kernel) rfl rfl rfl (by decide +kernel)
set_option maxRecDepth 65536 in
theorem w_c9 : (Jvm.Cond.code ({ cls := "java/lang/String", name := "coder", desc := "()B" } : Jvm.MethodName) jdk_42_method_152_code (1 : Nat) (Option.some Jvm.ClassFile.FieldType.byte)).before args0 about1 = true := code_word (m := ⟨7, 6⟩) (meth := k7m6) (c := k7c6) (by decide +kernel) rfl rfl rfl (by decide +kernel)
set_option maxRecDepth 65536 in
theorem w_c10 : (Jvm.Cond.code ({ cls := "java/lang/String", name := "isLatin1", desc := "()Z" } : Jvm.MethodName) jdk_42_method_154_code (1 : Nat) (Option.some Jvm.ClassFile.FieldType.boolean)).before args0 about1 = true := code_word (m := ⟨7, 7⟩) (meth := k7m7) (c := k7c7) (by decide +kernel) rfl rfl rfl (by decide +kernel)
set_option maxRecDepth 65536 in
theorem w_c11 : (Jvm.Cond.code ({ cls := "java/lang/StringLatin1", name := "indexOf", desc := "([B[B)I" } : Jvm.MethodName) jdk_43_method_24_code (2 : Nat) (Option.some Jvm.ClassFile.FieldType.int)).before args0 about1 = true := code_word (m := ⟨9, 1⟩) (meth := k9m1) (c := k9c1) (by decide +kernel) rfl rfl rfl (by decide +kernel)
set_option maxRecDepth 65536 in
theorem w_c12 : (Jvm.Cond.code ({ cls := "java/lang/StringUTF16", name := "compress", desc := "([CII)[B" } : Jvm.MethodName) jdk_52_method_16_code (6 : Nat) (Option.some (Jvm.ClassFile.FieldType.array Jvm.ClassFile.FieldType.byte))).before args0 about1 = true := code_word (m := ⟨10, 2⟩) (meth := k10m2) (c := k10c2) (by decide +kernel) rfl rfl rfl (by decide +kernel)
set_option maxRecDepth 65536 in
theorem w_c13 : (Jvm.Cond.code ({ cls := "java/lang/StringUTF16", name := "compress", desc := "([CI[BII)I" } : Jvm.MethodName) jdk_52_method_21_code (7 : Nat) (Option.some Jvm.ClassFile.FieldType.int)).before args0 about1 = true := code_word (m := ⟨10, 3⟩) (meth := k10m3) (c := k10c3) (by decide +kernel) rfl rfl rfl (by decide +kernel)
set_option maxRecDepth 65536 in
theorem w_c14 : (Jvm.Cond.code ({ cls := "java/lang/StringUTF16", name := "coderFromArrayLen", desc := "([BI)B" } : Jvm.MethodName) jdk_52_method_15_code (2 : Nat) (Option.some Jvm.ClassFile.FieldType.byte)).before args0 about1 = true := code_word (m := ⟨10, 1⟩) (meth := k10m1) (c := k10c1) (by decide +kernel) rfl rfl rfl (by decide +kernel)
set_option maxRecDepth 65536 in
theorem w_c15 : (Jvm.Cond.code ({ cls := "com/example/guide/guide/io/FlowLanguageIsExpressionPinLaw", name := "opens", desc := "(CC)Z" } : Jvm.MethodName) method_3_code (2 : Nat) (Option.some Jvm.ClassFile.FieldType.boolean)).before args0 about1 = true := code_word (m := ⟨1, 2⟩) (meth := k1m2) (c := k1c2) (by decide +kernel) rfl rfl rfl (by decide +kernel)
set_option maxRecDepth 65536 in
theorem w_c16 : (Jvm.Cond.code ({ cls := "java/lang/StringLatin1", name := "indexOf", desc := "([BI[BII)I" } : Jvm.MethodName) jdk_43_method_25_code (11 : Nat) (Option.some Jvm.ClassFile.FieldType.int)).before args0 about1 = true := code_word (m := ⟨9, 2⟩) (meth := k9m2) (c := k9c2) (by decide +kernel) rfl rfl rfl (by decide +kernel)
def codes1 : List Jvm.Cond := [Jvm.Cond.code x code maxLocals ret, Jvm.Cond.code ({ cls := "com/example/guide/guide/io/FlowLanguageIsExpressionPinLaw", name := "ch", desc := "(I)C" } : Jvm.MethodName) method_2_code (2 : Nat) (Option.some Jvm.ClassFile.FieldType.char), Jvm.Cond.code ({ cls := "java/lang/String", name := "<init>", desc := "([C)V" } : Jvm.MethodName) jdk_42_method_3_code (2 : Nat) (Option.none : Option Jvm.ClassFile.FieldType), Jvm.Cond.code ({ cls := "java/lang/String", name := "<init>", desc := "([CIILjava/lang/Void;)V" } : Jvm.MethodName) jdk_42_method_149_code (6 : Nat) (Option.none : Option Jvm.ClassFile.FieldType), Jvm.Cond.code ({ cls := "java/lang/Object", name := "<init>", desc := "()V" } : Jvm.MethodName) object_method_1_code (1 : Nat) (Option.none : Option Jvm.ClassFile.FieldType), Jvm.Cond.code ({ cls := "com/example/guide/guide/io/FlowLanguage", name := "isExpression", desc := "(Ljava/lang/String;)Z" } : Jvm.MethodName) prog_27_method_3_code (1 : Nat) (Option.some Jvm.ClassFile.FieldType.boolean), Jvm.Cond.code ({ cls := "java/lang/String", name := "contains", desc := "(Ljava/lang/CharSequence;)Z" } : Jvm.MethodName) jdk_42_method_97_code (2 : Nat) (Option.some Jvm.ClassFile.FieldType.boolean), Jvm.Cond.code ({ cls := "java/lang/String", name := "toString", desc := "()Ljava/lang/String;" } : Jvm.MethodName) jdk_42_method_126_code (1 : Nat) (Option.some (Jvm.ClassFile.FieldType.object "java/lang/String")), Jvm.Cond.code ({ cls := "java/lang/String", name := "indexOf", desc := "(Ljava/lang/String;)I" } : Jvm.MethodName) jdk_42_method_84_code (3 : Nat) (Option.some Jvm.ClassFile.FieldType.int), Jvm.Cond.code ({ cls := "java/lang/String", name := "coder", desc := "()B" } : Jvm.MethodName) jdk_42_method_152_code (1 : Nat) (Option.some Jvm.ClassFile.FieldType.byte), Jvm.Cond.code ({ cls := "java/lang/String", name := "isLatin1", desc := "()Z" } : Jvm.MethodName) jdk_42_method_154_code (1 : Nat) (Option.some Jvm.ClassFile.FieldType.boolean), Jvm.Cond.code ({ cls := "java/lang/StringLatin1", name := "indexOf", desc := "([B[B)I" } : Jvm.MethodName) jdk_43_method_24_code (2 : Nat) (Option.some Jvm.ClassFile.FieldType.int), Jvm.Cond.code ({ cls := "java/lang/StringUTF16", name := "compress", desc := "([CII)[B" } : Jvm.MethodName) jdk_52_method_16_code (6 : Nat) (Option.some (Jvm.ClassFile.FieldType.array Jvm.ClassFile.FieldType.byte)), Jvm.Cond.code ({ cls := "java/lang/StringUTF16", name := "compress", desc := "([CI[BII)I" } : Jvm.MethodName) jdk_52_method_21_code (7 : Nat) (Option.some Jvm.ClassFile.FieldType.int), Jvm.Cond.code ({ cls := "java/lang/StringUTF16", name := "coderFromArrayLen", desc := "([BI)B" } : Jvm.MethodName) jdk_52_method_15_code (2 : Nat) (Option.some Jvm.ClassFile.FieldType.byte), Jvm.Cond.code ({ cls := "com/example/guide/guide/io/FlowLanguageIsExpressionPinLaw", name := "opens", desc := "(CC)Z" } : Jvm.MethodName) method_3_code (2 : Nat) (Option.some Jvm.ClassFile.FieldType.boolean), Jvm.Cond.code ({ cls := "java/lang/StringLatin1", name := "indexOf", desc := "([BI[BII)I" } : Jvm.MethodName) jdk_43_method_25_code (11 : Nat) (Option.some Jvm.ClassFile.FieldType.int)]
set_option maxRecDepth 65536 in
theorem codes_eq : words1.filter isCode = codes1 := rfl
theorem w_codes : ∀ c ∈ words1.filter isCode, c.before args0 about1 = true := by
  rw [codes_eq]
  intro c hc
  simp only [codes1, List.mem_cons, List.not_mem_nil, or_false] at hc
  rcases hc with rfl | rfl | rfl | rfl | rfl | rfl | rfl | rfl | rfl | rfl | rfl | rfl | rfl | rfl | rfl | rfl | rfl
  · exact w_c0
  · exact w_c1
  · exact w_c2
  · exact w_c3
  · exact w_c4
  · exact w_c5
  · exact w_c6
  · exact w_c7
  · exact w_c8
  · exact w_c9
  · exact w_c10
  · exact w_c11
  · exact w_c12
  · exact w_c13
  · exact w_c14
  · exact w_c15
  · exact w_c16
set_option maxRecDepth 65536 in
theorem w_t1 : (words1.take 24).all (fun c => isCode c || c.before args0 about1) = true := by decide +kernel
set_option maxRecDepth 65536 in
theorem w_t2 : ((words1.drop 24).take 24).all (fun c => isCode c || c.before args0 about1) = true := by decide +kernel
set_option maxRecDepth 65536 in
theorem w_t3 : (((words1.drop 24).drop 24).take 24).all (fun c => isCode c || c.before args0 about1) = true := by decide +kernel
set_option maxRecDepth 65536 in
theorem w_t4 : (((words1.drop 24).drop 24).drop 24).all (fun c => isCode c || c.before args0 about1) = true := by decide +kernel
theorem w_tables : (allAtoms (Jvm.Cond.code x code maxLocals ret :: tables_1)).before args0 about1 = true := by
  rw [allAtoms_all]
  show words1.all (fun c => c.before args0 about1) = true
  refine all_split ?_ w_codes
  rw [← List.take_append_drop 24 words1, List.all_append, w_t1, ← List.take_append_drop 24 (words1.drop 24), List.all_append, w_t2, ← List.take_append_drop 24 ((words1.drop 24).drop 24), List.all_append, w_t3, w_t4]
  rfl
set_option maxRecDepth 65536 in
theorem w_rest : rest_1_c.before args0 about1 = true := by decide +kernel
set_option maxRecDepth 65536 in
theorem w_case : (Jvm.Cond.and given_1 narrow_1).before args0 about1 = true := by decide +kernel
set_option maxRecDepth 65536 in
theorem w_consts : constsHeld consts_1 about1 := Jvm.Lit.constsHeldB_iff.mp (by decide +kernel)
theorem w_applies : (headSpec (Jvm.Cond.code x code maxLocals ret :: tables_1) room_1).applies x e0.platform about1 = true :=
  (Spec.applies_iff w_frames).mpr ⟨w_running, w_runnable, w_alone, w_named, w_hears, w_ripe, w_room, w_tables⟩
theorem atStart : AtStart classFile x code maxLocals ret World_1 tables_1 room_1 Calls_1 rest_1 Pre_1 launch0 p0 e0 about1 theMethod args0 below0 :=
  ⟨lists_1, trivial, launch0.admits_env _ _ _, launch0.least_env, fairChoices_fair.cas, fairChoices_fair.clock, w_frames, w_args, w_heap, w_applies, ⟨w_consts, trivial⟩, w_rest, w_case⟩
end start1
theorem witness_1 : WitnessClaimed_1 := ⟨start1.p0, start1.e0, start1.about1, start1.theMethod, start1.args0, start1.below0, start1.atStart⟩
end Jvm.Pilot.@@N@@
