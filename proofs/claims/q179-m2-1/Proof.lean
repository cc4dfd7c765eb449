import JvmDerived
import JvmDerived.Pilot.@@N@@Statement
import JvmDerived.Pilot.@@N@@Code
set_option linter.unusedVariables false
set_option linter.unusedSimpArgs false
namespace Jvm.Own
open Sem ClassFile Op Lib Bundle Jvm.Stand Jvm.Free Jvm.LawKit Jvm.RoadKit
theorem nl {a b : Nat} (h : Nat.ble a b = true) : a ≤ b := Nat.le_of_ble_eq_true h
section Core
variable {nw : Bool} {p : Program} {l : Launch} {e : Env} {R : Room} {s : State} {m : MethodId} {args : Array Value} {below : List Frame} {meth : Method} {c : Code} {code : ByteArray} {ml : Nat} {nm : String} {ret : Option FieldType} {Z : State} {a0 : Array Value} {EL : List (String × Nat)} {own : String} {P : Option Value → Vm → Heap → Prop}
variable {vm vm' : Vm} {h h' h0 h1 h2 : Heap} {k n pc : Nat} {L : Array Slot} {S : List Value}
/-- what the walk knows of its tables and heap -/
def On (nw : Bool) (s : State) (m : MethodId) (Z : State) (a0 : Array Value) (EL : List (String × Nat)) (own : String) (vm : Vm) (h : Heap) : Prop :=
  (∃ k0, s.Since vm k0 ∧ k0 ≤ h.size) ∧ Z.Warmed39 vm ∧ vm.findClass own = some m.cls ∧ CHv Z EL vm h ∧ Ext Z.heap h ∧ EW Z a0 EL ∧ (nw = true → s.WarmedH vm)
/-- from the heap h, the tables vm and this frame the body returns, and P holds of what it leaves -/
def Go (nw : Bool) (p : Program) (l : Launch) (e : Env) (R : Room) (s : State) (m : MethodId) (args : Array Value) (below : List Frame) (meth : Method) (c : Code) (code : ByteArray) (ml : Nat) (nm : String) (ret : Option FieldType) (Z : State) (a0 : Array Value) (EL : List (String × Nat)) (own : String) (P : Option Value → Vm → Heap → Prop)
    (vm : Vm) (h : Heap) (k n pc : Nat) (L : Array Slot) (S : List Value) : Prop :=
  p.tables.exec = Jvm.exec → c.code = code → c.maxLocals = ml → meth.locks = false → meth.name = nm → meth.sig.returnType = ret → On nw s m Z a0 EL own vm h →
  ∀ (T : State) (locs : List Loc) (cells slots : Nat), Stand p l e R (s.setVm vm) m args below meth c T locs cells slots → T.heap = h → Fr Z.heap.size locs → cells ≤ k → slots ≤ n →
  ∃ (s₂ : State) (v : Option Value), Steps p.tables e below (T.setTop (mkF m pc L S)) s₂ ∧ s₂.status = .running ∧ Ended s₂ below (.returned v) ∧ P v s₂.vm s₂.heap ∧ CHr Z EL vm h s₂.vm s₂.heap ∧ Ext Z.heap s₂.heap ∧
    ∃ L', Fr Z.heap.size L' ∧ ReturnedEndW s (.returned v) s₂ L' R.cells R.slots ∧ (nw = true → s.WarmedH s₂.vm)
theorem Go.mono {k' n' : Nat} (hk : k ≤ k') (hn : n ≤ n') (g : Go nw p l e R s m args below meth c code ml nm ret Z a0 EL own P vm h k' n' pc L S) : Go nw p l e R s m args below meth c code ml nm ret Z a0 EL own P vm h k n pc L S :=
  fun hx hc hm hl hnm hr hon T locs cells slots X hh hF q1 q2 => g hx hc hm hl hnm hr hon T locs cells slots X hh hF (Nat.le_trans q1 hk) (Nat.le_trans q2 hn)
theorem Go.know (g : Ext Z.heap h → Z.Warmed39 vm → CHv Z EL vm h → Go nw p l e R s m args below meth c code ml nm ret Z a0 EL own P vm h k n pc L S) : Go nw p l e R s m args below meth c code ml nm ret Z a0 EL own P vm h k n pc L S :=
  fun hx hc hm hl hnm hr hon => g hon.2.2.2.2.1 hon.2.1 hon.2.2.2.1 hx hc hm hl hnm hr hon
theorem Go.step {pc' : Nat} {L' : Array Slot} {S' : List Value} (st : ∀ T, At T m c below → p.tables.exec = Jvm.exec → c.code = code → ∀ target, Steps p.tables e below (T.setTop (mkF m pc' L' S')) target → Steps p.tables e below (T.setTop (mkF m pc L S)) target)
    (g : Go nw p l e R s m args below meth c code ml nm ret Z a0 EL own P vm h k n pc' L' S') : Go nw p l e R s m args below meth c code ml nm ret Z a0 EL own P vm h k n pc L S := by
  intro hx hc hm hl hnm hr hon T locs cells slots X hh hF hk hn
  obtain ⟨s₂, v, st2, r⟩ := g hx hc hm hl hnm hr hon T locs cells slots X hh hF hk hn
  exact ⟨s₂, v, st T X.here hx hc _ st2, r⟩
/-- a step that may note an entry of the pool, the heap as it was -/
theorem Go.note {pc' : Nat} {L' : Array Slot} {S' : List Value} (st : ∀ T locs cells slots, Stand p l e R (s.setVm vm) m args below meth c T locs cells slots → T.heap = h → p.tables.exec = Jvm.exec → c.code = code → c.maxLocals = ml → On nw s m Z a0 EL own vm h →
      ∃ T', Stand p l e R (s.setVm vm) m args below meth c T' locs cells slots ∧ T'.heap = h ∧ ∀ target, Steps p.tables e below (T'.setTop (mkF m pc' L' S')) target → Steps p.tables e below (T.setTop (mkF m pc L S)) target)
    (g : Go nw p l e R s m args below meth c code ml nm ret Z a0 EL own P vm h k n pc' L' S') : Go nw p l e R s m args below meth c code ml nm ret Z a0 EL own P vm h k n pc L S := by
  intro hx hc hm hl hnm hr hon T locs cells slots X hh hF hk hn
  obtain ⟨T', X', hh', st2⟩ := st T locs cells slots X hh hx hc hm hon
  obtain ⟨s₂, v, st3, r⟩ := g hx hc hm hl hnm hr hon T' locs cells slots X' hh' hF hk hn
  exact ⟨s₂, v, st2 _ st3, r⟩
theorem On.ext (hon : On nw s m Z a0 EL own vm h) (E : Ext h h') : On nw s m Z a0 EL own vm h' := by
  obtain ⟨⟨k0, a1, a2⟩, a3, a4, a5, a6, a7, a8⟩ := hon
  exact ⟨⟨k0, a1, Nat.le_trans a2 E.1⟩, a3, a4, a5.ext E, ⟨Nat.le_trans a6.1 E.1, fun a c q => E.2 _ _ (a6.2 _ _ q)⟩, a7, a8⟩
theorem On.wr {a : Addr} {sl : Nat} {v : Value} (hon : On nw s m Z a0 EL own vm h) (W : Wr h h' a sl v) (Sa : Safe Z EL vm h a) (hz : Z.heap.size ≤ a) : On nw s m Z a0 EL own vm h' := by
  obtain ⟨⟨k0, a1, a2⟩, a3, a4, a5, a6, a7, a8⟩ := hon
  have O : Old Z Z.heap.size h' := Old.wr (Z := Z) ⟨rfl, a6⟩ W hz
  exact ⟨⟨k0, a1, by rw [W.size]; exact a2⟩, a3, a4, a5.wr W Sa, O.2, a7, a8⟩
/-- a step that makes a cell -/
theorem Go.made {pc' dk dn : Nat} {L' : Array Slot} {S' : Addr → List Value} {F : Heap → Addr → Prop} (hk0 : k + dk ≤ R.cells) (hn0 : n + dn ≤ R.slots)
    (st : ∀ T locs cells slots, Stand p l e R (s.setVm vm) m args below meth c T locs cells slots → T.heap = h → p.tables.exec = Jvm.exec → c.code = code → c.maxLocals = ml → On nw s m Z a0 EL own vm h → cells + dk ≤ R.cells → slots + dn ≤ R.slots →
      ∃ T' h', Stand p l e R (s.setVm vm) m args below meth c T' locs (cells + dk) (slots + dn) ∧ T'.heap = h' ∧ Ext h h' ∧ F h' h.size ∧ ∀ target, Steps p.tables e below (T'.setTop (mkF m pc' L' (S' h.size))) target → Steps p.tables e below (T.setTop (mkF m pc L S)) target)
    (g : ∀ a h', a = h.size → Ext h h' → F h' a → Safe Z EL vm h' a → Z.heap.size ≤ a → CHr Z EL vm h vm h' → Go nw p l e R s m args below meth c code ml nm ret Z a0 EL own P vm h' (k + dk) (n + dn) pc' L' (S' a)) : Go nw p l e R s m args below meth c code ml nm ret Z a0 EL own P vm h k n pc L S := by
  intro hx hc hm hl hnm hr hon T locs cells slots X hh hF hk hn
  obtain ⟨T', h', X', hh', E, Fh, st2⟩ := st T locs cells slots X hh hx hc hm hon (by omega) (by omega)
  have ch : CHr Z EL vm h vm h' := CHr.ext E hon.2.2.2.1
  obtain ⟨s₂, v, st3, r1, r2, r3, r4, r5⟩ := g h.size h' rfl E Fh (Safe.ext E hon.2.2.2.1 (Safe.new (Nat.le_refl _))) hon.2.2.2.2.1.1 ch hx hc hm hl hnm hr (hon.ext E) T' locs (cells + dk) (slots + dn) X' hh' hF (by omega) (by omega)
  exact ⟨s₂, v, st2 _ st3, r1, r2, r3, ch.trans r4, r5⟩
/-- a step that writes one slot of a cell made since the law began -/
theorem Go.wrote {pc' : Nat} {L' : Array Slot} {S' : List Value} {a : Addr} {sl : Nat} {w : Value} (Sa : Safe Z EL vm h a) (hz : Z.heap.size ≤ a)
    (st : ∀ T locs cells slots, Stand p l e R (s.setVm vm) m args below meth c T locs cells slots → T.heap = h → p.tables.exec = Jvm.exec → c.code = code → c.maxLocals = ml → meth.name = nm → On nw s m Z a0 EL own vm h →
      ∃ T' h', Stand p l e R (s.setVm vm) m args below meth c T' (locs ++ [⟨a, sl⟩]) cells slots ∧ T'.heap = h' ∧ Wr h h' a sl w ∧ ∀ target, Steps p.tables e below (T'.setTop (mkF m pc' L' S')) target → Steps p.tables e below (T.setTop (mkF m pc L S)) target)
    (g : ∀ h', Wr h h' a sl w → Safe Z EL vm h' a → CHr Z EL vm h vm h' → Go nw p l e R s m args below meth c code ml nm ret Z a0 EL own P vm h' k n pc' L' S') : Go nw p l e R s m args below meth c code ml nm ret Z a0 EL own P vm h k n pc L S := by
  intro hx hc hm hl hnm hr hon T locs cells slots X hh hF hk hn
  obtain ⟨T', h', X', hh', W, st2⟩ := st T locs cells slots X hh hx hc hm hnm hon
  have ch : CHr Z EL vm h vm h' := CHr.wr W Sa hon.2.2.2.1
  obtain ⟨s₂, v, st3, r1, r2, r3, r4, r5⟩ := g h' W (Safe.wr W Sa hon.2.2.2.1 Sa) ch hx hc hm hl hnm hr (hon.wr W Sa hz) T' _ cells slots X' hh' (Fr.snoc X' hF hz) hk hn
  exact ⟨s₂, v, st2 _ st3, r1, r2, r3, ch.trans r4, r5⟩
theorem Go.iload_n {i : Fin 4} {v : Int32} (pc' : Nat) (hd : decode code pc = .ok (.iload_n i, 1)) (hp : pc + 1 = pc') (hl : L[i.val]? = some (.val (.int v))) (g : Go nw p l e R s m args below meth c code ml nm ret Z a0 EL own P vm h k n pc' L (.int v :: S)) : Go nw p l e R s m args below meth c code ml nm ret Z a0 EL own P vm h k n pc L S := by
  subst hp; exact g.step fun T hT hx hc _ q => XS.iloadN (g := mkF m pc L (S)) hT hx rfl (hb hc hd) hl q
theorem Go.iload {i : Nat} {v : Int32} (pc' : Nat) (hd : decode code pc = .ok (.iload i, 2)) (hp : pc + 2 = pc') (hl : L[i]? = some (.val (.int v))) (g : Go nw p l e R s m args below meth c code ml nm ret Z a0 EL own P vm h k n pc' L (.int v :: S)) : Go nw p l e R s m args below meth c code ml nm ret Z a0 EL own P vm h k n pc L S := by
  subst hp; exact g.step fun T hT hx hc _ q => XS.iload (g := mkF m pc L (S)) hT hx rfl (hb hc hd) hl q
theorem Go.lload_n {i : Fin 4} {v : Int64} (pc' : Nat) (hd : decode code pc = .ok (.lload_n i, 1)) (hp : pc + 1 = pc') (hl : L[i.val]? = some (.val (.long v))) (g : Go nw p l e R s m args below meth c code ml nm ret Z a0 EL own P vm h k n pc' L (.long v :: S)) : Go nw p l e R s m args below meth c code ml nm ret Z a0 EL own P vm h k n pc L S := by
  subst hp; exact g.step fun T hT hx hc _ q => XS.lloadN (g := mkF m pc L (S)) hT hx rfl (hb hc hd) hl q
theorem Go.lload {i : Nat} {v : Int64} (pc' : Nat) (hd : decode code pc = .ok (.lload i, 2)) (hp : pc + 2 = pc') (hl : L[i]? = some (.val (.long v))) (g : Go nw p l e R s m args below meth c code ml nm ret Z a0 EL own P vm h k n pc' L (.long v :: S)) : Go nw p l e R s m args below meth c code ml nm ret Z a0 EL own P vm h k n pc L S := by
  subst hp; exact g.step fun T hT hx hc _ q => XS.lload (g := mkF m pc L (S)) hT hx rfl (hb hc hd) hl q
theorem Go.aload_n {i : Fin 4} {v : Value} (pc' : Nat) (hd : decode code pc = .ok (.aload_n i, 1)) (hp : pc + 1 = pc') (hl : L[i.val]? = some (.val v)) (hv : v.isRef = true) (g : Go nw p l e R s m args below meth c code ml nm ret Z a0 EL own P vm h k n pc' L (v :: S)) : Go nw p l e R s m args below meth c code ml nm ret Z a0 EL own P vm h k n pc L S := by
  subst hp; exact g.step fun T hT hx hc _ q => XS.aloadN (g := mkF m pc L (S)) hT hx rfl (hb hc hd) hl hv q
theorem Go.aload {i : Nat} {v : Value} (pc' : Nat) (hd : decode code pc = .ok (.aload i, 2)) (hp : pc + 2 = pc') (hl : L[i]? = some (.val v)) (hv : v.isRef = true) (g : Go nw p l e R s m args below meth c code ml nm ret Z a0 EL own P vm h k n pc' L (v :: S)) : Go nw p l e R s m args below meth c code ml nm ret Z a0 EL own P vm h k n pc L S := by
  subst hp; exact g.step fun T hT hx hc _ q => XS.aload (g := mkF m pc L (S)) hT hx rfl (hb hc hd) hl hv q
theorem Go.iconst {i : Int} (v : Int32) (pc' : Nat) (hd : decode code pc = .ok (.iconst i, 1)) (hp : pc + 1 = pc') (hv : Int32.ofInt i = v) (g : Go nw p l e R s m args below meth c code ml nm ret Z a0 EL own P vm h k n pc' L (.int v :: S)) : Go nw p l e R s m args below meth c code ml nm ret Z a0 EL own P vm h k n pc L S := by
  subst hp hv; exact g.step fun T hT hx hc _ q => XS.iconst hT hx rfl (hb hc hd) q
theorem Go.bipush {i : Int} (v : Int32) (pc' : Nat) (hd : decode code pc = .ok (.bipush i, 2)) (hp : pc + 2 = pc') (hv : (Int8.ofInt i).toInt32 = v) (g : Go nw p l e R s m args below meth c code ml nm ret Z a0 EL own P vm h k n pc' L (.int v :: S)) : Go nw p l e R s m args below meth c code ml nm ret Z a0 EL own P vm h k n pc L S := by
  subst hp hv; exact g.step fun T hT hx hc _ q => XS.bipush hT hx rfl (hb hc hd) q
theorem Go.sipush {i : Int} (v : Int32) (pc' : Nat) (hd : decode code pc = .ok (.sipush i, 3)) (hp : pc + 3 = pc') (hv : (Int16.ofInt i).toInt32 = v) (g : Go nw p l e R s m args below meth c code ml nm ret Z a0 EL own P vm h k n pc' L (.int v :: S)) : Go nw p l e R s m args below meth c code ml nm ret Z a0 EL own P vm h k n pc L S := by
  subst hp hv; exact g.step fun T hT hx hc _ q => XS.sipush hT hx rfl (hb hc hd) q
theorem Go.lconst {i : Fin 2} (v : Int64) (pc' : Nat) (hd : decode code pc = .ok (.lconst i, 1)) (hp : pc + 1 = pc') (hv : Int64.ofNat i = v) (g : Go nw p l e R s m args below meth c code ml nm ret Z a0 EL own P vm h k n pc' L (.long v :: S)) : Go nw p l e R s m args below meth c code ml nm ret Z a0 EL own P vm h k n pc L S := by
  subst hp hv; exact g.step fun T hT hx hc _ q => XS.lconst hT hx rfl (hb hc hd) q
theorem Go.aconst_null  (pc' : Nat) (hd : decode code pc = .ok (.aconst_null, 1)) (hp : pc + 1 = pc') (g : Go nw p l e R s m args below meth c code ml nm ret Z a0 EL own P vm h k n pc' L (.null :: S)) : Go nw p l e R s m args below meth c code ml nm ret Z a0 EL own P vm h k n pc L S := by
  subst hp; exact g.step fun T hT hx hc _ q => XS.aconstNull (g := mkF m pc L (S)) hT hx rfl (hb hc hd)  q
theorem Go.istore_n {i : Fin 4} {v : Int32} (L' : Array Slot) (pc' : Nat) (hd : decode code pc = .ok (.istore_n i, 1)) (hp : pc + 1 = pc') (hl : storeLocals L i.val (.int v) = some L') (g : Go nw p l e R s m args below meth c code ml nm ret Z a0 EL own P vm h k n pc' L' S) : Go nw p l e R s m args below meth c code ml nm ret Z a0 EL own P vm h k n pc L (.int v :: S) := by
  subst hp; exact g.step fun T hT hx hc _ q => XS.istoreN hT hx rfl (hb hc hd) rfl hl q
theorem Go.istore {i : Nat} {v : Int32} (L' : Array Slot) (pc' : Nat) (hd : decode code pc = .ok (.istore i, 2)) (hp : pc + 2 = pc') (hl : storeLocals L i (.int v) = some L') (g : Go nw p l e R s m args below meth c code ml nm ret Z a0 EL own P vm h k n pc' L' S) : Go nw p l e R s m args below meth c code ml nm ret Z a0 EL own P vm h k n pc L (.int v :: S) := by
  subst hp; exact g.step fun T hT hx hc _ q => XS.istore hT hx rfl (hb hc hd) rfl hl q
theorem Go.lstore_n {i : Fin 4} {v : Int64} (L' : Array Slot) (pc' : Nat) (hd : decode code pc = .ok (.lstore_n i, 1)) (hp : pc + 1 = pc') (hl : storeLocals L i.val (.long v) = some L') (g : Go nw p l e R s m args below meth c code ml nm ret Z a0 EL own P vm h k n pc' L' S) : Go nw p l e R s m args below meth c code ml nm ret Z a0 EL own P vm h k n pc L (.long v :: S) := by
  subst hp; exact g.step fun T hT hx hc _ q => XS.lstoreN hT hx rfl (hb hc hd) rfl hl q
theorem Go.lstore {i : Nat} {v : Int64} (L' : Array Slot) (pc' : Nat) (hd : decode code pc = .ok (.lstore i, 2)) (hp : pc + 2 = pc') (hl : storeLocals L i (.long v) = some L') (g : Go nw p l e R s m args below meth c code ml nm ret Z a0 EL own P vm h k n pc' L' S) : Go nw p l e R s m args below meth c code ml nm ret Z a0 EL own P vm h k n pc L (.long v :: S) := by
  subst hp; exact g.step fun T hT hx hc _ q => XS.lstore hT hx rfl (hb hc hd) rfl hl q
theorem Go.astore_n {i : Fin 4} {v : Value} (L' : Array Slot) (pc' : Nat) (hd : decode code pc = .ok (.astore_n i, 1)) (hp : pc + 1 = pc') (hv : v.isRef = true) (hl : storeLocals L i.val v = some L') (g : Go nw p l e R s m args below meth c code ml nm ret Z a0 EL own P vm h k n pc' L' S) : Go nw p l e R s m args below meth c code ml nm ret Z a0 EL own P vm h k n pc L (v :: S) := by
  subst hp; exact g.step fun T hT hx hc _ q => XS.astoreN hT hx rfl (hb hc hd) rfl hv hl q
theorem Go.astore {i : Nat} {v : Value} (L' : Array Slot) (pc' : Nat) (hd : decode code pc = .ok (.astore i, 2)) (hp : pc + 2 = pc') (hv : v.isRef = true) (hl : storeLocals L i v = some L') (g : Go nw p l e R s m args below meth c code ml nm ret Z a0 EL own P vm h k n pc' L' S) : Go nw p l e R s m args below meth c code ml nm ret Z a0 EL own P vm h k n pc L (v :: S) := by
  subst hp; exact g.step fun T hT hx hc _ q => XS.astore hT hx rfl (hb hc hd) rfl hv hl q
theorem Go.iinc {i : Nat} {cst : Int} {x : Int32} (w : Int32) (L' : Array Slot) (pc' : Nat) (hd : decode code pc = .ok (.iinc i cst, 3)) (hp : pc + 3 = pc') (hl : L[i]? = some (.val (.int x))) (hw : x + Int32.ofInt cst = w) (hl' : storeLocals L i (.int w) = some L') (g : Go nw p l e R s m args below meth c code ml nm ret Z a0 EL own P vm h k n pc' L' S) : Go nw p l e R s m args below meth c code ml nm ret Z a0 EL own P vm h k n pc L S := by
  subst hp hw; exact g.step fun T hT hx hc _ q => XS.iinc hT hx rfl (hb hc hd) hl hl' q
theorem Go.iadd {x y : Int32} (z : Int32) (pc' : Nat) (hd : decode code pc = .ok (.iadd, 1)) (hp : pc + 1 = pc') (hz : x + y = z) (g : Go nw p l e R s m args below meth c code ml nm ret Z a0 EL own P vm h k n pc' L (.int z :: S)) : Go nw p l e R s m args below meth c code ml nm ret Z a0 EL own P vm h k n pc L (.int y :: .int x :: S) := by
  subst hp hz; exact g.step fun T hT hx hc _ q => XS.iadd hT hx rfl (hb hc hd) rfl  q
theorem Go.isub {x y : Int32} (z : Int32) (pc' : Nat) (hd : decode code pc = .ok (.isub, 1)) (hp : pc + 1 = pc') (hz : x - y = z) (g : Go nw p l e R s m args below meth c code ml nm ret Z a0 EL own P vm h k n pc' L (.int z :: S)) : Go nw p l e R s m args below meth c code ml nm ret Z a0 EL own P vm h k n pc L (.int y :: .int x :: S) := by
  subst hp hz; exact g.step fun T hT hx hc _ q => XS.isub hT hx rfl (hb hc hd) rfl  q
theorem Go.imul {x y : Int32} (z : Int32) (pc' : Nat) (hd : decode code pc = .ok (.imul, 1)) (hp : pc + 1 = pc') (hz : x * y = z) (g : Go nw p l e R s m args below meth c code ml nm ret Z a0 EL own P vm h k n pc' L (.int z :: S)) : Go nw p l e R s m args below meth c code ml nm ret Z a0 EL own P vm h k n pc L (.int y :: .int x :: S) := by
  subst hp hz; exact g.step fun T hT hx hc _ q => XS.imul hT hx rfl (hb hc hd) rfl  q
theorem Go.iand {x y : Int32} (z : Int32) (pc' : Nat) (hd : decode code pc = .ok (.iand, 1)) (hp : pc + 1 = pc') (hz : x &&& y = z) (g : Go nw p l e R s m args below meth c code ml nm ret Z a0 EL own P vm h k n pc' L (.int z :: S)) : Go nw p l e R s m args below meth c code ml nm ret Z a0 EL own P vm h k n pc L (.int y :: .int x :: S) := by
  subst hp hz; exact g.step fun T hT hx hc _ q => XS.iand hT hx rfl (hb hc hd) rfl  q
theorem Go.ior {x y : Int32} (z : Int32) (pc' : Nat) (hd : decode code pc = .ok (.ior, 1)) (hp : pc + 1 = pc') (hz : x ||| y = z) (g : Go nw p l e R s m args below meth c code ml nm ret Z a0 EL own P vm h k n pc' L (.int z :: S)) : Go nw p l e R s m args below meth c code ml nm ret Z a0 EL own P vm h k n pc L (.int y :: .int x :: S) := by
  subst hp hz; exact g.step fun T hT hx hc _ q => XS.ior hT hx rfl (hb hc hd) rfl  q
theorem Go.ixor {x y : Int32} (z : Int32) (pc' : Nat) (hd : decode code pc = .ok (.ixor, 1)) (hp : pc + 1 = pc') (hz : x ^^^ y = z) (g : Go nw p l e R s m args below meth c code ml nm ret Z a0 EL own P vm h k n pc' L (.int z :: S)) : Go nw p l e R s m args below meth c code ml nm ret Z a0 EL own P vm h k n pc L (.int y :: .int x :: S) := by
  subst hp hz; exact g.step fun T hT hx hc _ q => XS.ixor hT hx rfl (hb hc hd) rfl  q
theorem Go.ishl {x y : Int32} (z : Int32) (pc' : Nat) (hd : decode code pc = .ok (.ishl, 1)) (hp : pc + 1 = pc') (hz : x <<< (y &&& 31) = z) (g : Go nw p l e R s m args below meth c code ml nm ret Z a0 EL own P vm h k n pc' L (.int z :: S)) : Go nw p l e R s m args below meth c code ml nm ret Z a0 EL own P vm h k n pc L (.int y :: .int x :: S) := by
  subst hp hz; exact g.step fun T hT hx hc _ q => XS.ishl hT hx rfl (hb hc hd) rfl  q
theorem Go.ishr {x y : Int32} (z : Int32) (pc' : Nat) (hd : decode code pc = .ok (.ishr, 1)) (hp : pc + 1 = pc') (hz : x >>> (y &&& 31) = z) (g : Go nw p l e R s m args below meth c code ml nm ret Z a0 EL own P vm h k n pc' L (.int z :: S)) : Go nw p l e R s m args below meth c code ml nm ret Z a0 EL own P vm h k n pc L (.int y :: .int x :: S) := by
  subst hp hz; exact g.step fun T hT hx hc _ q => XS.ishr hT hx rfl (hb hc hd) rfl  q
theorem Go.iushr {x y : Int32} (z : Int32) (pc' : Nat) (hd : decode code pc = .ok (.iushr, 1)) (hp : pc + 1 = pc') (hz : XT.ushr x y = z) (g : Go nw p l e R s m args below meth c code ml nm ret Z a0 EL own P vm h k n pc' L (.int z :: S)) : Go nw p l e R s m args below meth c code ml nm ret Z a0 EL own P vm h k n pc L (.int y :: .int x :: S) := by
  subst hp hz; exact g.step fun T hT hx hc _ q => XS.iushr hT hx rfl (hb hc hd) rfl  q
theorem Go.idiv {x y : Int32} (z : Int32) (pc' : Nat) (hd : decode code pc = .ok (.idiv, 1)) (hp : pc + 1 = pc') (hy : y ≠ 0) (hz : x / y = z) (g : Go nw p l e R s m args below meth c code ml nm ret Z a0 EL own P vm h k n pc' L (.int z :: S)) : Go nw p l e R s m args below meth c code ml nm ret Z a0 EL own P vm h k n pc L (.int y :: .int x :: S) := by
  subst hp hz; exact g.step fun T hT hx hc _ q => XS.idiv hT hx rfl (hb hc hd) rfl hy q
theorem Go.irem {x y : Int32} (z : Int32) (pc' : Nat) (hd : decode code pc = .ok (.irem, 1)) (hp : pc + 1 = pc') (hy : y ≠ 0) (hz : x - (x / y) * y = z) (g : Go nw p l e R s m args below meth c code ml nm ret Z a0 EL own P vm h k n pc' L (.int z :: S)) : Go nw p l e R s m args below meth c code ml nm ret Z a0 EL own P vm h k n pc L (.int y :: .int x :: S) := by
  subst hp hz; exact g.step fun T hT hx hc _ q => XS.irem hT hx rfl (hb hc hd) rfl hy q
theorem Go.ladd {x y : Int64} (z : Int64) (pc' : Nat) (hd : decode code pc = .ok (.ladd, 1)) (hp : pc + 1 = pc') (hz : x + y = z) (g : Go nw p l e R s m args below meth c code ml nm ret Z a0 EL own P vm h k n pc' L (.long z :: S)) : Go nw p l e R s m args below meth c code ml nm ret Z a0 EL own P vm h k n pc L (.long y :: .long x :: S) := by
  subst hp hz; exact g.step fun T hT hx hc _ q => XS.ladd hT hx rfl (hb hc hd) rfl q
theorem Go.lsub {x y : Int64} (z : Int64) (pc' : Nat) (hd : decode code pc = .ok (.lsub, 1)) (hp : pc + 1 = pc') (hz : x - y = z) (g : Go nw p l e R s m args below meth c code ml nm ret Z a0 EL own P vm h k n pc' L (.long z :: S)) : Go nw p l e R s m args below meth c code ml nm ret Z a0 EL own P vm h k n pc L (.long y :: .long x :: S) := by
  subst hp hz; exact g.step fun T hT hx hc _ q => XS.lsub hT hx rfl (hb hc hd) rfl q
theorem Go.lmul {x y : Int64} (z : Int64) (pc' : Nat) (hd : decode code pc = .ok (.lmul, 1)) (hp : pc + 1 = pc') (hz : x * y = z) (g : Go nw p l e R s m args below meth c code ml nm ret Z a0 EL own P vm h k n pc' L (.long z :: S)) : Go nw p l e R s m args below meth c code ml nm ret Z a0 EL own P vm h k n pc L (.long y :: .long x :: S) := by
  subst hp hz; exact g.step fun T hT hx hc _ q => XS.lmul hT hx rfl (hb hc hd) rfl q
theorem Go.land {x y : Int64} (z : Int64) (pc' : Nat) (hd : decode code pc = .ok (.land, 1)) (hp : pc + 1 = pc') (hz : x &&& y = z) (g : Go nw p l e R s m args below meth c code ml nm ret Z a0 EL own P vm h k n pc' L (.long z :: S)) : Go nw p l e R s m args below meth c code ml nm ret Z a0 EL own P vm h k n pc L (.long y :: .long x :: S) := by
  subst hp hz; exact g.step fun T hT hx hc _ q => XS.land hT hx rfl (hb hc hd) rfl q
theorem Go.lor {x y : Int64} (z : Int64) (pc' : Nat) (hd : decode code pc = .ok (.lor, 1)) (hp : pc + 1 = pc') (hz : x ||| y = z) (g : Go nw p l e R s m args below meth c code ml nm ret Z a0 EL own P vm h k n pc' L (.long z :: S)) : Go nw p l e R s m args below meth c code ml nm ret Z a0 EL own P vm h k n pc L (.long y :: .long x :: S) := by
  subst hp hz; exact g.step fun T hT hx hc _ q => XS.lor hT hx rfl (hb hc hd) rfl q
theorem Go.lxor {x y : Int64} (z : Int64) (pc' : Nat) (hd : decode code pc = .ok (.lxor, 1)) (hp : pc + 1 = pc') (hz : x ^^^ y = z) (g : Go nw p l e R s m args below meth c code ml nm ret Z a0 EL own P vm h k n pc' L (.long z :: S)) : Go nw p l e R s m args below meth c code ml nm ret Z a0 EL own P vm h k n pc L (.long y :: .long x :: S) := by
  subst hp hz; exact g.step fun T hT hx hc _ q => XS.lxor hT hx rfl (hb hc hd) rfl q
theorem Go.lshl {x : Int64} {y : Int32} (z : Int64) (pc' : Nat) (hd : decode code pc = .ok (.lshl, 1)) (hp : pc + 1 = pc') (hz : x <<< (y.toInt64 &&& 63) = z) (g : Go nw p l e R s m args below meth c code ml nm ret Z a0 EL own P vm h k n pc' L (.long z :: S)) : Go nw p l e R s m args below meth c code ml nm ret Z a0 EL own P vm h k n pc L (.int y :: .long x :: S) := by
  subst hp hz; exact g.step fun T hT hx hc _ q => XT.lshl hT hx rfl (hb hc hd) rfl q
theorem Go.lshr {x : Int64} {y : Int32} (z : Int64) (pc' : Nat) (hd : decode code pc = .ok (.lshr, 1)) (hp : pc + 1 = pc') (hz : x >>> (y.toInt64 &&& 63) = z) (g : Go nw p l e R s m args below meth c code ml nm ret Z a0 EL own P vm h k n pc' L (.long z :: S)) : Go nw p l e R s m args below meth c code ml nm ret Z a0 EL own P vm h k n pc L (.int y :: .long x :: S) := by
  subst hp hz; exact g.step fun T hT hx hc _ q => XT.lshr hT hx rfl (hb hc hd) rfl q
theorem Go.lushr {x : Int64} {y : Int32} (z : Int64) (pc' : Nat) (hd : decode code pc = .ok (.lushr, 1)) (hp : pc + 1 = pc') (hz : XT.ushrL x y = z) (g : Go nw p l e R s m args below meth c code ml nm ret Z a0 EL own P vm h k n pc' L (.long z :: S)) : Go nw p l e R s m args below meth c code ml nm ret Z a0 EL own P vm h k n pc L (.int y :: .long x :: S) := by
  subst hp hz; exact g.step fun T hT hx hc _ q => XT.lushr hT hx rfl (hb hc hd) rfl q
theorem Go.lcmp {x y : Int64} (z : Int32) (pc' : Nat) (hd : decode code pc = .ok (.lcmp, 1)) (hp : pc + 1 = pc') (hz : XT.cmpL x y = z) (g : Go nw p l e R s m args below meth c code ml nm ret Z a0 EL own P vm h k n pc' L (.int z :: S)) : Go nw p l e R s m args below meth c code ml nm ret Z a0 EL own P vm h k n pc L (.long y :: .long x :: S) := by
  subst hp hz; exact g.step fun T hT hx hc _ q => XS.lcmp hT hx rfl (hb hc hd) rfl q
theorem Go.ineg {x : Int32} (z : Int32) (pc' : Nat) (hd : decode code pc = .ok (.ineg, 1)) (hp : pc + 1 = pc') (hz : -x = z) (g : Go nw p l e R s m args below meth c code ml nm ret Z a0 EL own P vm h k n pc' L (.int z :: S)) : Go nw p l e R s m args below meth c code ml nm ret Z a0 EL own P vm h k n pc L (.int x :: S) := by
  subst hp hz; exact g.step fun T hT hx hc _ q => XS.ineg hT hx rfl (hb hc hd) rfl q
theorem Go.i2b {x : Int32} (z : Int32) (pc' : Nat) (hd : decode code pc = .ok (.i2b, 1)) (hp : pc + 1 = pc') (hz : x.toInt8.toInt32 = z) (g : Go nw p l e R s m args below meth c code ml nm ret Z a0 EL own P vm h k n pc' L (.int z :: S)) : Go nw p l e R s m args below meth c code ml nm ret Z a0 EL own P vm h k n pc L (.int x :: S) := by
  subst hp hz; exact g.step fun T hT hx hc _ q => XS.i2b hT hx rfl (hb hc hd) rfl q
theorem Go.i2c {x : Int32} (z : Int32) (pc' : Nat) (hd : decode code pc = .ok (.i2c, 1)) (hp : pc + 1 = pc') (hz : x.toUInt32.toUInt16.toUInt32.toInt32 = z) (g : Go nw p l e R s m args below meth c code ml nm ret Z a0 EL own P vm h k n pc' L (.int z :: S)) : Go nw p l e R s m args below meth c code ml nm ret Z a0 EL own P vm h k n pc L (.int x :: S) := by
  subst hp hz; exact g.step fun T hT hx hc _ q => XS.i2c hT hx rfl (hb hc hd) rfl q
theorem Go.i2s {x : Int32} (z : Int32) (pc' : Nat) (hd : decode code pc = .ok (.i2s, 1)) (hp : pc + 1 = pc') (hz : x.toInt16.toInt32 = z) (g : Go nw p l e R s m args below meth c code ml nm ret Z a0 EL own P vm h k n pc' L (.int z :: S)) : Go nw p l e R s m args below meth c code ml nm ret Z a0 EL own P vm h k n pc L (.int x :: S) := by
  subst hp hz; exact g.step fun T hT hx hc _ q => XS.i2s hT hx rfl (hb hc hd) rfl q
theorem Go.i2l {x : Int32} (z : Int64) (pc' : Nat) (hd : decode code pc = .ok (.i2l, 1)) (hp : pc + 1 = pc') (hz : x.toInt64 = z) (g : Go nw p l e R s m args below meth c code ml nm ret Z a0 EL own P vm h k n pc' L (.long z :: S)) : Go nw p l e R s m args below meth c code ml nm ret Z a0 EL own P vm h k n pc L (.int x :: S) := by
  subst hp hz; exact g.step fun T hT hx hc _ q => XS.i2l hT hx rfl (hb hc hd) rfl q
theorem Go.l2i {x : Int64} (z : Int32) (pc' : Nat) (hd : decode code pc = .ok (.l2i, 1)) (hp : pc + 1 = pc') (hz : x.toInt32 = z) (g : Go nw p l e R s m args below meth c code ml nm ret Z a0 EL own P vm h k n pc' L (.int z :: S)) : Go nw p l e R s m args below meth c code ml nm ret Z a0 EL own P vm h k n pc L (.long x :: S) := by
  subst hp hz; exact g.step fun T hT hx hc _ q => XS.l2i hT hx rfl (hb hc hd) rfl q
theorem Go.lneg {x : Int64} (z : Int64) (pc' : Nat) (hd : decode code pc = .ok (.lneg, 1)) (hp : pc + 1 = pc') (hz : -x = z) (g : Go nw p l e R s m args below meth c code ml nm ret Z a0 EL own P vm h k n pc' L (.long z :: S)) : Go nw p l e R s m args below meth c code ml nm ret Z a0 EL own P vm h k n pc L (.long x :: S) := by
  subst hp hz; exact g.step fun T hT hx hc _ q => XS.lneg hT hx rfl (hb hc hd) rfl q
theorem Go.dup {x : Value} (pc' : Nat) (hd : decode code pc = .ok (.dup, 1)) (hp : pc + 1 = pc') (hx1 : x.category = 1) (g : Go nw p l e R s m args below meth c code ml nm ret Z a0 EL own P vm h k n pc' L (x :: x :: S)) : Go nw p l e R s m args below meth c code ml nm ret Z a0 EL own P vm h k n pc L (x :: S) := by
  subst hp; exact g.step fun T hT hx hc _ q => XS.dup (g := mkF m pc L (x :: S)) hT hx rfl (hb hc hd) rfl hx1 q
theorem Go.pop {x : Value} (pc' : Nat) (hd : decode code pc = .ok (.pop, 1)) (hp : pc + 1 = pc') (hx1 : x.category = 1) (g : Go nw p l e R s m args below meth c code ml nm ret Z a0 EL own P vm h k n pc' L S) : Go nw p l e R s m args below meth c code ml nm ret Z a0 EL own P vm h k n pc L (x :: S) := by
  subst hp; exact g.step fun T hT hx hc _ q => XS.pop (g := mkF m pc L (x :: S)) hT hx rfl (hb hc hd) rfl hx1 q
theorem Go.dup_x1 {x y : Value} (pc' : Nat) (hd : decode code pc = .ok (.dup_x1, 1)) (hp : pc + 1 = pc') (hx1 : x.category = 1) (hx2 : y.category = 1) (g : Go nw p l e R s m args below meth c code ml nm ret Z a0 EL own P vm h k n pc' L (x :: y :: x :: S)) : Go nw p l e R s m args below meth c code ml nm ret Z a0 EL own P vm h k n pc L (x :: y :: S) := by
  subst hp; exact g.step fun T hT hx hc _ q => XS.dupX1 (g := mkF m pc L (x :: y :: S)) hT hx rfl (hb hc hd) rfl hx1 hx2 q
theorem Go.dup2 {x y : Value} (pc' : Nat) (hd : decode code pc = .ok (.dup2, 1)) (hp : pc + 1 = pc') (hx1 : x.category = 1) (hx2 : y.category = 1) (g : Go nw p l e R s m args below meth c code ml nm ret Z a0 EL own P vm h k n pc' L (x :: y :: x :: y :: S)) : Go nw p l e R s m args below meth c code ml nm ret Z a0 EL own P vm h k n pc L (x :: y :: S) := by
  subst hp; exact g.step fun T hT hx hc _ q => XT.dup2 (g := mkF m pc L (x :: y :: S)) hT hx rfl (hb hc hd) rfl hx1 hx2 q
theorem Go.goto {o : Int} (pc' : Nat) (hd : decode code pc = .ok (.goto o, 3)) (ho : 0 ≤ (pc : Int) + o) (hp : ((pc : Int) + o).toNat = pc') (g : Go nw p l e R s m args below meth c code ml nm ret Z a0 EL own P vm h k n pc' L S) : Go nw p l e R s m args below meth c code ml nm ret Z a0 EL own P vm h k n pc L S :=
  g.step fun T hT hx hc _ q => XS.goto hT hx rfl rfl (hb hc hd) ho hp q
theorem Go.ifB {cd : ClassFile.Cond} {x : Int32} {o : Int} (pc' pc'' : Nat) (hd : decode code pc = .ok (.ifCond cd o, 3)) (ho : 0 ≤ (pc : Int) + o) (hp : ((pc : Int) + o).toNat = pc') (hq : pc + 3 = pc'')
    (gt : ifCond.holds cd x = true → Go nw p l e R s m args below meth c code ml nm ret Z a0 EL own P vm h k n pc' L S) (gf : ifCond.holds cd x = false → Go nw p l e R s m args below meth c code ml nm ret Z a0 EL own P vm h k n pc'' L S) : Go nw p l e R s m args below meth c code ml nm ret Z a0 EL own P vm h k n pc L (.int x :: S) := by
  subst hq
  cases hh : ifCond.holds cd x
  · exact (gf hh).step fun T hT hx hc _ q => XS.ifNo hT hx rfl (hb hc hd) rfl hh q
  · exact (gt hh).step fun T hT hx hc _ q => XS.ifYes hT hx rfl rfl (hb hc hd) rfl hh ho hp q
theorem Go.icmpB {cd : ClassFile.Cond} {x y : Int32} {o : Int} (pc' pc'' : Nat) (hd : decode code pc = .ok (.if_icmp cd o, 3)) (ho : 0 ≤ (pc : Int) + o) (hp : ((pc : Int) + o).toNat = pc') (hq : pc + 3 = pc'')
    (gt : if_icmp.holds cd x y = true → Go nw p l e R s m args below meth c code ml nm ret Z a0 EL own P vm h k n pc' L S) (gf : if_icmp.holds cd x y = false → Go nw p l e R s m args below meth c code ml nm ret Z a0 EL own P vm h k n pc'' L S) : Go nw p l e R s m args below meth c code ml nm ret Z a0 EL own P vm h k n pc L (.int y :: .int x :: S) := by
  subst hq
  cases hh : if_icmp.holds cd x y
  · exact (gf hh).step fun T hT hx hc _ q => XS.icmpNo hT hx rfl (hb hc hd) rfl hh q
  · exact (gt hh).step fun T hT hx hc _ q => XS.icmpYes hT hx rfl rfl (hb hc hd) rfl hh ho hp q
theorem Go.if_icmpeq {x y : Int32} {o : Int} (pc' pc'' : Nat) (hd : decode code pc = .ok (.if_icmp .eq o, 3)) (ho : 0 ≤ (pc : Int) + o) (hp : ((pc : Int) + o).toNat = pc') (hq : pc + 3 = pc'')
    (gt : x = y → Go nw p l e R s m args below meth c code ml nm ret Z a0 EL own P vm h k n pc' L S) (gf : ¬ x = y → Go nw p l e R s m args below meth c code ml nm ret Z a0 EL own P vm h k n pc'' L S) : Go nw p l e R s m args below meth c code ml nm ret Z a0 EL own P vm h k n pc L (.int y :: .int x :: S) := by
  by_cases q : x = y
  · exact Go.icmpB pc' pc'' hd ho hp hq (fun r => by first | exact gt q | exact absurd (r.symm.trans (teq q).1) (by simp)) (fun r => by first | exact gf q | exact absurd (r.symm.trans (teq q).1) (by simp))
  · exact Go.icmpB pc' pc'' hd ho hp hq (fun r => by first | exact gt q | exact absurd (r.symm.trans (feq q).1) (by simp)) (fun r => by first | exact gf q | exact absurd (r.symm.trans (feq q).1) (by simp))
theorem Go.ifeq {x : Int32} {o : Int} (pc' pc'' : Nat) (hd : decode code pc = .ok (.ifCond .eq o, 3)) (ho : 0 ≤ (pc : Int) + o) (hp : ((pc : Int) + o).toNat = pc') (hq : pc + 3 = pc'')
    (gt : x = 0 → Go nw p l e R s m args below meth c code ml nm ret Z a0 EL own P vm h k n pc' L S) (gf : ¬ x = 0 → Go nw p l e R s m args below meth c code ml nm ret Z a0 EL own P vm h k n pc'' L S) : Go nw p l e R s m args below meth c code ml nm ret Z a0 EL own P vm h k n pc L (.int x :: S) := by
  by_cases q : x = 0
  · exact Go.ifB pc' pc'' hd ho hp hq (fun r => by first | exact gt q | exact absurd (r.symm.trans ((if0 _ _).trans (teq q).1)) (by simp)) (fun r => by first | exact gf q | exact absurd (r.symm.trans ((if0 _ _).trans (teq q).1)) (by simp))
  · exact Go.ifB pc' pc'' hd ho hp hq (fun r => by first | exact gt q | exact absurd (r.symm.trans ((if0 _ _).trans (feq q).1)) (by simp)) (fun r => by first | exact gf q | exact absurd (r.symm.trans ((if0 _ _).trans (feq q).1)) (by simp))
theorem Go.if_icmpne {x y : Int32} {o : Int} (pc' pc'' : Nat) (hd : decode code pc = .ok (.if_icmp .ne o, 3)) (ho : 0 ≤ (pc : Int) + o) (hp : ((pc : Int) + o).toNat = pc') (hq : pc + 3 = pc'')
    (gt : ¬ x = y → Go nw p l e R s m args below meth c code ml nm ret Z a0 EL own P vm h k n pc' L S) (gf : x = y → Go nw p l e R s m args below meth c code ml nm ret Z a0 EL own P vm h k n pc'' L S) : Go nw p l e R s m args below meth c code ml nm ret Z a0 EL own P vm h k n pc L (.int y :: .int x :: S) := by
  by_cases q : x = y
  · exact Go.icmpB pc' pc'' hd ho hp hq (fun r => by first | exact gt q | exact absurd (r.symm.trans (teq q).2) (by simp)) (fun r => by first | exact gf q | exact absurd (r.symm.trans (teq q).2) (by simp))
  · exact Go.icmpB pc' pc'' hd ho hp hq (fun r => by first | exact gt q | exact absurd (r.symm.trans (feq q).2) (by simp)) (fun r => by first | exact gf q | exact absurd (r.symm.trans (feq q).2) (by simp))
theorem Go.ifne {x : Int32} {o : Int} (pc' pc'' : Nat) (hd : decode code pc = .ok (.ifCond .ne o, 3)) (ho : 0 ≤ (pc : Int) + o) (hp : ((pc : Int) + o).toNat = pc') (hq : pc + 3 = pc'')
    (gt : ¬ x = 0 → Go nw p l e R s m args below meth c code ml nm ret Z a0 EL own P vm h k n pc' L S) (gf : x = 0 → Go nw p l e R s m args below meth c code ml nm ret Z a0 EL own P vm h k n pc'' L S) : Go nw p l e R s m args below meth c code ml nm ret Z a0 EL own P vm h k n pc L (.int x :: S) := by
  by_cases q : x = 0
  · exact Go.ifB pc' pc'' hd ho hp hq (fun r => by first | exact gt q | exact absurd (r.symm.trans ((if0 _ _).trans (teq q).2)) (by simp)) (fun r => by first | exact gf q | exact absurd (r.symm.trans ((if0 _ _).trans (teq q).2)) (by simp))
  · exact Go.ifB pc' pc'' hd ho hp hq (fun r => by first | exact gt q | exact absurd (r.symm.trans ((if0 _ _).trans (feq q).2)) (by simp)) (fun r => by first | exact gf q | exact absurd (r.symm.trans ((if0 _ _).trans (feq q).2)) (by simp))
theorem Go.if_icmplt {x y : Int32} {o : Int} (pc' pc'' : Nat) (hd : decode code pc = .ok (.if_icmp .lt o, 3)) (ho : 0 ≤ (pc : Int) + o) (hp : ((pc : Int) + o).toNat = pc') (hq : pc + 3 = pc'')
    (gt : x < y → Go nw p l e R s m args below meth c code ml nm ret Z a0 EL own P vm h k n pc' L S) (gf : ¬ x < y → Go nw p l e R s m args below meth c code ml nm ret Z a0 EL own P vm h k n pc'' L S) : Go nw p l e R s m args below meth c code ml nm ret Z a0 EL own P vm h k n pc L (.int y :: .int x :: S) := by
  by_cases q : x < y
  · exact Go.icmpB pc' pc'' hd ho hp hq (fun r => by first | exact gt q | exact absurd (r.symm.trans (tlt q).1) (by simp)) (fun r => by first | exact gf q | exact absurd (r.symm.trans (tlt q).1) (by simp))
  · exact Go.icmpB pc' pc'' hd ho hp hq (fun r => by first | exact gt q | exact absurd (r.symm.trans (flt q).1) (by simp)) (fun r => by first | exact gf q | exact absurd (r.symm.trans (flt q).1) (by simp))
theorem Go.iflt {x : Int32} {o : Int} (pc' pc'' : Nat) (hd : decode code pc = .ok (.ifCond .lt o, 3)) (ho : 0 ≤ (pc : Int) + o) (hp : ((pc : Int) + o).toNat = pc') (hq : pc + 3 = pc'')
    (gt : x < 0 → Go nw p l e R s m args below meth c code ml nm ret Z a0 EL own P vm h k n pc' L S) (gf : ¬ x < 0 → Go nw p l e R s m args below meth c code ml nm ret Z a0 EL own P vm h k n pc'' L S) : Go nw p l e R s m args below meth c code ml nm ret Z a0 EL own P vm h k n pc L (.int x :: S) := by
  by_cases q : x < 0
  · exact Go.ifB pc' pc'' hd ho hp hq (fun r => by first | exact gt q | exact absurd (r.symm.trans ((if0 _ _).trans (tlt q).1)) (by simp)) (fun r => by first | exact gf q | exact absurd (r.symm.trans ((if0 _ _).trans (tlt q).1)) (by simp))
  · exact Go.ifB pc' pc'' hd ho hp hq (fun r => by first | exact gt q | exact absurd (r.symm.trans ((if0 _ _).trans (flt q).1)) (by simp)) (fun r => by first | exact gf q | exact absurd (r.symm.trans ((if0 _ _).trans (flt q).1)) (by simp))
theorem Go.if_icmpge {x y : Int32} {o : Int} (pc' pc'' : Nat) (hd : decode code pc = .ok (.if_icmp .ge o, 3)) (ho : 0 ≤ (pc : Int) + o) (hp : ((pc : Int) + o).toNat = pc') (hq : pc + 3 = pc'')
    (gt : ¬ x < y → Go nw p l e R s m args below meth c code ml nm ret Z a0 EL own P vm h k n pc' L S) (gf : x < y → Go nw p l e R s m args below meth c code ml nm ret Z a0 EL own P vm h k n pc'' L S) : Go nw p l e R s m args below meth c code ml nm ret Z a0 EL own P vm h k n pc L (.int y :: .int x :: S) := by
  by_cases q : x < y
  · exact Go.icmpB pc' pc'' hd ho hp hq (fun r => by first | exact gt q | exact absurd (r.symm.trans (tlt q).2.1) (by simp)) (fun r => by first | exact gf q | exact absurd (r.symm.trans (tlt q).2.1) (by simp))
  · exact Go.icmpB pc' pc'' hd ho hp hq (fun r => by first | exact gt q | exact absurd (r.symm.trans (flt q).2.1) (by simp)) (fun r => by first | exact gf q | exact absurd (r.symm.trans (flt q).2.1) (by simp))
theorem Go.ifge {x : Int32} {o : Int} (pc' pc'' : Nat) (hd : decode code pc = .ok (.ifCond .ge o, 3)) (ho : 0 ≤ (pc : Int) + o) (hp : ((pc : Int) + o).toNat = pc') (hq : pc + 3 = pc'')
    (gt : ¬ x < 0 → Go nw p l e R s m args below meth c code ml nm ret Z a0 EL own P vm h k n pc' L S) (gf : x < 0 → Go nw p l e R s m args below meth c code ml nm ret Z a0 EL own P vm h k n pc'' L S) : Go nw p l e R s m args below meth c code ml nm ret Z a0 EL own P vm h k n pc L (.int x :: S) := by
  by_cases q : x < 0
  · exact Go.ifB pc' pc'' hd ho hp hq (fun r => by first | exact gt q | exact absurd (r.symm.trans ((if0 _ _).trans (tlt q).2.1)) (by simp)) (fun r => by first | exact gf q | exact absurd (r.symm.trans ((if0 _ _).trans (tlt q).2.1)) (by simp))
  · exact Go.ifB pc' pc'' hd ho hp hq (fun r => by first | exact gt q | exact absurd (r.symm.trans ((if0 _ _).trans (flt q).2.1)) (by simp)) (fun r => by first | exact gf q | exact absurd (r.symm.trans ((if0 _ _).trans (flt q).2.1)) (by simp))
theorem Go.if_icmpgt {x y : Int32} {o : Int} (pc' pc'' : Nat) (hd : decode code pc = .ok (.if_icmp .gt o, 3)) (ho : 0 ≤ (pc : Int) + o) (hp : ((pc : Int) + o).toNat = pc') (hq : pc + 3 = pc'')
    (gt : y < x → Go nw p l e R s m args below meth c code ml nm ret Z a0 EL own P vm h k n pc' L S) (gf : ¬ y < x → Go nw p l e R s m args below meth c code ml nm ret Z a0 EL own P vm h k n pc'' L S) : Go nw p l e R s m args below meth c code ml nm ret Z a0 EL own P vm h k n pc L (.int y :: .int x :: S) := by
  by_cases q : y < x
  · exact Go.icmpB pc' pc'' hd ho hp hq (fun r => by first | exact gt q | exact absurd (r.symm.trans (tlt q).2.2.1) (by simp)) (fun r => by first | exact gf q | exact absurd (r.symm.trans (tlt q).2.2.1) (by simp))
  · exact Go.icmpB pc' pc'' hd ho hp hq (fun r => by first | exact gt q | exact absurd (r.symm.trans (flt q).2.2.1) (by simp)) (fun r => by first | exact gf q | exact absurd (r.symm.trans (flt q).2.2.1) (by simp))
theorem Go.ifgt {x : Int32} {o : Int} (pc' pc'' : Nat) (hd : decode code pc = .ok (.ifCond .gt o, 3)) (ho : 0 ≤ (pc : Int) + o) (hp : ((pc : Int) + o).toNat = pc') (hq : pc + 3 = pc'')
    (gt : 0 < x → Go nw p l e R s m args below meth c code ml nm ret Z a0 EL own P vm h k n pc' L S) (gf : ¬ 0 < x → Go nw p l e R s m args below meth c code ml nm ret Z a0 EL own P vm h k n pc'' L S) : Go nw p l e R s m args below meth c code ml nm ret Z a0 EL own P vm h k n pc L (.int x :: S) := by
  by_cases q : 0 < x
  · exact Go.ifB pc' pc'' hd ho hp hq (fun r => by first | exact gt q | exact absurd (r.symm.trans ((if0 _ _).trans (tlt q).2.2.1)) (by simp)) (fun r => by first | exact gf q | exact absurd (r.symm.trans ((if0 _ _).trans (tlt q).2.2.1)) (by simp))
  · exact Go.ifB pc' pc'' hd ho hp hq (fun r => by first | exact gt q | exact absurd (r.symm.trans ((if0 _ _).trans (flt q).2.2.1)) (by simp)) (fun r => by first | exact gf q | exact absurd (r.symm.trans ((if0 _ _).trans (flt q).2.2.1)) (by simp))
theorem Go.if_icmple {x y : Int32} {o : Int} (pc' pc'' : Nat) (hd : decode code pc = .ok (.if_icmp .le o, 3)) (ho : 0 ≤ (pc : Int) + o) (hp : ((pc : Int) + o).toNat = pc') (hq : pc + 3 = pc'')
    (gt : ¬ y < x → Go nw p l e R s m args below meth c code ml nm ret Z a0 EL own P vm h k n pc' L S) (gf : y < x → Go nw p l e R s m args below meth c code ml nm ret Z a0 EL own P vm h k n pc'' L S) : Go nw p l e R s m args below meth c code ml nm ret Z a0 EL own P vm h k n pc L (.int y :: .int x :: S) := by
  by_cases q : y < x
  · exact Go.icmpB pc' pc'' hd ho hp hq (fun r => by first | exact gt q | exact absurd (r.symm.trans (tlt q).2.2.2) (by simp)) (fun r => by first | exact gf q | exact absurd (r.symm.trans (tlt q).2.2.2) (by simp))
  · exact Go.icmpB pc' pc'' hd ho hp hq (fun r => by first | exact gt q | exact absurd (r.symm.trans (flt q).2.2.2) (by simp)) (fun r => by first | exact gf q | exact absurd (r.symm.trans (flt q).2.2.2) (by simp))
theorem Go.ifle {x : Int32} {o : Int} (pc' pc'' : Nat) (hd : decode code pc = .ok (.ifCond .le o, 3)) (ho : 0 ≤ (pc : Int) + o) (hp : ((pc : Int) + o).toNat = pc') (hq : pc + 3 = pc'')
    (gt : ¬ 0 < x → Go nw p l e R s m args below meth c code ml nm ret Z a0 EL own P vm h k n pc' L S) (gf : 0 < x → Go nw p l e R s m args below meth c code ml nm ret Z a0 EL own P vm h k n pc'' L S) : Go nw p l e R s m args below meth c code ml nm ret Z a0 EL own P vm h k n pc L (.int x :: S) := by
  by_cases q : 0 < x
  · exact Go.ifB pc' pc'' hd ho hp hq (fun r => by first | exact gt q | exact absurd (r.symm.trans ((if0 _ _).trans (tlt q).2.2.2)) (by simp)) (fun r => by first | exact gf q | exact absurd (r.symm.trans ((if0 _ _).trans (tlt q).2.2.2)) (by simp))
  · exact Go.ifB pc' pc'' hd ho hp hq (fun r => by first | exact gt q | exact absurd (r.symm.trans ((if0 _ _).trans (flt q).2.2.2)) (by simp)) (fun r => by first | exact gf q | exact absurd (r.symm.trans ((if0 _ _).trans (flt q).2.2.2)) (by simp))
theorem Go.ifnull_y {o : Int} (pc' : Nat) (hd : decode code pc = .ok (.ifnull o, 3)) (ho : 0 ≤ (pc : Int) + o) (hp : ((pc : Int) + o).toNat = pc') (g : Go nw p l e R s m args below meth c code ml nm ret Z a0 EL own P vm h k n pc' L S) : Go nw p l e R s m args below meth c code ml nm ret Z a0 EL own P vm h k n pc L (.null :: S) :=
  g.step fun T hT hx hc _ q => XS.ifnullYes hT hx rfl rfl (hb hc hd) rfl ho hp q
theorem Go.ifnull_n {o : Int} {b : Addr} (pc' : Nat) (hd : decode code pc = .ok (.ifnull o, 3)) (hp : pc + 3 = pc') (g : Go nw p l e R s m args below meth c code ml nm ret Z a0 EL own P vm h k n pc' L S) : Go nw p l e R s m args below meth c code ml nm ret Z a0 EL own P vm h k n pc L (.ref b :: S) := by
  subst hp; exact g.step fun T hT hx hc _ q => XS.ifnullNo hT hx rfl (hb hc hd) rfl q
theorem Go.ifnonnull_y {o : Int} {b : Addr} (pc' : Nat) (hd : decode code pc = .ok (.ifnonnull o, 3)) (ho : 0 ≤ (pc : Int) + o) (hp : ((pc : Int) + o).toNat = pc') (g : Go nw p l e R s m args below meth c code ml nm ret Z a0 EL own P vm h k n pc' L S) : Go nw p l e R s m args below meth c code ml nm ret Z a0 EL own P vm h k n pc L (.ref b :: S) :=
  g.step fun T hT hx hc _ q => XS.ifnonnullYes hT hx rfl rfl (hb hc hd) rfl ho hp q
theorem Go.ifnonnull_n {o : Int} (pc' : Nat) (hd : decode code pc = .ok (.ifnonnull o, 3)) (hp : pc + 3 = pc') (g : Go nw p l e R s m args below meth c code ml nm ret Z a0 EL own P vm h k n pc' L S) : Go nw p l e R s m args below meth c code ml nm ret Z a0 EL own P vm h k n pc L (.null :: S) := by
  subst hp; exact g.step fun T hT hx hc _ q => XS.ifnonnullNo hT hx rfl (hb hc hd) rfl q
theorem Go.acmp_y {cd : ClassFile.ACond} {x y : Value} {o : Int} (pc' : Nat) (hd : decode code pc = .ok (.if_acmp cd o, 3)) (ho : 0 ≤ (pc : Int) + o) (hp : ((pc : Int) + o).toNat = pc') (h1 : x.isRef = true) (h2 : y.isRef = true) (hq : XT.acmp cd x y = true) (g : Go nw p l e R s m args below meth c code ml nm ret Z a0 EL own P vm h k n pc' L S) : Go nw p l e R s m args below meth c code ml nm ret Z a0 EL own P vm h k n pc L (y :: x :: S) :=
  g.step fun T hT hx hc _ q => XT.acmpYes hT hx rfl rfl (hb hc hd) rfl h1 h2 hq ho hp q
theorem Go.acmp_n {cd : ClassFile.ACond} {x y : Value} {o : Int} (pc' : Nat) (hd : decode code pc = .ok (.if_acmp cd o, 3)) (hp : pc + 3 = pc') (h1 : x.isRef = true) (h2 : y.isRef = true) (hq : XT.acmp cd x y = false) (g : Go nw p l e R s m args below meth c code ml nm ret Z a0 EL own P vm h k n pc' L S) : Go nw p l e R s m args below meth c code ml nm ret Z a0 EL own P vm h k n pc L (y :: x :: S) := by
  subst hp; exact g.step fun T hT hx hc _ q => XT.acmpNo hT hx rfl (hb hc hd) rfl h1 h2 hq q
theorem Go.getfield {O n' d : String} {idx : Nat} {a : Addr} {v : Value} (pc' : Nat) (hd : decode code pc = .ok (.getfield idx, 3)) (hp : pc + 3 = pc') (w : (Cond.fieldLink own idx O n' d).before a0 Z = true) (F : Fld Z h a O n' d v) (g : Go nw p l e R s m args below meth c code ml nm ret Z a0 EL own P vm h k n pc' L (v :: S)) : Go nw p l e R s m args below meth c code ml nm ret Z a0 EL own P vm h k n pc L (.ref a :: S) := by
  subst hp
  exact g.note fun T locs cells slots X hh hx hc hm hon => getF X hx hon.2.1 (host := "") hon.2.2.1 (Or.inl w) Via.refl hh F (g := mkF m pc L (.ref a :: S)) rfl rfl (hb hc hd)
theorem Go.getfieldV {R0 O n' d : String} {idx : Nat} {a : Addr} {v : Value} (pc' : Nat) (hd : decode code pc = .ok (.getfield idx, 3)) (hp : pc + 3 = pc') (w : (Cond.fieldLink own idx R0 n' d).before a0 Z = true) (via : (Cond.sameField R0 O n' d).before a0 Z = true) (F : Fld Z h a O n' d v) (g : Go nw p l e R s m args below meth c code ml nm ret Z a0 EL own P vm h k n pc' L (v :: S)) : Go nw p l e R s m args below meth c code ml nm ret Z a0 EL own P vm h k n pc L (.ref a :: S) := by
  subst hp
  exact g.note fun T locs cells slots X hh hx hc hm hon => getF X hx hon.2.1 (host := "") hon.2.2.1 (Or.inl w) (Via.of via) hh F (g := mkF m pc L (.ref a :: S)) rfl rfl (hb hc hd)
theorem Go.getstatic {O n' d : String} {idx : Nat} {v : Value} (pc' : Nat) (hd : decode code pc = .ok (.getstatic idx, 3)) (hp : pc + 3 = pc') (w : (Cond.fieldLink own idx O n' d).before a0 Z = true) (F : Sta Z h O n' d v) (g : Go nw p l e R s m args below meth c code ml nm ret Z a0 EL own P vm h k n pc' L (v :: S)) : Go nw p l e R s m args below meth c code ml nm ret Z a0 EL own P vm h k n pc L S := by
  subst hp
  exact g.note fun T locs cells slots X hh hx hc hm hon => getS X hx hon.2.1 (host := "") hon.2.2.1 w Via.refl hh F (g := mkF m pc L S) rfl (hb hc hd)
theorem Go.putfield {O n' d C : String} {idx kk : Nat} {ty : FieldType} {a : Addr} {v v0 : Value} (pc' : Nat) (hd : decode code pc = .ok (.putfield idx, 3)) (hp : pc + 3 = pc') (w : (Cond.fieldLink own idx O n' d).before a0 Z = true) (F : Fld Z h a O n' d v0) (E : Exa Z h a C)
    (Lf : (Cond.lays C O n' d).before a0 Z = true ∨ ((Cond.laysFinal C O n' d).before a0 Z = true ∧ own = O ∧ nm = "<init>")) (wi : (Cond.instantiable C kk).before a0 Z = true) (hty : parseFieldDescriptor d = some ty) (hn' : narrow ty v = v) (hf : fits ty v = true)
    (Sa : Safe Z EL vm h a) (hz : Z.heap.size ≤ a) (g : ∀ h', Wr h h' a (RoadKit.slotOf Z O n' d) v → Safe Z EL vm h' a → CHr Z EL vm h vm h' → Go nw p l e R s m args below meth c code ml nm ret Z a0 EL own P vm h' k n pc' L S) : Go nw p l e R s m args below meth c code ml nm ret Z a0 EL own P vm h k n pc L (v :: .ref a :: S) := by
  subst hp
  refine Go.wrote Sa hz (fun T locs cells slots X hh hx hc hm hnm hon => ?_) g
  exact putF X hx hon.2.1 (host := "") hon.2.2.1 (Or.inl w) Via.refl hh F E (Lf.imp id fun q => ⟨q.1, q.2.1, hnm.trans q.2.2⟩) wi hty hn' hf (g := mkF m pc L (v :: .ref a :: S)) rfl rfl (hb hc hd)
theorem Go.putfieldV {R0 O n' d C : String} {idx kk : Nat} {ty : FieldType} {a : Addr} {v v0 : Value} (pc' : Nat) (hd : decode code pc = .ok (.putfield idx, 3)) (hp : pc + 3 = pc') (w : (Cond.fieldLink own idx R0 n' d).before a0 Z = true) (via : (Cond.sameField R0 O n' d).before a0 Z = true) (F : Fld Z h a O n' d v0) (E : Exa Z h a C)
    (Lf : (Cond.lays C O n' d).before a0 Z = true ∨ ((Cond.laysFinal C O n' d).before a0 Z = true ∧ own = O ∧ nm = "<init>")) (wi : (Cond.instantiable C kk).before a0 Z = true) (hty : parseFieldDescriptor d = some ty) (hn' : narrow ty v = v) (hf : fits ty v = true)
    (Sa : Safe Z EL vm h a) (hz : Z.heap.size ≤ a) (g : ∀ h', Wr h h' a (RoadKit.slotOf Z O n' d) v → Safe Z EL vm h' a → CHr Z EL vm h vm h' → Go nw p l e R s m args below meth c code ml nm ret Z a0 EL own P vm h' k n pc' L S) : Go nw p l e R s m args below meth c code ml nm ret Z a0 EL own P vm h k n pc L (v :: .ref a :: S) := by
  subst hp
  refine Go.wrote Sa hz (fun T locs cells slots X hh hx hc hm hnm hon => ?_) g
  exact putF X hx hon.2.1 (host := "") hon.2.2.1 (Or.inl w) (Via.of via) hh F E (Lf.imp id fun q => ⟨q.1, q.2.1, hnm.trans q.2.2⟩) wi hty hn' hf (g := mkF m pc L (v :: .ref a :: S)) rfl rfl (hb hc hd)
theorem Go.new {C : String} {idx nf : Nat} (pc' : Nat) (hd : decode code pc = .ok (.new idx, 3)) (hp : pc + 3 = pc') (w : (Cond.classLink own idx C).before a0 Z = true) (wi : (Cond.instantiable C nf).before a0 Z = true) (wz : (Cond.initialized C).before a0 Z = true) (hk0 : k + 1 ≤ R.cells) (hn0 : n + nf ≤ R.slots)
    (g : ∀ a h', a = h.size → Ext h h' → (Exa Z h' a C ∧ ∀ {O n' d : String} {ty : FieldType}, Laid Z a0 C O n' d → parseFieldDescriptor d = some ty → Fld Z h' a O n' d (defaultValue ty)) → Safe Z EL vm h' a → Z.heap.size ≤ a → CHr Z EL vm h vm h' → Go nw p l e R s m args below meth c code ml nm ret Z a0 EL own P vm h' (k + 1) (n + nf) pc' L (.ref a :: S)) : Go nw p l e R s m args below meth c code ml nm ret Z a0 EL own P vm h k n pc L S := by
  subst hp
  refine Go.made (dk := 1) (dn := nf) (S' := fun a => .ref a :: S) (F := fun h' a => Exa Z h' a C ∧ ∀ {O n' d : String} {ty : FieldType}, Laid Z a0 C O n' d → parseFieldDescriptor d = some ty → Fld Z h' a O n' d (defaultValue ty)) hk0 hn0 (fun T locs cells slots X hh hx hc hm hon q1 q2 => ?_) g
  obtain ⟨T', h', X', e', E, A, D, -, st⟩ := newO X hx hon.2.1 hon.2.2.1 w wi wz hh (g := mkF m pc L S) rfl (hb hc hd) q1 q2
  exact ⟨T', h', X', e', E, ⟨A, D⟩, st⟩
theorem Go.newarray {aty : ArrayType} {z : Int32} (cap : Nat) (pc' : Nat) (hd : decode code pc = .ok (.newarray aty, 2)) (hp : pc + 2 = pc') (w : (Cond.arrayClass (newarray.typeOf aty)).before a0 Z = true) (hz : ¬ z < 0) (hcap : z.toNatClampNeg ≤ cap) (hb8 : cap * 8 ≤ 536870912) (hk0 : k + 1 ≤ R.cells) (hn0 : n + cap ≤ R.slots)
    (g : ∀ a h', a = h.size → Ext h h' → (∃ cA, Arv Z h' a cA (newarray.typeOf aty) z [] (defaultValue (newarray.typeOf aty))) → Safe Z EL vm h' a → Z.heap.size ≤ a → CHr Z EL vm h vm h' → Go nw p l e R s m args below meth c code ml nm ret Z a0 EL own P vm h' (k + 1) (n + cap) pc' L (.ref a :: S)) : Go nw p l e R s m args below meth c code ml nm ret Z a0 EL own P vm h k n pc L (.int z :: S) := by
  subst hp
  refine Go.made (dk := 1) (dn := cap) (S' := fun a => .ref a :: S) (F := fun h' a => ∃ cA, Arv Z h' a cA (newarray.typeOf aty) z [] (defaultValue (newarray.typeOf aty))) hk0 hn0 (fun T locs cells slots X hh hx hc hm hon q1 q2 => ?_) g
  obtain ⟨T', h', cA, X', e', E, A, st⟩ := newP X hx hon.2.1 w hh (g := mkF m pc L (.int z :: S)) rfl (hb hc hd) rfl hz hcap hb8 q1 q2
  exact ⟨T', h', X', e', E, ⟨cA, Arv.new A hz⟩, st⟩
theorem Go.arraylength {a : Addr} {kA : ClassId} {ty : FieldType} {z : Int32} {vs : List Value} {dv : Value} (pc' : Nat) (hd : decode code pc = .ok (.arraylength, 1)) (hp : pc + 1 = pc') (A : Arv Z h a kA ty z vs dv) (g : Go nw p l e R s m args below meth c code ml nm ret Z a0 EL own P vm h k n pc' L (.int z :: S)) : Go nw p l e R s m args below meth c code ml nm ret Z a0 EL own P vm h k n pc L (.ref a :: S) := by
  subst hp
  refine g.note fun T locs cells slots X hh hx hc hm hon => ⟨T, X, hh, fun target q => ?_⟩
  obtain ⟨cl, A1, A2, A3, A4, A5, A6⟩ := A
  refine X.arraylength hx (cell := cl) (by rw [hh]; exact A1.1) (State.isArrayOf_alike hon.2.1.alike A1.2.1) (g := mkF m pc L (.ref a :: S)) rfl (rest := S) rfl (hb hc hd) _ ?_
  rw [len_of A3 A4]; exact q
theorem Go.caload {a : Addr} {kA : ClassId} {z j : Int32} {vs : List Value} {dv : Value} (v : Value) (pc' : Nat) (hd : decode code pc = .ok (.caload, 1)) (hp : pc + 1 = pc') (A : Arv Z h a kA .char z vs dv) (hj : ¬ j < 0 ∧ j < z) (hv : vs.getD j.toNatClampNeg dv = v) (g : Go nw p l e R s m args below meth c code ml nm ret Z a0 EL own P vm h k n pc' L (v :: S)) : Go nw p l e R s m args below meth c code ml nm ret Z a0 EL own P vm h k n pc L (.int j :: .ref a :: S) := by
  subst hp
  refine g.note fun T locs cells slots X hh hx hc hm hon => ⟨T, X, hh, fun target q => ?_⟩
  obtain ⟨cl, A1, A2, A3, A4, A5, A6⟩ := A
  have hin := inb_of A3 hj
  exact X.caload hx (by rw [hh]; exact A1.1) (State.isArrayOf_alike hon.2.1.alike A1.2.1) A1.2.2 hin (A5.at hin hv) (g := mkF m pc L (.int j :: .ref a :: S)) rfl rfl (hb hc hd) _ q
theorem Go.iaload {a : Addr} {kA : ClassId} {z j : Int32} {vs : List Value} {dv : Value} (v : Value) (pc' : Nat) (hd : decode code pc = .ok (.iaload, 1)) (hp : pc + 1 = pc') (A : Arv Z h a kA .int z vs dv) (hj : ¬ j < 0 ∧ j < z) (hv : vs.getD j.toNatClampNeg dv = v) (g : Go nw p l e R s m args below meth c code ml nm ret Z a0 EL own P vm h k n pc' L (v :: S)) : Go nw p l e R s m args below meth c code ml nm ret Z a0 EL own P vm h k n pc L (.int j :: .ref a :: S) := by
  subst hp
  refine g.note fun T locs cells slots X hh hx hc hm hon => ⟨T, X, hh, fun target q => ?_⟩
  obtain ⟨cl, A1, A2, A3, A4, A5, A6⟩ := A
  have hin := inb_of A3 hj
  exact X.iaload hx (by rw [hh]; exact A1.1) (State.isArrayOf_alike hon.2.1.alike A1.2.1) A1.2.2 hin (A5.at hin hv) (g := mkF m pc L (.int j :: .ref a :: S)) rfl rfl (hb hc hd) _ q
theorem Go.baload {a : Addr} {kA : ClassId} {z j : Int32} {vs : List Value} {dv : Value} (v : Value) (pc' : Nat) (hd : decode code pc = .ok (.baload, 1)) (hp : pc + 1 = pc') (A : Arv Z h a kA .byte z vs dv) (hj : ¬ j < 0 ∧ j < z) (hv : vs.getD j.toNatClampNeg dv = v) (g : Go nw p l e R s m args below meth c code ml nm ret Z a0 EL own P vm h k n pc' L (v :: S)) : Go nw p l e R s m args below meth c code ml nm ret Z a0 EL own P vm h k n pc L (.int j :: .ref a :: S) := by
  subst hp
  refine g.note fun T locs cells slots X hh hx hc hm hon => ⟨T, X, hh, fun target q => ?_⟩
  obtain ⟨cl, A1, A2, A3, A4, A5, A6⟩ := A
  have hin := inb_of A3 hj
  exact X.baloadBytes hx (by rw [hh]; exact A1.1) (State.isArrayOf_alike hon.2.1.alike A1.2.1) A1.2.2 hin (A5.at hin hv) (g := mkF m pc L (.int j :: .ref a :: S)) rfl rfl (hb hc hd) _ q
theorem Go.aaload {a : Addr} {kA : ClassId} {ty : FieldType} {z j : Int32} {vs : List Value} {dv : Value} (v : Value) (pc' : Nat) (hd : decode code pc = .ok (.aaload, 1)) (hp : pc + 1 = pc') (A : Arv Z h a kA ty z vs dv) (hty : ty.isReference = true) (hj : ¬ j < 0 ∧ j < z) (hv : vs.getD j.toNatClampNeg dv = v) (g : Go nw p l e R s m args below meth c code ml nm ret Z a0 EL own P vm h k n pc' L (v :: S)) : Go nw p l e R s m args below meth c code ml nm ret Z a0 EL own P vm h k n pc L (.int j :: .ref a :: S) := by
  subst hp
  refine g.note fun T locs cells slots X hh hx hc hm hon => ⟨T, X, hh, fun target q => ?_⟩
  obtain ⟨cl, A1, A2, A3, A4, A5, A6⟩ := A
  have hin := inb_of A3 hj
  exact X.aaload hx (by rw [hh]; exact A1.1) (State.isArrayOf_alike hon.2.1.alike A1.2.1) hty A1.2.2 hin (A5.at hin hv) (g := mkF m pc L (.int j :: .ref a :: S)) rfl rfl (hb hc hd) _ q
theorem Go.castore {a : Addr} {kA : ClassId} {z j x : Int32} {vs : List Value} {dv : Value} (i : Nat) (y : Int32) (vs' : List Value) (pc' : Nat) (hd : decode code pc = .ok (.castore, 1)) (hp : pc + 1 = pc') (A : Arv Z h a kA .char z vs dv) (hj : ¬ j < 0 ∧ j < z) (hi : j.toNatClampNeg = i) (hl : i < vs.length) (hy : nar .char x = y) (hvs : vs.set i (.int y) = vs') (Sa : Safe Z EL vm h a) (hz : Z.heap.size ≤ a)
    (g : ∀ h', Keep h h' [a] → Arv Z h' a kA .char z vs' dv → Safe Z EL vm h' a → CHr Z EL vm h vm h' → Go nw p l e R s m args below meth c code ml nm ret Z a0 EL own P vm h' k n pc' L S) : Go nw p l e R s m args below meth c code ml nm ret Z a0 EL own P vm h k n pc L (.int x :: .int j :: .ref a :: S) := by
  subst hp hy hvs
  obtain ⟨cl, A1, A2, A3, A4, A5, A6⟩ := A
  have hin := inb_of A3 hj
  refine Go.wrote Sa hz (sl := j.toNatClampNeg) (w := .int (nar .char x)) (fun T locs cells slots X hh hx hc hm hnm hon => ?_) (fun h' W s2 ch => g h' (Keep.of_wr W) (Arv.set A1 A2 A3 A4 A5 A6 (fits_nar_char _) W i hi hl) s2 ch)
  exact stC X hx hon.2.1 hh A1 hin (g := mkF m pc L (.int x :: .int j :: .ref a :: S)) rfl rfl (hb hc hd)
theorem Go.iastore {a : Addr} {kA : ClassId} {z j x : Int32} {vs : List Value} {dv : Value} (i : Nat) (y : Int32) (vs' : List Value) (pc' : Nat) (hd : decode code pc = .ok (.iastore, 1)) (hp : pc + 1 = pc') (A : Arv Z h a kA .int z vs dv) (hj : ¬ j < 0 ∧ j < z) (hi : j.toNatClampNeg = i) (hl : i < vs.length) (hy : x = y) (hvs : vs.set i (.int y) = vs') (Sa : Safe Z EL vm h a) (hz : Z.heap.size ≤ a)
    (g : ∀ h', Keep h h' [a] → Arv Z h' a kA .int z vs' dv → Safe Z EL vm h' a → CHr Z EL vm h vm h' → Go nw p l e R s m args below meth c code ml nm ret Z a0 EL own P vm h' k n pc' L S) : Go nw p l e R s m args below meth c code ml nm ret Z a0 EL own P vm h k n pc L (.int x :: .int j :: .ref a :: S) := by
  subst hp hy hvs
  obtain ⟨cl, A1, A2, A3, A4, A5, A6⟩ := A
  have hin := inb_of A3 hj
  refine Go.wrote Sa hz (sl := j.toNatClampNeg) (w := .int (x)) (fun T locs cells slots X hh hx hc hm hnm hon => ?_) (fun h' W s2 ch => g h' (Keep.of_wr W) (Arv.set A1 A2 A3 A4 A5 A6 (rfl) W i hi hl) s2 ch)
  exact stI X hx hon.2.1 hh A1 hin (g := mkF m pc L (.int x :: .int j :: .ref a :: S)) rfl rfl (hb hc hd)
theorem Go.bastore {a : Addr} {kA : ClassId} {z j x : Int32} {vs : List Value} {dv : Value} (i : Nat) (y : Int32) (vs' : List Value) (pc' : Nat) (hd : decode code pc = .ok (.bastore, 1)) (hp : pc + 1 = pc') (A : Arv Z h a kA .byte z vs dv) (hj : ¬ j < 0 ∧ j < z) (hi : j.toNatClampNeg = i) (hl : i < vs.length) (hy : x.toInt8.toInt32 = y) (hvs : vs.set i (.int y) = vs') (Sa : Safe Z EL vm h a) (hz : Z.heap.size ≤ a)
    (g : ∀ h', Keep h h' [a] → Arv Z h' a kA .byte z vs' dv → Safe Z EL vm h' a → CHr Z EL vm h vm h' → Go nw p l e R s m args below meth c code ml nm ret Z a0 EL own P vm h' k n pc' L S) : Go nw p l e R s m args below meth c code ml nm ret Z a0 EL own P vm h k n pc L (.int x :: .int j :: .ref a :: S) := by
  subst hp hy hvs
  obtain ⟨cl, A1, A2, A3, A4, A5, A6⟩ := A
  have hin := inb_of A3 hj
  refine Go.wrote Sa hz (sl := j.toNatClampNeg) (w := .int (x.toInt8.toInt32)) (fun T locs cells slots X hh hx hc hm hnm hon => ?_) (fun h' W s2 ch => g h' (Keep.of_wr W) (Arv.set A1 A2 A3 A4 A5 A6 (fits_nar_byte _) W i hi hl) s2 ch)
  exact stB X hx hon.2.1 hh A1 hin (g := mkF m pc L (.int x :: .int j :: .ref a :: S)) rfl rfl (hb hc hd)
theorem Go.fin {v : Option Value} (hk0 : k ≤ R.cells) (hn0 : n ≤ R.slots) (hv : ret = none → v = none) (hP : ∀ vm', CHr Z EL vm h vm' h → P v vm' h)
    (st : ∀ (T : State) (locs : List Loc) (cells slots : Nat), Stand p l e R (s.setVm vm) m args below meth c T locs cells slots → p.tables.exec = Jvm.exec → c.code = code → meth.sig.returnType = ret → ∀ fs : List Frame, (∀ (f : JFrame) (acts : List Action), f.method = m → f.locked = none → f.entered = [] → (doReturn e (T.setTop f) acts v).1 = T.setFrames fs) → Steps p.tables e below (T.setTop (mkF m pc L S)) (T.setFrames fs)) : Go nw p l e R s m args below meth c code ml nm ret Z a0 EL own P vm h k n pc L S := by
  intro hx hc hm hl hnm hr hon T locs cells slots X hh hF hk hn
  obtain ⟨⟨k0, a1, a2⟩, a3, a4, a5, a6, a7, a8⟩ := hon
  obtain ⟨fs, h1, h2, h3, h4⟩ := X.leaveW a1 (by rw [hh]; exact a2) (v := v) (fun q => hv (hr ▸ q)) hl
  have ch : CHr Z EL vm h T.vm h := CHv.at X a3 a7 a5
  have hh' : (T.setFrames fs).heap = h := hh
  refine ⟨_, v, st T locs cells slots X hx hc hr fs h1, h2, h3, by rw [hh']; exact hP _ ch, by rw [hh']; exact ch, by rw [hh']; exact a6, locs, hF, ?_, fun q => ?_⟩
  · obtain ⟨q1, q2, q3, q4⟩ := h4
    exact ⟨q1, q2, q3, q4.mono (Nat.le_trans hk hk0) (Nat.le_trans hn hn0)⟩
  · exact State.WarmedH.trans (t := s.setVm vm) (a8 q) X.warmed
theorem Go.return_ (hd : decode code pc = .ok (.return_, 1)) (hr : ret = none) (hk0 : k ≤ R.cells) (hn0 : n ≤ R.slots) (hP : ∀ vm', CHr Z EL vm h vm' h → P none vm' h) : Go nw p l e R s m args below meth c code ml nm ret Z a0 EL own P vm h k n pc L ([]) :=
  Go.fin (v := none) hk0 hn0 (fun _ => rfl) hP fun T locs cells slots X hx hc hrt fs hl => X.returnOut hx (hrt.trans hr) (hb hc hd) hl
theorem Go.areturn {t : FieldType} {w : Value} (hd : decode code pc = .ok (.areturn, 1)) (hr : ret = some t) (ht : t.isReference = true) (hw : w.isRef = true) (hk0 : k ≤ R.cells) (hn0 : n ≤ R.slots) (hP : ∀ vm', CHr Z EL vm h vm' h → P (some w) vm' h) : Go nw p l e R s m args below meth c code ml nm ret Z a0 EL own P vm h k n pc L (w :: S) :=
  Go.fin (v := some w) hk0 hn0 (fun q => by rw [hr] at q; cases q) hP fun T locs cells slots X hx hc hrt fs hl => retOut X hx (hrt.trans hr) (by cases t <;> first | rfl | cases ht) (Or.inr (Or.inr (Or.inr (Or.inr ⟨rfl, ht, hw⟩)))) (hb hc hd) hl
theorem Go.ireturn {t : FieldType} {x : Int32} (hd : decode code pc = .ok (.ireturn, 1)) (hr : ret = some t) (hn' : narrow t (.int x) = .int x) (ht : t = .int ∨ t = .boolean ∨ t = .byte ∨ t = .char ∨ t = .short) (hk0 : k ≤ R.cells) (hn0 : n ≤ R.slots) (hP : ∀ vm', CHr Z EL vm h vm' h → P (some (.int x)) vm' h) : Go nw p l e R s m args below meth c code ml nm ret Z a0 EL own P vm h k n pc L (.int x :: S) :=
  Go.fin (v := some (.int x)) hk0 hn0 (fun q => by rw [hr] at q; cases q) hP fun T locs cells slots X hx hc hrt fs hl => retOut X hx (hrt.trans hr) hn' (Or.inl ⟨rfl, ht, _, rfl⟩) (hb hc hd) hl
theorem Go.initObject {idx : Nat} {a : Addr} (W : Nat) (pc' : Nat) (hd : decode code pc = .ok (.invokespecial idx, 3)) (hp : pc + 3 = pc') (w1 : (Cond.methodLink own idx Lib.objectInit).before a0 Z = true) (w2 : (Cond.instanceMethod Lib.objectInit).before a0 Z = true) (w3 : (Cond.code Lib.objectInit ⟨#[0xb1]⟩ 1 none).before a0 Z = true)
    (hsz : L.size = ml) (hf : 1 ≤ R.frames) (hW : (S.map fun v => v.category).sum ≤ W) (hl : W + 12 ≤ R.locals) (g : Go nw p l e R s m args below meth c code ml nm ret Z a0 EL own P vm h k n pc' L S) : Go nw p l e R s m args below meth c code ml nm ret Z a0 EL own P vm h k n pc L (.ref a :: S) := by
  subst hp
  exact g.note fun T locs cells slots X hh hx hc hm hon => initO X hx hon.2.1 hon.2.2.1 w1 w2 w3 hh (g := mkF m pc L (.ref a :: S)) rfl (hsz.trans hm.symm) rfl (hb hc hd) hf (by show 2 * 0 + _ ≤ _; omega) hl
/-- what a callee promises: at the heap h and tables that have booked no more than vm -/
def Ctr (nw : Bool) (l : Launch) (Z : State) (a0 : Array Value) (EL : List (String × Nat)) (y : MethodName) (code : ByteArray) (ml : Nat) (ret : Option FieldType) (rm : Room) (as' : Array Value) (vm : Vm) (h : Heap) (Q : Option Value → Vm → Heap → Prop) : Prop :=
  ∀ ws : List Jvm.Cond, MetFree l y (head1 (Jvm.Cond.code y code ml ret :: ws) rm) (fun a U => a = as' ∧ Z.Warmed39 U.vm ∧ U.heap = h ∧ CHr Z EL vm h U.vm h ∧ Ext Z.heap h ∧ EW Z a0 EL) (fun _ _ _ _ _ => True)
    (fun _ U o U' => ∃ v L, o = .returned v ∧ Q v U'.vm U'.heap ∧ CHr Z EL U.vm h U'.vm U'.heap ∧ Ext Z.heap U'.heap ∧ Fr Z.heap.size L ∧ ReturnedEndW U o U' L rm.cells rm.slots ∧ (nw = true → U.WarmedH U'.vm))
theorem Ctr.of_go {y : MethodName} {rm : Room} {as' : Array Value} {Q : Option Value → Vm → Heap → Prop} {L0 : Array Slot} (hpn : plainFor y = true) (hent : ∀ m, entryFrame m as' ml = mkF m 0 L0 [])
    (body : ∀ (p : Program) (e : Env) (s : State) (m : MethodId) (below : List Frame) (meth : Method) (c : Code) (vm1 : Vm), CHr Z EL vm h vm1 h → Go nw p l e rm s m as' below meth c code ml y.name ret Z a0 EL y.cls Q vm1 h 0 0 0 L0 []) : Ctr nw l Z a0 EL y code ml ret rm as' vm h Q := by
  intro ws
  refine MetFree.of_bodySF hpn hisR ?_
  intro p e s m args below meth c s₁ Bd hml0 hP hK
  obtain ⟨rfl, hZ, hh, hch, hext, hew⟩ := hP
  have e0 : s₁.heap = h := by rw [← hh, Bd.state]; rfl
  have X0 : Stand p l e rm (s.setVm s.vm) m args below meth c s₁ [] 0 0 := Stand.of_body Bd
  obtain ⟨s₂, v, st, h1, h2, h3, h4, hE, L', h5, h6, h7⟩ := body p e s m below meth c s.vm hch Bd.exec Bd.bytes hml0 Bd.notSynchronized (name_of_methodNamed Bd.named Bd.method).1 Bd.returns
    ⟨⟨0, (State.WarmedH.refl s).since _, Nat.zero_le _⟩, hZ, findClass_of_methodNamed Bd.named, hch.1, hext, hew, fun _ => State.WarmedH.refl s⟩ s₁ [] 0 0 X0 e0 (Fr.nil _) (Nat.le_refl _) (Nat.le_refl _)
  exact ⟨s₂, _, castTop (hent m) st, h1, h2, v, L', rfl, h3, h4, hE, h5, h6, h7⟩
/-- the callee's contract, as a call wants it -/
theorem Ctr.back {y : MethodName} {code' : ByteArray} {ml' : Nat} {ret' : Option FieldType} {rm : Room} {as' : Array Value} {Q : Option Value → Vm → Heap → Prop} {len W : Nat} (C : Ctr nw l Z a0 EL y code' ml' ret' rm as' vm h Q) (hon : On nw s m Z a0 EL own vm h)
    (wc : (Jvm.Cond.code y code' ml' ret').before a0 Z = true) (wz : (Jvm.Cond.initialized y.cls).before a0 Z = true) (hf : rm.frames + 1 ≤ R.frames) (hl : W + (ml' + 11) + rm.locals ≤ R.locals) :
    BackS l R p e below (s.setVm vm) args y len W (fun A a => a = as' ∧ A.U.heap = h ∧ A.cells + rm.cells ≤ R.cells ∧ A.slots + rm.slots ≤ R.slots)
      (fun A _ v B => ∃ L, Q v B.U.vm B.U.heap ∧ CHr Z EL vm h B.U.vm B.U.heap ∧ Ext Z.heap B.U.heap ∧ Fr Z.heap.size L ∧ B.locs = A.locs ++ L ∧ B.cells = A.cells + rm.cells ∧ B.slots = A.slots + rm.slots ∧ (nw = true → s.WarmedH B.U.vm)) := by
  obtain ⟨⟨k0, a1, a2⟩, a3, a4, a5, a6, a7, a8⟩ := hon
  refine BackS.of_freeW (bytes := code') (maxL := ml') (ret := ret') (E := fun _ first o t L k n => k = rm.cells ∧ n = rm.slots ∧ (∃ v, o = .returned v ∧ Q v t.vm t.heap) ∧ CHr Z EL first.vm h t.vm t.heap ∧ Ext Z.heap t.heap ∧ Fr Z.heap.size L ∧ (nw = true → first.WarmedH t.vm)) (C []) hf hl
    (fun m meth c A a Y hp => have hU : Z.Warmed39 A.U.vm := wtrans (s := s.setVm vm) a3 Y.warmed
      ⟨by show (Jvm.Cond.and _ .tt).before a A.U = true; rw [Cond.before_and, mv hU wc]; rfl, mv hU wc, mv hU wz, hp.2.2.1, hp.2.2.2⟩)
    (fun m meth c A a g mk Y hp => ⟨hp.1, wtrans (s := s.setVm vm) a3 Y.warmed, hp.2.1, (show CHr Z EL vm h A.U.vm h from CHv.at Y a3 a7 a5), a6, a7⟩) (fun _ _ _ _ _ _ _ _ _ => trivial)
    (fun _ _ _ _ ⟨v, L, h1, h2, h3, hE, h4, h5, h6⟩ => ⟨L, _, _, h5, rfl, rfl, ⟨v, h1, h2⟩, h3, hE, h4, h6⟩)
    (fun m meth c A a g mk v t L k n Y hp _ _ hE => ?_)
  obtain ⟨e1, e2, ⟨v', e3, e4⟩, e5, e5', e6, e7⟩ := hE
  cases e3; subst e1 e2
  refine ⟨L, e4, (CHv.at Y a3 a7 a5).trans e5, e5', e6, rfl, rfl, rfl, fun q => ?_⟩
  have w1 : s.WarmedH A.U.vm := State.WarmedH.trans (t := s.setVm vm) (a8 q) Y.warmed
  exact State.WarmedH.trans (t := A.U) w1 (e7 q)
/-- behind a call that a BackS pays -/
theorem Go.called {rm : Room} {Q : Option Value → Vm → Heap → Prop} {len pc' : Nat} {rest : List Value} (hp : pc + len = pc') (hk0 : k + rm.cells ≤ R.cells) (hn0 : n + rm.slots ≤ R.slots)
    (st : ∀ T locs cells slots, Stand p l e R (s.setVm vm) m args below meth c T locs cells slots → T.heap = h → p.tables.exec = Jvm.exec → c.code = code → c.maxLocals = ml → On nw s m Z a0 EL own vm h → cells + rm.cells ≤ R.cells → slots + rm.slots ≤ R.slots →
      ∃ (v : Option Value) (vm₁ : Vm) (B : Pt), (s.setVm vm).WarmedH vm₁ ∧ Stand p l e R ((s.setVm vm).setVm B.U.vm) m args below meth c B.U B.locs B.cells B.slots ∧ (s.setVm vm).Since B.U.vm B.U.heap.size ∧ T.heap.size ≤ B.U.heap.size ∧
        (∃ L, Q v B.U.vm B.U.heap ∧ CHr Z EL vm h B.U.vm B.U.heap ∧ Ext Z.heap B.U.heap ∧ Fr Z.heap.size L ∧ B.locs = locs ++ L ∧ B.cells = cells + rm.cells ∧ B.slots = slots + rm.slots ∧ (nw = true → s.WarmedH B.U.vm)) ∧
        Steps p.tables e below (T.setTop (mkF m pc L S)) (B.U.setTop { mkF m pc L S with pc := pc + len, stack := v.toList ++ rest }))
    (g : ∀ v vm' h', Q v vm' h' → CHr Z EL vm h vm' h' → Go nw p l e R s m args below meth c code ml nm ret Z a0 EL own P vm' h' (k + rm.cells) (n + rm.slots) pc' L (v.toList ++ rest)) : Go nw p l e R s m args below meth c code ml nm ret Z a0 EL own P vm h k n pc L S := by
  intro hx hc hm hl hnm hr hon T locs cells slots X hh hF hk hn
  obtain ⟨v, vm₁, B, -, X', hS, hg, ⟨L1, hQ, hC, hE, hFr, e1, e2, e3, hW⟩, st2⟩ := st T locs cells slots X hh hx hc hm hon (by omega) (by omega)
  obtain ⟨U, Ls, c1, s1⟩ := B
  dsimp only [Pt.U, Pt.locs, Pt.cells, Pt.slots] at X' hS hg hQ hC hE e1 e2 e3 hW st2
  subst e1 e2 e3 hp
  obtain ⟨⟨k0, a1, a2⟩, a3, a4, a5, a6, a7, a8⟩ := hon
  have hon' : On nw s m Z a0 EL own U.vm U.heap := ⟨⟨U.heap.size, a1.trans hS (Nat.le_trans a2 hC.2.1), Nat.le_refl _⟩, State.Warmed39.trans (t := s.setVm vm) a3 hS.1, (hS.1.alike.findClass _ _).trans a4, hC.1, hE, a7, hW⟩
  obtain ⟨s₂, v2, st3, r1, r2, r3, r4, r5⟩ := g v U.vm U.heap hQ hC hx hc hm hl hnm hr hon' U _ _ _ X' rfl (Fr.app hF hFr) (by omega) (by omega)
  exact ⟨s₂, v2, st2.trans st3, r1, r2, r3, hC.trans r4, r5⟩
theorem Go.invokestatic {idx : Nat} {y : MethodName} {code' : ByteArray} {ml' : Nat} {ret' : Option FieldType} {rm : Room} {Q : Option Value → Vm → Heap → Prop} {ps : List FieldType} {r : Option FieldType} {rest : List Value} (W : Nat) (argsL : List Value) (pc' : Nat) (hd : decode code pc = .ok (.invokestatic idx, 3)) (hp : pc + 3 = pc') (w1 : (Jvm.Cond.methodLink own idx y).before a0 Z = true) (w2 : (Jvm.Cond.static y).before a0 Z = true) (w3 : (Jvm.Cond.initialized y.cls).before a0 Z = true) (w4 : (Jvm.Cond.code y code' ml' ret').before a0 Z = true) (hy : y.cls ≠ "java/lang/invoke/MethodHandle" ∧ y.cls ≠ "java/lang/invoke/VarHandle")
    (C : Ctr nw l Z a0 EL y code' ml' ret' rm argsL.toArray vm h Q) (hdesc : parseMethodDescriptor y.desc = some ⟨ps, r⟩) (hlen : argsL.length = ps.length) (hst : S = argsL.reverse ++ rest) (hsz : L.size = ml) (hf : rm.frames + 1 ≤ R.frames) (hW : (rest.map fun v => v.category).sum ≤ W) (hl : W + (ml' + 11) + rm.locals ≤ R.locals) (hk0 : k + rm.cells ≤ R.cells) (hn0 : n + rm.slots ≤ R.slots)
    (g : ∀ v vm' h', Q v vm' h' → CHr Z EL vm h vm' h' → Go nw p l e R s m args below meth c code ml nm ret Z a0 EL own P vm' h' (k + rm.cells) (n + rm.slots) pc' L (v.toList ++ rest)) : Go nw p l e R s m args below meth c code ml nm ret Z a0 EL own P vm h k n pc L S := by
  refine Go.called (rm := rm) (Q := Q) (rest := rest) hp hk0 hn0 (fun T locs cells slots X hh hx hc hm hon q1 q2 => ?_) g
  exact callSS X hx hon.2.2.1 (mvT (s := s.setVm vm) hon.2.1 w1) (mvT (s := s.setVm vm) hon.2.1 w2) (mvT (s := s.setVm vm) hon.2.1 w3) (mvT (s := s.setVm vm) hon.2.1 w4) hy (C.back hon w4 w3 hf hl) (g := mkF m pc L S) rfl (hsz.trans hm.symm) (argsL := argsL) (rest := rest) (lenOf hdesc hlen) hst (by show 2 * 0 + _ ≤ _; omega) (hb hc hd) (fun _ _ => ⟨rfl, hh, q1, q2⟩)
theorem Go.invokespecial {idx : Nat} {y : MethodName} {code' : ByteArray} {ml' : Nat} {rm : Room} {Q : Option Value → Vm → Heap → Prop} {ps : List FieldType} {r : Option FieldType} {rest : List Value} (W : Nat) (a : Addr) (argsL : List Value) (pc' : Nat) (hd : decode code pc = .ok (.invokespecial idx, 3)) (hp : pc + 3 = pc') (hy1 : y.name = "<init>") (w1 : (Jvm.Cond.methodLink own idx y).before a0 Z = true) (w2 : (Jvm.Cond.instanceMethod y).before a0 Z = true) (w3 : (Jvm.Cond.initialized y.cls).before a0 Z = true) (w4 : (Jvm.Cond.code y code' ml' none).before a0 Z = true) (hy : y.cls ≠ "java/lang/invoke/MethodHandle" ∧ y.cls ≠ "java/lang/invoke/VarHandle")
    (C : Ctr nw l Z a0 EL y code' ml' none rm (.ref a :: argsL).toArray vm h Q) (hdesc : parseMethodDescriptor y.desc = some ⟨ps, r⟩) (hlen : argsL.length = ps.length) (hst : S = argsL.reverse ++ .ref a :: rest) (hsz : L.size = ml) (hf : rm.frames + 1 ≤ R.frames) (hW : (rest.map fun v => v.category).sum ≤ W) (hl : W + (ml' + 11) + rm.locals ≤ R.locals) (hk0 : k + rm.cells ≤ R.cells) (hn0 : n + rm.slots ≤ R.slots)
    (g : ∀ v vm' h', Q v vm' h' → CHr Z EL vm h vm' h' → Go nw p l e R s m args below meth c code ml nm ret Z a0 EL own P vm' h' (k + rm.cells) (n + rm.slots) pc' L (v.toList ++ rest)) : Go nw p l e R s m args below meth c code ml nm ret Z a0 EL own P vm h k n pc L S := by
  refine Go.called (rm := rm) (Q := Q) (rest := rest) hp hk0 hn0 (fun T locs cells slots X hh hx hc hm hon q1 q2 => ?_) g
  exact X.specialBackS hx hy1 hon.2.2.1 (mvT (s := s.setVm vm) hon.2.1 w1) (mvT (s := s.setVm vm) hon.2.1 w2) (mvT (s := s.setVm vm) hon.2.1 w4) hy (C.back hon w4 w3 hf hl) (g := mkF m pc L S) rfl (hsz.trans hm.symm) (Steps.refl _) (a := a) (argsL := argsL) (rest := rest) (lenOf hdesc hlen) hst (by show 2 * 0 + _ ≤ _; omega) (hb hc hd) (fun _ _ => ⟨rfl, hh, q1, q2⟩)
theorem Go.invokevirtual {idx : Nat} {y : MethodName} {code' : ByteArray} {ml' : Nat} {ret' : Option FieldType} {rm : Room} {Q : Option Value → Vm → Heap → Prop} {ps : List FieldType} {r : Option FieldType} {rest : List Value} {x : MethodName} {cls : String} (W : Nat) (a : Addr) (argsL : List Value) (pc' : Nat) (hd : decode code pc = .ok (.invokevirtual idx, 3)) (hp : pc + 3 = pc') (E : Exa Z h a cls) (w1 : (Jvm.Cond.methodLink own idx x).before a0 Z = true) (w2 : (Jvm.Cond.declares x).before a0 Z = true) (nf : ∀ s : State, Z.Warmed39 s.vm → NotFace s x) (ws : (Jvm.Cond.selects cls x y).before a0 Z = true) (wi : (Jvm.Cond.instanceMethod y).before a0 Z = true) (w3 : (Jvm.Cond.initialized y.cls).before a0 Z = true) (w4 : (Jvm.Cond.code y code' ml' ret').before a0 Z = true)
    (hy : x.cls ≠ "java/lang/invoke/MethodHandle" ∧ x.cls ≠ "java/lang/invoke/VarHandle") (C : Ctr nw l Z a0 EL y code' ml' ret' rm (.ref a :: argsL).toArray vm h Q) (hdesc : parseMethodDescriptor x.desc = some ⟨ps, r⟩) (hlen : argsL.length = ps.length) (hst : S = argsL.reverse ++ .ref a :: rest) (hsz : L.size = ml) (hf : rm.frames + 1 ≤ R.frames) (hW : (rest.map fun v => v.category).sum ≤ W) (hl : W + (ml' + 11) + rm.locals ≤ R.locals) (hk0 : k + rm.cells ≤ R.cells) (hn0 : n + rm.slots ≤ R.slots)
    (g : ∀ v vm' h', Q v vm' h' → CHr Z EL vm h vm' h' → Go nw p l e R s m args below meth c code ml nm ret Z a0 EL own P vm' h' (k + rm.cells) (n + rm.slots) pc' L (v.toList ++ rest)) : Go nw p l e R s m args below meth c code ml nm ret Z a0 EL own P vm h k n pc L S := by
  refine Go.called (rm := rm) (Q := Q) (rest := rest) hp hk0 hn0 (fun T locs cells slots X hh hx hc hm hon q1 q2 => ?_) g
  obtain ⟨cB, kB, b1, b2, b3⟩ := isOf (s := s.setVm vm) hon.2.1 hh E
  exact X.virtualBackS hx hon.2.2.1 (mvT (s := s.setVm vm) hon.2.1 w1) (mvT (s := s.setVm vm) hon.2.1 w2) (nf (s.setVm vm) hon.2.1) (mvT (s := s.setVm vm) hon.2.1 ws) (mvT (s := s.setVm vm) hon.2.1 wi) hy (C.back hon w4 w3 hf hl) b1 b3 (g := mkF m pc L S) rfl (hsz.trans hm.symm) (Steps.refl _) (argsL := argsL) (rest := rest) (lenOf hdesc hlen) hst (by show 2 * 0 + _ ≤ _; omega) (hb hc hd) (fun _ _ => ⟨rfl, hh, q1, q2⟩)
theorem On.keep {ws : List Addr} (hon : On nw s m Z a0 EL own vm h) (K : Keep h h' ws) (hs : ∀ x ∈ ws, Safe Z EL vm h x) (hz : ∀ x ∈ ws, Z.heap.size ≤ x) : On nw s m Z a0 EL own vm h' := by
  obtain ⟨⟨k0, a1, a2⟩, a3, a4, a5, a6, a7, a8⟩ := hon
  exact ⟨⟨k0, a1, Nat.le_trans a2 K.1⟩, a3, a4, a5.keep K hs, (Old.keep (Z := Z) ⟨rfl, a6⟩ K hz).2, a7, a8⟩
/-- behind a call that a Back pays: the tables' base as it was -/
theorem Go.calledB {Q : Option Value → Heap → List Loc → Prop} {dk dn len pc' : Nat} {rest : List Value} (hp : pc + len = pc') (hk0 : k + dk ≤ R.cells) (hn0 : n + dn ≤ R.slots)
    (st : ∀ T locs cells slots, Stand p l e R (s.setVm vm) m args below meth c T locs cells slots → T.heap = h → p.tables.exec = Jvm.exec → c.code = code → c.maxLocals = ml → On nw s m Z a0 EL own vm h → cells + dk ≤ R.cells → slots + dn ≤ R.slots →
      ∃ (v : Option Value) (vm₁ : Vm) (B : Pt), (s.setVm vm).WarmedH vm₁ ∧ Stand p l e R (s.setVm vm) m args below meth c B.U B.locs B.cells B.slots ∧ (∃ L, Q v B.U.heap L ∧ B.locs = locs ++ L ∧ B.cells = cells + dk ∧ B.slots = slots + dn) ∧
        Steps p.tables e below (T.setTop (mkF m pc L S)) (B.U.setTop { mkF m pc L S with pc := pc + len, stack := v.toList ++ rest }))
    (hQ : ∀ v h' lc, Q v h' lc → Fr Z.heap.size lc ∧ ∃ ws, Keep h h' ws ∧ (∀ x ∈ ws, Safe Z EL vm h x) ∧ ∀ x ∈ ws, Z.heap.size ≤ x)
    (g : ∀ v h' lc, Q v h' lc → CHr Z EL vm h vm h' → Go nw p l e R s m args below meth c code ml nm ret Z a0 EL own P vm h' (k + dk) (n + dn) pc' L (v.toList ++ rest)) : Go nw p l e R s m args below meth c code ml nm ret Z a0 EL own P vm h k n pc L S := by
  intro hx hc hm hl hnm hr hon T locs cells slots X hh hF hk hn
  obtain ⟨v, vm₁, B, -, X', ⟨L1, hq, e1, e2, e3⟩, st2⟩ := st T locs cells slots X hh hx hc hm hon (by omega) (by omega)
  obtain ⟨U, Ls, c1, s1⟩ := B
  dsimp only [Pt.U, Pt.locs, Pt.cells, Pt.slots] at X' hq e1 e2 e3 st2
  subst e1 e2 e3 hp
  obtain ⟨hFr, ws, K, hs, hz⟩ := hQ _ _ _ hq
  have ch : CHr Z EL vm h vm U.heap := CHr.keep K hs hon.2.2.2.1
  obtain ⟨s₂, v2, st3, r1, r2, r3, r4, r5⟩ := g v U.heap L1 hq ch hx hc hm hl hnm hr (hon.keep K hs hz) U _ _ _ X' rfl (Fr.app hF hFr) (by omega) (by omega)
  exact ⟨s₂, v2, st2.trans st3, r1, r2, r3, ch.trans r4, r5⟩
theorem Go.virtB {idx : Nat} {x y : MethodName} {cls : String} {Q : Option Value → Heap → List Loc → Prop} {dk dn : Nat} {ps : List FieldType} {r : Option FieldType} {rest : List Value} (W : Nat) (a : Addr) (argsL : List Value) (pc' : Nat) (hd : decode code pc = .ok (.invokevirtual idx, 3)) (hp : pc + 3 = pc') (E : Exa Z h a cls)
    (w1 : (Jvm.Cond.methodLink own idx x).before a0 Z = true) (w2 : (Jvm.Cond.declares x).before a0 Z = true) (nf : ∀ s : State, Z.Warmed39 s.vm → NotFace s x) (ws : (Jvm.Cond.selects cls x y).before a0 Z = true) (wi : (Jvm.Cond.instanceMethod y).before a0 Z = true) (hy : x.cls ≠ "java/lang/invoke/MethodHandle" ∧ x.cls ≠ "java/lang/invoke/VarHandle")
    (B : Z.Warmed39 (s.setVm vm).vm → Ext Z.heap h → Back l R p e below (s.setVm vm) args y 3 W (fun A as => as = (.ref a :: argsL).toArray ∧ A.U.heap = h ∧ A.cells + dk ≤ R.cells ∧ A.slots + dn ≤ R.slots) (fun A _ v B => ∃ L, Q v B.U.heap L ∧ B.locs = A.locs ++ L ∧ B.cells = A.cells + dk ∧ B.slots = A.slots + dn))
    (hdesc : parseMethodDescriptor x.desc = some ⟨ps, r⟩) (hlen : argsL.length = ps.length) (hst : S = argsL.reverse ++ .ref a :: rest) (hsz : L.size = ml) (hW : (rest.map fun v => v.category).sum ≤ W) (hk0 : k + dk ≤ R.cells) (hn0 : n + dn ≤ R.slots)
    (hQ : ∀ v h' lc, Q v h' lc → Fr Z.heap.size lc ∧ ∃ ws, Keep h h' ws ∧ (∀ x ∈ ws, Safe Z EL vm h x) ∧ ∀ x ∈ ws, Z.heap.size ≤ x) (g : ∀ v h' lc, Q v h' lc → CHr Z EL vm h vm h' → Go nw p l e R s m args below meth c code ml nm ret Z a0 EL own P vm h' (k + dk) (n + dn) pc' L (v.toList ++ rest)) : Go nw p l e R s m args below meth c code ml nm ret Z a0 EL own P vm h k n pc L S := by
  refine Go.calledB (rest := rest) hp hk0 hn0 (fun T locs cells slots X hh hx hc hm hon q1 q2 => ?_) hQ g
  obtain ⟨cB, kB, b1, b2, b3⟩ := isOf (s := s.setVm vm) hon.2.1 hh E
  exact X.virtualBack hx hon.2.2.1 (mvT (s := s.setVm vm) hon.2.1 w1) (mvT (s := s.setVm vm) hon.2.1 w2) (nf (s.setVm vm) hon.2.1) (mvT (s := s.setVm vm) hon.2.1 ws) (mvT (s := s.setVm vm) hon.2.1 wi) hy (B hon.2.1 hon.2.2.2.2.1) b1 b3 (g := mkF m pc L S) rfl (hsz.trans hm.symm) (Steps.refl _) (argsL := argsL) (rest := rest) (lenOf hdesc hlen) hst (by show 2 * 0 + _ ≤ _; omega) (hb hc hd) (fun _ _ => ⟨rfl, hh, q1, q2⟩)
theorem Go.specB {idx : Nat} {y : MethodName} {code' : ByteArray} {ml' : Nat} {Q : Option Value → Heap → List Loc → Prop} {dk dn : Nat} {ps : List FieldType} {r : Option FieldType} {rest : List Value} (W : Nat) (a : Addr) (argsL : List Value) (pc' : Nat) (hd : decode code pc = .ok (.invokespecial idx, 3)) (hp : pc + 3 = pc') (hy1 : y.name = "<init>")
    (w1 : (Jvm.Cond.methodLink own idx y).before a0 Z = true) (w2 : (Jvm.Cond.instanceMethod y).before a0 Z = true) (w4 : (Jvm.Cond.code y code' ml' none).before a0 Z = true) (hy : y.cls ≠ "java/lang/invoke/MethodHandle" ∧ y.cls ≠ "java/lang/invoke/VarHandle")
    (B : Z.Warmed39 (s.setVm vm).vm → Ext Z.heap h → Back l R p e below (s.setVm vm) args y 3 W (fun A as => as = (.ref a :: argsL).toArray ∧ A.U.heap = h ∧ A.cells + dk ≤ R.cells ∧ A.slots + dn ≤ R.slots) (fun A _ v B => ∃ L, Q v B.U.heap L ∧ B.locs = A.locs ++ L ∧ B.cells = A.cells + dk ∧ B.slots = A.slots + dn))
    (hdesc : parseMethodDescriptor y.desc = some ⟨ps, r⟩) (hlen : argsL.length = ps.length) (hst : S = argsL.reverse ++ .ref a :: rest) (hsz : L.size = ml) (hW : (rest.map fun v => v.category).sum ≤ W) (hk0 : k + dk ≤ R.cells) (hn0 : n + dn ≤ R.slots)
    (hQ : ∀ v h' lc, Q v h' lc → Fr Z.heap.size lc ∧ ∃ ws, Keep h h' ws ∧ (∀ x ∈ ws, Safe Z EL vm h x) ∧ ∀ x ∈ ws, Z.heap.size ≤ x) (g : ∀ v h' lc, Q v h' lc → CHr Z EL vm h vm h' → Go nw p l e R s m args below meth c code ml nm ret Z a0 EL own P vm h' (k + dk) (n + dn) pc' L (v.toList ++ rest)) : Go nw p l e R s m args below meth c code ml nm ret Z a0 EL own P vm h k n pc L S := by
  refine Go.calledB (rest := rest) hp hk0 hn0 (fun T locs cells slots X hh hx hc hm hon q1 q2 => ?_) hQ g
  exact X.specialBack hx hy1 hon.2.2.1 (mvT (s := s.setVm vm) hon.2.1 w1) (mvT (s := s.setVm vm) hon.2.1 w2) (mvT (s := s.setVm vm) hon.2.1 w4) hy (B hon.2.1 hon.2.2.2.2.1) (g := mkF m pc L S) rfl (hsz.trans hm.symm) (Steps.refl _) (a := a) (argsL := argsL) (rest := rest) (lenOf hdesc hlen) hst (by show 2 * 0 + _ ≤ _; omega) (hb hc hd) (fun _ _ => ⟨rfl, hh, q1, q2⟩)
/-- ldc of a String constant that EL lists, its text read -/
theorem Go.ldcS {idx : Nat} {text : String} {vs : List Value} {z : Int32} (cap : Nat) (pc' : Nat) (hd : decode code pc = .ok (.ldc idx, 2)) (hp : pc + 2 = pc') (hnw : nw = false) (w : (Jvm.Cond.stringLink own idx text).before a0 Z = true) (wS : ∀ a ∈ Bundle.stringAtoms, a.before a0 Z = true) (hmem : (own, idx) ∈ EL)
    (ht : (∀ c ∈ text.toList, c.toNat < 256) ∧ text.toList.map (fun c => Value.int (Jvm.Lit.byteI c.toNat.toUInt16)) = vs) (hz : ¬ z < 0) (hl : z.toNatClampNeg = vs.length) (hcap : 4 * text.toList.length ≤ cap) (hbig : cap ≤ 536870912) (hk0 : k + 2 ≤ R.cells) (hn0 : n + (cap + 4) ≤ R.slots)
    (g : ∀ (a b : Addr) (kb : ClassId) (vm' : Vm) (h' : Heap), Ext h h' → Exa Z h' a "java/lang/String" → Fld Z h' a "java/lang/String" "coder" "B" (.int 0) → Fld Z h' a "java/lang/String" "value" "[B" (.ref b) → Arv Z h' b kb .byte z vs (.int 0) → (∀ x, Safe Z EL vm' h' x → x ≠ a ∧ x ≠ b) → CHr Z EL vm h vm' h' → Go nw p l e R s m args below meth c code ml nm ret Z a0 EL own P vm' h' (k + 2) (n + (cap + 4)) pc' L (.ref a :: S)) : Go nw p l e R s m args below meth c code ml nm ret Z a0 EL own P vm h k n pc L S := by
  subst hp
  intro hx hc hm hl' hnm hr hon T locs cells slots X hh hF hk hn
  obtain ⟨⟨k0, a1, a2⟩, a3, a4, a5, a6, a7, a8⟩ := hon
  obtain ⟨a, T', h', k1, b, kb, X', e', E, hS, hk1, hZ', hf', A, C1, V1, K1, -, -, ch, -, hne, st⟩ := ldcCH X hx a3 a4 w wS hh a1 a2 a7 hmem a5 ht hz hl (g := mkF m pc L S) rfl (hb hc hd) hcap hbig (by omega) (by omega)
  have hon' : On nw s m Z a0 EL own T'.vm h' := ⟨⟨k1, hS, hk1⟩, hZ', hf', ch.1, ⟨Nat.le_trans a6.1 E.1, fun a c q => E.2 _ _ (a6.2 _ _ q)⟩, a7, fun q => by rw [hnw] at q; cases q⟩
  obtain ⟨s₂, v2, st3, r1, r2, r3, r4, r5⟩ := g a b kb T'.vm h' E A C1 V1 K1 hne ch hx hc hm hl' hnm hr hon' T' _ _ _ X' e' hF (by omega) (by omega)
  exact ⟨s₂, v2, st _ st3, r1, r2, r3, ch.trans r4, r5⟩
theorem Go.castY {K : String} {idx : Nat} {a : Addr} (pc' : Nat) (hd : decode code pc = .ok (.checkcast idx, 3)) (hp : pc + 3 = pc') (w : (Jvm.Cond.classLink own idx K).before a0 Z = true) (F : Ins Z h a K true) (g : Go nw p l e R s m args below meth c code ml nm ret Z a0 EL own P vm h k n pc' L (.ref a :: S)) : Go nw p l e R s m args below meth c code ml nm ret Z a0 EL own P vm h k n pc L (.ref a :: S) := by
  subst hp
  exact g.note fun T locs cells slots X hh hx hc hm hon => RoadKit.castY X hx hon.2.1 hon.2.2.1 w hh F (g := mkF m pc L (.ref a :: S)) rfl rfl (hb hc hd)
theorem Go.instY {K : String} {idx : Nat} {a : Addr} (pc' : Nat) (hd : decode code pc = .ok (.instanceof idx, 3)) (hp : pc + 3 = pc') (w : (Jvm.Cond.classLink own idx K).before a0 Z = true) (F : Ins Z h a K true) (g : Go nw p l e R s m args below meth c code ml nm ret Z a0 EL own P vm h k n pc' L (.int 1 :: S)) : Go nw p l e R s m args below meth c code ml nm ret Z a0 EL own P vm h k n pc L (.ref a :: S) := by
  subst hp
  exact g.note fun T locs cells slots X hh hx hc hm hon => RoadKit.instY X hx hon.2.1 hon.2.2.1 w hh F (g := mkF m pc L (.ref a :: S)) rfl rfl (hb hc hd)
theorem Go.instN {K C : String} {idx : Nat} {a : Addr} (pc' : Nat) (hd : decode code pc = .ok (.instanceof idx, 3)) (hp : pc + 3 = pc') (w : (Jvm.Cond.classLink own idx K).before a0 Z = true) (E : Exa Z h a C) (F : ∃ c t, Z.vm.findClass C = some c ∧ Z.vm.findClass K = some t ∧ Z.vm.assignable c t = false) (g : Go nw p l e R s m args below meth c code ml nm ret Z a0 EL own P vm h k n pc' L (.int 0 :: S)) : Go nw p l e R s m args below meth c code ml nm ret Z a0 EL own P vm h k n pc L (.ref a :: S) := by
  subst hp
  exact g.note fun T locs cells slots X hh hx hc hm hon => instNo X hx hon.2.1 hon.2.2.1 w hh E F (g := mkF m pc L (.ref a :: S)) rfl rfl (hb hc hd)
theorem Go.ldc2_w {idx : Nat} {v : Int64} (w : (Jvm.Cond.constantLong own idx v).before a0 Z = true) (pc' : Nat) (hd : decode code pc = .ok (.ldc2_w idx, 3)) (hp : pc + 3 = pc') (g : Go nw p l e R s m args below meth c code ml nm ret Z a0 EL own P vm h k n pc' L (.long v :: S)) : Go nw p l e R s m args below meth c code ml nm ret Z a0 EL own P vm h k n pc L S := by
  subst hp
  exact g.note fun T locs cells slots X hh hx hc hm hon => ⟨T, X, hh, fun target q => ldc2J X hx hon.2.2.1 (mvT (s := s.setVm vm) hon.2.1 w) (g := mkF m pc L S) rfl (hb hc hd) q⟩
theorem Go.instNull {idx : Nat} (pc' : Nat) (hd : decode code pc = .ok (.instanceof idx, 3)) (hp : pc + 3 = pc') (g : Go nw p l e R s m args below meth c code ml nm ret Z a0 EL own P vm h k n pc' L (.int 0 :: S)) : Go nw p l e R s m args below meth c code ml nm ret Z a0 EL own P vm h k n pc L (.null :: S) := by
  subst hp
  exact g.note fun T locs cells slots X hh hx hc hm hon => ⟨T, X, hh, instanceofNull X hx (g := mkF m pc L (.null :: S)) rfl rfl (hb hc hd)⟩
theorem Go.anewarray {C : String} {idx : Nat} {z : Int32} (cap : Nat) (pc' : Nat) (hd : decode code pc = .ok (.anewarray idx, 3)) (hp : pc + 3 = pc') (w1 : (Jvm.Cond.classLink own idx C).before a0 Z = true) (w2 : (Jvm.Cond.arrayOver (.object C)).before a0 Z = true) (hz : ¬ z < 0) (hcap : z.toNatClampNeg ≤ cap) (hb8 : cap * 8 ≤ 536870912) (hk0 : k + 1 ≤ R.cells) (hn0 : n + cap ≤ R.slots)
    (g : ∀ a h', a = h.size → Ext h h' → (∃ cA, Arv Z h' a cA (.object C) z [] .null ∧ Ovr Z cA C) → Safe Z EL vm h' a → Z.heap.size ≤ a → CHr Z EL vm h vm h' → Go nw p l e R s m args below meth c code ml nm ret Z a0 EL own P vm h' (k + 1) (n + cap) pc' L (.ref a :: S)) : Go nw p l e R s m args below meth c code ml nm ret Z a0 EL own P vm h k n pc L (.int z :: S) := by
  subst hp
  refine Go.made (dk := 1) (dn := cap) (S' := fun a => .ref a :: S) (F := fun h' a => ∃ cA, Arv Z h' a cA (.object C) z [] .null ∧ Ovr Z cA C) hk0 hn0 (fun T locs cells slots X hh hx hc hm hon q1 q2 => ?_) g
  obtain ⟨T', h', cA, X', e', E, A, O, st⟩ := newR X hx hon.2.1 hon.2.2.1 w1 w2 hh (g := mkF m pc L (.int z :: S)) rfl (hb hc hd) rfl hz hcap hb8 q1 q2
  exact ⟨T', h', X', e', E, ⟨cA, Arv.new A hz, O⟩, st⟩
theorem Go.aastore {a y : Addr} {kA : ClassId} {C : String} {z j : Int32} {vs : List Value} {dv : Value} (i : Nat) (vs' : List Value) (pc' : Nat) (hd : decode code pc = .ok (.aastore, 1)) (hp : pc + 1 = pc') (A : Arv Z h a kA (.object C) z vs dv) (O : Ovr Z kA C) (I : Ins Z h y C true) (hj : ¬ j < 0 ∧ j < z) (hi : j.toNatClampNeg = i) (hl : i < vs.length) (hvs : vs.set i (.ref y) = vs') (Sa : Safe Z EL vm h a) (hz : Z.heap.size ≤ a)
    (g : ∀ h', Keep h h' [a] → Arv Z h' a kA (.object C) z vs' dv → Safe Z EL vm h' a → CHr Z EL vm h vm h' → Go nw p l e R s m args below meth c code ml nm ret Z a0 EL own P vm h' k n pc' L S) : Go nw p l e R s m args below meth c code ml nm ret Z a0 EL own P vm h k n pc L (.ref y :: .int j :: .ref a :: S) := by
  subst hp hvs
  obtain ⟨cl, A1, A2, A3, A4, A5, A6⟩ := A
  have hin := inb_of A3 hj
  refine Go.wrote Sa hz (sl := j.toNatClampNeg) (w := .ref y) (fun T locs cells slots X hh hx hc hm hnm hon => ?_) (fun h' W s2 ch => g h' (Keep.of_wr W) (Arv.set A1 A2 A3 A4 A5 A6 rfl W i hi hl) s2 ch)
  exact stR X hx hon.2.1 hh A1 hin rfl (Sto.ofV A1 A2 O I) (g := mkF m pc L (.ref y :: .int j :: .ref a :: S)) rfl rfl (hb hc hd)
theorem Go.invokeinterface {idx : Nat} {y : MethodName} {code' : ByteArray} {ml' : Nat} {ret' : Option FieldType} {rm : Room} {Q : Option Value → Vm → Heap → Prop} {ps : List FieldType} {r : Option FieldType} {rest : List Value} {xi : MethodName} {cls : String} {cnt : Nat} (W : Nat) (a : Addr) (argsL : List Value) (pc' : Nat) (hd : decode code pc = .ok (.invokeinterface idx cnt, 5)) (hp : pc + 5 = pc') (E : Exa Z h a cls) (w1 : (Jvm.Cond.methodLink own idx xi).before a0 Z = true) (w2 : (Jvm.Cond.declares xi).before a0 Z = true) (wf : ∀ s' : State, Z.Warmed39 s'.vm → (Jvm.Cond.interfaceMethod xi.cls xi.cls xi.name xi.desc).before args s' = true) (ws : (Jvm.Cond.selects cls xi y).before a0 Z = true) (wi : (Jvm.Cond.instanceMethod y).before a0 Z = true) (wp : (Jvm.Cond.publicMethod y).before a0 Z = true) (wu : (Jvm.Cond.unhidden cls xi.name xi.desc).before a0 Z = true) (wc : (Jvm.Cond.castable cls xi.cls).before a0 Z = true) (w3 : (Jvm.Cond.initialized y.cls).before a0 Z = true) (w4 : (Jvm.Cond.code y code' ml' ret').before a0 Z = true)
    (hy : xi.cls ≠ "java/lang/invoke/MethodHandle" ∧ xi.cls ≠ "java/lang/invoke/VarHandle") (C : Ctr nw l Z a0 EL y code' ml' ret' rm (.ref a :: argsL).toArray vm h Q) (hdesc : parseMethodDescriptor xi.desc = some ⟨ps, r⟩) (hlen : argsL.length = ps.length) (hst : S = argsL.reverse ++ .ref a :: rest) (hsz : L.size = ml) (hf : rm.frames + 1 ≤ R.frames) (hW : (rest.map fun v => v.category).sum ≤ W) (hl : W + (ml' + 11) + rm.locals ≤ R.locals) (hk0 : k + rm.cells ≤ R.cells) (hn0 : n + rm.slots ≤ R.slots)
    (g : ∀ v vm' h', Q v vm' h' → CHr Z EL vm h vm' h' → Go nw p l e R s m args below meth c code ml nm ret Z a0 EL own P vm' h' (k + rm.cells) (n + rm.slots) pc' L (v.toList ++ rest)) : Go nw p l e R s m args below meth c code ml nm ret Z a0 EL own P vm h k n pc L S := by
  refine Go.called (rm := rm) (Q := Q) (rest := rest) hp hk0 hn0 (fun T locs cells slots X hh hx hc hm hon q1 q2 => ?_) g
  obtain ⟨cB, kB, b1, b2, b3⟩ := isOf (s := s.setVm vm) hon.2.1 hh E
  exact X.interfaceBackS hx hon.2.2.1 (mvT (s := s.setVm vm) hon.2.1 w1) (mvT (s := s.setVm vm) hon.2.1 w2) (wf (s.setVm vm) hon.2.1) (mvT (s := s.setVm vm) hon.2.1 ws) (mvT (s := s.setVm vm) hon.2.1 wi) (mvT (s := s.setVm vm) hon.2.1 wp) (mvT (s := s.setVm vm) hon.2.1 wu) (mvT (s := s.setVm vm) hon.2.1 wc) hy (C.back hon w4 w3 hf hl) b1 b2 b3 (g := mkF m pc L S) rfl (hsz.trans hm.symm) (Steps.refl _) (argsL := argsL) (rest := rest) (lenOf hdesc hlen) hst (by show 2 * 0 + _ ≤ _; omega) (hb hc hd) (fun _ _ => ⟨rfl, hh, q1, q2⟩)
theorem Go.ldcI {idx : Nat} {v : Int32} (w : (Jvm.Cond.constant own idx v).before a0 Z = true) (pc' : Nat) (hd : decode code pc = .ok (.ldc idx, 2)) (hp : pc + 2 = pc') (g : Go nw p l e R s m args below meth c code ml nm ret Z a0 EL own P vm h k n pc' L (.int v :: S)) : Go nw p l e R s m args below meth c code ml nm ret Z a0 EL own P vm h k n pc L S := by
  subst hp
  exact g.note fun T locs cells slots X hh hx hc hm hon => ⟨T, X, hh, fun target q => Jvm.Stand.ldcI X hx hon.2.2.1 (mvT (s := s.setVm vm) hon.2.1 w) (g := mkF m pc L S) rfl (hb hc hd) q⟩
theorem Go.super {idx : Nat} {y : MethodName} {code' : ByteArray} {ml' : Nat} {ret' : Option FieldType} {rm : Room} {Q : Option Value → Vm → Heap → Prop} {ps : List FieldType} {r : Option FieldType} {rest : List Value} {K : String} (W : Nat) (a : Addr) (argsL : List Value) (pc' : Nat) (hd : decode code pc = .ok (.invokespecial idx, 3)) (hp : pc + 3 = pc') (hy1 : y.name ≠ "<init>") (w1 : (Jvm.Cond.methodLink own idx y).before a0 Z = true) (w2 : (Jvm.Cond.sameMethod y.cls y.cls y.name y.desc).before a0 Z = true) (wi : (Jvm.Cond.instanceMethod y).before a0 Z = true) (w5 : (Jvm.Cond.superclass own y.cls).before a0 Z = true) (w3 : (Jvm.Cond.initialized y.cls).before a0 Z = true) (w4 : (Jvm.Cond.code y code' ml' ret').before a0 Z = true) (F : Ins Z h a K true)
    (C : Ctr nw l Z a0 EL y code' ml' ret' rm (.ref a :: argsL).toArray vm h Q) (hdesc : parseMethodDescriptor y.desc = some ⟨ps, r⟩) (hlen : argsL.length = ps.length) (hst : S = argsL.reverse ++ .ref a :: rest) (hsz : L.size = ml) (hf : rm.frames + 1 ≤ R.frames) (hW : (rest.map fun v => v.category).sum ≤ W) (hl : W + (ml' + 11) + rm.locals ≤ R.locals) (hk0 : k + rm.cells ≤ R.cells) (hn0 : n + rm.slots ≤ R.slots)
    (g : ∀ v vm' h', Q v vm' h' → CHr Z EL vm h vm' h' → Go nw p l e R s m args below meth c code ml nm ret Z a0 EL own P vm' h' (k + rm.cells) (n + rm.slots) pc' L (v.toList ++ rest)) : Go nw p l e R s m args below meth c code ml nm ret Z a0 EL own P vm h k n pc L S := by
  refine Go.called (rm := rm) (Q := Q) (rest := rest) hp hk0 hn0 (fun T locs cells slots X hh hx hc hm hon q1 q2 => ?_) g
  exact superBackS X hx hon.2.1 hon.2.2.1 w1 w2 wi w5 hy1 (C.back hon w4 w3 hf hl) hh F (g := mkF m pc L S) rfl (hsz.trans hm.symm) w4 (argsL := argsL) (rest := rest) (lenOf hdesc hlen) hst (by show 2 * 0 + _ ≤ _; omega) (hb hc hd) (fun _ _ => ⟨rfl, hh, q1, q2⟩)
/-- declares, of a body with code -/
theorem declares_of {args : Array Value} {s : State} {y : MethodName} {bytes : ByteArray} {maxL : Nat} {ret : Option FieldType} (wi : (Jvm.Cond.instanceMethod y).before args s = true) (wc : (Jvm.Cond.code y bytes maxL ret).before args s = true) : (Jvm.Cond.declares y).before args s = true := by
  obtain ⟨mk, methM, hnamed, hmethM, hstM, habM⟩ := Cond.instanceMethod_spec wi
  obtain ⟨m2, cM, q1, -, -, -, -, -, -, hsig⟩ := Cond.code_spec hnamed wc
  cases hmethM.symm.trans q1
  simp [Cond.before, Cond.holds, Cond.value, hnamed, hmethM, hstM, hsig]
theorem same_of {args : Array Value} {s : State} {K : String} {y g : MethodName} (wi : (Jvm.Cond.instanceMethod y).before args s = true) (ws : (Jvm.Cond.selects K g g).before args s = true) (e : g.cls = y.cls) (hy : y.cls ≠ "java/lang/invoke/MethodHandle" ∧ y.cls ≠ "java/lang/invoke/VarHandle") : (Jvm.Cond.sameMethod y.cls y.cls y.name y.desc).before args s = true := by
  obtain ⟨mk, methM, hnamed, hmethM, hstM, habM⟩ := Cond.instanceMethod_spec wi
  obtain ⟨c2, r2, m2, q1, q2, q3, q4, kP, hkP, hkPi⟩ := Cond.selects_spec ws
  have f1 := findClass_of_methodNamed hnamed
  have f2 := findClass_of_methodNamed q3
  rw [e] at f2
  have f3 : m2.cls = mk.cls := Option.some.inj (f2.symm.trans f1)
  rw [f3] at hkP
  have f4 := State.methodFound?_of_named hnamed hy
  simp [Cond.before, Cond.holds, Cond.value, f1, f4, hnamed, hkP, hkPi]
/-- the cell that a copy leaves -/
theorem Arv.copied {dst : Addr} {k2 : ClassId} {z1 z2 : Int32} {vs ws vs' : List Value} {d1 d2 : Value} {cs cd : Cell} {o q z : Nat}
    (A : Has cs vs d1) (A3 : cs.slots.size = z1.toNatClampNeg) (A6 : ∀ i, i < cs.slots.size → fits .byte (vs.getD i d1) = true)
    (B : Arr Z h dst cd .byte) (B2 : cd.cls = k2) (B3 : cd.slots.size = z2.toNatClampNeg) (B4 : ¬ z2 < 0) (B5 : Has cd ws d2) (B6 : ∀ i, i < cd.slots.size → fits .byte (ws.getD i d2) = true)
    (hz1 : z1.toNatClampNeg < 2 ^ 31) (hz2 : z2.toNatClampNeg < 2 ^ 31) (q1 : o + z ≤ z1.toNatClampNeg) (q2 : q + z ≤ z2.toNatClampNeg)
    (hv : ∀ i, i < z2.toNatClampNeg → vs'.getD i d2 = if q ≤ i ∧ i < q + z then vs.getD (o + (i - q)) d1 else ws.getD i d2) :
    Keep h (h.setIfInBounds dst (Jvm.copied cs cd (Int32.ofNat o) (Int32.ofNat q) (Int32.ofNat z))) [dst] ∧ Arv Z (h.setIfInBounds dst (Jvm.copied cs cd (Int32.ofNat o) (Int32.ofNat q) (Int32.ofNat z))) dst k2 .byte z2 vs' d2 := by
  obtain ⟨f1, f2, f3⟩ := Jvm.Free.SB.copied_facts cs cd (Int32.ofNat o) (Int32.ofNat q) (Int32.ofNat z)
  have hlt : dst < h.size := B.lt
  have hg : ∀ j, (Jvm.copied cs cd (Int32.ofNat o) (Int32.ofNat q) (Int32.ofNat z)).slots[j]? = if q ≤ j ∧ j < q + z then some (cs.slots.getD (o + (j - q)) .null) else cd.slots[j]? :=
    fun j => Jvm.Free.Str.copied_at2 (by omega) (by omega) (by omega) (by omega) j
  refine ⟨⟨by simp, fun x c0 hx hn => ?_, fun x c0 hx => ?_⟩, ⟨Jvm.copied cs cd (Int32.ofNat o) (Int32.ofNat q) (Int32.ofNat z), ⟨by simp [hlt], ⟨fun kk => by rw [f2]; exact B.2.1.1 kk, by rw [f1]; exact B.2.1.2⟩, by rw [f2]; exact B.2.2⟩, by rw [f1]; exact B2, by rw [f3]; exact B3, B4, fun i hi => ?_, fun i hi => ?_⟩⟩
  · rw [Array.getElem?_setIfInBounds_ne (fun e => hn (by simp [e]))]; exact hx
  · by_cases e : dst = x
    · subst e
      refine ⟨Jvm.copied cs cd (Int32.ofNat o) (Int32.ofNat q) (Int32.ofNat z), by simp [hlt], ?_⟩
      cases hx.symm.trans B.1
      exact ⟨f1, f2, f3⟩
    · exact ⟨c0, by rw [Array.getElem?_setIfInBounds_ne e]; exact hx, rfl, rfl, rfl⟩
  · rw [f3, B3] at hi
    rw [hg, hv i hi]
    by_cases e : q ≤ i ∧ i < q + z
    · rw [if_pos e, if_pos e]
      have := A (o + (i - q)) (by omega)
      simp [Array.getD_eq_getD_getElem?, this]
    · rw [if_neg e, if_neg e]; exact B5 i (by omega)
  · rw [f3, B3] at hi
    rw [hv i hi]
    by_cases e : q ≤ i ∧ i < q + z
    · rw [if_pos e]; exact A6 _ (by omega)
    · rw [if_neg e]; exact B6 _ (by omega)
theorem clamp_lt (z : Int32) : z.toNatClampNeg < 2 ^ 31 := by
  have h2 := z.toInt_lt
  simp only [Int32.toNatClampNeg] at *; omega
/-- invokestatic System.arraycopy on bytes, into an array made in this walk -/
theorem Go.acopy {idx : Nat} {src dst : Addr} {k1 k2 : ClassId} {z1 z2 : Int32} {vs ws : List Value} {d1 d2 : Value} {rest : List Value} (o q z : Nat) (vs' : List Value) (pc' : Nat) (hd : decode code pc = .ok (.invokestatic idx, 3)) (hp : pc + 3 = pc')
    (w1 : (Jvm.Cond.methodLink own idx Jvm.Stand.acN).before a0 Z = true) (w2 : (Jvm.Cond.native Jvm.Stand.acN).before a0 Z = true) (w3 : (Jvm.Cond.static Jvm.Stand.acN).before a0 Z = true) (w4 : (Jvm.Cond.initialized "java/lang/System").before a0 Z = true)
    (A : Arv Z h src k1 .byte z1 vs d1) (B : Arv Z h dst k2 .byte z2 ws d2) (q1 : o + z ≤ z1.toNatClampNeg) (q2 : q + z ≤ z2.toNatClampNeg)
    (hv : ∀ i, i < z2.toNatClampNeg → vs'.getD i d2 = if q ≤ i ∧ i < q + z then vs.getD (o + (i - q)) d1 else ws.getD i d2)
    (hst : S = .int (Int32.ofNat z) :: .int (Int32.ofNat q) :: .ref dst :: .int (Int32.ofNat o) :: .ref src :: rest) (hsz : L.size = ml) (hfr : 1 ≤ R.frames) (hlo : (rest.map fun v => v.category).sum + 18 ≤ R.locals)
    (Sa : Safe Z EL vm h dst) (hz : Z.heap.size ≤ dst) (g : ∀ h', Keep h h' [dst] → Arv Z h' dst k2 .byte z2 vs' d2 → Safe Z EL vm h' dst → CHr Z EL vm h vm h' → Go nw p l e R s m args below meth c code ml nm ret Z a0 EL own P vm h' k n pc' L (rest)) : Go nw p l e R s m args below meth c code ml nm ret Z a0 EL own P vm h k n pc L (S) := by
  subst hp hst
  intro hx hc hm hl hnm hr hon T locs cells slots X hh hF hk hn
  have hlt := B.lt
  obtain ⟨cs, A1, A2, A3, A4, A5, A6⟩ := A
  obtain ⟨cd, B1, B2, B3, B4, B5, B6⟩ := B
  have l1 := clamp_lt z1
  have l2 := clamp_lt z2
  have to : ∀ x : Nat, x < 2 ^ 31 → (Int32.ofNat x).toNatClampNeg = x := fun x hx => Int32.toNatClampNeg_ofNat_of_lt hx
  have tI : ∀ x : Nat, x < 2 ^ 31 → (Int32.ofNat x).toInt = x := fun x hx => Int32.toInt_ofNat_of_lt hx
  have tn : ∀ x : Nat, x < 2 ^ 31 → ¬ Int32.ofNat x < 0 := fun x hx => by rw [Int32.lt_iff_toInt_lt, tI x hx]; have e1 : (0 : Int32).toInt = 0 := rfl; omega
  obtain ⟨ks, c1, comp1, c2⟩ := (State.isArrayOf_alike (s := Z) (T := s.setVm vm) hon.2.1.alike A1.2.1).2
  obtain ⟨kd, e1, comp2, e2⟩ := (State.isArrayOf_alike (s := Z) (T := s.setVm vm) hon.2.1.alike B1.2.1).2
  obtain ⟨K, AB⟩ := Arv.copied (o := o) (q := q) (z := z) A5 A3 A6 B1 B2 B3 B4 B5 B6 l1 l2 q1 q2 hv
  obtain ⟨vm₁, -, X', st⟩ := Jvm.Stand.arraycopyK X hx hon.2.2.1 (mvT (s := s.setVm vm) hon.2.1 w1) (mvT (s := s.setVm vm) hon.2.1 w2) (mvT (s := s.setVm vm) hon.2.1 w3) (mvT (s := s.setVm vm) hon.2.1 w4)
    (src := src) (dst := dst) (srcPos := Int32.ofNat o) (destPos := Int32.ofNat q) (n := Int32.ofNat z) (cs := cs) (cd := cd) (by rw [hh]; exact A1.1) (by rw [hh]; exact B1.1) A1.2.1.1 B1.2.1.1 A1.2.2 B1.2.2 c1 e1 c2 e2 (by decide) (tn _ (by omega)) (tn _ (by omega)) (tn _ (by omega))
    (by rw [tI _ (by omega), tI _ (by omega)]; omega) (by rw [tI _ (by omega), tI _ (by omega)]; omega)
    (fun vm₁ _ i hi => by
      rw [to _ (by omega)] at hi
      rw [to _ (by omega)]
      have a := A5 (o + i) (by omega)
      have b := A6 (o + i) (by omega)
      have e : cs.slots.getD (o + i) .null = vs.getD (o + i) d1 := by simp [Array.getD_eq_getD_getElem?, a]
      rw [e]
      refine ⟨b, ?_⟩
      generalize vs.getD (o + i) d1 = u at b
      cases u <;> simp [fits] at b <;> trivial)
    (g := mkF m pc L (.int (Int32.ofNat z) :: .int (Int32.ofNat q) :: .ref dst :: .int (Int32.ofNat o) :: .ref src :: rest)) rfl (hsz.trans hm.symm) (rest := rest) rfl (hb hc hd) hfr (by show 2 * 0 + _ + _ ≤ _; rw [nativeFrameWords_plain 5 (by decide)]; omega)
  have hU : ((T.setVm vm₁).setCell dst (Jvm.copied cs cd (Int32.ofNat o) (Int32.ofNat q) (Int32.ofNat z))).heap = h.setIfInBounds dst (Jvm.copied cs cd (Int32.ofNat o) (Int32.ofNat q) (Int32.ofNat z)) := by rw [← hh]; rfl
  have hs : ∀ x ∈ [dst], Safe Z EL vm h x := fun x hx => by cases List.mem_singleton.mp hx; exact Sa
  have hz' : ∀ x ∈ [dst], Z.heap.size ≤ x := fun x hx => by cases List.mem_singleton.mp hx; exact hz
  have ch : CHr Z EL vm h vm (h.setIfInBounds dst (Jvm.copied cs cd (Int32.ofNat o) (Int32.ofNat q) (Int32.ofNat z))) := CHr.keep K hs hon.2.2.2.1
  obtain ⟨s₂, v2, st3, r1, r2, r3, r4, r5⟩ := g _ K AB (CHr.safe ch hlt Sa) ch hx hc hm hl hnm hr (hon.keep K hs hz') _ _ _ _ X' hU (Fr.app hF fun y hy => by rw [Jvm.Stand.copyLocs_base hy]; exact hz) hk hn
  exact ⟨s₂, v2, st _ st3, r1, r2, r3, ch.trans r4, r5⟩

theorem Go.newarrayE {aty : ArrayType} {z : Int32} {ad : String} (had : "[" ++ (newarray.typeOf aty).toString = ad) (cap : Nat) (pc' : Nat) (hd : decode code pc = .ok (.newarray aty, 2)) (hp : pc + 2 = pc') (w : (Cond.arrayClass (newarray.typeOf aty)).before a0 Z = true) (hz : ¬ z < 0) (hcap : z.toNatClampNeg ≤ cap) (hb8 : cap * 8 ≤ 536870912) (hk0 : k + 1 ≤ R.cells) (hn0 : n + cap ≤ R.slots)
    (g : ∀ a h', a = h.size → Ext h h' → (∃ cA, Arv Z h' a cA (newarray.typeOf aty) z [] (defaultValue (newarray.typeOf aty)) ∧ Exa Z h' a ad) → Safe Z EL vm h' a → Z.heap.size ≤ a → CHr Z EL vm h vm h' → Go nw p l e R s m args below meth c code ml nm ret Z a0 EL own P vm h' (k + 1) (n + cap) pc' L (.ref a :: S)) : Go nw p l e R s m args below meth c code ml nm ret Z a0 EL own P vm h k n pc L (.int z :: S) := by
  subst hp
  refine Go.made (dk := 1) (dn := cap) (S' := fun a => .ref a :: S) (F := fun h' a => ∃ cA, Arv Z h' a cA (newarray.typeOf aty) z [] (defaultValue (newarray.typeOf aty)) ∧ Exa Z h' a ad) hk0 hn0 (fun T locs cells slots X hh hx hc hm hon q1 q2 => ?_) g
  obtain ⟨T', h', cA, X', e', E, A, Ex, st⟩ := newPE X hx hon.2.1 w hh (g := mkF m pc L (.int z :: S)) rfl (hb hc hd) rfl hz hcap hb8 q1 q2 had
  exact ⟨T', h', X', e', E, ⟨cA, Arv.new A hz, Ex⟩, st⟩
/-- invokevirtual clone() on an array -/
theorem Go.clone {idx : Nat} {ad : String} {a : Addr} {kA : ClassId} {ty : FieldType} {z : Int32} {vs : List Value} {dv : Value} {rest : List Value} (Wk cap : Nat) (pc' : Nat) (hd : decode code pc = .ok (.invokevirtual idx, 3)) (hp : pc + 3 = pc')
    (w1 : (Jvm.Cond.methodLink own idx ⟨ad, "clone", "()Ljava/lang/Object;"⟩).before a0 Z = true) (w2 : (Jvm.Cond.sameMethod ad "java/lang/Object" "clone" "()Ljava/lang/Object;").before a0 Z = true) (w3 : (Jvm.Cond.native ⟨"java/lang/Object", "clone", "()Ljava/lang/Object;"⟩).before a0 Z = true)
    (w4 : (Jvm.Cond.instanceMethod ⟨"java/lang/Object", "clone", "()Ljava/lang/Object;"⟩).before a0 Z = true) (w5 : (Jvm.Cond.selects ad ⟨ad, "clone", "()Ljava/lang/Object;"⟩ ⟨"java/lang/Object", "clone", "()Ljava/lang/Object;"⟩).before a0 Z = true) (w6 : (Jvm.Cond.castable ad "java/lang/Cloneable").before a0 Z = true)
    (A : Arv Z h a kA ty z vs dv) (E : Exa Z h a ad) (hst : S = .ref a :: rest) (hsz : L.size = ml) (hW : (rest.map fun v => v.category).sum ≤ Wk) (hfr : 1 ≤ R.frames) (hlo : Wk + 14 ≤ R.locals) (hcap : z.toNatClampNeg ≤ cap) (hk0 : k + 1 ≤ R.cells) (hn0 : n + cap ≤ R.slots)
    (g : ∀ r h', r = h.size → Ext h h' → (Arv Z h' r kA ty z vs dv ∧ Exa Z h' r ad) → Safe Z EL vm h' r → Z.heap.size ≤ r → CHr Z EL vm h vm h' → Go nw p l e R s m args below meth c code ml nm ret Z a0 EL own P vm h' (k + 1) (n + cap) pc' L (.ref r :: rest)) : Go nw p l e R s m args below meth c code ml nm ret Z a0 EL own P vm h k n pc L S := by
  subst hp hst
  refine Go.made (dk := 1) (dn := cap) (S' := fun a => .ref a :: rest) (F := fun h' r => Arv Z h' r kA ty z vs dv ∧ Exa Z h' r ad) hk0 hn0 (fun T locs cells slots X hh hx hc hm hon q1 q2 => ?_) g
  obtain ⟨T', h', X', e', E1, A1, E2, st⟩ := cloneH X hx hon.2.1 hon.2.2.1 w1 w2 w3 w4 w5 w6 hh A.arh E (g := mkF m pc L (.ref a :: rest)) rfl (hsz.trans hm.symm) rfl (hb hc hd) hfr (W := Wk) (cap := cap) (by show 2 * 0 + _ ≤ _; omega) hlo hcap q1 q2
  exact ⟨T', h', X', e', E1, ⟨A1, E2⟩, st⟩
/-- castore at the end of what a char[] holds -/
theorem Go.pushC {a : Addr} {kA : ClassId} {z j x : Int32} (xs : List Int32) (N : Nat) (pc' : Nat) (hd : decode code pc = .ok (.castore, 1)) (hp : pc + 1 = pc') (A : Arv Z h a kA .char z (xs.map Value.int) (.int 0)) (hN : z.toNatClampNeg = N) (hj : j = Int32.ofNat xs.length) (hl : xs.length < N) (hx1 : nar .char x = x) (Sa : Safe Z EL vm h a) (hz : Z.heap.size ≤ a)
    (g : ∀ h', Keep h h' [a] → Arv Z h' a kA .char z ((xs ++ [x]).map Value.int) (.int 0) → Safe Z EL vm h' a → CHr Z EL vm h vm h' → Go nw p l e R s m args below meth c code ml nm ret Z a0 EL own P vm h' k n pc' L S) : Go nw p l e R s m args below meth c code ml nm ret Z a0 EL own P vm h k n pc L (.int x :: .int j :: .ref a :: S) := by
  have hlt := clamp_lt z
  have c1 : j.toNatClampNeg = xs.length := by rw [hj]; exact Int32.toNatClampNeg_ofNat_of_lt (by omega)
  have A' : Arv Z h a kA .char z (xs.map Value.int ++ [.int 0]) (.int 0) := A.pad (pad_rep _ _ 1)
  have hneg : ¬ z < 0 := by obtain ⟨_, _, _, _, q, _⟩ := A; exact q
  refine Go.castore xs.length x ((xs ++ [x]).map Value.int) pc' hd hp A' ⟨?_, ?_⟩ c1 (by simp) hx1 (by simp) Sa hz g
  · rw [hj, Int32.lt_iff_toInt_lt, Int32.toInt_ofNat_of_lt (by omega)]; have e1 : (0 : Int32).toInt = 0 := rfl; omega
  · rw [hj, Int32.lt_iff_toInt_lt, Int32.toInt_ofNat_of_lt (by omega)]
    have e1 : (0 : Int32).toInt = 0 := rfl
    rw [Int32.lt_iff_toInt_lt] at hneg
    have e2 : z.toNatClampNeg = z.toInt.toNat := rfl
    omega
theorem Go.switchHit {k0 : Int32} {df : Int} {prs : Array (Int × Int)} {len : Nat} {a off : Int} (pc' : Nat) (hd : decode code pc = .ok (.lookupswitch df prs, len)) (hs : (prs.toList.zip (prs.toList.drop 1)).all (fun (a, next) => a.1 < next.1) = true) (hf : prs.find? (·.1 == k0.toInt) = some (a, off)) (ho : 0 ≤ (pc : Int) + off) (hp : ((pc : Int) + off).toNat = pc') (g : Go nw p l e R s m args below meth c code ml nm ret Z a0 EL own P vm h k n pc' L S) : Go nw p l e R s m args below meth c code ml nm ret Z a0 EL own P vm h k n pc L (.int k0 :: S) := by
  subst hp
  exact g.note fun T locs cells slots X hh hx hc hm hon => ⟨T, X, hh, fun target q => Jvm.Stand.lookupswitchHit X hx (g := mkF m pc L (.int k0 :: S)) rfl rfl (hb hc hd) hs hf ho target q⟩
theorem Go.switchMiss {k0 : Int32} {df : Int} {prs : Array (Int × Int)} {len : Nat} (pc' : Nat) (hd : decode code pc = .ok (.lookupswitch df prs, len)) (hs : (prs.toList.zip (prs.toList.drop 1)).all (fun (a, next) => a.1 < next.1) = true) (hf : prs.find? (·.1 == k0.toInt) = none) (ho : 0 ≤ (pc : Int) + df) (hp : ((pc : Int) + df).toNat = pc') (g : Go nw p l e R s m args below meth c code ml nm ret Z a0 EL own P vm h k n pc' L S) : Go nw p l e R s m args below meth c code ml nm ret Z a0 EL own P vm h k n pc L (.int k0 :: S) := by
  subst hp
  exact g.note fun T locs cells slots X hh hx hc hm hon => ⟨T, X, hh, fun target q => Jvm.Stand.lookupswitchMiss X hx (g := mkF m pc L (.int k0 :: S)) rfl rfl (hb hc hd) hs hf ho target q⟩
end Core
end Jvm.Own

namespace Jvm.Own
open Sem ClassFile Op Lib Bundle Jvm.Stand Jvm.Free Jvm.LawKit Jvm.RoadKit
section Facts
variable {Z : State} {a0 : Array Value} {EL : List (String × Nat)} {vm vm' : Vm} {h h' h0 h1 h2 : Heap} {a b x : Addr} {cs ds : List Int32} {ws : List Addr} {C : String} {n : Nat}
theorem Ext.rfl' (h : Heap) : Ext h h := ⟨Nat.le_refl _, fun _ _ q => q⟩
theorem Ext.tr (E : Ext h h1) (F : Ext h1 h2) : Ext h h2 := ⟨Nat.le_trans E.1 F.1, fun a c q => F.2 _ _ (E.2 _ _ q)⟩
/-- only new cells written: from the old heap's side nothing has changed -/
theorem Ext.kp (E : Ext h h1) (K : Keep h1 h2 ws) (q : ∀ x ∈ ws, h.size ≤ x) : Ext h h2 :=
  ⟨Nat.le_trans E.1 K.1, fun a c r => K.2.1 a c (E.2 _ _ r) fun z => absurd (Array.getElem?_eq_some_iff.mp r).1 (Nat.not_lt.mpr (q a z))⟩
theorem Ext.kp1 (E : Ext h h1) (K : Keep h1 h2 [x]) (e : x = h.size) : Ext h h2 := Ext.kp E K fun y hy => by cases List.mem_singleton.mp hy; exact Nat.le_of_eq e.symm
theorem Ext.kq1 (E : Ext h h1) (K : Keep h1 h2 [x]) (e : h.size ≤ x) : Ext h h2 := Ext.kp E K fun y hy => by cases List.mem_singleton.mp hy; exact e
theorem Ext.wr1 {sl : Nat} {v : Value} (E : Ext h h1) (W : Wr h1 h2 x sl v) (e : h.size ≤ x) : Ext h h2 := Ext.kq1 E (Keep.of_wr W) e
theorem Keep.ofExt (E : Ext h h') (ws : List Addr) : Keep h h' ws := (Keep.refl h ws).ext E
theorem Keep.e0 (K : Keep h h' []) : Ext h h' := ⟨K.1, fun a c q => K.2.1 a c q nin0⟩
theorem ne_of_new (q : a < h.size) (r : h.size ≤ b) : a ≠ b := Nat.ne_of_lt (Nat.lt_of_lt_of_le q r)
/-- a Latin-1 String of these chars -/
def Str (Z : State) (h : Heap) (a : Addr) (cs : List Int32) : Prop :=
  ∃ (b : Addr) (kb : ClassId), Exa Z h a "java/lang/String" ∧ Fld Z h a "java/lang/String" "coder" "B" (.int 0) ∧ Fld Z h a "java/lang/String" "value" "[B" (.ref b) ∧
    Arv Z h b kb .byte (Int32.ofNat cs.length) ((cs.map fun c => c.toInt8.toInt32).map Value.int) (.int 0) ∧ cs.length ≤ 4000 ∧ ∀ c ∈ cs, ¬ c < 0 ∧ ¬ (255 : Int32) < c
theorem Str.ext (S : Str Z h a cs) (E : Ext h h') : Str Z h' a cs := by
  obtain ⟨b, kb, s1, s2, s3, s4, s5⟩ := S
  exact ⟨b, kb, s1.ext E, s2.ext E, s3.ext E, s4.ext E, s5⟩
theorem Str.exa (S : Str Z h a cs) : Exa Z h a "java/lang/String" := by obtain ⟨b, kb, s1, -⟩ := S; exact s1
theorem Str.lt (S : Str Z h a cs) : a < h.size := S.exa.lt
/-- an object of another class is written -/
theorem Str.keepE (S : Str Z h a cs) (K : Keep h h' [x]) (E : Exa Z h x C) (hC : C ≠ "java/lang/String") (wi : (Jvm.Cond.instantiable C n).before a0 Z = true) : Str Z h' a cs := by
  obtain ⟨b, kb, s1, s2, s3, s4, s5⟩ := S
  have n1 : a ∉ [x] := ninS (fun q => (Exa.ne E s1 hC) q.symm) nin0
  have n2 : b ∉ [x] := ninS (fun q => (Exa.neArv E s4 wi) q.symm) nin0
  exact ⟨b, kb, s1.keep K, s2.keep K n1, s3.keep K n1, s4.keep K n2, s5⟩
theorem Str.wrE {sl : Nat} {v : Value} (S : Str Z h a cs) (W : Wr h h' x sl v) (E : Exa Z h x C) (hC : C ≠ "java/lang/String") (wi : (Jvm.Cond.instantiable C n).before a0 Z = true) : Str Z h' a cs := S.keepE (Keep.of_wr W) E hC wi
/-- an array of another kind is written -/
theorem Str.keepA {k : ClassId} {ty : FieldType} {z : Int32} {vs : List Value} {dv : Value} {nI : Nat} (S : Str Z h a cs) (K : Keep h h' [x]) (A : Arv Z h x k ty z vs dv) (ht : ty ≠ .byte) (wi : (Jvm.Cond.instantiable "java/lang/String" nI).before a0 Z = true) : Str Z h' a cs := by
  obtain ⟨b, kb, s1, s2, s3, s4, s5⟩ := S
  have n1 : a ∉ [x] := ninS (Exa.neArv s1 A wi) nin0
  have n2 : b ∉ [x] := ninS (fun q => by
    subst q
    obtain ⟨c1, ⟨e1, ⟨-, k1, f1, p1, g1⟩, -⟩, -⟩ := s4
    obtain ⟨c2, ⟨e2, ⟨-, k2, f2, p2, g2⟩, -⟩, -⟩ := A
    cases e1.symm.trans e2
    cases f1.symm.trans f2
    rw [g1] at g2
    cases g2
    exact ht rfl) nin0
  exact ⟨b, kb, s1.keep K, s2.keep K n1, s3.keep K n1, s4.keep K n2, s5⟩
theorem Exa.insOf (E : Exa Z h a C) : Ins Z h a C true := Ins.self E
theorem i2c255 (x : Int32) : (x &&& 255).toUInt32.toUInt16.toUInt32.toInt32 = x &&& 255 := i2c_mask x
theorem and255 (x : Int32) : ¬ (x &&& (255 : Int32)) < 0 ∧ ¬ (255 : Int32) < (x &&& (255 : Int32)) := by
  have t : ∀ k : Fin 256, ¬ (Int32.ofNat k.val) < 0 ∧ ¬ (255 : Int32) < Int32.ofNat k.val := by decide +kernel
  have h : (x &&& 255).toBitVec.toNat < 256 := by
    simp only [Int32.toBitVec_and, BitVec.toNat_and]
    exact Nat.lt_succ_of_le Nat.and_le_right
  have e : (x &&& 255) = Int32.ofNat (x &&& 255).toBitVec.toNat := by
    apply Int32.toBitVec_inj.mp
    show _ = BitVec.ofNat 32 _
    rw [BitVec.ofNat_toNat]; simp
  rw [e]
  exact t ⟨_, h⟩
theorem narC {x : Int32} (h : ¬ x < 0 ∧ ¬ (255 : Int32) < x) : nar .char x = x := by
  have e : x = x &&& 255 := by
    obtain ⟨h1, h2⟩ := h
    apply Int32.toInt_inj.mp
    rw [c_mask x 255 8 (by decide) (by decide)]
    rw [Int32.lt_iff_toInt_lt] at h1 h2
    have e1 : (0 : Int32).toInt = 0 := rfl
    have e2 : (255 : Int32).toInt = 255 := rfl
    omega
  rw [e]; exact i2c_mask x
theorem narZ {x : Int32} (h : x = 0 ∨ x = 1) : narrow .boolean (.int x) = .int x := by rcases h with rfl | rfl <;> rfl
theorem narCv {x : Int32} (h : ¬ x < 0 ∧ ¬ (255 : Int32) < x) : narrow .char (.int x) = .int x := (show narrow .char (.int x) = .int (nar .char x) from rfl).trans (by rw [narC h])
theorem l2i_mask {y m : Int64} {k : Nat} (hk : k ≤ 30) (hm : m.toBitVec.toNat = 2 ^ k - 1) : ((y &&& m).toInt32).toInt = y.toInt % (2 ^ k : Nat) := by
  have h1 := c_maskL y m k (by omega) hm
  have h2 := c_l2i (y &&& m)
  rw [h1] at h2
  have h3 := rng32 (y &&& m).toInt32
  have h4 : (2 ^ k : Nat) ≤ 2 ^ 30 := Nat.pow_le_pow_right (by decide) hk
  have h5 : 0 < (2 ^ k : Nat) := Nat.pow_pos (by decide)
  have h6 := Int.emod_nonneg y.toInt (b := ((2 ^ k : Nat) : Int)) (by omega)
  have h7 := Int.emod_lt_of_pos y.toInt (b := ((2 ^ k : Nat) : Int)) (by omega)
  omega
theorem b255L (y : Int64) : ¬ (y &&& (255 : Int64)).toInt32 < 0 ∧ ¬ (255 : Int32) < (y &&& (255 : Int64)).toInt32 := by
  have h := l2i_mask (y := y) (m := 255) (k := 8) (by decide) (by decide)
  rw [Int32.lt_iff_toInt_lt, Int32.lt_iff_toInt_lt, h]
  have e1 : (0 : Int32).toInt = 0 := rfl
  have e2 : (255 : Int32).toInt = 255 := rfl
  omega
theorem ofNat_toInt {n : Nat} (h : n < 2 ^ 31) : (Int32.ofNat n).toInt = n := len_toInt h
theorem ofNat_lt {i n : Nat} (hi : i < 2 ^ 31) (hn : n < 2 ^ 31) : Int32.ofNat i < Int32.ofNat n ↔ i < n := by
  rw [Int32.lt_iff_toInt_lt, ofNat_toInt hi, ofNat_toInt hn]; omega
theorem Str.at {i : Nat} (S : Str Z h a cs) (hi : i < cs.length) : ¬ cs.getD i 0 < 0 ∧ ¬ (255 : Int32) < cs.getD i 0 := by
  obtain ⟨b, kb, -, -, -, -, -, q⟩ := S
  have e : cs.getD i 0 = cs[i] := by simp [List.getD_eq_getElem?_getD, hi]
  rw [e]; exact q _ (List.getElem_mem _)
theorem Str.len (S : Str Z h a cs) : cs.length ≤ 4000 := by obtain ⟨b, kb, -, -, -, -, q, -⟩ := S; exact q
theorem refCat {v : Value} (h : v.isRef = true) : v.category = 1 := by rcases ref_cases h with rfl | ⟨a, rfl⟩ <;> rfl
/-- a truth as an int -/
def bi (P : Prop) [Decidable P] : Int32 := if P then 1 else 0
theorem bi_t {P : Prop} [Decidable P] (h : P) : bi P = 1 := if_pos h
theorem bi_f {P : Prop} [Decidable P] (h : ¬ P) : bi P = 0 := if_neg h
theorem bi0 {P : Prop} [Decidable P] : bi P = 0 ↔ ¬ P := by unfold bi; by_cases h : P <;> simp [h]
theorem bi1 {P : Prop} [Decidable P] : bi P = 1 ↔ P := by unfold bi; by_cases h : P <;> simp [h]
theorem bi_iff {P Q : Prop} [Decidable P] [Decidable Q] (h : P ↔ Q) : bi P = bi Q := by unfold bi; by_cases q : Q <;> simp [q, h]
theorem bi01 (P : Prop) [Decidable P] : bi P = 0 ∨ bi P = 1 := by unfold bi; by_cases h : P <;> simp [h]
theorem biZ (P : Prop) [Decidable P] : narrow .boolean (.int (bi P)) = .int (bi P) := narZ (bi01 P)
/-- a class that is no subclass of K -/
theorem noSub {C K O : String} {nk : Nat} (hC : (Jvm.Cond.superclass C O).before a0 Z = true) (hO : (Jvm.Cond.noSuperclass O).before a0 Z = true) (hK : (Jvm.Cond.instantiable K nk).before a0 Z = true) (n1 : C ≠ K) (n2 : O ≠ K) : ∃ c t, Z.vm.findClass C = some c ∧ Z.vm.findClass K = some t ∧ Z.vm.assignable c t = false := by
  obtain ⟨t, kt, g1, g2, g3, g4⟩ := Cond.instantiable_spec hK
  obtain ⟨o, ko, o1, o2, o3, -, -⟩ := Cond.noSuperclass_spec hO
  obtain ⟨c, h0⟩ := found_sup hC
  obtain ⟨p, k, kp, h1, h2, h3, h4, h5, -, h7⟩ := Cond.superclass_spec h0 hC
  cases o1.symm.trans h1
  have ne := ids_ne h0 g1 n1
  have no := ids_ne o1 g1 n2
  refine ⟨c, t, h0, g1, ?_⟩
  have sub : ∀ fuel, Z.vm.isSubclassAux fuel c t = false := fun fuel => by
    cases fuel with
    | zero => rfl
    | succ f =>
      cases f with
      | zero => simp [Vm.isSubclassAux, ne, h2, h4]
      | succ f => simp [Vm.isSubclassAux, ne, h2, h4, no, o2, o3]
  have g5 : kt.isInterface = false := by
    have q := g4.1
    simp only [Bool.or_eq_false_iff] at q
    exact q.1
  show Z.vm.assignableAux (255 + 1) c t = false
  simp [Vm.assignableAux, ne, h2, g2, h5, g3, g5, Vm.isSubclass, sub]
end Facts
end Jvm.Own
/- laws to paste: Road.backV (cut by pick.py; bodies as the Statement names them) -/
namespace Jvm.Pilot.@@N@@
namespace StrChars
open Jvm Sem ClassFile Op Lib Jvm.Stand Jvm.Free.XT Jvm.Free.ALB Jvm.Free.JM Jvm.Free
open Jvm.Lib.Cold (StaticIs)
/-- a char array whose places are chars -/
def Ch (a : Addr) (A : Cell) (U : State) : Prop := Arr .char a A U ∧ Typed .char A
theorem Ch.mv {a : Addr} {A : Cell} {U U' : State} (h : Ch a A U) (hal : U.vm.Alike U'.vm) (hh : U'.heap = U.heap) : Ch a A U' := ⟨h.1.mv hal hh, h.2⟩
theorem Ch.keep {a : Addr} {A : Cell} {U U' : State} (h : Ch a A U) (hal : U.vm.Alike U'.vm) (hk : U'.heap[a]? = some A) : Ch a A U' := ⟨h.1.keep hal hk, h.2⟩
/-- what place i of a char[]'s cell holds -/
def cv (A : Cell) (i : Nat) : Int32 := match A.slots[i]? with | some (.int x) => x | _ => 0
theorem Ch.get {a : Addr} {A : Cell} {U : State} (h : Ch a A U) {i : Nat} (hi : i < A.slots.size) : A.slots[i]? = some (.int (cv A i)) := by
  have e := Array.getElem?_eq_getElem hi
  have f := h.2 i _ e
  unfold cv; rw [e]
  generalize A.slots[i] = v at f
  cases v <;> simp [fits] at f ⊢
/-- the byte that i2b leaves of a char -/
def lo8 (x : Int32) : Int32 := x.toInt8.toInt32
theorem fits_lo8 (y : Int32) : fits .byte (.int (lo8 y)) = true := by
  have h1 := y.toInt8.le_toInt
  have h2 := y.toInt8.toInt_lt
  simp only [lo8, fits, Bool.and_eq_true, decide_eq_true_eq, Int32.le_iff_toInt_le, Int8.toInt_toInt32, show (-128 : Int32).toInt = -128 from by decide, show (127 : Int32).toInt = 127 from by decide]
  omega
/-- A' is A but that each place j of lo .. hi - 1 holds f j -/
def Laid (A A' : Cell) (lo hi : Nat) (f : Nat → Value) : Prop := A'.cls = A.cls ∧ A'.vm = A.vm ∧ A'.slots.size = A.slots.size ∧ ∀ i, A'.slots[i]? = if lo ≤ i ∧ i < hi then some (f i) else A.slots[i]?
theorem Laid.zero (A : Cell) (lo : Nat) (f : Nat → Value) : Laid A A lo (lo + 0) f := ⟨rfl, rfl, rfl, fun i => by rw [if_neg (by omega)]⟩
theorem Laid.step {A Ak : Cell} {lo k : Nat} {f : Nat → Value} {v : Value} (h : Laid A Ak lo k f) (hlo : lo ≤ k) (hk : k < Ak.slots.size) (hv : v = f k) : Laid A (Ak.setSlot k v) lo (k + 1) f := by
  refine ⟨h.1, h.2.1, by simpa [Cell.setSlot] using h.2.2.1, fun i => ?_⟩
  by_cases e : k = i
  · subst e; rw [Cell.slots_setSlot_self v hk, if_pos (by omega), hv]
  · rw [Cell.slots_setSlot_ne v e, h.2.2.2 i]
    by_cases q : lo ≤ i ∧ i < k
    · rw [if_pos q, if_pos (by omega)]
    · rw [if_neg q, if_neg (by omega)]
def U16 : String := "java/lang/StringUTF16"
namespace Cmp5
def yN : MethodName := ⟨"java/lang/StringUTF16", "compress", "([CI[BII)I"⟩
abbrev yB : ByteArray := jdk_52_method_21_code
theorem d0 : decode yB 0 = .ok (.iconst 0, 1) := by decide +kernel
theorem d1 : decode yB 1 = .ok (.istore 5, 2) := by decide +kernel
theorem d3 : decode yB 3 = .ok (.iload 5, 2) := by decide +kernel
theorem d5 : decode yB 5 = .ok (.iload 4, 2) := by decide +kernel
theorem d7 : decode yB 7 = .ok (.if_icmp (.ge) 37, 3) := by decide +kernel
theorem d10 : decode yB 10 = .ok (.aload_n 0, 1) := by decide +kernel
theorem d11 : decode yB 11 = .ok (.iload_n 1, 1) := by decide +kernel
theorem d12 : decode yB 12 = .ok (.caload, 1) := by decide +kernel
theorem d13 : decode yB 13 = .ok (.istore 6, 2) := by decide +kernel
theorem d15 : decode yB 15 = .ok (.iload 6, 2) := by decide +kernel
theorem d17 : decode yB 17 = .ok (.sipush 255, 3) := by decide +kernel
theorem d20 : decode yB 20 = .ok (.if_icmp (.le) 6, 3) := by decide +kernel
theorem d26 : decode yB 26 = .ok (.aload_n 2, 1) := by decide +kernel
theorem d27 : decode yB 27 = .ok (.iload_n 3, 1) := by decide +kernel
theorem d28 : decode yB 28 = .ok (.iload 6, 2) := by decide +kernel
theorem d30 : decode yB 30 = .ok (.i2b, 1) := by decide +kernel
theorem d31 : decode yB 31 = .ok (.bastore, 1) := by decide +kernel
theorem d32 : decode yB 32 = .ok (.iinc 1 1, 3) := by decide +kernel
theorem d35 : decode yB 35 = .ok (.iinc 3 1, 3) := by decide +kernel
theorem d38 : decode yB 38 = .ok (.iinc 5 1, 3) := by decide +kernel
theorem d41 : decode yB 41 = .ok (.goto (-38), 3) := by decide +kernel
theorem d44 : decode yB 44 = .ok (.iload 4, 2) := by decide +kernel
theorem d46 : decode yB 46 = .ok (.ireturn, 1) := by decide +kernel
def site : List Cond := []
def tab : Cond := tabOf yN yB 7 (some .int) site
def P (b : Addr) (A : Cell) (d : Addr) (B : Cell) (o q len : Nat) (args : Array Value) (s : State) : Prop := args = #[.ref b, .int (Int32.ofNat o), .ref d, .int (Int32.ofNat q), .int (Int32.ofNat len)] ∧ Ch b A s ∧ Arr .byte d B s ∧ b ≠ d ∧ o + len ≤ A.slots.size ∧ q + len ≤ B.slots.size ∧ ∀ i, i < len → ¬ 255 < cv A (o + i)
def E (b : Addr) (A : Cell) (d : Addr) (B : Cell) (o q len : Nat) (r : Option Value) (s u : State) : Prop := r = some (.int (Int32.ofNat len)) ∧ ∃ B', Put d B' s u ∧ Laid B B' q (q + len) (fun j => Value.int (lo8 (cv A (o + (j - q)))))
/-- no char of the range above 255: len; the places written hold each char's low byte -/
theorem law (l : Launch) (b : Addr) (A : Cell) (d : Addr) (B : Cell) (o q len : Nat) : Law l yN 5 5 0 0 yB 7 (some .int) site (P b A d B o q len) (E b A d B o q len) (copyLocs d q len) 0 0 := by
  refine Law.of_walk (plainFor_of_name (by decide +kernel)) (by decide +kernel) (by decide +kernel) (by decide) (fun _ _ h => by rw [h.1]; rfl) (fun _ U U' hal hh h => ⟨h.1, h.2.1.mv hal hh, h.2.2.1.mv hal hh, h.2.2.2⟩) (fun r U U' V V' h1 hal h2 h => ⟨h.1, h.2.elim fun B' q => ⟨B', q.1.mv h1 h2, q.2⟩⟩) ?_
  intro p e s m args below meth c s₁ X0 hexec hbytes hml hret hlk hnm hown hh0 W hP
  obtain ⟨rfl, hA, hB, hne, l1, l2, hp⟩ := hP
  have c1 : Steps p.tables e below (s₁.setTop (entryFrame m #[.ref b, .int (Int32.ofNat o), .ref d, .int (Int32.ofNat q), .int (Int32.ofNat len)] 7)) (s₁.setTop (mkF m 0 #[.val (.ref b), .val (.int (Int32.ofNat o)), .val (.ref d), .val (.int (Int32.ofNat q)), .val (.int (Int32.ofNat len)), .unset, .unset] [])) := entry rfl
  have hA0 := hA.1.mv X0.warmed.alike hh0
  have hB0 := hB.mv X0.warmed.alike hh0
  have a31 := hA.1.2.2.2
  have c2 : Steps p.tables e below (s₁.setTop (entryFrame m #[.ref b, .int (Int32.ofNat o), .ref d, .int (Int32.ofNat q), .int (Int32.ofNat len)] 7)) (s₁.setTop (mkF m 3 #[.val (.ref b), .val (.int (Int32.ofNat o)), .val (.ref d), .val (.int (Int32.ofNat q)), .val (.int (Int32.ofNat len)), .val (.int 0), .unset] [])) := c1.trans (by
    refine iconstV X0.here hexec rfl 0 (hb hbytes d0) (by decide) ?_
    refine XS.istore X0.here hexec rfl (hb hbytes d1) rfl rfl ?_
    exact Steps.refl _)
  have loop : ∀ (r i : Nat), i + r = len → ∀ (z : Slot), (z = .unset ∨ ∃ w, z = .val w ∧ w.category = 1) → ∀ (Tl : State) (Bk : Cell), Stand p l e { frames := 0, locals := 0, cells := 0, slots := 0 } s m #[.ref b, .int (Int32.ofNat o), .ref d, .int (Int32.ofNat q), .int (Int32.ofNat len)] below meth c Tl ([] ++ copyLocs d q i) 0 0 → Put d Bk s₁ Tl → Laid B Bk q (q + i) (fun j => Value.int (lo8 (cv A (o + (j - q))))) →
      Steps p.tables e below (s₁.setTop (entryFrame m #[.ref b, .int (Int32.ofNat o), .ref d, .int (Int32.ofNat q), .int (Int32.ofNat len)] 7)) (Tl.setTop (mkF m 3 #[.val (.ref b), .val (.int (Int32.ofNat (o + i))), .val (.ref d), .val (.int (Int32.ofNat (q + i))), .val (.int (Int32.ofNat len)), .val (.int (Int32.ofNat i)), z] [])) → ∃ (T' : State) (B' : Cell) (z' : Slot), Stand p l e { frames := 0, locals := 0, cells := 0, slots := 0 } s m #[.ref b, .int (Int32.ofNat o), .ref d, .int (Int32.ofNat q), .int (Int32.ofNat len)] below meth c T' ([] ++ copyLocs d q len) 0 0 ∧ Put d B' s₁ T' ∧ Laid B B' q (q + len) (fun j => Value.int (lo8 (cv A (o + (j - q))))) ∧
      Steps p.tables e below (s₁.setTop (entryFrame m #[.ref b, .int (Int32.ofNat o), .ref d, .int (Int32.ofNat q), .int (Int32.ofNat len)] 7)) (T'.setTop (mkF m 3 #[.val (.ref b), .val (.int (Int32.ofNat (o + len))), .val (.ref d), .val (.int (Int32.ofNat (q + len))), .val (.int (Int32.ofNat len)), .val (.int (Int32.ofNat len)), z'] [])) := by
    intro r
    induction r with
    | zero =>
      intro i hi z hz Tl Bk Xl pl fl cl
      have hil : i = len := by omega
      rw [hil] at Xl fl cl
      exact ⟨Tl, Bk, z, Xl, pl, fl, cl⟩
    | succ r ih =>
      intro i hi z hz Tl Bk Xl pl fl cl
      have all := X0.warmed.alike.symm.trans Xl.warmed.alike
      have hAl := hA0.keep all (pl.other hne hA0.1)
      have hBk := hB0.like all pl.1 fl.1 fl.2.1 fl.2.2.1
      have hlt : q + i < Bk.slots.size := by rw [fl.2.2.1]; omega
      have c3 : Steps p.tables e below (s₁.setTop (entryFrame m #[.ref b, .int (Int32.ofNat o), .ref d, .int (Int32.ofNat q), .int (Int32.ofNat len)] 7)) (Tl.setTop (mkF m 12 #[.val (.ref b), .val (.int (Int32.ofNat (o + i))), .val (.ref d), .val (.int (Int32.ofNat (q + i))), .val (.int (Int32.ofNat len)), .val (.int (Int32.ofNat i)), z] [.int (Int32.ofNat (o + i)), .ref b])) := cl.trans (by
        refine XS.iload Xl.here hexec rfl (hb hbytes d3) rfl ?_
        refine XS.iload Xl.here hexec rfl (hb hbytes d5) rfl ?_
        refine XS.icmpNo Xl.here hexec rfl (hb hbytes d7) rfl (ii_ge_f (lt32 (by omega) (by omega))) ?_
        refine XS.aloadN Xl.here hexec rfl (hb hbytes d10) rfl rfl ?_
        refine XS.iloadN Xl.here hexec rfl (hb hbytes d11) rfl ?_
        exact Steps.refl _)
      have c4 : Steps p.tables e below (s₁.setTop (entryFrame m #[.ref b, .int (Int32.ofNat o), .ref d, .int (Int32.ofNat q), .int (Int32.ofNat len)] 7)) (Tl.setTop (mkF m 13 #[.val (.ref b), .val (.int (Int32.ofNat (o + i))), .val (.ref d), .val (.int (Int32.ofNat (q + i))), .val (.int (Int32.ofNat len)), .val (.int (Int32.ofNat i)), z] [.int (cv A (o + i))])) := c3.trans (by
        refine Xl.aget hexec hAl rfl (hA.get (i := o + i) (by omega)) rfl rfl (hb hbytes d12) ?_
        exact Steps.refl _)
      have c5 : Steps p.tables e below (s₁.setTop (entryFrame m #[.ref b, .int (Int32.ofNat o), .ref d, .int (Int32.ofNat q), .int (Int32.ofNat len)] 7)) (Tl.setTop (mkF m 15 #[.val (.ref b), .val (.int (Int32.ofNat (o + i))), .val (.ref d), .val (.int (Int32.ofNat (q + i))), .val (.int (Int32.ofNat len)), .val (.int (Int32.ofNat i)), .val (.int (cv A (o + i)))] [])) := c4.trans (by
        refine XS.istoreS Xl.here hexec rfl (hb hbytes d13) rfl rfl hz ?_
        exact Steps.refl _)
      have c6 : Steps p.tables e below (s₁.setTop (entryFrame m #[.ref b, .int (Int32.ofNat o), .ref d, .int (Int32.ofNat q), .int (Int32.ofNat len)] 7)) (Tl.setTop (mkF m 31 #[.val (.ref b), .val (.int (Int32.ofNat (o + i))), .val (.ref d), .val (.int (Int32.ofNat (q + i))), .val (.int (Int32.ofNat len)), .val (.int (Int32.ofNat i)), .val (.int (cv A (o + i)))] [.int (lo8 (cv A (o + i))), .int (Int32.ofNat (q + i)), .ref d])) := c5.trans (by
        refine XS.iload Xl.here hexec rfl (hb hbytes d15) rfl ?_
        refine sipushV Xl.here hexec rfl 255 (hb hbytes d17) (by decide) ?_
        refine XS.icmpYes Xl.here hexec rfl (pc0 := 20) rfl (hb hbytes d20) rfl (ii_le_t (hp i (by omega))) (by decide) rfl ?_
        refine XS.aloadN Xl.here hexec rfl (hb hbytes d26) rfl rfl ?_
        refine XS.iloadN Xl.here hexec rfl (hb hbytes d27) rfl ?_
        refine XS.iload Xl.here hexec rfl (hb hbytes d28) rfl ?_
        refine i2b Xl.here hexec rfl (hb hbytes d30) rfl ?_
        exact Steps.refl _)
      obtain ⟨T7, X7, p7, st7⟩ := Xl.aput hexec hBk rfl hlt rfl (fits_lo8 (cv A (o + i))) (g := (mkF m 31 #[.val (.ref b), .val (.int (Int32.ofNat (o + i))), .val (.ref d), .val (.int (Int32.ofNat (q + i))), .val (.int (Int32.ofNat len)), .val (.int (Int32.ofNat i)), .val (.int (cv A (o + i)))] [.int (lo8 (cv A (o + i))), .int (Int32.ofNat (q + i)), .ref d])) rfl (rest := []) rfl (hb hbytes d31)
      have c8 : Steps p.tables e below (s₁.setTop (entryFrame m #[.ref b, .int (Int32.ofNat o), .ref d, .int (Int32.ofNat q), .int (Int32.ofNat len)] 7)) (T7.setTop (mkF m 32 #[.val (.ref b), .val (.int (Int32.ofNat (o + i))), .val (.ref d), .val (.int (Int32.ofNat (q + i))), .val (.int (Int32.ofNat len)), .val (.int (Int32.ofNat i)), .val (.int (cv A (o + i)))] [])) := c6.trans (st7 _ (Steps.refl _))
      have c9 : Steps p.tables e below (s₁.setTop (entryFrame m #[.ref b, .int (Int32.ofNat o), .ref d, .int (Int32.ofNat q), .int (Int32.ofNat len)] 7)) (T7.setTop (mkF m 3 #[.val (.ref b), .val (.int (Int32.ofNat (o + i) + 1)), .val (.ref d), .val (.int (Int32.ofNat (q + i) + 1)), .val (.int (Int32.ofNat len)), .val (.int (Int32.ofNat i + 1)), .val (.int (cv A (o + i)))] [])) := c8.trans (by
        refine iincV X7.here hexec rfl 1 (hb hbytes d32) (by decide) rfl rfl ?_
        refine iincV X7.here hexec rfl 1 (hb hbytes d35) (by decide) rfl rfl ?_
        refine iincV X7.here hexec rfl 1 (hb hbytes d38) (by decide) rfl rfl ?_
        refine XS.goto X7.here hexec rfl (pc0 := 41) rfl (hb hbytes d41) (by decide) rfl ?_
        exact Steps.refl _)
      have c10 : Steps p.tables e below (s₁.setTop (entryFrame m #[.ref b, .int (Int32.ofNat o), .ref d, .int (Int32.ofNat q), .int (Int32.ofNat len)] 7)) (T7.setTop (mkF m 3 #[.val (.ref b), .val (.int (Int32.ofNat (o + (i + 1)))), .val (.ref d), .val (.int (Int32.ofNat (q + (i + 1)))), .val (.int (Int32.ofNat len)), .val (.int (Int32.ofNat (i + 1))), .val (.int (cv A (o + i)))] [])) := by
        have := c9
        rw [succ32, succ32, succ32] at this
        exact this
      exact ih (i + 1) (by omega) _ (Or.inr ⟨_, rfl, rfl⟩) T7 _ (by rw [copyLocs_step, ← List.append_assoc]; exact X7) (pl.trans p7) (fl.step (by omega) hlt (by simp)) c10
  obtain ⟨T9, B9, z9, X9, p9, f9, g9⟩ := loop len 0 (by omega) .unset (Or.inl rfl) s₁ B (by simpa [copyLocs] using X0) ⟨hB0.1, fun _ _ => rfl, rfl⟩ (Laid.zero _ _ _) c2
  have c11 : Steps p.tables e below (s₁.setTop (entryFrame m #[.ref b, .int (Int32.ofNat o), .ref d, .int (Int32.ofNat q), .int (Int32.ofNat len)] 7)) (T9.setTop (mkF m 46 #[.val (.ref b), .val (.int (Int32.ofNat (o + len))), .val (.ref d), .val (.int (Int32.ofNat (q + len))), .val (.int (Int32.ofNat len)), .val (.int (Int32.ofNat len)), z9] [.int (Int32.ofNat len)])) := g9.trans (by
    refine XS.iload X9.here hexec rfl (hb hbytes d3) rfl ?_
    refine XS.iload X9.here hexec rfl (hb hbytes d5) rfl ?_
    refine XS.icmpYes X9.here hexec rfl (pc0 := 7) rfl (hb hbytes d7) rfl (ii_ge_t (nlt32 (by omega) (Nat.le_refl _))) (by decide) rfl ?_
    refine XS.iload X9.here hexec rfl (hb hbytes d44) rfl ?_
    exact Steps.refl _)
  exact ⟨T9, some (.int (Int32.ofNat len)), _, _, _, X9, by simp, rfl, rfl, (fun h => by cases h), ⟨rfl, B9, p9.from hh0, f9⟩, fun fs hl => c11.trans (X9.ireturnOut hexec hret rfl (Or.inl rfl) (hb hbytes d46) hl)⟩
end Cmp5
namespace Cmp3
def yN : MethodName := ⟨"java/lang/StringUTF16", "compress", "([CII)[B"⟩
abbrev yB : ByteArray := jdk_52_method_16_code
theorem d0 : decode yB 0 = .ok (.iload_n 2, 1) := by decide +kernel
theorem d1 : decode yB 1 = .ok (.newarray .byte, 2) := by decide +kernel
theorem d3 : decode yB 3 = .ok (.astore_n 3, 1) := by decide +kernel
theorem d4 : decode yB 4 = .ok (.aload_n 0, 1) := by decide +kernel
theorem d5 : decode yB 5 = .ok (.iload_n 1, 1) := by decide +kernel
theorem d6 : decode yB 6 = .ok (.aload_n 3, 1) := by decide +kernel
theorem d7 : decode yB 7 = .ok (.iconst 0, 1) := by decide +kernel
theorem d8 : decode yB 8 = .ok (.iload_n 2, 1) := by decide +kernel
theorem d9 : decode yB 9 = .ok (.invokestatic 115, 3) := by decide +kernel
theorem d12 : decode yB 12 = .ok (.istore 4, 2) := by decide +kernel
theorem d14 : decode yB 14 = .ok (.iload 4, 2) := by decide +kernel
theorem d16 : decode yB 16 = .ok (.iload_n 2, 1) := by decide +kernel
theorem d17 : decode yB 17 = .ok (.if_icmp (.eq) 40, 3) := by decide +kernel
theorem d57 : decode yB 57 = .ok (.aload_n 3, 1) := by decide +kernel
theorem d58 : decode yB 58 = .ok (.areturn, 1) := by decide +kernel
def site : List Cond := [.arrayClass .byte, Cmp5.tab] ++ staticW U16 115 Cmp5.yN
def tab : Cond := tabOf yN yB 6 (some (.array .byte)) site
def P (b : Addr) (A : Cell) (o len : Nat) (args : Array Value) (s : State) : Prop := args = #[.ref b, .int (Int32.ofNat o), .int (Int32.ofNat len)] ∧ Ch b A s ∧ o + len ≤ A.slots.size ∧ len ≤ 536870912 ∧ ∀ i, i < len → ¬ 255 < cv A (o + i)
def E (b : Addr) (A : Cell) (o len : Nat) (r : Option Value) (s u : State) : Prop := NewArr .byte "[B" len (fun j => .int (lo8 (cv A (o + j)))) r s u ∧ u.heap.size = s.heap.size + 1
/-- no char of the range above 255: a new byte[] of their low bytes -/
theorem law (l : Launch) (b : Addr) (A : Cell) (o len : Nat) : Law l yN 3 3 1 18 yB 6 (some (.array .byte)) site (P b A o len) (E b A o len) [] 1 len := by
  refine Law.of_walk (plainFor_of_name (by decide +kernel)) (by decide +kernel) (by decide +kernel) (by decide) (fun _ _ h => by rw [h.1]; rfl) (fun _ U U' hal hh h => ⟨h.1, h.2.1.mv hal hh, h.2.2⟩) (fun r U U' V V' h1 hal h2 h => ⟨NewArr.mv r U U' V V' h1 hal h2 h.1, by rw [h1, h2]; exact h.2⟩) ?_
  intro p e s m args below meth c s₁ X0 hexec hbytes hml hret hlk hnm hown hh0 W hP
  obtain ⟨rfl, hA, l1, l2, hp⟩ := hP
  have a31 := hA.1.2.2.2
  have c1 : Steps p.tables e below (s₁.setTop (entryFrame m #[.ref b, .int (Int32.ofNat o), .int (Int32.ofNat len)] 6)) (s₁.setTop (mkF m 0 #[.val (.ref b), .val (.int (Int32.ofNat o)), .val (.int (Int32.ofNat len)), .unset, .unset, .unset] [])) := entry rfl
  have c2 : Steps p.tables e below (s₁.setTop (entryFrame m #[.ref b, .int (Int32.ofNat o), .int (Int32.ofNat len)] 6)) (s₁.setTop (mkF m 1 #[.val (.ref b), .val (.int (Int32.ofNat o)), .val (.int (Int32.ofNat len)), .unset, .unset, .unset] [.int (Int32.ofNat len)])) := c1.trans (by
    refine XS.iloadN X0.here hexec rfl (hb hbytes d0) rfl ?_
    exact Steps.refl _)
  obtain ⟨T3, B3, X3, ba3, bs3, bv3, bh3, bf3, st3⟩ := X0.anew hexec (atype := .byte) (wk W (.arrayClass .byte)) rfl (by show len * 1 ≤ _; omega) (by omega) (g := (mkF m 1 #[.val (.ref b), .val (.int (Int32.ofNat o)), .val (.int (Int32.ofNat len)), .unset, .unset, .unset] [.int (Int32.ofNat len)])) rfl (hb hbytes d1) (rest := []) rfl (Nat.le_refl _) (by show 0 + len ≤ len; omega)
  rw [hh0] at ba3 st3
  have kp3 : XT.Kept s T3 := (XT.Kept.of_eq hh0).push bh3
  have hA3 := hA.keep X3.warmed.alike (kp3 _ _ hA.1.1)
  have hne : b ≠ s.heap.size := hA.1.ne
  have c4 : Steps p.tables e below (s₁.setTop (entryFrame m #[.ref b, .int (Int32.ofNat o), .int (Int32.ofNat len)] 6)) (T3.setTop (mkF m 3 #[.val (.ref b), .val (.int (Int32.ofNat o)), .val (.int (Int32.ofNat len)), .unset, .unset, .unset] [.ref s.heap.size])) := c2.trans (st3 _ (Steps.refl _))
  have c5 : Steps p.tables e below (s₁.setTop (entryFrame m #[.ref b, .int (Int32.ofNat o), .int (Int32.ofNat len)] 6)) (T3.setTop (mkF m 9 #[.val (.ref b), .val (.int (Int32.ofNat o)), .val (.int (Int32.ofNat len)), .val (.ref s.heap.size), .unset, .unset] [.int (Int32.ofNat len), .int 0, .ref s.heap.size, .int (Int32.ofNat o), .ref b])) := c4.trans (by
    refine XS.astoreN X3.here hexec rfl (hb hbytes d3) rfl rfl rfl ?_
    refine XS.aloadN X3.here hexec rfl (hb hbytes d4) rfl rfl ?_
    refine XS.iloadN X3.here hexec rfl (hb hbytes d5) rfl ?_
    refine XS.aloadN X3.here hexec rfl (hb hbytes d6) rfl rfl ?_
    refine iconstV X3.here hexec rfl 0 (hb hbytes d7) (by decide) ?_
    refine XS.iloadN X3.here hexec rfl (hb hbytes d8) rfl ?_
    exact Steps.refl _)
  obtain ⟨v6, T6, X6, E6, g6⟩ := X3.callS hexec (Cmp5.law l b A s.heap.size B3 o 0 len) hown (wks W (staticW U16 115 Cmp5.yN)) (wk W Cmp5.tab) (W := 0) (Nat.le_of_ble_eq_true rfl) (Nat.le_of_ble_eq_true rfl) (Nat.le_refl _) (by show 0 + len + 0 ≤ len; omega) (g := (mkF m 9 #[.val (.ref b), .val (.int (Int32.ofNat o)), .val (.int (Int32.ofNat len)), .val (.ref s.heap.size), .unset, .unset] [.int (Int32.ofNat len), .int (Int32.ofNat 0), .ref s.heap.size, .int (Int32.ofNat o), .ref b])) rfl (by rw [hml]; rfl) c5 (argsL := [.ref b, .int (Int32.ofNat o), .ref s.heap.size, .int (Int32.ofNat 0), .int (Int32.ofNat len)]) (rest := []) rfl rfl (by show 2 * 0 + 0 ≤ _; decide) (hb hbytes d9) (⟨rfl, hA3, ba3, hne, l1, by rw [bs3]; simp, hp⟩)
  obtain ⟨rfl, B6, p6, f6⟩ := E6
  have c7 : Steps p.tables e below (s₁.setTop (entryFrame m #[.ref b, .int (Int32.ofNat o), .int (Int32.ofNat len)] 6)) (T6.setTop (mkF m 12 #[.val (.ref b), .val (.int (Int32.ofNat o)), .val (.int (Int32.ofNat len)), .val (.ref s.heap.size), .unset, .unset] [.int (Int32.ofNat len)])) := g6
  have c8 : Steps p.tables e below (s₁.setTop (entryFrame m #[.ref b, .int (Int32.ofNat o), .int (Int32.ofNat len)] 6)) (T6.setTop (mkF m 58 #[.val (.ref b), .val (.int (Int32.ofNat o)), .val (.int (Int32.ofNat len)), .val (.ref s.heap.size), .val (.int (Int32.ofNat len)), .unset] [.ref s.heap.size])) := c7.trans (by
    refine XS.istore X6.here hexec rfl (hb hbytes d12) rfl rfl ?_
    refine XS.iload X6.here hexec rfl (hb hbytes d14) rfl ?_
    refine XS.iloadN X6.here hexec rfl (hb hbytes d16) rfl ?_
    refine XS.icmpYes X6.here hexec rfl (pc0 := 17) rfl (hb hbytes d17) rfl (ii_eq_t rfl) (by decide) rfl ?_
    refine XS.aloadN X6.here hexec rfl (hb hbytes d57) rfl rfl ?_
    exact Steps.refl _)
  have X8 := X6.wide (L' := []) (cells' := 1) (slots' := len) (fun x hx hlt => by
    simp only [List.nil_append, copyLocs, List.mem_map, List.mem_range] at hx
    obtain ⟨i, -, rfl⟩ := hx
    exact absurd hlt (Nat.lt_irrefl _)) (Nat.le_refl _) (by omega)
  exact ⟨T6, some (.ref s.heap.size), _, _, _, X8, rfl, rfl, rfl, (fun h => by cases h), ⟨⟨rfl, B6, ba3.like (X3.warmed.alike.symm.trans X6.warmed.alike) p6.1 f6.1 f6.2.1 f6.2.2.1, f6.2.1.trans bv3, by rw [X6.warmed.alike.findClass, f6.1]; exact bf3, by rw [f6.2.2.1, bs3]; simp, fun j hj => by rw [f6.2.2.2 j, if_pos (by omega)]; rfl, kp3.put p6 (Nat.le_refl _)⟩, by rw [p6.2.2, bh3, hh0]; simp⟩, fun fs hl => c8.trans (X8.areturnOut hexec rfl hret rfl (hb hbytes d58) hl)⟩
end Cmp3
namespace CodL
def yN : MethodName := ⟨"java/lang/StringUTF16", "coderFromArrayLen", "([BI)B"⟩
abbrev yB : ByteArray := jdk_52_method_15_code
theorem d0 : decode yB 0 = .ok (.iload_n 1, 1) := by decide +kernel
theorem d1 : decode yB 1 = .ok (.aload_n 0, 1) := by decide +kernel
theorem d2 : decode yB 2 = .ok (.arraylength, 1) := by decide +kernel
theorem d3 : decode yB 3 = .ok (.isub, 1) := by decide +kernel
theorem d4 : decode yB 4 = .ok (.bipush 31, 2) := by decide +kernel
theorem d6 : decode yB 6 = .ok (.iushr, 1) := by decide +kernel
theorem d7 : decode yB 7 = .ok (.i2b, 1) := by decide +kernel
theorem d8 : decode yB 8 = .ok (.ireturn, 1) := by decide +kernel
def site : List Cond := []
def tab : Cond := tabOf yN yB 2 (some .byte) site
def P (d : Addr) (B : Cell) (args : Array Value) (s : State) : Prop := args = #[.ref d, .int (Int32.ofNat B.slots.size)] ∧ Arr .byte d B s
def E (r : Option Value) (s u : State) : Prop := XT.PureE (some (.int 0)) r s u
/-- an array as long as the number of chars: LATIN1 -/
theorem law (l : Launch) (d : Addr) (B : Cell) : Law l yN 2 2 0 0 yB 2 (some .byte) site (P d B) E [] 0 0 := by
  refine Law.of_walk (plainFor_of_name (by decide +kernel)) (by decide +kernel) (by decide +kernel) (by decide) (fun _ _ h => by rw [h.1]; rfl) (fun _ U U' hal hh h => ⟨h.1, h.2.mv hal hh⟩) (fun r U U' V V' h1 hal h2 h => XT.PureE.mv r U U' V V' h1 hal h2 h) ?_
  intro p e s m args below meth c s₁ X0 hexec hbytes hml hret hlk hnm hown hh0 W hP
  obtain ⟨rfl, hB⟩ := hP
  have hB0 := hB.mv X0.warmed.alike hh0
  have c1 : Steps p.tables e below (s₁.setTop (entryFrame m #[.ref d, .int (Int32.ofNat B.slots.size)] 2)) (s₁.setTop (mkF m 0 #[.val (.ref d), .val (.int (Int32.ofNat B.slots.size))] [])) := entry rfl
  have c2 : Steps p.tables e below (s₁.setTop (entryFrame m #[.ref d, .int (Int32.ofNat B.slots.size)] 2)) (s₁.setTop (mkF m 2 #[.val (.ref d), .val (.int (Int32.ofNat B.slots.size))] [.ref d, .int (Int32.ofNat B.slots.size)])) := c1.trans (by
    refine XS.iloadN X0.here hexec rfl (hb hbytes d0) rfl ?_
    refine XS.aloadN X0.here hexec rfl (hb hbytes d1) rfl rfl ?_
    exact Steps.refl _)
  have c3 : Steps p.tables e below (s₁.setTop (entryFrame m #[.ref d, .int (Int32.ofNat B.slots.size)] 2)) (s₁.setTop (mkF m 8 #[.val (.ref d), .val (.int (Int32.ofNat B.slots.size))] [.int (lo8 (ushr (Int32.ofNat B.slots.size - Int32.ofNat B.slots.size) 31))])) := c2.trans (by
    refine X0.alen hexec hB0 rfl rfl (hb hbytes d2) ?_
    refine XS.isub X0.here hexec rfl (hb hbytes d3) rfl ?_
    refine bipushV X0.here hexec rfl 31 (hb hbytes d4) (by decide) ?_
    refine iushr X0.here hexec rfl (hb hbytes d6) rfl ?_
    refine i2b X0.here hexec rfl (hb hbytes d7) rfl ?_
    exact Steps.refl _)
  have e0 : lo8 (ushr (Int32.ofNat B.slots.size - Int32.ofNat B.slots.size) 31) = 0 := by rw [Int32.sub_self]; decide
  rw [e0] at c3
  exact ⟨s₁, some (.int 0), _, _, _, X0, rfl, rfl, rfl, (fun h => by cases h), ⟨rfl, hh0⟩, fun fs hl => c3.trans (X0.ireturnOut hexec hret rfl (Or.inr (Or.inr (Or.inl rfl))) (hb hbytes d8) hl)⟩
end CodL
/-- the String at a is Latin-1 over a new byte[] (the heap's one new cell): the low bytes of the len chars of A from o on; every cell but a is kept -/
def Got (a : Addr) (D : Cell) (fV fC : Field) (A : Cell) (o len : Nat) (r : Option Value) (s u : State) : Prop := r = none ∧ ∃ D' V : Cell, Blank "java/lang/String" a D' u ∧ Same D D' [fV.slot, fC.slot] ∧ D'.slots[fV.slot]? = some (.ref s.heap.size) ∧ D'.slots[fC.slot]? = some (.int 0) ∧ Arr .byte s.heap.size V u ∧ V.vm = .none ∧ u.vm.findClass "[B" = some V.cls ∧ V.slots.size = len ∧ (∀ j, j < len → V.slots[j]? = some (.int (lo8 (cv A (o + j))))) ∧ (∀ (y : Addr) (c : Cell), y ≠ a → s.heap[y]? = some c → u.heap[y]? = some c) ∧ u.heap.size = s.heap.size + 1
theorem Got.mv {a : Addr} {D A : Cell} {fV fC : Field} {o len : Nat} : ∀ r (U U' V V' : State), U'.heap = U.heap → V.vm.Alike V'.vm → V'.heap = V.heap → Got a D fV fC A o len r U V → Got a D fV fC A o len r U' V' :=
  fun r U U' V V' h1 hal h2 ⟨e0, D', X, a1, a2, a3, a4, a5, a6, a7, a8, a9, a10, a11⟩ => ⟨e0, D', X, a1.mv hal h2, a2, by rw [h1]; exact a3, a4, by rw [h1]; exact a5.mv hal h2, a6, by rw [hal.findClass]; exact a7, a8, a9, by rw [h1, h2]; exact a10, by rw [h1, h2]; exact a11⟩
namespace New4
def yN : MethodName := ⟨"java/lang/String", "<init>", "([CIILjava/lang/Void;)V"⟩
abbrev yB : ByteArray := jdk_42_method_149_code
theorem d0 : decode yB 0 = .ok (.aload_n 0, 1) := by decide +kernel
theorem d1 : decode yB 1 = .ok (.invokespecial 1, 3) := by decide +kernel
theorem d4 : decode yB 4 = .ok (.iload_n 3, 1) := by decide +kernel
theorem d5 : decode yB 5 = .ok (.ifCond (.ne) 22, 3) := by decide +kernel
theorem d27 : decode yB 27 = .ok (.getstatic 38, 3) := by decide +kernel
theorem d30 : decode yB 30 = .ok (.ifCond (.eq) 28, 3) := by decide +kernel
theorem d33 : decode yB 33 = .ok (.aload_n 1, 1) := by decide +kernel
theorem d34 : decode yB 34 = .ok (.iload_n 2, 1) := by decide +kernel
theorem d35 : decode yB 35 = .ok (.iload_n 3, 1) := by decide +kernel
theorem d36 : decode yB 36 = .ok (.invokestatic 177, 3) := by decide +kernel
theorem d39 : decode yB 39 = .ok (.astore 5, 2) := by decide +kernel
theorem d41 : decode yB 41 = .ok (.aload_n 0, 1) := by decide +kernel
theorem d42 : decode yB 42 = .ok (.aload 5, 2) := by decide +kernel
theorem d44 : decode yB 44 = .ok (.iload_n 3, 1) := by decide +kernel
theorem d45 : decode yB 45 = .ok (.invokestatic 47, 3) := by decide +kernel
theorem d48 : decode yB 48 = .ok (.putfield 15, 3) := by decide +kernel
theorem d51 : decode yB 51 = .ok (.aload_n 0, 1) := by decide +kernel
theorem d52 : decode yB 52 = .ok (.aload 5, 2) := by decide +kernel
theorem d54 : decode yB 54 = .ok (.putfield 9, 3) := by decide +kernel
theorem d57 : decode yB 57 = .ok (.return_, 1) := by decide +kernel
def site : List Cond := [.fieldLink "java/lang/String" 38 "java/lang/String" "COMPACT_STRINGS" "Z", Cmp3.tab, CodL.tab, .laysFinal "java/lang/String" "java/lang/String" "value" "[B", .fieldLink "java/lang/String" 9 "java/lang/String" "value" "[B", .laysFinal "java/lang/String" "java/lang/String" "coder" "B", .fieldLink "java/lang/String" 15 "java/lang/String" "coder" "B"] ++ objW "java/lang/String" 1 ++ staticW "java/lang/String" 177 Cmp3.yN ++ staticW "java/lang/String" 47 CodL.yN
def tab : Cond := tabOf yN yB 6 none site
def P (a : Addr) (D : Cell) (fV fC : Field) (b : Addr) (A : Cell) (z : Int32) (o len : Nat) (args : Array Value) (s : State) : Prop := args = #[.ref a, .ref b, .int (Int32.ofNat o), .int (Int32.ofNat len), .null] ∧ Blank "java/lang/String" a D s ∧ Found "java/lang/String" "value" "[B" fV s ∧ Found "java/lang/String" "coder" "B" fC s ∧ Ch b A s ∧ StaticIs s "java/lang/String" "COMPACT_STRINGS" "Z" (.int z) ∧ ¬ z = 0 ∧ 0 < len ∧ o + len ≤ A.slots.size ∧ len ≤ 536870912 ∧ ∀ i, i < len → ¬ 255 < cv A (o + i)
def E (a : Addr) (D : Cell) (fV fC : Field) (A : Cell) (o len : Nat) (r : Option Value) (s u : State) : Prop := Got a D fV fC A o len r s u
/-- len > 0, no char of the range above 255: a Latin-1 String of their low bytes -/
theorem law (l : Launch) (a : Addr) (D : Cell) (fV fC : Field) (b : Addr) (A : Cell) (z : Int32) (o len : Nat) : Law l yN 5 4 2 35 yB 6 none site (P a D fV fC b A z o len) (E a D fV fC A o len) [⟨a, fC.slot⟩, ⟨a, fV.slot⟩] 1 len := by
  refine Law.of_walk (plainFor_of_name (by decide +kernel)) (by decide +kernel) (by decide +kernel) (by decide) (fun _ _ h => by rw [h.1]; rfl) (fun _ U U' hal hh h => ⟨h.1, h.2.1.mv hal hh, h.2.2.1.al hal, h.2.2.2.1.al hal, h.2.2.2.2.1.mv hal hh, h.2.2.2.2.2.1.there hal hh, h.2.2.2.2.2.2⟩) (fun r U U' V V' h1 hal h2 h => Got.mv r U U' V V' h1 hal h2 h) ?_
  intro p e s m args below meth c s₁ X0 hexec hbytes hml hret hlk hnm hown hh0 W hP
  obtain ⟨rfl, hB, f1, f2, hA, s1, hz, l0, l1, l2, hp⟩ := hP
  have a31 := hA.1.2.2.2
  have c1 : Steps p.tables e below (s₁.setTop (entryFrame m #[.ref a, .ref b, .int (Int32.ofNat o), .int (Int32.ofNat len), .null] 6)) (s₁.setTop (mkF m 0 #[.val (.ref a), .val (.ref b), .val (.int (Int32.ofNat o)), .val (.int (Int32.ofNat len)), .val .null, .unset] [])) := entry rfl
  have c2 : Steps p.tables e below (s₁.setTop (entryFrame m #[.ref a, .ref b, .int (Int32.ofNat o), .int (Int32.ofNat len), .null] 6)) (s₁.setTop (mkF m 1 #[.val (.ref a), .val (.ref b), .val (.int (Int32.ofNat o)), .val (.int (Int32.ofNat len)), .val .null, .unset] [.ref a])) := c1.trans (by
    refine XS.aloadN X0.here hexec rfl (hb hbytes d0) rfl rfl ?_
    exact Steps.refl _)
  obtain ⟨T3, X3, q3, st3⟩ := X0.oinit hexec hown (wks W (objW "java/lang/String" 1)) (g := (mkF m 1 #[.val (.ref a), .val (.ref b), .val (.int (Int32.ofNat o)), .val (.int (Int32.ofNat len)), .val .null, .unset] [.ref a])) rfl (by rw [hml]; rfl) (rest := []) rfl (hb hbytes d1) (W := 0) (by show 2 * 0 + 0 ≤ _; decide) (Nat.le_of_ble_eq_true rfl) (Nat.le_of_ble_eq_true rfl)
  have hh3 := q3.trans hh0
  have c4 : Steps p.tables e below (s₁.setTop (entryFrame m #[.ref a, .ref b, .int (Int32.ofNat o), .int (Int32.ofNat len), .null] 6)) (T3.setTop (mkF m 27 #[.val (.ref a), .val (.ref b), .val (.int (Int32.ofNat o)), .val (.int (Int32.ofNat len)), .val .null, .unset] [])) := (c2.trans (st3 _ (Steps.refl _))).trans (by
    refine XS.iloadN X3.here hexec rfl (hb hbytes d4) rfl ?_
    refine XS.ifYes X3.here hexec rfl (pc0 := 5) rfl (hb hbytes d5) rfl (i0_ne_t (nz32 (by omega) l0)) (by decide) rfl ?_
    exact Steps.refl _)
  obtain ⟨T5, X5, q5, st5⟩ := X3.sget hexec hown (wk W (.fieldLink "java/lang/String" 38 "java/lang/String" "COMPACT_STRINGS" "Z")) s1 (fun _ _ h => by rw [hh3]; exact h) (g := (mkF m 27 #[.val (.ref a), .val (.ref b), .val (.int (Int32.ofNat o)), .val (.int (Int32.ofNat len)), .val .null, .unset] [])) rfl (hb hbytes d27)
  have hh5 := q5.trans hh3
  have c6 : Steps p.tables e below (s₁.setTop (entryFrame m #[.ref a, .ref b, .int (Int32.ofNat o), .int (Int32.ofNat len), .null] 6)) (T5.setTop (mkF m 30 #[.val (.ref a), .val (.ref b), .val (.int (Int32.ofNat o)), .val (.int (Int32.ofNat len)), .val .null, .unset] [.int z])) := c4.trans (st5 _ (Steps.refl _))
  have c7 : Steps p.tables e below (s₁.setTop (entryFrame m #[.ref a, .ref b, .int (Int32.ofNat o), .int (Int32.ofNat len), .null] 6)) (T5.setTop (mkF m 36 #[.val (.ref a), .val (.ref b), .val (.int (Int32.ofNat o)), .val (.int (Int32.ofNat len)), .val .null, .unset] [.int (Int32.ofNat len), .int (Int32.ofNat o), .ref b])) := c6.trans (by
    refine XS.ifNo X5.here hexec rfl (hb hbytes d30) rfl (i0_eq_f hz) ?_
    refine XS.aloadN X5.here hexec rfl (hb hbytes d33) rfl rfl ?_
    refine XS.iloadN X5.here hexec rfl (hb hbytes d34) rfl ?_
    refine XS.iloadN X5.here hexec rfl (hb hbytes d35) rfl ?_
    exact Steps.refl _)
  obtain ⟨v8, T8, X8, E8, g8⟩ := X5.callS hexec (Cmp3.law l b A o len) hown (wks W (staticW "java/lang/String" 177 Cmp3.yN)) (wk W Cmp3.tab) (W := 0) (Nat.le_of_ble_eq_true rfl) (Nat.le_of_ble_eq_true rfl) (Nat.le_refl _) (by show 0 + len ≤ len; omega) (g := (mkF m 36 #[.val (.ref a), .val (.ref b), .val (.int (Int32.ofNat o)), .val (.int (Int32.ofNat len)), .val .null, .unset] [.int (Int32.ofNat len), .int (Int32.ofNat o), .ref b])) rfl (by rw [hml]; rfl) c7 (argsL := [.ref b, .int (Int32.ofNat o), .int (Int32.ofNat len)]) (rest := []) rfl rfl (by show 2 * 0 + 0 ≤ _; decide) (hb hbytes d36) (⟨rfl, hA.mv X5.warmed.alike hh5, l1, l2, hp⟩)
  obtain ⟨e8, z8⟩ := E8
  obtain ⟨rfl, N, n1, n2, n3, n4, n5, n6⟩ := NewArr.mv _ T5 s _ _ hh5.symm (Vm.Alike.refl _) rfl e8
  rw [hh5] at z8
  have hB1 := hB.keep X8.warmed.alike (n6 _ _ hB.1)
  have hne : s.heap.size ≠ a := (Nat.ne_of_lt (Array.getElem?_eq_some_iff.mp hB.1).1).symm
  have c9 : Steps p.tables e below (s₁.setTop (entryFrame m #[.ref a, .ref b, .int (Int32.ofNat o), .int (Int32.ofNat len), .null] 6)) (T8.setTop (mkF m 39 #[.val (.ref a), .val (.ref b), .val (.int (Int32.ofNat o)), .val (.int (Int32.ofNat len)), .val .null, .unset] [.ref s.heap.size])) := g8
  have c10 : Steps p.tables e below (s₁.setTop (entryFrame m #[.ref a, .ref b, .int (Int32.ofNat o), .int (Int32.ofNat len), .null] 6)) (T8.setTop (mkF m 45 #[.val (.ref a), .val (.ref b), .val (.int (Int32.ofNat o)), .val (.int (Int32.ofNat len)), .val .null, .val (.ref s.heap.size)] [.int (Int32.ofNat N.slots.size), .ref s.heap.size, .ref a])) := by
    have hc : Steps p.tables e below (s₁.setTop (entryFrame m #[.ref a, .ref b, .int (Int32.ofNat o), .int (Int32.ofNat len), .null] 6)) (T8.setTop (mkF m 45 #[.val (.ref a), .val (.ref b), .val (.int (Int32.ofNat o)), .val (.int (Int32.ofNat len)), .val .null, .val (.ref s.heap.size)] [.int (Int32.ofNat len), .ref s.heap.size, .ref a])) := c9.trans (by
      refine XS.astore X8.here hexec rfl (hb hbytes d39) rfl rfl rfl ?_
      refine XS.aloadN X8.here hexec rfl (hb hbytes d41) rfl rfl ?_
      refine XS.aload X8.here hexec rfl (hb hbytes d42) rfl rfl ?_
      refine XS.iloadN X8.here hexec rfl (hb hbytes d44) rfl ?_
      exact Steps.refl _)
    rw [n4]; exact hc
  obtain ⟨v11, T11, X11, E11, g11⟩ := X8.callS hexec (CodL.law l s.heap.size N) hown (wks W (staticW "java/lang/String" 47 CodL.yN)) (wk W CodL.tab) (W := 1) (Nat.le_of_ble_eq_true rfl) (Nat.le_of_ble_eq_true rfl) (Nat.le_refl _) (by show 0 + len + 0 ≤ len; omega) (g := (mkF m 45 #[.val (.ref a), .val (.ref b), .val (.int (Int32.ofNat o)), .val (.int (Int32.ofNat len)), .val .null, .val (.ref s.heap.size)] [.int (Int32.ofNat N.slots.size), .ref s.heap.size, .ref a])) rfl (by rw [hml]; rfl) c10 (argsL := [.ref s.heap.size, .int (Int32.ofNat N.slots.size)]) (rest := [.ref a]) rfl rfl (by show 2 * 0 + (1 + 0) ≤ _; decide) (hb hbytes d45) (⟨rfl, n1⟩)
  obtain ⟨rfl, q11⟩ := E11
  have hB11 := hB1.mv (X8.warmed.alike.symm.trans X11.warmed.alike) q11
  have c12 : Steps p.tables e below (s₁.setTop (entryFrame m #[.ref a, .ref b, .int (Int32.ofNat o), .int (Int32.ofNat len), .null] 6)) (T11.setTop (mkF m 48 #[.val (.ref a), .val (.ref b), .val (.int (Int32.ofNat o)), .val (.int (Int32.ofNat len)), .val .null, .val (.ref s.heap.size)] [.int 0, .ref a])) := g11
  obtain ⟨T13, X13, p13, bl13, sl13, st13⟩ := X11.finit hexec hown (wk W (.fieldLink "java/lang/String" 15 "java/lang/String" "coder" "B")) (Or.inr ⟨_, (wk W (.laysFinal "java/lang/String" "java/lang/String" "coder" "B"))⟩) (Or.inl ⟨rfl, hnm⟩) f2 (Or.inl rfl) hB11 (t := .byte) (by decide +kernel) rfl (g := (mkF m 48 #[.val (.ref a), .val (.ref b), .val (.int (Int32.ofNat o)), .val (.int (Int32.ofNat len)), .val .null, .val (.ref s.heap.size)] [.int 0, .ref a])) rfl (rest := []) rfl (hb hbytes d48)
  have c14 : Steps p.tables e below (s₁.setTop (entryFrame m #[.ref a, .ref b, .int (Int32.ofNat o), .int (Int32.ofNat len), .null] 6)) (T13.setTop (mkF m 54 #[.val (.ref a), .val (.ref b), .val (.int (Int32.ofNat o)), .val (.int (Int32.ofNat len)), .val .null, .val (.ref s.heap.size)] [.ref s.heap.size, .ref a])) := (c12.trans (st13 _ (Steps.refl _))).trans (by
    refine XS.aloadN X13.here hexec rfl (hb hbytes d51) rfl rfl ?_
    refine XS.aload X13.here hexec rfl (hb hbytes d52) rfl rfl ?_
    exact Steps.refl _)
  obtain ⟨T15, X15, p15, bl15, sl15, st15⟩ := X13.finit hexec hown (wk W (.fieldLink "java/lang/String" 9 "java/lang/String" "value" "[B")) (Or.inr ⟨_, (wk W (.laysFinal "java/lang/String" "java/lang/String" "value" "[B"))⟩) (Or.inl ⟨rfl, hnm⟩) f1 (Or.inl rfl) bl13 (t := (.array .byte)) (by decide +kernel) rfl (g := (mkF m 54 #[.val (.ref a), .val (.ref b), .val (.int (Int32.ofNat o)), .val (.int (Int32.ofNat len)), .val .null, .val (.ref s.heap.size)] [.ref s.heap.size, .ref a])) rfl (rest := []) rfl (hb hbytes d54)
  have c16 : Steps p.tables e below (s₁.setTop (entryFrame m #[.ref a, .ref b, .int (Int32.ofNat o), .int (Int32.ofNat len), .null] 6)) (T15.setTop (mkF m 57 #[.val (.ref a), .val (.ref b), .val (.int (Int32.ofNat o)), .val (.int (Int32.ofNat len)), .val .null, .val (.ref s.heap.size)] [])) := c14.trans (st15 _ (Steps.refl _))
  have ap := apart (Or.inr ⟨_, (wk W (.laysFinal "java/lang/String" "java/lang/String" "value" "[B"))⟩) (Or.inr ⟨_, (wk W (.laysFinal "java/lang/String" "java/lang/String" "coder" "B"))⟩) f1 f2 (t₁ := .array .byte) (t₂ := .byte) (by decide +kernel) (by decide +kernel) (by decide)
  have al := X8.warmed.alike.symm.trans X15.warmed.alike
  have n7 : T11.heap[s.heap.size]? = some N := by rw [q11]; exact n1.1
  exact ⟨T15, none, _, _, _, X15, by simp, rfl, by omega, (fun _ => rfl), ⟨rfl, _, N, bl15, ((Same.refl D _).set _ (by simp)).set _ (by simp), sl15, (Cell.slots_setSlot_ne _ ap).trans sl13, n1.keep al (p15.other hne (p13.other hne n7)), n2, by rw [al.findClass]; exact n3, n4, n5, fun y c h1 h2 => p15.other h1 (p13.other h1 (by rw [q11]; exact n6 y c h2)), by rw [p15.2.2, p13.2.2, q11]; exact z8⟩, fun fs hl => c16.trans (X15.returnOut hexec hret (hb hbytes d57) hl)⟩
end New4
namespace New1
def yN : MethodName := ⟨"java/lang/String", "<init>", "([C)V"⟩
abbrev yB : ByteArray := jdk_42_method_3_code
theorem d0 : decode yB 0 = .ok (.aload_n 0, 1) := by decide +kernel
theorem d1 : decode yB 1 = .ok (.aload_n 1, 1) := by decide +kernel
theorem d2 : decode yB 2 = .ok (.iconst 0, 1) := by decide +kernel
theorem d3 : decode yB 3 = .ok (.aload_n 1, 1) := by decide +kernel
theorem d4 : decode yB 4 = .ok (.arraylength, 1) := by decide +kernel
theorem d5 : decode yB 5 = .ok (.aconst_null, 1) := by decide +kernel
theorem d6 : decode yB 6 = .ok (.invokespecial 27, 3) := by decide +kernel
theorem d9 : decode yB 9 = .ok (.return_, 1) := by decide +kernel
def site : List Cond := [New4.tab] ++ initW "java/lang/String" 27 New4.yN
def tab : Cond := tabOf yN yB 2 none site
def P (a : Addr) (D : Cell) (fV fC : Field) (b : Addr) (A : Cell) (z : Int32) (args : Array Value) (s : State) : Prop := args = #[.ref a, .ref b] ∧ Blank "java/lang/String" a D s ∧ Found "java/lang/String" "value" "[B" fV s ∧ Found "java/lang/String" "coder" "B" fC s ∧ Ch b A s ∧ StaticIs s "java/lang/String" "COMPACT_STRINGS" "Z" (.int z) ∧ ¬ z = 0 ∧ 0 < A.slots.size ∧ A.slots.size ≤ 536870912 ∧ ∀ i, i < A.slots.size → ¬ 255 < cv A i
def E (a : Addr) (D : Cell) (fV fC : Field) (A : Cell) (r : Option Value) (s u : State) : Prop := Got a D fV fC A 0 A.slots.size r s u
/-- new String(chars), not empty, no char above 255: a Latin-1 String of their low bytes -/
theorem law (l : Launch) (a : Addr) (D : Cell) (fV fC : Field) (b : Addr) (A : Cell) (z : Int32) : Law l yN 2 1 3 52 yB 2 none site (P a D fV fC b A z) (E a D fV fC A) [⟨a, fC.slot⟩, ⟨a, fV.slot⟩] 1 A.slots.size := by
  refine Law.of_walk (plainFor_of_name (by decide +kernel)) (by decide +kernel) (by decide +kernel) (by decide) (fun _ _ h => by rw [h.1]; rfl) (fun _ U U' hal hh h => ⟨h.1, h.2.1.mv hal hh, h.2.2.1.al hal, h.2.2.2.1.al hal, h.2.2.2.2.1.mv hal hh, h.2.2.2.2.2.1.there hal hh, h.2.2.2.2.2.2⟩) (fun r U U' V V' h1 hal h2 h => Got.mv r U U' V V' h1 hal h2 h) ?_
  intro p e s m args below meth c s₁ X0 hexec hbytes hml hret hlk hnm hown hh0 W hP
  obtain ⟨rfl, hB, f1, f2, hA, s1, hz, l0, l2, hp⟩ := hP
  have c1 : Steps p.tables e below (s₁.setTop (entryFrame m #[.ref a, .ref b] 2)) (s₁.setTop (mkF m 0 #[.val (.ref a), .val (.ref b)] [])) := entry rfl
  have c2 : Steps p.tables e below (s₁.setTop (entryFrame m #[.ref a, .ref b] 2)) (s₁.setTop (mkF m 6 #[.val (.ref a), .val (.ref b)] [.null, .int (Int32.ofNat A.slots.size), .int 0, .ref b, .ref a])) := c1.trans (by
    refine XS.aloadN X0.here hexec rfl (hb hbytes d0) rfl rfl ?_
    refine XS.aloadN X0.here hexec rfl (hb hbytes d1) rfl rfl ?_
    refine iconstV X0.here hexec rfl 0 (hb hbytes d2) (by decide) ?_
    refine XS.aloadN X0.here hexec rfl (hb hbytes d3) rfl rfl ?_
    refine X0.alen hexec (hA.1.mv X0.warmed.alike hh0) rfl rfl (hb hbytes d4) ?_
    refine XS.aconstNull X0.here hexec rfl (hb hbytes d5) ?_
    exact Steps.refl _)
  obtain ⟨v3, T3, X3, E3, g3⟩ := X0.callN hexec (New4.law l a D fV fC b A z 0 A.slots.size) rfl hown (wks W (initW "java/lang/String" 27 New4.yN)) (W New4.tab (by simp only [site, List.mem_cons, List.mem_append, true_or, or_true])) (W := 0) (Nat.le_of_ble_eq_true rfl) (Nat.le_of_ble_eq_true rfl) (Nat.le_refl _) (by show 0 + A.slots.size ≤ A.slots.size; omega) (g := (mkF m 6 #[.val (.ref a), .val (.ref b)] [.null, .int (Int32.ofNat A.slots.size), .int (Int32.ofNat 0), .ref b, .ref a])) rfl (by rw [hml]; rfl) c2 (argsL := [.ref b, .int (Int32.ofNat 0), .int (Int32.ofNat A.slots.size), .null]) (rest := []) rfl rfl (by show 2 * 0 + 0 ≤ _; decide) (hb hbytes d6) (⟨rfl, hB.mv X0.warmed.alike hh0, f1.al X0.warmed.alike, f2.al X0.warmed.alike, hA.mv X0.warmed.alike hh0, s1.there X0.warmed.alike hh0, hz, l0, by omega, l2, fun i hi => by rw [Nat.zero_add]; exact hp i hi⟩)
  have e0 := Got.mv _ s₁ s _ _ hh0.symm (Vm.Alike.refl _) rfl E3
  obtain rfl := e0.1
  have c4 : Steps p.tables e below (s₁.setTop (entryFrame m #[.ref a, .ref b] 2)) (T3.setTop (mkF m 9 #[.val (.ref a), .val (.ref b)] [])) := g3
  exact ⟨T3, none, _, _, _, X3, by simp, rfl, by omega, (fun _ => rfl), e0, fun fs hl => c4.trans (X3.returnOut hexec hret (hb hbytes d9) hl)⟩
theorem pays {l : Launch} {R : Room} {p : Program} {e : Env} {below : List Frame} {s : State} {sargs : Array Value} {len W : Nat} (a : Addr) (D : Cell) (fV fC : Field) (b : Addr) (A : Cell) (z : Int32) (htab : tab.before sargs s = true) (hfr : 4 ≤ R.frames) (hlo : W + 65 ≤ R.locals) :
    Back l R p e below s sargs yN len W (fun A₁ a₁ => A₁.cells + 1 ≤ R.cells ∧ A₁.slots + A.slots.size ≤ R.slots ∧ P a D fV fC b A z a₁ A₁.U) (fun A₁ _ v₁ B₁ => E a D fV fC A v₁ A₁.U B₁.U ∧ B₁.locs = A₁.locs ++ [⟨a, fC.slot⟩, ⟨a, fV.slot⟩] ∧ B₁.cells = A₁.cells + 1 ∧ B₁.slots = A₁.slots + A.slots.size) :=
  (law l a D fV fC b A z).pays htab hfr (by omega)
end New1
end StrChars
namespace StrChars.Road
open Jvm Sem ClassFile Op Lib Jvm.Stand Jvm.Free Jvm.Free.XT
open Jvm.Lib.Cold (StaticIs)
abbrev ST : String := "java/lang/String"
/-- every table word that New1's law asks, flat -/
abbrev words : List Jvm.Cond := [.code New1.yN New1.yB 2 none, .initialized ST, .methodLink ST 27 New4.yN, .instanceMethod New4.yN,
  .code New4.yN New4.yB 6 none, .fieldLink ST 38 ST "COMPACT_STRINGS" "Z", .laysFinal ST ST "value" "[B", .fieldLink ST 9 ST "value" "[B", .laysFinal ST ST "coder" "B", .fieldLink ST 15 ST "coder" "B",
  .methodLink ST 1 Lib.objectInit, .instanceMethod Lib.objectInit, .code Lib.objectInit ⟨#[0xb1]⟩ 1 none, .methodLink ST 177 Cmp3.yN, .static Cmp3.yN, .methodLink ST 47 CodL.yN, .static CodL.yN,
  .code Cmp3.yN Cmp3.yB 6 (some (.array .byte)), .initialized U16, .arrayClass .byte, .methodLink U16 115 Cmp5.yN, .static Cmp5.yN, .code Cmp5.yN Cmp5.yB 7 (some .int), .code CodL.yN CodL.yB 2 (some .byte)]
theorem tab_of {a : Array Value} {s : State} (h : ∀ w ∈ words, w.before a s = true) : New1.tab.before a s = true := by
  have h5 : Cmp5.tab.before a s = true := unparts (wk h (.code Cmp5.yN Cmp5.yB 7 (some .int))) (wks h (.initialized Cmp5.yN.cls :: Cmp5.site))
  have hc : CodL.tab.before a s = true := unparts (wk h (.code CodL.yN CodL.yB 2 (some .byte))) (wks h (.initialized CodL.yN.cls :: CodL.site))
  have q5 : ∀ w ∈ Cmp5.tab :: words, w.before a s = true := fun w hw => (List.mem_cons.mp hw).elim (fun e => e ▸ h5) (h w)
  have h3 : Cmp3.tab.before a s = true := unparts (wk q5 (.code Cmp3.yN Cmp3.yB 6 (some (.array .byte)))) (wks q5 (.initialized Cmp3.yN.cls :: Cmp3.site))
  have q3 : ∀ w ∈ Cmp3.tab :: CodL.tab :: words, w.before a s = true := fun w hw => (List.mem_cons.mp hw).elim (fun e => e ▸ h3) fun hw => (List.mem_cons.mp hw).elim (fun e => e ▸ hc) (h w)
  have h4 : New4.tab.before a s = true := unparts (wk q3 (.code New4.yN New4.yB 6 none)) (wks q3 (.initialized New4.yN.cls :: New4.site))
  have q4 : ∀ w ∈ New4.tab :: words, w.before a s = true := fun w hw => (List.mem_cons.mp hw).elim (fun e => e ▸ h4) (h w)
  exact unparts (wk q4 (.code New1.yN New1.yB 2 none)) (wks q4 (.initialized New1.yN.cls :: New1.site))
/-- the words ride from the start Z to the walk's own state -/
theorem moved {Z s : State} {a0 args : Array Value} (hZ : Z.Warmed39 s.vm) (hw : ∀ d ∈ words, d.before a0 Z = true) : ∀ d ∈ words, d.before args s = true := fun d hd => by
  have q := hw d hd
  have t : ∀ d ∈ words, d = .arrayClass .byte ∨ (d.onTables && d.keepsFace) = true := by decide +kernel
  rcases t d hd with rfl | t
  · exact RoadKit.mvA hZ q
  · exact RoadKit.mv hZ q t
/-- WHAT COMES BACK, over the tables of the start Z: h the heap at the call, h' behind it -/
def Q (Z : State) (x : Addr) (A : Cell) (h : Heap) (v : Option Value) (h' : Heap) (L : List Loc) : Prop := v = none ∧ (∀ y ∈ L, y.base = x) ∧ RoadKit.Keep h h' [x] ∧ h'.size = h.size + 1 ∧ RoadKit.Exa Z h' x ST ∧ RoadKit.Fld Z h' x ST "value" "[B" (.ref h.size) ∧ RoadKit.Fld Z h' x ST "coder" "B" (.int 0) ∧
  (∃ V : Cell, RoadKit.Arr Z h' h.size V .byte ∧ V.vm = .none ∧ Z.vm.findClass "[B" = some V.cls ∧ V.slots.size = A.slots.size ∧ ∀ j, j < A.slots.size → V.slots[j]? = some (.int (lo8 (cv A j)))) ∧
  ∀ (O n d : String) (w : Value), RoadKit.Fld Z h x O n d w → RoadKit.slotOf Z O n d ≠ RoadKit.slotOf Z ST "value" "[B" → RoadKit.slotOf Z O n d ≠ RoadKit.slotOf Z ST "coder" "B" → RoadKit.Fld Z h' x O n d w
/-- **new String(chars) AT A CALL, IN THE ROAD'S FORM**: for specialBack behind newO: x the fresh String, b the char[] with the cell A -/
theorem back {p : Program} {l : Launch} {e : Env} {R : Room} {s : State} {args : Array Value} {below : List Frame} {len W : Nat} {Z : State} {a0 : Array Value} {h : Heap} (hZ : Z.Warmed39 s.vm) (hw : ∀ d ∈ words, d.before a0 Z = true) {kI : Nat} (wi : (Jvm.Cond.instantiable ST kI).before a0 Z = true)
    {x b : Addr} {A : Cell} {z : Int32} {v0 c0 : Value} (E : RoadKit.Exa Z h x ST) (V : RoadKit.Fld Z h x ST "value" "[B" v0) (C : RoadKit.Fld Z h x ST "coder" "B" c0) (K : RoadKit.Arr Z h b A .char) (hty : Typed .char A) (S : RoadKit.Sta Z h ST "COMPACT_STRINGS" "Z" (.int z)) (hz : ¬ z = 0)
    (l0 : 0 < A.slots.size) (l2 : A.slots.size ≤ 536870912) (hp : ∀ i, i < A.slots.size → ¬ 255 < cv A i) (hfr : 4 ≤ R.frames) (hlo : W + 65 ≤ R.locals) :
    Back l R p e below s args New1.yN len W (fun P a => a = #[.ref x, .ref b] ∧ P.U.heap = h ∧ P.cells + 1 ≤ R.cells ∧ P.slots + A.slots.size ≤ R.slots)
      (fun P _ v B => ∃ L, Q Z x A h v B.U.heap L ∧ B.locs = P.locs ++ L ∧ B.cells = P.cells + 1 ∧ B.slots = P.slots + A.slots.size) := by
  intro m meth c P g ig mk a X hg hsize hdg hW hn hp'
  obtain ⟨rfl, rfl, r1, r2⟩ := hp'
  have al : Z.vm.Alike P.U.vm := hZ.alike.trans X.warmed.alike
  obtain ⟨D, cfV, kV, iV, fV, hD, gV, stV, knV, obV, asV, slV⟩ := id V
  obtain ⟨D', cfC, kC, iC, fC, hD', gC, stC, -, -, asC, slC⟩ := id C
  cases hD.symm.trans hD'
  obtain ⟨D2, kD, e1, e2, e3, e4, e5⟩ := id E
  cases hD.symm.trans e1
  obtain ⟨c2, k2, i1, i2, i3, -⟩ := Cond.instantiable_spec wi
  cases e2.symm.trans i1
  cases e3.symm.trans i2
  obtain ⟨kU, u1, u2⟩ := al.2.2 _ _ e3
  have hB : Blank ST x D P.U := ⟨hD, ⟨knV, fun q hq => by rw [hq] at obV; cases obV⟩, by rw [al.findClass]; exact e2, kU, u1, by rw [u2]; exact i3, by rw [u2]; exact e5 i3⟩
  have F1 : Found ST "value" "[B" fV P.U := ⟨SBG.found_only al ⟨cfV, kV, iV, gV⟩, stV⟩
  have F2 : Found ST "coder" "B" fC P.U := ⟨SBG.found_only al ⟨cfC, kC, iC, gC⟩, stC⟩
  have hA : Ch b A P.U := ⟨⟨K.1, State.isArrayOf_alike al K.2.1, K.2.2, by omega⟩, hty⟩
  have hS : StaticIs P.U ST "COMPACT_STRINGS" "Z" (.int z) := by
    obtain ⟨cfS, iS, kS, fS, st, cS, t1, t2, t3, t4, t5, t6, t7⟩ := S
    exact StaticIs.there (s := { Z with heap := P.U.heap }) ⟨cfS, iS, kS, fS, st, cS, t1, t2, t3, t4, t5, (fun q => by rw [q] at t6; cases t6), t7⟩ al rfl
  obtain ⟨v, B, X', ⟨⟨hv, E', V', q1, q2, q3, q4, q5, q6, q7, q8, q9, q10, q11⟩, hl, hc, hs⟩, st⟩ := New1.pays x D fV fC b A z (tab_of (moved hZ hw)) hfr hlo m meth c P g ig mk _ X hg hsize hdg hW hn ⟨r1, r2, rfl, hB, F1, F2, hA, hS, hz, l0, l2, hp⟩
  have al' : Z.vm.Alike B.U.vm := hZ.alike.trans X'.warmed.alike
  have hsz : E'.slots.size = D.slots.size := by
    obtain ⟨-, -, -, kB, w1, w2, w3⟩ := q1
    obtain ⟨kB', y1, y2⟩ := al'.2.2 _ _ e3
    rw [q2.2.1] at w1
    cases w1.symm.trans y1
    rw [w3, e5 i3, y2]
  refine ⟨v, B, X', ⟨_, ⟨hv, ?_, ⟨by omega, fun y cy hy hn' => q10 y cy (by simpa using hn') hy, fun y cy hy => ?_⟩, q11, ⟨E', _, q1.1, by rw [q2.2.1]; exact e2, by rw [q2.2.1]; exact e3, by rw [q2.1]; exact obV, fun _ => by rw [hsz]; exact e5 i3⟩,
    ⟨E', cfV, kV, iV, fV, q1.1, gV, stV, by rw [q2.1]; exact knV, by rw [q2.1]; exact obV, by rw [q2.2.1]; exact asV, q3⟩, ⟨E', cfC, kC, iC, fC, q1.1, gC, stC, by rw [q2.1]; exact knV, by rw [q2.1]; exact obV, by rw [q2.2.1]; exact asC, q4⟩,
    ⟨V', ⟨q5.1, State.isArrayOf_alike al'.symm q5.2.1, q5.2.2.1⟩, q6, by rw [← al'.findClass]; exact q7, q8, fun j hj => by have := q9 j hj; rwa [Nat.zero_add] at this⟩, fun O n d w F n1 n2 => ?_⟩, hl, hc, hs⟩, st⟩
  · intro y hy
    simp only [List.mem_cons, List.not_mem_nil, or_false] at hy
    rcases hy with rfl | rfl <;> rfl
  · by_cases q : y = x
    · subst q
      cases hD.symm.trans hy
      exact ⟨E', q1.1, q2.2.1, q2.1, hsz⟩
    · exact ⟨cy, q10 y cy q hy, rfl, rfl, rfl⟩
  · obtain ⟨D3, cf, k, i, f, g1, g2, g3, g4, g5, g6, g7⟩ := F
    cases hD.symm.trans g1
    simp only [RoadKit.slotOf, g2, gV, gC, Option.map_some, Option.getD_some] at n1 n2
    exact ⟨E', cf, k, i, f, q1.1, g2, g3, by rw [q2.1]; exact g4, by rw [q2.1]; exact g5, by rw [q2.2.1]; exact g6, by rw [q2.2.2 f.slot (by simp [n1, n2])]; exact g7⟩
end StrChars.Road
namespace StrChars.Road
open Jvm Sem ClassFile Op Lib Jvm.Stand Jvm.Free Jvm.Free.XT
/-- WHAT COMES BACK, the byte[] as a list of values -/
def QA (Z : State) (x : Addr) (zn : Int32) (cs : List Int32) (h : Heap) (v : Option Value) (h' : Heap) (L : List Loc) : Prop := v = none ∧ (∀ y ∈ L, y.base = x) ∧ RoadKit.Keep h h' [x] ∧ h'.size = h.size + 1 ∧ RoadKit.Exa Z h' x ST ∧ RoadKit.Fld Z h' x ST "value" "[B" (.ref h.size) ∧ RoadKit.Fld Z h' x ST "coder" "B" (.int 0) ∧
  (∃ kb, Z.vm.findClass "[B" = some kb ∧ RoadKit.Arv Z h' h.size kb .byte zn (cs.map fun c => .int (lo8 c)) (.int 0)) ∧
  ∀ (O n d : String) (w : Value), RoadKit.Fld Z h x O n d w → RoadKit.slotOf Z O n d ≠ RoadKit.slotOf Z ST "value" "[B" → RoadKit.slotOf Z O n d ≠ RoadKit.slotOf Z ST "coder" "B" → RoadKit.Fld Z h' x O n d w
/-- **new String(chars) AT A CALL, THE ARRAYS AS LISTS**: the char[] at b holds cs, not empty, no char above 255 -/
theorem backArv {p : Program} {l : Launch} {e : Env} {R : Room} {s : State} {args : Array Value} {below : List Frame} {len W : Nat} {Z : State} {a0 : Array Value} {h : Heap} (hZ : Z.Warmed39 s.vm) (hw : ∀ d ∈ words, d.before a0 Z = true) {kI : Nat} (wi : (Jvm.Cond.instantiable ST kI).before a0 Z = true)
    {x b : Addr} {k : ClassId} {zn z : Int32} {cs : List Int32} {dv v0 c0 : Value} (E : RoadKit.Exa Z h x ST) (V : RoadKit.Fld Z h x ST "value" "[B" v0) (C : RoadKit.Fld Z h x ST "coder" "B" c0) (K : RoadKit.Arv Z h b k .char zn (cs.map Value.int) dv) (S : RoadKit.Sta Z h ST "COMPACT_STRINGS" "Z" (.int z)) (hz : ¬ z = 0)
    (hlen : zn.toNatClampNeg = cs.length) (h0 : 0 < cs.length) (hbig : cs.length ≤ 536870912) (hall : ∀ c ∈ cs, ¬ 255 < c) (hfr : 4 ≤ R.frames) (hlo : W + 65 ≤ R.locals) :
    Back l R p e below s args New1.yN len W (fun P a => a = #[.ref x, .ref b] ∧ P.U.heap = h ∧ P.cells + 1 ≤ R.cells ∧ P.slots + cs.length ≤ R.slots)
      (fun P _ v B => ∃ L, QA Z x zn cs h v B.U.heap L ∧ B.locs = P.locs ++ L ∧ B.cells = P.cells + 1 ∧ B.slots = P.slots + cs.length) := by
  obtain ⟨A, K1, K2, K3, K4, K5, K6⟩ := K
  have e : A.slots.size = cs.length := K3.trans hlen
  have hat : ∀ (i : Nat) (hi : i < cs.length), A.slots[i]? = some (.int cs[i]) := fun i hi => by rw [K5 i (by omega)]; simp [List.getD_eq_getElem?_getD, hi]
  have hcv : ∀ (i : Nat) (hi : i < cs.length), cv A i = cs[i] := fun i hi => by unfold cv; rw [hat i hi]
  have hty : Typed .char A := fun i v hv => by
    have hi : i < A.slots.size := (Array.getElem?_eq_some_iff.mp hv).1
    have q := K5 i hi
    rw [hv] at q
    rw [Option.some.inj q]
    exact K6 i hi
  refine Back.mono (back hZ hw wi E V C K1 hty S hz (by omega) (by omega) (fun i hi => by rw [hcv i (by omega)]; exact hall _ (List.getElem_mem _)) hfr hlo) (fun P a hp => ⟨hp.1, hp.2.1, hp.2.2.1, by rw [e]; exact hp.2.2.2⟩) (fun P a v B hp hq => ?_)
  obtain ⟨L, ⟨q1, q2, q3, q4, q5, q6, q7, ⟨V', v1, v2, v3, v4, v5⟩, q9⟩, hl, hc, hs⟩ := hq
  refine ⟨L, ⟨q1, q2, q3, q4, q5, q6, q7, ⟨V'.cls, v3, V', v1, rfl, by rw [v4, e, hlen], K4, fun i hi => ?_, fun i hi => ?_⟩, q9⟩, hl, hc, by rw [hs, e]⟩
  · have hi' : i < cs.length := by omega
    rw [v5 i (by omega), hcv i hi']; simp [List.getD_eq_getElem?_getD, hi']
  · have hi' : i < cs.length := by omega
    simp only [List.getD_eq_getElem?_getD, List.getElem?_map, List.getElem?_eq_getElem hi', Option.map_some, Option.getD_some]
    exact fits_lo8 _
end StrChars.Road
namespace StrChars.Road
open Jvm Sem ClassFile Op Lib Jvm.Stand Jvm.Free Jvm.Free.XT
/-- WHAT COMES BACK, in the writer's own shape -/
def QV (Z : State) (x : Addr) (N : Int32) (bs : List Int32) (h : Heap) (n0 : Nat) (v : Option Value) (h' : Heap) (L : List Loc) : Prop := v = none ∧ RoadKit.Fr n0 L ∧ RoadKit.Keep h h' [x] ∧ RoadKit.Exa Z h' x ST ∧ RoadKit.Fld Z h' x ST "coder" "B" (.int 0) ∧
  ∃ (t : Addr) (kb : ClassId), n0 ≤ t ∧ h.size ≤ t ∧ ¬ t = x ∧ RoadKit.Fld Z h' x ST "value" "[B" (.ref t) ∧ RoadKit.Arv Z h' t kb .byte N (bs.map Value.int) (.int 0)
/-- **new String(chars) AT A CALL, FOR THE WRITER**: a char[] of n known ints, each 0 to 255 -/
theorem backV {p : Program} {l : Launch} {e : Env} {R : Room} {s : State} {args : Array Value} {below : List Frame} {len W : Nat} {Z : State} {a0 : Array Value} {h : Heap} (hZ : Z.Warmed39 s.vm) (hw : ∀ d ∈ words, d.before a0 Z = true) {kI : Nat} (wi : (Jvm.Cond.instantiable ST kI).before a0 Z = true)
    {x b : Addr} {kC : ClassId} {cs bs : List Int32} {d v0 c0 : Value} {z N : Int32} {n n0 : Nat} (hx0 : n0 ≤ x) (hh0 : n0 ≤ h.size) (E : RoadKit.Exa Z h x ST) (V : RoadKit.Fld Z h x ST "value" "[B" v0) (C : RoadKit.Fld Z h x ST "coder" "B" c0) (K : RoadKit.Arv Z h b kC .char N (cs.map Value.int) d) (S : RoadKit.Sta Z h ST "COMPACT_STRINGS" "Z" (.int z)) (hz : ¬ z = 0)
    (hn : cs.length = n) (hN : N = Int32.ofNat n) (l0 : 0 < n) (l2 : n ≤ 4000) (hp : ∀ c ∈ cs, ¬ c < 0 ∧ ¬ (255 : Int32) < c) (hb : bs = cs.map (fun c => c.toInt8.toInt32)) (hfr : 4 ≤ R.frames) (hlo : W + 65 ≤ R.locals) :
    Back l R p e below s args (⟨"java/lang/String", "<init>", "([C)V"⟩ : MethodName) len W (fun P a => a = #[.ref x, .ref b] ∧ P.U.heap = h ∧ P.cells + 1 ≤ R.cells ∧ P.slots + n ≤ R.slots)
      (fun P _ v B => ∃ L, QV Z x N bs h n0 v B.U.heap L ∧ B.locs = P.locs ++ L ∧ B.cells = P.cells + 1 ∧ B.slots = P.slots + n) := by
  subst hn hN hb
  refine Back.mono (backArv hZ hw wi E V C K S hz (n32 (by omega)) l0 (by omega) (fun c hc => (hp c hc).2) hfr hlo) (fun P a hp => hp) (fun P a v B hp hq => ?_)
  obtain ⟨L, ⟨q1, q2, q3, q4, q5, q6, q7, ⟨kb, v1, v2⟩, q9⟩, hl, hc, hs⟩ := hq
  exact ⟨L, ⟨q1, fun y hy => by rw [q2 y hy]; exact hx0, q3, q5, q7, h.size, kb, hh0, Nat.le_refl _, Nat.ne_of_gt E.lt, q6, by rw [List.map_map]; exact v2⟩, hl, hc, hs⟩
end StrChars.Road
end Jvm.Pilot.@@N@@
namespace Jvm.Pilot.@@N@@
open Jvm Jvm.ClassFile Sem Op Lib Jvm.Free Jvm.Stand Jvm.LawKit Jvm.RoadKit Bundle Jvm.Pilot.@@N@@.Jvm.D Jvm.Own
/-- what the case says of its start -/
def Wd (Z : State) (a0 : Array Value) : Prop := (∀ (k : Nat) {d : Jvm.Cond}, tables_1[k]? = some d → d.before a0 Z = true) ∧ (∃ z : Int32, Sta Z Z.heap "java/lang/String" "COMPACT_STRINGS" "Z" (.int z) ∧ ¬ z = 0) ∧ ∃ fm : Value, Sta Z Z.heap "jdk/internal/util/Preconditions" "SIOOBE_FORMATTER" "Ljava/util/function/BiFunction;" fm ∧ fm.isRef = true
theorem Wd.hw {Z : State} {a0 : Array Value} (W : Wd Z a0) : ∀ d ∈ tables_1, d.before a0 Z = true := fun d hd => by
  obtain ⟨i, hi⟩ := List.mem_iff_getElem?.mp hd
  exact W.1 i hi
theorem Wd.sub {Z : State} {a0 : Array Value} (W : Wd Z a0) {ws : List Jvm.Cond} (h : ∀ d ∈ ws, d ∈ tables_1) : ∀ d ∈ ws, d.before a0 Z = true := fun d hd => W.hw d (h d hd)
theorem pdC : parseMethodDescriptor "([C)V" = some ⟨[(.array .char)], none⟩ := by decide +kernel
theorem up255 {cs : List Int32} (h : ∀ c ∈ cs, ¬ c < 0 ∧ ¬ (255 : Int32) < c) : ∀ c ∈ cs, ¬ c < 0 ∧ ¬ (65535 : Int32) < c := fun c hc => ⟨(h c hc).1, fun q => (h c hc).2 (by rw [Int32.lt_iff_toInt_lt] at q ⊢; have e1 : (65535 : Int32).toInt = 65535 := rfl; have e2 : (255 : Int32).toInt = 255 := rfl; omega)⟩
section StrGo
variable {nw : Bool} {p : Program} {l : Launch} {e : Env} {R : Room} {s : State} {m : MethodId} {args : Array Value} {below : List Frame} {meth : Method} {c : Code} {code : ByteArray} {ml : Nat} {nm : String} {ret : Option FieldType} {Z : State} {a0 : Array Value} {EL : List (String × Nat)} {own : String} {P : Option Value → Vm → Heap → Prop}
variable {vm vm' : Vm} {h h' h0 h1 h2 : Heap} {k n pc : Nat} {L : Array Slot} {S : List Value}
/-- new String(chars), one to 4,000 of them, each 0 to 255 -/
theorem goStrNew (W : Wd Z a0) {idx : Nat} {x b : Addr} {kC : ClassId} {N : Int32} {v0 c0 dv : Value} {rest : List Value} (Wk : Nat) (cs : List Int32) (pc' : Nat) (hd : decode code pc = .ok (.invokespecial idx, 3)) (hp : pc + 3 = pc') (w1 : (Jvm.Cond.methodLink own idx (⟨"java/lang/String", "<init>", "([C)V"⟩ : MethodName)).before a0 Z = true)
    (E : Exa Z h x "java/lang/String") (V : Fld Z h x "java/lang/String" "value" "[B" v0) (C : Fld Z h x "java/lang/String" "coder" "B" c0) (K : Arv Z h b kC .char N (cs.map Value.int) dv) (hN : N = Int32.ofNat cs.length) (l0 : 0 < cs.length) (l2 : cs.length ≤ 4000) (hcs : ∀ c ∈ cs, ¬ c < 0 ∧ ¬ (255 : Int32) < c)
    (hst : S = .ref b :: .ref x :: rest) (hsz : L.size = ml) (hW : (rest.map fun v => v.category).sum ≤ Wk) (hfr : 4 ≤ R.frames) (hlo : Wk + 65 ≤ R.locals) (hk0 : k + 1 ≤ R.cells) (hn0 : n + cs.length ≤ R.slots) (Sx : Safe Z EL vm h x) (hz : Z.heap.size ≤ x)
    (g : ∀ h', Keep h h' [x] → Str Z h' x cs → CHr Z EL vm h vm h' → Go nw p l e R s m args below meth c code ml nm ret Z a0 EL own P vm h' (k + 1) (n + cs.length) pc' L rest) : Go nw p l e R s m args below meth c code ml nm ret Z a0 EL own P vm h k n pc L S := by
  obtain ⟨z, Cz, hz0⟩ := W.2.1
  refine Go.specB (Q := fun v h' L => StrChars.Road.QV Z x N (cs.map fun c => c.toInt8.toInt32) h Z.heap.size v h' L) (dk := 1) (dn := cs.length) (rest := rest) Wk x [.ref b] pc' hd hp rfl w1 (W.1 9 rfl) (W.1 10 rfl) (by decide)
    (fun hZ hE => StrChars.Road.backV hZ (W.sub (by decide +kernel)) (W.1 5 rfl) (bs := cs.map fun c => c.toInt8.toInt32) hz hE.1 E V C K (Cz.ext hE) hz0 rfl hN l0 l2 hcs rfl hfr hlo) pdC rfl hst hsz hW hk0 hn0
    (fun v h' L q => ⟨q.2.1, [x], q.2.2.1, fun y hy => by cases List.mem_singleton.mp hy; exact Sx, fun y hy => by cases List.mem_singleton.mp hy; exact hz⟩) (fun v h' L q ch => ?_)
  obtain ⟨rfl, q2, q3, q4, q5, t, kb, q6, q7, q8, q9, q10⟩ := q
  exact g h' q3 ⟨t, kb, q4, q5, q9, by rw [← hN]; exact q10, l2, hcs⟩ ch
end StrGo
end Jvm.Pilot.@@N@@
namespace Jvm.Pilot.@@N@@
open Jvm Jvm.ClassFile Sem Op Lib Jvm.Free Jvm.Stand Jvm.LawKit Jvm.RoadKit Bundle Jvm.Pilot.@@N@@.Jvm.D Jvm.Own
theorem clampN {n : Nat} (h : n < 2 ^ 31) : (Int32.ofNat n).toNatClampNeg = n := Int32.toNatClampNeg_ofNat_of_lt h
theorem ofNat_add' (a b : Nat) : Int32.ofNat a + Int32.ofNat b = Int32.ofNat (a + b) := (Int32.ofNat_add a b).symm
theorem shl0 (x : Int32) : x <<< ((0 : Int32) &&& 31) = x := by
  apply Int32.toBitVec_inj.mp
  simp
theorem nneg {n : Nat} (h : n < 2 ^ 31) : ¬ Int32.ofNat n < 0 := by
  rw [Int32.lt_iff_toInt_lt, ofNat_toInt h]; have e : (0 : Int32).toInt = 0 := rfl; omega
theorem negI {p : Nat} (hp : p < 2 ^ 31) : (-(Int32.ofNat p)).toInt = -(p : Int) := by
  have h := c_ineg (Int32.ofNat p)
  have r := rng32 (-(Int32.ofNat p))
  rw [ofNat_toInt hp] at h
  omega
theorem negc {n p : Nat} (hn : n < 2 ^ 31) (hp : p < 2 ^ 31) : (-(Int32.ofNat p) < -(Int32.ofNat n)) ↔ n < p := by
  rw [Int32.lt_iff_toInt_lt, negI hp, negI hn]; omega
theorem div100 {y : Nat} (hy : y < 2 ^ 31) (h0 : 0 < y) : (-(Int32.ofNat y)) / (100 : Int32) = -(Int32.ofNat (y / 100)) := by
  apply Int32.toInt_inj.mp
  have h := c_idiv (-(Int32.ofNat y)) 100 100 rfl (by decide)
  rw [negI hy] at h
  rw [negI (by omega), h.2 (by omega)]
  omega
theorem rem100 {y : Nat} (hy : y < 2 ^ 31) (h0 : 0 < y) : (-(Int32.ofNat (y / 100))) * (100 : Int32) - (-(Int32.ofNat y)) = Int32.ofNat (y % 100) := by
  apply Int32.toInt_inj.mp
  have h1 := c_imul (-(Int32.ofNat (y / 100))) 100
  have h2 := c_isub ((-(Int32.ofNat (y / 100))) * 100) (-(Int32.ofNat y))
  have e : (100 : Int32).toInt = 100 := rfl
  have r := rng32 ((-(Int32.ofNat (y / 100))) * 100 - -(Int32.ofNat y))
  have r1 := rng32 ((-(Int32.ofNat (y / 100))) * 100)
  rw [negI (by omega), e] at h1
  rw [negI hy] at h2
  rw [ofNat_toInt (by omega)]
  omega
theorem decN {p q : Nat} (h : p = q + 1) (hp : p < 2 ^ 31) : Int32.ofNat p + Int32.ofInt (-1) = Int32.ofNat q := by
  apply Int32.toInt_inj.mp
  have h1 := c_iadd (Int32.ofNat p) (Int32.ofInt (-1))
  have e : (Int32.ofInt (-1)).toInt = -1 := by decide
  have r := rng32 (Int32.ofNat p + Int32.ofInt (-1))
  rw [ofNat_toInt hp, e] at h1
  rw [ofNat_toInt (by omega)]
  omega
theorem incN (p : Nat) : Int32.ofNat p + Int32.ofInt 1 = Int32.ofNat (p + 1) := by
  have e : Int32.ofInt 1 = Int32.ofNat 1 := by decide
  rw [e]; exact (Int32.ofNat_add p 1).symm
theorem incL {xs : List Int32} {x : Int32} : Int32.ofNat xs.length + Int32.ofInt 1 = Int32.ofNat (xs ++ [x]).length := by
  rw [incN]; simp
theorem nnN {y : Nat} (hy : y < 2 ^ 31) : -(-(Int32.ofNat y)) = Int32.ofNat y := by
  apply Int32.toInt_inj.mp
  have h := c_ineg (-(Int32.ofNat y))
  have r := rng32 (-(-(Int32.ofNat y)))
  rw [negI hy] at h
  rw [ofNat_toInt hy]
  omega
theorem posOk {p cap : Nat} (h : p < cap) (hc : cap ≤ 34) : ¬ Int32.ofNat p < 0 ∧ Int32.ofNat p < Int32.ofNat cap := ⟨nneg (by omega), (ofNat_lt (by omega) (by omega)).mpr h⟩
theorem ofNat_inj {a b : Nat} (ha : a < 2 ^ 31) (hb : b < 2 ^ 31) : Int32.ofNat a = Int32.ofNat b ↔ a = b := ⟨fun q => by
  have w := congrArg Int32.toInt q
  rw [ofNat_toInt ha, ofNat_toInt hb] at w
  omega, fun q => by rw [q]⟩
theorem lt100 {y : Nat} (h : y < 100) : ¬ Int32.ofNat y < 0 ∧ Int32.ofNat y < (100 : Int32) := ⟨nneg (by omega), (ofNat_lt (n := 100) (by omega) (by decide)).mpr h⟩
theorem divN {n t : Nat} (hn : n < 2 ^ 31) (ht : 0 < t ∧ t < 2 ^ 31) : Int32.ofNat n / Int32.ofNat t = Int32.ofNat (n / t) := by
  apply Int32.toInt_inj.mp
  have hle : n / t ≤ n := Nat.div_le_self n t
  have hd : Int32.ofNat t ≠ -1 := fun q => by
    have w := congrArg Int32.toInt q
    rw [ofNat_toInt ht.2] at w
    have e : (-1 : Int32).toInt = -1 := by decide
    omega
  have h := (c_idiv (Int32.ofNat n) (Int32.ofNat t) (t : Int) (ofNat_toInt ht.2) hd).1
  rw [ofNat_toInt hn] at h
  rw [h (by omega), ofNat_toInt (by omega)]
  rfl
theorem neN {t : Nat} (ht : 0 < t ∧ t < 2 ^ 31) : Int32.ofNat t ≠ 0 := fun q => by
  have w := congrArg Int32.toInt q
  rw [ofNat_toInt ht.2] at w
  have e : (0 : Int32).toInt = 0 := rfl
  omega
theorem mod10N {n : Nat} (hn : n < 2 ^ 31) : Int32.ofNat n % (10 : Int32) = Int32.ofNat (n % 10) := by
  apply Int32.toInt_inj.mp
  have h := (c_irem (Int32.ofNat n) 10 10 rfl).1
  rw [ofNat_toInt hn] at h
  rw [h (by omega), ofNat_toInt (by omega)]
  omega
theorem dg48F : ∀ m : Fin 10, (¬ Int32.ofNat (48 + m.val) < 0 ∧ ¬ (255 : Int32) < Int32.ofNat (48 + m.val)) ∧ (48 : Int32) + Int32.ofNat m.val = Int32.ofNat (48 + m.val) := by decide +kernel
theorem dg48 (n : Nat) : ¬ Int32.ofNat (48 + n % 10) < 0 ∧ ¬ (255 : Int32) < Int32.ofNat (48 + n % 10) := (dg48F ⟨n % 10, Nat.mod_lt _ (by decide)⟩).1
theorem add48 (n : Nat) : (48 : Int32) + Int32.ofNat (n % 10) = Int32.ofNat (48 + n % 10) := (dg48F ⟨n % 10, Nat.mod_lt _ (by decide)⟩).2
/-- the s last decimal places of n -/
def dgL : Nat → Nat → List Int32
  | 0, _ => []
  | s + 1, n => dgL s (n / 10) ++ [Int32.ofNat (48 + n % 10)]
theorem dgL_len : ∀ s n : Nat, (dgL s n).length = s
  | 0, _ => rfl
  | s + 1, n => by simp [dgL, dgL_len s]
theorem dgL_ch : ∀ s n : Nat, ∀ c ∈ dgL s n, ¬ c < 0 ∧ ¬ (255 : Int32) < c
  | 0, _ => fun c hc => by simp [dgL] at hc
  | s + 1, n => fun c hc => by
    rcases List.mem_append.mp (show c ∈ dgL s (n / 10) ++ [Int32.ofNat (48 + n % 10)] from hc) with q | q
    · exact dgL_ch s _ c q
    · cases List.mem_singleton.mp q; exact dg48 n
/-- n has s decimal places -/
def Nd (s n : Nat) : Prop := 0 < s ∧ n < 10 ^ s ∧ 10 ^ (s - 1) ≤ n
theorem Nd.uniq {s i n hi lo : Nat} (h : Nd s n) (h1 : n < hi) (h2 : lo ≤ n) (e1 : 10 ^ i = hi) (e2 : 10 ^ (i - 1) = lo) (h0 : 0 < i) : s = i := by
  obtain ⟨a, b, c⟩ := h
  rcases Nat.lt_trichotomy s i with q | q | q
  · have t : 10 ^ s ≤ 10 ^ (i - 1) := Nat.pow_le_pow_right (by decide) (by omega)
    omega
  · exact q
  · have t : 10 ^ i ≤ 10 ^ (s - 1) := Nat.pow_le_pow_right (by decide) (by omega)
    omega
theorem Nd.pos {s n : Nat} (h : Nd s n) : 0 < n := by
  have p : 0 < 10 ^ (s - 1) := Nat.pow_pos (by decide)
  exact Nat.lt_of_lt_of_le p h.2.2
theorem Nd.small {s y : Nat} (h : Nd s y) (hq : y < 100) : (y < 10 ∧ s = 1) ∨ (10 ≤ y ∧ s = 2) := by
  have p := h.pos
  by_cases q : y < 10
  · exact Or.inl ⟨q, h.uniq (hi := 10) (lo := 1) q p (by decide) (by decide) (by decide)⟩
  · exact Or.inr ⟨by omega, h.uniq (hi := 100) (lo := 10) hq (by omega) (by decide) (by decide) (by decide)⟩
theorem Nd.big {s y : Nat} (h : Nd s y) (hq : ¬ y < 100) : ∃ t, s = t + 2 ∧ Nd t (y / 100) := by
  obtain ⟨a, b, c⟩ := h
  have e100 : (10 : Nat) ^ 2 = 100 := by decide
  have hs : 3 ≤ s := by
    apply Nat.le_of_not_lt
    intro q
    have t : 10 ^ s ≤ 10 ^ 2 := Nat.pow_le_pow_right (by decide) (by omega)
    rw [e100] at t
    omega
  refine ⟨s - 2, by omega, by omega, ?_, ?_⟩
  · have e : 10 ^ s = 10 ^ (s - 2) * 10 ^ 2 := by rw [← Nat.pow_add, show s - 2 + 2 = s from by omega]
    rw [e100] at e
    omega
  · have e : 10 ^ (s - 1) = 10 ^ (s - 2 - 1) * 10 ^ 2 := by rw [← Nat.pow_add, show s - 2 - 1 + 2 = s - 1 from by omega]
    rw [e100] at e
    omega
theorem Nd.of {s n hi lo : Nat} (h0 : 0 < s) (e1 : 10 ^ s = hi) (e2 : 10 ^ (s - 1) = lo) (h1 : n < hi) (h2 : lo ≤ n) : Nd s n := ⟨h0, by rw [e1]; exact h1, by rw [e2]; exact h2⟩
theorem Nd.le10 {s n : Nat} (h : Nd s n) (hn : n < 2 ^ 31) : s ≤ 10 := by
  apply Nat.le_of_not_lt
  intro q
  have t : 10 ^ 10 ≤ 10 ^ (s - 1) := Nat.pow_le_pow_right (by decide) (by omega)
  have e : (10 : Nat) ^ 10 = 10000000000 := by decide
  have c := h.2.2
  rw [e] at t
  omega
theorem Nd.ex {n : Nat} (h0 : 0 < n) (hn : n < 2 ^ 31) : ∃ s, Nd s n := by
  by_cases q1 : n < 10
  · exact ⟨1, Nd.of (hi := 10) (lo := 1) (by decide) (by decide) (by decide) q1 h0⟩
  by_cases q2 : n < 100
  · exact ⟨2, Nd.of (hi := 100) (lo := 10) (by decide) (by decide) (by decide) q2 (by omega)⟩
  by_cases q3 : n < 1000
  · exact ⟨3, Nd.of (hi := 1000) (lo := 100) (by decide) (by decide) (by decide) q3 (by omega)⟩
  by_cases q4 : n < 10000
  · exact ⟨4, Nd.of (hi := 10000) (lo := 1000) (by decide) (by decide) (by decide) q4 (by omega)⟩
  by_cases q5 : n < 100000
  · exact ⟨5, Nd.of (hi := 100000) (lo := 10000) (by decide) (by decide) (by decide) q5 (by omega)⟩
  by_cases q6 : n < 1000000
  · exact ⟨6, Nd.of (hi := 1000000) (lo := 100000) (by decide) (by decide) (by decide) q6 (by omega)⟩
  by_cases q7 : n < 10000000
  · exact ⟨7, Nd.of (hi := 10000000) (lo := 1000000) (by decide) (by decide) (by decide) q7 (by omega)⟩
  by_cases q8 : n < 100000000
  · exact ⟨8, Nd.of (hi := 100000000) (lo := 10000000) (by decide) (by decide) (by decide) q8 (by omega)⟩
  by_cases q9 : n < 1000000000
  · exact ⟨9, Nd.of (hi := 1000000000) (lo := 100000000) (by decide) (by decide) (by decide) q9 (by omega)⟩
  · exact ⟨10, Nd.of (hi := 10000000000) (lo := 1000000000) (by decide) (by decide) (by decide) (by omega) (by omega)⟩
def onesV : List Value := (List.range 100).map fun i => .int (Int32.ofNat (48 + i % 10))
def tensV : List Value := (List.range 100).map fun i => .int (Int32.ofNat (48 + i / 10))
theorem onesF : ∀ k : Fin 100, onesV.getD k.val (.int 0) = .int (Int32.ofNat (48 + k.val % 10)) := by decide +kernel
theorem tensF : ∀ k : Fin 100, tensV.getD k.val (.int 0) = .int (Int32.ofNat (48 + k.val / 10 % 10)) := by decide +kernel
theorem onesAt {y : Nat} (h : y < 100) : onesV.getD (Int32.ofNat y).toNatClampNeg (.int 0) = .int (Int32.ofNat (48 + y % 10)) := by rw [clampN (by omega)]; exact onesF ⟨y, h⟩
theorem tensAt {y : Nat} (h : y < 100) : tensV.getD (Int32.ofNat y).toNatClampNeg (.int 0) = .int (Int32.ofNat (48 + y / 10 % 10)) := by rw [clampN (by omega)]; exact tensF ⟨y, h⟩
theorem onesR (y : Nat) : onesV.getD (Int32.ofNat (y % 100)).toNatClampNeg (.int 0) = .int (Int32.ofNat (48 + y % 10)) := by rw [onesAt (Nat.mod_lt _ (by decide)), show y % 100 % 10 = y % 10 from by omega]
theorem tensR (y : Nat) : tensV.getD (Int32.ofNat (y % 100)).toNatClampNeg (.int 0) = .int (Int32.ofNat (48 + y / 10 % 10)) := by rw [tensAt (Nat.mod_lt _ (by decide)), show y % 100 / 10 % 10 = y / 10 % 10 from by omega]
/-- the digit tables of java/lang/Integer -/
def Dg (Z : State) (o1 o2 : Addr) : Prop := Sta Z Z.heap "java/lang/Integer" "DigitOnes" "[B" (.ref o1) ∧ (∃ k, Arv Z Z.heap o1 k .byte (100 : Int32) onesV (.int 0)) ∧ Sta Z Z.heap "java/lang/Integer" "DigitTens" "[B" (.ref o2) ∧ ∃ k, Arv Z Z.heap o2 k .byte (100 : Int32) tensV (.int 0)
theorem set_end {α : Type} (a s : List α) (k : Nat) (z v : α) : (a ++ List.replicate (k + 1) z ++ s).set (a.length + k) v = a ++ List.replicate k z ++ v :: s := by
  have e : a ++ List.replicate (k + 1) z ++ s = (a ++ List.replicate k z) ++ (z :: s) := by
    rw [List.replicate_succ']; simp
  rw [e, List.set_append_right _ _ (by simp)]
  simp
theorem set_fill (ds suf : List Int32) (k : Nat) (x : Int32) : (((ds ++ List.replicate (k + 1) 0 ++ suf).map fun (c : Int32) => c.toInt8.toInt32).map Value.int).set (ds.length + k) (.int x.toInt8.toInt32) = (((ds ++ List.replicate k 0 ++ (x :: suf)).map fun (c : Int32) => c.toInt8.toInt32).map Value.int) := by
  have h := set_end ((ds.map fun (c : Int32) => c.toInt8.toInt32).map Value.int) ((suf.map fun (c : Int32) => c.toInt8.toInt32).map Value.int) k (Value.int 0) (Value.int x.toInt8.toInt32)
  have e : (0 : Int32).toInt8.toInt32 = 0 := by decide
  simp only [List.length_map] at h
  simp only [List.map_append, List.map_replicate, List.map_cons, e]
  exact h
theorem fill_lt (ds suf : List Int32) (k : Nat) : ds.length + k < ((((ds ++ List.replicate (k + 1) 0 ++ suf).map fun (c : Int32) => c.toInt8.toInt32).map Value.int)).length := by
  simp only [List.length_map, List.length_append, List.length_replicate]; omega
theorem fill0 (ds : List Int32) (s : Nat) (i : Nat) : (((ds ++ List.replicate s 0 ++ []).map fun (c : Int32) => c.toInt8.toInt32).map Value.int).getD i (.int 0) = ((ds.map fun (c : Int32) => c.toInt8.toInt32).map Value.int).getD i (.int 0) := by
  have e : (0 : Int32).toInt8.toInt32 = 0 := by decide
  simp only [List.append_nil, List.map_append, List.map_replicate, e]
  exact pad_rep _ _ s i
/-- a UTF-16 unit -/
def C16 (c : Int32) : Prop := ¬ c < 0 ∧ ¬ (65535 : Int32) < c
def loB (c : Int32) : Int32 := c.toInt8.toInt32
def hiB (c : Int32) : Int32 := (c >>> ((8 : Int32) &&& 31)).toInt8.toInt32
def b2 : List Int32 → List Value
  | [] => []
  | c :: r => Value.int (loB c) :: Value.int (hiB c) :: b2 r
theorem b2_len : ∀ cs : List Int32, (b2 cs).length = 2 * cs.length
  | [] => rfl
  | c :: r => by simp only [b2, List.length_cons, b2_len r]; omega
theorem b2_app : ∀ xs ys : List Int32, b2 (xs ++ ys) = b2 xs ++ b2 ys
  | [], ys => rfl
  | c :: r, ys => by simp only [b2, List.cons_append, b2_app r ys]
theorem b2_at : ∀ (cs : List Int32) (i : Nat), i < cs.length → (b2 cs).getD (2 * i) (.int 0) = .int (loB (cs.getD i 0)) ∧ (b2 cs).getD (2 * i + 1) (.int 0) = .int (hiB (cs.getD i 0))
  | [], i, h => absurd h (Nat.not_lt_zero _)
  | c :: r, 0, _ => ⟨rfl, rfl⟩
  | c :: r, i + 1, h => by
    have q := b2_at r i (Nat.lt_of_succ_lt_succ h)
    have e1 : 2 * (i + 1) = 2 * i + 1 + 1 := by omega
    rw [e1]
    exact q
theorem c16I {c : Int32} (h : C16 c) : 0 ≤ c.toInt ∧ c.toInt ≤ 65535 := by
  obtain ⟨h1, h2⟩ := h
  rw [Int32.lt_iff_toInt_lt] at h1 h2
  have e1 : (0 : Int32).toInt = 0 := rfl
  have e2 : (65535 : Int32).toInt = 65535 := rfl
  omega
theorem c16of {c : Int32} (h : 0 ≤ c.toInt ∧ c.toInt ≤ 65535) : C16 c := by
  have e1 : (0 : Int32).toInt = 0 := rfl
  have e2 : (65535 : Int32).toInt = 65535 := rfl
  exact ⟨by rw [Int32.lt_iff_toInt_lt]; omega, by rw [Int32.lt_iff_toInt_lt]; omega⟩
theorem c16up {c : Int32} (h : ¬ c < 0 ∧ ¬ (255 : Int32) < c) : C16 c := by
  obtain ⟨h1, h2⟩ := h
  refine ⟨h1, ?_⟩
  rw [Int32.lt_iff_toInt_lt] at h2 ⊢
  have e1 : (255 : Int32).toInt = 255 := rfl
  have e2 : (65535 : Int32).toInt = 65535 := rfl
  omega
theorem nar16 {c : Int32} (h : C16 c) : nar .char c = c := by
  apply Int32.toInt_inj.mp
  have h1 := c16I h
  have h2 := c_i2c c
  show c.toUInt32.toUInt16.toUInt32.toInt32.toInt = c.toInt
  omega
theorem nar16v {c : Int32} (h : C16 c) : narrow .char (.int c) = .int c := (show narrow .char (.int c) = .int (nar .char c) from rfl).trans (by rw [nar16 h])
theorem i2c16 {c : Int32} (h : C16 c) : c.toUInt32.toUInt16.toUInt32.toInt32 = c := nar16 h
theorem i2cC (c : Int32) : C16 c.toUInt32.toUInt16.toUInt32.toInt32 := by
  have h2 := c_i2c c
  exact c16of ⟨h2.2.1, by omega⟩
theorem lo255 {c : Int32} (h : ¬ c < 0 ∧ ¬ (255 : Int32) < c) : loB c &&& (255 : Int32) = c := by
  apply Int32.toInt_inj.mp
  rw [c_mask (loB c) 255 8 (by decide) (by decide)]
  have h1 := c_i2b c
  obtain ⟨h2, h3⟩ := h
  rw [Int32.lt_iff_toInt_lt] at h2 h3
  have e1 : (0 : Int32).toInt = 0 := rfl
  have e2 : (255 : Int32).toInt = 255 := rfl
  have e3 : (loB c).toInt = c.toInt8.toInt32.toInt := rfl
  omega
theorem shrN0 (x : Int32) : x >>> ((0 : Int32) &&& 31) = x := by
  apply Int32.toInt_inj.mp
  rw [c_ishr x 0 0 (by decide)]
  simp
theorem shlN0 (x : Int32) : x <<< ((0 : Int32) &&& 31) = x := by
  apply Int32.toBitVec_inj.mp
  simp
theorem shr1N {n : Nat} (h : n < 2 ^ 30) : Int32.ofNat (2 * n) >>> ((1 : Int32) &&& 31) = Int32.ofNat n := by
  apply Int32.toInt_inj.mp
  rw [c_ishr _ 1 1 (by decide), ofNat_toInt (by omega), ofNat_toInt (by omega)]
  omega
theorem shl1N {n : Nat} (h : n < 2 ^ 30) : Int32.ofNat n <<< ((1 : Int32) &&& 31) = Int32.ofNat (2 * n) := by
  apply Int32.toInt_inj.mp
  have q := c_ishl (Int32.ofNat n) 1 1 (by decide)
  have r := rng32 (Int32.ofNat n <<< ((1 : Int32) &&& 31))
  rw [ofNat_toInt (by omega)] at q
  rw [ofNat_toInt (by omega)]
  omega
theorem pair16 {c : Int32} (h : C16 c) : (((loB c &&& (255 : Int32)) <<< ((0 : Int32) &&& 31)) ||| ((hiB c &&& (255 : Int32)) <<< ((8 : Int32) &&& 31))).toUInt32.toUInt16.toUInt32.toInt32 = c := by
  have h0 := c16I h
  have a1 := c_mask (loB c) 255 8 (by decide) (by decide)
  have a2 := c_i2b c
  have e3 : (loB c).toInt = c.toInt8.toInt32.toInt := rfl
  have b1 := c_mask (hiB c) 255 8 (by decide) (by decide)
  have b2 := c_i2b (c >>> ((8 : Int32) &&& 31))
  have b3 := c_ishr c 8 8 (by decide)
  have e4 : (hiB c).toInt = (c >>> ((8 : Int32) &&& 31)).toInt8.toInt32.toInt := rfl
  have s8 := c_ishl (hiB c &&& (255 : Int32)) 8 8 (by decide)
  have r8 := rng32 ((hiB c &&& (255 : Int32)) <<< ((8 : Int32) &&& 31))
  have x1 : (loB c &&& (255 : Int32)).toInt = c.toInt % 256 := by omega
  have x2 : (hiB c &&& (255 : Int32)).toInt = c.toInt / 256 := by omega
  have x3 : ((hiB c &&& (255 : Int32)) <<< ((8 : Int32) &&& 31)).toInt = c.toInt / 256 * 256 := by omega
  rw [shlN0]
  have o := c_or' (loB c &&& (255 : Int32)) ((hiB c &&& (255 : Int32)) <<< ((8 : Int32) &&& 31)) 8 (by decide) 256 (by decide) (by omega) (by omega) (by omega)
  have ro := rng32 ((loB c &&& (255 : Int32)) ||| ((hiB c &&& (255 : Int32)) <<< ((8 : Int32) &&& 31)))
  have x4 : ((loB c &&& (255 : Int32)) ||| ((hiB c &&& (255 : Int32)) <<< ((8 : Int32) &&& 31))).toInt = c.toInt := by omega
  apply Int32.toInt_inj.mp
  have i := c_i2c ((loB c &&& (255 : Int32)) ||| ((hiB c &&& (255 : Int32)) <<< ((8 : Int32) &&& 31)))
  omega
theorem idem8 (x : Int32) : x.toInt8.toInt32.toInt8.toInt32 = x.toInt8.toInt32 := by
  apply Int32.toInt_inj.mp
  have h1 := c_i2b x
  have h2 := c_i2b x.toInt8.toInt32
  omega
theorem subPos {n c : Nat} (hn : n < 2 ^ 31) (hc : c < 2 ^ 31) : (0 < Int32.ofNat n - Int32.ofNat c) ↔ c < n := by
  rw [Int32.lt_iff_toInt_lt, i32_toInt_ofNat_sub hn hc]
  have e1 : (0 : Int32).toInt = 0 := rfl
  omega
theorem posN_lt {p m : Nat} (h : p < m) (hm : m < 2 ^ 31) : ¬ Int32.ofNat p < 0 ∧ Int32.ofNat p < Int32.ofNat m := ⟨nneg (by omega), (ofNat_lt (by omega) (by omega)).mpr h⟩
/-- a UTF-16 String of these units -/
def Str2 (Z : State) (h : Heap) (a : Addr) (cs : List Int32) : Prop :=
  ∃ (b : Addr) (kb : ClassId), Exa Z h a "java/lang/String" ∧ Fld Z h a "java/lang/String" "coder" "B" (.int 1) ∧ Fld Z h a "java/lang/String" "value" "[B" (.ref b) ∧
    Arv Z h b kb .byte (Int32.ofNat (2 * cs.length)) (b2 cs) (.int 0) ∧ cs.length ≤ 4000 ∧ ∀ c ∈ cs, C16 c
/-- a String of these units, by whichever coder -/
def StrU (Z : State) (h : Heap) (a : Addr) (cs : List Int32) : Prop := Str Z h a cs ∨ Str2 Z h a cs
section U16
variable {Z : State} {a0 : Array Value} {h h' : Heap} {a x : Addr} {cs : List Int32} {C : String} {n : Nat}
theorem Str2.exa (T : Str2 Z h a cs) : Exa Z h a "java/lang/String" := by obtain ⟨b, kb, t1, -⟩ := T; exact t1
theorem Str2.ext (T : Str2 Z h a cs) (E : Ext h h') : Str2 Z h' a cs := by
  obtain ⟨b, kb, t1, t2, t3, t4, t5⟩ := T
  exact ⟨b, kb, t1.ext E, t2.ext E, t3.ext E, t4.ext E, t5⟩
theorem StrU.ext (T : StrU Z h a cs) (E : Ext h h') : StrU Z h' a cs := T.imp (fun q => q.ext E) (fun q => q.ext E)
theorem StrU.exa (T : StrU Z h a cs) : Exa Z h a "java/lang/String" := T.elim (fun q => q.exa) (fun q => q.exa)
theorem StrU.len (T : StrU Z h a cs) : cs.length ≤ 4000 := T.elim (fun q => q.len) (fun q => by obtain ⟨b, kb, -, -, -, -, q, -⟩ := q; exact q)
theorem StrU.ch (T : StrU Z h a cs) : ∀ c ∈ cs, C16 c := T.elim (fun q c hc => by obtain ⟨_, _, _, _, _, _, _, t6⟩ := q; exact c16up (t6 c hc)) (fun q => by obtain ⟨b, kb, -, -, -, -, -, q⟩ := q; exact q)
theorem Str.ch1 (T : Str Z h a cs) : ∀ c ∈ cs, ¬ c < 0 ∧ ¬ (255 : Int32) < c := by obtain ⟨_, _, _, _, _, _, _, t6⟩ := T; exact t6
end U16
/-- what the case says of StringUTF16's statics -/
def UT (Z : State) : Prop := Sta Z Z.heap "java/lang/StringUTF16" "$assertionsDisabled" "Z" (.int 1) ∧ Sta Z Z.heap "java/lang/StringUTF16" "HI_BYTE_SHIFT" "I" (.int 0) ∧ Sta Z Z.heap "java/lang/StringUTF16" "LO_BYTE_SHIFT" "I" (.int 8)
theorem getIn {cs : List Int32} {i : Nat} (h : i < cs.length) : cs.getD i 0 ∈ cs := by
  have e : cs.getD i 0 = cs[i] := by simp [List.getD_eq_getElem?_getD, h]
  rw [e]; exact List.getElem_mem _
theorem getB1 (cs : List Int32) {i : Nat} (h : i < 2 ^ 31) : ((cs.map fun (c : Int32) => c.toInt8.toInt32).map Value.int).getD (Int32.ofNat i).toNatClampNeg (.int 0) = .int (loB (cs.getD i 0)) := by
  rw [clampN h]
  simp only [List.getD_eq_getElem?_getD, List.getElem?_map]
  cases cs[i]? <;> rfl
theorem getMC (xs : List Int32) {i : Nat} (h : i < 2 ^ 31) : (xs.map Value.int).getD (Int32.ofNat i).toNatClampNeg (.int 0) = .int (xs.getD i 0) := by
  rw [clampN h]
  simp only [List.getD_eq_getElem?_getD, List.getElem?_map]
  cases xs[i]? <;> rfl
theorem getLo (cs : List Int32) {i : Nat} (h : i < cs.length) (hb : i < 2 ^ 30) : (b2 cs).getD (Int32.ofNat (2 * i)).toNatClampNeg (.int 0) = .int (loB (cs.getD i 0)) := by
  rw [clampN (by omega)]; exact (b2_at cs i h).1
theorem getHi (cs : List Int32) {i : Nat} (h : i < cs.length) (hb : i < 2 ^ 30) : (b2 cs).getD (Int32.ofNat (2 * i + 1)).toNatClampNeg (.int 0) = .int (hiB (cs.getD i 0)) := by
  rw [clampN (by omega)]; exact (b2_at cs i h).2
theorem put1 (xs : List Int32) (v : Value) : (b2 xs ++ [Value.int 0, Value.int 0]).set (2 * xs.length) v = b2 xs ++ [v, Value.int 0] := by
  rw [List.set_append_right _ _ (by rw [b2_len]; exact Nat.le_refl _), b2_len]; simp
theorem put2 (xs : List Int32) (u v : Value) : (b2 xs ++ [u, Value.int 0]).set (2 * xs.length + 1) v = b2 xs ++ [u, v] := by
  rw [List.set_append_right _ _ (by rw [b2_len]; omega), b2_len, show 2 * xs.length + 1 - 2 * xs.length = 1 from by omega]; rfl
theorem put3 (xs : List Int32) (c : Int32) : b2 xs ++ [Value.int (loB c), Value.int (hiB c)] = b2 (xs ++ [c]) := by rw [b2_app]; rfl
theorem set_b1 (xs : List Int32) (c : Int32) : (((xs.map fun (c : Int32) => c.toInt8.toInt32).map Value.int) ++ [Value.int 0]).set xs.length (.int (loB c)) = (((xs ++ [c]).map fun (c : Int32) => c.toInt8.toInt32).map Value.int) := by
  rw [List.set_append_right _ _ (by simp)]; simp [loB]
theorem takeS {cs : List Int32} {i : Nat} (h : i < cs.length) : cs.take (i + 1) = cs.take i ++ [cs.getD i 0] := by
  rw [List.take_succ]
  simp [List.getD_eq_getElem?_getD, h]
theorem cr_get {n_ : Nat} {vs : List Value} (hn : n_ < 2 ^ 31) : ∀ i, i < (Int32.ofNat n_).toNatClampNeg → vs.getD i (.int 0) = if 0 ≤ i ∧ i < 0 + n_ then vs.getD (0 + (i - 0)) (.int 0) else ([] : List Value).getD i (.int 0) := fun i hi => by
  rw [clampN hn] at hi
  rw [if_pos ⟨Nat.zero_le _, by omega⟩]; simp
theorem app_get (ds cs : List Int32) (i : Nat) : (((ds ++ cs).map fun (c : Int32) => c.toInt8.toInt32).map Value.int).getD i (.int 0) = if ds.length ≤ i ∧ i < ds.length + cs.length then ((cs.map fun (c : Int32) => c.toInt8.toInt32).map Value.int).getD (0 + (i - ds.length)) (.int 0) else ((ds.map fun (c : Int32) => c.toInt8.toInt32).map Value.int).getD i (.int 0) := by
  simp only [List.getD_eq_getElem?_getD, List.map_append, Nat.zero_add]
  by_cases q : i < ds.length
  · rw [if_neg (by omega), List.getElem?_append_left (by simpa using q)]
  · rw [List.getElem?_append_right (by simpa using Nat.le_of_not_lt q)]
    by_cases r : i < ds.length + cs.length
    · rw [if_pos ⟨Nat.le_of_not_lt q, r⟩]; simp
    · rw [if_neg (fun z => r z.2), List.getElem?_eq_none (by simp; omega), List.getElem?_eq_none (by simp; omega)]
theorem strChars {Z : State} {h : Heap} {a : Addr} {cs : List Int32} (T : Str Z h a cs) : ∀ c ∈ cs, ¬ c < 0 ∧ ¬ (255 : Int32) < c := by obtain ⟨_, _, _, _, _, _, _, t6⟩ := T; exact t6
theorem notFaceC {args : Array Value} {s : State} {K : String} {x g : MethodName} (ws : (Jvm.Cond.selects K g g).before args s = true) (e : g.cls = x.cls) : NotFace s x := fun r0 h0 => by
  obtain ⟨c2, r2, m2, q1, q2, q3, q4, kP, hkP, hkPi⟩ := Cond.selects_spec ws
  have f1 := findClass_of_methodNamed h0
  have f2 := findClass_of_methodNamed q3
  rw [e] at f2
  have f3 : m2.cls = r0.cls := Option.some.inj (f2.symm.trans f1)
  exact ⟨kP, f3 ▸ hkP, hkPi⟩
theorem Ext.kp2 {h h1 h2 : Heap} {x y : Addr} (E : Ext h h1) (K : Keep h1 h2 [x, y]) (e : h.size ≤ x) (f : h.size ≤ y) : Ext h h2 := Ext.kp E K fun z hz => by
  simp only [List.mem_cons, List.not_mem_nil, or_false] at hz
  rcases hz with rfl | rfl
  · exact e
  · exact f

theorem midD (done rest : List Int32) (c : Int32) : (done ++ c :: rest).getD done.length 0 = c := by simp [List.getD_eq_getElem?_getD]
theorem cflF : ∀ n : Fin 4, 0 < n.val → XT.ushr (Int32.ofNat n.val - Int32.ofNat (2 * n.val)) 31 = 1 := by decide +kernel
theorem addmax {a b c r : Nat} (hb : b < 1000) (hc : c < 1000) (hr : a + (if b < c then c else b) = r) : Int32.ofNat a + (if Int32.ofNat b < Int32.ofNat c then Int32.ofNat c else Int32.ofNat b) = Int32.ofNat r := by
  have q := ofNat_lt (i := b) (n := c) (by omega) (by omega)
  by_cases g : b < c
  · rw [if_pos (q.mpr g), ofNat_add']; rw [if_pos g] at hr; rw [hr]
  · rw [if_neg (fun z => g (q.mp z)), ofNat_add']; rw [if_neg g] at hr; rw [hr]
theorem cpg {m1 m2 : Nat} {vs : List Value} (hl : vs.length ≤ m1) : ∀ i, i < (Int32.ofNat m2).toNatClampNeg → vs.getD i (.int 0) = if 0 ≤ i ∧ i < 0 + m1 then vs.getD (0 + (i - 0)) (.int 0) else ([] : List Value).getD i (.int 0) := fun i _ => by
  by_cases q : i < m1
  · rw [if_pos ⟨Nat.zero_le _, by omega⟩]; simp
  · rw [if_neg (fun z => q (by omega))]; simp [List.getD_eq_getElem?_getD, List.getElem?_eq_none (show vs.length ≤ i by omega)]
def bu (u : Nat) (cs : List Int32) : List Value := if u = 0 then (cs.map fun (c : Int32) => c.toInt8.toInt32).map Value.int else b2 cs
/-- a builder of cap places, by the coder u, that holds the units cs -/
def Bd (Z : State) (h : Heap) (b d : Addr) (kd : ClassId) (u cap : Nat) (cs : List Int32) : Prop :=
  Exa Z h b "java/lang/StringBuilder" ∧ Fld Z h b "java/lang/AbstractStringBuilder" "coder" "B" (.int (Int32.ofNat u)) ∧ Fld Z h b "java/lang/AbstractStringBuilder" "value" "[B" (.ref d) ∧ Fld Z h b "java/lang/AbstractStringBuilder" "count" "I" (.int (Int32.ofNat cs.length)) ∧ Fld Z h b "java/lang/AbstractStringBuilder" "maybeLatin1" "Z" (.int 0) ∧
  Arv Z h d kd .byte (Int32.ofNat (cap * (u + 1))) (bu u cs) (.int 0) ∧ Exa Z h d "[B" ∧ (cap ≤ 40 ∧ cs.length ≤ cap ∧ (u = 0 ∨ u = 1)) ∧ (∀ c ∈ cs, C16 c) ∧ (u = 0 → ∀ c ∈ cs, ¬ (255 : Int32) < c)
section Bd
variable {Z : State} {h h' : Heap} {b d : Addr} {kd : ClassId} {u cap : Nat} {cs : List Int32}
theorem Bd.ext (B : Bd Z h b d kd u cap cs) (E : Ext h h') : Bd Z h' b d kd u cap cs := by
  obtain ⟨b1, b2, b3, b4, b5, b6, b7, b8⟩ := B
  exact ⟨b1.ext E, b2.ext E, b3.ext E, b4.ext E, b5.ext E, b6.ext E, b7.ext E, b8⟩
theorem Bd.e (B : Bd Z h b d kd u cap cs) : Exa Z h b "java/lang/StringBuilder" := B.1
theorem Bd.co (B : Bd Z h b d kd u cap cs) : Fld Z h b "java/lang/AbstractStringBuilder" "coder" "B" (.int (Int32.ofNat u)) := B.2.1
theorem Bd.va (B : Bd Z h b d kd u cap cs) : Fld Z h b "java/lang/AbstractStringBuilder" "value" "[B" (.ref d) := B.2.2.1
theorem Bd.ct (B : Bd Z h b d kd u cap cs) : Fld Z h b "java/lang/AbstractStringBuilder" "count" "I" (.int (Int32.ofNat cs.length)) := B.2.2.2.1
theorem Bd.my (B : Bd Z h b d kd u cap cs) : Fld Z h b "java/lang/AbstractStringBuilder" "maybeLatin1" "Z" (.int 0) := B.2.2.2.2.1
theorem Bd.ar (B : Bd Z h b d kd u cap cs) : Arv Z h d kd .byte (Int32.ofNat (cap * (u + 1))) (bu u cs) (.int 0) := B.2.2.2.2.2.1
theorem Bd.a0 (B : Bd Z h b d kd 0 cap cs) : Arv Z h d kd .byte (Int32.ofNat cap) ((cs.map fun (c : Int32) => c.toInt8.toInt32).map Value.int) (.int 0) := by
  have A := B.ar
  rw [show cap * (0 + 1) = cap from by omega] at A
  exact A
theorem Bd.a1 (B : Bd Z h b d kd 1 cap cs) : Arv Z h d kd .byte (Int32.ofNat (2 * cap)) (b2 cs) (.int 0) := by
  have A := B.ar
  rw [show cap * (1 + 1) = 2 * cap from by omega] at A
  exact A
theorem Bd.ex (B : Bd Z h b d kd u cap cs) : Exa Z h d "[B" := B.2.2.2.2.2.2.1
theorem Bd.c40 (B : Bd Z h b d kd u cap cs) : cap ≤ 40 := B.2.2.2.2.2.2.2.1.1
theorem Bd.le (B : Bd Z h b d kd u cap cs) : cs.length ≤ cap := B.2.2.2.2.2.2.2.1.2.1
theorem Bd.u01 (B : Bd Z h b d kd u cap cs) : u = 0 ∨ u = 1 := B.2.2.2.2.2.2.2.1.2.2
theorem Bd.ch (B : Bd Z h b d kd u cap cs) : ∀ c ∈ cs, C16 c := B.2.2.2.2.2.2.2.2.1
theorem Bd.lat (B : Bd Z h b d kd 0 cap cs) : ∀ c ∈ cs, ¬ (255 : Int32) < c := B.2.2.2.2.2.2.2.2.2 rfl
theorem Bd.l2 (B : Bd Z h b d kd 0 cap cs) : ∀ c ∈ cs, ¬ c < 0 ∧ ¬ (255 : Int32) < c := fun c hc => ⟨(B.ch c hc).1, B.lat c hc⟩
theorem Arv.up0 {m : Nat} {xs : List Int32} (A : Arv Z h d kd .byte (Int32.ofNat m) ((xs.map fun (c : Int32) => c.toInt8.toInt32).map Value.int) (.int 0)) : Arv Z h d kd .byte (Int32.ofNat (m * (0 + 1))) (bu 0 xs) (.int 0) := by
  rw [show m * (0 + 1) = m from by omega]; exact A
theorem Arv.up1 {m : Nat} {xs : List Int32} (A : Arv Z h d kd .byte (Int32.ofNat (2 * m)) (b2 xs) (.int 0)) : Arv Z h d kd .byte (Int32.ofNat (m * (1 + 1))) (bu 1 xs) (.int 0) := by
  rw [show m * (1 + 1) = 2 * m from by omega]; exact A
end Bd

theorem or3 {x y z : Nat} (hx : x < 2 ^ 31) (hy : y < 2 ^ 31) (hz : z < 2 ^ 31) : ¬ ((Int32.ofNat z ||| Int32.ofNat x) ||| Int32.ofNat y) < 0 := by
  have e : (0 : Int32).toInt = 0 := rfl
  have h1 := (c_orS (Int32.ofNat z) (Int32.ofNat x)).1 (by rw [ofNat_toInt hz]; omega) (by rw [ofNat_toInt hx]; omega)
  have h2 := (c_orS (Int32.ofNat z ||| Int32.ofNat x) (Int32.ofNat y)).1 h1 (by rw [ofNat_toInt hy]; omega)
  rw [Int32.lt_iff_toInt_lt]
  omega
theorem subLe {x y z : Nat} (h : x + y ≤ z) (hz : z < 2 ^ 31) : ¬ Int32.ofNat z - Int32.ofNat x < Int32.ofNat y := by
  rw [Int32.lt_iff_toInt_lt, i32_toInt_ofNat_sub hz (by omega), ofNat_toInt (by omega)]
  omega
theorem Fld.uniq {Z : State} {h : Heap} {a : Addr} {O n d : String} {v w : Value} (F : Fld Z h a O n d v) (G : Fld Z h a O n d w) : v = w := by
  obtain ⟨c1, f1, k1, i1, g1, x1, x2, x3, x4, x5, x6, x7⟩ := F
  obtain ⟨c2, f2, k2, i2, g2, y1, y2, y3, y4, y5, y6, y7⟩ := G
  cases x1.symm.trans y1
  cases x2.symm.trans y2
  exact Option.some.inj (x7.symm.trans y7)
theorem nsUp {Z : State} {h h1 : Heap} {a b d d1 : Addr} {cs : List Int32} {C : String} (T : Str Z h a cs) (K : Keep h h1 [b]) (E : Exa Z h b C) (hC : C ≠ "java/lang/String") (o1 : d1 = d ∨ h.size ≤ d1) (ns : ∀ {b_ : Addr}, Fld Z h a "java/lang/String" "value" "[B" (.ref b_) → b_ ≠ d) {b_ : Addr} (F : Fld Z h1 a "java/lang/String" "value" "[B" (.ref b_)) : b_ ≠ d1 := by
  obtain ⟨b0, kb, s1, s2, s3, s4, s5⟩ := T
  have n1 : a ∉ [b] := ninS (fun q => (Exa.ne E s1 hC) q.symm) nin0
  cases Fld.uniq F (s3.keep K n1)
  exact o1.elim (fun q => by rw [q]; exact ns s3) (fun q => ne_of_new s4.lt q)
section Start
variable {Z : State} {args : Array Value} {t a : Term} {x na : Addr} {cl : Cell} {ty : FieldType} {k : Int32} {cs : List Int32}
theorem eqInt (h : (Jvm.Cond.eq a (.int k)).value args Z none Z [] = some true) : a.eval args Z none [] Z = some (.int k) := by
  simp only [Jvm.Cond.value, Term.int_eval] at h
  cases ha : a.eval args Z none [] Z with
  | none => simp [ha] at h
  | some v =>
    rw [ha] at h
    cases v <;> simp at h
    subst h; rfl
theorem lenAt (A : RoadKit.Arr Z Z.heap x cl ty) (ht : t.eval args Z none [] Z = some (.ref x)) (h : (Term.length t).eval args Z none [] Z = some (.int k)) : cl.slots.size < 2 ^ 31 ∧ cl.slots.size.toInt32 = k := by
  have e : Z.arrayAt? x = some cl := Arr.fin (Vm.Alike.refl _) A
  simp only [Term.eval, ht, Option.bind_eq_bind, Option.bind_some, e] at h
  by_cases q : cl.slots.size < 2147483648
  · simp [q] at h
    exact ⟨q, h⟩
  · simp [q] at h
theorem getB8 (cs : List Int32) (i : Nat) : ((cs.map fun c => c.toInt8.toInt32).map Value.int).getD i (.int 0) = .int ((cs.getD i 0).toInt8.toInt32) := by
  simp only [List.getD_eq_getElem?_getD, List.getElem?_map]
  cases cs[i]? <;> rfl
theorem strStart (u : t.eval args Z none [] Z = some (.ref na)) (p1 : (Jvm.Cond.exactly t "java/lang/String").value args Z none Z [] = some true) (p2 : (Jvm.Cond.eq (.field t "java/lang/String" "coder" "B") (.int 0)).value args Z none Z [] = some true) (p3 : (Jvm.Cond.arrayOf (.field t "java/lang/String" "value" "[B") .byte).value args Z none Z [] = some true)
    (p4 : (Jvm.Cond.eq (.length (.field t "java/lang/String" "value" "[B")) (.int (Int32.ofNat cs.length))).value args Z none Z [] = some true)
    (pe : ∀ i, i < cs.length → (Jvm.Cond.eq (.elem (.field t "java/lang/String" "value" "[B") (.int (Int32.ofNat i))) (.int ((cs.getD i 0).toInt8.toInt32))).value args Z none Z [] = some true) (hl : cs.length ≤ 4000) (hb : ∀ c ∈ cs, ¬ c < 0 ∧ ¬ (255 : Int32) < c) : Str Z Z.heap na cs := by
  obtain ⟨b, w⟩ := arr_v p3
  obtain ⟨q, A⟩ := Arr.start w p3
  obtain ⟨l1, l2⟩ := lenAt A w (eqInt p4)
  have l3 : q.slots.size = cs.length := by
    have e := congrArg Int32.toInt l2
    rw [len_toInt l1, ofNat_toInt (by omega)] at e
    omega
  have hs : ∀ i, i < q.slots.size → q.slots[i]? = some (((cs.map fun c => c.toInt8.toInt32).map Value.int).getD i (.int 0)) := fun i hi => by
    have e := eqInt (pe i (by omega))
    rw [elem_f w (Term.int_eval _) (Arr.fin (Vm.Alike.refl _) A) (by rw [Int32.lt_iff_toInt_lt, ofNat_toInt (by omega)]; have e1 : (0 : Int32).toInt = 0 := rfl; omega)] at e
    have e2 : (Int32.ofNat i).toNatClampNeg = i := by
      show ((Int32.ofNat i).toInt).toNat = i
      rw [ofNat_toInt (by omega)]; omega
    rw [e2] at e
    rw [e, getB8]
  refine ⟨b, q.cls, Exa.start u p1, Fld.start ((fld_at u).symm.trans (eqInt p2)), Fld.start ((fld_at u).symm.trans w), ⟨q, A, rfl, ?_, ?_, hs, ?_⟩, hl, hb⟩
  · show q.slots.size = ((Int32.ofNat cs.length).toInt).toNat
    rw [ofNat_toInt (by omega)]; omega
  · rw [Int32.lt_iff_toInt_lt, ofNat_toInt (by omega)]; have e1 : (0 : Int32).toInt = 0 := rfl; omega
  · intro i hi
    rw [getB8]; exact fits_nar_byte _
end Start

def refV (c : Int32) : List Int32 := if c = 38 then [38, 97, 109, 112, 59] else if c = 60 then [38, 108, 116, 59] else if c = 62 then [38, 103, 116, 59] else if c = 34 then [38, 113, 117, 111, 116, 59] else if c = 39 then [38, 35, 51, 57, 59] else [c]
def outV : List Int32 → List Int32
  | [] => []
  | c :: r => refV c ++ outV r
theorem outV_app : ∀ xs ys : List Int32, outV (xs ++ ys) = outV xs ++ outV ys
  | [], ys => rfl
  | c :: r, ys => by simp only [outV, List.cons_append, outV_app r ys, List.append_assoc]
theorem outS {cs : List Int32} {i : Nat} (h : i < cs.length) : outV (cs.take (i + 1)) = outV (cs.take i) ++ refV (cs.getD i 0) := by
  rw [takeS h, outV_app]
  simp [outV]
theorem refV_len (c : Int32) : (refV c).length ≤ 6 := by
  unfold refV
  split
  · simp
  · split
    · simp
    · split
      · simp
      · split
        · simp
        · split <;> simp
theorem outV_len : ∀ xs : List Int32, (outV xs).length ≤ 6 * xs.length
  | [] => by simp [outV]
  | c :: r => by
    have h := outV_len r
    have q := refV_len c
    simp only [outV, List.length_append, List.length_cons]
    omega
theorem take_le {cs : List Int32} (i : Nat) : (outV (cs.take i)).length ≤ 6 * i := by
  have h := outV_len (cs.take i)
  have q : (cs.take i).length ≤ i := List.length_take_le _ _
  omega
theorem miss5 {c : Int32} (h38 : ¬ c = 38) (h60 : ¬ c = 60) (h62 : ¬ c = 62) (h34 : ¬ c = 34) (h39 : ¬ c = 39) : (#[(34, 81), (38, 51), (39, 91), (60, 61), (62, 71)] : Array (Int × Int)).find? (·.1 == c.toInt) = none := by
  have t34 : ¬ (34 : Int) = c.toInt := fun q => h34 (Int32.toInt_inj.mp q.symm)
  have t38 : ¬ (38 : Int) = c.toInt := fun q => h38 (Int32.toInt_inj.mp q.symm)
  have t39 : ¬ (39 : Int) = c.toInt := fun q => h39 (Int32.toInt_inj.mp q.symm)
  have t60 : ¬ (60 : Int) = c.toInt := fun q => h60 (Int32.toInt_inj.mp q.symm)
  have t62 : ¬ (62 : Int) = c.toInt := fun q => h62 (Int32.toInt_inj.mp q.symm)
  simp [t34, t38, t39, t60, t62]
theorem segOK {pre ps post : List Int32} {f : Nat} (hf : f = pre.length) : ∀ i, i < ps.length → f + i < (pre ++ ps ++ post).length ∧ (pre ++ ps ++ post).getD (f + i) 0 = ps.getD i 0 := fun i hi => by
  subst hf
  refine ⟨by simp only [List.length_append]; omega, ?_⟩
  simp only [List.getD_eq_getElem?_getD]
  rw [List.getElem?_append_left (by simp only [List.length_append]; omega), List.getElem?_append_right (by omega)]
  simp
theorem and3 (y : Int32) : y &&& (3 : Int32) = 0 ∨ y &&& (3 : Int32) = 1 ∨ y &&& (3 : Int32) = 2 ∨ y &&& (3 : Int32) = 3 := by
  have h := c_mask y 3 2 (by decide) (by decide)
  have h3 : (y &&& 3).toInt = 0 ∨ (y &&& 3).toInt = 1 ∨ (y &&& 3).toInt = 2 ∨ (y &&& 3).toInt = 3 := by rw [h]; omega
  rcases h3 with h | h | h | h
  · exact Or.inl (Int32.toInt_inj.mp h)
  · exact Or.inr (Or.inl (Int32.toInt_inj.mp h))
  · exact Or.inr (Or.inr (Or.inl (Int32.toInt_inj.mp h)))
  · exact Or.inr (Or.inr (Or.inr (Int32.toInt_inj.mp h)))
theorem lit_ok_ : ((∀ c ∈ ("" : String).toList, c.toNat < 256) ∧ ("" : String).toList.map (fun c => Value.int (Jvm.Lit.byteI c.toNat.toUInt16)) = []) ∧ 4 * ("" : String).toList.length ≤ 0 := by decide +kernel
theorem lit_ok__26amp_3b : ((∀ c ∈ ("&amp;" : String).toList, c.toNat < 256) ∧ ("&amp;" : String).toList.map (fun c => Value.int (Jvm.Lit.byteI c.toNat.toUInt16)) = [.int (38), .int (97), .int (109), .int (112), .int (59)]) ∧ 4 * ("&amp;" : String).toList.length ≤ 20 := by decide +kernel
theorem lit_ok__26lt_3b : ((∀ c ∈ ("&lt;" : String).toList, c.toNat < 256) ∧ ("&lt;" : String).toList.map (fun c => Value.int (Jvm.Lit.byteI c.toNat.toUInt16)) = [.int (38), .int (108), .int (116), .int (59)]) ∧ 4 * ("&lt;" : String).toList.length ≤ 16 := by decide +kernel
theorem lit_ok__26gt_3b : ((∀ c ∈ ("&gt;" : String).toList, c.toNat < 256) ∧ ("&gt;" : String).toList.map (fun c => Value.int (Jvm.Lit.byteI c.toNat.toUInt16)) = [.int (38), .int (103), .int (116), .int (59)]) ∧ 4 * ("&gt;" : String).toList.length ≤ 16 := by decide +kernel
theorem lit_ok__26quot_3b : ((∀ c ∈ ("&quot;" : String).toList, c.toNat < 256) ∧ ("&quot;" : String).toList.map (fun c => Value.int (Jvm.Lit.byteI c.toNat.toUInt16)) = [.int (38), .int (113), .int (117), .int (111), .int (116), .int (59)]) ∧ 4 * ("&quot;" : String).toList.length ≤ 24 := by decide +kernel
theorem lit_ok__26_2339_3b : ((∀ c ∈ ("&#39;" : String).toList, c.toNat < 256) ∧ ("&#39;" : String).toList.map (fun c => Value.int (Jvm.Lit.byteI c.toNat.toUInt16)) = [.int (38), .int (35), .int (51), .int (57), .int (59)]) ∧ 4 * ("&#39;" : String).toList.length ≤ 20 := by decide +kernel
theorem d_jdk_42_m149_0 : decode jdk_42_method_149_code 0 = .ok (.aload_n 0, 1) := by decide +kernel
theorem d_jdk_42_m149_1 : decode jdk_42_method_149_code 1 = .ok (.invokespecial 1, 3) := by decide +kernel
theorem d_jdk_42_m149_4 : decode jdk_42_method_149_code 4 = .ok (.iload_n 3, 1) := by decide +kernel
theorem d_jdk_42_m149_5 : decode jdk_42_method_149_code 5 = .ok (.ifCond .ne 22, 3) := by decide +kernel
theorem d_jdk_42_m149_8 : decode jdk_42_method_149_code 8 = .ok (.aload_n 0, 1) := by decide +kernel
theorem d_jdk_42_m149_9 : decode jdk_42_method_149_code 9 = .ok (.ldc 7, 2) := by decide +kernel
theorem d_jdk_42_m149_11 : decode jdk_42_method_149_code 11 = .ok (.getfield 9, 3) := by decide +kernel
theorem d_jdk_42_m149_14 : decode jdk_42_method_149_code 14 = .ok (.putfield 9, 3) := by decide +kernel
theorem d_jdk_42_m149_17 : decode jdk_42_method_149_code 17 = .ok (.aload_n 0, 1) := by decide +kernel
theorem d_jdk_42_m149_18 : decode jdk_42_method_149_code 18 = .ok (.ldc 7, 2) := by decide +kernel
theorem d_jdk_42_m149_20 : decode jdk_42_method_149_code 20 = .ok (.getfield 15, 3) := by decide +kernel
theorem d_jdk_42_m149_23 : decode jdk_42_method_149_code 23 = .ok (.putfield 15, 3) := by decide +kernel
theorem d_jdk_42_m149_26 : decode jdk_42_method_149_code 26 = .ok (.return_, 1) := by decide +kernel
theorem d_jdk_42_m149_27 : decode jdk_42_method_149_code 27 = .ok (.getstatic 38, 3) := by decide +kernel
theorem d_jdk_42_m149_30 : decode jdk_42_method_149_code 30 = .ok (.ifCond .eq 28, 3) := by decide +kernel
theorem d_jdk_42_m149_33 : decode jdk_42_method_149_code 33 = .ok (.aload_n 1, 1) := by decide +kernel
theorem d_jdk_42_m149_34 : decode jdk_42_method_149_code 34 = .ok (.iload_n 2, 1) := by decide +kernel
theorem d_jdk_42_m149_35 : decode jdk_42_method_149_code 35 = .ok (.iload_n 3, 1) := by decide +kernel
theorem d_jdk_42_m149_36 : decode jdk_42_method_149_code 36 = .ok (.invokestatic 177, 3) := by decide +kernel
theorem d_jdk_42_m149_39 : decode jdk_42_method_149_code 39 = .ok (.astore 5, 2) := by decide +kernel
theorem d_jdk_42_m149_41 : decode jdk_42_method_149_code 41 = .ok (.aload_n 0, 1) := by decide +kernel
theorem d_jdk_42_m149_42 : decode jdk_42_method_149_code 42 = .ok (.aload 5, 2) := by decide +kernel
theorem d_jdk_42_m149_44 : decode jdk_42_method_149_code 44 = .ok (.iload_n 3, 1) := by decide +kernel
theorem d_jdk_42_m149_45 : decode jdk_42_method_149_code 45 = .ok (.invokestatic 47, 3) := by decide +kernel
theorem d_jdk_42_m149_48 : decode jdk_42_method_149_code 48 = .ok (.putfield 15, 3) := by decide +kernel
theorem d_jdk_42_m149_51 : decode jdk_42_method_149_code 51 = .ok (.aload_n 0, 1) := by decide +kernel
theorem d_jdk_42_m149_52 : decode jdk_42_method_149_code 52 = .ok (.aload 5, 2) := by decide +kernel
theorem d_jdk_42_m149_54 : decode jdk_42_method_149_code 54 = .ok (.putfield 9, 3) := by decide +kernel
theorem d_jdk_42_m149_57 : decode jdk_42_method_149_code 57 = .ok (.return_, 1) := by decide +kernel
theorem d_jdk_42_m149_58 : decode jdk_42_method_149_code 58 = .ok (.aload_n 0, 1) := by decide +kernel
theorem d_jdk_42_m149_59 : decode jdk_42_method_149_code 59 = .ok (.iconst 1, 1) := by decide +kernel
theorem d_jdk_42_m149_60 : decode jdk_42_method_149_code 60 = .ok (.putfield 15, 3) := by decide +kernel
theorem d_jdk_42_m149_63 : decode jdk_42_method_149_code 63 = .ok (.aload_n 0, 1) := by decide +kernel
theorem d_jdk_42_m149_64 : decode jdk_42_method_149_code 64 = .ok (.aload_n 1, 1) := by decide +kernel
theorem d_jdk_42_m149_65 : decode jdk_42_method_149_code 65 = .ok (.iload_n 2, 1) := by decide +kernel
theorem d_jdk_42_m149_66 : decode jdk_42_method_149_code 66 = .ok (.iload_n 3, 1) := by decide +kernel
theorem d_jdk_42_m149_67 : decode jdk_42_method_149_code 67 = .ok (.invokestatic 180, 3) := by decide +kernel
theorem d_jdk_42_m149_70 : decode jdk_42_method_149_code 70 = .ok (.putfield 9, 3) := by decide +kernel
theorem d_jdk_42_m149_73 : decode jdk_42_method_149_code 73 = .ok (.return_, 1) := by decide +kernel
set_option maxRecDepth 65536 in
set_option maxHeartbeats 40000000 in
theorem cEmp4 {l : Launch} {Z : State} {a0 : Array Value} (W : Wd Z a0) {EL : List (String × Nat)} {vm : Vm} {h : Heap} {a b : Addr} {v0 c0 : Value} (hm : ("java/lang/String", 7) ∈ EL) (E : Exa Z h a "java/lang/String") (F1 : Fld Z h a "java/lang/String" "value" "[B" (v0)) (F2 : Fld Z h a "java/lang/String" "coder" "B" (c0)) (Sa : Safe Z EL vm h a) (hz : Z.heap.size ≤ a) :
    Ctr false l Z a0 EL (⟨"java/lang/String", "<init>", "([CIILjava/lang/Void;)V"⟩ : MethodName) jdk_42_method_149_code 6 none ({ frames := 1, cells := 4, slots := 8, locals := 12 } : Room) #[.ref a, .ref b, .int (0 : Int32), .int (0 : Int32), .null] vm h (fun v vm' h' => v = none ∧ Keep h h' [a] ∧ Str Z h' a []) := by
  refine Ctr.of_go (L0 := #[.val (.ref a), .val (.ref b), .val (.int (0 : Int32)), .val (.int (0 : Int32)), .val (.null), .unset]) (by first | exact plainFor_of_name (by first | (simp [plainName, overriddenIn]; done) | decide +kernel) | decide +kernel) (fun m => by first | (simp [entryFrame, mkF, argsToLocals, Value.category, maxLocals]; done) | rfl) (fun p e s m below meth c vmi chi => ?_)
  refine Go.aload_n 1 d_jdk_42_m149_0 rfl rfl rfl ?_
  refine Go.initObject 0 4 d_jdk_42_m149_1 rfl (W.1 15 rfl) (W.1 16 rfl) (W.1 17 rfl) rfl (nl rfl) (nl rfl) (nl rfl) ?_
  refine Go.iload_n 5 d_jdk_42_m149_4 rfl rfl ?_
  refine Go.ifne 27 8 d_jdk_42_m149_5 (by decide) rfl rfl (fun q1 => absurd rfl q1) (fun q1 => ?_)
  refine Go.aload_n 9 d_jdk_42_m149_8 rfl rfl rfl ?_
  refine Go.ldcS (text := "") (vs := []) (z := (0 : Int32)) 0 11 d_jdk_42_m149_9 rfl rfl (W.1 241 rfl) (W.sub (by decide +kernel)) hm lit_ok_.1 (by decide) (by decide) lit_ok_.2 (by decide) (nl rfl) (nl rfl) (fun y1 b2 k2 vm2 h2 E2 A2 C2 V2 B2 N2 c2 => ?_)
  have T2 : Str Z h2 y1 [] := ⟨b2, k2, A2, C2, V2, B2, by decide, by decide⟩
  refine Go.getfield 14 d_jdk_42_m149_11 rfl (W.1 32 rfl) V2 ?_
  have f3 := F1.ext E2
  have f4 := E.ext E2
  have f5 := CHr.safe (CHr.trans chi c2) E.lt Sa
  have L5 := Nat.lt_of_lt_of_le E.lt (CHr.trans chi c2).2.1
  refine Go.putfield 17 d_jdk_42_m149_14 rfl (W.1 32 rfl) f3 f4 (Or.inr ⟨(W.1 33 rfl), rfl, rfl⟩) (W.1 5 rfl) (ty := (.array .byte)) (by decide) rfl rfl f5 hz (fun h6 X6 S6 c6 => ?_)
  have Ea := f4.wr X6
  have G1 := f3.same X6
  have F2a := (F2.ext E2).other X6 (Or.inr (slot_ne (a0 := a0) (C := "java/lang/String") (Or.inr (W.1 31 rfl)) (Or.inr (W.1 33 rfl)) (by decide) (t := .byte) (t' := (.array .byte)) (by decide) (by decide)))
  have K1 := Arv.other B2 X6 (Ne.symm (N2 _ f5).2)
  have ba := (N2 _ f5).2
  refine Go.aload_n 18 d_jdk_42_m149_17 rfl rfl rfl ?_
  refine Go.ldcS (text := "") (vs := []) (z := (0 : Int32)) 0 20 d_jdk_42_m149_18 rfl rfl (W.1 241 rfl) (W.sub (by decide +kernel)) hm lit_ok_.1 (by decide) (by decide) lit_ok_.2 (by decide) (nl rfl) (nl rfl) (fun y2 b7 k7 vm7 h7 E7 A7 C7 V7 B7 N7 c7 => ?_)
  have T7 : Str Z h7 y2 [] := ⟨b7, k7, A7, C7, V7, B7, by decide, by decide⟩
  refine Go.getfield 23 d_jdk_42_m149_20 rfl (W.1 30 rfl) C7 ?_
  have f8 := CHr.safe c7 Ea.lt S6
  have L8 := Nat.lt_of_lt_of_le Ea.lt c7.2.1
  refine Go.putfield 26 d_jdk_42_m149_23 rfl (W.1 30 rfl) (F2a.ext E7) (Ea.ext E7) (Or.inr ⟨(W.1 31 rfl), rfl, rfl⟩) (W.1 5 rfl) (ty := .byte) (by decide) rfl rfl f8 hz (fun h9 X9 S9 c9 => ?_)
  exact Go.return_ d_jdk_42_m149_26 rfl (nl rfl) (nl rfl) (fun vm' ch => ⟨rfl, (((Keep.ofExt E2 [a]).wr X6 (Or.inl (by simp))).ext E7).wr X9 (Or.inl (by simp)), ⟨_, _, (Ea.ext E7).wr X9, (F2a.ext E7).same X9, (G1.ext E7).other X9 (Or.inr (slot_ne (a0 := a0) (C := "java/lang/String") (Or.inr (W.1 33 rfl)) (Or.inr (W.1 31 rfl)) (by decide) (t := (.array .byte)) (t' := .byte) (by decide) (by decide))), Arv.other (K1.ext E7) X9 (Ne.symm ba), by decide, fun _ q => nomatch q⟩⟩)
theorem d_jdk_42_m3_0 : decode jdk_42_method_3_code 0 = .ok (.aload_n 0, 1) := by decide +kernel
theorem d_jdk_42_m3_1 : decode jdk_42_method_3_code 1 = .ok (.aload_n 1, 1) := by decide +kernel
theorem d_jdk_42_m3_2 : decode jdk_42_method_3_code 2 = .ok (.iconst 0, 1) := by decide +kernel
theorem d_jdk_42_m3_3 : decode jdk_42_method_3_code 3 = .ok (.aload_n 1, 1) := by decide +kernel
theorem d_jdk_42_m3_4 : decode jdk_42_method_3_code 4 = .ok (.arraylength, 1) := by decide +kernel
theorem d_jdk_42_m3_5 : decode jdk_42_method_3_code 5 = .ok (.aconst_null, 1) := by decide +kernel
theorem d_jdk_42_m3_6 : decode jdk_42_method_3_code 6 = .ok (.invokespecial 27, 3) := by decide +kernel
theorem d_jdk_42_m3_9 : decode jdk_42_method_3_code 9 = .ok (.return_, 1) := by decide +kernel
set_option maxRecDepth 65536 in
set_option maxHeartbeats 40000000 in
theorem cEmp1 {l : Launch} {Z : State} {a0 : Array Value} (W : Wd Z a0) {EL : List (String × Nat)} {vm : Vm} {h : Heap} {a b : Addr} {v0 c0 dv : Value} {kC : ClassId} {vs : List Value} (hm : ("java/lang/String", 7) ∈ EL) (E : Exa Z h a "java/lang/String") (F1 : Fld Z h a "java/lang/String" "value" "[B" (v0)) (F2 : Fld Z h a "java/lang/String" "coder" "B" (c0)) (A : Arv Z h b kC .char (0 : Int32) vs dv) (Sa : Safe Z EL vm h a) (hz : Z.heap.size ≤ a) :
    Ctr false l Z a0 EL (⟨"java/lang/String", "<init>", "([C)V"⟩ : MethodName) jdk_42_method_3_code 2 none ({ frames := 2, cells := 4, slots := 8, locals := 29 } : Room) #[.ref a, .ref b] vm h (fun v vm' h' => v = none ∧ Keep h h' [a] ∧ Str Z h' a []) := by
  refine Ctr.of_go (L0 := #[.val (.ref a), .val (.ref b)]) (by first | exact plainFor_of_name (by first | (simp [plainName, overriddenIn]; done) | decide +kernel) | decide +kernel) (fun m => by first | (simp [entryFrame, mkF, argsToLocals, Value.category, maxLocals]; done) | rfl) (fun p e s m below meth c vmi chi => ?_)
  refine Go.aload_n 1 d_jdk_42_m3_0 rfl rfl rfl ?_
  refine Go.aload_n 2 d_jdk_42_m3_1 rfl rfl rfl ?_
  refine Go.iconst (0) 3 d_jdk_42_m3_2 rfl rfl ?_
  refine Go.aload_n 4 d_jdk_42_m3_3 rfl rfl rfl ?_
  refine Go.arraylength 5 d_jdk_42_m3_4 rfl A ?_
  refine Go.aconst_null 6 d_jdk_42_m3_5 rfl ?_
  refine Go.invokespecial (rest := []) 0 a [.ref b, .int (0 : Int32), .int (0 : Int32), .null] 9 d_jdk_42_m3_6 rfl rfl (W.1 11 rfl) (W.1 12 rfl) (W.1 6 rfl) (W.1 14 rfl) (by decide) (cEmp4 W hm E F1 F2 (chi.safe E.lt Sa) hz) (by decide +kernel : parseMethodDescriptor "([CIILjava/lang/Void;)V" = some ⟨[(.array .char), .int, .int, (.object "java/lang/Void")], none⟩) rfl rfl rfl (nl rfl) (nl rfl) (nl rfl) (nl rfl) (nl rfl) (fun v1 vm1 h1 ⟨rv, K, T⟩ c1 => ?_)
  subst rv
  exact Go.return_ d_jdk_42_m3_9 rfl (nl rfl) (nl rfl) (fun vm' ch => ⟨rfl, K, T⟩)
theorem d_jdk_42_m152_0 : decode jdk_42_method_152_code 0 = .ok (.getstatic 38, 3) := by decide +kernel
theorem d_jdk_42_m152_3 : decode jdk_42_method_152_code 3 = .ok (.ifCond .eq 10, 3) := by decide +kernel
theorem d_jdk_42_m152_6 : decode jdk_42_method_152_code 6 = .ok (.aload_n 0, 1) := by decide +kernel
theorem d_jdk_42_m152_7 : decode jdk_42_method_152_code 7 = .ok (.getfield 15, 3) := by decide +kernel
theorem d_jdk_42_m152_10 : decode jdk_42_method_152_code 10 = .ok (.goto 4, 3) := by decide +kernel
theorem d_jdk_42_m152_13 : decode jdk_42_method_152_code 13 = .ok (.iconst 1, 1) := by decide +kernel
theorem d_jdk_42_m152_14 : decode jdk_42_method_152_code 14 = .ok (.ireturn, 1) := by decide +kernel
set_option maxRecDepth 65536 in
set_option maxHeartbeats 40000000 in
theorem cCod0 {l : Launch} {Z : State} {a0 : Array Value} (W : Wd Z a0) {EL : List (String × Nat)} {vm : Vm} {h : Heap} {a : Addr} {cs : List Int32} (T0 : Str Z h a cs) :
    Ctr false l Z a0 EL (⟨"java/lang/String", "coder", "()B"⟩ : MethodName) jdk_42_method_152_code 1 (some .byte) ({ frames := 0, cells := 0, slots := 0, locals := 0 } : Room) #[.ref a] vm h (fun v vm' h' => v = some (.int 0) ∧ h' = h) := by
  refine Ctr.of_go (L0 := #[.val (.ref a)]) (by first | exact plainFor_of_name (by first | (simp [plainName, overriddenIn]; done) | decide +kernel) | decide +kernel) (fun m => by first | (simp [entryFrame, mkF, argsToLocals, Value.category, maxLocals]; done) | rfl) (fun p e s m below meth c vmi chi => ?_)
  obtain ⟨b_, kb_, t1, t2, t3, t4, t5, t6⟩ := T0
  refine Go.know fun hE1 _ _ => ?_
  obtain ⟨zc1, Cz1, hc1⟩ := W.2.1
  refine Go.getstatic 3 d_jdk_42_m152_0 rfl (W.1 18 rfl) (Cz1.ext hE1) ?_
  refine Go.ifeq 13 6 d_jdk_42_m152_3 (by decide) rfl rfl (fun q1 => absurd q1 hc1) (fun q1 => ?_)
  refine Go.aload_n 7 d_jdk_42_m152_6 rfl rfl rfl ?_
  refine Go.getfield 10 d_jdk_42_m152_7 rfl (W.1 30 rfl) t2 ?_
  refine Go.goto 14 d_jdk_42_m152_10 (by decide) rfl ?_
  exact Go.ireturn d_jdk_42_m152_14 rfl rfl (by simp) (nl rfl) (nl rfl) (fun vm' ch => ⟨rfl, rfl⟩)
theorem d_jdk_42_m154_0 : decode jdk_42_method_154_code 0 = .ok (.getstatic 38, 3) := by decide +kernel
theorem d_jdk_42_m154_3 : decode jdk_42_method_154_code 3 = .ok (.ifCond .eq 14, 3) := by decide +kernel
theorem d_jdk_42_m154_6 : decode jdk_42_method_154_code 6 = .ok (.aload_n 0, 1) := by decide +kernel
theorem d_jdk_42_m154_7 : decode jdk_42_method_154_code 7 = .ok (.getfield 15, 3) := by decide +kernel
theorem d_jdk_42_m154_10 : decode jdk_42_method_154_code 10 = .ok (.ifCond .ne 7, 3) := by decide +kernel
theorem d_jdk_42_m154_13 : decode jdk_42_method_154_code 13 = .ok (.iconst 1, 1) := by decide +kernel
theorem d_jdk_42_m154_14 : decode jdk_42_method_154_code 14 = .ok (.goto 4, 3) := by decide +kernel
theorem d_jdk_42_m154_17 : decode jdk_42_method_154_code 17 = .ok (.iconst 0, 1) := by decide +kernel
theorem d_jdk_42_m154_18 : decode jdk_42_method_154_code 18 = .ok (.ireturn, 1) := by decide +kernel
set_option maxRecDepth 65536 in
set_option maxHeartbeats 40000000 in
theorem cIsLs0 {l : Launch} {Z : State} {a0 : Array Value} (W : Wd Z a0) {EL : List (String × Nat)} {vm : Vm} {h : Heap} {a : Addr} {cs : List Int32} (T0 : Str Z h a cs) :
    Ctr false l Z a0 EL (⟨"java/lang/String", "isLatin1", "()Z"⟩ : MethodName) jdk_42_method_154_code 1 (some .boolean) ({ frames := 0, cells := 0, slots := 0, locals := 0 } : Room) #[.ref a] vm h (fun v vm' h' => v = some (.int 1) ∧ h' = h) := by
  refine Ctr.of_go (L0 := #[.val (.ref a)]) (by first | exact plainFor_of_name (by first | (simp [plainName, overriddenIn]; done) | decide +kernel) | decide +kernel) (fun m => by first | (simp [entryFrame, mkF, argsToLocals, Value.category, maxLocals]; done) | rfl) (fun p e s m below meth c vmi chi => ?_)
  obtain ⟨b_, kb_, t1, t2, t3, t4, t5, t6⟩ := T0
  refine Go.know fun hE1 _ _ => ?_
  obtain ⟨zc1, Cz1, hc1⟩ := W.2.1
  refine Go.getstatic 3 d_jdk_42_m154_0 rfl (W.1 18 rfl) (Cz1.ext hE1) ?_
  refine Go.ifeq 17 6 d_jdk_42_m154_3 (by decide) rfl rfl (fun q1 => absurd q1 hc1) (fun q1 => ?_)
  refine Go.aload_n 7 d_jdk_42_m154_6 rfl rfl rfl ?_
  refine Go.getfield 10 d_jdk_42_m154_7 rfl (W.1 30 rfl) t2 ?_
  refine Go.ifne 17 13 d_jdk_42_m154_10 (by decide) rfl rfl (fun q2 => absurd rfl q2) (fun q2 => ?_)
  refine Go.iconst (1) 14 d_jdk_42_m154_13 rfl rfl ?_
  refine Go.goto 18 d_jdk_42_m154_14 (by decide) rfl ?_
  exact Go.ireturn d_jdk_42_m154_18 rfl rfl (by simp) (nl rfl) (nl rfl) (fun vm' ch => ⟨rfl, rfl⟩)
set_option maxRecDepth 65536 in
set_option maxHeartbeats 40000000 in
theorem cCod1 {l : Launch} {Z : State} {a0 : Array Value} (W : Wd Z a0) {EL : List (String × Nat)} {vm : Vm} {h : Heap} {a : Addr} {cs : List Int32} (T0 : Str2 Z h a cs) :
    Ctr false l Z a0 EL (⟨"java/lang/String", "coder", "()B"⟩ : MethodName) jdk_42_method_152_code 1 (some .byte) ({ frames := 0, cells := 0, slots := 0, locals := 0 } : Room) #[.ref a] vm h (fun v vm' h' => v = some (.int 1) ∧ h' = h) := by
  refine Ctr.of_go (L0 := #[.val (.ref a)]) (by first | exact plainFor_of_name (by first | (simp [plainName, overriddenIn]; done) | decide +kernel) | decide +kernel) (fun m => by first | (simp [entryFrame, mkF, argsToLocals, Value.category, maxLocals]; done) | rfl) (fun p e s m below meth c vmi chi => ?_)
  obtain ⟨b_, kb_, t1, t2, t3, t4, t5, t6⟩ := T0
  refine Go.know fun hE1 _ _ => ?_
  obtain ⟨zc1, Cz1, hc1⟩ := W.2.1
  refine Go.getstatic 3 d_jdk_42_m152_0 rfl (W.1 18 rfl) (Cz1.ext hE1) ?_
  refine Go.ifeq 13 6 d_jdk_42_m152_3 (by decide) rfl rfl (fun q1 => absurd q1 hc1) (fun q1 => ?_)
  refine Go.aload_n 7 d_jdk_42_m152_6 rfl rfl rfl ?_
  refine Go.getfield 10 d_jdk_42_m152_7 rfl (W.1 30 rfl) t2 ?_
  refine Go.goto 14 d_jdk_42_m152_10 (by decide) rfl ?_
  exact Go.ireturn d_jdk_42_m152_14 rfl rfl (by simp) (nl rfl) (nl rfl) (fun vm' ch => ⟨rfl, rfl⟩)
set_option maxRecDepth 65536 in
set_option maxHeartbeats 40000000 in
theorem cIsLs1 {l : Launch} {Z : State} {a0 : Array Value} (W : Wd Z a0) {EL : List (String × Nat)} {vm : Vm} {h : Heap} {a : Addr} {cs : List Int32} (T0 : Str2 Z h a cs) :
    Ctr false l Z a0 EL (⟨"java/lang/String", "isLatin1", "()Z"⟩ : MethodName) jdk_42_method_154_code 1 (some .boolean) ({ frames := 0, cells := 0, slots := 0, locals := 0 } : Room) #[.ref a] vm h (fun v vm' h' => v = some (.int 0) ∧ h' = h) := by
  refine Ctr.of_go (L0 := #[.val (.ref a)]) (by first | exact plainFor_of_name (by first | (simp [plainName, overriddenIn]; done) | decide +kernel) | decide +kernel) (fun m => by first | (simp [entryFrame, mkF, argsToLocals, Value.category, maxLocals]; done) | rfl) (fun p e s m below meth c vmi chi => ?_)
  obtain ⟨b_, kb_, t1, t2, t3, t4, t5, t6⟩ := T0
  refine Go.know fun hE1 _ _ => ?_
  obtain ⟨zc1, Cz1, hc1⟩ := W.2.1
  refine Go.getstatic 3 d_jdk_42_m154_0 rfl (W.1 18 rfl) (Cz1.ext hE1) ?_
  refine Go.ifeq 17 6 d_jdk_42_m154_3 (by decide) rfl rfl (fun q1 => absurd q1 hc1) (fun q1 => ?_)
  refine Go.aload_n 7 d_jdk_42_m154_6 rfl rfl rfl ?_
  refine Go.getfield 10 d_jdk_42_m154_7 rfl (W.1 30 rfl) t2 ?_
  refine Go.ifne 17 13 d_jdk_42_m154_10 (by decide) rfl rfl (fun q2 => ?_) (fun q2 => absurd q2 (by decide))
  refine Go.iconst (0) 18 d_jdk_42_m154_17 rfl rfl ?_
  exact Go.ireturn d_jdk_42_m154_18 rfl rfl (by simp) (nl rfl) (nl rfl) (fun vm' ch => ⟨rfl, rfl⟩)
theorem d_jdk_42_m54_0 : decode jdk_42_method_54_code 0 = .ok (.aload_n 0, 1) := by decide +kernel
theorem d_jdk_42_m54_1 : decode jdk_42_method_54_code 1 = .ok (.getfield 9, 3) := by decide +kernel
theorem d_jdk_42_m54_4 : decode jdk_42_method_54_code 4 = .ok (.arraylength, 1) := by decide +kernel
theorem d_jdk_42_m54_5 : decode jdk_42_method_54_code 5 = .ok (.aload_n 0, 1) := by decide +kernel
theorem d_jdk_42_m54_6 : decode jdk_42_method_54_code 6 = .ok (.invokevirtual 335, 3) := by decide +kernel
theorem d_jdk_42_m54_9 : decode jdk_42_method_54_code 9 = .ok (.ishr, 1) := by decide +kernel
theorem d_jdk_42_m54_10 : decode jdk_42_method_54_code 10 = .ok (.ireturn, 1) := by decide +kernel
set_option maxRecDepth 65536 in
set_option maxHeartbeats 40000000 in
theorem cSLen {l : Launch} {Z : State} {a0 : Array Value} (W : Wd Z a0) {EL : List (String × Nat)} {vm : Vm} {h : Heap} {a : Addr} {cs : List Int32} (T : StrU Z h a cs) :
    Ctr false l Z a0 EL (⟨"java/lang/String", "length", "()I"⟩ : MethodName) jdk_42_method_54_code 1 (some .int) ({ frames := 1, cells := 0, slots := 0, locals := 13 } : Room) #[.ref a] vm h (fun v vm' h' => v = some (.int (Int32.ofNat cs.length)) ∧ h' = h) := by
  refine Ctr.of_go (L0 := #[.val (.ref a)]) (by first | exact plainFor_of_name (by first | (simp [plainName, overriddenIn]; done) | decide +kernel) | decide +kernel) (fun m => by first | (simp [entryFrame, mkF, argsToLocals, Value.category, maxLocals]; done) | rfl) (fun p e s m below meth c vmi chi => ?_)
  rcases T with T | T
  · have T0 := T
    obtain ⟨b_, kb_, t1, t2, t3, t4, t5, t6⟩ := T0
    refine Go.aload_n 1 d_jdk_42_m54_0 rfl rfl rfl ?_
    refine Go.getfield 4 d_jdk_42_m54_1 rfl (W.1 32 rfl) t3 ?_
    refine Go.arraylength 5 d_jdk_42_m54_4 rfl t4 ?_
    refine Go.aload_n 6 d_jdk_42_m54_5 rfl rfl rfl ?_
    refine Go.invokevirtual (rest := [.int (Int32.ofNat cs.length)]) 1 a [] 9 d_jdk_42_m54_6 rfl t1 (W.1 46 rfl) (W.1 47 rfl) (fun s hs => notFace_of_selects (args := #[]) (mvT hs (W.1 49 rfl))) (W.1 49 rfl) (W.1 48 rfl) (W.1 6 rfl) (W.1 50 rfl) (by decide) (cCod0 W T) (by decide +kernel : parseMethodDescriptor "()B" = some ⟨[], (some .byte)⟩) rfl rfl rfl (nl rfl) (nl rfl) (nl rfl) (nl rfl) (nl rfl) (fun v1 vm1 h1 ⟨rv, hh⟩ c1 => ?_)
    subst rv; replace hh := hh.symm; subst hh
    refine Go.ishr (Int32.ofNat cs.length) 10 d_jdk_42_m54_9 rfl (shrN0 _) ?_
    exact Go.ireturn d_jdk_42_m54_10 rfl rfl (by simp) (nl rfl) (nl rfl) (fun vm' ch => ⟨rfl, rfl⟩)
  · have T0 := T
    obtain ⟨b_, kb_, t1, t2, t3, t4, t5, t6⟩ := T0
    refine Go.aload_n 1 d_jdk_42_m54_0 rfl rfl rfl ?_
    refine Go.getfield 4 d_jdk_42_m54_1 rfl (W.1 32 rfl) t3 ?_
    refine Go.arraylength 5 d_jdk_42_m54_4 rfl t4 ?_
    refine Go.aload_n 6 d_jdk_42_m54_5 rfl rfl rfl ?_
    refine Go.invokevirtual (rest := [.int (Int32.ofNat (2 * cs.length))]) 1 a [] 9 d_jdk_42_m54_6 rfl t1 (W.1 46 rfl) (W.1 47 rfl) (fun s hs => notFace_of_selects (args := #[]) (mvT hs (W.1 49 rfl))) (W.1 49 rfl) (W.1 48 rfl) (W.1 6 rfl) (W.1 50 rfl) (by decide) (cCod1 W T) (by decide +kernel : parseMethodDescriptor "()B" = some ⟨[], (some .byte)⟩) rfl rfl rfl (nl rfl) (nl rfl) (nl rfl) (nl rfl) (nl rfl) (fun v2 vm2 h2 ⟨rv, hh⟩ c2 => ?_)
    subst rv; replace hh := hh.symm; subst hh
    refine Go.ishr (Int32.ofNat cs.length) 10 d_jdk_42_m54_9 rfl (shr1N (by omega)) ?_
    exact Go.ireturn d_jdk_42_m54_10 rfl rfl (by simp) (nl rfl) (nl rfl) (fun vm' ch => ⟨rfl, rfl⟩)
theorem d_jdk_41_m11_0 : decode jdk_41_method_11_code 0 = .ok (.iload_n 0, 1) := by decide +kernel
theorem d_jdk_41_m11_1 : decode jdk_41_method_11_code 1 = .ok (.ifCond .lt 8, 3) := by decide +kernel
theorem d_jdk_41_m11_4 : decode jdk_41_method_11_code 4 = .ok (.iload_n 0, 1) := by decide +kernel
theorem d_jdk_41_m11_5 : decode jdk_41_method_11_code 5 = .ok (.iload_n 1, 1) := by decide +kernel
theorem d_jdk_41_m11_6 : decode jdk_41_method_11_code 6 = .ok (.if_icmp .lt 10, 3) := by decide +kernel
theorem d_jdk_41_m11_9 : decode jdk_41_method_11_code 9 = .ok (.aload_n 2, 1) := by decide +kernel
theorem d_jdk_41_m11_10 : decode jdk_41_method_11_code 10 = .ok (.iload_n 0, 1) := by decide +kernel
theorem d_jdk_41_m11_11 : decode jdk_41_method_11_code 11 = .ok (.iload_n 1, 1) := by decide +kernel
theorem d_jdk_41_m11_12 : decode jdk_41_method_11_code 12 = .ok (.invokestatic 95, 3) := by decide +kernel
theorem d_jdk_41_m11_15 : decode jdk_41_method_11_code 15 = .ok (.athrow, 1) := by decide +kernel
theorem d_jdk_41_m11_16 : decode jdk_41_method_11_code 16 = .ok (.iload_n 0, 1) := by decide +kernel
theorem d_jdk_41_m11_17 : decode jdk_41_method_11_code 17 = .ok (.ireturn, 1) := by decide +kernel
set_option maxRecDepth 65536 in
set_option maxHeartbeats 40000000 in
theorem cPciN {l : Launch} {Z : State} {a0 : Array Value} (W : Wd Z a0) {EL : List (String × Nat)} {vm : Vm} {h : Heap} {x_ y_ : Int32} (h1 : ¬ x_ < 0) (h2 : x_ < y_) :
    Ctr false l Z a0 EL (⟨"jdk/internal/util/Preconditions", "checkIndex", "(IILjava/util/function/BiFunction;)I"⟩ : MethodName) jdk_41_method_11_code 3 (some .int) ({ frames := 0, cells := 0, slots := 0, locals := 0 } : Room) #[.int x_, .int y_, .null] vm h (fun v vm' h' => v = some (.int x_) ∧ h' = h) := by
  refine Ctr.of_go (L0 := #[.val (.int x_), .val (.int y_), .val (.null)]) (by first | exact plainFor_of_name (by first | (simp [plainName, overriddenIn]; done) | decide +kernel) | decide +kernel) (fun m => by first | (simp [entryFrame, mkF, argsToLocals, Value.category, maxLocals]; done) | rfl) (fun p e s m below meth c vmi chi => ?_)
  refine Go.iload_n 1 d_jdk_41_m11_0 rfl rfl ?_
  refine Go.iflt 9 4 d_jdk_41_m11_1 (by decide) rfl rfl (fun q1 => absurd q1 h1) (fun q1 => ?_)
  refine Go.iload_n 5 d_jdk_41_m11_4 rfl rfl ?_
  refine Go.iload_n 6 d_jdk_41_m11_5 rfl rfl ?_
  refine Go.if_icmplt 16 9 d_jdk_41_m11_6 (by decide) rfl rfl (fun q2 => ?_) (fun q2 => absurd h2 q2)
  refine Go.iload_n 17 d_jdk_41_m11_16 rfl rfl ?_
  exact Go.ireturn d_jdk_41_m11_17 rfl rfl (by simp) (nl rfl) (nl rfl) (fun vm' ch => ⟨rfl, rfl⟩)
set_option maxRecDepth 65536 in
set_option maxHeartbeats 40000000 in
theorem cPciR {l : Launch} {Z : State} {a0 : Array Value} (W : Wd Z a0) {EL : List (String × Nat)} {vm : Vm} {h : Heap} {x_ y_ : Int32} {f_ : Addr} (h1 : ¬ x_ < 0) (h2 : x_ < y_) :
    Ctr false l Z a0 EL (⟨"jdk/internal/util/Preconditions", "checkIndex", "(IILjava/util/function/BiFunction;)I"⟩ : MethodName) jdk_41_method_11_code 3 (some .int) ({ frames := 0, cells := 0, slots := 0, locals := 0 } : Room) #[.int x_, .int y_, .ref f_] vm h (fun v vm' h' => v = some (.int x_) ∧ h' = h) := by
  refine Ctr.of_go (L0 := #[.val (.int x_), .val (.int y_), .val (.ref f_)]) (by first | exact plainFor_of_name (by first | (simp [plainName, overriddenIn]; done) | decide +kernel) | decide +kernel) (fun m => by first | (simp [entryFrame, mkF, argsToLocals, Value.category, maxLocals]; done) | rfl) (fun p e s m below meth c vmi chi => ?_)
  refine Go.iload_n 1 d_jdk_41_m11_0 rfl rfl ?_
  refine Go.iflt 9 4 d_jdk_41_m11_1 (by decide) rfl rfl (fun q1 => absurd q1 h1) (fun q1 => ?_)
  refine Go.iload_n 5 d_jdk_41_m11_4 rfl rfl ?_
  refine Go.iload_n 6 d_jdk_41_m11_5 rfl rfl ?_
  refine Go.if_icmplt 16 9 d_jdk_41_m11_6 (by decide) rfl rfl (fun q2 => ?_) (fun q2 => absurd h2 q2)
  refine Go.iload_n 17 d_jdk_41_m11_16 rfl rfl ?_
  exact Go.ireturn d_jdk_41_m11_17 rfl rfl (by simp) (nl rfl) (nl rfl) (fun vm' ch => ⟨rfl, rfl⟩)
theorem d_jdk_42_m155_0 : decode jdk_42_method_155_code 0 = .ok (.iload_n 0, 1) := by decide +kernel
theorem d_jdk_42_m155_1 : decode jdk_42_method_155_code 1 = .ok (.iload_n 1, 1) := by decide +kernel
theorem d_jdk_42_m155_2 : decode jdk_42_method_155_code 2 = .ok (.getstatic 1053, 3) := by decide +kernel
theorem d_jdk_42_m155_5 : decode jdk_42_method_155_code 5 = .ok (.invokestatic 1059, 3) := by decide +kernel
theorem d_jdk_42_m155_8 : decode jdk_42_method_155_code 8 = .ok (.pop, 1) := by decide +kernel
theorem d_jdk_42_m155_9 : decode jdk_42_method_155_code 9 = .ok (.return_, 1) := by decide +kernel
set_option maxRecDepth 65536 in
set_option maxHeartbeats 40000000 in
theorem cCi {l : Launch} {Z : State} {a0 : Array Value} (W : Wd Z a0) {EL : List (String × Nat)} {vm : Vm} {h : Heap} {x_ y_ : Int32} (h1 : ¬ x_ < 0) (h2 : x_ < y_) :
    Ctr false l Z a0 EL (⟨"java/lang/String", "checkIndex", "(II)V"⟩ : MethodName) jdk_42_method_155_code 2 none ({ frames := 1, cells := 0, slots := 0, locals := 14 } : Room) #[.int x_, .int y_] vm h (fun v vm' h' => v = none ∧ h' = h) := by
  refine Ctr.of_go (L0 := #[.val (.int x_), .val (.int y_)]) (by first | exact plainFor_of_name (by first | (simp [plainName, overriddenIn]; done) | decide +kernel) | decide +kernel) (fun m => by first | (simp [entryFrame, mkF, argsToLocals, Value.category, maxLocals]; done) | rfl) (fun p e s m below meth c vmi chi => ?_)
  obtain ⟨fm, Fz, hr0⟩ := W.2.2
  rcases ref_cases hr0 with rfl | ⟨f_, rfl⟩
  · refine Go.iload_n 1 d_jdk_42_m155_0 rfl rfl ?_
    refine Go.iload_n 2 d_jdk_42_m155_1 rfl rfl ?_
    refine Go.know fun hE1 _ _ => ?_
    refine Go.getstatic 5 d_jdk_42_m155_2 rfl (W.1 83 rfl) (Fz.ext hE1) ?_
    refine Go.invokestatic (rest := []) 0 [.int x_, .int y_, .null] 8 d_jdk_42_m155_5 rfl (W.1 85 rfl) (W.1 86 rfl) (W.1 84 rfl) (W.1 87 rfl) (by decide) (cPciN W h1 h2) (by decide +kernel : parseMethodDescriptor "(IILjava/util/function/BiFunction;)I" = some ⟨[.int, .int, (.object "java/util/function/BiFunction")], (some .int)⟩) rfl rfl rfl (nl rfl) (nl rfl) (nl rfl) (nl rfl) (nl rfl) (fun v2 vm2 h2 ⟨rv, hh⟩ c2 => ?_)
    subst rv; replace hh := hh.symm; subst hh
    refine Go.pop 9 d_jdk_42_m155_8 rfl rfl ?_
    exact Go.return_ d_jdk_42_m155_9 rfl (nl rfl) (nl rfl) (fun vm' ch => ⟨rfl, rfl⟩)
  · refine Go.iload_n 1 d_jdk_42_m155_0 rfl rfl ?_
    refine Go.iload_n 2 d_jdk_42_m155_1 rfl rfl ?_
    refine Go.know fun hE3 _ _ => ?_
    refine Go.getstatic 5 d_jdk_42_m155_2 rfl (W.1 83 rfl) (Fz.ext hE3) ?_
    refine Go.invokestatic (rest := []) 0 [.int x_, .int y_, .ref f_] 8 d_jdk_42_m155_5 rfl (W.1 85 rfl) (W.1 86 rfl) (W.1 84 rfl) (W.1 87 rfl) (by decide) (cPciR W h1 h2) (by decide +kernel : parseMethodDescriptor "(IILjava/util/function/BiFunction;)I" = some ⟨[.int, .int, (.object "java/util/function/BiFunction")], (some .int)⟩) rfl rfl rfl (nl rfl) (nl rfl) (nl rfl) (nl rfl) (nl rfl) (fun v4 vm4 h4 ⟨rv, hh⟩ c4 => ?_)
    subst rv; replace hh := hh.symm; subst hh
    refine Go.pop 9 d_jdk_42_m155_8 rfl rfl ?_
    exact Go.return_ d_jdk_42_m155_9 rfl (nl rfl) (nl rfl) (fun vm' ch => ⟨rfl, rfl⟩)
theorem d_jdk_43_m2_0 : decode jdk_43_method_2_code 0 = .ok (.iload_n 1, 1) := by decide +kernel
theorem d_jdk_43_m2_1 : decode jdk_43_method_2_code 1 = .ok (.aload_n 0, 1) := by decide +kernel
theorem d_jdk_43_m2_2 : decode jdk_43_method_2_code 2 = .ok (.arraylength, 1) := by decide +kernel
theorem d_jdk_43_m2_3 : decode jdk_43_method_2_code 3 = .ok (.invokestatic 9, 3) := by decide +kernel
theorem d_jdk_43_m2_6 : decode jdk_43_method_2_code 6 = .ok (.aload_n 0, 1) := by decide +kernel
theorem d_jdk_43_m2_7 : decode jdk_43_method_2_code 7 = .ok (.iload_n 1, 1) := by decide +kernel
theorem d_jdk_43_m2_8 : decode jdk_43_method_2_code 8 = .ok (.baload, 1) := by decide +kernel
theorem d_jdk_43_m2_9 : decode jdk_43_method_2_code 9 = .ok (.sipush 255, 3) := by decide +kernel
theorem d_jdk_43_m2_12 : decode jdk_43_method_2_code 12 = .ok (.iand, 1) := by decide +kernel
theorem d_jdk_43_m2_13 : decode jdk_43_method_2_code 13 = .ok (.i2c, 1) := by decide +kernel
theorem d_jdk_43_m2_14 : decode jdk_43_method_2_code 14 = .ok (.ireturn, 1) := by decide +kernel
set_option maxRecDepth 65536 in
set_option maxHeartbeats 40000000 in
theorem cL1at {l : Launch} {Z : State} {a0 : Array Value} (W : Wd Z a0) {EL : List (String × Nat)} {vm : Vm} {h : Heap} {d : Addr} {kd : ClassId} {i_ : Nat} {cs : List Int32} (A : Arv Z h d kd .byte (Int32.ofNat cs.length) ((cs.map fun (c : Int32) => c.toInt8.toInt32).map Value.int) (.int 0)) (hi : i_ < cs.length) (hl : cs.length ≤ 4000) (hb : ∀ c ∈ cs, ¬ c < 0 ∧ ¬ (255 : Int32) < c) :
    Ctr false l Z a0 EL (⟨"java/lang/StringLatin1", "charAt", "([BI)C"⟩ : MethodName) jdk_43_method_2_code 2 (some .char) ({ frames := 2, cells := 0, slots := 0, locals := 27 } : Room) #[.ref d, .int (Int32.ofNat i_)] vm h (fun v vm' h' => v = some (.int (cs.getD i_ 0)) ∧ h' = h) := by
  refine Ctr.of_go (L0 := #[.val (.ref d), .val (.int (Int32.ofNat i_))]) (by first | exact plainFor_of_name (by first | (simp [plainName, overriddenIn]; done) | decide +kernel) | decide +kernel) (fun m => by first | (simp [entryFrame, mkF, argsToLocals, Value.category, maxLocals]; done) | rfl) (fun p e s m below meth c vmi chi => ?_)
  refine Go.iload_n 1 d_jdk_43_m2_0 rfl rfl ?_
  refine Go.aload_n 2 d_jdk_43_m2_1 rfl rfl rfl ?_
  refine Go.arraylength 3 d_jdk_43_m2_2 rfl A ?_
  refine Go.invokestatic (rest := []) 0 [.int (Int32.ofNat i_), .int (Int32.ofNat cs.length)] 6 d_jdk_43_m2_3 rfl (W.1 80 rfl) (W.1 81 rfl) (W.1 6 rfl) (W.1 82 rfl) (by decide) (cCi W (nneg (by omega)) ((ofNat_lt (by omega) (by omega)).mpr hi)) (by decide +kernel : parseMethodDescriptor "(II)V" = some ⟨[.int, .int], none⟩) rfl rfl rfl (nl rfl) (nl rfl) (nl rfl) (nl rfl) (nl rfl) (fun v1 vm1 h1 ⟨rv, hh⟩ c1 => ?_)
  subst rv; replace hh := hh.symm; subst hh
  refine Go.aload_n 7 d_jdk_43_m2_6 rfl rfl rfl ?_
  refine Go.iload_n 8 d_jdk_43_m2_7 rfl rfl ?_
  refine Go.baload (.int (loB (cs.getD i_ 0))) 9 d_jdk_43_m2_8 rfl A (posN_lt hi (by omega)) (getB1 cs (by omega)) ?_
  refine Go.sipush (255) 12 d_jdk_43_m2_9 rfl rfl ?_
  refine Go.iand (cs.getD i_ 0) 13 d_jdk_43_m2_12 rfl (lo255 (hb _ (getIn hi))) ?_
  refine Go.i2c (cs.getD i_ 0) 14 d_jdk_43_m2_13 rfl (i2c16 (c16up (hb _ (getIn hi)))) ?_
  exact Go.ireturn d_jdk_43_m2_14 rfl (nar16v (c16up (hb _ (getIn hi)))) (by simp) (nl rfl) (nl rfl) (fun vm' ch => ⟨rfl, rfl⟩)
theorem d_jdk_52_m6_0 : decode jdk_52_method_6_code 0 = .ok (.aload_n 0, 1) := by decide +kernel
theorem d_jdk_52_m6_1 : decode jdk_52_method_6_code 1 = .ok (.arraylength, 1) := by decide +kernel
theorem d_jdk_52_m6_2 : decode jdk_52_method_6_code 2 = .ok (.iconst 1, 1) := by decide +kernel
theorem d_jdk_52_m6_3 : decode jdk_52_method_6_code 3 = .ok (.ishr, 1) := by decide +kernel
theorem d_jdk_52_m6_4 : decode jdk_52_method_6_code 4 = .ok (.ireturn, 1) := by decide +kernel
set_option maxRecDepth 65536 in
set_option maxHeartbeats 40000000 in
theorem cUlen {l : Launch} {Z : State} {a0 : Array Value} (W : Wd Z a0) {EL : List (String × Nat)} {vm : Vm} {h : Heap} {d : Addr} {kd : ClassId} {m_ : Nat} {vs : List Value} {dv : Value} (A : Arv Z h d kd .byte (Int32.ofNat (2 * m_)) vs dv) (hm : m_ < 2 ^ 30) :
    Ctr false l Z a0 EL (⟨"java/lang/StringUTF16", "length", "([B)I"⟩ : MethodName) jdk_52_method_6_code 1 (some .int) ({ frames := 0, cells := 0, slots := 0, locals := 0 } : Room) #[.ref d] vm h (fun v vm' h' => v = some (.int (Int32.ofNat m_)) ∧ h' = h) := by
  refine Ctr.of_go (L0 := #[.val (.ref d)]) (by first | exact plainFor_of_name (by first | (simp [plainName, overriddenIn]; done) | decide +kernel) | decide +kernel) (fun m => by first | (simp [entryFrame, mkF, argsToLocals, Value.category, maxLocals]; done) | rfl) (fun p e s m below meth c vmi chi => ?_)
  refine Go.aload_n 1 d_jdk_52_m6_0 rfl rfl rfl ?_
  refine Go.arraylength 2 d_jdk_52_m6_1 rfl A ?_
  refine Go.iconst (1) 3 d_jdk_52_m6_2 rfl rfl ?_
  refine Go.ishr (Int32.ofNat m_) 4 d_jdk_52_m6_3 rfl (shr1N hm) ?_
  exact Go.ireturn d_jdk_52_m6_4 rfl rfl (by simp) (nl rfl) (nl rfl) (fun vm' ch => ⟨rfl, rfl⟩)
theorem d_jdk_52_m91_0 : decode jdk_52_method_91_code 0 = .ok (.iload_n 0, 1) := by decide +kernel
theorem d_jdk_52_m91_1 : decode jdk_52_method_91_code 1 = .ok (.aload_n 1, 1) := by decide +kernel
theorem d_jdk_52_m91_2 : decode jdk_52_method_91_code 2 = .ok (.invokestatic 48, 3) := by decide +kernel
theorem d_jdk_52_m91_5 : decode jdk_52_method_91_code 5 = .ok (.invokestatic 414, 3) := by decide +kernel
theorem d_jdk_52_m91_8 : decode jdk_52_method_91_code 8 = .ok (.return_, 1) := by decide +kernel
set_option maxRecDepth 65536 in
set_option maxHeartbeats 40000000 in
theorem cUci {l : Launch} {Z : State} {a0 : Array Value} (W : Wd Z a0) {EL : List (String × Nat)} {vm : Vm} {h : Heap} {d : Addr} {kd : ClassId} {i_ m_ : Nat} {vs : List Value} {dv : Value} (A : Arv Z h d kd .byte (Int32.ofNat (2 * m_)) vs dv) (hi : i_ < m_) (hm : m_ ≤ 4000) :
    Ctr false l Z a0 EL (⟨"java/lang/StringUTF16", "checkIndex", "(I[B)V"⟩ : MethodName) jdk_52_method_91_code 2 none ({ frames := 2, cells := 0, slots := 0, locals := 27 } : Room) #[.int (Int32.ofNat i_), .ref d] vm h (fun v vm' h' => v = none ∧ h' = h) := by
  refine Ctr.of_go (L0 := #[.val (.int (Int32.ofNat i_)), .val (.ref d)]) (by first | exact plainFor_of_name (by first | (simp [plainName, overriddenIn]; done) | decide +kernel) | decide +kernel) (fun m => by first | (simp [entryFrame, mkF, argsToLocals, Value.category, maxLocals]; done) | rfl) (fun p e s m below meth c vmi chi => ?_)
  refine Go.iload_n 1 d_jdk_52_m91_0 rfl rfl ?_
  refine Go.aload_n 2 d_jdk_52_m91_1 rfl rfl rfl ?_
  refine Go.invokestatic (rest := [.int (Int32.ofNat i_)]) 1 [.ref d] 5 d_jdk_52_m91_2 rfl (W.1 269 rfl) (W.1 270 rfl) (W.1 21 rfl) (W.1 271 rfl) (by decide) (cUlen W A (by omega)) (by decide +kernel : parseMethodDescriptor "([B)I" = some ⟨[(.array .byte)], (some .int)⟩) rfl rfl rfl (nl rfl) (nl rfl) (nl rfl) (nl rfl) (nl rfl) (fun v1 vm1 h1 ⟨rv, hh⟩ c1 => ?_)
  subst rv; replace hh := hh.symm; subst hh
  refine Go.invokestatic (rest := []) 0 [.int (Int32.ofNat i_), .int (Int32.ofNat m_)] 8 d_jdk_52_m91_5 rfl (W.1 272 rfl) (W.1 81 rfl) (W.1 6 rfl) (W.1 82 rfl) (by decide) (cCi W (nneg (by omega)) ((ofNat_lt (by omega) (by omega)).mpr hi)) (by decide +kernel : parseMethodDescriptor "(II)V" = some ⟨[.int, .int], none⟩) rfl rfl rfl (nl rfl) (nl rfl) (nl rfl) (nl rfl) (nl rfl) (fun v2 vm2 h2 ⟨rv, hh⟩ c2 => ?_)
  subst rv; replace hh := hh.symm; subst hh
  exact Go.return_ d_jdk_52_m91_8 rfl (nl rfl) (nl rfl) (fun vm' ch => ⟨rfl, rfl⟩)
theorem d_jdk_52_m5_0 : decode jdk_52_method_5_code 0 = .ok (.getstatic 44, 3) := by decide +kernel
theorem d_jdk_52_m5_3 : decode jdk_52_method_5_code 3 = .ok (.ifCond .ne 25, 3) := by decide +kernel
theorem d_jdk_52_m5_6 : decode jdk_52_method_5_code 6 = .ok (.iload_n 1, 1) := by decide +kernel
theorem d_jdk_52_m5_7 : decode jdk_52_method_5_code 7 = .ok (.ifCond .lt 11, 3) := by decide +kernel
theorem d_jdk_52_m5_10 : decode jdk_52_method_5_code 10 = .ok (.iload_n 1, 1) := by decide +kernel
theorem d_jdk_52_m5_11 : decode jdk_52_method_5_code 11 = .ok (.aload_n 0, 1) := by decide +kernel
theorem d_jdk_52_m5_12 : decode jdk_52_method_5_code 12 = .ok (.invokestatic 48, 3) := by decide +kernel
theorem d_jdk_52_m5_15 : decode jdk_52_method_5_code 15 = .ok (.if_icmp .lt 13, 3) := by decide +kernel
theorem d_jdk_52_m5_18 : decode jdk_52_method_5_code 18 = .ok (.new 52, 3) := by decide +kernel
theorem d_jdk_52_m5_21 : decode jdk_52_method_5_code 21 = .ok (.dup, 1) := by decide +kernel
theorem d_jdk_52_m5_22 : decode jdk_52_method_5_code 22 = .ok (.ldc 54, 2) := by decide +kernel
theorem d_jdk_52_m5_24 : decode jdk_52_method_5_code 24 = .ok (.invokespecial 56, 3) := by decide +kernel
theorem d_jdk_52_m5_27 : decode jdk_52_method_5_code 27 = .ok (.athrow, 1) := by decide +kernel
theorem d_jdk_52_m5_28 : decode jdk_52_method_5_code 28 = .ok (.iload_n 1, 1) := by decide +kernel
theorem d_jdk_52_m5_29 : decode jdk_52_method_5_code 29 = .ok (.iconst 1, 1) := by decide +kernel
theorem d_jdk_52_m5_30 : decode jdk_52_method_5_code 30 = .ok (.ishl, 1) := by decide +kernel
theorem d_jdk_52_m5_31 : decode jdk_52_method_5_code 31 = .ok (.istore_n 1, 1) := by decide +kernel
theorem d_jdk_52_m5_32 : decode jdk_52_method_5_code 32 = .ok (.aload_n 0, 1) := by decide +kernel
theorem d_jdk_52_m5_33 : decode jdk_52_method_5_code 33 = .ok (.iload_n 1, 1) := by decide +kernel
theorem d_jdk_52_m5_34 : decode jdk_52_method_5_code 34 = .ok (.iinc 1 1, 3) := by decide +kernel
theorem d_jdk_52_m5_37 : decode jdk_52_method_5_code 37 = .ok (.baload, 1) := by decide +kernel
theorem d_jdk_52_m5_38 : decode jdk_52_method_5_code 38 = .ok (.sipush 255, 3) := by decide +kernel
theorem d_jdk_52_m5_41 : decode jdk_52_method_5_code 41 = .ok (.iand, 1) := by decide +kernel
theorem d_jdk_52_m5_42 : decode jdk_52_method_5_code 42 = .ok (.getstatic 59, 3) := by decide +kernel
theorem d_jdk_52_m5_45 : decode jdk_52_method_5_code 45 = .ok (.ishl, 1) := by decide +kernel
theorem d_jdk_52_m5_46 : decode jdk_52_method_5_code 46 = .ok (.aload_n 0, 1) := by decide +kernel
theorem d_jdk_52_m5_47 : decode jdk_52_method_5_code 47 = .ok (.iload_n 1, 1) := by decide +kernel
theorem d_jdk_52_m5_48 : decode jdk_52_method_5_code 48 = .ok (.baload, 1) := by decide +kernel
theorem d_jdk_52_m5_49 : decode jdk_52_method_5_code 49 = .ok (.sipush 255, 3) := by decide +kernel
theorem d_jdk_52_m5_52 : decode jdk_52_method_5_code 52 = .ok (.iand, 1) := by decide +kernel
theorem d_jdk_52_m5_53 : decode jdk_52_method_5_code 53 = .ok (.getstatic 63, 3) := by decide +kernel
theorem d_jdk_52_m5_56 : decode jdk_52_method_5_code 56 = .ok (.ishl, 1) := by decide +kernel
theorem d_jdk_52_m5_57 : decode jdk_52_method_5_code 57 = .ok (.ior, 1) := by decide +kernel
theorem d_jdk_52_m5_58 : decode jdk_52_method_5_code 58 = .ok (.i2c, 1) := by decide +kernel
theorem d_jdk_52_m5_59 : decode jdk_52_method_5_code 59 = .ok (.ireturn, 1) := by decide +kernel
set_option maxRecDepth 65536 in
set_option maxHeartbeats 40000000 in
theorem cGetC {l : Launch} {Z : State} {a0 : Array Value} (W : Wd Z a0) {EL : List (String × Nat)} {vm : Vm} {h : Heap} {d : Addr} {kd : ClassId} {i_ m_ : Nat} {xs : List Int32} (U : UT Z) (A : Arv Z h d kd .byte (Int32.ofNat (2 * m_)) (b2 xs) (.int 0)) (hi : i_ < xs.length) (hx : xs.length ≤ m_) (hm : m_ ≤ 4000) (hc : C16 (xs.getD i_ 0)) :
    Ctr false l Z a0 EL (⟨"java/lang/StringUTF16", "getChar", "([BI)C"⟩ : MethodName) jdk_52_method_5_code 2 (some .char) ({ frames := 0, cells := 0, slots := 0, locals := 0 } : Room) #[.ref d, .int (Int32.ofNat i_)] vm h (fun v vm' h' => v = some (.int (xs.getD i_ 0)) ∧ h' = h) := by
  refine Ctr.of_go (L0 := #[.val (.ref d), .val (.int (Int32.ofNat i_))]) (by first | exact plainFor_of_name (by first | (simp [plainName, overriddenIn]; done) | decide +kernel) | decide +kernel) (fun m => by first | (simp [entryFrame, mkF, argsToLocals, Value.category, maxLocals]; done) | rfl) (fun p e s m below meth c vmi chi => ?_)
  refine Go.know fun hE1 _ _ => ?_
  refine Go.getstatic 3 d_jdk_52_m5_0 rfl (W.1 257 rfl) (U.1.ext hE1) ?_
  refine Go.ifne 28 6 d_jdk_52_m5_3 (by decide) rfl rfl (fun q2 => ?_) (fun q2 => absurd q2 (by decide))
  refine Go.iload_n 29 d_jdk_52_m5_28 rfl rfl ?_
  refine Go.iconst (1) 30 d_jdk_52_m5_29 rfl rfl ?_
  refine Go.ishl (Int32.ofNat (2 * i_)) 31 d_jdk_52_m5_30 rfl (shl1N (by omega)) ?_
  refine Go.istore_n #[.val (.ref d), .val (.int (Int32.ofNat (2 * i_)))] 32 d_jdk_52_m5_31 rfl rfl ?_
  refine Go.aload_n 33 d_jdk_52_m5_32 rfl rfl rfl ?_
  refine Go.iload_n 34 d_jdk_52_m5_33 rfl rfl ?_
  refine Go.iinc (Int32.ofNat (2 * i_ + 1)) #[.val (.ref d), .val (.int (Int32.ofNat (2 * i_ + 1)))] 37 d_jdk_52_m5_34 rfl rfl (incN _) rfl ?_
  refine Go.baload (.int (loB (xs.getD i_ 0))) 38 d_jdk_52_m5_37 rfl A (posN_lt (by omega) (by omega)) (getLo xs hi (by omega)) ?_
  refine Go.sipush (255) 41 d_jdk_52_m5_38 rfl rfl ?_
  refine Go.iand ((loB (xs.getD i_ 0)) &&& (255 : Int32)) 42 d_jdk_52_m5_41 rfl rfl ?_
  refine Go.know fun hE3 _ _ => ?_
  refine Go.getstatic 45 d_jdk_52_m5_42 rfl (W.1 258 rfl) (U.2.1.ext hE3) ?_
  refine Go.ishl (((loB (xs.getD i_ 0)) &&& (255 : Int32)) <<< ((0 : Int32) &&& 31)) 46 d_jdk_52_m5_45 rfl rfl ?_
  refine Go.aload_n 47 d_jdk_52_m5_46 rfl rfl rfl ?_
  refine Go.iload_n 48 d_jdk_52_m5_47 rfl rfl ?_
  refine Go.baload (.int (hiB (xs.getD i_ 0))) 49 d_jdk_52_m5_48 rfl A (posN_lt (by omega) (by omega)) (getHi xs hi (by omega)) ?_
  refine Go.sipush (255) 52 d_jdk_52_m5_49 rfl rfl ?_
  refine Go.iand ((hiB (xs.getD i_ 0)) &&& (255 : Int32)) 53 d_jdk_52_m5_52 rfl rfl ?_
  refine Go.know fun hE4 _ _ => ?_
  refine Go.getstatic 56 d_jdk_52_m5_53 rfl (W.1 259 rfl) (U.2.2.ext hE4) ?_
  refine Go.ishl (((hiB (xs.getD i_ 0)) &&& (255 : Int32)) <<< ((8 : Int32) &&& 31)) 57 d_jdk_52_m5_56 rfl rfl ?_
  refine Go.ior ((((loB (xs.getD i_ 0)) &&& (255 : Int32)) <<< ((0 : Int32) &&& 31)) ||| (((hiB (xs.getD i_ 0)) &&& (255 : Int32)) <<< ((8 : Int32) &&& 31))) 58 d_jdk_52_m5_57 rfl rfl ?_
  refine Go.i2c (xs.getD i_ 0) 59 d_jdk_52_m5_58 rfl (pair16 hc) ?_
  exact Go.ireturn d_jdk_52_m5_59 rfl (nar16v hc) (by simp) (nl rfl) (nl rfl) (fun vm' ch => ⟨rfl, rfl⟩)
theorem d_jdk_52_m83_0 : decode jdk_52_method_83_code 0 = .ok (.iload_n 1, 1) := by decide +kernel
theorem d_jdk_52_m83_1 : decode jdk_52_method_83_code 1 = .ok (.aload_n 0, 1) := by decide +kernel
theorem d_jdk_52_m83_2 : decode jdk_52_method_83_code 2 = .ok (.invokestatic 67, 3) := by decide +kernel
theorem d_jdk_52_m83_5 : decode jdk_52_method_83_code 5 = .ok (.aload_n 0, 1) := by decide +kernel
theorem d_jdk_52_m83_6 : decode jdk_52_method_83_code 6 = .ok (.iload_n 1, 1) := by decide +kernel
theorem d_jdk_52_m83_7 : decode jdk_52_method_83_code 7 = .ok (.invokestatic 71, 3) := by decide +kernel
theorem d_jdk_52_m83_10 : decode jdk_52_method_83_code 10 = .ok (.ireturn, 1) := by decide +kernel
set_option maxRecDepth 65536 in
set_option maxHeartbeats 40000000 in
theorem cUat {l : Launch} {Z : State} {a0 : Array Value} (W : Wd Z a0) {EL : List (String × Nat)} {vm : Vm} {h : Heap} {d : Addr} {kd : ClassId} {i_ m_ : Nat} {xs : List Int32} (U : UT Z) (A : Arv Z h d kd .byte (Int32.ofNat (2 * m_)) (b2 xs) (.int 0)) (hi : i_ < xs.length) (hx : xs.length ≤ m_) (hm : m_ ≤ 4000) (hc : C16 (xs.getD i_ 0)) :
    Ctr false l Z a0 EL (⟨"java/lang/StringUTF16", "charAt", "([BI)C"⟩ : MethodName) jdk_52_method_83_code 2 (some .char) ({ frames := 3, cells := 0, slots := 0, locals := 40 } : Room) #[.ref d, .int (Int32.ofNat i_)] vm h (fun v vm' h' => v = some (.int (xs.getD i_ 0)) ∧ h' = h) := by
  refine Ctr.of_go (L0 := #[.val (.ref d), .val (.int (Int32.ofNat i_))]) (by first | exact plainFor_of_name (by first | (simp [plainName, overriddenIn]; done) | decide +kernel) | decide +kernel) (fun m => by first | (simp [entryFrame, mkF, argsToLocals, Value.category, maxLocals]; done) | rfl) (fun p e s m below meth c vmi chi => ?_)
  refine Go.iload_n 1 d_jdk_52_m83_0 rfl rfl ?_
  refine Go.aload_n 2 d_jdk_52_m83_1 rfl rfl rfl ?_
  refine Go.invokestatic (rest := []) 0 [.int (Int32.ofNat i_), .ref d] 5 d_jdk_52_m83_2 rfl (W.1 266 rfl) (W.1 267 rfl) (W.1 21 rfl) (W.1 268 rfl) (by decide) (cUci W A (Nat.lt_of_lt_of_le hi hx) hm) (by decide +kernel : parseMethodDescriptor "(I[B)V" = some ⟨[.int, (.array .byte)], none⟩) rfl rfl rfl (nl rfl) (nl rfl) (nl rfl) (nl rfl) (nl rfl) (fun v1 vm1 h1 ⟨rv, hh⟩ c1 => ?_)
  subst rv; replace hh := hh.symm; subst hh
  refine Go.aload_n 6 d_jdk_52_m83_5 rfl rfl rfl ?_
  refine Go.iload_n 7 d_jdk_52_m83_6 rfl rfl ?_
  refine Go.invokestatic (rest := []) 0 [.ref d, .int (Int32.ofNat i_)] 10 d_jdk_52_m83_7 rfl (W.1 260 rfl) (W.1 261 rfl) (W.1 21 rfl) (W.1 262 rfl) (by decide) (cGetC W U A hi hx hm hc) (by decide +kernel : parseMethodDescriptor "([BI)C" = some ⟨[(.array .byte), .int], (some .char)⟩) rfl rfl rfl (nl rfl) (nl rfl) (nl rfl) (nl rfl) (nl rfl) (fun v2 vm2 h2 ⟨rv, hh⟩ c2 => ?_)
  subst rv; replace hh := hh.symm; subst hh
  exact Go.ireturn d_jdk_52_m83_10 rfl (nar16v hc) (by simp) (nl rfl) (nl rfl) (fun vm' ch => ⟨rfl, rfl⟩)
theorem d_jdk_42_m56_0 : decode jdk_42_method_56_code 0 = .ok (.aload_n 0, 1) := by decide +kernel
theorem d_jdk_42_m56_1 : decode jdk_42_method_56_code 1 = .ok (.invokevirtual 492, 3) := by decide +kernel
theorem d_jdk_42_m56_4 : decode jdk_42_method_56_code 4 = .ok (.ifCond .eq 12, 3) := by decide +kernel
theorem d_jdk_42_m56_7 : decode jdk_42_method_56_code 7 = .ok (.aload_n 0, 1) := by decide +kernel
theorem d_jdk_42_m56_8 : decode jdk_42_method_56_code 8 = .ok (.getfield 9, 3) := by decide +kernel
theorem d_jdk_42_m56_11 : decode jdk_42_method_56_code 11 = .ok (.iload_n 1, 1) := by decide +kernel
theorem d_jdk_42_m56_12 : decode jdk_42_method_56_code 12 = .ok (.invokestatic 495, 3) := by decide +kernel
theorem d_jdk_42_m56_15 : decode jdk_42_method_56_code 15 = .ok (.ireturn, 1) := by decide +kernel
theorem d_jdk_42_m56_16 : decode jdk_42_method_56_code 16 = .ok (.aload_n 0, 1) := by decide +kernel
theorem d_jdk_42_m56_17 : decode jdk_42_method_56_code 17 = .ok (.getfield 9, 3) := by decide +kernel
theorem d_jdk_42_m56_20 : decode jdk_42_method_56_code 20 = .ok (.iload_n 1, 1) := by decide +kernel
theorem d_jdk_42_m56_21 : decode jdk_42_method_56_code 21 = .ok (.invokestatic 498, 3) := by decide +kernel
theorem d_jdk_42_m56_24 : decode jdk_42_method_56_code 24 = .ok (.ireturn, 1) := by decide +kernel
set_option maxRecDepth 65536 in
set_option maxHeartbeats 40000000 in
theorem cSAt {l : Launch} {Z : State} {a0 : Array Value} (W : Wd Z a0) {EL : List (String × Nat)} {vm : Vm} {h : Heap} {a : Addr} {i_ : Nat} {cs : List Int32} (U : UT Z) (T : StrU Z h a cs) (hi : i_ < cs.length) :
    Ctr false l Z a0 EL (⟨"java/lang/String", "charAt", "(I)C"⟩ : MethodName) jdk_42_method_56_code 2 (some .char) ({ frames := 4, cells := 0, slots := 0, locals := 53 } : Room) #[.ref a, .int (Int32.ofNat i_)] vm h (fun v vm' h' => v = some (.int (cs.getD i_ 0)) ∧ h' = h) := by
  refine Ctr.of_go (L0 := #[.val (.ref a), .val (.int (Int32.ofNat i_))]) (by first | exact plainFor_of_name (by first | (simp [plainName, overriddenIn]; done) | decide +kernel) | decide +kernel) (fun m => by first | (simp [entryFrame, mkF, argsToLocals, Value.category, maxLocals]; done) | rfl) (fun p e s m below meth c vmi chi => ?_)
  have hc := T.ch _ (getIn hi)
  rcases T with T | T
  · have T0 := T
    obtain ⟨b_, kb_, t1, t2, t3, t4, t5, t6⟩ := T0
    refine Go.aload_n 1 d_jdk_42_m56_0 rfl rfl rfl ?_
    refine Go.invokevirtual (rest := []) 0 a [] 4 d_jdk_42_m56_1 rfl t1 (W.1 71 rfl) (W.1 72 rfl) (fun s hs => notFace_of_selects (args := #[]) (mvT hs (W.1 74 rfl))) (W.1 74 rfl) (W.1 73 rfl) (W.1 6 rfl) (W.1 75 rfl) (by decide) (cIsLs0 W T) (by decide +kernel : parseMethodDescriptor "()Z" = some ⟨[], (some .boolean)⟩) rfl rfl rfl (nl rfl) (nl rfl) (nl rfl) (nl rfl) (nl rfl) (fun v1 vm1 h1 ⟨rv, hh⟩ c1 => ?_)
    subst rv; replace hh := hh.symm; subst hh
    refine Go.ifeq 16 7 d_jdk_42_m56_4 (by decide) rfl rfl (fun q2 => absurd q2 (by decide)) (fun q2 => ?_)
    refine Go.aload_n 8 d_jdk_42_m56_7 rfl rfl rfl ?_
    refine Go.getfield 11 d_jdk_42_m56_8 rfl (W.1 32 rfl) t3 ?_
    refine Go.iload_n 12 d_jdk_42_m56_11 rfl rfl ?_
    refine Go.invokestatic (rest := []) 0 [.ref b_, .int (Int32.ofNat i_)] 15 d_jdk_42_m56_12 rfl (W.1 76 rfl) (W.1 77 rfl) (W.1 78 rfl) (W.1 79 rfl) (by decide) (cL1at W t4 hi t5 t6) (by decide +kernel : parseMethodDescriptor "([BI)C" = some ⟨[(.array .byte), .int], (some .char)⟩) rfl rfl rfl (nl rfl) (nl rfl) (nl rfl) (nl rfl) (nl rfl) (fun v3 vm3 h3 ⟨rv, hh⟩ c3 => ?_)
    subst rv; replace hh := hh.symm; subst hh
    exact Go.ireturn d_jdk_42_m56_15 rfl (nar16v hc) (by simp) (nl rfl) (nl rfl) (fun vm' ch => ⟨rfl, rfl⟩)
  · have T0 := T
    obtain ⟨b_, kb_, t1, t2, t3, t4, t5, t6⟩ := T0
    refine Go.aload_n 1 d_jdk_42_m56_0 rfl rfl rfl ?_
    refine Go.invokevirtual (rest := []) 0 a [] 4 d_jdk_42_m56_1 rfl t1 (W.1 71 rfl) (W.1 72 rfl) (fun s hs => notFace_of_selects (args := #[]) (mvT hs (W.1 74 rfl))) (W.1 74 rfl) (W.1 73 rfl) (W.1 6 rfl) (W.1 75 rfl) (by decide) (cIsLs1 W T) (by decide +kernel : parseMethodDescriptor "()Z" = some ⟨[], (some .boolean)⟩) rfl rfl rfl (nl rfl) (nl rfl) (nl rfl) (nl rfl) (nl rfl) (fun v4 vm4 h4 ⟨rv, hh⟩ c4 => ?_)
    subst rv; replace hh := hh.symm; subst hh
    refine Go.ifeq 16 7 d_jdk_42_m56_4 (by decide) rfl rfl (fun q5 => ?_) (fun q5 => absurd rfl q5)
    refine Go.aload_n 17 d_jdk_42_m56_16 rfl rfl rfl ?_
    refine Go.getfield 20 d_jdk_42_m56_17 rfl (W.1 32 rfl) t3 ?_
    refine Go.iload_n 21 d_jdk_42_m56_20 rfl rfl ?_
    refine Go.invokestatic (rest := []) 0 [.ref b_, .int (Int32.ofNat i_)] 24 d_jdk_42_m56_21 rfl (W.1 263 rfl) (W.1 264 rfl) (W.1 21 rfl) (W.1 265 rfl) (by decide) (cUat W U t4 hi (Nat.le_refl _) t5 hc) (by decide +kernel : parseMethodDescriptor "([BI)C" = some ⟨[(.array .byte), .int], (some .char)⟩) rfl rfl rfl (nl rfl) (nl rfl) (nl rfl) (nl rfl) (nl rfl) (fun v6 vm6 h6 ⟨rv, hh⟩ c6 => ?_)
    subst rv; replace hh := hh.symm; subst hh
    exact Go.ireturn d_jdk_42_m56_24 rfl (nar16v hc) (by simp) (nl rfl) (nl rfl) (fun vm' ch => ⟨rfl, rfl⟩)
theorem d_jdk_52_m4_0 : decode jdk_52_method_4_code 0 = .ok (.getstatic 44, 3) := by decide +kernel
theorem d_jdk_52_m4_3 : decode jdk_52_method_4_code 3 = .ok (.ifCond .ne 25, 3) := by decide +kernel
theorem d_jdk_52_m4_6 : decode jdk_52_method_4_code 6 = .ok (.iload_n 1, 1) := by decide +kernel
theorem d_jdk_52_m4_7 : decode jdk_52_method_4_code 7 = .ok (.ifCond .lt 11, 3) := by decide +kernel
theorem d_jdk_52_m4_10 : decode jdk_52_method_4_code 10 = .ok (.iload_n 1, 1) := by decide +kernel
theorem d_jdk_52_m4_11 : decode jdk_52_method_4_code 11 = .ok (.aload_n 0, 1) := by decide +kernel
theorem d_jdk_52_m4_12 : decode jdk_52_method_4_code 12 = .ok (.invokestatic 48, 3) := by decide +kernel
theorem d_jdk_52_m4_15 : decode jdk_52_method_4_code 15 = .ok (.if_icmp .lt 13, 3) := by decide +kernel
theorem d_jdk_52_m4_18 : decode jdk_52_method_4_code 18 = .ok (.new 52, 3) := by decide +kernel
theorem d_jdk_52_m4_21 : decode jdk_52_method_4_code 21 = .ok (.dup, 1) := by decide +kernel
theorem d_jdk_52_m4_22 : decode jdk_52_method_4_code 22 = .ok (.ldc 54, 2) := by decide +kernel
theorem d_jdk_52_m4_24 : decode jdk_52_method_4_code 24 = .ok (.invokespecial 56, 3) := by decide +kernel
theorem d_jdk_52_m4_27 : decode jdk_52_method_4_code 27 = .ok (.athrow, 1) := by decide +kernel
theorem d_jdk_52_m4_28 : decode jdk_52_method_4_code 28 = .ok (.iload_n 1, 1) := by decide +kernel
theorem d_jdk_52_m4_29 : decode jdk_52_method_4_code 29 = .ok (.iconst 1, 1) := by decide +kernel
theorem d_jdk_52_m4_30 : decode jdk_52_method_4_code 30 = .ok (.ishl, 1) := by decide +kernel
theorem d_jdk_52_m4_31 : decode jdk_52_method_4_code 31 = .ok (.istore_n 1, 1) := by decide +kernel
theorem d_jdk_52_m4_32 : decode jdk_52_method_4_code 32 = .ok (.aload_n 0, 1) := by decide +kernel
theorem d_jdk_52_m4_33 : decode jdk_52_method_4_code 33 = .ok (.iload_n 1, 1) := by decide +kernel
theorem d_jdk_52_m4_34 : decode jdk_52_method_4_code 34 = .ok (.iinc 1 1, 3) := by decide +kernel
theorem d_jdk_52_m4_37 : decode jdk_52_method_4_code 37 = .ok (.iload_n 2, 1) := by decide +kernel
theorem d_jdk_52_m4_38 : decode jdk_52_method_4_code 38 = .ok (.getstatic 59, 3) := by decide +kernel
theorem d_jdk_52_m4_41 : decode jdk_52_method_4_code 41 = .ok (.ishr, 1) := by decide +kernel
theorem d_jdk_52_m4_42 : decode jdk_52_method_4_code 42 = .ok (.i2b, 1) := by decide +kernel
theorem d_jdk_52_m4_43 : decode jdk_52_method_4_code 43 = .ok (.bastore, 1) := by decide +kernel
theorem d_jdk_52_m4_44 : decode jdk_52_method_4_code 44 = .ok (.aload_n 0, 1) := by decide +kernel
theorem d_jdk_52_m4_45 : decode jdk_52_method_4_code 45 = .ok (.iload_n 1, 1) := by decide +kernel
theorem d_jdk_52_m4_46 : decode jdk_52_method_4_code 46 = .ok (.iload_n 2, 1) := by decide +kernel
theorem d_jdk_52_m4_47 : decode jdk_52_method_4_code 47 = .ok (.getstatic 63, 3) := by decide +kernel
theorem d_jdk_52_m4_50 : decode jdk_52_method_4_code 50 = .ok (.ishr, 1) := by decide +kernel
theorem d_jdk_52_m4_51 : decode jdk_52_method_4_code 51 = .ok (.i2b, 1) := by decide +kernel
theorem d_jdk_52_m4_52 : decode jdk_52_method_4_code 52 = .ok (.bastore, 1) := by decide +kernel
theorem d_jdk_52_m4_53 : decode jdk_52_method_4_code 53 = .ok (.return_, 1) := by decide +kernel
set_option maxRecDepth 65536 in
set_option maxHeartbeats 40000000 in
theorem cPutC {l : Launch} {Z : State} {a0 : Array Value} (W : Wd Z a0) {EL : List (String × Nat)} {vm : Vm} {h : Heap} {d : Addr} {kd : ClassId} {m_ : Nat} {c_ : Int32} {xs : List Int32} (U : UT Z) (A : Arv Z h d kd .byte (Int32.ofNat (2 * m_)) (b2 xs) (.int 0)) (hx : xs.length < m_) (hm : m_ ≤ 4000) (Sd : Safe Z EL vm h d) (hz : Z.heap.size ≤ d) :
    Ctr false l Z a0 EL (⟨"java/lang/StringUTF16", "putChar", "([BII)V"⟩ : MethodName) jdk_52_method_4_code 3 none ({ frames := 0, cells := 0, slots := 0, locals := 0 } : Room) #[.ref d, .int (Int32.ofNat xs.length), .int c_] vm h (fun v vm' h' => v = none ∧ Keep h h' [d] ∧ Arv Z h' d kd .byte (Int32.ofNat (2 * m_)) (b2 (xs ++ [c_])) (.int 0)) := by
  refine Ctr.of_go (L0 := #[.val (.ref d), .val (.int (Int32.ofNat xs.length)), .val (.int c_)]) (by first | exact plainFor_of_name (by first | (simp [plainName, overriddenIn]; done) | decide +kernel) | decide +kernel) (fun m => by first | (simp [entryFrame, mkF, argsToLocals, Value.category, maxLocals]; done) | rfl) (fun p e s m below meth c vmi chi => ?_)
  refine Go.know fun hE1 _ _ => ?_
  refine Go.getstatic 3 d_jdk_52_m4_0 rfl (W.1 257 rfl) (U.1.ext hE1) ?_
  refine Go.ifne 28 6 d_jdk_52_m4_3 (by decide) rfl rfl (fun q2 => ?_) (fun q2 => absurd q2 (by decide))
  refine Go.iload_n 29 d_jdk_52_m4_28 rfl rfl ?_
  refine Go.iconst (1) 30 d_jdk_52_m4_29 rfl rfl ?_
  refine Go.ishl (Int32.ofNat (2 * xs.length)) 31 d_jdk_52_m4_30 rfl (shl1N (by omega)) ?_
  refine Go.istore_n #[.val (.ref d), .val (.int (Int32.ofNat (2 * xs.length))), .val (.int c_)] 32 d_jdk_52_m4_31 rfl rfl ?_
  refine Go.aload_n 33 d_jdk_52_m4_32 rfl rfl rfl ?_
  refine Go.iload_n 34 d_jdk_52_m4_33 rfl rfl ?_
  refine Go.iinc (Int32.ofNat (2 * xs.length + 1)) #[.val (.ref d), .val (.int (Int32.ofNat (2 * xs.length + 1))), .val (.int c_)] 37 d_jdk_52_m4_34 rfl rfl (incN _) rfl ?_
  refine Go.iload_n 38 d_jdk_52_m4_37 rfl rfl ?_
  refine Go.know fun hE3 _ _ => ?_
  refine Go.getstatic 41 d_jdk_52_m4_38 rfl (W.1 258 rfl) (U.2.1.ext hE3) ?_
  refine Go.ishr c_ 42 d_jdk_52_m4_41 rfl (shrN0 _) ?_
  refine Go.i2b (c_.toInt8.toInt32) 43 d_jdk_52_m4_42 rfl rfl ?_
  have A1 : Arv Z h d kd .byte (Int32.ofNat (2 * m_)) (b2 xs ++ [Value.int 0, Value.int 0]) (.int 0) := A.pad (pad_rep _ _ 2)
  refine Go.bastore (2 * xs.length) (loB c_) (b2 xs ++ [Value.int (loB c_), Value.int 0]) 44 d_jdk_52_m4_43 rfl A1 (posN_lt (by omega) (by omega)) (clampN (by omega)) (by simp only [List.length_append, b2_len, List.length_cons, List.length_nil]; omega) (idem8 c_) (put1 xs _) (chi.safe A.lt Sd) hz (fun hs4 Ks4 As4 Ss4 cs4 => ?_)
  refine Go.aload_n 45 d_jdk_52_m4_44 rfl rfl rfl ?_
  refine Go.iload_n 46 d_jdk_52_m4_45 rfl rfl ?_
  refine Go.iload_n 47 d_jdk_52_m4_46 rfl rfl ?_
  refine Go.know fun hE5 _ _ => ?_
  refine Go.getstatic 50 d_jdk_52_m4_47 rfl (W.1 259 rfl) (U.2.2.ext hE5) ?_
  refine Go.ishr (c_ >>> ((8 : Int32) &&& 31)) 51 d_jdk_52_m4_50 rfl rfl ?_
  refine Go.i2b ((c_ >>> ((8 : Int32) &&& 31)).toInt8.toInt32) 52 d_jdk_52_m4_51 rfl rfl ?_
  refine Go.bastore (2 * xs.length + 1) (hiB c_) (b2 xs ++ [Value.int (loB c_), Value.int (hiB c_)]) 53 d_jdk_52_m4_52 rfl As4 (posN_lt (by omega) (by omega)) (clampN (by omega)) (by simp only [List.length_append, b2_len, List.length_cons, List.length_nil]; omega) (idem8 _) (put2 xs _ _) Ss4 hz (fun hs6 Ks6 As6 Ss6 cs6 => ?_)
  exact Go.return_ d_jdk_52_m4_53 rfl (nl rfl) (nl rfl) (fun vm' ch => ⟨rfl, Ks4.trans Ks6 (fun x q => Or.inl q), by rw [← put3]; exact As6⟩)
theorem d_jdk_52_m3_0 : decode jdk_52_method_3_code 0 = .ok (.iload_n 0, 1) := by decide +kernel
theorem d_jdk_52_m3_1 : decode jdk_52_method_3_code 1 = .ok (.ifCond .ge 11, 3) := by decide +kernel
theorem d_jdk_52_m3_4 : decode jdk_52_method_3_code 4 = .ok (.new 17, 3) := by decide +kernel
theorem d_jdk_52_m3_7 : decode jdk_52_method_3_code 7 = .ok (.dup, 1) := by decide +kernel
theorem d_jdk_52_m3_8 : decode jdk_52_method_3_code 8 = .ok (.invokespecial 19, 3) := by decide +kernel
theorem d_jdk_52_m3_11 : decode jdk_52_method_3_code 11 = .ok (.athrow, 1) := by decide +kernel
theorem d_jdk_52_m3_12 : decode jdk_52_method_3_code 12 = .ok (.iload_n 0, 1) := by decide +kernel
theorem d_jdk_52_m3_13 : decode jdk_52_method_3_code 13 = .ok (.ldc 20, 2) := by decide +kernel
theorem d_jdk_52_m3_15 : decode jdk_52_method_3_code 15 = .ok (.if_icmp .lt 40, 3) := by decide +kernel
theorem d_jdk_52_m3_18 : decode jdk_52_method_3_code 18 = .ok (.new 21, 3) := by decide +kernel
theorem d_jdk_52_m3_21 : decode jdk_52_method_3_code 21 = .ok (.dup, 1) := by decide +kernel
theorem d_jdk_52_m3_22 : decode jdk_52_method_3_code 22 = .ok (.new 23, 3) := by decide +kernel
theorem d_jdk_52_m3_25 : decode jdk_52_method_3_code 25 = .ok (.dup, 1) := by decide +kernel
theorem d_jdk_52_m3_26 : decode jdk_52_method_3_code 26 = .ok (.invokespecial 25, 3) := by decide +kernel
theorem d_jdk_52_m3_29 : decode jdk_52_method_3_code 29 = .ok (.ldc 26, 2) := by decide +kernel
theorem d_jdk_52_m3_31 : decode jdk_52_method_3_code 31 = .ok (.invokevirtual 28, 3) := by decide +kernel
theorem d_jdk_52_m3_34 : decode jdk_52_method_3_code 34 = .ok (.iload_n 0, 1) := by decide +kernel
theorem d_jdk_52_m3_35 : decode jdk_52_method_3_code 35 = .ok (.invokevirtual 32, 3) := by decide +kernel
theorem d_jdk_52_m3_38 : decode jdk_52_method_3_code 38 = .ok (.ldc 35, 2) := by decide +kernel
theorem d_jdk_52_m3_40 : decode jdk_52_method_3_code 40 = .ok (.invokevirtual 28, 3) := by decide +kernel
theorem d_jdk_52_m3_43 : decode jdk_52_method_3_code 43 = .ok (.ldc 20, 2) := by decide +kernel
theorem d_jdk_52_m3_45 : decode jdk_52_method_3_code 45 = .ok (.invokevirtual 32, 3) := by decide +kernel
theorem d_jdk_52_m3_48 : decode jdk_52_method_3_code 48 = .ok (.invokevirtual 37, 3) := by decide +kernel
theorem d_jdk_52_m3_51 : decode jdk_52_method_3_code 51 = .ok (.invokespecial 41, 3) := by decide +kernel
theorem d_jdk_52_m3_54 : decode jdk_52_method_3_code 54 = .ok (.athrow, 1) := by decide +kernel
theorem d_jdk_52_m3_55 : decode jdk_52_method_3_code 55 = .ok (.iload_n 0, 1) := by decide +kernel
theorem d_jdk_52_m3_56 : decode jdk_52_method_3_code 56 = .ok (.iconst 1, 1) := by decide +kernel
theorem d_jdk_52_m3_57 : decode jdk_52_method_3_code 57 = .ok (.ishl, 1) := by decide +kernel
theorem d_jdk_52_m3_58 : decode jdk_52_method_3_code 58 = .ok (.ireturn, 1) := by decide +kernel
set_option maxRecDepth 65536 in
set_option maxHeartbeats 40000000 in
theorem cNBL {l : Launch} {Z : State} {a0 : Array Value} (W : Wd Z a0) {EL : List (String × Nat)} {vm : Vm} {h : Heap} {n_ : Nat} (hn : n_ ≤ 40) :
    Ctr false l Z a0 EL (⟨"java/lang/StringUTF16", "newBytesLength", "(I)I"⟩ : MethodName) jdk_52_method_3_code 1 (some .int) ({ frames := 0, cells := 0, slots := 0, locals := 0 } : Room) #[.int (Int32.ofNat n_)] vm h (fun v vm' h' => v = some (.int (Int32.ofNat (2 * n_))) ∧ h' = h) := by
  refine Ctr.of_go (L0 := #[.val (.int (Int32.ofNat n_))]) (by first | exact plainFor_of_name (by first | (simp [plainName, overriddenIn]; done) | decide +kernel) | decide +kernel) (fun m => by first | (simp [entryFrame, mkF, argsToLocals, Value.category, maxLocals]; done) | rfl) (fun p e s m below meth c vmi chi => ?_)
  refine Go.iload_n 1 d_jdk_52_m3_0 rfl rfl ?_
  refine Go.ifge 12 4 d_jdk_52_m3_1 (by decide) rfl rfl (fun q1 => ?_) (fun q1 => absurd q1 (nneg (by omega)))
  refine Go.iload_n 13 d_jdk_52_m3_12 rfl rfl ?_
  refine Go.ldcI (W.1 253 rfl) 15 d_jdk_52_m3_13 rfl ?_
  refine Go.if_icmplt 55 18 d_jdk_52_m3_15 (by decide) rfl rfl (fun q2 => ?_) (fun q2 => absurd ((ofNat_lt (n := 1073741823) (by omega) (by decide)).mpr (by omega)) q2)
  refine Go.iload_n 56 d_jdk_52_m3_55 rfl rfl ?_
  refine Go.iconst (1) 57 d_jdk_52_m3_56 rfl rfl ?_
  refine Go.ishl (Int32.ofNat (2 * n_)) 58 d_jdk_52_m3_57 rfl (shl1N (by omega)) ?_
  exact Go.ireturn d_jdk_52_m3_58 rfl rfl (by simp) (nl rfl) (nl rfl) (fun vm' ch => ⟨rfl, rfl⟩)
theorem d_jdk_52_m2_0 : decode jdk_52_method_2_code 0 = .ok (.iload_n 0, 1) := by decide +kernel
theorem d_jdk_52_m2_1 : decode jdk_52_method_2_code 1 = .ok (.invokestatic 11, 3) := by decide +kernel
theorem d_jdk_52_m2_4 : decode jdk_52_method_2_code 4 = .ok (.newarray .byte, 2) := by decide +kernel
theorem d_jdk_52_m2_6 : decode jdk_52_method_2_code 6 = .ok (.areturn, 1) := by decide +kernel
set_option maxRecDepth 65536 in
set_option maxHeartbeats 40000000 in
theorem cNBF {l : Launch} {Z : State} {a0 : Array Value} (W : Wd Z a0) {EL : List (String × Nat)} {vm : Vm} {h : Heap} {n_ : Nat} (hn : n_ ≤ 40) :
    Ctr false l Z a0 EL (⟨"java/lang/StringUTF16", "newBytesFor", "(I)[B"⟩ : MethodName) jdk_52_method_2_code 1 (some (.array .byte)) ({ frames := 1, cells := 1, slots := 80, locals := 12 } : Room) #[.int (Int32.ofNat n_)] vm h (fun v vm' h' => ∃ r kr, v = some (.ref r) ∧ Ext h h' ∧ Arv Z h' r kr .byte (Int32.ofNat (2 * n_)) (b2 []) (.int 0) ∧ Exa Z h' r "[B" ∧ h.size ≤ r ∧ Safe Z EL vm' h' r) := by
  refine Ctr.of_go (L0 := #[.val (.int (Int32.ofNat n_))]) (by first | exact plainFor_of_name (by first | (simp [plainName, overriddenIn]; done) | decide +kernel) | decide +kernel) (fun m => by first | (simp [entryFrame, mkF, argsToLocals, Value.category, maxLocals]; done) | rfl) (fun p e s m below meth c vmi chi => ?_)
  refine Go.iload_n 1 d_jdk_52_m2_0 rfl rfl ?_
  refine Go.invokestatic (rest := []) 0 [.int (Int32.ofNat n_)] 4 d_jdk_52_m2_1 rfl (W.1 250 rfl) (W.1 251 rfl) (W.1 21 rfl) (W.1 252 rfl) (by decide) (cNBL W hn) (by decide +kernel : parseMethodDescriptor "(I)I" = some ⟨[.int], (some .int)⟩) rfl rfl rfl (nl rfl) (nl rfl) (nl rfl) (nl rfl) (nl rfl) (fun v1 vm1 h1 ⟨rv, hh⟩ c1 => ?_)
  subst rv; replace hh := hh.symm; subst hh
  refine Go.newarrayE (aty := .byte) (z := (Int32.ofNat (2 * n_))) (ad := "[B") (by decide +kernel) 80 6 d_jdk_52_m2_4 rfl (W.1 23 rfl) (nneg (by omega)) (by rw [clampN (by omega)]; omega) (by decide) (nl rfl) (nl rfl) (fun r1 h2 e2 E2 ⟨k2, B2, Y2⟩ S2 z2 c2 => ?_)
  exact Go.areturn d_jdk_52_m2_6 rfl rfl rfl (nl rfl) (nl rfl) (fun vm' ch => ⟨r1, k2, rfl, E2, B2, Y2, Nat.le_of_eq e2.symm, ch.safe B2.lt S2⟩)
theorem d_jdk_52_m14_0 : decode jdk_52_method_14_code 0 = .ok (.iload_n 2, 1) := by decide +kernel
theorem d_jdk_52_m14_1 : decode jdk_52_method_14_code 1 = .ok (.invokestatic 107, 3) := by decide +kernel
theorem d_jdk_52_m14_4 : decode jdk_52_method_14_code 4 = .ok (.astore_n 3, 1) := by decide +kernel
theorem d_jdk_52_m14_5 : decode jdk_52_method_14_code 5 = .ok (.iconst 0, 1) := by decide +kernel
theorem d_jdk_52_m14_6 : decode jdk_52_method_14_code 6 = .ok (.istore 4, 2) := by decide +kernel
theorem d_jdk_52_m14_8 : decode jdk_52_method_14_code 8 = .ok (.iload 4, 2) := by decide +kernel
theorem d_jdk_52_m14_10 : decode jdk_52_method_14_code 10 = .ok (.iload_n 2, 1) := by decide +kernel
theorem d_jdk_52_m14_11 : decode jdk_52_method_14_code 11 = .ok (.if_icmp .ge 21, 3) := by decide +kernel
theorem d_jdk_52_m14_14 : decode jdk_52_method_14_code 14 = .ok (.aload_n 3, 1) := by decide +kernel
theorem d_jdk_52_m14_15 : decode jdk_52_method_14_code 15 = .ok (.iload 4, 2) := by decide +kernel
theorem d_jdk_52_m14_17 : decode jdk_52_method_14_code 17 = .ok (.aload_n 0, 1) := by decide +kernel
theorem d_jdk_52_m14_18 : decode jdk_52_method_14_code 18 = .ok (.iload_n 1, 1) := by decide +kernel
theorem d_jdk_52_m14_19 : decode jdk_52_method_14_code 19 = .ok (.caload, 1) := by decide +kernel
theorem d_jdk_52_m14_20 : decode jdk_52_method_14_code 20 = .ok (.invokestatic 111, 3) := by decide +kernel
theorem d_jdk_52_m14_23 : decode jdk_52_method_14_code 23 = .ok (.iinc 1 1, 3) := by decide +kernel
theorem d_jdk_52_m14_26 : decode jdk_52_method_14_code 26 = .ok (.iinc 4 1, 3) := by decide +kernel
theorem d_jdk_52_m14_29 : decode jdk_52_method_14_code 29 = .ok (.goto (-21), 3) := by decide +kernel
theorem d_jdk_52_m14_32 : decode jdk_52_method_14_code 32 = .ok (.aload_n 3, 1) := by decide +kernel
theorem d_jdk_52_m14_33 : decode jdk_52_method_14_code 33 = .ok (.areturn, 1) := by decide +kernel
set_option maxRecDepth 65536 in
set_option maxHeartbeats 40000000 in
theorem cToB {l : Launch} {Z : State} {a0 : Array Value} (W : Wd Z a0) {EL : List (String × Nat)} {vm : Vm} {h : Heap} {b : Addr} {kb : ClassId} {cs : List Int32} (U : UT Z) (A : Arv Z h b kb .char (Int32.ofNat cs.length) (cs.map Value.int) (.int 0)) (hl : cs.length ≤ 40) (hc : ∀ c ∈ cs, C16 c) :
    Ctr false l Z a0 EL (⟨"java/lang/StringUTF16", "toBytes", "([CII)[B"⟩ : MethodName) jdk_52_method_14_code 5 (some (.array .byte)) ({ frames := 2, cells := 1, slots := 80, locals := 24 } : Room) #[.ref b, .int (0 : Int32), .int (Int32.ofNat cs.length)] vm h (fun v vm' h' => ∃ r kr, v = some (.ref r) ∧ Ext h h' ∧ Arv Z h' r kr .byte (Int32.ofNat (2 * cs.length)) (b2 cs) (.int 0) ∧ h.size ≤ r) := by
  refine Ctr.of_go (L0 := #[.val (.ref b), .val (.int (0 : Int32)), .val (.int (Int32.ofNat cs.length)), .unset, .unset]) (by first | exact plainFor_of_name (by first | (simp [plainName, overriddenIn]; done) | decide +kernel) | decide +kernel) (fun m => by first | (simp [entryFrame, mkF, argsToLocals, Value.category, maxLocals]; done) | rfl) (fun p e s m below meth c vmi chi => ?_)
  refine Go.know fun hEz _ _ => ?_
  refine Go.iload_n 1 d_jdk_52_m14_0 rfl rfl ?_
  refine Go.invokestatic (rest := []) 0 [.int (Int32.ofNat cs.length)] 4 d_jdk_52_m14_1 rfl (W.1 247 rfl) (W.1 248 rfl) (W.1 21 rfl) (W.1 249 rfl) (by decide) (cNBF W hl) (by decide +kernel : parseMethodDescriptor "(I)[B" = some ⟨[.int], (some (.array .byte))⟩) rfl rfl rfl (nl rfl) (nl rfl) (nl rfl) (nl rfl) (nl rfl) (fun v1 vm1 h1 ⟨r, kr, rv, E1, A1, Y1, hr, S1⟩ c1 => ?_)
  subst rv
  refine Go.astore_n #[.val (.ref b), .val (.int (0 : Int32)), .val (.int (Int32.ofNat cs.length)), .val (.ref r), .unset] 5 d_jdk_52_m14_4 rfl rfl rfl ?_
  refine Go.iconst (0) 6 d_jdk_52_m14_5 rfl rfl ?_
  refine Go.istore #[.val (.ref b), .val (.int (0 : Int32)), .val (.int (Int32.ofNat cs.length)), .val (.ref r), .val (.int (0 : Int32))] 8 d_jdk_52_m14_6 rfl rfl ?_
  have hzr : Z.heap.size ≤ r := Nat.le_trans hEz.1 hr
  have J : ∀ (rest done : List Int32) (vmJ : Vm) (hJ : Heap), cs = done ++ rest → Keep h1 hJ [r] → Arv Z hJ r kr .byte (Int32.ofNat (2 * cs.length)) (b2 done) (.int 0) → Safe Z EL vmJ hJ r → Go false p l e ({ frames := 2, cells := 1, slots := 80, locals := 24 } : Room) s m #[.ref b, .int (0 : Int32), .int (Int32.ofNat cs.length)] below meth c jdk_52_method_14_code 5 "toBytes" (some (.array .byte)) Z a0 EL "java/lang/StringUTF16" (fun v vm' h' => ∃ r kr, v = some (.ref r) ∧ Ext h h' ∧ Arv Z h' r kr .byte (Int32.ofNat (2 * cs.length)) (b2 cs) (.int 0) ∧ h.size ≤ r) vmJ hJ 1 80 8 #[.val (.ref b), .val (.int (Int32.ofNat done.length)), .val (.int (Int32.ofNat cs.length)), .val (.ref r), .val (.int (Int32.ofNat done.length))] [] := by
    intro rest
    induction rest with
    | nil =>
      intro done vmJ hJ he K A2 Sr
      have hlen := congrArg List.length he
      simp only [List.length_append, List.length_cons, List.length_nil] at hlen
      have EJ : Ext h hJ := Ext.kq1 E1 K hr
      refine Go.iload 10 d_jdk_52_m14_8 rfl rfl ?_
      refine Go.iload_n 11 d_jdk_52_m14_10 rfl rfl ?_
      refine Go.if_icmpge 32 14 d_jdk_52_m14_11 (by decide) rfl rfl (fun q201 => ?_) (fun q201 => absurd ((ofNat_lt (by omega) (by omega)).mp q201) (by omega))
      refine Go.aload_n 33 d_jdk_52_m14_32 rfl rfl rfl ?_
      exact Go.areturn d_jdk_52_m14_33 rfl rfl rfl (nl rfl) (nl rfl) (fun vm' ch => ⟨r, kr, rfl, EJ, by rw [he, List.append_nil]; rw [he, List.append_nil] at A2; exact A2, hr⟩)
    | cons c_ rest ih =>
      intro done vmJ hJ he K A2 Sr
      have hlen := congrArg List.length he
      simp only [List.length_append, List.length_cons, List.length_nil] at hlen
      have EJ : Ext h hJ := Ext.kq1 E1 K hr
      have zr : Z.heap.size ≤ r := hzr
      refine Go.iload 10 d_jdk_52_m14_8 rfl rfl ?_
      refine Go.iload_n 11 d_jdk_52_m14_10 rfl rfl ?_
      refine Go.if_icmpge 32 14 d_jdk_52_m14_11 (by decide) rfl rfl (fun q202 => absurd ((ofNat_lt (by omega) (by omega)).mpr (by omega)) q202) (fun q202 => ?_)
      refine Go.aload_n 15 d_jdk_52_m14_14 rfl rfl rfl ?_
      refine Go.iload 17 d_jdk_52_m14_15 rfl rfl ?_
      refine Go.aload_n 18 d_jdk_52_m14_17 rfl rfl rfl ?_
      refine Go.iload_n 19 d_jdk_52_m14_18 rfl rfl ?_
      have f203 := A.ext EJ
      refine Go.caload (.int c_) 20 d_jdk_52_m14_19 rfl f203 (posN_lt (by omega) (by omega)) (by rw [getMC cs (by omega), he, midD]) ?_
      refine Go.invokestatic (rest := []) 0 [.ref r, .int (Int32.ofNat done.length), .int c_] 23 d_jdk_52_m14_20 rfl (W.1 254 rfl) (W.1 255 rfl) (W.1 21 rfl) (W.1 256 rfl) (by decide) (cPutC W U A2 (by omega) (by omega) Sr zr) (by decide +kernel : parseMethodDescriptor "([BII)V" = some ⟨[(.array .byte), .int, .int], none⟩) rfl rfl rfl (nl rfl) (nl rfl) (nl rfl) (nl rfl) (nl rfl) (fun v204 vm204 h204 ⟨rv, K1, A3⟩ c204 => ?_)
      subst rv
      refine Go.iinc (Int32.ofNat (done ++ [c_]).length) #[.val (.ref b), .val (.int (Int32.ofNat (done ++ [c_]).length)), .val (.int (Int32.ofNat cs.length)), .val (.ref r), .val (.int (Int32.ofNat done.length))] 26 d_jdk_52_m14_23 rfl rfl incL rfl ?_
      refine Go.iinc (Int32.ofNat (done ++ [c_]).length) #[.val (.ref b), .val (.int (Int32.ofNat (done ++ [c_]).length)), .val (.int (Int32.ofNat cs.length)), .val (.ref r), .val (.int (Int32.ofNat (done ++ [c_]).length))] 29 d_jdk_52_m14_26 rfl rfl incL rfl ?_
      refine Go.goto 8 d_jdk_52_m14_29 (by decide) rfl ?_
      exact ih (done ++ [c_]) _ _ (by simp [he]) (K.trans K1 (fun x q => Or.inl q)) A3 (CHr.safe c204 A2.lt Sr)
  exact J cs [] _ _ rfl (Keep.refl _ _) A1 S1
theorem d_jdk_52_m21_0 : decode jdk_52_method_21_code 0 = .ok (.iconst 0, 1) := by decide +kernel
theorem d_jdk_52_m21_1 : decode jdk_52_method_21_code 1 = .ok (.istore 5, 2) := by decide +kernel
theorem d_jdk_52_m21_3 : decode jdk_52_method_21_code 3 = .ok (.iload 5, 2) := by decide +kernel
theorem d_jdk_52_m21_5 : decode jdk_52_method_21_code 5 = .ok (.iload 4, 2) := by decide +kernel
theorem d_jdk_52_m21_7 : decode jdk_52_method_21_code 7 = .ok (.if_icmp .ge 37, 3) := by decide +kernel
theorem d_jdk_52_m21_10 : decode jdk_52_method_21_code 10 = .ok (.aload_n 0, 1) := by decide +kernel
theorem d_jdk_52_m21_11 : decode jdk_52_method_21_code 11 = .ok (.iload_n 1, 1) := by decide +kernel
theorem d_jdk_52_m21_12 : decode jdk_52_method_21_code 12 = .ok (.caload, 1) := by decide +kernel
theorem d_jdk_52_m21_13 : decode jdk_52_method_21_code 13 = .ok (.istore 6, 2) := by decide +kernel
theorem d_jdk_52_m21_15 : decode jdk_52_method_21_code 15 = .ok (.iload 6, 2) := by decide +kernel
theorem d_jdk_52_m21_17 : decode jdk_52_method_21_code 17 = .ok (.sipush 255, 3) := by decide +kernel
theorem d_jdk_52_m21_20 : decode jdk_52_method_21_code 20 = .ok (.if_icmp .le 6, 3) := by decide +kernel
theorem d_jdk_52_m21_23 : decode jdk_52_method_21_code 23 = .ok (.iload 5, 2) := by decide +kernel
theorem d_jdk_52_m21_25 : decode jdk_52_method_21_code 25 = .ok (.ireturn, 1) := by decide +kernel
theorem d_jdk_52_m21_26 : decode jdk_52_method_21_code 26 = .ok (.aload_n 2, 1) := by decide +kernel
theorem d_jdk_52_m21_27 : decode jdk_52_method_21_code 27 = .ok (.iload_n 3, 1) := by decide +kernel
theorem d_jdk_52_m21_28 : decode jdk_52_method_21_code 28 = .ok (.iload 6, 2) := by decide +kernel
theorem d_jdk_52_m21_30 : decode jdk_52_method_21_code 30 = .ok (.i2b, 1) := by decide +kernel
theorem d_jdk_52_m21_31 : decode jdk_52_method_21_code 31 = .ok (.bastore, 1) := by decide +kernel
theorem d_jdk_52_m21_32 : decode jdk_52_method_21_code 32 = .ok (.iinc 1 1, 3) := by decide +kernel
theorem d_jdk_52_m21_35 : decode jdk_52_method_21_code 35 = .ok (.iinc 3 1, 3) := by decide +kernel
theorem d_jdk_52_m21_38 : decode jdk_52_method_21_code 38 = .ok (.iinc 5 1, 3) := by decide +kernel
theorem d_jdk_52_m21_41 : decode jdk_52_method_21_code 41 = .ok (.goto (-38), 3) := by decide +kernel
theorem d_jdk_52_m21_44 : decode jdk_52_method_21_code 44 = .ok (.iload 4, 2) := by decide +kernel
theorem d_jdk_52_m21_46 : decode jdk_52_method_21_code 46 = .ok (.ireturn, 1) := by decide +kernel
set_option maxRecDepth 65536 in
set_option maxHeartbeats 40000000 in
theorem cCmp5 {l : Launch} {Z : State} {a0 : Array Value} (W : Wd Z a0) {EL : List (String × Nat)} {vm : Vm} {h : Heap} {b d : Addr} {kb kd : ClassId} {cs : List Int32} (A : Arv Z h b kb .char (Int32.ofNat cs.length) (cs.map Value.int) (.int 0)) (D : Arv Z h d kd .byte (Int32.ofNat cs.length) [] (.int 0)) (hl : cs.length ≤ 40) (hu : ¬ ∀ c ∈ cs, ¬ (255 : Int32) < c) (nd : b ≠ d) (Sd : Safe Z EL vm h d) (hz : Z.heap.size ≤ d) :
    Ctr false l Z a0 EL (⟨"java/lang/StringUTF16", "compress", "([CI[BII)I"⟩ : MethodName) jdk_52_method_21_code 7 (some .int) ({ frames := 0, cells := 0, slots := 0, locals := 0 } : Room) #[.ref b, .int (0 : Int32), .ref d, .int (0 : Int32), .int (Int32.ofNat cs.length)] vm h (fun v vm' h' => ∃ i : Nat, v = some (.int (Int32.ofNat i)) ∧ i < cs.length ∧ (255 : Int32) < cs.getD i 0 ∧ Keep h h' [d]) := by
  refine Ctr.of_go (L0 := #[.val (.ref b), .val (.int (0 : Int32)), .val (.ref d), .val (.int (0 : Int32)), .val (.int (Int32.ofNat cs.length)), .unset, .unset]) (by first | exact plainFor_of_name (by first | (simp [plainName, overriddenIn]; done) | decide +kernel) | decide +kernel) (fun m => by first | (simp [entryFrame, mkF, argsToLocals, Value.category, maxLocals]; done) | rfl) (fun p e s m below meth c vmi chi => ?_)
  refine Go.iconst (0) 1 d_jdk_52_m21_0 rfl rfl ?_
  refine Go.istore #[.val (.ref b), .val (.int (0 : Int32)), .val (.ref d), .val (.int (0 : Int32)), .val (.int (Int32.ofNat cs.length)), .val (.int (0 : Int32)), .unset] 3 d_jdk_52_m21_1 rfl rfl ?_
  have J : ∀ (rest done : List Int32) (vs : List Value) (hJ : Heap) (l6 : Slot), (l6 = .unset ∨ ∃ w : Value, l6 = .val w ∧ w.category = 1) → cs = done ++ rest → (∀ c ∈ done, ¬ (255 : Int32) < c) → Keep h hJ [d] → Arv Z hJ d kd .byte (Int32.ofNat cs.length) vs (.int 0) → Safe Z EL vmi hJ d → Go false p l e ({ frames := 0, cells := 0, slots := 0, locals := 0 } : Room) s m #[.ref b, .int (0 : Int32), .ref d, .int (0 : Int32), .int (Int32.ofNat cs.length)] below meth c jdk_52_method_21_code 7 "compress" (some .int) Z a0 EL "java/lang/StringUTF16" (fun v vm' h' => ∃ i : Nat, v = some (.int (Int32.ofNat i)) ∧ i < cs.length ∧ (255 : Int32) < cs.getD i 0 ∧ Keep h h' [d]) vmi hJ 0 0 3 #[.val (.ref b), .val (.int (Int32.ofNat done.length)), .val (.ref d), .val (.int (Int32.ofNat done.length)), .val (.int (Int32.ofNat cs.length)), .val (.int (Int32.ofNat done.length)), l6] [] := by
    intro rest
    induction rest with
    | nil =>
      intro done vs hJ l6 o6 he hd K D Sd
      exact absurd (fun c hc => hd c (by rw [he, List.append_nil] at hc; exact hc)) hu
    | cons c_ rest ih =>
      intro done vs hJ l6 o6 he hd K D Sd
      have hlen := congrArg List.length he
      simp only [List.length_append, List.length_cons] at hlen
      have A2 := A.keep K (ninS nd nin0)
      refine Go.iload 5 d_jdk_52_m21_3 rfl rfl ?_
      refine Go.iload 7 d_jdk_52_m21_5 rfl rfl ?_
      refine Go.if_icmpge 44 10 d_jdk_52_m21_7 (by decide) rfl rfl (fun q201 => absurd ((ofNat_lt (by omega) (by omega)).mpr (by omega)) q201) (fun q201 => ?_)
      refine Go.aload_n 11 d_jdk_52_m21_10 rfl rfl rfl ?_
      refine Go.iload_n 12 d_jdk_52_m21_11 rfl rfl ?_
      refine Go.caload (.int c_) 13 d_jdk_52_m21_12 rfl A2 (posN_lt (by omega) (by omega)) (by rw [getMC cs (by omega), he, midD]) ?_
      refine Go.istore #[.val (.ref b), .val (.int (Int32.ofNat done.length)), .val (.ref d), .val (.int (Int32.ofNat done.length)), .val (.int (Int32.ofNat cs.length)), .val (.int (Int32.ofNat done.length)), .val (.int c_)] 15 d_jdk_52_m21_13 rfl (XS.store1 rfl o6 rfl) ?_
      refine Go.iload 17 d_jdk_52_m21_15 rfl rfl ?_
      refine Go.sipush (255) 20 d_jdk_52_m21_17 rfl rfl ?_
      refine Go.if_icmple 26 23 d_jdk_52_m21_20 (by decide) rfl rfl (fun g => ?_) (fun g => ?_)
      · refine Go.aload_n 27 d_jdk_52_m21_26 rfl rfl rfl ?_
        refine Go.iload_n 28 d_jdk_52_m21_27 rfl rfl ?_
        refine Go.iload 30 d_jdk_52_m21_28 rfl rfl ?_
        refine Go.i2b (c_.toInt8.toInt32) 31 d_jdk_52_m21_30 rfl rfl ?_
        have D2 := D.pad (pad_rep vs (.int 0) cs.length)
        refine Go.bastore (done.length) ((c_.toInt8.toInt32).toInt8.toInt32) ((vs ++ List.replicate cs.length (Value.int 0)).set done.length (.int ((c_.toInt8.toInt32).toInt8.toInt32))) 32 d_jdk_52_m21_31 rfl D2 (posN_lt (by omega) (by omega)) (clampN (by omega)) (by simp only [List.length_append, List.length_replicate]; omega) rfl rfl Sd hz (fun hs202 Ks202 As202 Ss202 cs202 => ?_)
        refine Go.iinc (Int32.ofNat (done ++ [c_]).length) #[.val (.ref b), .val (.int (Int32.ofNat (done ++ [c_]).length)), .val (.ref d), .val (.int (Int32.ofNat done.length)), .val (.int (Int32.ofNat cs.length)), .val (.int (Int32.ofNat done.length)), .val (.int c_)] 35 d_jdk_52_m21_32 rfl rfl incL rfl ?_
        refine Go.iinc (Int32.ofNat (done ++ [c_]).length) #[.val (.ref b), .val (.int (Int32.ofNat (done ++ [c_]).length)), .val (.ref d), .val (.int (Int32.ofNat (done ++ [c_]).length)), .val (.int (Int32.ofNat cs.length)), .val (.int (Int32.ofNat done.length)), .val (.int c_)] 38 d_jdk_52_m21_35 rfl rfl incL rfl ?_
        refine Go.iinc (Int32.ofNat (done ++ [c_]).length) #[.val (.ref b), .val (.int (Int32.ofNat (done ++ [c_]).length)), .val (.ref d), .val (.int (Int32.ofNat (done ++ [c_]).length)), .val (.int (Int32.ofNat cs.length)), .val (.int (Int32.ofNat (done ++ [c_]).length)), .val (.int c_)] 41 d_jdk_52_m21_38 rfl rfl incL rfl ?_
        refine Go.goto 3 d_jdk_52_m21_41 (by decide) rfl ?_
        exact ih (done ++ [c_]) _ _ _ (Or.inr ⟨_, rfl, rfl⟩) (by simp [he]) (fun c hc => (List.mem_append.mp hc).elim (hd c) (fun q => by cases List.mem_singleton.mp q; exact g)) (K.trans Ks202 (fun x q => Or.inl q)) As202 Ss202
      · refine Go.iload 25 d_jdk_52_m21_23 rfl rfl ?_
        exact Go.ireturn d_jdk_52_m21_25 rfl rfl (by simp) (nl rfl) (nl rfl) (fun vm' ch => ⟨done.length, rfl, by omega, by rw [he, midD]; exact g, K⟩)
  exact J cs [] [] _ _ (Or.inl rfl) rfl (fun _ q => nomatch q) (Keep.refl _ _) D (chi.safe D.lt Sd)
theorem d_jdk_52_m16_0 : decode jdk_52_method_16_code 0 = .ok (.iload_n 2, 1) := by decide +kernel
theorem d_jdk_52_m16_1 : decode jdk_52_method_16_code 1 = .ok (.newarray .byte, 2) := by decide +kernel
theorem d_jdk_52_m16_3 : decode jdk_52_method_16_code 3 = .ok (.astore_n 3, 1) := by decide +kernel
theorem d_jdk_52_m16_4 : decode jdk_52_method_16_code 4 = .ok (.aload_n 0, 1) := by decide +kernel
theorem d_jdk_52_m16_5 : decode jdk_52_method_16_code 5 = .ok (.iload_n 1, 1) := by decide +kernel
theorem d_jdk_52_m16_6 : decode jdk_52_method_16_code 6 = .ok (.aload_n 3, 1) := by decide +kernel
theorem d_jdk_52_m16_7 : decode jdk_52_method_16_code 7 = .ok (.iconst 0, 1) := by decide +kernel
theorem d_jdk_52_m16_8 : decode jdk_52_method_16_code 8 = .ok (.iload_n 2, 1) := by decide +kernel
theorem d_jdk_52_m16_9 : decode jdk_52_method_16_code 9 = .ok (.invokestatic 115, 3) := by decide +kernel
theorem d_jdk_52_m16_12 : decode jdk_52_method_16_code 12 = .ok (.istore 4, 2) := by decide +kernel
theorem d_jdk_52_m16_14 : decode jdk_52_method_16_code 14 = .ok (.iload 4, 2) := by decide +kernel
theorem d_jdk_52_m16_16 : decode jdk_52_method_16_code 16 = .ok (.iload_n 2, 1) := by decide +kernel
theorem d_jdk_52_m16_17 : decode jdk_52_method_16_code 17 = .ok (.if_icmp .eq 40, 3) := by decide +kernel
theorem d_jdk_52_m16_20 : decode jdk_52_method_16_code 20 = .ok (.aload_n 0, 1) := by decide +kernel
theorem d_jdk_52_m16_21 : decode jdk_52_method_16_code 21 = .ok (.iload_n 1, 1) := by decide +kernel
theorem d_jdk_52_m16_22 : decode jdk_52_method_16_code 22 = .ok (.iload_n 2, 1) := by decide +kernel
theorem d_jdk_52_m16_23 : decode jdk_52_method_16_code 23 = .ok (.invokestatic 119, 3) := by decide +kernel
theorem d_jdk_52_m16_26 : decode jdk_52_method_16_code 26 = .ok (.astore 5, 2) := by decide +kernel
theorem d_jdk_52_m16_28 : decode jdk_52_method_16_code 28 = .ok (.aload 5, 2) := by decide +kernel
theorem d_jdk_52_m16_30 : decode jdk_52_method_16_code 30 = .ok (.iload 4, 2) := by decide +kernel
theorem d_jdk_52_m16_32 : decode jdk_52_method_16_code 32 = .ok (.invokestatic 71, 3) := by decide +kernel
theorem d_jdk_52_m16_35 : decode jdk_52_method_16_code 35 = .ok (.sipush 255, 3) := by decide +kernel
theorem d_jdk_52_m16_38 : decode jdk_52_method_16_code 38 = .ok (.if_icmp .gt 16, 3) := by decide +kernel
theorem d_jdk_52_m16_41 : decode jdk_52_method_16_code 41 = .ok (.aload 5, 2) := by decide +kernel
theorem d_jdk_52_m16_43 : decode jdk_52_method_16_code 43 = .ok (.iconst 0, 1) := by decide +kernel
theorem d_jdk_52_m16_44 : decode jdk_52_method_16_code 44 = .ok (.aload_n 3, 1) := by decide +kernel
theorem d_jdk_52_m16_45 : decode jdk_52_method_16_code 45 = .ok (.iconst 0, 1) := by decide +kernel
theorem d_jdk_52_m16_46 : decode jdk_52_method_16_code 46 = .ok (.iload_n 2, 1) := by decide +kernel
theorem d_jdk_52_m16_47 : decode jdk_52_method_16_code 47 = .ok (.invokestatic 123, 3) := by decide +kernel
theorem d_jdk_52_m16_50 : decode jdk_52_method_16_code 50 = .ok (.iload_n 2, 1) := by decide +kernel
theorem d_jdk_52_m16_51 : decode jdk_52_method_16_code 51 = .ok (.if_icmp .eq 6, 3) := by decide +kernel
theorem d_jdk_52_m16_54 : decode jdk_52_method_16_code 54 = .ok (.aload 5, 2) := by decide +kernel
theorem d_jdk_52_m16_56 : decode jdk_52_method_16_code 56 = .ok (.areturn, 1) := by decide +kernel
theorem d_jdk_52_m16_57 : decode jdk_52_method_16_code 57 = .ok (.aload_n 3, 1) := by decide +kernel
theorem d_jdk_52_m16_58 : decode jdk_52_method_16_code 58 = .ok (.areturn, 1) := by decide +kernel
set_option maxRecDepth 65536 in
set_option maxHeartbeats 40000000 in
theorem cCmp3 {l : Launch} {Z : State} {a0 : Array Value} (W : Wd Z a0) {EL : List (String × Nat)} {vm : Vm} {h : Heap} {b : Addr} {kb : ClassId} {cs : List Int32} (U : UT Z) (A : Arv Z h b kb .char (Int32.ofNat cs.length) (cs.map Value.int) (.int 0)) (hl : cs.length ≤ 40) (hc : ∀ c ∈ cs, C16 c) (hu : ¬ ∀ c ∈ cs, ¬ (255 : Int32) < c) :
    Ctr false l Z a0 EL (⟨"java/lang/StringUTF16", "compress", "([CII)[B"⟩ : MethodName) jdk_52_method_16_code 6 (some (.array .byte)) ({ frames := 3, cells := 2, slots := 120, locals := 40 } : Room) #[.ref b, .int (0 : Int32), .int (Int32.ofNat cs.length)] vm h (fun v vm' h' => ∃ r kr, v = some (.ref r) ∧ Ext h h' ∧ Arv Z h' r kr .byte (Int32.ofNat (2 * cs.length)) (b2 cs) (.int 0) ∧ h.size ≤ r) := by
  refine Ctr.of_go (L0 := #[.val (.ref b), .val (.int (0 : Int32)), .val (.int (Int32.ofNat cs.length)), .unset, .unset, .unset]) (by first | exact plainFor_of_name (by first | (simp [plainName, overriddenIn]; done) | decide +kernel) | decide +kernel) (fun m => by first | (simp [entryFrame, mkF, argsToLocals, Value.category, maxLocals]; done) | rfl) (fun p e s m below meth c vmi chi => ?_)
  refine Go.iload_n 1 d_jdk_52_m16_0 rfl rfl ?_
  refine Go.newarrayE (aty := .byte) (z := (Int32.ofNat cs.length)) (ad := "[B") (by decide +kernel) 40 3 d_jdk_52_m16_1 rfl (W.1 23 rfl) (nneg (by omega)) (by rw [clampN (by omega)]; omega) (by decide) (nl rfl) (nl rfl) (fun d1 h1 e1 E1 ⟨k1, B1, Y1⟩ S1 z1 c1 => ?_)
  refine Go.astore_n #[.val (.ref b), .val (.int (0 : Int32)), .val (.int (Int32.ofNat cs.length)), .val (.ref d1), .unset, .unset] 4 d_jdk_52_m16_3 rfl rfl rfl ?_
  refine Go.aload_n 5 d_jdk_52_m16_4 rfl rfl rfl ?_
  refine Go.iload_n 6 d_jdk_52_m16_5 rfl rfl ?_
  refine Go.aload_n 7 d_jdk_52_m16_6 rfl rfl rfl ?_
  refine Go.iconst (0) 8 d_jdk_52_m16_7 rfl rfl ?_
  refine Go.iload_n 9 d_jdk_52_m16_8 rfl rfl ?_
  have f2 := A.ext E1
  refine Go.invokestatic (rest := []) 0 [.ref b, .int (0 : Int32), .ref d1, .int (0 : Int32), .int (Int32.ofNat cs.length)] 12 d_jdk_52_m16_9 rfl (W.1 24 rfl) (W.1 25 rfl) (W.1 21 rfl) (W.1 26 rfl) (by decide) (cCmp5 W f2 B1 hl hu (ne_of_new A.lt (Nat.le_of_eq e1.symm)) S1 z1) (by decide +kernel : parseMethodDescriptor "([CI[BII)I" = some ⟨[(.array .char), .int, (.array .byte), .int, .int], (some .int)⟩) rfl rfl rfl (nl rfl) (nl rfl) (nl rfl) (nl rfl) (nl rfl) (fun v3 vm3 h3 ⟨i9, rv, hi9, g9, K9⟩ c3 => ?_)
  subst rv
  have E9 := Ext.kp1 E1 K9 e1
  refine Go.istore #[.val (.ref b), .val (.int (0 : Int32)), .val (.int (Int32.ofNat cs.length)), .val (.ref d1), .val (.int (Int32.ofNat i9)), .unset] 14 d_jdk_52_m16_12 rfl rfl ?_
  refine Go.iload 16 d_jdk_52_m16_14 rfl rfl ?_
  refine Go.iload_n 17 d_jdk_52_m16_16 rfl rfl ?_
  refine Go.if_icmpeq 57 20 d_jdk_52_m16_17 (by decide) rfl rfl (fun q4 => absurd ((ofNat_inj (by omega) (by omega)).mp q4) (by omega)) (fun q4 => ?_)
  refine Go.aload_n 21 d_jdk_52_m16_20 rfl rfl rfl ?_
  refine Go.iload_n 22 d_jdk_52_m16_21 rfl rfl ?_
  refine Go.iload_n 23 d_jdk_52_m16_22 rfl rfl ?_
  have f5 := A.ext E9
  refine Go.invokestatic (rest := []) 0 [.ref b, .int (0 : Int32), .int (Int32.ofNat cs.length)] 26 d_jdk_52_m16_23 rfl (W.1 244 rfl) (W.1 245 rfl) (W.1 21 rfl) (W.1 246 rfl) (by decide) (cToB W U f5 hl hc) (by decide +kernel : parseMethodDescriptor "([CII)[B" = some ⟨[(.array .char), .int, .int], (some (.array .byte))⟩) rfl rfl rfl (nl rfl) (nl rfl) (nl rfl) (nl rfl) (nl rfl) (fun v6 vm6 h6 ⟨r, kr, rv, E8, A8, hr⟩ c6 => ?_)
  subst rv
  refine Go.astore #[.val (.ref b), .val (.int (0 : Int32)), .val (.int (Int32.ofNat cs.length)), .val (.ref d1), .val (.int (Int32.ofNat i9)), .val (.ref r)] 28 d_jdk_52_m16_26 rfl rfl rfl ?_
  refine Go.aload 30 d_jdk_52_m16_28 rfl rfl rfl ?_
  refine Go.iload 32 d_jdk_52_m16_30 rfl rfl ?_
  refine Go.invokestatic (rest := []) 0 [.ref r, .int (Int32.ofNat i9)] 35 d_jdk_52_m16_32 rfl (W.1 260 rfl) (W.1 261 rfl) (W.1 21 rfl) (W.1 262 rfl) (by decide) (cGetC W U A8 hi9 (Nat.le_refl _) (by omega) (hc _ (getIn hi9))) (by decide +kernel : parseMethodDescriptor "([BI)C" = some ⟨[(.array .byte), .int], (some .char)⟩) rfl rfl rfl (nl rfl) (nl rfl) (nl rfl) (nl rfl) (nl rfl) (fun v7 vm7 h7 ⟨rv, hh⟩ c7 => ?_)
  subst rv; replace hh := hh.symm; subst hh
  refine Go.sipush (255) 38 d_jdk_52_m16_35 rfl rfl ?_
  refine Go.if_icmpgt 54 41 d_jdk_52_m16_38 (by decide) rfl rfl (fun q8 => ?_) (fun q8 => absurd g9 q8)
  refine Go.aload 56 d_jdk_52_m16_54 rfl rfl rfl ?_
  exact Go.areturn d_jdk_52_m16_56 rfl rfl rfl (nl rfl) (nl rfl) (fun vm' ch => ⟨r, kr, rfl, (Ext.tr E9 E8), A8, Nat.le_trans E9.1 hr⟩)
theorem d_jdk_52_m15_0 : decode jdk_52_method_15_code 0 = .ok (.iload_n 1, 1) := by decide +kernel
theorem d_jdk_52_m15_1 : decode jdk_52_method_15_code 1 = .ok (.aload_n 0, 1) := by decide +kernel
theorem d_jdk_52_m15_2 : decode jdk_52_method_15_code 2 = .ok (.arraylength, 1) := by decide +kernel
theorem d_jdk_52_m15_3 : decode jdk_52_method_15_code 3 = .ok (.isub, 1) := by decide +kernel
theorem d_jdk_52_m15_4 : decode jdk_52_method_15_code 4 = .ok (.bipush 31, 2) := by decide +kernel
theorem d_jdk_52_m15_6 : decode jdk_52_method_15_code 6 = .ok (.iushr, 1) := by decide +kernel
theorem d_jdk_52_m15_7 : decode jdk_52_method_15_code 7 = .ok (.i2b, 1) := by decide +kernel
theorem d_jdk_52_m15_8 : decode jdk_52_method_15_code 8 = .ok (.ireturn, 1) := by decide +kernel
set_option maxRecDepth 65536 in
set_option maxHeartbeats 40000000 in
theorem cCfl {l : Launch} {Z : State} {a0 : Array Value} (W : Wd Z a0) {EL : List (String × Nat)} {vm : Vm} {h : Heap} {r : Addr} {kr : ClassId} {n_ : Nat} {vs : List Value} {dv : Value} (A : Arv Z h r kr .byte (Int32.ofNat (2 * n_)) vs dv) (h0 : 0 < n_) (h3 : n_ < 4) :
    Ctr false l Z a0 EL (⟨"java/lang/StringUTF16", "coderFromArrayLen", "([BI)B"⟩ : MethodName) jdk_52_method_15_code 2 (some .byte) ({ frames := 0, cells := 0, slots := 0, locals := 0 } : Room) #[.ref r, .int (Int32.ofNat n_)] vm h (fun v vm' h' => v = some (.int 1) ∧ h' = h) := by
  refine Ctr.of_go (L0 := #[.val (.ref r), .val (.int (Int32.ofNat n_))]) (by first | exact plainFor_of_name (by first | (simp [plainName, overriddenIn]; done) | decide +kernel) | decide +kernel) (fun m => by first | (simp [entryFrame, mkF, argsToLocals, Value.category, maxLocals]; done) | rfl) (fun p e s m below meth c vmi chi => ?_)
  refine Go.iload_n 1 d_jdk_52_m15_0 rfl rfl ?_
  refine Go.aload_n 2 d_jdk_52_m15_1 rfl rfl rfl ?_
  refine Go.arraylength 3 d_jdk_52_m15_2 rfl A ?_
  refine Go.isub ((Int32.ofNat n_) - (Int32.ofNat (2 * n_))) 4 d_jdk_52_m15_3 rfl rfl ?_
  refine Go.bipush (31) 6 d_jdk_52_m15_4 rfl rfl ?_
  refine Go.iushr (1 : Int32) 7 d_jdk_52_m15_6 rfl (cflF ⟨n_, h3⟩ h0) ?_
  refine Go.i2b (1 : Int32) 8 d_jdk_52_m15_7 rfl (by decide) ?_
  exact Go.ireturn d_jdk_52_m15_8 rfl rfl (by simp) (nl rfl) (nl rfl) (fun vm' ch => ⟨rfl, rfl⟩)
set_option maxRecDepth 65536 in
set_option maxHeartbeats 40000000 in
theorem cIni4U {l : Launch} {Z : State} {a0 : Array Value} (W : Wd Z a0) {EL : List (String × Nat)} {vm : Vm} {h : Heap} {a b : Addr} {kb : ClassId} {v0 c0 : Value} {cs : List Int32} (U : UT Z) (E : Exa Z h a "java/lang/String") (F1 : Fld Z h a "java/lang/String" "value" "[B" (v0)) (F2 : Fld Z h a "java/lang/String" "coder" "B" (c0)) (Sa : Safe Z EL vm h a) (hz : Z.heap.size ≤ a) (A : Arv Z h b kb .char (Int32.ofNat cs.length) (cs.map Value.int) (.int 0)) (lpos : 0 < cs.length) (lsm : cs.length < 4) (hc : ∀ c ∈ cs, C16 c) (hu : ¬ ∀ c ∈ cs, ¬ (255 : Int32) < c) :
    Ctr false l Z a0 EL (⟨"java/lang/String", "<init>", "([CIILjava/lang/Void;)V"⟩ : MethodName) jdk_42_method_149_code 6 none ({ frames := 4, cells := 2, slots := 120, locals := 57 } : Room) #[.ref a, .ref b, .int (0 : Int32), .int (Int32.ofNat cs.length), .null] vm h (fun v vm' h' => v = none ∧ Keep h h' [a] ∧ Str2 Z h' a cs) := by
  refine Ctr.of_go (L0 := #[.val (.ref a), .val (.ref b), .val (.int (0 : Int32)), .val (.int (Int32.ofNat cs.length)), .val (.null), .unset]) (by first | exact plainFor_of_name (by first | (simp [plainName, overriddenIn]; done) | decide +kernel) | decide +kernel) (fun m => by first | (simp [entryFrame, mkF, argsToLocals, Value.category, maxLocals]; done) | rfl) (fun p e s m below meth c vmi chi => ?_)
  refine Go.aload_n 1 d_jdk_42_m149_0 rfl rfl rfl ?_
  refine Go.initObject 0 4 d_jdk_42_m149_1 rfl (W.1 15 rfl) (W.1 16 rfl) (W.1 17 rfl) rfl (nl rfl) (nl rfl) (nl rfl) ?_
  refine Go.iload_n 5 d_jdk_42_m149_4 rfl rfl ?_
  refine Go.ifne 27 8 d_jdk_42_m149_5 (by decide) rfl rfl (fun q1 => ?_) (fun q1 => absurd ((ofNat_inj (b := 0) (by omega) (by decide)).mp q1) (by omega))
  refine Go.know fun hE1 _ _ => ?_
  obtain ⟨zc1, Cz1, hc1⟩ := W.2.1
  refine Go.getstatic 30 d_jdk_42_m149_27 rfl (W.1 18 rfl) (Cz1.ext hE1) ?_
  refine Go.ifeq 58 33 d_jdk_42_m149_30 (by decide) rfl rfl (fun q2 => absurd q2 hc1) (fun q2 => ?_)
  refine Go.aload_n 34 d_jdk_42_m149_33 rfl rfl rfl ?_
  refine Go.iload_n 35 d_jdk_42_m149_34 rfl rfl ?_
  refine Go.iload_n 36 d_jdk_42_m149_35 rfl rfl ?_
  refine Go.invokestatic (rest := []) 0 [.ref b, .int (0 : Int32), .int (Int32.ofNat cs.length)] 39 d_jdk_42_m149_36 rfl (W.1 19 rfl) (W.1 20 rfl) (W.1 21 rfl) (W.1 22 rfl) (by decide) (cCmp3 W U A (by omega) hc hu) (by decide +kernel : parseMethodDescriptor "([CII)[B" = some ⟨[(.array .char), .int, .int], (some (.array .byte))⟩) rfl rfl rfl (nl rfl) (nl rfl) (nl rfl) (nl rfl) (nl rfl) (fun v3 vm3 h3 ⟨r, kr, rv, E1, A1, hr⟩ c3 => ?_)
  subst rv
  refine Go.astore #[.val (.ref a), .val (.ref b), .val (.int (0 : Int32)), .val (.int (Int32.ofNat cs.length)), .val (.null), .val (.ref r)] 41 d_jdk_42_m149_39 rfl rfl rfl ?_
  refine Go.aload_n 42 d_jdk_42_m149_41 rfl rfl rfl ?_
  refine Go.aload 44 d_jdk_42_m149_42 rfl rfl rfl ?_
  refine Go.iload_n 45 d_jdk_42_m149_44 rfl rfl ?_
  refine Go.invokestatic (rest := [.ref a]) 1 [.ref r, .int (Int32.ofNat cs.length)] 48 d_jdk_42_m149_45 rfl (W.1 27 rfl) (W.1 28 rfl) (W.1 21 rfl) (W.1 29 rfl) (by decide) (cCfl W A1 lpos lsm) (by decide +kernel : parseMethodDescriptor "([BI)B" = some ⟨[(.array .byte), .int], (some .byte)⟩) rfl rfl rfl (nl rfl) (nl rfl) (nl rfl) (nl rfl) (nl rfl) (fun v4 vm4 h4 ⟨rv, hh⟩ c4 => ?_)
  subst rv; replace hh := hh.symm; subst hh
  have f5 := CHr.safe (CHr.trans chi (CHr.trans c3 c4)) E.lt Sa
  have L5 := Nat.lt_of_lt_of_le E.lt (CHr.trans chi (CHr.trans c3 c4)).2.1
  refine Go.putfield 51 d_jdk_42_m149_48 rfl (W.1 30 rfl) (F2.ext E1) (E.ext E1) (Or.inr ⟨(W.1 31 rfl), rfl, rfl⟩) (W.1 5 rfl) (ty := .byte) (by decide) rfl rfl f5 hz (fun h6 X6 S6 c6 => ?_)
  have nr : r ≠ a := (ne_of_new E.lt hr).symm
  have Ea := (E.ext E1).wr X6
  have G2 := (F2.ext E1).same X6
  have G1 := (F1.ext E1).other X6 (Or.inr (slot_ne (a0 := a0) (C := "java/lang/String") (Or.inr (W.1 33 rfl)) (Or.inr (W.1 31 rfl)) (by decide) (t := (.array .byte)) (t' := .byte) (by decide) (by decide)))
  have A2 := Arv.other A1 X6 nr
  refine Go.aload_n 52 d_jdk_42_m149_51 rfl rfl rfl ?_
  refine Go.aload 54 d_jdk_42_m149_52 rfl rfl rfl ?_
  refine Go.putfield 57 d_jdk_42_m149_54 rfl (W.1 32 rfl) G1 Ea (Or.inr ⟨(W.1 33 rfl), rfl, rfl⟩) (W.1 5 rfl) (ty := (.array .byte)) (by decide) rfl rfl S6 hz (fun h7 X7 S7 c7 => ?_)
  exact Go.return_ d_jdk_42_m149_57 rfl (nl rfl) (nl rfl) (fun vm' ch => ⟨rfl, ((Keep.ofExt E1 [a]).wr X6 (Or.inl (by simp))).wr X7 (Or.inl (by simp)), r, kr, Ea.wr X7, G2.other X7 (Or.inr (slot_ne (a0 := a0) (C := "java/lang/String") (Or.inr (W.1 31 rfl)) (Or.inr (W.1 33 rfl)) (by decide) (t := .byte) (t' := (.array .byte)) (by decide) (by decide))), G1.same X7, Arv.other A2 X7 nr, by omega, hc⟩)
set_option maxRecDepth 65536 in
set_option maxHeartbeats 40000000 in
theorem cIniU {l : Launch} {Z : State} {a0 : Array Value} (W : Wd Z a0) {EL : List (String × Nat)} {vm : Vm} {h : Heap} {a b : Addr} {kb : ClassId} {v0 c0 : Value} {cs : List Int32} (U : UT Z) (E : Exa Z h a "java/lang/String") (F1 : Fld Z h a "java/lang/String" "value" "[B" (v0)) (F2 : Fld Z h a "java/lang/String" "coder" "B" (c0)) (Sa : Safe Z EL vm h a) (hz : Z.heap.size ≤ a) (A : Arv Z h b kb .char (Int32.ofNat cs.length) (cs.map Value.int) (.int 0)) (lpos : 0 < cs.length) (lsm : cs.length < 4) (hc : ∀ c ∈ cs, C16 c) (hu : ¬ ∀ c ∈ cs, ¬ (255 : Int32) < c) :
    Ctr false l Z a0 EL (⟨"java/lang/String", "<init>", "([C)V"⟩ : MethodName) jdk_42_method_3_code 2 none ({ frames := 5, cells := 2, slots := 120, locals := 74 } : Room) #[.ref a, .ref b] vm h (fun v vm' h' => v = none ∧ Keep h h' [a] ∧ Str2 Z h' a cs) := by
  refine Ctr.of_go (L0 := #[.val (.ref a), .val (.ref b)]) (by first | exact plainFor_of_name (by first | (simp [plainName, overriddenIn]; done) | decide +kernel) | decide +kernel) (fun m => by first | (simp [entryFrame, mkF, argsToLocals, Value.category, maxLocals]; done) | rfl) (fun p e s m below meth c vmi chi => ?_)
  refine Go.aload_n 1 d_jdk_42_m3_0 rfl rfl rfl ?_
  refine Go.aload_n 2 d_jdk_42_m3_1 rfl rfl rfl ?_
  refine Go.iconst (0) 3 d_jdk_42_m3_2 rfl rfl ?_
  refine Go.aload_n 4 d_jdk_42_m3_3 rfl rfl rfl ?_
  refine Go.arraylength 5 d_jdk_42_m3_4 rfl A ?_
  refine Go.aconst_null 6 d_jdk_42_m3_5 rfl ?_
  refine Go.invokespecial (rest := []) 0 a [.ref b, .int (0 : Int32), .int (Int32.ofNat cs.length), .null] 9 d_jdk_42_m3_6 rfl rfl (W.1 11 rfl) (W.1 12 rfl) (W.1 6 rfl) (W.1 14 rfl) (by decide) (cIni4U W U E F1 F2 (chi.safe E.lt Sa) hz A lpos lsm hc hu) (by decide +kernel : parseMethodDescriptor "([CIILjava/lang/Void;)V" = some ⟨[(.array .char), .int, .int, (.object "java/lang/Void")], none⟩) rfl rfl rfl (nl rfl) (nl rfl) (nl rfl) (nl rfl) (nl rfl) (fun v1 vm1 h1 ⟨rv, K, T⟩ c1 => ?_)
  subst rv
  exact Go.return_ d_jdk_42_m3_9 rfl (nl rfl) (nl rfl) (fun vm' ch => ⟨rfl, K, T⟩)
theorem d_jdk_43_m3_0 : decode jdk_43_method_3_code 0 = .ok (.iload_n 0, 1) := by decide +kernel
theorem d_jdk_43_m3_1 : decode jdk_43_method_3_code 1 = .ok (.sipush 255, 3) := by decide +kernel
theorem d_jdk_43_m3_4 : decode jdk_43_method_3_code 4 = .ok (.if_icmp .gt 7, 3) := by decide +kernel
theorem d_jdk_43_m3_7 : decode jdk_43_method_3_code 7 = .ok (.iconst 1, 1) := by decide +kernel
theorem d_jdk_43_m3_8 : decode jdk_43_method_3_code 8 = .ok (.goto 4, 3) := by decide +kernel
theorem d_jdk_43_m3_11 : decode jdk_43_method_3_code 11 = .ok (.iconst 0, 1) := by decide +kernel
theorem d_jdk_43_m3_12 : decode jdk_43_method_3_code 12 = .ok (.ireturn, 1) := by decide +kernel
set_option maxRecDepth 65536 in
set_option maxHeartbeats 40000000 in
theorem cCanE {l : Launch} {Z : State} {a0 : Array Value} (W : Wd Z a0) {EL : List (String × Nat)} {vm : Vm} {h : Heap} {c_ : Int32} :
    Ctr false l Z a0 EL (⟨"java/lang/StringLatin1", "canEncode", "(C)Z"⟩ : MethodName) jdk_43_method_3_code 1 (some .boolean) ({ frames := 0, cells := 0, slots := 0, locals := 0 } : Room) #[.int c_] vm h (fun v vm' h' => v = some (.int (if (255 : Int32) < c_ then 0 else 1)) ∧ h' = h) := by
  refine Ctr.of_go (L0 := #[.val (.int c_)]) (by first | exact plainFor_of_name (by first | (simp [plainName, overriddenIn]; done) | decide +kernel) | decide +kernel) (fun m => by first | (simp [entryFrame, mkF, argsToLocals, Value.category, maxLocals]; done) | rfl) (fun p e s m below meth c vmi chi => ?_)
  refine Go.iload_n 1 d_jdk_43_m3_0 rfl rfl ?_
  refine Go.sipush (255) 4 d_jdk_43_m3_1 rfl rfl ?_
  refine Go.if_icmpgt 11 7 d_jdk_43_m3_4 (by decide) rfl rfl (fun g => ?_) (fun g => ?_)
  · refine Go.iconst (0) 12 d_jdk_43_m3_11 rfl rfl ?_
    exact Go.ireturn d_jdk_43_m3_12 rfl rfl (by simp) (nl rfl) (nl rfl) (fun vm' ch => ⟨by rw [if_pos g], rfl⟩)
  · refine Go.iconst (1) 8 d_jdk_43_m3_7 rfl rfl ?_
    refine Go.goto 12 d_jdk_43_m3_8 (by decide) rfl ?_
    exact Go.ireturn d_jdk_43_m3_12 rfl rfl (by simp) (nl rfl) (nl rfl) (fun vm' ch => ⟨by rw [if_neg g], rfl⟩)
theorem d_jdk_43_m46_0 : decode jdk_43_method_46_code 0 = .ok (.iconst 1, 1) := by decide +kernel
theorem d_jdk_43_m46_1 : decode jdk_43_method_46_code 1 = .ok (.newarray .byte, 2) := by decide +kernel
theorem d_jdk_43_m46_3 : decode jdk_43_method_46_code 3 = .ok (.dup, 1) := by decide +kernel
theorem d_jdk_43_m46_4 : decode jdk_43_method_46_code 4 = .ok (.iconst 0, 1) := by decide +kernel
theorem d_jdk_43_m46_5 : decode jdk_43_method_46_code 5 = .ok (.iload_n 0, 1) := by decide +kernel
theorem d_jdk_43_m46_6 : decode jdk_43_method_46_code 6 = .ok (.i2b, 1) := by decide +kernel
theorem d_jdk_43_m46_7 : decode jdk_43_method_46_code 7 = .ok (.bastore, 1) := by decide +kernel
theorem d_jdk_43_m46_8 : decode jdk_43_method_46_code 8 = .ok (.areturn, 1) := by decide +kernel
set_option maxRecDepth 65536 in
set_option maxHeartbeats 40000000 in
theorem cToB1 {l : Launch} {Z : State} {a0 : Array Value} (W : Wd Z a0) {EL : List (String × Nat)} {vm : Vm} {h : Heap} {c_ : Int32} :
    Ctr false l Z a0 EL (⟨"java/lang/StringLatin1", "toBytes", "(C)[B"⟩ : MethodName) jdk_43_method_46_code 1 (some (.array .byte)) ({ frames := 0, cells := 1, slots := 1, locals := 0 } : Room) #[.int c_] vm h (fun v vm' h' => ∃ r kr, v = some (.ref r) ∧ Ext h h' ∧ Arv Z h' r kr .byte (Int32.ofNat 1) (([c_].map fun (c : Int32) => c.toInt8.toInt32).map Value.int) (.int 0) ∧ h.size ≤ r) := by
  refine Ctr.of_go (L0 := #[.val (.int c_)]) (by first | exact plainFor_of_name (by first | (simp [plainName, overriddenIn]; done) | decide +kernel) | decide +kernel) (fun m => by first | (simp [entryFrame, mkF, argsToLocals, Value.category, maxLocals]; done) | rfl) (fun p e s m below meth c vmi chi => ?_)
  refine Go.iconst (1) 1 d_jdk_43_m46_0 rfl rfl ?_
  refine Go.newarrayE (aty := .byte) (z := (Int32.ofNat 1)) (ad := "[B") (by decide +kernel) 1 3 d_jdk_43_m46_1 rfl (W.1 23 rfl) (by decide) (by decide) (by decide) (nl rfl) (nl rfl) (fun r1 h1 e1 E1 ⟨k1, B1, Y1⟩ S1 z1 c1 => ?_)
  refine Go.dup 4 d_jdk_43_m46_3 rfl rfl ?_
  refine Go.iconst (0) 5 d_jdk_43_m46_4 rfl rfl ?_
  refine Go.iload_n 6 d_jdk_43_m46_5 rfl rfl ?_
  refine Go.i2b (c_.toInt8.toInt32) 7 d_jdk_43_m46_6 rfl rfl ?_
  have A1 := B1.pad (pad_rep _ _ 1)
  refine Go.bastore (0) (loB c_) (([c_].map fun (c : Int32) => c.toInt8.toInt32).map Value.int) 8 d_jdk_43_m46_7 rfl A1 (by decide) rfl (by decide) (idem8 c_) rfl S1 z1 (fun hs2 Ks2 As2 Ss2 cs2 => ?_)
  exact Go.areturn d_jdk_43_m46_8 rfl rfl rfl (nl rfl) (nl rfl) (fun vm' ch => ⟨r1, k1, rfl, Ext.kp1 E1 Ks2 e1, As2, Nat.le_of_eq e1.symm⟩)
theorem d_jdk_52_m24_0 : decode jdk_52_method_24_code 0 = .ok (.iconst 2, 1) := by decide +kernel
theorem d_jdk_52_m24_1 : decode jdk_52_method_24_code 1 = .ok (.newarray .byte, 2) := by decide +kernel
theorem d_jdk_52_m24_3 : decode jdk_52_method_24_code 3 = .ok (.astore_n 1, 1) := by decide +kernel
theorem d_jdk_52_m24_4 : decode jdk_52_method_24_code 4 = .ok (.aload_n 1, 1) := by decide +kernel
theorem d_jdk_52_m24_5 : decode jdk_52_method_24_code 5 = .ok (.iconst 0, 1) := by decide +kernel
theorem d_jdk_52_m24_6 : decode jdk_52_method_24_code 6 = .ok (.iload_n 0, 1) := by decide +kernel
theorem d_jdk_52_m24_7 : decode jdk_52_method_24_code 7 = .ok (.invokestatic 111, 3) := by decide +kernel
theorem d_jdk_52_m24_10 : decode jdk_52_method_24_code 10 = .ok (.aload_n 1, 1) := by decide +kernel
theorem d_jdk_52_m24_11 : decode jdk_52_method_24_code 11 = .ok (.areturn, 1) := by decide +kernel
set_option maxRecDepth 65536 in
set_option maxHeartbeats 40000000 in
theorem cToB2 {l : Launch} {Z : State} {a0 : Array Value} (W : Wd Z a0) {EL : List (String × Nat)} {vm : Vm} {h : Heap} {c_ : Int32} (U : UT Z) :
    Ctr false l Z a0 EL (⟨"java/lang/StringUTF16", "toBytes", "(C)[B"⟩ : MethodName) jdk_52_method_24_code 2 (some (.array .byte)) ({ frames := 1, cells := 1, slots := 2, locals := 14 } : Room) #[.int c_] vm h (fun v vm' h' => ∃ r kr, v = some (.ref r) ∧ Ext h h' ∧ Arv Z h' r kr .byte (Int32.ofNat 2) (b2 [c_]) (.int 0) ∧ h.size ≤ r) := by
  refine Ctr.of_go (L0 := #[.val (.int c_), .unset]) (by first | exact plainFor_of_name (by first | (simp [plainName, overriddenIn]; done) | decide +kernel) | decide +kernel) (fun m => by first | (simp [entryFrame, mkF, argsToLocals, Value.category, maxLocals]; done) | rfl) (fun p e s m below meth c vmi chi => ?_)
  refine Go.iconst (2) 1 d_jdk_52_m24_0 rfl rfl ?_
  refine Go.newarrayE (aty := .byte) (z := (Int32.ofNat (2 * 1))) (ad := "[B") (by decide +kernel) 2 3 d_jdk_52_m24_1 rfl (W.1 23 rfl) (by decide) (by decide) (by decide) (nl rfl) (nl rfl) (fun r1 h1 e1 E1 ⟨k1, B1, Y1⟩ S1 z1 c1 => ?_)
  refine Go.astore_n #[.val (.int c_), .val (.ref r1)] 4 d_jdk_52_m24_3 rfl rfl rfl ?_
  refine Go.aload_n 5 d_jdk_52_m24_4 rfl rfl rfl ?_
  refine Go.iconst (0) 6 d_jdk_52_m24_5 rfl rfl ?_
  refine Go.iload_n 7 d_jdk_52_m24_6 rfl rfl ?_
  refine Go.invokestatic (rest := []) 0 [.ref r1, .int (0 : Int32), .int c_] 10 d_jdk_52_m24_7 rfl (W.1 254 rfl) (W.1 255 rfl) (W.1 21 rfl) (W.1 256 rfl) (by decide) (cPutC W (xs := []) (m_ := 1) U B1 (by decide) (by decide) S1 z1) (by decide +kernel : parseMethodDescriptor "([BII)V" = some ⟨[(.array .byte), .int, .int], none⟩) rfl rfl rfl (nl rfl) (nl rfl) (nl rfl) (nl rfl) (nl rfl) (fun v2 vm2 h2 ⟨rv, K1, A1⟩ c2 => ?_)
  subst rv
  refine Go.aload_n 11 d_jdk_52_m24_10 rfl rfl rfl ?_
  exact Go.areturn d_jdk_52_m24_11 rfl rfl rfl (nl rfl) (nl rfl) (fun vm' ch => ⟨r1, k1, rfl, Ext.kp1 E1 K1 e1, A1, Nat.le_of_eq e1.symm⟩)
theorem d_jdk_42_m151_0 : decode jdk_42_method_151_code 0 = .ok (.aload_n 0, 1) := by decide +kernel
theorem d_jdk_42_m151_1 : decode jdk_42_method_151_code 1 = .ok (.invokespecial 1, 3) := by decide +kernel
theorem d_jdk_42_m151_4 : decode jdk_42_method_151_code 4 = .ok (.aload_n 0, 1) := by decide +kernel
theorem d_jdk_42_m151_5 : decode jdk_42_method_151_code 5 = .ok (.aload_n 1, 1) := by decide +kernel
theorem d_jdk_42_m151_6 : decode jdk_42_method_151_code 6 = .ok (.putfield 9, 3) := by decide +kernel
theorem d_jdk_42_m151_9 : decode jdk_42_method_151_code 9 = .ok (.aload_n 0, 1) := by decide +kernel
theorem d_jdk_42_m151_10 : decode jdk_42_method_151_code 10 = .ok (.iload_n 2, 1) := by decide +kernel
theorem d_jdk_42_m151_11 : decode jdk_42_method_151_code 11 = .ok (.putfield 15, 3) := by decide +kernel
theorem d_jdk_42_m151_14 : decode jdk_42_method_151_code 14 = .ok (.return_, 1) := by decide +kernel
set_option maxRecDepth 65536 in
set_option maxHeartbeats 40000000 in
theorem cIniB {l : Launch} {Z : State} {a0 : Array Value} (W : Wd Z a0) {EL : List (String × Nat)} {vm : Vm} {h : Heap} {a r : Addr} {v0 c0 : Value} {u_ : Int32} (hu : u_ = 0 ∨ u_ = 1) (E : Exa Z h a "java/lang/String") (F1 : Fld Z h a "java/lang/String" "value" "[B" (v0)) (F2 : Fld Z h a "java/lang/String" "coder" "B" (c0)) (Sa : Safe Z EL vm h a) (hz : Z.heap.size ≤ a) :
    Ctr false l Z a0 EL (⟨"java/lang/String", "<init>", "([BB)V"⟩ : MethodName) jdk_42_method_151_code 3 none ({ frames := 1, cells := 0, slots := 0, locals := 12 } : Room) #[.ref a, .ref r, .int u_] vm h (fun v vm' h' => v = none ∧ Keep h h' [a] ∧ Exa Z h' a "java/lang/String" ∧ Fld Z h' a "java/lang/String" "coder" "B" (.int u_) ∧ Fld Z h' a "java/lang/String" "value" "[B" (.ref r)) := by
  refine Ctr.of_go (L0 := #[.val (.ref a), .val (.ref r), .val (.int u_)]) (by first | exact plainFor_of_name (by first | (simp [plainName, overriddenIn]; done) | decide +kernel) | decide +kernel) (fun m => by first | (simp [entryFrame, mkF, argsToLocals, Value.category, maxLocals]; done) | rfl) (fun p e s m below meth c vmi chi => ?_)
  refine Go.aload_n 1 d_jdk_42_m151_0 rfl rfl rfl ?_
  refine Go.initObject 0 4 d_jdk_42_m151_1 rfl (W.1 15 rfl) (W.1 16 rfl) (W.1 17 rfl) rfl (nl rfl) (nl rfl) (nl rfl) ?_
  refine Go.aload_n 5 d_jdk_42_m151_4 rfl rfl rfl ?_
  refine Go.aload_n 6 d_jdk_42_m151_5 rfl rfl rfl ?_
  have f1 := CHr.safe chi E.lt Sa
  have L1 := Nat.lt_of_lt_of_le E.lt chi.2.1
  refine Go.putfield 9 d_jdk_42_m151_6 rfl (W.1 32 rfl) F1 E (Or.inr ⟨(W.1 33 rfl), rfl, rfl⟩) (W.1 5 rfl) (ty := (.array .byte)) (by decide) rfl rfl f1 hz (fun h2 X2 S2 c2 => ?_)
  have Ea := E.wr X2
  refine Go.aload_n 10 d_jdk_42_m151_9 rfl rfl rfl ?_
  refine Go.iload_n 11 d_jdk_42_m151_10 rfl rfl ?_
  refine Go.putfield 14 d_jdk_42_m151_11 rfl (W.1 30 rfl) (F2.other X2 (Or.inr (slot_ne (a0 := a0) (C := "java/lang/String") (Or.inr (W.1 31 rfl)) (Or.inr (W.1 33 rfl)) (by decide) (t := .byte) (t' := (.array .byte)) (by decide) (by decide)))) Ea (Or.inr ⟨(W.1 31 rfl), rfl, rfl⟩) (W.1 5 rfl) (ty := .byte) (by decide) (by rcases hu with rfl | rfl <;> rfl) (by rcases hu with rfl | rfl <;> rfl) S2 hz (fun h3 X3 S3 c3 => ?_)
  exact Go.return_ d_jdk_42_m151_14 rfl (nl rfl) (nl rfl) (fun vm' ch => ⟨rfl, (Keep.of_wr X2).wr X3 (Or.inl (by simp)), Ea.wr X3, (F2.other X2 (Or.inr (slot_ne (a0 := a0) (C := "java/lang/String") (Or.inr (W.1 31 rfl)) (Or.inr (W.1 33 rfl)) (by decide) (t := .byte) (t' := (.array .byte)) (by decide) (by decide)))).same X3, (F1.same X2).other X3 (Or.inr (slot_ne (a0 := a0) (C := "java/lang/String") (Or.inr (W.1 33 rfl)) (Or.inr (W.1 31 rfl)) (by decide) (t := (.array .byte)) (t' := .byte) (by decide) (by decide)))⟩)
theorem d_jdk_42_m139_0 : decode jdk_42_method_139_code 0 = .ok (.getstatic 38, 3) := by decide +kernel
theorem d_jdk_42_m139_3 : decode jdk_42_method_139_code 3 = .ok (.ifCond .eq 23, 3) := by decide +kernel
theorem d_jdk_42_m139_6 : decode jdk_42_method_139_code 6 = .ok (.iload_n 0, 1) := by decide +kernel
theorem d_jdk_42_m139_7 : decode jdk_42_method_139_code 7 = .ok (.invokestatic 1015, 3) := by decide +kernel
theorem d_jdk_42_m139_10 : decode jdk_42_method_139_code 10 = .ok (.ifCond .eq 16, 3) := by decide +kernel
theorem d_jdk_42_m139_13 : decode jdk_42_method_139_code 13 = .ok (.new 10, 3) := by decide +kernel
theorem d_jdk_42_m139_16 : decode jdk_42_method_139_code 16 = .ok (.dup, 1) := by decide +kernel
theorem d_jdk_42_m139_17 : decode jdk_42_method_139_code 17 = .ok (.iload_n 0, 1) := by decide +kernel
theorem d_jdk_42_m139_18 : decode jdk_42_method_139_code 18 = .ok (.invokestatic 1018, 3) := by decide +kernel
theorem d_jdk_42_m139_21 : decode jdk_42_method_139_code 21 = .ok (.iconst 0, 1) := by decide +kernel
theorem d_jdk_42_m139_22 : decode jdk_42_method_139_code 22 = .ok (.invokespecial 209, 3) := by decide +kernel
theorem d_jdk_42_m139_25 : decode jdk_42_method_139_code 25 = .ok (.areturn, 1) := by decide +kernel
theorem d_jdk_42_m139_26 : decode jdk_42_method_139_code 26 = .ok (.new 10, 3) := by decide +kernel
theorem d_jdk_42_m139_29 : decode jdk_42_method_139_code 29 = .ok (.dup, 1) := by decide +kernel
theorem d_jdk_42_m139_30 : decode jdk_42_method_139_code 30 = .ok (.iload_n 0, 1) := by decide +kernel
theorem d_jdk_42_m139_31 : decode jdk_42_method_139_code 31 = .ok (.invokestatic 1021, 3) := by decide +kernel
theorem d_jdk_42_m139_34 : decode jdk_42_method_139_code 34 = .ok (.iconst 1, 1) := by decide +kernel
theorem d_jdk_42_m139_35 : decode jdk_42_method_139_code 35 = .ok (.invokespecial 209, 3) := by decide +kernel
theorem d_jdk_42_m139_38 : decode jdk_42_method_139_code 38 = .ok (.areturn, 1) := by decide +kernel
set_option maxRecDepth 65536 in
set_option maxHeartbeats 40000000 in
theorem cVof {l : Launch} {Z : State} {a0 : Array Value} (W : Wd Z a0) {EL : List (String × Nat)} {vm : Vm} {h : Heap} {c_ : Int32} (U : UT Z) (hc : C16 c_) :
    Ctr false l Z a0 EL (⟨"java/lang/String", "valueOf", "(C)Ljava/lang/String;"⟩ : MethodName) jdk_42_method_139_code 1 (some (.object "java/lang/String")) ({ frames := 2, cells := 2, slots := 6, locals := 29 } : Room) #[.int c_] vm h (fun v vm' h' => ∃ a, v = some (.ref a) ∧ Ext h h' ∧ StrU Z h' a [c_]) := by
  refine Ctr.of_go (L0 := #[.val (.int c_)]) (by first | exact plainFor_of_name (by first | (simp [plainName, overriddenIn]; done) | decide +kernel) | decide +kernel) (fun m => by first | (simp [entryFrame, mkF, argsToLocals, Value.category, maxLocals]; done) | rfl) (fun p e s m below meth c vmi chi => ?_)
  refine Go.know fun hE1 _ _ => ?_
  obtain ⟨zc1, Cz1, hc1⟩ := W.2.1
  refine Go.getstatic 3 d_jdk_42_m139_0 rfl (W.1 18 rfl) (Cz1.ext hE1) ?_
  refine Go.ifeq 26 6 d_jdk_42_m139_3 (by decide) rfl rfl (fun q1 => absurd q1 hc1) (fun q1 => ?_)
  refine Go.iload_n 7 d_jdk_42_m139_6 rfl rfl ?_
  refine Go.invokestatic (rest := []) 0 [.int c_] 10 d_jdk_42_m139_7 rfl (W.1 233 rfl) (W.1 228 rfl) (W.1 78 rfl) (W.1 229 rfl) (by decide) (cCanE W ) (by decide +kernel : parseMethodDescriptor "(C)Z" = some ⟨[.char], (some .boolean)⟩) rfl rfl rfl (nl rfl) (nl rfl) (nl rfl) (nl rfl) (nl rfl) (fun v2 vm2 h2 ⟨rv, hh⟩ c2 => ?_)
  subst rv; replace hh := hh.symm; subst hh
  by_cases g : (255 : Int32) < c_
  · refine Go.ifeq 26 13 d_jdk_42_m139_10 (by decide) rfl rfl (fun q3 => ?_) (fun q3 => (by rw [if_pos g] at q3; exact absurd q3 (by decide)))
    refine Go.new 29 d_jdk_42_m139_26 rfl (W.1 234 rfl) (W.1 5 rfl) (W.1 6 rfl) (nl rfl) (nl rfl) (fun x1 h4 e4 E4 ⟨A4, D4⟩ S4 z4 c4 => ?_)
    refine Go.dup 30 d_jdk_42_m139_29 rfl rfl ?_
    refine Go.iload_n 31 d_jdk_42_m139_30 rfl rfl ?_
    have f5 := D4 (Or.inr (W.1 33 rfl)) (ty := (.array .byte)) (by decide)
    have f6 := D4 (Or.inr (W.1 31 rfl)) (ty := .byte) (by decide)
    refine Go.invokestatic (rest := [.ref x1, .ref x1]) 2 [.int c_] 34 d_jdk_42_m139_31 rfl (W.1 299 rfl) (W.1 300 rfl) (W.1 21 rfl) (W.1 301 rfl) (by decide) (cToB2 W U) (by decide +kernel : parseMethodDescriptor "(C)[B" = some ⟨[.char], (some (.array .byte))⟩) rfl rfl rfl (nl rfl) (nl rfl) (nl rfl) (nl rfl) (nl rfl) (fun v7 vm7 h7 ⟨r, kr, rv, E1, A1, hr⟩ c7 => ?_)
    subst rv
    refine Go.iconst (1) 35 d_jdk_42_m139_34 rfl rfl ?_
    have nr : r ≠ x1 := (ne_of_new A4.lt hr).symm
    have f8 := A4.ext E1
    have f9 := f5.ext E1
    have f10 := f6.ext E1
    have f11 := CHr.safe c7 A4.lt S4
    have L11 := Nat.lt_of_lt_of_le A4.lt c7.2.1
    refine Go.invokespecial (rest := [.ref x1]) 1 x1 [.ref r, .int (1 : Int32)] 38 d_jdk_42_m139_35 rfl rfl (W.1 238 rfl) (W.1 239 rfl) (W.1 6 rfl) (W.1 240 rfl) (by decide) (cIniB W (Or.inr rfl) f8 f9 f10 f11 z4) (by decide +kernel : parseMethodDescriptor "([BB)V" = some ⟨[(.array .byte), .byte], none⟩) rfl rfl rfl (nl rfl) (nl rfl) (nl rfl) (nl rfl) (nl rfl) (fun v12 vm12 h12 ⟨rv, K2, s1, s2, s3⟩ c12 => ?_)
    subst rv
    have A2 := A1.keep K2 (ninS nr nin0)
    exact Go.areturn d_jdk_42_m139_38 rfl rfl rfl (nl rfl) (nl rfl) (fun vm' ch => ⟨x1, rfl, Ext.kp1 (Ext.tr E4 E1) K2 e4, Or.inr ⟨r, kr, s1, s2, s3, A2, (nl rfl), fun c hc' => by cases List.mem_singleton.mp hc'; exact hc⟩⟩)
  · refine Go.ifeq 26 13 d_jdk_42_m139_10 (by decide) rfl rfl (fun q13 => (by rw [if_neg g] at q13; exact absurd q13 (by decide))) (fun q13 => ?_)
    refine Go.new 16 d_jdk_42_m139_13 rfl (W.1 234 rfl) (W.1 5 rfl) (W.1 6 rfl) (nl rfl) (nl rfl) (fun x1 h14 e14 E14 ⟨A14, D14⟩ S14 z14 c14 => ?_)
    refine Go.dup 17 d_jdk_42_m139_16 rfl rfl ?_
    refine Go.iload_n 18 d_jdk_42_m139_17 rfl rfl ?_
    have f15 := D14 (Or.inr (W.1 33 rfl)) (ty := (.array .byte)) (by decide)
    have f16 := D14 (Or.inr (W.1 31 rfl)) (ty := .byte) (by decide)
    refine Go.invokestatic (rest := [.ref x1, .ref x1]) 2 [.int c_] 21 d_jdk_42_m139_18 rfl (W.1 235 rfl) (W.1 236 rfl) (W.1 78 rfl) (W.1 237 rfl) (by decide) (cToB1 W ) (by decide +kernel : parseMethodDescriptor "(C)[B" = some ⟨[.char], (some (.array .byte))⟩) rfl rfl rfl (nl rfl) (nl rfl) (nl rfl) (nl rfl) (nl rfl) (fun v17 vm17 h17 ⟨r, kr, rv, E1, A1, hr⟩ c17 => ?_)
    subst rv
    refine Go.iconst (0) 22 d_jdk_42_m139_21 rfl rfl ?_
    have nr : r ≠ x1 := (ne_of_new A14.lt hr).symm
    have f18 := A14.ext E1
    have f19 := f15.ext E1
    have f20 := f16.ext E1
    have f21 := CHr.safe c17 A14.lt S14
    have L21 := Nat.lt_of_lt_of_le A14.lt c17.2.1
    refine Go.invokespecial (rest := [.ref x1]) 1 x1 [.ref r, .int (0 : Int32)] 25 d_jdk_42_m139_22 rfl rfl (W.1 238 rfl) (W.1 239 rfl) (W.1 6 rfl) (W.1 240 rfl) (by decide) (cIniB W (Or.inl rfl) f18 f19 f20 f21 z14) (by decide +kernel : parseMethodDescriptor "([BB)V" = some ⟨[(.array .byte), .byte], none⟩) rfl rfl rfl (nl rfl) (nl rfl) (nl rfl) (nl rfl) (nl rfl) (fun v22 vm22 h22 ⟨rv, K2, s1, s2, s3⟩ c22 => ?_)
    subst rv
    have A2 := A1.keep K2 (ninS nr nin0)
    exact Go.areturn d_jdk_42_m139_25 rfl rfl rfl (nl rfl) (nl rfl) (fun vm' ch => ⟨x1, rfl, Ext.kp1 (Ext.tr E14 E1) K2 e14, Or.inl ⟨r, kr, s1, s2, s3, A2, (nl rfl), fun c hc' => by cases List.mem_singleton.mp hc'; exact ⟨hc.1, g⟩⟩⟩)
theorem d_jdk_29_m69_0 : decode jdk_29_method_69_code 0 = .ok (.iload_n 0, 1) := by decide +kernel
theorem d_jdk_29_m69_1 : decode jdk_29_method_69_code 1 = .ok (.iload_n 1, 1) := by decide +kernel
theorem d_jdk_29_m69_2 : decode jdk_29_method_69_code 2 = .ok (.if_icmp .gt 7, 3) := by decide +kernel
theorem d_jdk_29_m69_5 : decode jdk_29_method_69_code 5 = .ok (.iload_n 0, 1) := by decide +kernel
theorem d_jdk_29_m69_6 : decode jdk_29_method_69_code 6 = .ok (.goto 4, 3) := by decide +kernel
theorem d_jdk_29_m69_9 : decode jdk_29_method_69_code 9 = .ok (.iload_n 1, 1) := by decide +kernel
theorem d_jdk_29_m69_10 : decode jdk_29_method_69_code 10 = .ok (.ireturn, 1) := by decide +kernel
set_option maxRecDepth 65536 in
set_option maxHeartbeats 40000000 in
theorem cMin {l : Launch} {Z : State} {a0 : Array Value} (W : Wd Z a0) {EL : List (String × Nat)} {vm : Vm} {h : Heap} {x_ y_ r_ : Int32} (hr : (if y_ < x_ then y_ else x_) = r_) :
    Ctr false l Z a0 EL (⟨"java/lang/Math", "min", "(II)I"⟩ : MethodName) jdk_29_method_69_code 2 (some .int) ({ frames := 0, cells := 0, slots := 0, locals := 0 } : Room) #[.int x_, .int y_] vm h (fun v vm' h' => v = some (.int r_) ∧ h' = h) := by
  refine Ctr.of_go (L0 := #[.val (.int x_), .val (.int y_)]) (by first | exact plainFor_of_name (by first | (simp [plainName, overriddenIn]; done) | decide +kernel) | decide +kernel) (fun m => by first | (simp [entryFrame, mkF, argsToLocals, Value.category, maxLocals]; done) | rfl) (fun p e s m below meth c vmi chi => ?_)
  refine Go.iload_n 1 d_jdk_29_m69_0 rfl rfl ?_
  refine Go.iload_n 2 d_jdk_29_m69_1 rfl rfl ?_
  refine Go.if_icmpgt 9 5 d_jdk_29_m69_2 (by decide) rfl rfl (fun q => ?_) (fun q => ?_)
  · refine Go.iload_n 10 d_jdk_29_m69_9 rfl rfl ?_
    exact Go.ireturn d_jdk_29_m69_10 rfl rfl (by simp) (nl rfl) (nl rfl) (fun vm' ch => ⟨by rw [← hr, if_pos q], rfl⟩)
  · refine Go.iload_n 6 d_jdk_29_m69_5 rfl rfl ?_
    refine Go.goto 10 d_jdk_29_m69_6 (by decide) rfl ?_
    exact Go.ireturn d_jdk_29_m69_10 rfl rfl (by simp) (nl rfl) (nl rfl) (fun vm' ch => ⟨by rw [← hr, if_neg q], rfl⟩)
theorem d_jdk_29_m65_0 : decode jdk_29_method_65_code 0 = .ok (.iload_n 0, 1) := by decide +kernel
theorem d_jdk_29_m65_1 : decode jdk_29_method_65_code 1 = .ok (.iload_n 1, 1) := by decide +kernel
theorem d_jdk_29_m65_2 : decode jdk_29_method_65_code 2 = .ok (.if_icmp .lt 7, 3) := by decide +kernel
theorem d_jdk_29_m65_5 : decode jdk_29_method_65_code 5 = .ok (.iload_n 0, 1) := by decide +kernel
theorem d_jdk_29_m65_6 : decode jdk_29_method_65_code 6 = .ok (.goto 4, 3) := by decide +kernel
theorem d_jdk_29_m65_9 : decode jdk_29_method_65_code 9 = .ok (.iload_n 1, 1) := by decide +kernel
theorem d_jdk_29_m65_10 : decode jdk_29_method_65_code 10 = .ok (.ireturn, 1) := by decide +kernel
set_option maxRecDepth 65536 in
set_option maxHeartbeats 40000000 in
theorem cMax {l : Launch} {Z : State} {a0 : Array Value} (W : Wd Z a0) {EL : List (String × Nat)} {vm : Vm} {h : Heap} {x_ y_ : Int32} :
    Ctr false l Z a0 EL (⟨"java/lang/Math", "max", "(II)I"⟩ : MethodName) jdk_29_method_65_code 2 (some .int) ({ frames := 0, cells := 0, slots := 0, locals := 0 } : Room) #[.int x_, .int y_] vm h (fun v vm' h' => v = some (.int (if x_ < y_ then y_ else x_)) ∧ h' = h) := by
  refine Ctr.of_go (L0 := #[.val (.int x_), .val (.int y_)]) (by first | exact plainFor_of_name (by first | (simp [plainName, overriddenIn]; done) | decide +kernel) | decide +kernel) (fun m => by first | (simp [entryFrame, mkF, argsToLocals, Value.category, maxLocals]; done) | rfl) (fun p e s m below meth c vmi chi => ?_)
  refine Go.iload_n 1 d_jdk_29_m65_0 rfl rfl ?_
  refine Go.iload_n 2 d_jdk_29_m65_1 rfl rfl ?_
  refine Go.if_icmplt 9 5 d_jdk_29_m65_2 (by decide) rfl rfl (fun q => ?_) (fun q => ?_)
  · refine Go.iload_n 10 d_jdk_29_m65_9 rfl rfl ?_
    exact Go.ireturn d_jdk_29_m65_10 rfl rfl (by simp) (nl rfl) (nl rfl) (fun vm' ch => ⟨by rw [if_pos q], rfl⟩)
  · refine Go.iload_n 6 d_jdk_29_m65_5 rfl rfl ?_
    refine Go.goto 10 d_jdk_29_m65_6 (by decide) rfl ?_
    exact Go.ireturn d_jdk_29_m65_10 rfl rfl (by simp) (nl rfl) (nl rfl) (fun vm' ch => ⟨by rw [if_neg q], rfl⟩)
theorem d_jdk_68_m2_0 : decode jdk_68_method_2_code 0 = .ok (.aload_n 0, 1) := by decide +kernel
theorem d_jdk_68_m2_1 : decode jdk_68_method_2_code 1 = .ok (.invokespecial 3, 3) := by decide +kernel
theorem d_jdk_68_m2_4 : decode jdk_68_method_2_code 4 = .ok (.getstatic 18, 3) := by decide +kernel
theorem d_jdk_68_m2_7 : decode jdk_68_method_2_code 7 = .ok (.ifCond .eq 18, 3) := by decide +kernel
theorem d_jdk_68_m2_10 : decode jdk_68_method_2_code 10 = .ok (.aload_n 0, 1) := by decide +kernel
theorem d_jdk_68_m2_11 : decode jdk_68_method_2_code 11 = .ok (.iload_n 1, 1) := by decide +kernel
theorem d_jdk_68_m2_12 : decode jdk_68_method_2_code 12 = .ok (.newarray .byte, 2) := by decide +kernel
theorem d_jdk_68_m2_14 : decode jdk_68_method_2_code 14 = .ok (.putfield 15, 3) := by decide +kernel
theorem d_jdk_68_m2_17 : decode jdk_68_method_2_code 17 = .ok (.aload_n 0, 1) := by decide +kernel
theorem d_jdk_68_m2_18 : decode jdk_68_method_2_code 18 = .ok (.iconst 0, 1) := by decide +kernel
theorem d_jdk_68_m2_19 : decode jdk_68_method_2_code 19 = .ok (.putfield 22, 3) := by decide +kernel
theorem d_jdk_68_m2_22 : decode jdk_68_method_2_code 22 = .ok (.goto 16, 3) := by decide +kernel
theorem d_jdk_68_m2_25 : decode jdk_68_method_2_code 25 = .ok (.aload_n 0, 1) := by decide +kernel
theorem d_jdk_68_m2_26 : decode jdk_68_method_2_code 26 = .ok (.iload_n 1, 1) := by decide +kernel
theorem d_jdk_68_m2_27 : decode jdk_68_method_2_code 27 = .ok (.invokestatic 26, 3) := by decide +kernel
theorem d_jdk_68_m2_30 : decode jdk_68_method_2_code 30 = .ok (.putfield 15, 3) := by decide +kernel
theorem d_jdk_68_m2_33 : decode jdk_68_method_2_code 33 = .ok (.aload_n 0, 1) := by decide +kernel
theorem d_jdk_68_m2_34 : decode jdk_68_method_2_code 34 = .ok (.iconst 1, 1) := by decide +kernel
theorem d_jdk_68_m2_35 : decode jdk_68_method_2_code 35 = .ok (.putfield 22, 3) := by decide +kernel
theorem d_jdk_68_m2_38 : decode jdk_68_method_2_code 38 = .ok (.return_, 1) := by decide +kernel
set_option maxRecDepth 65536 in
set_option maxHeartbeats 40000000 in
theorem cSbA {l : Launch} {Z : State} {a0 : Array Value} (W : Wd Z a0) {EL : List (String × Nat)} {vm : Vm} {h : Heap} {b : Addr} {n_ : Nat} {v0 c0 : Value} (hn : n_ ≤ 3) (E : Exa Z h b "java/lang/StringBuilder") (F1 : Fld Z h b "java/lang/AbstractStringBuilder" "value" "[B" (v0)) (F2 : Fld Z h b "java/lang/AbstractStringBuilder" "coder" "B" (c0)) (F3 : Fld Z h b "java/lang/AbstractStringBuilder" "count" "I" (.int 0)) (F4 : Fld Z h b "java/lang/AbstractStringBuilder" "maybeLatin1" "Z" (.int 0)) (Sa : Safe Z EL vm h b) (hz : Z.heap.size ≤ b) :
    Ctr false l Z a0 EL (⟨"java/lang/AbstractStringBuilder", "<init>", "(I)V"⟩ : MethodName) jdk_68_method_2_code 2 none ({ frames := 1, cells := 1, slots := 3, locals := 12 } : Room) #[.ref b, .int (Int32.ofNat n_)] vm h (fun v vm' h' => v = none ∧ Keep h h' [b] ∧ ∃ d kd, Bd Z h' b d kd 0 n_ [] ∧ h.size ≤ d ∧ Safe Z EL vm' h' d) := by
  refine Ctr.of_go (L0 := #[.val (.ref b), .val (.int (Int32.ofNat n_))]) (by first | exact plainFor_of_name (by first | (simp [plainName, overriddenIn]; done) | decide +kernel) | decide +kernel) (fun m => by first | (simp [entryFrame, mkF, argsToLocals, Value.category, maxLocals]; done) | rfl) (fun p e s m below meth c vmi chi => ?_)
  refine Go.aload_n 1 d_jdk_68_m2_0 rfl rfl rfl ?_
  refine Go.initObject 0 4 d_jdk_68_m2_1 rfl (W.1 60 rfl) (W.1 16 rfl) (W.1 17 rfl) rfl (nl rfl) (nl rfl) (nl rfl) ?_
  refine Go.know fun hE1 _ _ => ?_
  obtain ⟨zc1, Cz1, hc1⟩ := W.2.1
  refine Go.getstatic 7 d_jdk_68_m2_4 rfl (W.1 61 rfl) (Cz1.ext hE1) ?_
  refine Go.ifeq 25 10 d_jdk_68_m2_7 (by decide) rfl rfl (fun q1 => absurd q1 hc1) (fun q1 => ?_)
  refine Go.aload_n 11 d_jdk_68_m2_10 rfl rfl rfl ?_
  refine Go.iload_n 12 d_jdk_68_m2_11 rfl rfl ?_
  refine Go.newarrayE (aty := .byte) (z := (Int32.ofNat n_)) (ad := "[B") (by decide +kernel) 3 14 d_jdk_68_m2_12 rfl (W.1 23 rfl) (nneg (by omega)) (by rw [clampN (by omega)]; omega) (by decide) (nl rfl) (nl rfl) (fun d1 h2 e2 E2 ⟨k2, B2, Y2⟩ S2 z2 c2 => ?_)
  have f3 := E.ext E2
  have f4 := CHr.safe (CHr.trans chi c2) E.lt Sa
  have L4 := Nat.lt_of_lt_of_le E.lt (CHr.trans chi c2).2.1
  refine Go.putfield 17 d_jdk_68_m2_14 rfl (W.1 62 rfl) (F1.ext E2) f3 (Or.inl (W.1 63 rfl)) (W.1 39 rfl) (ty := (.array .byte)) (by decide) rfl rfl f4 hz (fun h5 X5 S5 c5 => ?_)
  have nd : d1 ≠ b := fun q => absurd (q ▸ e2 : b = h.size) (Nat.ne_of_lt E.lt)
  have Ea := f3.wr X5
  refine Go.aload_n 18 d_jdk_68_m2_17 rfl rfl rfl ?_
  refine Go.iconst (0) 19 d_jdk_68_m2_18 rfl rfl ?_
  refine Go.putfield 22 d_jdk_68_m2_19 rfl (W.1 64 rfl) ((F2.ext E2).other X5 (Or.inr (slot_ne (a0 := a0) (C := "java/lang/StringBuilder") (Or.inl (W.1 65 rfl)) (Or.inl (W.1 63 rfl)) (by decide) (t := .byte) (t' := (.array .byte)) (by decide) (by decide)))) Ea (Or.inl (W.1 65 rfl)) (W.1 39 rfl) (ty := .byte) (by decide) rfl rfl S5 hz (fun h6 X6 S6 c6 => ?_)
  refine Go.goto 38 d_jdk_68_m2_22 (by decide) rfl ?_
  have A2 := Arv.other (Arv.other B2 X5 nd) X6 nd
  have f7 := CHr.safe (CHr.trans c5 c6) B2.lt S2
  have L7 := Nat.lt_of_lt_of_le B2.lt (CHr.trans c5 c6).2.1
  exact Go.return_ d_jdk_68_m2_38 rfl (nl rfl) (nl rfl) (fun vm' ch => ⟨rfl, ((Keep.ofExt E2 [b]).wr X5 (Or.inl (by simp))).wr X6 (Or.inl (by simp)), d1, k2, ⟨Ea.wr X6, (((F2.ext E2).other X5 (Or.inr (slot_ne (a0 := a0) (C := "java/lang/StringBuilder") (Or.inl (W.1 65 rfl)) (Or.inl (W.1 63 rfl)) (by decide) (t := .byte) (t' := (.array .byte)) (by decide) (by decide)))).same X6), (((F1.ext E2).same X5).other X6 (Or.inr (slot_ne (a0 := a0) (C := "java/lang/StringBuilder") (Or.inl (W.1 63 rfl)) (Or.inl (W.1 65 rfl)) (by decide) (t := (.array .byte)) (t' := .byte) (by decide) (by decide)))), (((F3.ext E2).other X5 (Or.inr (slot_ne (a0 := a0) (C := "java/lang/StringBuilder") (Or.inl (W.1 103 rfl)) (Or.inl (W.1 63 rfl)) (by decide) (t := .int) (t' := (.array .byte)) (by decide) (by decide)))).other X6 (Or.inr (slot_ne (a0 := a0) (C := "java/lang/StringBuilder") (Or.inl (W.1 103 rfl)) (Or.inl (W.1 65 rfl)) (by decide) (t := .int) (t' := .byte) (by decide) (by decide)))), (((F4.ext E2).other X5 (Or.inr (slot_ne (a0 := a0) (C := "java/lang/StringBuilder") (Or.inl (W.1 298 rfl)) (Or.inl (W.1 63 rfl)) (by decide) (t := .boolean) (t' := (.array .byte)) (by decide) (by decide)))).other X6 (Or.inr (slot_ne (a0 := a0) (C := "java/lang/StringBuilder") (Or.inl (W.1 298 rfl)) (Or.inl (W.1 65 rfl)) (by decide) (t := .boolean) (t' := .byte) (by decide) (by decide)))), Arv.up0 A2, (Y2.wr X5).wr X6, ⟨by omega, Nat.zero_le _, Or.inl rfl⟩, (fun _ q => nomatch q), (fun _ _ q => nomatch q)⟩, Nat.le_of_eq e2.symm, ch.safe A2.lt f7⟩)
theorem d_jdk_67_m2_0 : decode jdk_67_method_2_code 0 = .ok (.aload_n 0, 1) := by decide +kernel
theorem d_jdk_67_m2_1 : decode jdk_67_method_2_code 1 = .ok (.iload_n 1, 1) := by decide +kernel
theorem d_jdk_67_m2_2 : decode jdk_67_method_2_code 2 = .ok (.invokespecial 1, 3) := by decide +kernel
theorem d_jdk_67_m2_5 : decode jdk_67_method_2_code 5 = .ok (.return_, 1) := by decide +kernel
set_option maxRecDepth 65536 in
set_option maxHeartbeats 40000000 in
theorem cSbI {l : Launch} {Z : State} {a0 : Array Value} (W : Wd Z a0) {EL : List (String × Nat)} {vm : Vm} {h : Heap} {b : Addr} {n_ : Nat} {v0 c0 : Value} (hn : n_ ≤ 3) (E : Exa Z h b "java/lang/StringBuilder") (F1 : Fld Z h b "java/lang/AbstractStringBuilder" "value" "[B" (v0)) (F2 : Fld Z h b "java/lang/AbstractStringBuilder" "coder" "B" (c0)) (F3 : Fld Z h b "java/lang/AbstractStringBuilder" "count" "I" (.int 0)) (F4 : Fld Z h b "java/lang/AbstractStringBuilder" "maybeLatin1" "Z" (.int 0)) (Sa : Safe Z EL vm h b) (hz : Z.heap.size ≤ b) :
    Ctr false l Z a0 EL (⟨"java/lang/StringBuilder", "<init>", "(I)V"⟩ : MethodName) jdk_67_method_2_code 2 none ({ frames := 2, cells := 1, slots := 3, locals := 25 } : Room) #[.ref b, .int (Int32.ofNat n_)] vm h (fun v vm' h' => v = none ∧ Keep h h' [b] ∧ ∃ d kd, Bd Z h' b d kd 0 n_ [] ∧ h.size ≤ d ∧ Safe Z EL vm' h' d) := by
  refine Ctr.of_go (L0 := #[.val (.ref b), .val (.int (Int32.ofNat n_))]) (by first | exact plainFor_of_name (by first | (simp [plainName, overriddenIn]; done) | decide +kernel) | decide +kernel) (fun m => by first | (simp [entryFrame, mkF, argsToLocals, Value.category, maxLocals]; done) | rfl) (fun p e s m below meth c vmi chi => ?_)
  refine Go.aload_n 1 d_jdk_67_m2_0 rfl rfl rfl ?_
  refine Go.iload_n 2 d_jdk_67_m2_1 rfl rfl ?_
  refine Go.invokespecial (rest := []) 0 b [.int (Int32.ofNat n_)] 5 d_jdk_67_m2_2 rfl rfl (W.1 54 rfl) (W.1 55 rfl) (W.1 58 rfl) (W.1 59 rfl) (by decide) (cSbA W hn E F1 F2 F3 F4 (chi.safe E.lt Sa) hz) (by decide +kernel : parseMethodDescriptor "(I)V" = some ⟨[.int], none⟩) rfl rfl rfl (nl rfl) (nl rfl) (nl rfl) (nl rfl) (nl rfl) (fun v1 vm1 h1 ⟨rv, K, d, kd, B, hd, Sd⟩ c1 => ?_)
  subst rv
  exact Go.return_ d_jdk_67_m2_5 rfl (nl rfl) (nl rfl) (fun vm' ch => ⟨rfl, K, d, kd, B, hd, ch.safe B.ar.lt Sd⟩)
theorem d_jdk_68_m68_0 : decode jdk_68_method_68_code 0 = .ok (.getstatic 18, 3) := by decide +kernel
theorem d_jdk_68_m68_3 : decode jdk_68_method_68_code 3 = .ok (.ifCond .eq 14, 3) := by decide +kernel
theorem d_jdk_68_m68_6 : decode jdk_68_method_68_code 6 = .ok (.aload_n 0, 1) := by decide +kernel
theorem d_jdk_68_m68_7 : decode jdk_68_method_68_code 7 = .ok (.getfield 22, 3) := by decide +kernel
theorem d_jdk_68_m68_10 : decode jdk_68_method_68_code 10 = .ok (.ifCond .ne 7, 3) := by decide +kernel
theorem d_jdk_68_m68_13 : decode jdk_68_method_68_code 13 = .ok (.iconst 1, 1) := by decide +kernel
theorem d_jdk_68_m68_14 : decode jdk_68_method_68_code 14 = .ok (.goto 4, 3) := by decide +kernel
theorem d_jdk_68_m68_17 : decode jdk_68_method_68_code 17 = .ok (.iconst 0, 1) := by decide +kernel
theorem d_jdk_68_m68_18 : decode jdk_68_method_68_code 18 = .ok (.ireturn, 1) := by decide +kernel
set_option maxRecDepth 65536 in
set_option maxHeartbeats 40000000 in
theorem cIsB0 {l : Launch} {Z : State} {a0 : Array Value} (W : Wd Z a0) {EL : List (String × Nat)} {vm : Vm} {h : Heap} {b d : Addr} {kd : ClassId} {cap : Nat} {ds : List Int32} (B : Bd Z h b d kd 0 cap ds) :
    Ctr false l Z a0 EL (⟨"java/lang/AbstractStringBuilder", "isLatin1", "()Z"⟩ : MethodName) jdk_68_method_68_code 1 (some .boolean) ({ frames := 0, cells := 0, slots := 0, locals := 0 } : Room) #[.ref b] vm h (fun v vm' h' => v = some (.int 1) ∧ h' = h) := by
  refine Ctr.of_go (L0 := #[.val (.ref b)]) (by first | exact plainFor_of_name (by first | (simp [plainName, overriddenIn]; done) | decide +kernel) | decide +kernel) (fun m => by first | (simp [entryFrame, mkF, argsToLocals, Value.category, maxLocals]; done) | rfl) (fun p e s m below meth c vmi chi => ?_)
  refine Go.know fun hE1 _ _ => ?_
  obtain ⟨zc1, Cz1, hc1⟩ := W.2.1
  refine Go.getstatic 3 d_jdk_68_m68_0 rfl (W.1 61 rfl) (Cz1.ext hE1) ?_
  refine Go.ifeq 17 6 d_jdk_68_m68_3 (by decide) rfl rfl (fun q1 => absurd q1 hc1) (fun q1 => ?_)
  refine Go.aload_n 7 d_jdk_68_m68_6 rfl rfl rfl ?_
  refine Go.getfield 10 d_jdk_68_m68_7 rfl (W.1 64 rfl) B.co ?_
  refine Go.ifne 17 13 d_jdk_68_m68_10 (by decide) rfl rfl (fun q2 => absurd rfl q2) (fun q2 => ?_)
  refine Go.iconst (1) 14 d_jdk_68_m68_13 rfl rfl ?_
  refine Go.goto 18 d_jdk_68_m68_14 (by decide) rfl ?_
  exact Go.ireturn d_jdk_68_m68_18 rfl rfl (by simp) (nl rfl) (nl rfl) (fun vm' ch => ⟨rfl, rfl⟩)
set_option maxRecDepth 65536 in
set_option maxHeartbeats 40000000 in
theorem cIsB1 {l : Launch} {Z : State} {a0 : Array Value} (W : Wd Z a0) {EL : List (String × Nat)} {vm : Vm} {h : Heap} {b d : Addr} {kd : ClassId} {cap : Nat} {ds : List Int32} (B : Bd Z h b d kd 1 cap ds) :
    Ctr false l Z a0 EL (⟨"java/lang/AbstractStringBuilder", "isLatin1", "()Z"⟩ : MethodName) jdk_68_method_68_code 1 (some .boolean) ({ frames := 0, cells := 0, slots := 0, locals := 0 } : Room) #[.ref b] vm h (fun v vm' h' => v = some (.int 0) ∧ h' = h) := by
  refine Ctr.of_go (L0 := #[.val (.ref b)]) (by first | exact plainFor_of_name (by first | (simp [plainName, overriddenIn]; done) | decide +kernel) | decide +kernel) (fun m => by first | (simp [entryFrame, mkF, argsToLocals, Value.category, maxLocals]; done) | rfl) (fun p e s m below meth c vmi chi => ?_)
  refine Go.know fun hE1 _ _ => ?_
  obtain ⟨zc1, Cz1, hc1⟩ := W.2.1
  refine Go.getstatic 3 d_jdk_68_m68_0 rfl (W.1 61 rfl) (Cz1.ext hE1) ?_
  refine Go.ifeq 17 6 d_jdk_68_m68_3 (by decide) rfl rfl (fun q1 => absurd q1 hc1) (fun q1 => ?_)
  refine Go.aload_n 7 d_jdk_68_m68_6 rfl rfl rfl ?_
  refine Go.getfield 10 d_jdk_68_m68_7 rfl (W.1 64 rfl) B.co ?_
  refine Go.ifne 17 13 d_jdk_68_m68_10 (by decide) rfl rfl (fun q2 => ?_) (fun q2 => absurd q2 (by decide))
  refine Go.iconst (0) 18 d_jdk_68_m68_17 rfl rfl ?_
  exact Go.ireturn d_jdk_68_m68_18 rfl rfl (by simp) (nl rfl) (nl rfl) (fun vm' ch => ⟨rfl, rfl⟩)
theorem d_jdk_65_m121_0 : decode jdk_65_method_121_code 0 = .ok (.iload_n 1, 1) := by decide +kernel
theorem d_jdk_65_m121_1 : decode jdk_65_method_121_code 1 = .ok (.aload_n 0, 1) := by decide +kernel
theorem d_jdk_65_m121_2 : decode jdk_65_method_121_code 2 = .ok (.arraylength, 1) := by decide +kernel
theorem d_jdk_65_m121_3 : decode jdk_65_method_121_code 3 = .ok (.if_icmp .ne 11, 3) := by decide +kernel
theorem d_jdk_65_m121_6 : decode jdk_65_method_121_code 6 = .ok (.aload_n 0, 1) := by decide +kernel
theorem d_jdk_65_m121_7 : decode jdk_65_method_121_code 7 = .ok (.invokevirtual 310, 3) := by decide +kernel
theorem d_jdk_65_m121_10 : decode jdk_65_method_121_code 10 = .ok (.checkcast 311, 3) := by decide +kernel
theorem d_jdk_65_m121_13 : decode jdk_65_method_121_code 13 = .ok (.areturn, 1) := by decide +kernel
theorem d_jdk_65_m121_14 : decode jdk_65_method_121_code 14 = .ok (.iload_n 1, 1) := by decide +kernel
theorem d_jdk_65_m121_15 : decode jdk_65_method_121_code 15 = .ok (.newarray .byte, 2) := by decide +kernel
theorem d_jdk_65_m121_17 : decode jdk_65_method_121_code 17 = .ok (.astore_n 2, 1) := by decide +kernel
theorem d_jdk_65_m121_18 : decode jdk_65_method_121_code 18 = .ok (.aload_n 0, 1) := by decide +kernel
theorem d_jdk_65_m121_19 : decode jdk_65_method_121_code 19 = .ok (.iconst 0, 1) := by decide +kernel
theorem d_jdk_65_m121_20 : decode jdk_65_method_121_code 20 = .ok (.aload_n 2, 1) := by decide +kernel
theorem d_jdk_65_m121_21 : decode jdk_65_method_121_code 21 = .ok (.iconst 0, 1) := by decide +kernel
theorem d_jdk_65_m121_22 : decode jdk_65_method_121_code 22 = .ok (.aload_n 0, 1) := by decide +kernel
theorem d_jdk_65_m121_23 : decode jdk_65_method_121_code 23 = .ok (.arraylength, 1) := by decide +kernel
theorem d_jdk_65_m121_24 : decode jdk_65_method_121_code 24 = .ok (.iload_n 1, 1) := by decide +kernel
theorem d_jdk_65_m121_25 : decode jdk_65_method_121_code 25 = .ok (.invokestatic 304, 3) := by decide +kernel
theorem d_jdk_65_m121_28 : decode jdk_65_method_121_code 28 = .ok (.invokestatic 150, 3) := by decide +kernel
theorem d_jdk_65_m121_31 : decode jdk_65_method_121_code 31 = .ok (.aload_n 2, 1) := by decide +kernel
theorem d_jdk_65_m121_32 : decode jdk_65_method_121_code 32 = .ok (.areturn, 1) := by decide +kernel
set_option maxRecDepth 65536 in
set_option maxHeartbeats 40000000 in
theorem cCpy {l : Launch} {Z : State} {a0 : Array Value} (W : Wd Z a0) {EL : List (String × Nat)} {vm : Vm} {h : Heap} {d : Addr} {kd : ClassId} {m1 m2 : Nat} {vs : List Value} (A : Arv Z h d kd .byte (Int32.ofNat m1) vs (.int 0)) (hl : vs.length ≤ m1) (h1 : m1 < m2) (h2 : m2 ≤ 80) :
    Ctr false l Z a0 EL (⟨"java/util/Arrays", "copyOf", "([BI)[B"⟩ : MethodName) jdk_65_method_121_code 3 (some (.array .byte)) ({ frames := 1, cells := 1, slots := 80, locals := 18 } : Room) #[.ref d, .int (Int32.ofNat m2)] vm h (fun v vm' h' => ∃ r kr, v = some (.ref r) ∧ Ext h h' ∧ Arv Z h' r kr .byte (Int32.ofNat m2) vs (.int 0) ∧ Exa Z h' r "[B" ∧ h.size ≤ r ∧ Safe Z EL vm' h' r) := by
  refine Ctr.of_go (L0 := #[.val (.ref d), .val (.int (Int32.ofNat m2)), .unset]) (by first | exact plainFor_of_name (by first | (simp [plainName, overriddenIn]; done) | decide +kernel) | decide +kernel) (fun m => by first | (simp [entryFrame, mkF, argsToLocals, Value.category, maxLocals]; done) | rfl) (fun p e s m below meth c vmi chi => ?_)
  refine Go.iload_n 1 d_jdk_65_m121_0 rfl rfl ?_
  refine Go.aload_n 2 d_jdk_65_m121_1 rfl rfl rfl ?_
  refine Go.arraylength 3 d_jdk_65_m121_2 rfl A ?_
  refine Go.if_icmpne 14 6 d_jdk_65_m121_3 (by decide) rfl rfl (fun q1 => ?_) (fun q1 => absurd ((ofNat_inj (by omega) (by omega)).mp q1) (by omega))
  refine Go.iload_n 15 d_jdk_65_m121_14 rfl rfl ?_
  refine Go.newarrayE (aty := .byte) (z := (Int32.ofNat m2)) (ad := "[B") (by decide +kernel) 80 17 d_jdk_65_m121_15 rfl (W.1 23 rfl) (nneg (by omega)) (by rw [clampN (by omega)]; omega) (by decide) (nl rfl) (nl rfl) (fun r1 h2 e2 E2 ⟨k2, B2, Y2⟩ S2 z2 c2 => ?_)
  refine Go.astore_n #[.val (.ref d), .val (.int (Int32.ofNat m2)), .val (.ref r1)] 18 d_jdk_65_m121_17 rfl rfl rfl ?_
  refine Go.aload_n 19 d_jdk_65_m121_18 rfl rfl rfl ?_
  refine Go.iconst (0) 20 d_jdk_65_m121_19 rfl rfl ?_
  refine Go.aload_n 21 d_jdk_65_m121_20 rfl rfl rfl ?_
  refine Go.iconst (0) 22 d_jdk_65_m121_21 rfl rfl ?_
  refine Go.aload_n 23 d_jdk_65_m121_22 rfl rfl rfl ?_
  have f3 := A.ext E2
  refine Go.arraylength 24 d_jdk_65_m121_23 rfl f3 ?_
  refine Go.iload_n 25 d_jdk_65_m121_24 rfl rfl ?_
  refine Go.invokestatic (rest := [.int (0 : Int32), .ref r1, .int (0 : Int32), .ref d]) 4 [.int (Int32.ofNat m1), .int (Int32.ofNat m2)] 28 d_jdk_65_m121_25 rfl (W.1 128 rfl) (W.1 129 rfl) (W.1 120 rfl) (W.1 130 rfl) (by decide) (cMin W (r_ := Int32.ofNat m1) (if_neg (fun z => absurd ((ofNat_lt (by omega) (by omega)).mp z) (by omega)))) (by decide +kernel : parseMethodDescriptor "(II)I" = some ⟨[.int, .int], (some .int)⟩) rfl rfl rfl (nl rfl) (nl rfl) (nl rfl) (nl rfl) (nl rfl) (fun v4 vm4 h4 ⟨rv, hh⟩ c4 => ?_)
  subst rv; replace hh := hh.symm; subst hh
  have f5 := CHr.safe c4 B2.lt S2
  have L5 := Nat.lt_of_lt_of_le B2.lt c4.2.1
  refine Go.acopy 0 0 m1 vs 31 d_jdk_65_m121_28 rfl (W.1 131 rfl) (W.1 134 rfl) (W.1 132 rfl) (W.1 133 rfl) f3 B2 (by rw [clampN (by omega)]; omega) (by rw [clampN (by omega)]; omega) (cpg hl) rfl rfl (nl rfl) (nl rfl) f5 z2 (fun hc9 K9 A9 S9 cc9 => ?_)
  refine Go.aload_n 32 d_jdk_65_m121_31 rfl rfl rfl ?_
  exact Go.areturn d_jdk_65_m121_32 rfl rfl rfl (nl rfl) (nl rfl) (fun vm' ch => ⟨r1, k2, rfl, Ext.kp1 E2 K9 e2, A9, Y2.keep K9, Nat.le_of_eq e2.symm, ch.safe A9.lt S9⟩)
theorem d_jdk_48_m27_0 : decode jdk_48_method_27_code 0 = .ok (.iload_n 0, 1) := by decide +kernel
theorem d_jdk_48_m27_1 : decode jdk_48_method_27_code 1 = .ok (.iload_n 1, 1) := by decide +kernel
theorem d_jdk_48_m27_2 : decode jdk_48_method_27_code 2 = .ok (.iload_n 2, 1) := by decide +kernel
theorem d_jdk_48_m27_3 : decode jdk_48_method_27_code 3 = .ok (.invokestatic 194, 3) := by decide +kernel
theorem d_jdk_48_m27_6 : decode jdk_48_method_27_code 6 = .ok (.iadd, 1) := by decide +kernel
theorem d_jdk_48_m27_7 : decode jdk_48_method_27_code 7 = .ok (.istore_n 3, 1) := by decide +kernel
theorem d_jdk_48_m27_8 : decode jdk_48_method_27_code 8 = .ok (.iconst 0, 1) := by decide +kernel
theorem d_jdk_48_m27_9 : decode jdk_48_method_27_code 9 = .ok (.iload_n 3, 1) := by decide +kernel
theorem d_jdk_48_m27_10 : decode jdk_48_method_27_code 10 = .ok (.if_icmp .ge 11, 3) := by decide +kernel
theorem d_jdk_48_m27_13 : decode jdk_48_method_27_code 13 = .ok (.iload_n 3, 1) := by decide +kernel
theorem d_jdk_48_m27_14 : decode jdk_48_method_27_code 14 = .ok (.ldc 200, 2) := by decide +kernel
theorem d_jdk_48_m27_16 : decode jdk_48_method_27_code 16 = .ok (.if_icmp .gt 5, 3) := by decide +kernel
theorem d_jdk_48_m27_19 : decode jdk_48_method_27_code 19 = .ok (.iload_n 3, 1) := by decide +kernel
theorem d_jdk_48_m27_20 : decode jdk_48_method_27_code 20 = .ok (.ireturn, 1) := by decide +kernel
theorem d_jdk_48_m27_21 : decode jdk_48_method_27_code 21 = .ok (.iload_n 0, 1) := by decide +kernel
theorem d_jdk_48_m27_22 : decode jdk_48_method_27_code 22 = .ok (.iload_n 1, 1) := by decide +kernel
theorem d_jdk_48_m27_23 : decode jdk_48_method_27_code 23 = .ok (.invokestatic 201, 3) := by decide +kernel
theorem d_jdk_48_m27_26 : decode jdk_48_method_27_code 26 = .ok (.ireturn, 1) := by decide +kernel
set_option maxRecDepth 65536 in
set_option maxHeartbeats 40000000 in
theorem cNL {l : Launch} {Z : State} {a0 : Array Value} (W : Wd Z a0) {EL : List (String × Nat)} {vm : Vm} {h : Heap} {x_ y_ z_ r_ : Nat} (hy : y_ < 1000) (hz : z_ < 1000) (hr : x_ + (if y_ < z_ then z_ else y_) = r_) (h0 : 0 < r_) (h1 : r_ < 4000) :
    Ctr false l Z a0 EL (⟨"jdk/internal/util/ArraysSupport", "newLength", "(III)I"⟩ : MethodName) jdk_48_method_27_code 4 (some .int) ({ frames := 1, cells := 0, slots := 0, locals := 14 } : Room) #[.int (Int32.ofNat x_), .int (Int32.ofNat y_), .int (Int32.ofNat z_)] vm h (fun v vm' h' => v = some (.int (Int32.ofNat r_)) ∧ h' = h) := by
  refine Ctr.of_go (L0 := #[.val (.int (Int32.ofNat x_)), .val (.int (Int32.ofNat y_)), .val (.int (Int32.ofNat z_)), .unset]) (by first | exact plainFor_of_name (by first | (simp [plainName, overriddenIn]; done) | decide +kernel) | decide +kernel) (fun m => by first | (simp [entryFrame, mkF, argsToLocals, Value.category, maxLocals]; done) | rfl) (fun p e s m below meth c vmi chi => ?_)
  refine Go.iload_n 1 d_jdk_48_m27_0 rfl rfl ?_
  refine Go.iload_n 2 d_jdk_48_m27_1 rfl rfl ?_
  refine Go.iload_n 3 d_jdk_48_m27_2 rfl rfl ?_
  refine Go.invokestatic (rest := [.int (Int32.ofNat x_)]) 1 [.int (Int32.ofNat y_), .int (Int32.ofNat z_)] 6 d_jdk_48_m27_3 rfl (W.1 118 rfl) (W.1 119 rfl) (W.1 120 rfl) (W.1 121 rfl) (by decide) (cMax W ) (by decide +kernel : parseMethodDescriptor "(II)I" = some ⟨[.int, .int], (some .int)⟩) rfl rfl rfl (nl rfl) (nl rfl) (nl rfl) (nl rfl) (nl rfl) (fun v1 vm1 h1 ⟨rv, hh⟩ c1 => ?_)
  subst rv; replace hh := hh.symm; subst hh
  refine Go.iadd (Int32.ofNat r_) 7 d_jdk_48_m27_6 rfl (addmax hy hz hr) ?_
  refine Go.istore_n #[.val (.int (Int32.ofNat x_)), .val (.int (Int32.ofNat y_)), .val (.int (Int32.ofNat z_)), .val (.int (Int32.ofNat r_))] 8 d_jdk_48_m27_7 rfl rfl ?_
  refine Go.iconst (0) 9 d_jdk_48_m27_8 rfl rfl ?_
  refine Go.iload_n 10 d_jdk_48_m27_9 rfl rfl ?_
  refine Go.if_icmpge 21 13 d_jdk_48_m27_10 (by decide) rfl rfl (fun q2 => absurd ((ofNat_lt (i := 0) (by decide) (by omega)).mpr h0) q2) (fun q2 => ?_)
  refine Go.iload_n 14 d_jdk_48_m27_13 rfl rfl ?_
  refine Go.ldcI (W.1 122 rfl) 16 d_jdk_48_m27_14 rfl ?_
  refine Go.if_icmpgt 21 19 d_jdk_48_m27_16 (by decide) rfl rfl (fun q3 => absurd ((ofNat_lt (i := 2147483639) (by decide) (by omega)).mp q3) (by omega)) (fun q3 => ?_)
  refine Go.iload_n 20 d_jdk_48_m27_19 rfl rfl ?_
  exact Go.ireturn d_jdk_48_m27_20 rfl rfl (by simp) (nl rfl) (nl rfl) (fun vm' ch => ⟨rfl, rfl⟩)
theorem d_jdk_68_m10_0 : decode jdk_68_method_10_code 0 = .ok (.aload_n 0, 1) := by decide +kernel
theorem d_jdk_68_m10_1 : decode jdk_68_method_10_code 1 = .ok (.getfield 15, 3) := by decide +kernel
theorem d_jdk_68_m10_4 : decode jdk_68_method_10_code 4 = .ok (.arraylength, 1) := by decide +kernel
theorem d_jdk_68_m10_5 : decode jdk_68_method_10_code 5 = .ok (.istore_n 2, 1) := by decide +kernel
theorem d_jdk_68_m10_6 : decode jdk_68_method_10_code 6 = .ok (.iload_n 1, 1) := by decide +kernel
theorem d_jdk_68_m10_7 : decode jdk_68_method_10_code 7 = .ok (.aload_n 0, 1) := by decide +kernel
theorem d_jdk_68_m10_8 : decode jdk_68_method_10_code 8 = .ok (.getfield 22, 3) := by decide +kernel
theorem d_jdk_68_m10_11 : decode jdk_68_method_10_code 11 = .ok (.ishl, 1) := by decide +kernel
theorem d_jdk_68_m10_12 : decode jdk_68_method_10_code 12 = .ok (.istore_n 3, 1) := by decide +kernel
theorem d_jdk_68_m10_13 : decode jdk_68_method_10_code 13 = .ok (.iload_n 3, 1) := by decide +kernel
theorem d_jdk_68_m10_14 : decode jdk_68_method_10_code 14 = .ok (.iload_n 2, 1) := by decide +kernel
theorem d_jdk_68_m10_15 : decode jdk_68_method_10_code 15 = .ok (.isub, 1) := by decide +kernel
theorem d_jdk_68_m10_16 : decode jdk_68_method_10_code 16 = .ok (.istore 4, 2) := by decide +kernel
theorem d_jdk_68_m10_18 : decode jdk_68_method_10_code 18 = .ok (.iload_n 2, 1) := by decide +kernel
theorem d_jdk_68_m10_19 : decode jdk_68_method_10_code 19 = .ok (.iload 4, 2) := by decide +kernel
theorem d_jdk_68_m10_21 : decode jdk_68_method_10_code 21 = .ok (.iload_n 2, 1) := by decide +kernel
theorem d_jdk_68_m10_22 : decode jdk_68_method_10_code 22 = .ok (.iconst 2, 1) := by decide +kernel
theorem d_jdk_68_m10_23 : decode jdk_68_method_10_code 23 = .ok (.aload_n 0, 1) := by decide +kernel
theorem d_jdk_68_m10_24 : decode jdk_68_method_10_code 24 = .ok (.getfield 22, 3) := by decide +kernel
theorem d_jdk_68_m10_27 : decode jdk_68_method_10_code 27 = .ok (.ishl, 1) := by decide +kernel
theorem d_jdk_68_m10_28 : decode jdk_68_method_10_code 28 = .ok (.iadd, 1) := by decide +kernel
theorem d_jdk_68_m10_29 : decode jdk_68_method_10_code 29 = .ok (.invokestatic 114, 3) := by decide +kernel
theorem d_jdk_68_m10_32 : decode jdk_68_method_10_code 32 = .ok (.istore 5, 2) := by decide +kernel
theorem d_jdk_68_m10_34 : decode jdk_68_method_10_code 34 = .ok (.iload 5, 2) := by decide +kernel
theorem d_jdk_68_m10_36 : decode jdk_68_method_10_code 36 = .ok (.ldc 39, 2) := by decide +kernel
theorem d_jdk_68_m10_38 : decode jdk_68_method_10_code 38 = .ok (.if_icmp .ne 13, 3) := by decide +kernel
theorem d_jdk_68_m10_41 : decode jdk_68_method_10_code 41 = .ok (.new 120, 3) := by decide +kernel
theorem d_jdk_68_m10_44 : decode jdk_68_method_10_code 44 = .ok (.dup, 1) := by decide +kernel
theorem d_jdk_68_m10_45 : decode jdk_68_method_10_code 45 = .ok (.ldc 122, 2) := by decide +kernel
theorem d_jdk_68_m10_47 : decode jdk_68_method_10_code 47 = .ok (.invokespecial 124, 3) := by decide +kernel
theorem d_jdk_68_m10_50 : decode jdk_68_method_10_code 50 = .ok (.athrow, 1) := by decide +kernel
theorem d_jdk_68_m10_51 : decode jdk_68_method_10_code 51 = .ok (.iload 5, 2) := by decide +kernel
theorem d_jdk_68_m10_53 : decode jdk_68_method_10_code 53 = .ok (.aload_n 0, 1) := by decide +kernel
theorem d_jdk_68_m10_54 : decode jdk_68_method_10_code 54 = .ok (.getfield 22, 3) := by decide +kernel
theorem d_jdk_68_m10_57 : decode jdk_68_method_10_code 57 = .ok (.ishr, 1) := by decide +kernel
theorem d_jdk_68_m10_58 : decode jdk_68_method_10_code 58 = .ok (.ireturn, 1) := by decide +kernel
set_option maxRecDepth 65536 in
set_option maxHeartbeats 40000000 in
theorem cNC0 {l : Launch} {Z : State} {a0 : Array Value} (W : Wd Z a0) {EL : List (String × Nat)} {vm : Vm} {h : Heap} {n_ c2 cap : Nat} (h1 : cap < n_) (h2 : n_ ≤ 18) (hc : c2 = if n_ < 2 * cap + 2 then 2 * cap + 2 else n_) {b d : Addr} {kd : ClassId} {ds : List Int32} (B : Bd Z h b d kd 0 cap ds) :
    Ctr false l Z a0 EL (⟨"java/lang/AbstractStringBuilder", "newCapacity", "(I)I"⟩ : MethodName) jdk_68_method_10_code 6 (some .int) ({ frames := 2, cells := 0, slots := 0, locals := 29 } : Room) #[.ref b, .int (Int32.ofNat n_)] vm h (fun v vm' h' => v = some (.int (Int32.ofNat c2)) ∧ h' = h) := by
  refine Ctr.of_go (L0 := #[.val (.ref b), .val (.int (Int32.ofNat n_)), .unset, .unset, .unset, .unset]) (by first | exact plainFor_of_name (by first | (simp [plainName, overriddenIn]; done) | decide +kernel) | decide +kernel) (fun m => by first | (simp [entryFrame, mkF, argsToLocals, Value.category, maxLocals]; done) | rfl) (fun p e s m below meth c vmi chi => ?_)
  have hb : c2 ≤ 40 ∧ 0 < c2 := by rw [hc]; split <;> omega
  refine Go.aload_n 1 d_jdk_68_m10_0 rfl rfl rfl ?_
  refine Go.getfield 4 d_jdk_68_m10_1 rfl (W.1 62 rfl) B.va ?_
  refine Go.arraylength 5 d_jdk_68_m10_4 rfl B.a0 ?_
  refine Go.istore_n #[.val (.ref b), .val (.int (Int32.ofNat n_)), .val (.int (Int32.ofNat cap)), .unset, .unset, .unset] 6 d_jdk_68_m10_5 rfl rfl ?_
  refine Go.iload_n 7 d_jdk_68_m10_6 rfl rfl ?_
  refine Go.aload_n 8 d_jdk_68_m10_7 rfl rfl rfl ?_
  refine Go.getfield 11 d_jdk_68_m10_8 rfl (W.1 64 rfl) B.co ?_
  refine Go.ishl (Int32.ofNat n_) 12 d_jdk_68_m10_11 rfl (shlN0 _) ?_
  refine Go.istore_n #[.val (.ref b), .val (.int (Int32.ofNat n_)), .val (.int (Int32.ofNat cap)), .val (.int (Int32.ofNat n_)), .unset, .unset] 13 d_jdk_68_m10_12 rfl rfl ?_
  refine Go.iload_n 14 d_jdk_68_m10_13 rfl rfl ?_
  refine Go.iload_n 15 d_jdk_68_m10_14 rfl rfl ?_
  refine Go.isub (Int32.ofNat (n_ - cap)) 16 d_jdk_68_m10_15 rfl (i32_ofNat_sub (by omega) (by omega)) ?_
  refine Go.istore #[.val (.ref b), .val (.int (Int32.ofNat n_)), .val (.int (Int32.ofNat cap)), .val (.int (Int32.ofNat n_)), .val (.int (Int32.ofNat (n_ - cap))), .unset] 18 d_jdk_68_m10_16 rfl rfl ?_
  refine Go.iload_n 19 d_jdk_68_m10_18 rfl rfl ?_
  refine Go.iload 21 d_jdk_68_m10_19 rfl rfl ?_
  refine Go.iload_n 22 d_jdk_68_m10_21 rfl rfl ?_
  refine Go.iconst (2) 23 d_jdk_68_m10_22 rfl rfl ?_
  refine Go.aload_n 24 d_jdk_68_m10_23 rfl rfl rfl ?_
  refine Go.getfield 27 d_jdk_68_m10_24 rfl (W.1 64 rfl) B.co ?_
  refine Go.ishl (Int32.ofNat 2) 28 d_jdk_68_m10_27 rfl (by decide) ?_
  refine Go.iadd (Int32.ofNat (cap + 2)) 29 d_jdk_68_m10_28 rfl (ofNat_add' _ _) ?_
  refine Go.invokestatic (rest := []) 0 [.int (Int32.ofNat cap), .int (Int32.ofNat (n_ - cap)), .int (Int32.ofNat (cap + 2))] 32 d_jdk_68_m10_29 rfl (W.1 114 rfl) (W.1 115 rfl) (W.1 116 rfl) (W.1 117 rfl) (by decide) (cNL W (r_ := c2) (by omega) (by omega) (by rw [hc]; split <;> split <;> omega) (by omega) (by omega)) (by decide +kernel : parseMethodDescriptor "(III)I" = some ⟨[.int, .int, .int], (some .int)⟩) rfl rfl rfl (nl rfl) (nl rfl) (nl rfl) (nl rfl) (nl rfl) (fun v1 vm1 h1 ⟨rv, hh⟩ c1 => ?_)
  subst rv; replace hh := hh.symm; subst hh
  refine Go.istore #[.val (.ref b), .val (.int (Int32.ofNat n_)), .val (.int (Int32.ofNat cap)), .val (.int (Int32.ofNat n_)), .val (.int (Int32.ofNat (n_ - cap))), .val (.int (Int32.ofNat c2))] 34 d_jdk_68_m10_32 rfl rfl ?_
  refine Go.iload 36 d_jdk_68_m10_34 rfl rfl ?_
  refine Go.ldcI (W.1 123 rfl) 38 d_jdk_68_m10_36 rfl ?_
  refine Go.if_icmpne 51 41 d_jdk_68_m10_38 (by decide) rfl rfl (fun q2 => ?_) (fun q2 => absurd ((ofNat_inj (b := 2147483647) (by omega) (by decide)).mp q2) (by omega))
  refine Go.iload 53 d_jdk_68_m10_51 rfl rfl ?_
  refine Go.aload_n 54 d_jdk_68_m10_53 rfl rfl rfl ?_
  refine Go.getfield 57 d_jdk_68_m10_54 rfl (W.1 64 rfl) B.co ?_
  refine Go.ishr (Int32.ofNat c2) 58 d_jdk_68_m10_57 rfl (shrN0 _) ?_
  exact Go.ireturn d_jdk_68_m10_58 rfl rfl (by simp) (nl rfl) (nl rfl) (fun vm' ch => ⟨rfl, rfl⟩)
theorem d_jdk_68_m9_0 : decode jdk_68_method_9_code 0 = .ok (.aload_n 0, 1) := by decide +kernel
theorem d_jdk_68_m9_1 : decode jdk_68_method_9_code 1 = .ok (.getfield 15, 3) := by decide +kernel
theorem d_jdk_68_m9_4 : decode jdk_68_method_9_code 4 = .ok (.arraylength, 1) := by decide +kernel
theorem d_jdk_68_m9_5 : decode jdk_68_method_9_code 5 = .ok (.aload_n 0, 1) := by decide +kernel
theorem d_jdk_68_m9_6 : decode jdk_68_method_9_code 6 = .ok (.getfield 22, 3) := by decide +kernel
theorem d_jdk_68_m9_9 : decode jdk_68_method_9_code 9 = .ok (.ishr, 1) := by decide +kernel
theorem d_jdk_68_m9_10 : decode jdk_68_method_9_code 10 = .ok (.istore_n 2, 1) := by decide +kernel
theorem d_jdk_68_m9_11 : decode jdk_68_method_9_code 11 = .ok (.iload_n 1, 1) := by decide +kernel
theorem d_jdk_68_m9_12 : decode jdk_68_method_9_code 12 = .ok (.iload_n 2, 1) := by decide +kernel
theorem d_jdk_68_m9_13 : decode jdk_68_method_9_code 13 = .ok (.isub, 1) := by decide +kernel
theorem d_jdk_68_m9_14 : decode jdk_68_method_9_code 14 = .ok (.ifCond .le 24, 3) := by decide +kernel
theorem d_jdk_68_m9_17 : decode jdk_68_method_9_code 17 = .ok (.aload_n 0, 1) := by decide +kernel
theorem d_jdk_68_m9_18 : decode jdk_68_method_9_code 18 = .ok (.aload_n 0, 1) := by decide +kernel
theorem d_jdk_68_m9_19 : decode jdk_68_method_9_code 19 = .ok (.getfield 15, 3) := by decide +kernel
theorem d_jdk_68_m9_22 : decode jdk_68_method_9_code 22 = .ok (.aload_n 0, 1) := by decide +kernel
theorem d_jdk_68_m9_23 : decode jdk_68_method_9_code 23 = .ok (.iload_n 1, 1) := by decide +kernel
theorem d_jdk_68_m9_24 : decode jdk_68_method_9_code 24 = .ok (.invokevirtual 104, 3) := by decide +kernel
theorem d_jdk_68_m9_27 : decode jdk_68_method_9_code 27 = .ok (.aload_n 0, 1) := by decide +kernel
theorem d_jdk_68_m9_28 : decode jdk_68_method_9_code 28 = .ok (.getfield 22, 3) := by decide +kernel
theorem d_jdk_68_m9_31 : decode jdk_68_method_9_code 31 = .ok (.ishl, 1) := by decide +kernel
theorem d_jdk_68_m9_32 : decode jdk_68_method_9_code 32 = .ok (.invokestatic 108, 3) := by decide +kernel
theorem d_jdk_68_m9_35 : decode jdk_68_method_9_code 35 = .ok (.putfield 15, 3) := by decide +kernel
theorem d_jdk_68_m9_38 : decode jdk_68_method_9_code 38 = .ok (.return_, 1) := by decide +kernel
set_option maxRecDepth 65536 in
set_option maxHeartbeats 40000000 in
theorem cEns0 {l : Launch} {Z : State} {a0 : Array Value} (W : Wd Z a0) {EL : List (String × Nat)} {vm : Vm} {h : Heap} {n_ : Nat} (hn : n_ ≤ 18) {b d : Addr} {kd : ClassId} {cap : Nat} {ds : List Int32} (B : Bd Z h b d kd 0 cap ds) (Sb : Safe Z EL vm h b) (zb : Z.heap.size ≤ b) (Sd : Safe Z EL vm h d) (hz : Z.heap.size ≤ d) (nd : d ≠ b) :
    Ctr false l Z a0 EL (⟨"java/lang/AbstractStringBuilder", "ensureCapacityInternal", "(I)V"⟩ : MethodName) jdk_68_method_9_code 3 none ({ frames := 3, cells := 1, slots := 80, locals := 48 } : Room) #[.ref b, .int (Int32.ofNat n_)] vm h (fun v vm' h' => v = none ∧ Keep h h' [b] ∧ ∃ d' kd' cap', n_ ≤ cap' ∧ Bd Z h' b d' kd' 0 cap' ds ∧ (d' = d ∨ h.size ≤ d') ∧ Safe Z EL vm' h' d') := by
  refine Ctr.of_go (L0 := #[.val (.ref b), .val (.int (Int32.ofNat n_)), .unset]) (by first | exact plainFor_of_name (by first | (simp [plainName, overriddenIn]; done) | decide +kernel) | decide +kernel) (fun m => by first | (simp [entryFrame, mkF, argsToLocals, Value.category, maxLocals]; done) | rfl) (fun p e s m below meth c vmi chi => ?_)
  have c40 := B.c40
  refine Go.aload_n 1 d_jdk_68_m9_0 rfl rfl rfl ?_
  refine Go.getfield 4 d_jdk_68_m9_1 rfl (W.1 62 rfl) B.va ?_
  refine Go.arraylength 5 d_jdk_68_m9_4 rfl B.a0 ?_
  refine Go.aload_n 6 d_jdk_68_m9_5 rfl rfl rfl ?_
  refine Go.getfield 9 d_jdk_68_m9_6 rfl (W.1 64 rfl) B.co ?_
  refine Go.ishr (Int32.ofNat cap) 10 d_jdk_68_m9_9 rfl (shrN0 _) ?_
  refine Go.istore_n #[.val (.ref b), .val (.int (Int32.ofNat n_)), .val (.int (Int32.ofNat cap))] 11 d_jdk_68_m9_10 rfl rfl ?_
  refine Go.iload_n 12 d_jdk_68_m9_11 rfl rfl ?_
  refine Go.iload_n 13 d_jdk_68_m9_12 rfl rfl ?_
  refine Go.isub ((Int32.ofNat n_) - (Int32.ofNat cap)) 14 d_jdk_68_m9_13 rfl rfl ?_
  by_cases hq : n_ ≤ cap
  · refine Go.ifle 38 17 d_jdk_68_m9_14 (by decide) rfl rfl (fun q1 => ?_) (fun q1 => absurd ((subPos (by omega) (by omega)).mp q1) (by omega))
    have f2 := CHr.safe chi B.ar.lt Sd
    have L2 := Nat.lt_of_lt_of_le B.ar.lt chi.2.1
    exact Go.return_ d_jdk_68_m9_38 rfl (nl rfl) (nl rfl) (fun vm' ch => ⟨rfl, Keep.refl h [b], d, kd, cap, hq, B, Or.inl rfl, ch.safe B.ar.lt f2⟩)
  · refine Go.ifle 38 17 d_jdk_68_m9_14 (by decide) rfl rfl (fun q3 => absurd ((subPos (by omega) (by omega)).mpr (by omega)) q3) (fun q3 => ?_)
    obtain ⟨c2, hc2⟩ : ∃ c2 : Nat, c2 = if n_ < 2 * cap + 2 then 2 * cap + 2 else n_ := ⟨_, rfl⟩
    have hb : c2 ≤ 40 ∧ cap < c2 ∧ n_ ≤ c2 := by rw [hc2]; split <;> omega
    refine Go.aload_n 18 d_jdk_68_m9_17 rfl rfl rfl ?_
    refine Go.aload_n 19 d_jdk_68_m9_18 rfl rfl rfl ?_
    refine Go.getfield 22 d_jdk_68_m9_19 rfl (W.1 62 rfl) B.va ?_
    refine Go.aload_n 23 d_jdk_68_m9_22 rfl rfl rfl ?_
    refine Go.iload_n 24 d_jdk_68_m9_23 rfl rfl ?_
    refine Go.invokevirtual (rest := [.ref d, .ref b]) 2 b [.int (Int32.ofNat n_)] 27 d_jdk_68_m9_24 rfl B.e (W.1 109 rfl) (declares_of (W.1 110 rfl) (W.1 113 rfl)) (fun s hs => notFace_of_selects (args := #[]) (mvT hs (W.1 112 rfl))) (W.1 112 rfl) (W.1 110 rfl) (W.1 58 rfl) (W.1 113 rfl) (by decide) (cNC0 W (by omega) hn hc2 B) (by decide +kernel : parseMethodDescriptor "(I)I" = some ⟨[.int], (some .int)⟩) rfl rfl rfl (nl rfl) (nl rfl) (nl rfl) (nl rfl) (nl rfl) (fun v4 vm4 h4 ⟨rv, hh⟩ c4 => ?_)
    subst rv; replace hh := hh.symm; subst hh
    refine Go.aload_n 28 d_jdk_68_m9_27 rfl rfl rfl ?_
    refine Go.getfield 31 d_jdk_68_m9_28 rfl (W.1 64 rfl) B.co ?_
    refine Go.ishl (Int32.ofNat c2) 32 d_jdk_68_m9_31 rfl (shlN0 _) ?_
    refine Go.invokestatic (rest := [.ref b]) 1 [.ref d, .int (Int32.ofNat c2)] 35 d_jdk_68_m9_32 rfl (W.1 124 rfl) (W.1 125 rfl) (W.1 126 rfl) (W.1 127 rfl) (by decide) (cCpy W B.a0 (by simp only [List.length_map]; have := B.le; omega) (by omega) (by omega)) (by decide +kernel : parseMethodDescriptor "([BI)[B" = some ⟨[(.array .byte), .int], (some (.array .byte))⟩) rfl rfl rfl (nl rfl) (nl rfl) (nl rfl) (nl rfl) (nl rfl) (fun v5 vm5 h5 ⟨r, kr, rv, E, A, Y, hr, Sr⟩ c5 => ?_)
    subst rv
    have f6 := CHr.safe (CHr.trans chi (CHr.trans c4 c5)) B.e.lt Sb
    have L6 := Nat.lt_of_lt_of_le B.e.lt (CHr.trans chi (CHr.trans c4 c5)).2.1
    refine Go.putfield 38 d_jdk_68_m9_35 rfl (W.1 62 rfl) (B.va.ext E) (B.e.ext E) (Or.inl (W.1 63 rfl)) (W.1 39 rfl) (ty := (.array .byte)) (by decide) rfl rfl f6 zb (fun h7 X7 S7 c7 => ?_)
    have nr : r ≠ b := (ne_of_new B.e.lt hr).symm
    have A1 := Arv.other A X7 nr
    have f8 := CHr.safe c7 A.lt Sr
    have L8 := Nat.lt_of_lt_of_le A.lt c7.2.1
    exact Go.return_ d_jdk_68_m9_38 rfl (nl rfl) (nl rfl) (fun vm' ch => ⟨rfl, (Keep.ofExt E [b]).wr X7 (Or.inl (by simp)), r, kr, c2, hb.2.2, ⟨(B.e.ext E).wr X7, ((B.co.ext E).other X7 (Or.inr (slot_ne (a0 := a0) (C := "java/lang/StringBuilder") (Or.inl (W.1 65 rfl)) (Or.inl (W.1 63 rfl)) (by decide) (t := .byte) (t' := (.array .byte)) (by decide) (by decide)))), ((B.va.ext E).same X7), ((B.ct.ext E).other X7 (Or.inr (slot_ne (a0 := a0) (C := "java/lang/StringBuilder") (Or.inl (W.1 103 rfl)) (Or.inl (W.1 63 rfl)) (by decide) (t := .int) (t' := (.array .byte)) (by decide) (by decide)))), ((B.my.ext E).other X7 (Or.inr (slot_ne (a0 := a0) (C := "java/lang/StringBuilder") (Or.inl (W.1 298 rfl)) (Or.inl (W.1 63 rfl)) (by decide) (t := .boolean) (t' := (.array .byte)) (by decide) (by decide)))), Arv.up0 A1, Y.wr X7, ⟨hb.1, (by have := B.le; omega), Or.inl rfl⟩, B.ch, fun _ => B.lat⟩, Or.inr hr, ch.safe A1.lt f8⟩)
set_option maxRecDepth 65536 in
set_option maxHeartbeats 40000000 in
theorem cNC1 {l : Launch} {Z : State} {a0 : Array Value} (W : Wd Z a0) {EL : List (String × Nat)} {vm : Vm} {h : Heap} {n_ c2 cap : Nat} (h1 : cap < n_) (h2 : n_ ≤ 18) (hc : c2 = if n_ < 2 * cap + 2 then 2 * cap + 2 else n_) {b d : Addr} {kd : ClassId} {ds : List Int32} (B : Bd Z h b d kd 1 cap ds) :
    Ctr false l Z a0 EL (⟨"java/lang/AbstractStringBuilder", "newCapacity", "(I)I"⟩ : MethodName) jdk_68_method_10_code 6 (some .int) ({ frames := 2, cells := 0, slots := 0, locals := 29 } : Room) #[.ref b, .int (Int32.ofNat n_)] vm h (fun v vm' h' => v = some (.int (Int32.ofNat c2)) ∧ h' = h) := by
  refine Ctr.of_go (L0 := #[.val (.ref b), .val (.int (Int32.ofNat n_)), .unset, .unset, .unset, .unset]) (by first | exact plainFor_of_name (by first | (simp [plainName, overriddenIn]; done) | decide +kernel) | decide +kernel) (fun m => by first | (simp [entryFrame, mkF, argsToLocals, Value.category, maxLocals]; done) | rfl) (fun p e s m below meth c vmi chi => ?_)
  have hb : c2 ≤ 40 ∧ 0 < c2 := by rw [hc]; split <;> omega
  refine Go.aload_n 1 d_jdk_68_m10_0 rfl rfl rfl ?_
  refine Go.getfield 4 d_jdk_68_m10_1 rfl (W.1 62 rfl) B.va ?_
  refine Go.arraylength 5 d_jdk_68_m10_4 rfl B.a1 ?_
  refine Go.istore_n #[.val (.ref b), .val (.int (Int32.ofNat n_)), .val (.int (Int32.ofNat (2 * cap))), .unset, .unset, .unset] 6 d_jdk_68_m10_5 rfl rfl ?_
  refine Go.iload_n 7 d_jdk_68_m10_6 rfl rfl ?_
  refine Go.aload_n 8 d_jdk_68_m10_7 rfl rfl rfl ?_
  refine Go.getfield 11 d_jdk_68_m10_8 rfl (W.1 64 rfl) B.co ?_
  refine Go.ishl (Int32.ofNat (2 * n_)) 12 d_jdk_68_m10_11 rfl (shl1N (by omega)) ?_
  refine Go.istore_n #[.val (.ref b), .val (.int (Int32.ofNat n_)), .val (.int (Int32.ofNat (2 * cap))), .val (.int (Int32.ofNat (2 * n_))), .unset, .unset] 13 d_jdk_68_m10_12 rfl rfl ?_
  refine Go.iload_n 14 d_jdk_68_m10_13 rfl rfl ?_
  refine Go.iload_n 15 d_jdk_68_m10_14 rfl rfl ?_
  refine Go.isub (Int32.ofNat ((2 * n_) - (2 * cap))) 16 d_jdk_68_m10_15 rfl (i32_ofNat_sub (by omega) (by omega)) ?_
  refine Go.istore #[.val (.ref b), .val (.int (Int32.ofNat n_)), .val (.int (Int32.ofNat (2 * cap))), .val (.int (Int32.ofNat (2 * n_))), .val (.int (Int32.ofNat ((2 * n_) - (2 * cap)))), .unset] 18 d_jdk_68_m10_16 rfl rfl ?_
  refine Go.iload_n 19 d_jdk_68_m10_18 rfl rfl ?_
  refine Go.iload 21 d_jdk_68_m10_19 rfl rfl ?_
  refine Go.iload_n 22 d_jdk_68_m10_21 rfl rfl ?_
  refine Go.iconst (2) 23 d_jdk_68_m10_22 rfl rfl ?_
  refine Go.aload_n 24 d_jdk_68_m10_23 rfl rfl rfl ?_
  refine Go.getfield 27 d_jdk_68_m10_24 rfl (W.1 64 rfl) B.co ?_
  refine Go.ishl (Int32.ofNat 4) 28 d_jdk_68_m10_27 rfl (by decide) ?_
  refine Go.iadd (Int32.ofNat ((2 * cap) + 4)) 29 d_jdk_68_m10_28 rfl (ofNat_add' _ _) ?_
  refine Go.invokestatic (rest := []) 0 [.int (Int32.ofNat (2 * cap)), .int (Int32.ofNat ((2 * n_) - (2 * cap))), .int (Int32.ofNat ((2 * cap) + 4))] 32 d_jdk_68_m10_29 rfl (W.1 114 rfl) (W.1 115 rfl) (W.1 116 rfl) (W.1 117 rfl) (by decide) (cNL W (r_ := (2 * c2)) (by omega) (by omega) (by rw [hc]; split <;> split <;> omega) (by omega) (by omega)) (by decide +kernel : parseMethodDescriptor "(III)I" = some ⟨[.int, .int, .int], (some .int)⟩) rfl rfl rfl (nl rfl) (nl rfl) (nl rfl) (nl rfl) (nl rfl) (fun v1 vm1 h1 ⟨rv, hh⟩ c1 => ?_)
  subst rv; replace hh := hh.symm; subst hh
  refine Go.istore #[.val (.ref b), .val (.int (Int32.ofNat n_)), .val (.int (Int32.ofNat (2 * cap))), .val (.int (Int32.ofNat (2 * n_))), .val (.int (Int32.ofNat ((2 * n_) - (2 * cap)))), .val (.int (Int32.ofNat (2 * c2)))] 34 d_jdk_68_m10_32 rfl rfl ?_
  refine Go.iload 36 d_jdk_68_m10_34 rfl rfl ?_
  refine Go.ldcI (W.1 123 rfl) 38 d_jdk_68_m10_36 rfl ?_
  refine Go.if_icmpne 51 41 d_jdk_68_m10_38 (by decide) rfl rfl (fun q2 => ?_) (fun q2 => absurd ((ofNat_inj (b := 2147483647) (by omega) (by decide)).mp q2) (by omega))
  refine Go.iload 53 d_jdk_68_m10_51 rfl rfl ?_
  refine Go.aload_n 54 d_jdk_68_m10_53 rfl rfl rfl ?_
  refine Go.getfield 57 d_jdk_68_m10_54 rfl (W.1 64 rfl) B.co ?_
  refine Go.ishr (Int32.ofNat c2) 58 d_jdk_68_m10_57 rfl (shr1N (by omega)) ?_
  exact Go.ireturn d_jdk_68_m10_58 rfl rfl (by simp) (nl rfl) (nl rfl) (fun vm' ch => ⟨rfl, rfl⟩)
set_option maxRecDepth 65536 in
set_option maxHeartbeats 40000000 in
theorem cEns1 {l : Launch} {Z : State} {a0 : Array Value} (W : Wd Z a0) {EL : List (String × Nat)} {vm : Vm} {h : Heap} {n_ : Nat} (hn : n_ ≤ 18) {b d : Addr} {kd : ClassId} {cap : Nat} {ds : List Int32} (B : Bd Z h b d kd 1 cap ds) (Sb : Safe Z EL vm h b) (zb : Z.heap.size ≤ b) (Sd : Safe Z EL vm h d) (hz : Z.heap.size ≤ d) (nd : d ≠ b) :
    Ctr false l Z a0 EL (⟨"java/lang/AbstractStringBuilder", "ensureCapacityInternal", "(I)V"⟩ : MethodName) jdk_68_method_9_code 3 none ({ frames := 3, cells := 1, slots := 80, locals := 48 } : Room) #[.ref b, .int (Int32.ofNat n_)] vm h (fun v vm' h' => v = none ∧ Keep h h' [b] ∧ ∃ d' kd' cap', n_ ≤ cap' ∧ Bd Z h' b d' kd' 1 cap' ds ∧ (d' = d ∨ h.size ≤ d') ∧ Safe Z EL vm' h' d') := by
  refine Ctr.of_go (L0 := #[.val (.ref b), .val (.int (Int32.ofNat n_)), .unset]) (by first | exact plainFor_of_name (by first | (simp [plainName, overriddenIn]; done) | decide +kernel) | decide +kernel) (fun m => by first | (simp [entryFrame, mkF, argsToLocals, Value.category, maxLocals]; done) | rfl) (fun p e s m below meth c vmi chi => ?_)
  have c40 := B.c40
  refine Go.aload_n 1 d_jdk_68_m9_0 rfl rfl rfl ?_
  refine Go.getfield 4 d_jdk_68_m9_1 rfl (W.1 62 rfl) B.va ?_
  refine Go.arraylength 5 d_jdk_68_m9_4 rfl B.a1 ?_
  refine Go.aload_n 6 d_jdk_68_m9_5 rfl rfl rfl ?_
  refine Go.getfield 9 d_jdk_68_m9_6 rfl (W.1 64 rfl) B.co ?_
  refine Go.ishr (Int32.ofNat cap) 10 d_jdk_68_m9_9 rfl (shr1N (by omega)) ?_
  refine Go.istore_n #[.val (.ref b), .val (.int (Int32.ofNat n_)), .val (.int (Int32.ofNat cap))] 11 d_jdk_68_m9_10 rfl rfl ?_
  refine Go.iload_n 12 d_jdk_68_m9_11 rfl rfl ?_
  refine Go.iload_n 13 d_jdk_68_m9_12 rfl rfl ?_
  refine Go.isub ((Int32.ofNat n_) - (Int32.ofNat cap)) 14 d_jdk_68_m9_13 rfl rfl ?_
  by_cases hq : n_ ≤ cap
  · refine Go.ifle 38 17 d_jdk_68_m9_14 (by decide) rfl rfl (fun q1 => ?_) (fun q1 => absurd ((subPos (by omega) (by omega)).mp q1) (by omega))
    have f2 := CHr.safe chi B.ar.lt Sd
    have L2 := Nat.lt_of_lt_of_le B.ar.lt chi.2.1
    exact Go.return_ d_jdk_68_m9_38 rfl (nl rfl) (nl rfl) (fun vm' ch => ⟨rfl, Keep.refl h [b], d, kd, cap, hq, B, Or.inl rfl, ch.safe B.ar.lt f2⟩)
  · refine Go.ifle 38 17 d_jdk_68_m9_14 (by decide) rfl rfl (fun q3 => absurd ((subPos (by omega) (by omega)).mpr (by omega)) q3) (fun q3 => ?_)
    obtain ⟨c2, hc2⟩ : ∃ c2 : Nat, c2 = if n_ < 2 * cap + 2 then 2 * cap + 2 else n_ := ⟨_, rfl⟩
    have hb : c2 ≤ 40 ∧ cap < c2 ∧ n_ ≤ c2 := by rw [hc2]; split <;> omega
    refine Go.aload_n 18 d_jdk_68_m9_17 rfl rfl rfl ?_
    refine Go.aload_n 19 d_jdk_68_m9_18 rfl rfl rfl ?_
    refine Go.getfield 22 d_jdk_68_m9_19 rfl (W.1 62 rfl) B.va ?_
    refine Go.aload_n 23 d_jdk_68_m9_22 rfl rfl rfl ?_
    refine Go.iload_n 24 d_jdk_68_m9_23 rfl rfl ?_
    refine Go.invokevirtual (rest := [.ref d, .ref b]) 2 b [.int (Int32.ofNat n_)] 27 d_jdk_68_m9_24 rfl B.e (W.1 109 rfl) (declares_of (W.1 110 rfl) (W.1 113 rfl)) (fun s hs => notFace_of_selects (args := #[]) (mvT hs (W.1 112 rfl))) (W.1 112 rfl) (W.1 110 rfl) (W.1 58 rfl) (W.1 113 rfl) (by decide) (cNC1 W (by omega) hn hc2 B) (by decide +kernel : parseMethodDescriptor "(I)I" = some ⟨[.int], (some .int)⟩) rfl rfl rfl (nl rfl) (nl rfl) (nl rfl) (nl rfl) (nl rfl) (fun v4 vm4 h4 ⟨rv, hh⟩ c4 => ?_)
    subst rv; replace hh := hh.symm; subst hh
    refine Go.aload_n 28 d_jdk_68_m9_27 rfl rfl rfl ?_
    refine Go.getfield 31 d_jdk_68_m9_28 rfl (W.1 64 rfl) B.co ?_
    refine Go.ishl (Int32.ofNat (2 * c2)) 32 d_jdk_68_m9_31 rfl (shl1N (by omega)) ?_
    refine Go.invokestatic (rest := [.ref b]) 1 [.ref d, .int (Int32.ofNat (2 * c2))] 35 d_jdk_68_m9_32 rfl (W.1 124 rfl) (W.1 125 rfl) (W.1 126 rfl) (W.1 127 rfl) (by decide) (cCpy W B.a1 (by rw [b2_len]; have := B.le; omega) (by omega) (by omega)) (by decide +kernel : parseMethodDescriptor "([BI)[B" = some ⟨[(.array .byte), .int], (some (.array .byte))⟩) rfl rfl rfl (nl rfl) (nl rfl) (nl rfl) (nl rfl) (nl rfl) (fun v5 vm5 h5 ⟨r, kr, rv, E, A, Y, hr, Sr⟩ c5 => ?_)
    subst rv
    have f6 := CHr.safe (CHr.trans chi (CHr.trans c4 c5)) B.e.lt Sb
    have L6 := Nat.lt_of_lt_of_le B.e.lt (CHr.trans chi (CHr.trans c4 c5)).2.1
    refine Go.putfield 38 d_jdk_68_m9_35 rfl (W.1 62 rfl) (B.va.ext E) (B.e.ext E) (Or.inl (W.1 63 rfl)) (W.1 39 rfl) (ty := (.array .byte)) (by decide) rfl rfl f6 zb (fun h7 X7 S7 c7 => ?_)
    have nr : r ≠ b := (ne_of_new B.e.lt hr).symm
    have A1 := Arv.other A X7 nr
    have f8 := CHr.safe c7 A.lt Sr
    have L8 := Nat.lt_of_lt_of_le A.lt c7.2.1
    exact Go.return_ d_jdk_68_m9_38 rfl (nl rfl) (nl rfl) (fun vm' ch => ⟨rfl, (Keep.ofExt E [b]).wr X7 (Or.inl (by simp)), r, kr, c2, hb.2.2, ⟨(B.e.ext E).wr X7, ((B.co.ext E).other X7 (Or.inr (slot_ne (a0 := a0) (C := "java/lang/StringBuilder") (Or.inl (W.1 65 rfl)) (Or.inl (W.1 63 rfl)) (by decide) (t := .byte) (t' := (.array .byte)) (by decide) (by decide)))), ((B.va.ext E).same X7), ((B.ct.ext E).other X7 (Or.inr (slot_ne (a0 := a0) (C := "java/lang/StringBuilder") (Or.inl (W.1 103 rfl)) (Or.inl (W.1 63 rfl)) (by decide) (t := .int) (t' := (.array .byte)) (by decide) (by decide)))), ((B.my.ext E).other X7 (Or.inr (slot_ne (a0 := a0) (C := "java/lang/StringBuilder") (Or.inl (W.1 298 rfl)) (Or.inl (W.1 63 rfl)) (by decide) (t := .boolean) (t' := (.array .byte)) (by decide) (by decide)))), Arv.up1 A1, Y.wr X7, ⟨hb.1, (by have := B.le; omega), Or.inr rfl⟩, B.ch, (fun q => absurd q (by decide))⟩, Or.inr hr, ch.safe A1.lt f8⟩)
theorem d_jdk_41_m13_0 : decode jdk_41_method_13_code 0 = .ok (.iload_n 2, 1) := by decide +kernel
theorem d_jdk_41_m13_1 : decode jdk_41_method_13_code 1 = .ok (.iload_n 0, 1) := by decide +kernel
theorem d_jdk_41_m13_2 : decode jdk_41_method_13_code 2 = .ok (.ior, 1) := by decide +kernel
theorem d_jdk_41_m13_3 : decode jdk_41_method_13_code 3 = .ok (.iload_n 1, 1) := by decide +kernel
theorem d_jdk_41_m13_4 : decode jdk_41_method_13_code 4 = .ok (.ior, 1) := by decide +kernel
theorem d_jdk_41_m13_5 : decode jdk_41_method_13_code 5 = .ok (.ifCond .lt 10, 3) := by decide +kernel
theorem d_jdk_41_m13_8 : decode jdk_41_method_13_code 8 = .ok (.iload_n 1, 1) := by decide +kernel
theorem d_jdk_41_m13_9 : decode jdk_41_method_13_code 9 = .ok (.iload_n 2, 1) := by decide +kernel
theorem d_jdk_41_m13_10 : decode jdk_41_method_13_code 10 = .ok (.iload_n 0, 1) := by decide +kernel
theorem d_jdk_41_m13_11 : decode jdk_41_method_13_code 11 = .ok (.isub, 1) := by decide +kernel
theorem d_jdk_41_m13_12 : decode jdk_41_method_13_code 12 = .ok (.if_icmp .le 11, 3) := by decide +kernel
theorem d_jdk_41_m13_15 : decode jdk_41_method_13_code 15 = .ok (.aload_n 3, 1) := by decide +kernel
theorem d_jdk_41_m13_16 : decode jdk_41_method_13_code 16 = .ok (.iload_n 0, 1) := by decide +kernel
theorem d_jdk_41_m13_17 : decode jdk_41_method_13_code 17 = .ok (.iload_n 1, 1) := by decide +kernel
theorem d_jdk_41_m13_18 : decode jdk_41_method_13_code 18 = .ok (.iload_n 2, 1) := by decide +kernel
theorem d_jdk_41_m13_19 : decode jdk_41_method_13_code 19 = .ok (.invokestatic 103, 3) := by decide +kernel
theorem d_jdk_41_m13_22 : decode jdk_41_method_13_code 22 = .ok (.athrow, 1) := by decide +kernel
theorem d_jdk_41_m13_23 : decode jdk_41_method_13_code 23 = .ok (.iload_n 0, 1) := by decide +kernel
theorem d_jdk_41_m13_24 : decode jdk_41_method_13_code 24 = .ok (.ireturn, 1) := by decide +kernel
set_option maxRecDepth 65536 in
set_option maxHeartbeats 40000000 in
theorem cPcfN {l : Launch} {Z : State} {a0 : Array Value} (W : Wd Z a0) {EL : List (String × Nat)} {vm : Vm} {h : Heap} {x_ y_ z_ : Nat} (h1 : x_ + y_ ≤ z_) (h2 : z_ ≤ 4000) :
    Ctr false l Z a0 EL (⟨"jdk/internal/util/Preconditions", "checkFromIndexSize", "(IIILjava/util/function/BiFunction;)I"⟩ : MethodName) jdk_41_method_13_code 4 (some .int) ({ frames := 0, cells := 0, slots := 0, locals := 0 } : Room) #[.int (Int32.ofNat x_), .int (Int32.ofNat y_), .int (Int32.ofNat z_), .null] vm h (fun v vm' h' => v = some (.int (Int32.ofNat x_)) ∧ h' = h) := by
  refine Ctr.of_go (L0 := #[.val (.int (Int32.ofNat x_)), .val (.int (Int32.ofNat y_)), .val (.int (Int32.ofNat z_)), .val (.null)]) (by first | exact plainFor_of_name (by first | (simp [plainName, overriddenIn]; done) | decide +kernel) | decide +kernel) (fun m => by first | (simp [entryFrame, mkF, argsToLocals, Value.category, maxLocals]; done) | rfl) (fun p e s m below meth c vmi chi => ?_)
  refine Go.iload_n 1 d_jdk_41_m13_0 rfl rfl ?_
  refine Go.iload_n 2 d_jdk_41_m13_1 rfl rfl ?_
  refine Go.ior ((Int32.ofNat z_) ||| (Int32.ofNat x_)) 3 d_jdk_41_m13_2 rfl rfl ?_
  refine Go.iload_n 4 d_jdk_41_m13_3 rfl rfl ?_
  refine Go.ior (((Int32.ofNat z_) ||| (Int32.ofNat x_)) ||| (Int32.ofNat y_)) 5 d_jdk_41_m13_4 rfl rfl ?_
  refine Go.iflt 15 8 d_jdk_41_m13_5 (by decide) rfl rfl (fun q1 => absurd q1 (or3 (by omega) (by omega) (by omega))) (fun q1 => ?_)
  refine Go.iload_n 9 d_jdk_41_m13_8 rfl rfl ?_
  refine Go.iload_n 10 d_jdk_41_m13_9 rfl rfl ?_
  refine Go.iload_n 11 d_jdk_41_m13_10 rfl rfl ?_
  refine Go.isub ((Int32.ofNat z_) - (Int32.ofNat x_)) 12 d_jdk_41_m13_11 rfl rfl ?_
  refine Go.if_icmple 23 15 d_jdk_41_m13_12 (by decide) rfl rfl (fun q2 => ?_) (fun q2 => absurd q2 (subLe h1 (by omega)))
  refine Go.iload_n 24 d_jdk_41_m13_23 rfl rfl ?_
  exact Go.ireturn d_jdk_41_m13_24 rfl rfl (by simp) (nl rfl) (nl rfl) (fun vm' ch => ⟨rfl, rfl⟩)
set_option maxRecDepth 65536 in
set_option maxHeartbeats 40000000 in
theorem cPcfR {l : Launch} {Z : State} {a0 : Array Value} (W : Wd Z a0) {EL : List (String × Nat)} {vm : Vm} {h : Heap} {x_ y_ z_ : Nat} {f_ : Addr} (h1 : x_ + y_ ≤ z_) (h2 : z_ ≤ 4000) :
    Ctr false l Z a0 EL (⟨"jdk/internal/util/Preconditions", "checkFromIndexSize", "(IIILjava/util/function/BiFunction;)I"⟩ : MethodName) jdk_41_method_13_code 4 (some .int) ({ frames := 0, cells := 0, slots := 0, locals := 0 } : Room) #[.int (Int32.ofNat x_), .int (Int32.ofNat y_), .int (Int32.ofNat z_), .ref f_] vm h (fun v vm' h' => v = some (.int (Int32.ofNat x_)) ∧ h' = h) := by
  refine Ctr.of_go (L0 := #[.val (.int (Int32.ofNat x_)), .val (.int (Int32.ofNat y_)), .val (.int (Int32.ofNat z_)), .val (.ref f_)]) (by first | exact plainFor_of_name (by first | (simp [plainName, overriddenIn]; done) | decide +kernel) | decide +kernel) (fun m => by first | (simp [entryFrame, mkF, argsToLocals, Value.category, maxLocals]; done) | rfl) (fun p e s m below meth c vmi chi => ?_)
  refine Go.iload_n 1 d_jdk_41_m13_0 rfl rfl ?_
  refine Go.iload_n 2 d_jdk_41_m13_1 rfl rfl ?_
  refine Go.ior ((Int32.ofNat z_) ||| (Int32.ofNat x_)) 3 d_jdk_41_m13_2 rfl rfl ?_
  refine Go.iload_n 4 d_jdk_41_m13_3 rfl rfl ?_
  refine Go.ior (((Int32.ofNat z_) ||| (Int32.ofNat x_)) ||| (Int32.ofNat y_)) 5 d_jdk_41_m13_4 rfl rfl ?_
  refine Go.iflt 15 8 d_jdk_41_m13_5 (by decide) rfl rfl (fun q1 => absurd q1 (or3 (by omega) (by omega) (by omega))) (fun q1 => ?_)
  refine Go.iload_n 9 d_jdk_41_m13_8 rfl rfl ?_
  refine Go.iload_n 10 d_jdk_41_m13_9 rfl rfl ?_
  refine Go.iload_n 11 d_jdk_41_m13_10 rfl rfl ?_
  refine Go.isub ((Int32.ofNat z_) - (Int32.ofNat x_)) 12 d_jdk_41_m13_11 rfl rfl ?_
  refine Go.if_icmple 23 15 d_jdk_41_m13_12 (by decide) rfl rfl (fun q2 => ?_) (fun q2 => absurd q2 (subLe h1 (by omega)))
  refine Go.iload_n 24 d_jdk_41_m13_23 rfl rfl ?_
  exact Go.ireturn d_jdk_41_m13_24 rfl rfl (by simp) (nl rfl) (nl rfl) (fun vm' ch => ⟨rfl, rfl⟩)
theorem d_jdk_42_m157_0 : decode jdk_42_method_157_code 0 = .ok (.iload_n 0, 1) := by decide +kernel
theorem d_jdk_42_m157_1 : decode jdk_42_method_157_code 1 = .ok (.iload_n 1, 1) := by decide +kernel
theorem d_jdk_42_m157_2 : decode jdk_42_method_157_code 2 = .ok (.iload_n 2, 1) := by decide +kernel
theorem d_jdk_42_m157_3 : decode jdk_42_method_157_code 3 = .ok (.getstatic 1053, 3) := by decide +kernel
theorem d_jdk_42_m157_6 : decode jdk_42_method_157_code 6 = .ok (.invokestatic 1065, 3) := by decide +kernel
theorem d_jdk_42_m157_9 : decode jdk_42_method_157_code 9 = .ok (.ireturn, 1) := by decide +kernel
set_option maxRecDepth 65536 in
set_option maxHeartbeats 40000000 in
theorem cCbo {l : Launch} {Z : State} {a0 : Array Value} (W : Wd Z a0) {EL : List (String × Nat)} {vm : Vm} {h : Heap} {x_ y_ z_ : Nat} (h1 : x_ + y_ ≤ z_) (h2 : z_ ≤ 4000) :
    Ctr false l Z a0 EL (⟨"java/lang/String", "checkBoundsOffCount", "(III)I"⟩ : MethodName) jdk_42_method_157_code 3 (some .int) ({ frames := 1, cells := 0, slots := 0, locals := 15 } : Room) #[.int (Int32.ofNat x_), .int (Int32.ofNat y_), .int (Int32.ofNat z_)] vm h (fun v vm' h' => v = some (.int (Int32.ofNat x_)) ∧ h' = h) := by
  refine Ctr.of_go (L0 := #[.val (.int (Int32.ofNat x_)), .val (.int (Int32.ofNat y_)), .val (.int (Int32.ofNat z_))]) (by first | exact plainFor_of_name (by first | (simp [plainName, overriddenIn]; done) | decide +kernel) | decide +kernel) (fun m => by first | (simp [entryFrame, mkF, argsToLocals, Value.category, maxLocals]; done) | rfl) (fun p e s m below meth c vmi chi => ?_)
  obtain ⟨fm, Fz, hr0⟩ := W.2.2
  rcases ref_cases hr0 with rfl | ⟨f_, rfl⟩
  · refine Go.iload_n 1 d_jdk_42_m157_0 rfl rfl ?_
    refine Go.iload_n 2 d_jdk_42_m157_1 rfl rfl ?_
    refine Go.iload_n 3 d_jdk_42_m157_2 rfl rfl ?_
    refine Go.know fun hE1 _ _ => ?_
    refine Go.getstatic 6 d_jdk_42_m157_3 rfl (W.1 83 rfl) (Fz.ext hE1) ?_
    refine Go.invokestatic (rest := []) 0 [.int (Int32.ofNat x_), .int (Int32.ofNat y_), .int (Int32.ofNat z_), .null] 9 d_jdk_42_m157_6 rfl (W.1 291 rfl) (W.1 292 rfl) (W.1 84 rfl) (W.1 293 rfl) (by decide) (cPcfN W h1 h2) (by decide +kernel : parseMethodDescriptor "(IIILjava/util/function/BiFunction;)I" = some ⟨[.int, .int, .int, (.object "java/util/function/BiFunction")], (some .int)⟩) rfl rfl rfl (nl rfl) (nl rfl) (nl rfl) (nl rfl) (nl rfl) (fun v2 vm2 h2 ⟨rv, hh⟩ c2 => ?_)
    subst rv; replace hh := hh.symm; subst hh
    exact Go.ireturn d_jdk_42_m157_9 rfl rfl (by simp) (nl rfl) (nl rfl) (fun vm' ch => ⟨rfl, rfl⟩)
  · refine Go.iload_n 1 d_jdk_42_m157_0 rfl rfl ?_
    refine Go.iload_n 2 d_jdk_42_m157_1 rfl rfl ?_
    refine Go.iload_n 3 d_jdk_42_m157_2 rfl rfl ?_
    refine Go.know fun hE3 _ _ => ?_
    refine Go.getstatic 6 d_jdk_42_m157_3 rfl (W.1 83 rfl) (Fz.ext hE3) ?_
    refine Go.invokestatic (rest := []) 0 [.int (Int32.ofNat x_), .int (Int32.ofNat y_), .int (Int32.ofNat z_), .ref f_] 9 d_jdk_42_m157_6 rfl (W.1 291 rfl) (W.1 292 rfl) (W.1 84 rfl) (W.1 293 rfl) (by decide) (cPcfR W h1 h2) (by decide +kernel : parseMethodDescriptor "(IIILjava/util/function/BiFunction;)I" = some ⟨[.int, .int, .int, (.object "java/util/function/BiFunction")], (some .int)⟩) rfl rfl rfl (nl rfl) (nl rfl) (nl rfl) (nl rfl) (nl rfl) (fun v4 vm4 h4 ⟨rv, hh⟩ c4 => ?_)
    subst rv; replace hh := hh.symm; subst hh
    exact Go.ireturn d_jdk_42_m157_9 rfl rfl (by simp) (nl rfl) (nl rfl) (fun vm' ch => ⟨rfl, rfl⟩)
theorem d_jdk_52_m94_0 : decode jdk_52_method_94_code 0 = .ok (.iload_n 0, 1) := by decide +kernel
theorem d_jdk_52_m94_1 : decode jdk_52_method_94_code 1 = .ok (.iload_n 1, 1) := by decide +kernel
theorem d_jdk_52_m94_2 : decode jdk_52_method_94_code 2 = .ok (.aload_n 2, 1) := by decide +kernel
theorem d_jdk_52_m94_3 : decode jdk_52_method_94_code 3 = .ok (.invokestatic 48, 3) := by decide +kernel
theorem d_jdk_52_m94_6 : decode jdk_52_method_94_code 6 = .ok (.invokestatic 419, 3) := by decide +kernel
theorem d_jdk_52_m94_9 : decode jdk_52_method_94_code 9 = .ok (.pop, 1) := by decide +kernel
theorem d_jdk_52_m94_10 : decode jdk_52_method_94_code 10 = .ok (.return_, 1) := by decide +kernel
set_option maxRecDepth 65536 in
set_option maxHeartbeats 40000000 in
theorem cUcb {l : Launch} {Z : State} {a0 : Array Value} (W : Wd Z a0) {EL : List (String × Nat)} {vm : Vm} {h : Heap} {d : Addr} {kd : ClassId} {x_ y_ m_ : Nat} {vs : List Value} {dv : Value} (A : Arv Z h d kd .byte (Int32.ofNat (2 * m_)) vs dv) (h1 : x_ + y_ ≤ m_) (h2 : m_ ≤ 4000) :
    Ctr false l Z a0 EL (⟨"java/lang/StringUTF16", "checkBoundsOffCount", "(II[B)V"⟩ : MethodName) jdk_52_method_94_code 3 none ({ frames := 2, cells := 0, slots := 0, locals := 29 } : Room) #[.int (Int32.ofNat x_), .int (Int32.ofNat y_), .ref d] vm h (fun v vm' h' => v = none ∧ h' = h) := by
  refine Ctr.of_go (L0 := #[.val (.int (Int32.ofNat x_)), .val (.int (Int32.ofNat y_)), .val (.ref d)]) (by first | exact plainFor_of_name (by first | (simp [plainName, overriddenIn]; done) | decide +kernel) | decide +kernel) (fun m => by first | (simp [entryFrame, mkF, argsToLocals, Value.category, maxLocals]; done) | rfl) (fun p e s m below meth c vmi chi => ?_)
  refine Go.iload_n 1 d_jdk_52_m94_0 rfl rfl ?_
  refine Go.iload_n 2 d_jdk_52_m94_1 rfl rfl ?_
  refine Go.aload_n 3 d_jdk_52_m94_2 rfl rfl rfl ?_
  refine Go.invokestatic (rest := [.int (Int32.ofNat y_), .int (Int32.ofNat x_)]) 2 [.ref d] 6 d_jdk_52_m94_3 rfl (W.1 269 rfl) (W.1 270 rfl) (W.1 21 rfl) (W.1 271 rfl) (by decide) (cUlen W A (by omega)) (by decide +kernel : parseMethodDescriptor "([B)I" = some ⟨[(.array .byte)], (some .int)⟩) rfl rfl rfl (nl rfl) (nl rfl) (nl rfl) (nl rfl) (nl rfl) (fun v1 vm1 h1 ⟨rv, hh⟩ c1 => ?_)
  subst rv; replace hh := hh.symm; subst hh
  refine Go.invokestatic (rest := []) 0 [.int (Int32.ofNat x_), .int (Int32.ofNat y_), .int (Int32.ofNat m_)] 9 d_jdk_52_m94_6 rfl (W.1 288 rfl) (W.1 289 rfl) (W.1 6 rfl) (W.1 290 rfl) (by decide) (cCbo W h1 h2) (by decide +kernel : parseMethodDescriptor "(III)I" = some ⟨[.int, .int, .int], (some .int)⟩) rfl rfl rfl (nl rfl) (nl rfl) (nl rfl) (nl rfl) (nl rfl) (fun v2 vm2 h2 ⟨rv, hh⟩ c2 => ?_)
  subst rv; replace hh := hh.symm; subst hh
  refine Go.pop 10 d_jdk_52_m94_9 rfl rfl ?_
  exact Go.return_ d_jdk_52_m94_10 rfl (nl rfl) (nl rfl) (fun vm' ch => ⟨rfl, rfl⟩)
theorem d_jdk_52_m86_0 : decode jdk_52_method_86_code 0 = .ok (.iload_n 3, 1) := by decide +kernel
theorem d_jdk_52_m86_1 : decode jdk_52_method_86_code 1 = .ok (.iload 4, 2) := by decide +kernel
theorem d_jdk_52_m86_3 : decode jdk_52_method_86_code 3 = .ok (.aload_n 2, 1) := by decide +kernel
theorem d_jdk_52_m86_4 : decode jdk_52_method_86_code 4 = .ok (.invokestatic 173, 3) := by decide +kernel
theorem d_jdk_52_m86_7 : decode jdk_52_method_86_code 7 = .ok (.iconst 0, 1) := by decide +kernel
theorem d_jdk_52_m86_8 : decode jdk_52_method_86_code 8 = .ok (.istore 5, 2) := by decide +kernel
theorem d_jdk_52_m86_10 : decode jdk_52_method_86_code 10 = .ok (.iload 5, 2) := by decide +kernel
theorem d_jdk_52_m86_12 : decode jdk_52_method_86_code 12 = .ok (.iload 4, 2) := by decide +kernel
theorem d_jdk_52_m86_14 : decode jdk_52_method_86_code 14 = .ok (.if_icmp .ge 27, 3) := by decide +kernel
theorem d_jdk_52_m86_17 : decode jdk_52_method_86_code 17 = .ok (.aload_n 2, 1) := by decide +kernel
theorem d_jdk_52_m86_18 : decode jdk_52_method_86_code 18 = .ok (.iload_n 3, 1) := by decide +kernel
theorem d_jdk_52_m86_19 : decode jdk_52_method_86_code 19 = .ok (.iinc 3 1, 3) := by decide +kernel
theorem d_jdk_52_m86_22 : decode jdk_52_method_86_code 22 = .ok (.aload_n 0, 1) := by decide +kernel
theorem d_jdk_52_m86_23 : decode jdk_52_method_86_code 23 = .ok (.iload_n 1, 1) := by decide +kernel
theorem d_jdk_52_m86_24 : decode jdk_52_method_86_code 24 = .ok (.iinc 1 1, 3) := by decide +kernel
theorem d_jdk_52_m86_27 : decode jdk_52_method_86_code 27 = .ok (.baload, 1) := by decide +kernel
theorem d_jdk_52_m86_28 : decode jdk_52_method_86_code 28 = .ok (.sipush 255, 3) := by decide +kernel
theorem d_jdk_52_m86_31 : decode jdk_52_method_86_code 31 = .ok (.iand, 1) := by decide +kernel
theorem d_jdk_52_m86_32 : decode jdk_52_method_86_code 32 = .ok (.invokestatic 111, 3) := by decide +kernel
theorem d_jdk_52_m86_35 : decode jdk_52_method_86_code 35 = .ok (.iinc 5 1, 3) := by decide +kernel
theorem d_jdk_52_m86_38 : decode jdk_52_method_86_code 38 = .ok (.goto (-28), 3) := by decide +kernel
theorem d_jdk_52_m86_41 : decode jdk_52_method_86_code 41 = .ok (.return_, 1) := by decide +kernel
set_option maxRecDepth 65536 in
set_option maxHeartbeats 40000000 in
theorem cInfU {l : Launch} {Z : State} {a0 : Array Value} (W : Wd Z a0) {EL : List (String × Nat)} {vm : Vm} {h : Heap} {s_ d : Addr} {ks kd : ClassId} {m_ cap : Nat} {xs cs : List Int32} (U : UT Z) (A : Arv Z h s_ ks .byte (Int32.ofNat m_) ((cs.map fun (c : Int32) => c.toInt8.toInt32).map Value.int) (.int 0)) (hs : cs.length ≤ m_) (hm : m_ ≤ 4000) (D : Arv Z h d kd .byte (Int32.ofNat (2 * cap)) (b2 xs) (.int 0)) (hl : xs.length + cs.length ≤ cap) (hc : cap ≤ 4000) (hb : ∀ c ∈ cs, ¬ c < 0 ∧ ¬ (255 : Int32) < c) (ns : s_ ≠ d) (Sd : Safe Z EL vm h d) (hz : Z.heap.size ≤ d) :
    Ctr false l Z a0 EL (⟨"java/lang/StringUTF16", "inflate", "([BI[BII)V"⟩ : MethodName) jdk_52_method_86_code 6 none ({ frames := 3, cells := 0, slots := 0, locals := 43 } : Room) #[.ref s_, .int (0 : Int32), .ref d, .int (Int32.ofNat xs.length), .int (Int32.ofNat cs.length)] vm h (fun v vm' h' => v = none ∧ Keep h h' [d] ∧ Arv Z h' d kd .byte (Int32.ofNat (2 * cap)) (b2 (xs ++ cs)) (.int 0)) := by
  refine Ctr.of_go (L0 := #[.val (.ref s_), .val (.int (0 : Int32)), .val (.ref d), .val (.int (Int32.ofNat xs.length)), .val (.int (Int32.ofNat cs.length)), .unset]) (by first | exact plainFor_of_name (by first | (simp [plainName, overriddenIn]; done) | decide +kernel) | decide +kernel) (fun m => by first | (simp [entryFrame, mkF, argsToLocals, Value.category, maxLocals]; done) | rfl) (fun p e s m below meth c vmi chi => ?_)
  refine Go.iload_n 1 d_jdk_52_m86_0 rfl rfl ?_
  refine Go.iload 3 d_jdk_52_m86_1 rfl rfl ?_
  refine Go.aload_n 4 d_jdk_52_m86_3 rfl rfl rfl ?_
  refine Go.invokestatic (rest := []) 0 [.int (Int32.ofNat xs.length), .int (Int32.ofNat cs.length), .ref d] 7 d_jdk_52_m86_4 rfl (W.1 285 rfl) (W.1 286 rfl) (W.1 21 rfl) (W.1 287 rfl) (by decide) (cUcb W D (by omega) hc) (by decide +kernel : parseMethodDescriptor "(II[B)V" = some ⟨[.int, .int, (.array .byte)], none⟩) rfl rfl rfl (nl rfl) (nl rfl) (nl rfl) (nl rfl) (nl rfl) (fun v1 vm1 h1 ⟨rv, hh⟩ c1 => ?_)
  subst rv; replace hh := hh.symm; subst hh
  refine Go.iconst (0) 8 d_jdk_52_m86_7 rfl rfl ?_
  refine Go.istore #[.val (.ref s_), .val (.int (0 : Int32)), .val (.ref d), .val (.int (Int32.ofNat xs.length)), .val (.int (Int32.ofNat cs.length)), .val (.int (0 : Int32))] 10 d_jdk_52_m86_8 rfl rfl ?_
  have f2 := CHr.safe (CHr.trans chi c1) D.lt Sd
  have L2 := Nat.lt_of_lt_of_le D.lt (CHr.trans chi c1).2.1
  have J : ∀ (rest done ys : List Int32) (vmJ : Vm) (hJ : Heap), cs = done ++ rest → ys = xs ++ done → Keep h hJ [d] → Arv Z hJ d kd .byte (Int32.ofNat (2 * cap)) (b2 ys) (.int 0) → Safe Z EL vmJ hJ d → Go false p l e ({ frames := 3, cells := 0, slots := 0, locals := 43 } : Room) s m #[.ref s_, .int (0 : Int32), .ref d, .int (Int32.ofNat xs.length), .int (Int32.ofNat cs.length)] below meth c jdk_52_method_86_code 6 "inflate" none Z a0 EL "java/lang/StringUTF16" (fun v vm' h' => v = none ∧ Keep h h' [d] ∧ Arv Z h' d kd .byte (Int32.ofNat (2 * cap)) (b2 (xs ++ cs)) (.int 0)) vmJ hJ 0 0 10 #[.val (.ref s_), .val (.int (Int32.ofNat done.length)), .val (.ref d), .val (.int (Int32.ofNat ys.length)), .val (.int (Int32.ofNat cs.length)), .val (.int (Int32.ofNat done.length))] [] := by
    intro rest
    induction rest with
    | nil =>
      intro done ys vmJ hJ he hy K D Sd
      have hlen := congrArg List.length he
      have hlen2 := congrArg List.length hy
      simp only [List.length_append, List.length_cons, List.length_nil] at hlen hlen2
      have A2 := A.keep K (ninS ns nin0)
      refine Go.iload 12 d_jdk_52_m86_10 rfl rfl ?_
      refine Go.iload 14 d_jdk_52_m86_12 rfl rfl ?_
      refine Go.if_icmpge 41 17 d_jdk_52_m86_14 (by decide) rfl rfl (fun q301 => ?_) (fun q301 => absurd ((ofNat_lt (by omega) (by omega)).mp q301) (by omega))
      exact Go.return_ d_jdk_52_m86_41 rfl (nl rfl) (nl rfl) (fun vm' ch => ⟨rfl, K, by rw [he, List.append_nil, ← hy]; exact D⟩)
    | cons c_ rest ih =>
      intro done ys vmJ hJ he hy K D Sd
      have hlen := congrArg List.length he
      have hlen2 := congrArg List.length hy
      simp only [List.length_append, List.length_cons, List.length_nil] at hlen hlen2
      have A2 := A.keep K (ninS ns nin0)
      have hcc := hb c_ (by rw [he]; simp)
      refine Go.iload 12 d_jdk_52_m86_10 rfl rfl ?_
      refine Go.iload 14 d_jdk_52_m86_12 rfl rfl ?_
      refine Go.if_icmpge 41 17 d_jdk_52_m86_14 (by decide) rfl rfl (fun q302 => absurd ((ofNat_lt (by omega) (by omega)).mpr (by omega)) q302) (fun q302 => ?_)
      refine Go.aload_n 18 d_jdk_52_m86_17 rfl rfl rfl ?_
      refine Go.iload_n 19 d_jdk_52_m86_18 rfl rfl ?_
      refine Go.iinc (Int32.ofNat (ys ++ [c_]).length) #[.val (.ref s_), .val (.int (Int32.ofNat done.length)), .val (.ref d), .val (.int (Int32.ofNat (ys ++ [c_]).length)), .val (.int (Int32.ofNat cs.length)), .val (.int (Int32.ofNat done.length))] 22 d_jdk_52_m86_19 rfl rfl incL rfl ?_
      refine Go.aload_n 23 d_jdk_52_m86_22 rfl rfl rfl ?_
      refine Go.iload_n 24 d_jdk_52_m86_23 rfl rfl ?_
      refine Go.iinc (Int32.ofNat (done ++ [c_]).length) #[.val (.ref s_), .val (.int (Int32.ofNat (done ++ [c_]).length)), .val (.ref d), .val (.int (Int32.ofNat (ys ++ [c_]).length)), .val (.int (Int32.ofNat cs.length)), .val (.int (Int32.ofNat done.length))] 27 d_jdk_52_m86_24 rfl rfl incL rfl ?_
      refine Go.baload (.int (loB c_)) 28 d_jdk_52_m86_27 rfl A2 (posN_lt (by omega) (by omega)) (by rw [getB1 cs (by omega), he, midD]) ?_
      refine Go.sipush (255) 31 d_jdk_52_m86_28 rfl rfl ?_
      refine Go.iand c_ 32 d_jdk_52_m86_31 rfl (lo255 hcc) ?_
      refine Go.invokestatic (rest := []) 0 [.ref d, .int (Int32.ofNat ys.length), .int c_] 35 d_jdk_52_m86_32 rfl (W.1 254 rfl) (W.1 255 rfl) (W.1 21 rfl) (W.1 256 rfl) (by decide) (cPutC W U D (by omega) hc Sd hz) (by decide +kernel : parseMethodDescriptor "([BII)V" = some ⟨[(.array .byte), .int, .int], none⟩) rfl rfl rfl (nl rfl) (nl rfl) (nl rfl) (nl rfl) (nl rfl) (fun v303 vm303 h303 ⟨rv, K1, D1⟩ c303 => ?_)
      subst rv
      refine Go.iinc (Int32.ofNat (done ++ [c_]).length) #[.val (.ref s_), .val (.int (Int32.ofNat (done ++ [c_]).length)), .val (.ref d), .val (.int (Int32.ofNat (ys ++ [c_]).length)), .val (.int (Int32.ofNat cs.length)), .val (.int (Int32.ofNat (done ++ [c_]).length))] 38 d_jdk_52_m86_35 rfl rfl incL rfl ?_
      refine Go.goto 10 d_jdk_52_m86_38 (by decide) rfl ?_
      exact ih (done ++ [c_]) (ys ++ [c_]) _ _ (by simp [he]) (by simp [hy]) (K.trans K1 (fun x q => Or.inl q)) D1 (CHr.safe c303 D.lt Sd)
  exact J cs [] xs _ _ rfl (List.append_nil _).symm (Keep.refl _ _) D f2
theorem d_jdk_43_m50_0 : decode jdk_43_method_50_code 0 = .ok (.aload_n 0, 1) := by decide +kernel
theorem d_jdk_43_m50_1 : decode jdk_43_method_50_code 1 = .ok (.iload_n 1, 1) := by decide +kernel
theorem d_jdk_43_m50_2 : decode jdk_43_method_50_code 2 = .ok (.aload_n 2, 1) := by decide +kernel
theorem d_jdk_43_m50_3 : decode jdk_43_method_50_code 3 = .ok (.iload_n 3, 1) := by decide +kernel
theorem d_jdk_43_m50_4 : decode jdk_43_method_50_code 4 = .ok (.iload 4, 2) := by decide +kernel
theorem d_jdk_43_m50_6 : decode jdk_43_method_50_code 6 = .ok (.invokestatic 240, 3) := by decide +kernel
theorem d_jdk_43_m50_9 : decode jdk_43_method_50_code 9 = .ok (.return_, 1) := by decide +kernel
set_option maxRecDepth 65536 in
set_option maxHeartbeats 40000000 in
theorem cInfL {l : Launch} {Z : State} {a0 : Array Value} (W : Wd Z a0) {EL : List (String × Nat)} {vm : Vm} {h : Heap} {s_ d : Addr} {ks kd : ClassId} {m_ cap : Nat} {xs cs : List Int32} (U : UT Z) (A : Arv Z h s_ ks .byte (Int32.ofNat m_) ((cs.map fun (c : Int32) => c.toInt8.toInt32).map Value.int) (.int 0)) (hs : cs.length ≤ m_) (hm : m_ ≤ 4000) (D : Arv Z h d kd .byte (Int32.ofNat (2 * cap)) (b2 xs) (.int 0)) (hl : xs.length + cs.length ≤ cap) (hc : cap ≤ 4000) (hb : ∀ c ∈ cs, ¬ c < 0 ∧ ¬ (255 : Int32) < c) (ns : s_ ≠ d) (Sd : Safe Z EL vm h d) (hz : Z.heap.size ≤ d) :
    Ctr false l Z a0 EL (⟨"java/lang/StringLatin1", "inflate", "([BI[BII)V"⟩ : MethodName) jdk_43_method_50_code 5 none ({ frames := 4, cells := 0, slots := 0, locals := 60 } : Room) #[.ref s_, .int (0 : Int32), .ref d, .int (Int32.ofNat xs.length), .int (Int32.ofNat cs.length)] vm h (fun v vm' h' => v = none ∧ Keep h h' [d] ∧ Arv Z h' d kd .byte (Int32.ofNat (2 * cap)) (b2 (xs ++ cs)) (.int 0)) := by
  refine Ctr.of_go (L0 := #[.val (.ref s_), .val (.int (0 : Int32)), .val (.ref d), .val (.int (Int32.ofNat xs.length)), .val (.int (Int32.ofNat cs.length))]) (by first | exact plainFor_of_name (by first | (simp [plainName, overriddenIn]; done) | decide +kernel) | decide +kernel) (fun m => by first | (simp [entryFrame, mkF, argsToLocals, Value.category, maxLocals]; done) | rfl) (fun p e s m below meth c vmi chi => ?_)
  refine Go.aload_n 1 d_jdk_43_m50_0 rfl rfl rfl ?_
  refine Go.iload_n 2 d_jdk_43_m50_1 rfl rfl ?_
  refine Go.aload_n 3 d_jdk_43_m50_2 rfl rfl rfl ?_
  refine Go.iload_n 4 d_jdk_43_m50_3 rfl rfl ?_
  refine Go.iload 6 d_jdk_43_m50_4 rfl rfl ?_
  refine Go.invokestatic (rest := []) 0 [.ref s_, .int (0 : Int32), .ref d, .int (Int32.ofNat xs.length), .int (Int32.ofNat cs.length)] 9 d_jdk_43_m50_6 rfl (W.1 282 rfl) (W.1 283 rfl) (W.1 21 rfl) (W.1 284 rfl) (by decide) (cInfU W U A hs hm D hl hc hb ns (chi.safe D.lt Sd) hz) (by decide +kernel : parseMethodDescriptor "([BI[BII)V" = some ⟨[(.array .byte), .int, (.array .byte), .int, .int], none⟩) rfl rfl rfl (nl rfl) (nl rfl) (nl rfl) (nl rfl) (nl rfl) (fun v1 vm1 h1 ⟨rv, K, D1⟩ c1 => ?_)
  subst rv
  exact Go.return_ d_jdk_43_m50_9 rfl (nl rfl) (nl rfl) (fun vm' ch => ⟨rfl, K, D1⟩)
theorem d_jdk_68_m11_0 : decode jdk_68_method_11_code 0 = .ok (.aload_n 0, 1) := by decide +kernel
theorem d_jdk_68_m11_1 : decode jdk_68_method_11_code 1 = .ok (.invokevirtual 83, 3) := by decide +kernel
theorem d_jdk_68_m11_4 : decode jdk_68_method_11_code 4 = .ok (.ifCond .ne 4, 3) := by decide +kernel
theorem d_jdk_68_m11_7 : decode jdk_68_method_11_code 7 = .ok (.return_, 1) := by decide +kernel
theorem d_jdk_68_m11_8 : decode jdk_68_method_11_code 8 = .ok (.aload_n 0, 1) := by decide +kernel
theorem d_jdk_68_m11_9 : decode jdk_68_method_11_code 9 = .ok (.getfield 15, 3) := by decide +kernel
theorem d_jdk_68_m11_12 : decode jdk_68_method_11_code 12 = .ok (.arraylength, 1) := by decide +kernel
theorem d_jdk_68_m11_13 : decode jdk_68_method_11_code 13 = .ok (.invokestatic 26, 3) := by decide +kernel
theorem d_jdk_68_m11_16 : decode jdk_68_method_11_code 16 = .ok (.astore_n 1, 1) := by decide +kernel
theorem d_jdk_68_m11_17 : decode jdk_68_method_11_code 17 = .ok (.aload_n 0, 1) := by decide +kernel
theorem d_jdk_68_m11_18 : decode jdk_68_method_11_code 18 = .ok (.getfield 15, 3) := by decide +kernel
theorem d_jdk_68_m11_21 : decode jdk_68_method_11_code 21 = .ok (.iconst 0, 1) := by decide +kernel
theorem d_jdk_68_m11_22 : decode jdk_68_method_11_code 22 = .ok (.aload_n 1, 1) := by decide +kernel
theorem d_jdk_68_m11_23 : decode jdk_68_method_11_code 23 = .ok (.iconst 0, 1) := by decide +kernel
theorem d_jdk_68_m11_24 : decode jdk_68_method_11_code 24 = .ok (.aload_n 0, 1) := by decide +kernel
theorem d_jdk_68_m11_25 : decode jdk_68_method_11_code 25 = .ok (.getfield 79, 3) := by decide +kernel
theorem d_jdk_68_m11_28 : decode jdk_68_method_11_code 28 = .ok (.invokestatic 125, 3) := by decide +kernel
theorem d_jdk_68_m11_31 : decode jdk_68_method_11_code 31 = .ok (.aload_n 0, 1) := by decide +kernel
theorem d_jdk_68_m11_32 : decode jdk_68_method_11_code 32 = .ok (.aload_n 1, 1) := by decide +kernel
theorem d_jdk_68_m11_33 : decode jdk_68_method_11_code 33 = .ok (.putfield 15, 3) := by decide +kernel
theorem d_jdk_68_m11_36 : decode jdk_68_method_11_code 36 = .ok (.aload_n 0, 1) := by decide +kernel
theorem d_jdk_68_m11_37 : decode jdk_68_method_11_code 37 = .ok (.iconst 1, 1) := by decide +kernel
theorem d_jdk_68_m11_38 : decode jdk_68_method_11_code 38 = .ok (.putfield 22, 3) := by decide +kernel
theorem d_jdk_68_m11_41 : decode jdk_68_method_11_code 41 = .ok (.return_, 1) := by decide +kernel
set_option maxRecDepth 65536 in
set_option maxHeartbeats 40000000 in
theorem cInf1 {l : Launch} {Z : State} {a0 : Array Value} (W : Wd Z a0) {EL : List (String × Nat)} {vm : Vm} {h : Heap} {b d : Addr} {kd : ClassId} {cap : Nat} {ds : List Int32} (B : Bd Z h b d kd 1 cap ds) :
    Ctr false l Z a0 EL (⟨"java/lang/AbstractStringBuilder", "inflate", "()V"⟩ : MethodName) jdk_68_method_11_code 2 none ({ frames := 1, cells := 0, slots := 0, locals := 12 } : Room) #[.ref b] vm h (fun v vm' h' => v = none ∧ h' = h) := by
  refine Ctr.of_go (L0 := #[.val (.ref b), .unset]) (by first | exact plainFor_of_name (by first | (simp [plainName, overriddenIn]; done) | decide +kernel) | decide +kernel) (fun m => by first | (simp [entryFrame, mkF, argsToLocals, Value.category, maxLocals]; done) | rfl) (fun p e s m below meth c vmi chi => ?_)
  refine Go.aload_n 1 d_jdk_68_m11_0 rfl rfl rfl ?_
  refine Go.invokevirtual (rest := []) 0 b [] 4 d_jdk_68_m11_1 rfl B.e (W.1 226 rfl) (W.1 178 rfl) (fun s hs => notFace_of_selects (args := #[]) (mvT hs (W.1 180 rfl))) (W.1 180 rfl) (W.1 179 rfl) (W.1 58 rfl) (W.1 181 rfl) (by decide) (cIsB1 W B) (by decide +kernel : parseMethodDescriptor "()Z" = some ⟨[], (some .boolean)⟩) rfl rfl rfl (nl rfl) (nl rfl) (nl rfl) (nl rfl) (nl rfl) (fun v1 vm1 h1 ⟨rv, hh⟩ c1 => ?_)
  subst rv; replace hh := hh.symm; subst hh
  refine Go.ifne 8 7 d_jdk_68_m11_4 (by decide) rfl rfl (fun q2 => absurd rfl q2) (fun q2 => ?_)
  exact Go.return_ d_jdk_68_m11_7 rfl (nl rfl) (nl rfl) (fun vm' ch => ⟨rfl, rfl⟩)
set_option maxRecDepth 65536 in
set_option maxHeartbeats 40000000 in
theorem cInf0 {l : Launch} {Z : State} {a0 : Array Value} (W : Wd Z a0) {EL : List (String × Nat)} {vm : Vm} {h : Heap} (U : UT Z) {b d : Addr} {kd : ClassId} {cap : Nat} {ds : List Int32} (B : Bd Z h b d kd 0 cap ds) (Sb : Safe Z EL vm h b) (zb : Z.heap.size ≤ b) (Sd : Safe Z EL vm h d) (hz : Z.heap.size ≤ d) (nd : d ≠ b) :
    Ctr false l Z a0 EL (⟨"java/lang/AbstractStringBuilder", "inflate", "()V"⟩ : MethodName) jdk_68_method_11_code 2 none ({ frames := 5, cells := 1, slots := 80, locals := 76 } : Room) #[.ref b] vm h (fun v vm' h' => v = none ∧ Keep h h' [b] ∧ ∃ d' kd', Bd Z h' b d' kd' 1 cap ds ∧ h.size ≤ d' ∧ Safe Z EL vm' h' d') := by
  refine Ctr.of_go (L0 := #[.val (.ref b), .unset]) (by first | exact plainFor_of_name (by first | (simp [plainName, overriddenIn]; done) | decide +kernel) | decide +kernel) (fun m => by first | (simp [entryFrame, mkF, argsToLocals, Value.category, maxLocals]; done) | rfl) (fun p e s m below meth c vmi chi => ?_)
  refine Go.know fun hEz _ _ => ?_
  have c40 := B.c40
  have cle := B.le
  refine Go.aload_n 1 d_jdk_68_m11_0 rfl rfl rfl ?_
  refine Go.invokevirtual (rest := []) 0 b [] 4 d_jdk_68_m11_1 rfl B.e (W.1 226 rfl) (W.1 178 rfl) (fun s hs => notFace_of_selects (args := #[]) (mvT hs (W.1 180 rfl))) (W.1 180 rfl) (W.1 179 rfl) (W.1 58 rfl) (W.1 181 rfl) (by decide) (cIsB0 W B) (by decide +kernel : parseMethodDescriptor "()Z" = some ⟨[], (some .boolean)⟩) rfl rfl rfl (nl rfl) (nl rfl) (nl rfl) (nl rfl) (nl rfl) (fun v1 vm1 h1 ⟨rv, hh⟩ c1 => ?_)
  subst rv; replace hh := hh.symm; subst hh
  refine Go.ifne 8 7 d_jdk_68_m11_4 (by decide) rfl rfl (fun q2 => ?_) (fun q2 => absurd q2 (by decide))
  refine Go.aload_n 9 d_jdk_68_m11_8 rfl rfl rfl ?_
  refine Go.getfield 12 d_jdk_68_m11_9 rfl (W.1 62 rfl) B.va ?_
  refine Go.arraylength 13 d_jdk_68_m11_12 rfl B.a0 ?_
  refine Go.invokestatic (rest := []) 0 [.int (Int32.ofNat cap)] 16 d_jdk_68_m11_13 rfl (W.1 278 rfl) (W.1 248 rfl) (W.1 21 rfl) (W.1 249 rfl) (by decide) (cNBF W c40) (by decide +kernel : parseMethodDescriptor "(I)[B" = some ⟨[.int], (some (.array .byte))⟩) rfl rfl rfl (nl rfl) (nl rfl) (nl rfl) (nl rfl) (nl rfl) (fun v3 vm3 h3 ⟨r, kr, rv, E1, A1, Y1, hr, S1⟩ c3 => ?_)
  subst rv
  have B1 := B.ext E1
  have zr : Z.heap.size ≤ r := Nat.le_trans hEz.1 hr
  have nr : r ≠ b := (ne_of_new B.e.lt hr).symm
  have ndr : d ≠ r := ne_of_new B.ar.lt hr
  refine Go.astore_n #[.val (.ref b), .val (.ref r)] 17 d_jdk_68_m11_16 rfl rfl rfl ?_
  refine Go.aload_n 18 d_jdk_68_m11_17 rfl rfl rfl ?_
  refine Go.getfield 21 d_jdk_68_m11_18 rfl (W.1 62 rfl) B1.va ?_
  refine Go.iconst (0) 22 d_jdk_68_m11_21 rfl rfl ?_
  refine Go.aload_n 23 d_jdk_68_m11_22 rfl rfl rfl ?_
  refine Go.iconst (0) 24 d_jdk_68_m11_23 rfl rfl ?_
  refine Go.aload_n 25 d_jdk_68_m11_24 rfl rfl rfl ?_
  refine Go.getfield 28 d_jdk_68_m11_25 rfl (W.1 102 rfl) B1.ct ?_
  refine Go.invokestatic (rest := []) 0 [.ref d, .int (0 : Int32), .ref r, .int (0 : Int32), .int (Int32.ofNat ds.length)] 31 d_jdk_68_m11_28 rfl (W.1 279 rfl) (W.1 280 rfl) (W.1 78 rfl) (W.1 281 rfl) (by decide) (cInfL W (xs := []) U B1.a0 cle (by omega) A1 (by simp only [List.length_nil]; omega) (by omega) B.l2 ndr S1 zr) (by decide +kernel : parseMethodDescriptor "([BI[BII)V" = some ⟨[(.array .byte), .int, (.array .byte), .int, .int], none⟩) rfl rfl rfl (nl rfl) (nl rfl) (nl rfl) (nl rfl) (nl rfl) (fun v4 vm4 h4 ⟨rv, K2, A2⟩ c4 => ?_)
  subst rv
  refine Go.aload_n 32 d_jdk_68_m11_31 rfl rfl rfl ?_
  refine Go.aload_n 33 d_jdk_68_m11_32 rfl rfl rfl ?_
  have nb : b ∉ [r] := ninS nr.symm nin0
  have e1 := B1.e.keep K2
  have f5 := CHr.safe (CHr.trans chi (CHr.trans c1 (CHr.trans c3 c4))) B.e.lt Sb
  have L5 := Nat.lt_of_lt_of_le B.e.lt (CHr.trans chi (CHr.trans c1 (CHr.trans c3 c4))).2.1
  refine Go.putfield 36 d_jdk_68_m11_33 rfl (W.1 62 rfl) (B1.va.keep K2 nb) e1 (Or.inl (W.1 63 rfl)) (W.1 39 rfl) (ty := (.array .byte)) (by decide) rfl rfl f5 zb (fun h6 X6 S6 c6 => ?_)
  refine Go.aload_n 37 d_jdk_68_m11_36 rfl rfl rfl ?_
  refine Go.iconst (1) 38 d_jdk_68_m11_37 rfl rfl ?_
  refine Go.putfield 41 d_jdk_68_m11_38 rfl (W.1 64 rfl) ((B1.co.keep K2 nb).other X6 (Or.inr (slot_ne (a0 := a0) (C := "java/lang/StringBuilder") (Or.inl (W.1 65 rfl)) (Or.inl (W.1 63 rfl)) (by decide) (t := .byte) (t' := (.array .byte)) (by decide) (by decide)))) (e1.wr X6) (Or.inl (W.1 65 rfl)) (W.1 39 rfl) (ty := .byte) (by decide) rfl rfl S6 zb (fun h7 X7 S7 c7 => ?_)
  have A3 := Arv.other (Arv.other A2 X6 nr) X7 nr
  have f8 := CHr.safe (CHr.trans c4 (CHr.trans c6 c7)) A1.lt S1
  have L8 := Nat.lt_of_lt_of_le A1.lt (CHr.trans c4 (CHr.trans c6 c7)).2.1
  exact Go.return_ d_jdk_68_m11_41 rfl (nl rfl) (nl rfl) (fun vm' ch => ⟨rfl, ((((Keep.refl h [b]).ext E1).trans K2 (fun x q => Or.inr (by cases List.mem_singleton.mp q; exact hr))).wr X6 (Or.inl (by simp))).wr X7 (Or.inl (by simp)), r, kr, ⟨(e1.wr X6).wr X7, (((B1.co.keep K2 nb).other X6 (Or.inr (slot_ne (a0 := a0) (C := "java/lang/StringBuilder") (Or.inl (W.1 65 rfl)) (Or.inl (W.1 63 rfl)) (by decide) (t := .byte) (t' := (.array .byte)) (by decide) (by decide)))).same X7), (((B1.va.keep K2 nb).same X6).other X7 (Or.inr (slot_ne (a0 := a0) (C := "java/lang/StringBuilder") (Or.inl (W.1 63 rfl)) (Or.inl (W.1 65 rfl)) (by decide) (t := (.array .byte)) (t' := .byte) (by decide) (by decide)))), (((B1.ct.keep K2 nb).other X6 (Or.inr (slot_ne (a0 := a0) (C := "java/lang/StringBuilder") (Or.inl (W.1 103 rfl)) (Or.inl (W.1 63 rfl)) (by decide) (t := .int) (t' := (.array .byte)) (by decide) (by decide)))).other X7 (Or.inr (slot_ne (a0 := a0) (C := "java/lang/StringBuilder") (Or.inl (W.1 103 rfl)) (Or.inl (W.1 65 rfl)) (by decide) (t := .int) (t' := .byte) (by decide) (by decide)))), (((B1.my.keep K2 nb).other X6 (Or.inr (slot_ne (a0 := a0) (C := "java/lang/StringBuilder") (Or.inl (W.1 298 rfl)) (Or.inl (W.1 63 rfl)) (by decide) (t := .boolean) (t' := (.array .byte)) (by decide) (by decide)))).other X7 (Or.inr (slot_ne (a0 := a0) (C := "java/lang/StringBuilder") (Or.inl (W.1 298 rfl)) (Or.inl (W.1 65 rfl)) (by decide) (t := .boolean) (t' := .byte) (by decide) (by decide)))), Arv.up1 A3, ((Y1.keep K2).wr X6).wr X7, ⟨c40, cle, Or.inr rfl⟩, B.ch, (fun q => absurd q (by decide))⟩, hr, ch.safe A3.lt f8⟩)
theorem d_jdk_68_m71_0 : decode jdk_68_method_71_code 0 = .ok (.getstatic 18, 3) := by decide +kernel
theorem d_jdk_68_m71_3 : decode jdk_68_method_71_code 3 = .ok (.ifCond .eq 18, 3) := by decide +kernel
theorem d_jdk_68_m71_6 : decode jdk_68_method_71_code 6 = .ok (.aload_n 0, 1) := by decide +kernel
theorem d_jdk_68_m71_7 : decode jdk_68_method_71_code 7 = .ok (.getfield 22, 3) := by decide +kernel
theorem d_jdk_68_m71_10 : decode jdk_68_method_71_code 10 = .ok (.aload_n 1, 1) := by decide +kernel
theorem d_jdk_68_m71_11 : decode jdk_68_method_71_code 11 = .ok (.invokevirtual 40, 3) := by decide +kernel
theorem d_jdk_68_m71_14 : decode jdk_68_method_71_code 14 = .ok (.if_icmp .eq 7, 3) := by decide +kernel
theorem d_jdk_68_m71_17 : decode jdk_68_method_71_code 17 = .ok (.aload_n 0, 1) := by decide +kernel
theorem d_jdk_68_m71_18 : decode jdk_68_method_71_code 18 = .ok (.invokevirtual 195, 3) := by decide +kernel
theorem d_jdk_68_m71_21 : decode jdk_68_method_71_code 21 = .ok (.return_, 1) := by decide +kernel
set_option maxRecDepth 65536 in
set_option maxHeartbeats 40000000 in
theorem cIfn0 {l : Launch} {Z : State} {a0 : Array Value} (W : Wd Z a0) {EL : List (String × Nat)} {vm : Vm} {h : Heap} {a : Addr} {cs : List Int32} (T : Str Z h a cs) {b d : Addr} {kd : ClassId} {cap : Nat} {ds : List Int32} (B : Bd Z h b d kd 0 cap ds) :
    Ctr false l Z a0 EL (⟨"java/lang/AbstractStringBuilder", "inflateIfNeededFor", "(Ljava/lang/String;)V"⟩ : MethodName) jdk_68_method_71_code 2 none ({ frames := 1, cells := 0, slots := 0, locals := 13 } : Room) #[.ref b, .ref a] vm h (fun v vm' h' => v = none ∧ h' = h) := by
  refine Ctr.of_go (L0 := #[.val (.ref b), .val (.ref a)]) (by first | exact plainFor_of_name (by first | (simp [plainName, overriddenIn]; done) | decide +kernel) | decide +kernel) (fun m => by first | (simp [entryFrame, mkF, argsToLocals, Value.category, maxLocals]; done) | rfl) (fun p e s m below meth c vmi chi => ?_)
  refine Go.know fun hE1 _ _ => ?_
  obtain ⟨zc1, Cz1, hc1⟩ := W.2.1
  refine Go.getstatic 3 d_jdk_68_m71_0 rfl (W.1 61 rfl) (Cz1.ext hE1) ?_
  refine Go.ifeq 21 6 d_jdk_68_m71_3 (by decide) rfl rfl (fun q1 => absurd q1 hc1) (fun q1 => ?_)
  refine Go.aload_n 7 d_jdk_68_m71_6 rfl rfl rfl ?_
  refine Go.getfield 10 d_jdk_68_m71_7 rfl (W.1 64 rfl) B.co ?_
  refine Go.aload_n 11 d_jdk_68_m71_10 rfl rfl rfl ?_
  refine Go.invokevirtual (rest := [.int (0 : Int32)]) 1 a [] 14 d_jdk_68_m71_11 rfl T.exa (W.1 145 rfl) (W.1 47 rfl) (fun s hs => notFace_of_selects (args := #[]) (mvT hs (W.1 49 rfl))) (W.1 49 rfl) (W.1 48 rfl) (W.1 6 rfl) (W.1 50 rfl) (by decide) (cCod0 W T) (by decide +kernel : parseMethodDescriptor "()B" = some ⟨[], (some .byte)⟩) rfl rfl rfl (nl rfl) (nl rfl) (nl rfl) (nl rfl) (nl rfl) (fun v2 vm2 h2 ⟨rv, hh⟩ c2 => ?_)
  subst rv; replace hh := hh.symm; subst hh
  refine Go.if_icmpeq 21 17 d_jdk_68_m71_14 (by decide) rfl rfl (fun q3 => ?_) (fun q3 => absurd rfl q3)
  exact Go.return_ d_jdk_68_m71_21 rfl (nl rfl) (nl rfl) (fun vm' ch => ⟨rfl, rfl⟩)
theorem d_jdk_42_m147_0 : decode jdk_42_method_147_code 0 = .ok (.aload_n 0, 1) := by decide +kernel
theorem d_jdk_42_m147_1 : decode jdk_42_method_147_code 1 = .ok (.invokevirtual 335, 3) := by decide +kernel
theorem d_jdk_42_m147_4 : decode jdk_42_method_147_code 4 = .ok (.iload_n 3, 1) := by decide +kernel
theorem d_jdk_42_m147_5 : decode jdk_42_method_147_code 5 = .ok (.if_icmp .ne 23, 3) := by decide +kernel
theorem d_jdk_42_m147_8 : decode jdk_42_method_147_code 8 = .ok (.aload_n 0, 1) := by decide +kernel
theorem d_jdk_42_m147_9 : decode jdk_42_method_147_code 9 = .ok (.getfield 9, 3) := by decide +kernel
theorem d_jdk_42_m147_12 : decode jdk_42_method_147_code 12 = .ok (.iconst 0, 1) := by decide +kernel
theorem d_jdk_42_m147_13 : decode jdk_42_method_147_code 13 = .ok (.aload_n 1, 1) := by decide +kernel
theorem d_jdk_42_m147_14 : decode jdk_42_method_147_code 14 = .ok (.iload_n 2, 1) := by decide +kernel
theorem d_jdk_42_m147_15 : decode jdk_42_method_147_code 15 = .ok (.iload_n 3, 1) := by decide +kernel
theorem d_jdk_42_m147_16 : decode jdk_42_method_147_code 16 = .ok (.ishl, 1) := by decide +kernel
theorem d_jdk_42_m147_17 : decode jdk_42_method_147_code 17 = .ok (.aload_n 0, 1) := by decide +kernel
theorem d_jdk_42_m147_18 : decode jdk_42_method_147_code 18 = .ok (.getfield 9, 3) := by decide +kernel
theorem d_jdk_42_m147_21 : decode jdk_42_method_147_code 21 = .ok (.arraylength, 1) := by decide +kernel
theorem d_jdk_42_m147_22 : decode jdk_42_method_147_code 22 = .ok (.invokestatic 212, 3) := by decide +kernel
theorem d_jdk_42_m147_25 : decode jdk_42_method_147_code 25 = .ok (.goto 18, 3) := by decide +kernel
theorem d_jdk_42_m147_28 : decode jdk_42_method_147_code 28 = .ok (.aload_n 0, 1) := by decide +kernel
theorem d_jdk_42_m147_29 : decode jdk_42_method_147_code 29 = .ok (.getfield 9, 3) := by decide +kernel
theorem d_jdk_42_m147_32 : decode jdk_42_method_147_code 32 = .ok (.iconst 0, 1) := by decide +kernel
theorem d_jdk_42_m147_33 : decode jdk_42_method_147_code 33 = .ok (.aload_n 1, 1) := by decide +kernel
theorem d_jdk_42_m147_34 : decode jdk_42_method_147_code 34 = .ok (.iload_n 2, 1) := by decide +kernel
theorem d_jdk_42_m147_35 : decode jdk_42_method_147_code 35 = .ok (.aload_n 0, 1) := by decide +kernel
theorem d_jdk_42_m147_36 : decode jdk_42_method_147_code 36 = .ok (.getfield 9, 3) := by decide +kernel
theorem d_jdk_42_m147_39 : decode jdk_42_method_147_code 39 = .ok (.arraylength, 1) := by decide +kernel
theorem d_jdk_42_m147_40 : decode jdk_42_method_147_code 40 = .ok (.invokestatic 106, 3) := by decide +kernel
theorem d_jdk_42_m147_43 : decode jdk_42_method_147_code 43 = .ok (.return_, 1) := by decide +kernel
set_option maxRecDepth 65536 in
set_option maxHeartbeats 40000000 in
theorem cGB0 {l : Launch} {Z : State} {a0 : Array Value} (W : Wd Z a0) {EL : List (String × Nat)} {vm : Vm} {h : Heap} {a d : Addr} {kd : ClassId} {cap : Nat} {ds cs : List Int32} (U : UT Z) (T : Str Z h a cs) (A : Arv Z h d kd .byte (Int32.ofNat cap) ((ds.map fun (c : Int32) => c.toInt8.toInt32).map Value.int) (.int 0)) (Y : Safe Z EL vm h d) (hl : ds.length + cs.length ≤ cap) (hc : cap ≤ 40) (hz : Z.heap.size ≤ d) (ns : ∀ {b_ : Addr}, Fld Z h a "java/lang/String" "value" "[B" (.ref b_) → b_ ≠ d) :
    Ctr false l Z a0 EL (⟨"java/lang/String", "getBytes", "([BIB)V"⟩ : MethodName) jdk_42_method_147_code 4 none ({ frames := 1, cells := 0, slots := 0, locals := 18 } : Room) #[.ref a, .ref d, .int (Int32.ofNat ds.length), .int (0 : Int32)] vm h (fun v vm' h' => v = none ∧ Keep h h' [d] ∧ Arv Z h' d kd .byte (Int32.ofNat cap) (((ds ++ cs).map fun (c : Int32) => c.toInt8.toInt32).map Value.int) (.int 0)) := by
  refine Ctr.of_go (L0 := #[.val (.ref a), .val (.ref d), .val (.int (Int32.ofNat ds.length)), .val (.int (0 : Int32))]) (by first | exact plainFor_of_name (by first | (simp [plainName, overriddenIn]; done) | decide +kernel) | decide +kernel) (fun m => by first | (simp [entryFrame, mkF, argsToLocals, Value.category, maxLocals]; done) | rfl) (fun p e s m below meth c vmi chi => ?_)
  refine Go.aload_n 1 d_jdk_42_m147_0 rfl rfl rfl ?_
  refine Go.invokevirtual (rest := []) 0 a [] 4 d_jdk_42_m147_1 rfl T.exa (W.1 46 rfl) (W.1 47 rfl) (fun s hs => notFace_of_selects (args := #[]) (mvT hs (W.1 49 rfl))) (W.1 49 rfl) (W.1 48 rfl) (W.1 6 rfl) (W.1 50 rfl) (by decide) (cCod0 W T) (by decide +kernel : parseMethodDescriptor "()B" = some ⟨[], (some .byte)⟩) rfl rfl rfl (nl rfl) (nl rfl) (nl rfl) (nl rfl) (nl rfl) (fun v1 vm1 h1 ⟨rv, hh⟩ c1 => ?_)
  subst rv; replace hh := hh.symm; subst hh
  refine Go.iload_n 5 d_jdk_42_m147_4 rfl rfl ?_
  obtain ⟨b_, kb_, t1, t2, t3, t4, t5, t6⟩ := T
  refine Go.if_icmpne 28 8 d_jdk_42_m147_5 (by decide) rfl rfl (fun q2 => absurd rfl q2) (fun q2 => ?_)
  refine Go.aload_n 9 d_jdk_42_m147_8 rfl rfl rfl ?_
  refine Go.getfield 12 d_jdk_42_m147_9 rfl (W.1 32 rfl) t3 ?_
  refine Go.iconst (0) 13 d_jdk_42_m147_12 rfl rfl ?_
  refine Go.aload_n 14 d_jdk_42_m147_13 rfl rfl rfl ?_
  refine Go.iload_n 15 d_jdk_42_m147_14 rfl rfl ?_
  refine Go.iload_n 16 d_jdk_42_m147_15 rfl rfl ?_
  refine Go.ishl (Int32.ofNat ds.length) 17 d_jdk_42_m147_16 rfl (shlN0 _) ?_
  refine Go.aload_n 18 d_jdk_42_m147_17 rfl rfl rfl ?_
  refine Go.getfield 21 d_jdk_42_m147_18 rfl (W.1 32 rfl) t3 ?_
  refine Go.arraylength 22 d_jdk_42_m147_21 rfl t4 ?_
  have f3 := CHr.safe (CHr.trans chi c1) A.lt Y
  have L3 := Nat.lt_of_lt_of_le A.lt (CHr.trans chi c1).2.1
  refine Go.acopy 0 ds.length cs.length (((ds ++ cs).map fun (c : Int32) => c.toInt8.toInt32).map Value.int) 25 d_jdk_42_m147_22 rfl (W.1 151 rfl) (W.1 134 rfl) (W.1 132 rfl) (W.1 133 rfl) t4 A (by rw [clampN (by omega)]; omega) (by rw [clampN (by omega)]; omega) (fun i _ => app_get ds cs i) rfl rfl (nl rfl) (nl rfl) f3 hz (fun hc9 K9 A9 S9 cc9 => ?_)
  refine Go.goto 43 d_jdk_42_m147_25 (by decide) rfl ?_
  exact Go.return_ d_jdk_42_m147_43 rfl (nl rfl) (nl rfl) (fun vm' ch => ⟨rfl, K9, A9⟩)
theorem d_jdk_68_m73_0 : decode jdk_68_method_73_code 0 = .ok (.aload_n 0, 1) := by decide +kernel
theorem d_jdk_68_m73_1 : decode jdk_68_method_73_code 1 = .ok (.aload_n 2, 1) := by decide +kernel
theorem d_jdk_68_m73_2 : decode jdk_68_method_73_code 2 = .ok (.invokevirtual 397, 3) := by decide +kernel
theorem d_jdk_68_m73_5 : decode jdk_68_method_73_code 5 = .ok (.aload_n 2, 1) := by decide +kernel
theorem d_jdk_68_m73_6 : decode jdk_68_method_73_code 6 = .ok (.aload_n 0, 1) := by decide +kernel
theorem d_jdk_68_m73_7 : decode jdk_68_method_73_code 7 = .ok (.getfield 15, 3) := by decide +kernel
theorem d_jdk_68_m73_10 : decode jdk_68_method_73_code 10 = .ok (.iload_n 1, 1) := by decide +kernel
theorem d_jdk_68_m73_11 : decode jdk_68_method_73_code 11 = .ok (.aload_n 0, 1) := by decide +kernel
theorem d_jdk_68_m73_12 : decode jdk_68_method_73_code 12 = .ok (.getfield 22, 3) := by decide +kernel
theorem d_jdk_68_m73_15 : decode jdk_68_method_73_code 15 = .ok (.invokevirtual 399, 3) := by decide +kernel
theorem d_jdk_68_m73_18 : decode jdk_68_method_73_code 18 = .ok (.return_, 1) := by decide +kernel
set_option maxRecDepth 65536 in
set_option maxHeartbeats 40000000 in
theorem cPut0 {l : Launch} {Z : State} {a0 : Array Value} (W : Wd Z a0) {EL : List (String × Nat)} {vm : Vm} {h : Heap} {a : Addr} {cs : List Int32} (U : UT Z) (T : Str Z h a cs) {b d : Addr} {kd : ClassId} {cap : Nat} {ds : List Int32} (B : Bd Z h b d kd 0 cap ds) (hl : ds.length + cs.length ≤ cap) (Sd : Safe Z EL vm h d) (hz : Z.heap.size ≤ d) (ns : ∀ {b_ : Addr}, Fld Z h a "java/lang/String" "value" "[B" (.ref b_) → b_ ≠ d) :
    Ctr false l Z a0 EL (⟨"java/lang/AbstractStringBuilder", "putStringAt", "(ILjava/lang/String;)V"⟩ : MethodName) jdk_68_method_73_code 3 none ({ frames := 2, cells := 0, slots := 0, locals := 33 } : Room) #[.ref b, .int (Int32.ofNat ds.length), .ref a] vm h (fun v vm' h' => v = none ∧ Keep h h' [d] ∧ Arv Z h' d kd .byte (Int32.ofNat cap) (((ds ++ cs).map fun (c : Int32) => c.toInt8.toInt32).map Value.int) (.int 0)) := by
  refine Ctr.of_go (L0 := #[.val (.ref b), .val (.int (Int32.ofNat ds.length)), .val (.ref a)]) (by first | exact plainFor_of_name (by first | (simp [plainName, overriddenIn]; done) | decide +kernel) | decide +kernel) (fun m => by first | (simp [entryFrame, mkF, argsToLocals, Value.category, maxLocals]; done) | rfl) (fun p e s m below meth c vmi chi => ?_)
  refine Go.aload_n 1 d_jdk_68_m73_0 rfl rfl rfl ?_
  refine Go.aload_n 2 d_jdk_68_m73_1 rfl rfl rfl ?_
  refine Go.invokevirtual (rest := []) 0 b [.ref a] 5 d_jdk_68_m73_2 rfl B.e (W.1 140 rfl) (declares_of (W.1 141 rfl) (W.1 144 rfl)) (fun s hs => notFace_of_selects (args := #[]) (mvT hs (W.1 143 rfl))) (W.1 143 rfl) (W.1 141 rfl) (W.1 58 rfl) (W.1 144 rfl) (by decide) (cIfn0 W T B) (by decide +kernel : parseMethodDescriptor "(Ljava/lang/String;)V" = some ⟨[(.object "java/lang/String")], none⟩) rfl rfl rfl (nl rfl) (nl rfl) (nl rfl) (nl rfl) (nl rfl) (fun v1 vm1 h1 ⟨rv, hh⟩ c1 => ?_)
  subst rv; replace hh := hh.symm; subst hh
  refine Go.aload_n 6 d_jdk_68_m73_5 rfl rfl rfl ?_
  refine Go.aload_n 7 d_jdk_68_m73_6 rfl rfl rfl ?_
  refine Go.getfield 10 d_jdk_68_m73_7 rfl (W.1 62 rfl) B.va ?_
  refine Go.iload_n 11 d_jdk_68_m73_10 rfl rfl ?_
  refine Go.aload_n 12 d_jdk_68_m73_11 rfl rfl rfl ?_
  refine Go.getfield 15 d_jdk_68_m73_12 rfl (W.1 64 rfl) B.co ?_
  have f2 := CHr.safe (CHr.trans chi c1) B.ar.lt Sd
  have L2 := Nat.lt_of_lt_of_le B.ar.lt (CHr.trans chi c1).2.1
  refine Go.invokevirtual (rest := []) 0 a [.ref d, .int (Int32.ofNat ds.length), .int (0 : Int32)] 18 d_jdk_68_m73_15 rfl T.exa (W.1 146 rfl) (W.1 147 rfl) (fun s hs => notFace_of_selects (args := #[]) (mvT hs (W.1 149 rfl))) (W.1 149 rfl) (W.1 148 rfl) (W.1 6 rfl) (W.1 150 rfl) (by decide) (cGB0 W U T B.a0 f2 hl B.c40 hz (fun q => ns q)) (by decide +kernel : parseMethodDescriptor "([BIB)V" = some ⟨[(.array .byte), .int, .byte], none⟩) rfl rfl rfl (nl rfl) (nl rfl) (nl rfl) (nl rfl) (nl rfl) (fun v3 vm3 h3 ⟨rv, K, A⟩ c3 => ?_)
  subst rv
  exact Go.return_ d_jdk_68_m73_18 rfl (nl rfl) (nl rfl) (fun vm' ch => ⟨rfl, K, A⟩)
set_option maxRecDepth 65536 in
set_option maxHeartbeats 40000000 in
theorem cIfn1 {l : Launch} {Z : State} {a0 : Array Value} (W : Wd Z a0) {EL : List (String × Nat)} {vm : Vm} {h : Heap} {a : Addr} {cs : List Int32} (T : Str Z h a cs) {b d : Addr} {kd : ClassId} {cap : Nat} {ds : List Int32} (B : Bd Z h b d kd 1 cap ds) :
    Ctr false l Z a0 EL (⟨"java/lang/AbstractStringBuilder", "inflateIfNeededFor", "(Ljava/lang/String;)V"⟩ : MethodName) jdk_68_method_71_code 2 none ({ frames := 2, cells := 0, slots := 0, locals := 25 } : Room) #[.ref b, .ref a] vm h (fun v vm' h' => v = none ∧ h' = h) := by
  refine Ctr.of_go (L0 := #[.val (.ref b), .val (.ref a)]) (by first | exact plainFor_of_name (by first | (simp [plainName, overriddenIn]; done) | decide +kernel) | decide +kernel) (fun m => by first | (simp [entryFrame, mkF, argsToLocals, Value.category, maxLocals]; done) | rfl) (fun p e s m below meth c vmi chi => ?_)
  refine Go.know fun hE1 _ _ => ?_
  obtain ⟨zc1, Cz1, hc1⟩ := W.2.1
  refine Go.getstatic 3 d_jdk_68_m71_0 rfl (W.1 61 rfl) (Cz1.ext hE1) ?_
  refine Go.ifeq 21 6 d_jdk_68_m71_3 (by decide) rfl rfl (fun q1 => absurd q1 hc1) (fun q1 => ?_)
  refine Go.aload_n 7 d_jdk_68_m71_6 rfl rfl rfl ?_
  refine Go.getfield 10 d_jdk_68_m71_7 rfl (W.1 64 rfl) B.co ?_
  refine Go.aload_n 11 d_jdk_68_m71_10 rfl rfl rfl ?_
  refine Go.invokevirtual (rest := [.int (1 : Int32)]) 1 a [] 14 d_jdk_68_m71_11 rfl T.exa (W.1 145 rfl) (W.1 47 rfl) (fun s hs => notFace_of_selects (args := #[]) (mvT hs (W.1 49 rfl))) (W.1 49 rfl) (W.1 48 rfl) (W.1 6 rfl) (W.1 50 rfl) (by decide) (cCod0 W T) (by decide +kernel : parseMethodDescriptor "()B" = some ⟨[], (some .byte)⟩) rfl rfl rfl (nl rfl) (nl rfl) (nl rfl) (nl rfl) (nl rfl) (fun v2 vm2 h2 ⟨rv, hh⟩ c2 => ?_)
  subst rv; replace hh := hh.symm; subst hh
  refine Go.if_icmpeq 21 17 d_jdk_68_m71_14 (by decide) rfl rfl (fun q3 => absurd q3 (by decide)) (fun q3 => ?_)
  refine Go.aload_n 18 d_jdk_68_m71_17 rfl rfl rfl ?_
  refine Go.invokevirtual (rest := []) 0 b [] 21 d_jdk_68_m71_18 rfl B.e (W.1 273 rfl) (declares_of (W.1 274 rfl) (W.1 277 rfl)) (fun s hs => notFace_of_selects (args := #[]) (mvT hs (W.1 276 rfl))) (W.1 276 rfl) (W.1 274 rfl) (W.1 58 rfl) (W.1 277 rfl) (by decide) (cInf1 W B) (by decide +kernel : parseMethodDescriptor "()V" = some ⟨[], none⟩) rfl rfl rfl (nl rfl) (nl rfl) (nl rfl) (nl rfl) (nl rfl) (fun v4 vm4 h4 ⟨rv, hh⟩ c4 => ?_)
  subst rv; replace hh := hh.symm; subst hh
  exact Go.return_ d_jdk_68_m71_21 rfl (nl rfl) (nl rfl) (fun vm' ch => ⟨rfl, rfl⟩)
set_option maxRecDepth 65536 in
set_option maxHeartbeats 40000000 in
theorem cGB1 {l : Launch} {Z : State} {a0 : Array Value} (W : Wd Z a0) {EL : List (String × Nat)} {vm : Vm} {h : Heap} {a d : Addr} {kd : ClassId} {cap : Nat} {ds cs : List Int32} (U : UT Z) (T : Str Z h a cs) (A : Arv Z h d kd .byte (Int32.ofNat (2 * cap)) (b2 ds) (.int 0)) (Y : Safe Z EL vm h d) (hl : ds.length + cs.length ≤ cap) (hc : cap ≤ 40) (hz : Z.heap.size ≤ d) (ns : ∀ {b_ : Addr}, Fld Z h a "java/lang/String" "value" "[B" (.ref b_) → b_ ≠ d) :
    Ctr false l Z a0 EL (⟨"java/lang/String", "getBytes", "([BIB)V"⟩ : MethodName) jdk_42_method_147_code 4 none ({ frames := 5, cells := 0, slots := 0, locals := 76 } : Room) #[.ref a, .ref d, .int (Int32.ofNat ds.length), .int (1 : Int32)] vm h (fun v vm' h' => v = none ∧ Keep h h' [d] ∧ Arv Z h' d kd .byte (Int32.ofNat (2 * cap)) (b2 (ds ++ cs)) (.int 0)) := by
  refine Ctr.of_go (L0 := #[.val (.ref a), .val (.ref d), .val (.int (Int32.ofNat ds.length)), .val (.int (1 : Int32))]) (by first | exact plainFor_of_name (by first | (simp [plainName, overriddenIn]; done) | decide +kernel) | decide +kernel) (fun m => by first | (simp [entryFrame, mkF, argsToLocals, Value.category, maxLocals]; done) | rfl) (fun p e s m below meth c vmi chi => ?_)
  refine Go.aload_n 1 d_jdk_42_m147_0 rfl rfl rfl ?_
  refine Go.invokevirtual (rest := []) 0 a [] 4 d_jdk_42_m147_1 rfl T.exa (W.1 46 rfl) (W.1 47 rfl) (fun s hs => notFace_of_selects (args := #[]) (mvT hs (W.1 49 rfl))) (W.1 49 rfl) (W.1 48 rfl) (W.1 6 rfl) (W.1 50 rfl) (by decide) (cCod0 W T) (by decide +kernel : parseMethodDescriptor "()B" = some ⟨[], (some .byte)⟩) rfl rfl rfl (nl rfl) (nl rfl) (nl rfl) (nl rfl) (nl rfl) (fun v1 vm1 h1 ⟨rv, hh⟩ c1 => ?_)
  subst rv; replace hh := hh.symm; subst hh
  refine Go.iload_n 5 d_jdk_42_m147_4 rfl rfl ?_
  obtain ⟨b_, kb_, t1, t2, t3, t4, t5, t6⟩ := T
  refine Go.if_icmpne 28 8 d_jdk_42_m147_5 (by decide) rfl rfl (fun q2 => ?_) (fun q2 => absurd q2 (by decide))
  refine Go.aload_n 29 d_jdk_42_m147_28 rfl rfl rfl ?_
  refine Go.getfield 32 d_jdk_42_m147_29 rfl (W.1 32 rfl) t3 ?_
  refine Go.iconst (0) 33 d_jdk_42_m147_32 rfl rfl ?_
  refine Go.aload_n 34 d_jdk_42_m147_33 rfl rfl rfl ?_
  refine Go.iload_n 35 d_jdk_42_m147_34 rfl rfl ?_
  refine Go.aload_n 36 d_jdk_42_m147_35 rfl rfl rfl ?_
  refine Go.getfield 39 d_jdk_42_m147_36 rfl (W.1 32 rfl) t3 ?_
  refine Go.arraylength 40 d_jdk_42_m147_39 rfl t4 ?_
  have f3 := CHr.safe (CHr.trans chi c1) A.lt Y
  have L3 := Nat.lt_of_lt_of_le A.lt (CHr.trans chi c1).2.1
  refine Go.invokestatic (rest := []) 0 [.ref b_, .int (0 : Int32), .ref d, .int (Int32.ofNat ds.length), .int (Int32.ofNat cs.length)] 43 d_jdk_42_m147_40 rfl (W.1 304 rfl) (W.1 280 rfl) (W.1 78 rfl) (W.1 281 rfl) (by decide) (cInfL W U t4 (Nat.le_refl _) t5 A hl (by omega) t6 (ns t3) f3 hz) (by decide +kernel : parseMethodDescriptor "([BI[BII)V" = some ⟨[(.array .byte), .int, (.array .byte), .int, .int], none⟩) rfl rfl rfl (nl rfl) (nl rfl) (nl rfl) (nl rfl) (nl rfl) (fun v4 vm4 h4 ⟨rv, K9, A9⟩ c4 => ?_)
  subst rv
  exact Go.return_ d_jdk_42_m147_43 rfl (nl rfl) (nl rfl) (fun vm' ch => ⟨rfl, K9, A9⟩)
set_option maxRecDepth 65536 in
set_option maxHeartbeats 40000000 in
theorem cPut1 {l : Launch} {Z : State} {a0 : Array Value} (W : Wd Z a0) {EL : List (String × Nat)} {vm : Vm} {h : Heap} {a : Addr} {cs : List Int32} (U : UT Z) (T : Str Z h a cs) {b d : Addr} {kd : ClassId} {cap : Nat} {ds : List Int32} (B : Bd Z h b d kd 1 cap ds) (hl : ds.length + cs.length ≤ cap) (Sd : Safe Z EL vm h d) (hz : Z.heap.size ≤ d) (ns : ∀ {b_ : Addr}, Fld Z h a "java/lang/String" "value" "[B" (.ref b_) → b_ ≠ d) :
    Ctr false l Z a0 EL (⟨"java/lang/AbstractStringBuilder", "putStringAt", "(ILjava/lang/String;)V"⟩ : MethodName) jdk_68_method_73_code 3 none ({ frames := 6, cells := 0, slots := 0, locals := 91 } : Room) #[.ref b, .int (Int32.ofNat ds.length), .ref a] vm h (fun v vm' h' => v = none ∧ Keep h h' [d] ∧ Arv Z h' d kd .byte (Int32.ofNat (2 * cap)) (b2 (ds ++ cs)) (.int 0)) := by
  refine Ctr.of_go (L0 := #[.val (.ref b), .val (.int (Int32.ofNat ds.length)), .val (.ref a)]) (by first | exact plainFor_of_name (by first | (simp [plainName, overriddenIn]; done) | decide +kernel) | decide +kernel) (fun m => by first | (simp [entryFrame, mkF, argsToLocals, Value.category, maxLocals]; done) | rfl) (fun p e s m below meth c vmi chi => ?_)
  refine Go.aload_n 1 d_jdk_68_m73_0 rfl rfl rfl ?_
  refine Go.aload_n 2 d_jdk_68_m73_1 rfl rfl rfl ?_
  refine Go.invokevirtual (rest := []) 0 b [.ref a] 5 d_jdk_68_m73_2 rfl B.e (W.1 140 rfl) (declares_of (W.1 141 rfl) (W.1 144 rfl)) (fun s hs => notFace_of_selects (args := #[]) (mvT hs (W.1 143 rfl))) (W.1 143 rfl) (W.1 141 rfl) (W.1 58 rfl) (W.1 144 rfl) (by decide) (cIfn1 W T B) (by decide +kernel : parseMethodDescriptor "(Ljava/lang/String;)V" = some ⟨[(.object "java/lang/String")], none⟩) rfl rfl rfl (nl rfl) (nl rfl) (nl rfl) (nl rfl) (nl rfl) (fun v1 vm1 h1 ⟨rv, hh⟩ c1 => ?_)
  subst rv; replace hh := hh.symm; subst hh
  refine Go.aload_n 6 d_jdk_68_m73_5 rfl rfl rfl ?_
  refine Go.aload_n 7 d_jdk_68_m73_6 rfl rfl rfl ?_
  refine Go.getfield 10 d_jdk_68_m73_7 rfl (W.1 62 rfl) B.va ?_
  refine Go.iload_n 11 d_jdk_68_m73_10 rfl rfl ?_
  refine Go.aload_n 12 d_jdk_68_m73_11 rfl rfl rfl ?_
  refine Go.getfield 15 d_jdk_68_m73_12 rfl (W.1 64 rfl) B.co ?_
  have f2 := CHr.safe (CHr.trans chi c1) B.ar.lt Sd
  have L2 := Nat.lt_of_lt_of_le B.ar.lt (CHr.trans chi c1).2.1
  refine Go.invokevirtual (rest := []) 0 a [.ref d, .int (Int32.ofNat ds.length), .int (1 : Int32)] 18 d_jdk_68_m73_15 rfl T.exa (W.1 146 rfl) (W.1 147 rfl) (fun s hs => notFace_of_selects (args := #[]) (mvT hs (W.1 149 rfl))) (W.1 149 rfl) (W.1 148 rfl) (W.1 6 rfl) (W.1 150 rfl) (by decide) (cGB1 W U T B.a1 f2 hl B.c40 hz (fun q => ns q)) (by decide +kernel : parseMethodDescriptor "([BIB)V" = some ⟨[(.array .byte), .int, .byte], none⟩) rfl rfl rfl (nl rfl) (nl rfl) (nl rfl) (nl rfl) (nl rfl) (fun v3 vm3 h3 ⟨rv, K, A⟩ c3 => ?_)
  subst rv
  exact Go.return_ d_jdk_68_m73_18 rfl (nl rfl) (nl rfl) (fun vm' ch => ⟨rfl, K, A⟩)
theorem d_jdk_68_m22_0 : decode jdk_68_method_22_code 0 = .ok (.aload_n 1, 1) := by decide +kernel
theorem d_jdk_68_m22_1 : decode jdk_68_method_22_code 1 = .ok (.ifnonnull 8, 3) := by decide +kernel
theorem d_jdk_68_m22_4 : decode jdk_68_method_22_code 4 = .ok (.aload_n 0, 1) := by decide +kernel
theorem d_jdk_68_m22_5 : decode jdk_68_method_22_code 5 = .ok (.invokevirtual 204, 3) := by decide +kernel
theorem d_jdk_68_m22_8 : decode jdk_68_method_22_code 8 = .ok (.areturn, 1) := by decide +kernel
theorem d_jdk_68_m22_9 : decode jdk_68_method_22_code 9 = .ok (.aload_n 1, 1) := by decide +kernel
theorem d_jdk_68_m22_10 : decode jdk_68_method_22_code 10 = .ok (.invokevirtual 32, 3) := by decide +kernel
theorem d_jdk_68_m22_13 : decode jdk_68_method_22_code 13 = .ok (.istore_n 2, 1) := by decide +kernel
theorem d_jdk_68_m22_14 : decode jdk_68_method_22_code 14 = .ok (.aload_n 0, 1) := by decide +kernel
theorem d_jdk_68_m22_15 : decode jdk_68_method_22_code 15 = .ok (.aload_n 0, 1) := by decide +kernel
theorem d_jdk_68_m22_16 : decode jdk_68_method_22_code 16 = .ok (.getfield 79, 3) := by decide +kernel
theorem d_jdk_68_m22_19 : decode jdk_68_method_22_code 19 = .ok (.iload_n 2, 1) := by decide +kernel
theorem d_jdk_68_m22_20 : decode jdk_68_method_22_code 20 = .ok (.iadd, 1) := by decide +kernel
theorem d_jdk_68_m22_21 : decode jdk_68_method_22_code 21 = .ok (.invokevirtual 100, 3) := by decide +kernel
theorem d_jdk_68_m22_24 : decode jdk_68_method_22_code 24 = .ok (.aload_n 0, 1) := by decide +kernel
theorem d_jdk_68_m22_25 : decode jdk_68_method_22_code 25 = .ok (.aload_n 0, 1) := by decide +kernel
theorem d_jdk_68_m22_26 : decode jdk_68_method_22_code 26 = .ok (.getfield 79, 3) := by decide +kernel
theorem d_jdk_68_m22_29 : decode jdk_68_method_22_code 29 = .ok (.aload_n 1, 1) := by decide +kernel
theorem d_jdk_68_m22_30 : decode jdk_68_method_22_code 30 = .ok (.invokevirtual 208, 3) := by decide +kernel
theorem d_jdk_68_m22_33 : decode jdk_68_method_22_code 33 = .ok (.aload_n 0, 1) := by decide +kernel
theorem d_jdk_68_m22_34 : decode jdk_68_method_22_code 34 = .ok (.dup, 1) := by decide +kernel
theorem d_jdk_68_m22_35 : decode jdk_68_method_22_code 35 = .ok (.getfield 79, 3) := by decide +kernel
theorem d_jdk_68_m22_38 : decode jdk_68_method_22_code 38 = .ok (.iload_n 2, 1) := by decide +kernel
theorem d_jdk_68_m22_39 : decode jdk_68_method_22_code 39 = .ok (.iadd, 1) := by decide +kernel
theorem d_jdk_68_m22_40 : decode jdk_68_method_22_code 40 = .ok (.putfield 79, 3) := by decide +kernel
theorem d_jdk_68_m22_43 : decode jdk_68_method_22_code 43 = .ok (.aload_n 0, 1) := by decide +kernel
theorem d_jdk_68_m22_44 : decode jdk_68_method_22_code 44 = .ok (.areturn, 1) := by decide +kernel
set_option maxRecDepth 65536 in
set_option maxHeartbeats 40000000 in
theorem cApp {l : Launch} {Z : State} {a0 : Array Value} (W : Wd Z a0) {EL : List (String × Nat)} {vm : Vm} {h : Heap} {a : Addr} {u : Nat} {cs : List Int32} (U : UT Z) (T : Str Z h a cs) {b d : Addr} {kd : ClassId} {cap : Nat} {ds : List Int32} (B : Bd Z h b d kd u cap ds) (hl : ds.length + cs.length ≤ 18) (Sb : Safe Z EL vm h b) (zb : Z.heap.size ≤ b) (Sd : Safe Z EL vm h d) (hz : Z.heap.size ≤ d) (nd : d ≠ b) (ns : ∀ {b_ : Addr}, Fld Z h a "java/lang/String" "value" "[B" (.ref b_) → b_ ≠ d) :
    Ctr false l Z a0 EL (⟨"java/lang/AbstractStringBuilder", "append", "(Ljava/lang/String;)Ljava/lang/AbstractStringBuilder;"⟩ : MethodName) jdk_68_method_22_code 3 (some (.object "java/lang/AbstractStringBuilder")) ({ frames := 7, cells := 1, slots := 80, locals := 105 } : Room) #[.ref b, .ref a] vm h (fun v vm' h' => ∃ d' kd' u' cap', v = some (.ref b) ∧ Keep h h' [b, d] ∧ Bd Z h' b d' kd' u' cap' (ds ++ cs) ∧ (d' = d ∨ h.size ≤ d') ∧ Safe Z EL vm' h' d') := by
  refine Ctr.of_go (L0 := #[.val (.ref b), .val (.ref a), .unset]) (by first | exact plainFor_of_name (by first | (simp [plainName, overriddenIn]; done) | decide +kernel) | decide +kernel) (fun m => by first | (simp [entryFrame, mkF, argsToLocals, Value.category, maxLocals]; done) | rfl) (fun p e s m below meth c vmi chi => ?_)
  rcases B.u01 with rfl | rfl
  · refine Go.aload_n 1 d_jdk_68_m22_0 rfl rfl rfl ?_
    refine Go.ifnonnull_y 9 d_jdk_68_m22_1 (by decide) rfl ?_
    refine Go.aload_n 10 d_jdk_68_m22_9 rfl rfl rfl ?_
    refine Go.invokevirtual (rest := []) 0 a [] 13 d_jdk_68_m22_10 rfl T.exa (W.1 101 rfl) (W.1 42 rfl) (fun s hs => notFace_of_selects (args := #[]) (mvT hs (W.1 44 rfl))) (W.1 44 rfl) (W.1 43 rfl) (W.1 6 rfl) (W.1 45 rfl) (by decide) (cSLen W (Or.inl T)) (by decide +kernel : parseMethodDescriptor "()I" = some ⟨[], (some .int)⟩) rfl rfl rfl (nl rfl) (nl rfl) (nl rfl) (nl rfl) (nl rfl) (fun v1 vm1 h1 ⟨rv, hh⟩ c1 => ?_)
    subst rv; replace hh := hh.symm; subst hh
    refine Go.istore_n #[.val (.ref b), .val (.ref a), .val (.int (Int32.ofNat cs.length))] 14 d_jdk_68_m22_13 rfl rfl ?_
    refine Go.aload_n 15 d_jdk_68_m22_14 rfl rfl rfl ?_
    refine Go.aload_n 16 d_jdk_68_m22_15 rfl rfl rfl ?_
    refine Go.getfield 19 d_jdk_68_m22_16 rfl (W.1 102 rfl) B.ct ?_
    refine Go.iload_n 20 d_jdk_68_m22_19 rfl rfl ?_
    refine Go.iadd (Int32.ofNat (ds.length + cs.length)) 21 d_jdk_68_m22_20 rfl (ofNat_add' _ _) ?_
    have f2 := CHr.safe (CHr.trans chi c1) B.e.lt Sb
    have L2 := Nat.lt_of_lt_of_le B.e.lt (CHr.trans chi c1).2.1
    have f3 := CHr.safe (CHr.trans chi c1) B.ar.lt Sd
    have L3 := Nat.lt_of_lt_of_le B.ar.lt (CHr.trans chi c1).2.1
    refine Go.invokevirtual (rest := []) 0 b [.int (Int32.ofNat (ds.length + cs.length))] 24 d_jdk_68_m22_21 rfl B.e (W.1 104 rfl) (declares_of (W.1 105 rfl) (W.1 108 rfl)) (fun s hs => notFace_of_selects (args := #[]) (mvT hs (W.1 107 rfl))) (W.1 107 rfl) (W.1 105 rfl) (W.1 58 rfl) (W.1 108 rfl) (by decide) (cEns0 W (n_ := ds.length + cs.length) hl B f2 zb f3 hz nd) (by decide +kernel : parseMethodDescriptor "(I)V" = some ⟨[.int], none⟩) rfl rfl rfl (nl rfl) (nl rfl) (nl rfl) (nl rfl) (nl rfl) (fun v4 vm4 h4 ⟨rv, K0, d1, kd1, cap1, hn1, B1, o1, S1_⟩ c4 => ?_)
    subst rv
    have hz1 : Z.heap.size ≤ d1 := o1.elim (fun q => by rw [q]; exact hz) (fun q => Nat.le_trans zb (Nat.le_trans (Nat.le_of_lt B.e.lt) q))
    have nd1 : d1 ≠ b := o1.elim (fun q => by rw [q]; exact nd) (fun q => (ne_of_new B.e.lt q).symm)
    have T1 := T.keepE K0 B.e (by decide) (W.1 39 rfl)
    have ns1 : ∀ {b_ : Addr}, Fld Z h4 a "java/lang/String" "value" "[B" (.ref b_) → b_ ≠ d1 := fun F => nsUp T K0 B.e (by decide) o1 (fun q => ns q) F
    refine Go.aload_n 25 d_jdk_68_m22_24 rfl rfl rfl ?_
    refine Go.aload_n 26 d_jdk_68_m22_25 rfl rfl rfl ?_
    refine Go.getfield 29 d_jdk_68_m22_26 rfl (W.1 102 rfl) B1.ct ?_
    refine Go.aload_n 30 d_jdk_68_m22_29 rfl rfl rfl ?_
    refine Go.invokevirtual (rest := []) 0 b [.int (Int32.ofNat ds.length), .ref a] 33 d_jdk_68_m22_30 rfl B1.e (W.1 135 rfl) (declares_of (W.1 136 rfl) (W.1 139 rfl)) (fun s hs => notFace_of_selects (args := #[]) (mvT hs (W.1 138 rfl))) (W.1 138 rfl) (W.1 136 rfl) (W.1 58 rfl) (W.1 139 rfl) (by decide) (cPut0 W U T1 B1 hn1 S1_ hz1 (fun q => ns1 q)) (by decide +kernel : parseMethodDescriptor "(ILjava/lang/String;)V" = some ⟨[.int, (.object "java/lang/String")], none⟩) rfl rfl rfl (nl rfl) (nl rfl) (nl rfl) (nl rfl) (nl rfl) (fun v5 vm5 h5 ⟨rv, K, A⟩ c5 => ?_)
    subst rv
    have nb : b ∉ [d1] := ninS nd1.symm nin0
    have e1 := B1.e.keep K
    have b4 := B1.ct.keep K nb
    refine Go.aload_n 34 d_jdk_68_m22_33 rfl rfl rfl ?_
    refine Go.dup 35 d_jdk_68_m22_34 rfl rfl ?_
    refine Go.getfield 38 d_jdk_68_m22_35 rfl (W.1 102 rfl) b4 ?_
    refine Go.iload_n 39 d_jdk_68_m22_38 rfl rfl ?_
    refine Go.iadd (Int32.ofNat (ds.length + cs.length)) 40 d_jdk_68_m22_39 rfl (ofNat_add' _ _) ?_
    have f6 := CHr.safe (CHr.trans c4 c5) L2 f2
    have L6 := Nat.lt_of_lt_of_le L2 (CHr.trans c4 c5).2.1
    refine Go.putfield 43 d_jdk_68_m22_40 rfl (W.1 102 rfl) b4 e1 (Or.inl (W.1 103 rfl)) (W.1 39 rfl) (ty := .int) (by decide) rfl rfl f6 zb (fun h7 X7 S7 c7 => ?_)
    have f8 := CHr.safe (CHr.trans c5 c7) B1.ar.lt S1_
    have L8 := Nat.lt_of_lt_of_le B1.ar.lt (CHr.trans c5 c7).2.1
    refine Go.aload_n 44 d_jdk_68_m22_43 rfl rfl rfl ?_
    have len : (ds ++ cs).length = ds.length + cs.length := List.length_append
    have A9 := Arv.other A X7 nd1
    have K9 : Keep h h7 [b, d] := (((Keep.refl h [b, d]).trans K0 (fun x q => Or.inl (by cases List.mem_singleton.mp q; simp))).trans K (fun x q => by cases List.mem_singleton.mp q; exact o1.elim (fun q => Or.inl (by rw [q]; simp)) Or.inr)).wr X7 (Or.inl (by simp))
    exact Go.areturn d_jdk_68_m22_44 rfl rfl rfl (nl rfl) (nl rfl) (fun vm' ch => ⟨d1, kd1, 0, cap1, rfl, K9, ⟨e1.wr X7, ((B1.co.keep K nb).other X7 (Or.inr (slot_ne (a0 := a0) (C := "java/lang/StringBuilder") (Or.inl (W.1 65 rfl)) (Or.inl (W.1 103 rfl)) (by decide) (t := .byte) (t' := .int) (by decide) (by decide)))), ((B1.va.keep K nb).other X7 (Or.inr (slot_ne (a0 := a0) (C := "java/lang/StringBuilder") (Or.inl (W.1 63 rfl)) (Or.inl (W.1 103 rfl)) (by decide) (t := (.array .byte)) (t' := .int) (by decide) (by decide)))), (by rw [len]; exact (b4.same X7)), ((B1.my.keep K nb).other X7 (Or.inr (slot_ne (a0 := a0) (C := "java/lang/StringBuilder") (Or.inl (W.1 298 rfl)) (Or.inl (W.1 103 rfl)) (by decide) (t := .boolean) (t' := .int) (by decide) (by decide)))), Arv.up0 A9, (B1.ex.keep K).wr X7, ⟨B1.c40, (by rw [len]; exact hn1), Or.inl rfl⟩, fun c hc => (List.mem_append.mp hc).elim (B1.ch c) (fun q => c16up (Str.ch1 T c q)), fun _ c hc => (List.mem_append.mp hc).elim (B1.lat c) (fun q => (Str.ch1 T c q).2)⟩, o1, ch.safe A9.lt f8⟩)
  · refine Go.aload_n 1 d_jdk_68_m22_0 rfl rfl rfl ?_
    refine Go.ifnonnull_y 9 d_jdk_68_m22_1 (by decide) rfl ?_
    refine Go.aload_n 10 d_jdk_68_m22_9 rfl rfl rfl ?_
    refine Go.invokevirtual (rest := []) 0 a [] 13 d_jdk_68_m22_10 rfl T.exa (W.1 101 rfl) (W.1 42 rfl) (fun s hs => notFace_of_selects (args := #[]) (mvT hs (W.1 44 rfl))) (W.1 44 rfl) (W.1 43 rfl) (W.1 6 rfl) (W.1 45 rfl) (by decide) (cSLen W (Or.inl T)) (by decide +kernel : parseMethodDescriptor "()I" = some ⟨[], (some .int)⟩) rfl rfl rfl (nl rfl) (nl rfl) (nl rfl) (nl rfl) (nl rfl) (fun v9 vm9 h9 ⟨rv, hh⟩ c9 => ?_)
    subst rv; replace hh := hh.symm; subst hh
    refine Go.istore_n #[.val (.ref b), .val (.ref a), .val (.int (Int32.ofNat cs.length))] 14 d_jdk_68_m22_13 rfl rfl ?_
    refine Go.aload_n 15 d_jdk_68_m22_14 rfl rfl rfl ?_
    refine Go.aload_n 16 d_jdk_68_m22_15 rfl rfl rfl ?_
    refine Go.getfield 19 d_jdk_68_m22_16 rfl (W.1 102 rfl) B.ct ?_
    refine Go.iload_n 20 d_jdk_68_m22_19 rfl rfl ?_
    refine Go.iadd (Int32.ofNat (ds.length + cs.length)) 21 d_jdk_68_m22_20 rfl (ofNat_add' _ _) ?_
    have f10 := CHr.safe (CHr.trans chi c9) B.e.lt Sb
    have L10 := Nat.lt_of_lt_of_le B.e.lt (CHr.trans chi c9).2.1
    have f11 := CHr.safe (CHr.trans chi c9) B.ar.lt Sd
    have L11 := Nat.lt_of_lt_of_le B.ar.lt (CHr.trans chi c9).2.1
    refine Go.invokevirtual (rest := []) 0 b [.int (Int32.ofNat (ds.length + cs.length))] 24 d_jdk_68_m22_21 rfl B.e (W.1 104 rfl) (declares_of (W.1 105 rfl) (W.1 108 rfl)) (fun s hs => notFace_of_selects (args := #[]) (mvT hs (W.1 107 rfl))) (W.1 107 rfl) (W.1 105 rfl) (W.1 58 rfl) (W.1 108 rfl) (by decide) (cEns1 W (n_ := ds.length + cs.length) hl B f10 zb f11 hz nd) (by decide +kernel : parseMethodDescriptor "(I)V" = some ⟨[.int], none⟩) rfl rfl rfl (nl rfl) (nl rfl) (nl rfl) (nl rfl) (nl rfl) (fun v12 vm12 h12 ⟨rv, K0, d1, kd1, cap1, hn1, B1, o1, S1_⟩ c12 => ?_)
    subst rv
    have hz1 : Z.heap.size ≤ d1 := o1.elim (fun q => by rw [q]; exact hz) (fun q => Nat.le_trans zb (Nat.le_trans (Nat.le_of_lt B.e.lt) q))
    have nd1 : d1 ≠ b := o1.elim (fun q => by rw [q]; exact nd) (fun q => (ne_of_new B.e.lt q).symm)
    have T1 := T.keepE K0 B.e (by decide) (W.1 39 rfl)
    have ns1 : ∀ {b_ : Addr}, Fld Z h12 a "java/lang/String" "value" "[B" (.ref b_) → b_ ≠ d1 := fun F => nsUp T K0 B.e (by decide) o1 (fun q => ns q) F
    refine Go.aload_n 25 d_jdk_68_m22_24 rfl rfl rfl ?_
    refine Go.aload_n 26 d_jdk_68_m22_25 rfl rfl rfl ?_
    refine Go.getfield 29 d_jdk_68_m22_26 rfl (W.1 102 rfl) B1.ct ?_
    refine Go.aload_n 30 d_jdk_68_m22_29 rfl rfl rfl ?_
    refine Go.invokevirtual (rest := []) 0 b [.int (Int32.ofNat ds.length), .ref a] 33 d_jdk_68_m22_30 rfl B1.e (W.1 135 rfl) (declares_of (W.1 136 rfl) (W.1 139 rfl)) (fun s hs => notFace_of_selects (args := #[]) (mvT hs (W.1 138 rfl))) (W.1 138 rfl) (W.1 136 rfl) (W.1 58 rfl) (W.1 139 rfl) (by decide) (cPut1 W U T1 B1 hn1 S1_ hz1 (fun q => ns1 q)) (by decide +kernel : parseMethodDescriptor "(ILjava/lang/String;)V" = some ⟨[.int, (.object "java/lang/String")], none⟩) rfl rfl rfl (nl rfl) (nl rfl) (nl rfl) (nl rfl) (nl rfl) (fun v13 vm13 h13 ⟨rv, K, A⟩ c13 => ?_)
    subst rv
    have nb : b ∉ [d1] := ninS nd1.symm nin0
    have e1 := B1.e.keep K
    have b4 := B1.ct.keep K nb
    refine Go.aload_n 34 d_jdk_68_m22_33 rfl rfl rfl ?_
    refine Go.dup 35 d_jdk_68_m22_34 rfl rfl ?_
    refine Go.getfield 38 d_jdk_68_m22_35 rfl (W.1 102 rfl) b4 ?_
    refine Go.iload_n 39 d_jdk_68_m22_38 rfl rfl ?_
    refine Go.iadd (Int32.ofNat (ds.length + cs.length)) 40 d_jdk_68_m22_39 rfl (ofNat_add' _ _) ?_
    have f14 := CHr.safe (CHr.trans c12 c13) L10 f10
    have L14 := Nat.lt_of_lt_of_le L10 (CHr.trans c12 c13).2.1
    refine Go.putfield 43 d_jdk_68_m22_40 rfl (W.1 102 rfl) b4 e1 (Or.inl (W.1 103 rfl)) (W.1 39 rfl) (ty := .int) (by decide) rfl rfl f14 zb (fun h15 X15 S15 c15 => ?_)
    have f16 := CHr.safe (CHr.trans c13 c15) B1.ar.lt S1_
    have L16 := Nat.lt_of_lt_of_le B1.ar.lt (CHr.trans c13 c15).2.1
    refine Go.aload_n 44 d_jdk_68_m22_43 rfl rfl rfl ?_
    have len : (ds ++ cs).length = ds.length + cs.length := List.length_append
    have A9 := Arv.other A X15 nd1
    have K9 : Keep h h15 [b, d] := (((Keep.refl h [b, d]).trans K0 (fun x q => Or.inl (by cases List.mem_singleton.mp q; simp))).trans K (fun x q => by cases List.mem_singleton.mp q; exact o1.elim (fun q => Or.inl (by rw [q]; simp)) Or.inr)).wr X15 (Or.inl (by simp))
    exact Go.areturn d_jdk_68_m22_44 rfl rfl rfl (nl rfl) (nl rfl) (fun vm' ch => ⟨d1, kd1, 1, cap1, rfl, K9, ⟨e1.wr X15, ((B1.co.keep K nb).other X15 (Or.inr (slot_ne (a0 := a0) (C := "java/lang/StringBuilder") (Or.inl (W.1 65 rfl)) (Or.inl (W.1 103 rfl)) (by decide) (t := .byte) (t' := .int) (by decide) (by decide)))), ((B1.va.keep K nb).other X15 (Or.inr (slot_ne (a0 := a0) (C := "java/lang/StringBuilder") (Or.inl (W.1 63 rfl)) (Or.inl (W.1 103 rfl)) (by decide) (t := (.array .byte)) (t' := .int) (by decide) (by decide)))), (by rw [len]; exact (b4.same X15)), ((B1.my.keep K nb).other X15 (Or.inr (slot_ne (a0 := a0) (C := "java/lang/StringBuilder") (Or.inl (W.1 298 rfl)) (Or.inl (W.1 103 rfl)) (by decide) (t := .boolean) (t' := .int) (by decide) (by decide)))), Arv.up1 A9, (B1.ex.keep K).wr X15, ⟨B1.c40, (by rw [len]; exact hn1), Or.inr rfl⟩, fun c hc => (List.mem_append.mp hc).elim (B1.ch c) (fun q => c16up (Str.ch1 T c q)), (fun q => absurd q (by decide))⟩, o1, ch.safe A9.lt f16⟩)
theorem d_jdk_67_m7_0 : decode jdk_67_method_7_code 0 = .ok (.aload_n 0, 1) := by decide +kernel
theorem d_jdk_67_m7_1 : decode jdk_67_method_7_code 1 = .ok (.aload_n 1, 1) := by decide +kernel
theorem d_jdk_67_m7_2 : decode jdk_67_method_7_code 2 = .ok (.invokespecial 29, 3) := by decide +kernel
theorem d_jdk_67_m7_5 : decode jdk_67_method_7_code 5 = .ok (.pop, 1) := by decide +kernel
theorem d_jdk_67_m7_6 : decode jdk_67_method_7_code 6 = .ok (.aload_n 0, 1) := by decide +kernel
theorem d_jdk_67_m7_7 : decode jdk_67_method_7_code 7 = .ok (.areturn, 1) := by decide +kernel
set_option maxRecDepth 65536 in
set_option maxHeartbeats 40000000 in
theorem cAppS {l : Launch} {Z : State} {a0 : Array Value} (W : Wd Z a0) {EL : List (String × Nat)} {vm : Vm} {h : Heap} {a : Addr} {u : Nat} {cs : List Int32} (U : UT Z) (T : Str Z h a cs) {b d : Addr} {kd : ClassId} {cap : Nat} {ds : List Int32} (B : Bd Z h b d kd u cap ds) (hl : ds.length + cs.length ≤ 18) (Sb : Safe Z EL vm h b) (zb : Z.heap.size ≤ b) (Sd : Safe Z EL vm h d) (hz : Z.heap.size ≤ d) (nd : d ≠ b) (ns : ∀ {b_ : Addr}, Fld Z h a "java/lang/String" "value" "[B" (.ref b_) → b_ ≠ d) :
    Ctr false l Z a0 EL (⟨"java/lang/StringBuilder", "append", "(Ljava/lang/String;)Ljava/lang/StringBuilder;"⟩ : MethodName) jdk_67_method_7_code 2 (some (.object "java/lang/StringBuilder")) ({ frames := 8, cells := 1, slots := 80, locals := 119 } : Room) #[.ref b, .ref a] vm h (fun v vm' h' => ∃ d' kd' u' cap', v = some (.ref b) ∧ Keep h h' [b, d] ∧ Bd Z h' b d' kd' u' cap' (ds ++ cs) ∧ (d' = d ∨ h.size ≤ d') ∧ Safe Z EL vm' h' d') := by
  refine Ctr.of_go (L0 := #[.val (.ref b), .val (.ref a)]) (by first | exact plainFor_of_name (by first | (simp [plainName, overriddenIn]; done) | decide +kernel) | decide +kernel) (fun m => by first | (simp [entryFrame, mkF, argsToLocals, Value.category, maxLocals]; done) | rfl) (fun p e s m below meth c vmi chi => ?_)
  refine Go.aload_n 1 d_jdk_67_m7_0 rfl rfl rfl ?_
  refine Go.aload_n 2 d_jdk_67_m7_1 rfl rfl rfl ?_
  refine Go.super (rest := []) 0 b [.ref a] 5 d_jdk_67_m7_2 rfl (by decide) (W.1 96 rfl) (same_of (W.1 97 rfl) (W.1 167 rfl) rfl (by decide)) (W.1 97 rfl) (W.1 98 rfl) (W.1 58 rfl) (W.1 100 rfl) (Ins.of_exa B.e (W.1 57 rfl)) (cApp W U T B hl (chi.safe B.e.lt Sb) zb (chi.safe B.ar.lt Sd) hz nd (fun q => ns q)) (by decide +kernel : parseMethodDescriptor "(Ljava/lang/String;)Ljava/lang/AbstractStringBuilder;" = some ⟨[(.object "java/lang/String")], (some (.object "java/lang/AbstractStringBuilder"))⟩) rfl rfl rfl (nl rfl) (nl rfl) (nl rfl) (nl rfl) (nl rfl) (fun v1 vm1 h1 ⟨d1, kd1, u1, cap1, rv, K, B1, o1, S1_⟩ c1 => ?_)
  subst rv
  refine Go.pop 6 d_jdk_67_m7_5 rfl rfl ?_
  refine Go.aload_n 7 d_jdk_67_m7_6 rfl rfl rfl ?_
  exact Go.areturn d_jdk_67_m7_7 rfl rfl rfl (nl rfl) (nl rfl) (fun vm' ch => ⟨d1, kd1, u1, cap1, rfl, K, B1, o1, ch.safe B1.ar.lt S1_⟩)
theorem d_jdk_52_m71_0 : decode jdk_52_method_71_code 0 = .ok (.iload_n 1, 1) := by decide +kernel
theorem d_jdk_52_m71_1 : decode jdk_52_method_71_code 1 = .ok (.aload_n 0, 1) := by decide +kernel
theorem d_jdk_52_m71_2 : decode jdk_52_method_71_code 2 = .ok (.invokestatic 67, 3) := by decide +kernel
theorem d_jdk_52_m71_5 : decode jdk_52_method_71_code 5 = .ok (.aload_n 0, 1) := by decide +kernel
theorem d_jdk_52_m71_6 : decode jdk_52_method_71_code 6 = .ok (.iload_n 1, 1) := by decide +kernel
theorem d_jdk_52_m71_7 : decode jdk_52_method_71_code 7 = .ok (.iload_n 2, 1) := by decide +kernel
theorem d_jdk_52_m71_8 : decode jdk_52_method_71_code 8 = .ok (.invokestatic 111, 3) := by decide +kernel
theorem d_jdk_52_m71_11 : decode jdk_52_method_71_code 11 = .ok (.return_, 1) := by decide +kernel
set_option maxRecDepth 65536 in
set_option maxHeartbeats 40000000 in
theorem cPcs {l : Launch} {Z : State} {a0 : Array Value} (W : Wd Z a0) {EL : List (String × Nat)} {vm : Vm} {h : Heap} {d : Addr} {kd : ClassId} {m_ : Nat} {c_ : Int32} {xs : List Int32} (U : UT Z) (A : Arv Z h d kd .byte (Int32.ofNat (2 * m_)) (b2 xs) (.int 0)) (hx : xs.length < m_) (hm : m_ ≤ 4000) (Sd : Safe Z EL vm h d) (hz : Z.heap.size ≤ d) :
    Ctr false l Z a0 EL (⟨"java/lang/StringUTF16", "putCharSB", "([BII)V"⟩ : MethodName) jdk_52_method_71_code 3 none ({ frames := 3, cells := 0, slots := 0, locals := 40 } : Room) #[.ref d, .int (Int32.ofNat xs.length), .int c_] vm h (fun v vm' h' => v = none ∧ Keep h h' [d] ∧ Arv Z h' d kd .byte (Int32.ofNat (2 * m_)) (b2 (xs ++ [c_])) (.int 0)) := by
  refine Ctr.of_go (L0 := #[.val (.ref d), .val (.int (Int32.ofNat xs.length)), .val (.int c_)]) (by first | exact plainFor_of_name (by first | (simp [plainName, overriddenIn]; done) | decide +kernel) | decide +kernel) (fun m => by first | (simp [entryFrame, mkF, argsToLocals, Value.category, maxLocals]; done) | rfl) (fun p e s m below meth c vmi chi => ?_)
  refine Go.iload_n 1 d_jdk_52_m71_0 rfl rfl ?_
  refine Go.aload_n 2 d_jdk_52_m71_1 rfl rfl rfl ?_
  refine Go.invokestatic (rest := []) 0 [.int (Int32.ofNat xs.length), .ref d] 5 d_jdk_52_m71_2 rfl (W.1 266 rfl) (W.1 267 rfl) (W.1 21 rfl) (W.1 268 rfl) (by decide) (cUci W A hx hm) (by decide +kernel : parseMethodDescriptor "(I[B)V" = some ⟨[.int, (.array .byte)], none⟩) rfl rfl rfl (nl rfl) (nl rfl) (nl rfl) (nl rfl) (nl rfl) (fun v1 vm1 h1 ⟨rv, hh⟩ c1 => ?_)
  subst rv; replace hh := hh.symm; subst hh
  refine Go.aload_n 6 d_jdk_52_m71_5 rfl rfl rfl ?_
  refine Go.iload_n 7 d_jdk_52_m71_6 rfl rfl ?_
  refine Go.iload_n 8 d_jdk_52_m71_7 rfl rfl ?_
  have f2 := CHr.safe (CHr.trans chi c1) A.lt Sd
  have L2 := Nat.lt_of_lt_of_le A.lt (CHr.trans chi c1).2.1
  refine Go.invokestatic (rest := []) 0 [.ref d, .int (Int32.ofNat xs.length), .int c_] 11 d_jdk_52_m71_8 rfl (W.1 254 rfl) (W.1 255 rfl) (W.1 21 rfl) (W.1 256 rfl) (by decide) (cPutC W U A hx hm f2 hz) (by decide +kernel : parseMethodDescriptor "([BII)V" = some ⟨[(.array .byte), .int, .int], none⟩) rfl rfl rfl (nl rfl) (nl rfl) (nl rfl) (nl rfl) (nl rfl) (fun v3 vm3 h3 ⟨rv, K, A1⟩ c3 => ?_)
  subst rv
  exact Go.return_ d_jdk_52_m71_11 rfl (nl rfl) (nl rfl) (fun vm' ch => ⟨rfl, K, A1⟩)
theorem d_jdk_68_m31_0 : decode jdk_68_method_31_code 0 = .ok (.aload_n 0, 1) := by decide +kernel
theorem d_jdk_68_m31_1 : decode jdk_68_method_31_code 1 = .ok (.aload_n 0, 1) := by decide +kernel
theorem d_jdk_68_m31_2 : decode jdk_68_method_31_code 2 = .ok (.getfield 79, 3) := by decide +kernel
theorem d_jdk_68_m31_5 : decode jdk_68_method_31_code 5 = .ok (.iconst 1, 1) := by decide +kernel
theorem d_jdk_68_m31_6 : decode jdk_68_method_31_code 6 = .ok (.iadd, 1) := by decide +kernel
theorem d_jdk_68_m31_7 : decode jdk_68_method_31_code 7 = .ok (.invokevirtual 100, 3) := by decide +kernel
theorem d_jdk_68_m31_10 : decode jdk_68_method_31_code 10 = .ok (.aload_n 0, 1) := by decide +kernel
theorem d_jdk_68_m31_11 : decode jdk_68_method_31_code 11 = .ok (.invokevirtual 83, 3) := by decide +kernel
theorem d_jdk_68_m31_14 : decode jdk_68_method_31_code 14 = .ok (.ifCond .eq 31, 3) := by decide +kernel
theorem d_jdk_68_m31_17 : decode jdk_68_method_31_code 17 = .ok (.iload_n 1, 1) := by decide +kernel
theorem d_jdk_68_m31_18 : decode jdk_68_method_31_code 18 = .ok (.invokestatic 191, 3) := by decide +kernel
theorem d_jdk_68_m31_21 : decode jdk_68_method_31_code 21 = .ok (.ifCond .eq 24, 3) := by decide +kernel
theorem d_jdk_68_m31_24 : decode jdk_68_method_31_code 24 = .ok (.aload_n 0, 1) := by decide +kernel
theorem d_jdk_68_m31_25 : decode jdk_68_method_31_code 25 = .ok (.getfield 15, 3) := by decide +kernel
theorem d_jdk_68_m31_28 : decode jdk_68_method_31_code 28 = .ok (.aload_n 0, 1) := by decide +kernel
theorem d_jdk_68_m31_29 : decode jdk_68_method_31_code 29 = .ok (.dup, 1) := by decide +kernel
theorem d_jdk_68_m31_30 : decode jdk_68_method_31_code 30 = .ok (.getfield 79, 3) := by decide +kernel
theorem d_jdk_68_m31_33 : decode jdk_68_method_31_code 33 = .ok (.dup_x1, 1) := by decide +kernel
theorem d_jdk_68_m31_34 : decode jdk_68_method_31_code 34 = .ok (.iconst 1, 1) := by decide +kernel
theorem d_jdk_68_m31_35 : decode jdk_68_method_31_code 35 = .ok (.iadd, 1) := by decide +kernel
theorem d_jdk_68_m31_36 : decode jdk_68_method_31_code 36 = .ok (.putfield 79, 3) := by decide +kernel
theorem d_jdk_68_m31_39 : decode jdk_68_method_31_code 39 = .ok (.iload_n 1, 1) := by decide +kernel
theorem d_jdk_68_m31_40 : decode jdk_68_method_31_code 40 = .ok (.i2b, 1) := by decide +kernel
theorem d_jdk_68_m31_41 : decode jdk_68_method_31_code 41 = .ok (.bastore, 1) := by decide +kernel
theorem d_jdk_68_m31_42 : decode jdk_68_method_31_code 42 = .ok (.goto 33, 3) := by decide +kernel
theorem d_jdk_68_m31_45 : decode jdk_68_method_31_code 45 = .ok (.aload_n 0, 1) := by decide +kernel
theorem d_jdk_68_m31_46 : decode jdk_68_method_31_code 46 = .ok (.invokevirtual 83, 3) := by decide +kernel
theorem d_jdk_68_m31_49 : decode jdk_68_method_31_code 49 = .ok (.ifCond .eq 7, 3) := by decide +kernel
theorem d_jdk_68_m31_52 : decode jdk_68_method_31_code 52 = .ok (.aload_n 0, 1) := by decide +kernel
theorem d_jdk_68_m31_53 : decode jdk_68_method_31_code 53 = .ok (.invokevirtual 195, 3) := by decide +kernel
theorem d_jdk_68_m31_56 : decode jdk_68_method_31_code 56 = .ok (.aload_n 0, 1) := by decide +kernel
theorem d_jdk_68_m31_57 : decode jdk_68_method_31_code 57 = .ok (.getfield 15, 3) := by decide +kernel
theorem d_jdk_68_m31_60 : decode jdk_68_method_31_code 60 = .ok (.aload_n 0, 1) := by decide +kernel
theorem d_jdk_68_m31_61 : decode jdk_68_method_31_code 61 = .ok (.dup, 1) := by decide +kernel
theorem d_jdk_68_m31_62 : decode jdk_68_method_31_code 62 = .ok (.getfield 79, 3) := by decide +kernel
theorem d_jdk_68_m31_65 : decode jdk_68_method_31_code 65 = .ok (.dup_x1, 1) := by decide +kernel
theorem d_jdk_68_m31_66 : decode jdk_68_method_31_code 66 = .ok (.iconst 1, 1) := by decide +kernel
theorem d_jdk_68_m31_67 : decode jdk_68_method_31_code 67 = .ok (.iadd, 1) := by decide +kernel
theorem d_jdk_68_m31_68 : decode jdk_68_method_31_code 68 = .ok (.putfield 79, 3) := by decide +kernel
theorem d_jdk_68_m31_71 : decode jdk_68_method_31_code 71 = .ok (.iload_n 1, 1) := by decide +kernel
theorem d_jdk_68_m31_72 : decode jdk_68_method_31_code 72 = .ok (.invokestatic 197, 3) := by decide +kernel
theorem d_jdk_68_m31_75 : decode jdk_68_method_31_code 75 = .ok (.aload_n 0, 1) := by decide +kernel
theorem d_jdk_68_m31_76 : decode jdk_68_method_31_code 76 = .ok (.areturn, 1) := by decide +kernel
set_option maxRecDepth 65536 in
set_option maxHeartbeats 40000000 in
theorem cAppC {l : Launch} {Z : State} {a0 : Array Value} (W : Wd Z a0) {EL : List (String × Nat)} {vm : Vm} {h : Heap} {u : Nat} {c_ : Int32} (U : UT Z) (hc : C16 c_) {b d : Addr} {kd : ClassId} {cap : Nat} {ds : List Int32} (B : Bd Z h b d kd u cap ds) (hl : ds.length + 1 ≤ 18) (Sb : Safe Z EL vm h b) (zb : Z.heap.size ≤ b) (Sd : Safe Z EL vm h d) (hz : Z.heap.size ≤ d) (nd : d ≠ b) :
    Ctr false l Z a0 EL (⟨"java/lang/AbstractStringBuilder", "append", "(C)Ljava/lang/AbstractStringBuilder;"⟩ : MethodName) jdk_68_method_31_code 2 (some (.object "java/lang/AbstractStringBuilder")) ({ frames := 6, cells := 2, slots := 160, locals := 89 } : Room) #[.ref b, .int c_] vm h (fun v vm' h' => ∃ d' kd' u' cap', v = some (.ref b) ∧ Keep h h' [b, d] ∧ Bd Z h' b d' kd' u' cap' (ds ++ [c_]) ∧ (d' = d ∨ h.size ≤ d') ∧ Safe Z EL vm' h' d') := by
  refine Ctr.of_go (L0 := #[.val (.ref b), .val (.int c_)]) (by first | exact plainFor_of_name (by first | (simp [plainName, overriddenIn]; done) | decide +kernel) | decide +kernel) (fun m => by first | (simp [entryFrame, mkF, argsToLocals, Value.category, maxLocals]; done) | rfl) (fun p e s m below meth c vmi chi => ?_)
  rcases B.u01 with rfl | rfl
  · refine Go.aload_n 1 d_jdk_68_m31_0 rfl rfl rfl ?_
    refine Go.aload_n 2 d_jdk_68_m31_1 rfl rfl rfl ?_
    refine Go.getfield 5 d_jdk_68_m31_2 rfl (W.1 102 rfl) B.ct ?_
    refine Go.iconst (1) 6 d_jdk_68_m31_5 rfl rfl ?_
    refine Go.iadd (Int32.ofNat (ds.length + 1)) 7 d_jdk_68_m31_6 rfl (ofNat_add' _ 1) ?_
    have f1 := CHr.safe chi B.e.lt Sb
    have L1 := Nat.lt_of_lt_of_le B.e.lt chi.2.1
    have f2 := CHr.safe chi B.ar.lt Sd
    have L2 := Nat.lt_of_lt_of_le B.ar.lt chi.2.1
    refine Go.invokevirtual (rest := []) 0 b [.int (Int32.ofNat (ds.length + 1))] 10 d_jdk_68_m31_7 rfl B.e (W.1 104 rfl) (declares_of (W.1 105 rfl) (W.1 108 rfl)) (fun s hs => notFace_of_selects (args := #[]) (mvT hs (W.1 107 rfl))) (W.1 107 rfl) (W.1 105 rfl) (W.1 58 rfl) (W.1 108 rfl) (by decide) (cEns0 W (n_ := ds.length + 1) hl B f1 zb f2 hz nd) (by decide +kernel : parseMethodDescriptor "(I)V" = some ⟨[.int], none⟩) rfl rfl rfl (nl rfl) (nl rfl) (nl rfl) (nl rfl) (nl rfl) (fun v3 vm3 h3 ⟨rv, K0, d1, kd1, cap1, hn1, B1, o1, S1_⟩ c3 => ?_)
    subst rv
    have hz1 : Z.heap.size ≤ d1 := o1.elim (fun q => by rw [q]; exact hz) (fun q => Nat.le_trans zb (Nat.le_trans (Nat.le_of_lt B.e.lt) q))
    have nd1 : d1 ≠ b := o1.elim (fun q => by rw [q]; exact nd) (fun q => (ne_of_new B.e.lt q).symm)
    refine Go.aload_n 11 d_jdk_68_m31_10 rfl rfl rfl ?_
    refine Go.invokevirtual (rest := []) 0 b [] 14 d_jdk_68_m31_11 rfl B1.e (W.1 226 rfl) (W.1 178 rfl) (fun s hs => notFace_of_selects (args := #[]) (mvT hs (W.1 180 rfl))) (W.1 180 rfl) (W.1 179 rfl) (W.1 58 rfl) (W.1 181 rfl) (by decide) (cIsB0 W B1) (by decide +kernel : parseMethodDescriptor "()Z" = some ⟨[], (some .boolean)⟩) rfl rfl rfl (nl rfl) (nl rfl) (nl rfl) (nl rfl) (nl rfl) (fun v4 vm4 h4 ⟨rv, hh⟩ c4 => ?_)
    subst rv; replace hh := hh.symm; subst hh
    refine Go.ifeq 45 17 d_jdk_68_m31_14 (by decide) rfl rfl (fun q5 => absurd q5 (by decide)) (fun q5 => ?_)
    refine Go.iload_n 18 d_jdk_68_m31_17 rfl rfl ?_
    refine Go.invokestatic (rest := []) 0 [.int c_] 21 d_jdk_68_m31_18 rfl (W.1 227 rfl) (W.1 228 rfl) (W.1 78 rfl) (W.1 229 rfl) (by decide) (cCanE W ) (by decide +kernel : parseMethodDescriptor "(C)Z" = some ⟨[.char], (some .boolean)⟩) rfl rfl rfl (nl rfl) (nl rfl) (nl rfl) (nl rfl) (nl rfl) (fun v6 vm6 h6 ⟨rv, hh⟩ c6 => ?_)
    subst rv; replace hh := hh.symm; subst hh
    by_cases g : (255 : Int32) < c_
    · refine Go.ifeq 45 24 d_jdk_68_m31_21 (by decide) rfl rfl (fun q7 => ?_) (fun q7 => (by rw [if_pos g] at q7; exact absurd rfl q7))
      refine Go.aload_n 46 d_jdk_68_m31_45 rfl rfl rfl ?_
      refine Go.invokevirtual (rest := []) 0 b [] 49 d_jdk_68_m31_46 rfl B1.e (W.1 226 rfl) (W.1 178 rfl) (fun s hs => notFace_of_selects (args := #[]) (mvT hs (W.1 180 rfl))) (W.1 180 rfl) (W.1 179 rfl) (W.1 58 rfl) (W.1 181 rfl) (by decide) (cIsB0 W B1) (by decide +kernel : parseMethodDescriptor "()Z" = some ⟨[], (some .boolean)⟩) rfl rfl rfl (nl rfl) (nl rfl) (nl rfl) (nl rfl) (nl rfl) (fun v8 vm8 h8 ⟨rv, hh⟩ c8 => ?_)
      subst rv; replace hh := hh.symm; subst hh
      refine Go.ifeq 56 52 d_jdk_68_m31_49 (by decide) rfl rfl (fun q9 => absurd q9 (by decide)) (fun q9 => ?_)
      refine Go.aload_n 53 d_jdk_68_m31_52 rfl rfl rfl ?_
      have f10 := CHr.safe (CHr.trans c3 (CHr.trans c4 (CHr.trans c6 c8))) L1 f1
      have L10 := Nat.lt_of_lt_of_le L1 (CHr.trans c3 (CHr.trans c4 (CHr.trans c6 c8))).2.1
      have f11 := CHr.safe (CHr.trans c4 (CHr.trans c6 c8)) B1.ar.lt S1_
      have L11 := Nat.lt_of_lt_of_le B1.ar.lt (CHr.trans c4 (CHr.trans c6 c8)).2.1
      refine Go.invokevirtual (rest := []) 0 b [] 56 d_jdk_68_m31_53 rfl B1.e (W.1 273 rfl) (declares_of (W.1 274 rfl) (W.1 277 rfl)) (fun s hs => notFace_of_selects (args := #[]) (mvT hs (W.1 276 rfl))) (W.1 276 rfl) (W.1 274 rfl) (W.1 58 rfl) (W.1 277 rfl) (by decide) (cInf0 W U B1 f10 zb f11 hz1 nd1) (by decide +kernel : parseMethodDescriptor "()V" = some ⟨[], none⟩) rfl rfl rfl (nl rfl) (nl rfl) (nl rfl) (nl rfl) (nl rfl) (fun v12 vm12 h12 ⟨rv, K2, d2, kd2, B2, hr2, S2_⟩ c12 => ?_)
      subst rv
      have o2 : d2 = d ∨ h.size ≤ d2 := Or.inr (Nat.le_trans K0.1 hr2)
      have nd2 : d2 ≠ b := (ne_of_new B1.e.lt hr2).symm
      have hz2 : Z.heap.size ≤ d2 := Nat.le_trans zb (Nat.le_trans (Nat.le_of_lt B1.e.lt) hr2)
      refine Go.aload_n 57 d_jdk_68_m31_56 rfl rfl rfl ?_
      refine Go.getfield 60 d_jdk_68_m31_57 rfl (W.1 62 rfl) B2.va ?_
      refine Go.aload_n 61 d_jdk_68_m31_60 rfl rfl rfl ?_
      refine Go.dup 62 d_jdk_68_m31_61 rfl rfl ?_
      refine Go.getfield 65 d_jdk_68_m31_62 rfl (W.1 102 rfl) B2.ct ?_
      refine Go.dup_x1 66 d_jdk_68_m31_65 rfl rfl rfl ?_
      refine Go.iconst (1) 67 d_jdk_68_m31_66 rfl rfl ?_
      refine Go.iadd (Int32.ofNat (ds.length + 1)) 68 d_jdk_68_m31_67 rfl (ofNat_add' _ 1) ?_
      have f13 := CHr.safe c12 L10 f10
      have L13 := Nat.lt_of_lt_of_le L10 c12.2.1
      refine Go.putfield 71 d_jdk_68_m31_68 rfl (W.1 102 rfl) B2.ct B2.e (Or.inl (W.1 103 rfl)) (W.1 39 rfl) (ty := .int) (by decide) rfl rfl f13 zb (fun h14 X14 S14 c14 => ?_)
      have Aw := Arv.other B2.a1 X14 nd2
      refine Go.iload_n 72 d_jdk_68_m31_71 rfl rfl ?_
      have f15 := CHr.safe c14 B2.ar.lt S2_
      have L15 := Nat.lt_of_lt_of_le B2.ar.lt c14.2.1
      refine Go.invokestatic (rest := []) 0 [.ref d2, .int (Int32.ofNat ds.length), .int c_] 75 d_jdk_68_m31_72 rfl (W.1 294 rfl) (W.1 295 rfl) (W.1 21 rfl) (W.1 296 rfl) (by decide) (cPcs W U Aw (by omega) (by have := B2.c40; omega) f15 hz2) (by decide +kernel : parseMethodDescriptor "([BII)V" = some ⟨[(.array .byte), .int, .int], none⟩) rfl rfl rfl (nl rfl) (nl rfl) (nl rfl) (nl rfl) (nl rfl) (fun v16 vm16 h16 ⟨rv, K5, A5⟩ c16 => ?_)
      subst rv
      have f17 := CHr.safe c16 L15 f15
      have L17 := Nat.lt_of_lt_of_le L15 c16.2.1
      refine Go.aload_n 76 d_jdk_68_m31_75 rfl rfl rfl ?_
      have nb5 : b ∉ [d2] := ninS (Ne.symm nd2) nin0
      have len : (ds ++ [c_]).length = ds.length + 1 := by simp
      have K9 : Keep h h16 [b, d] := ((((Keep.refl h [b, d]).trans K0 (fun x q => Or.inl (by cases List.mem_singleton.mp q; simp))).trans K2 (fun x q => Or.inl (by cases List.mem_singleton.mp q; simp))).wr X14 (Or.inl (by simp))).trans K5 (fun x q => by cases List.mem_singleton.mp q; exact o2.elim (fun q => Or.inl (by rw [q]; simp)) Or.inr)
      exact Go.areturn d_jdk_68_m31_76 rfl rfl rfl (nl rfl) (nl rfl) (fun vm' ch => ⟨d2, kd2, 1, cap1, rfl, K9, ⟨(B2.e.wr X14).keep K5, ((B2.co.other X14 (Or.inr (slot_ne (a0 := a0) (C := "java/lang/StringBuilder") (Or.inl (W.1 65 rfl)) (Or.inl (W.1 103 rfl)) (by decide) (t := .byte) (t' := .int) (by decide) (by decide)))).keep K5 nb5), ((B2.va.other X14 (Or.inr (slot_ne (a0 := a0) (C := "java/lang/StringBuilder") (Or.inl (W.1 63 rfl)) (Or.inl (W.1 103 rfl)) (by decide) (t := (.array .byte)) (t' := .int) (by decide) (by decide)))).keep K5 nb5), (by rw [len]; exact ((B2.ct.same X14).keep K5 nb5)), ((B2.my.other X14 (Or.inr (slot_ne (a0 := a0) (C := "java/lang/StringBuilder") (Or.inl (W.1 298 rfl)) (Or.inl (W.1 103 rfl)) (by decide) (t := .boolean) (t' := .int) (by decide) (by decide)))).keep K5 nb5), Arv.up1 A5, (B2.ex.wr X14).keep K5, ⟨B2.c40, (by rw [len]; exact hn1), Or.inr rfl⟩, fun c hc' => (List.mem_append.mp hc').elim (B2.ch c) (fun q => by cases List.mem_singleton.mp q; exact hc), (fun q => absurd q (by decide))⟩, o2, ch.safe A5.lt f17⟩)
    · refine Go.ifeq 45 24 d_jdk_68_m31_21 (by decide) rfl rfl (fun q18 => (by rw [if_neg g] at q18; exact absurd q18 (by decide))) (fun q18 => ?_)
      refine Go.aload_n 25 d_jdk_68_m31_24 rfl rfl rfl ?_
      refine Go.getfield 28 d_jdk_68_m31_25 rfl (W.1 62 rfl) B1.va ?_
      refine Go.aload_n 29 d_jdk_68_m31_28 rfl rfl rfl ?_
      refine Go.dup 30 d_jdk_68_m31_29 rfl rfl ?_
      refine Go.getfield 33 d_jdk_68_m31_30 rfl (W.1 102 rfl) B1.ct ?_
      refine Go.dup_x1 34 d_jdk_68_m31_33 rfl rfl rfl ?_
      refine Go.iconst (1) 35 d_jdk_68_m31_34 rfl rfl ?_
      refine Go.iadd (Int32.ofNat (ds.length + 1)) 36 d_jdk_68_m31_35 rfl (ofNat_add' _ 1) ?_
      have f19 := CHr.safe (CHr.trans c3 (CHr.trans c4 c6)) L1 f1
      have L19 := Nat.lt_of_lt_of_le L1 (CHr.trans c3 (CHr.trans c4 c6)).2.1
      refine Go.putfield 39 d_jdk_68_m31_36 rfl (W.1 102 rfl) B1.ct B1.e (Or.inl (W.1 103 rfl)) (W.1 39 rfl) (ty := .int) (by decide) rfl rfl f19 zb (fun h20 X20 S20 c20 => ?_)
      have Aw := (Arv.other B1.a0 X20 nd1).pad (pad_rep _ _ 1)
      have c41 := B1.c40
      refine Go.iload_n 40 d_jdk_68_m31_39 rfl rfl ?_
      refine Go.i2b (c_.toInt8.toInt32) 41 d_jdk_68_m31_40 rfl rfl ?_
      have f21 := CHr.safe (CHr.trans c4 (CHr.trans c6 c20)) B1.ar.lt S1_
      have L21 := Nat.lt_of_lt_of_le B1.ar.lt (CHr.trans c4 (CHr.trans c6 c20)).2.1
      refine Go.bastore (ds.length) (loB c_) (((ds ++ [c_]).map fun (c : Int32) => c.toInt8.toInt32).map Value.int) 42 d_jdk_68_m31_41 rfl Aw (posN_lt (by omega) (by omega)) (clampN (by omega)) (by simp) (idem8 c_) (set_b1 ds c_) f21 hz1 (fun hs22 Ks22 As22 Ss22 cs22 => ?_)
      refine Go.goto 75 d_jdk_68_m31_42 (by decide) rfl ?_
      refine Go.aload_n 76 d_jdk_68_m31_75 rfl rfl rfl ?_
      have nb5 : b ∉ [d1] := ninS (Ne.symm nd1) nin0
      have len : (ds ++ [c_]).length = ds.length + 1 := by simp
      have K9 : Keep h hs22 [b, d] := (((Keep.refl h [b, d]).trans K0 (fun x q => Or.inl (by cases List.mem_singleton.mp q; simp))).wr X20 (Or.inl (by simp))).trans Ks22 (fun x q => by cases List.mem_singleton.mp q; exact o1.elim (fun q => Or.inl (by rw [q]; simp)) Or.inr)
      exact Go.areturn d_jdk_68_m31_76 rfl rfl rfl (nl rfl) (nl rfl) (fun vm' ch => ⟨d1, kd1, 0, cap1, rfl, K9, ⟨(B1.e.wr X20).keep Ks22, ((B1.co.other X20 (Or.inr (slot_ne (a0 := a0) (C := "java/lang/StringBuilder") (Or.inl (W.1 65 rfl)) (Or.inl (W.1 103 rfl)) (by decide) (t := .byte) (t' := .int) (by decide) (by decide)))).keep Ks22 nb5), ((B1.va.other X20 (Or.inr (slot_ne (a0 := a0) (C := "java/lang/StringBuilder") (Or.inl (W.1 63 rfl)) (Or.inl (W.1 103 rfl)) (by decide) (t := (.array .byte)) (t' := .int) (by decide) (by decide)))).keep Ks22 nb5), (by rw [len]; exact ((B1.ct.same X20).keep Ks22 nb5)), ((B1.my.other X20 (Or.inr (slot_ne (a0 := a0) (C := "java/lang/StringBuilder") (Or.inl (W.1 298 rfl)) (Or.inl (W.1 103 rfl)) (by decide) (t := .boolean) (t' := .int) (by decide) (by decide)))).keep Ks22 nb5), Arv.up0 As22, (B1.ex.wr X20).keep Ks22, ⟨B1.c40, (by rw [len]; exact hn1), Or.inl rfl⟩, fun c hc' => (List.mem_append.mp hc').elim (B1.ch c) (fun q => by cases List.mem_singleton.mp q; exact hc), fun _ c hc' => (List.mem_append.mp hc').elim (B1.lat c) (fun q => by cases List.mem_singleton.mp q; exact g)⟩, o1, ch.safe As22.lt Ss22⟩)
  · refine Go.aload_n 1 d_jdk_68_m31_0 rfl rfl rfl ?_
    refine Go.aload_n 2 d_jdk_68_m31_1 rfl rfl rfl ?_
    refine Go.getfield 5 d_jdk_68_m31_2 rfl (W.1 102 rfl) B.ct ?_
    refine Go.iconst (1) 6 d_jdk_68_m31_5 rfl rfl ?_
    refine Go.iadd (Int32.ofNat (ds.length + 1)) 7 d_jdk_68_m31_6 rfl (ofNat_add' _ 1) ?_
    have f23 := CHr.safe chi B.e.lt Sb
    have L23 := Nat.lt_of_lt_of_le B.e.lt chi.2.1
    have f24 := CHr.safe chi B.ar.lt Sd
    have L24 := Nat.lt_of_lt_of_le B.ar.lt chi.2.1
    refine Go.invokevirtual (rest := []) 0 b [.int (Int32.ofNat (ds.length + 1))] 10 d_jdk_68_m31_7 rfl B.e (W.1 104 rfl) (declares_of (W.1 105 rfl) (W.1 108 rfl)) (fun s hs => notFace_of_selects (args := #[]) (mvT hs (W.1 107 rfl))) (W.1 107 rfl) (W.1 105 rfl) (W.1 58 rfl) (W.1 108 rfl) (by decide) (cEns1 W (n_ := ds.length + 1) hl B f23 zb f24 hz nd) (by decide +kernel : parseMethodDescriptor "(I)V" = some ⟨[.int], none⟩) rfl rfl rfl (nl rfl) (nl rfl) (nl rfl) (nl rfl) (nl rfl) (fun v25 vm25 h25 ⟨rv, K0, d1, kd1, cap1, hn1, B1, o1, S1_⟩ c25 => ?_)
    subst rv
    have hz1 : Z.heap.size ≤ d1 := o1.elim (fun q => by rw [q]; exact hz) (fun q => Nat.le_trans zb (Nat.le_trans (Nat.le_of_lt B.e.lt) q))
    have nd1 : d1 ≠ b := o1.elim (fun q => by rw [q]; exact nd) (fun q => (ne_of_new B.e.lt q).symm)
    refine Go.aload_n 11 d_jdk_68_m31_10 rfl rfl rfl ?_
    refine Go.invokevirtual (rest := []) 0 b [] 14 d_jdk_68_m31_11 rfl B1.e (W.1 226 rfl) (W.1 178 rfl) (fun s hs => notFace_of_selects (args := #[]) (mvT hs (W.1 180 rfl))) (W.1 180 rfl) (W.1 179 rfl) (W.1 58 rfl) (W.1 181 rfl) (by decide) (cIsB1 W B1) (by decide +kernel : parseMethodDescriptor "()Z" = some ⟨[], (some .boolean)⟩) rfl rfl rfl (nl rfl) (nl rfl) (nl rfl) (nl rfl) (nl rfl) (fun v26 vm26 h26 ⟨rv, hh⟩ c26 => ?_)
    subst rv; replace hh := hh.symm; subst hh
    refine Go.ifeq 45 17 d_jdk_68_m31_14 (by decide) rfl rfl (fun q27 => ?_) (fun q27 => absurd rfl q27)
    refine Go.aload_n 46 d_jdk_68_m31_45 rfl rfl rfl ?_
    refine Go.invokevirtual (rest := []) 0 b [] 49 d_jdk_68_m31_46 rfl B1.e (W.1 226 rfl) (W.1 178 rfl) (fun s hs => notFace_of_selects (args := #[]) (mvT hs (W.1 180 rfl))) (W.1 180 rfl) (W.1 179 rfl) (W.1 58 rfl) (W.1 181 rfl) (by decide) (cIsB1 W B1) (by decide +kernel : parseMethodDescriptor "()Z" = some ⟨[], (some .boolean)⟩) rfl rfl rfl (nl rfl) (nl rfl) (nl rfl) (nl rfl) (nl rfl) (fun v28 vm28 h28 ⟨rv, hh⟩ c28 => ?_)
    subst rv; replace hh := hh.symm; subst hh
    refine Go.ifeq 56 52 d_jdk_68_m31_49 (by decide) rfl rfl (fun q29 => ?_) (fun q29 => absurd rfl q29)
    refine Go.aload_n 57 d_jdk_68_m31_56 rfl rfl rfl ?_
    refine Go.getfield 60 d_jdk_68_m31_57 rfl (W.1 62 rfl) B1.va ?_
    refine Go.aload_n 61 d_jdk_68_m31_60 rfl rfl rfl ?_
    refine Go.dup 62 d_jdk_68_m31_61 rfl rfl ?_
    refine Go.getfield 65 d_jdk_68_m31_62 rfl (W.1 102 rfl) B1.ct ?_
    refine Go.dup_x1 66 d_jdk_68_m31_65 rfl rfl rfl ?_
    refine Go.iconst (1) 67 d_jdk_68_m31_66 rfl rfl ?_
    refine Go.iadd (Int32.ofNat (ds.length + 1)) 68 d_jdk_68_m31_67 rfl (ofNat_add' _ 1) ?_
    have f30 := CHr.safe (CHr.trans c25 (CHr.trans c26 c28)) L23 f23
    have L30 := Nat.lt_of_lt_of_le L23 (CHr.trans c25 (CHr.trans c26 c28)).2.1
    refine Go.putfield 71 d_jdk_68_m31_68 rfl (W.1 102 rfl) B1.ct B1.e (Or.inl (W.1 103 rfl)) (W.1 39 rfl) (ty := .int) (by decide) rfl rfl f30 zb (fun h31 X31 S31 c31 => ?_)
    have Aw := Arv.other B1.a1 X31 nd1
    refine Go.iload_n 72 d_jdk_68_m31_71 rfl rfl ?_
    have f32 := CHr.safe (CHr.trans c26 (CHr.trans c28 c31)) B1.ar.lt S1_
    have L32 := Nat.lt_of_lt_of_le B1.ar.lt (CHr.trans c26 (CHr.trans c28 c31)).2.1
    refine Go.invokestatic (rest := []) 0 [.ref d1, .int (Int32.ofNat ds.length), .int c_] 75 d_jdk_68_m31_72 rfl (W.1 294 rfl) (W.1 295 rfl) (W.1 21 rfl) (W.1 296 rfl) (by decide) (cPcs W U Aw (by omega) (by have := B1.c40; omega) f32 hz1) (by decide +kernel : parseMethodDescriptor "([BII)V" = some ⟨[(.array .byte), .int, .int], none⟩) rfl rfl rfl (nl rfl) (nl rfl) (nl rfl) (nl rfl) (nl rfl) (fun v33 vm33 h33 ⟨rv, K5, A5⟩ c33 => ?_)
    subst rv
    have f34 := CHr.safe c33 L32 f32
    have L34 := Nat.lt_of_lt_of_le L32 c33.2.1
    refine Go.aload_n 76 d_jdk_68_m31_75 rfl rfl rfl ?_
    have nb5 : b ∉ [d1] := ninS (Ne.symm nd1) nin0
    have len : (ds ++ [c_]).length = ds.length + 1 := by simp
    have K9 : Keep h h33 [b, d] := (((Keep.refl h [b, d]).trans K0 (fun x q => Or.inl (by cases List.mem_singleton.mp q; simp))).wr X31 (Or.inl (by simp))).trans K5 (fun x q => by cases List.mem_singleton.mp q; exact o1.elim (fun q => Or.inl (by rw [q]; simp)) Or.inr)
    exact Go.areturn d_jdk_68_m31_76 rfl rfl rfl (nl rfl) (nl rfl) (fun vm' ch => ⟨d1, kd1, 1, cap1, rfl, K9, ⟨(B1.e.wr X31).keep K5, ((B1.co.other X31 (Or.inr (slot_ne (a0 := a0) (C := "java/lang/StringBuilder") (Or.inl (W.1 65 rfl)) (Or.inl (W.1 103 rfl)) (by decide) (t := .byte) (t' := .int) (by decide) (by decide)))).keep K5 nb5), ((B1.va.other X31 (Or.inr (slot_ne (a0 := a0) (C := "java/lang/StringBuilder") (Or.inl (W.1 63 rfl)) (Or.inl (W.1 103 rfl)) (by decide) (t := (.array .byte)) (t' := .int) (by decide) (by decide)))).keep K5 nb5), (by rw [len]; exact ((B1.ct.same X31).keep K5 nb5)), ((B1.my.other X31 (Or.inr (slot_ne (a0 := a0) (C := "java/lang/StringBuilder") (Or.inl (W.1 298 rfl)) (Or.inl (W.1 103 rfl)) (by decide) (t := .boolean) (t' := .int) (by decide) (by decide)))).keep K5 nb5), Arv.up1 A5, (B1.ex.wr X31).keep K5, ⟨B1.c40, (by rw [len]; exact hn1), Or.inr rfl⟩, fun c hc' => (List.mem_append.mp hc').elim (B1.ch c) (fun q => by cases List.mem_singleton.mp q; exact hc), (fun q => absurd q (by decide))⟩, o1, ch.safe A5.lt f34⟩)
theorem d_jdk_67_m14_0 : decode jdk_67_method_14_code 0 = .ok (.aload_n 0, 1) := by decide +kernel
theorem d_jdk_67_m14_1 : decode jdk_67_method_14_code 1 = .ok (.iload_n 1, 1) := by decide +kernel
theorem d_jdk_67_m14_2 : decode jdk_67_method_14_code 2 = .ok (.invokespecial 50, 3) := by decide +kernel
theorem d_jdk_67_m14_5 : decode jdk_67_method_14_code 5 = .ok (.pop, 1) := by decide +kernel
theorem d_jdk_67_m14_6 : decode jdk_67_method_14_code 6 = .ok (.aload_n 0, 1) := by decide +kernel
theorem d_jdk_67_m14_7 : decode jdk_67_method_14_code 7 = .ok (.areturn, 1) := by decide +kernel
set_option maxRecDepth 65536 in
set_option maxHeartbeats 40000000 in
theorem cAppCS {l : Launch} {Z : State} {a0 : Array Value} (W : Wd Z a0) {EL : List (String × Nat)} {vm : Vm} {h : Heap} {u : Nat} {c_ : Int32} (U : UT Z) (hc : C16 c_) {b d : Addr} {kd : ClassId} {cap : Nat} {ds : List Int32} (B : Bd Z h b d kd u cap ds) (hl : ds.length + 1 ≤ 18) (Sb : Safe Z EL vm h b) (zb : Z.heap.size ≤ b) (Sd : Safe Z EL vm h d) (hz : Z.heap.size ≤ d) (nd : d ≠ b) :
    Ctr false l Z a0 EL (⟨"java/lang/StringBuilder", "append", "(C)Ljava/lang/StringBuilder;"⟩ : MethodName) jdk_67_method_14_code 2 (some (.object "java/lang/StringBuilder")) ({ frames := 7, cells := 2, slots := 160, locals := 102 } : Room) #[.ref b, .int c_] vm h (fun v vm' h' => ∃ d' kd' u' cap', v = some (.ref b) ∧ Keep h h' [b, d] ∧ Bd Z h' b d' kd' u' cap' (ds ++ [c_]) ∧ (d' = d ∨ h.size ≤ d') ∧ Safe Z EL vm' h' d') := by
  refine Ctr.of_go (L0 := #[.val (.ref b), .val (.int c_)]) (by first | exact plainFor_of_name (by first | (simp [plainName, overriddenIn]; done) | decide +kernel) | decide +kernel) (fun m => by first | (simp [entryFrame, mkF, argsToLocals, Value.category, maxLocals]; done) | rfl) (fun p e s m below meth c vmi chi => ?_)
  refine Go.aload_n 1 d_jdk_67_m14_0 rfl rfl rfl ?_
  refine Go.iload_n 2 d_jdk_67_m14_1 rfl rfl ?_
  refine Go.super (rest := []) 0 b [.int c_] 5 d_jdk_67_m14_2 rfl (by decide) (W.1 222 rfl) (same_of (W.1 223 rfl) (W.1 167 rfl) rfl (by decide)) (W.1 223 rfl) (W.1 98 rfl) (W.1 58 rfl) (W.1 225 rfl) (Ins.of_exa B.e (W.1 57 rfl)) (cAppC W U hc B hl (chi.safe B.e.lt Sb) zb (chi.safe B.ar.lt Sd) hz nd) (by decide +kernel : parseMethodDescriptor "(C)Ljava/lang/AbstractStringBuilder;" = some ⟨[.char], (some (.object "java/lang/AbstractStringBuilder"))⟩) rfl rfl rfl (nl rfl) (nl rfl) (nl rfl) (nl rfl) (nl rfl) (fun v1 vm1 h1 ⟨d1, kd1, u1, cap1, rv, K, B1, o1, S1_⟩ c1 => ?_)
  subst rv
  refine Go.pop 6 d_jdk_67_m14_5 rfl rfl ?_
  refine Go.aload_n 7 d_jdk_67_m14_6 rfl rfl rfl ?_
  exact Go.areturn d_jdk_67_m14_7 rfl rfl rfl (nl rfl) (nl rfl) (fun vm' ch => ⟨d1, kd1, u1, cap1, rfl, K, B1, o1, ch.safe B1.ar.lt S1_⟩)
theorem d_jdk_68_m64_0 : decode jdk_68_method_64_code 0 = .ok (.aload_n 0, 1) := by decide +kernel
theorem d_jdk_68_m64_1 : decode jdk_68_method_64_code 1 = .ok (.getfield 15, 3) := by decide +kernel
theorem d_jdk_68_m64_4 : decode jdk_68_method_64_code 4 = .ok (.areturn, 1) := by decide +kernel
set_option maxRecDepth 65536 in
set_option maxHeartbeats 40000000 in
theorem cGV {l : Launch} {Z : State} {a0 : Array Value} (W : Wd Z a0) {EL : List (String × Nat)} {vm : Vm} {h : Heap} {b d : Addr} {kd : ClassId} {u cap : Nat} {cs : List Int32} (B : Bd Z h b d kd u cap cs) :
    Ctr false l Z a0 EL (⟨"java/lang/AbstractStringBuilder", "getValue", "()[B"⟩ : MethodName) jdk_68_method_64_code 1 (some (.array .byte)) ({ frames := 0, cells := 0, slots := 0, locals := 0 } : Room) #[.ref b] vm h (fun v vm' h' => v = some (.ref d) ∧ h' = h) := by
  refine Ctr.of_go (L0 := #[.val (.ref b)]) (by first | exact plainFor_of_name (by first | (simp [plainName, overriddenIn]; done) | decide +kernel) | decide +kernel) (fun m => by first | (simp [entryFrame, mkF, argsToLocals, Value.category, maxLocals]; done) | rfl) (fun p e s m below meth c vmi chi => ?_)
  refine Go.aload_n 1 d_jdk_68_m64_0 rfl rfl rfl ?_
  refine Go.getfield 4 d_jdk_68_m64_1 rfl (W.1 62 rfl) B.va ?_
  exact Go.areturn d_jdk_68_m64_4 rfl rfl rfl (nl rfl) (nl rfl) (fun vm' ch => ⟨rfl, rfl⟩)
theorem d_jdk_68_m6_0 : decode jdk_68_method_6_code 0 = .ok (.aload_n 0, 1) := by decide +kernel
theorem d_jdk_68_m6_1 : decode jdk_68_method_6_code 1 = .ok (.getfield 79, 3) := by decide +kernel
theorem d_jdk_68_m6_4 : decode jdk_68_method_6_code 4 = .ok (.ireturn, 1) := by decide +kernel
set_option maxRecDepth 65536 in
set_option maxHeartbeats 40000000 in
theorem cLn {l : Launch} {Z : State} {a0 : Array Value} (W : Wd Z a0) {EL : List (String × Nat)} {vm : Vm} {h : Heap} {b d : Addr} {kd : ClassId} {u cap : Nat} {cs : List Int32} (B : Bd Z h b d kd u cap cs) :
    Ctr false l Z a0 EL (⟨"java/lang/AbstractStringBuilder", "length", "()I"⟩ : MethodName) jdk_68_method_6_code 1 (some .int) ({ frames := 0, cells := 0, slots := 0, locals := 0 } : Room) #[.ref b] vm h (fun v vm' h' => v = some (.int (Int32.ofNat cs.length)) ∧ h' = h) := by
  refine Ctr.of_go (L0 := #[.val (.ref b)]) (by first | exact plainFor_of_name (by first | (simp [plainName, overriddenIn]; done) | decide +kernel) | decide +kernel) (fun m => by first | (simp [entryFrame, mkF, argsToLocals, Value.category, maxLocals]; done) | rfl) (fun p e s m below meth c vmi chi => ?_)
  refine Go.aload_n 1 d_jdk_68_m6_0 rfl rfl rfl ?_
  refine Go.getfield 4 d_jdk_68_m6_1 rfl (W.1 102 rfl) B.ct ?_
  exact Go.ireturn d_jdk_68_m6_4 rfl rfl (by simp) (nl rfl) (nl rfl) (fun vm' ch => ⟨rfl, rfl⟩)
theorem d_jdk_67_m93_0 : decode jdk_67_method_93_code 0 = .ok (.aload_n 0, 1) := by decide +kernel
theorem d_jdk_67_m93_1 : decode jdk_67_method_93_code 1 = .ok (.invokespecial 343, 3) := by decide +kernel
theorem d_jdk_67_m93_4 : decode jdk_67_method_93_code 4 = .ok (.ireturn, 1) := by decide +kernel
set_option maxRecDepth 65536 in
set_option maxHeartbeats 40000000 in
theorem cLnS {l : Launch} {Z : State} {a0 : Array Value} (W : Wd Z a0) {EL : List (String × Nat)} {vm : Vm} {h : Heap} {b d : Addr} {kd : ClassId} {u cap : Nat} {cs : List Int32} (B : Bd Z h b d kd u cap cs) :
    Ctr false l Z a0 EL (⟨"java/lang/StringBuilder", "length", "()I"⟩ : MethodName) jdk_67_method_93_code 1 (some .int) ({ frames := 1, cells := 0, slots := 0, locals := 12 } : Room) #[.ref b] vm h (fun v vm' h' => v = some (.int (Int32.ofNat cs.length)) ∧ h' = h) := by
  refine Ctr.of_go (L0 := #[.val (.ref b)]) (by first | exact plainFor_of_name (by first | (simp [plainName, overriddenIn]; done) | decide +kernel) | decide +kernel) (fun m => by first | (simp [entryFrame, mkF, argsToLocals, Value.category, maxLocals]; done) | rfl) (fun p e s m below meth c vmi chi => ?_)
  refine Go.aload_n 1 d_jdk_67_m93_0 rfl rfl rfl ?_
  refine Go.super (rest := []) 0 b [] 4 d_jdk_67_m93_1 rfl (by decide) (W.1 175 rfl) (same_of (W.1 171 rfl) (W.1 167 rfl) rfl (by decide)) (W.1 171 rfl) (W.1 98 rfl) (W.1 58 rfl) (W.1 176 rfl) (Ins.of_exa B.e (W.1 57 rfl)) (cLn W B) (by decide +kernel : parseMethodDescriptor "()I" = some ⟨[], (some .int)⟩) rfl rfl rfl (nl rfl) (nl rfl) (nl rfl) (nl rfl) (nl rfl) (fun v1 vm1 h1 ⟨rv, hh⟩ c1 => ?_)
  subst rv; replace hh := hh.symm; subst hh
  exact Go.ireturn d_jdk_67_m93_4 rfl rfl (by simp) (nl rfl) (nl rfl) (fun vm' ch => ⟨rfl, rfl⟩)
theorem d_jdk_65_m131_0 : decode jdk_65_method_131_code 0 = .ok (.iload_n 1, 1) := by decide +kernel
theorem d_jdk_65_m131_1 : decode jdk_65_method_131_code 1 = .ok (.iload_n 0, 1) := by decide +kernel
theorem d_jdk_65_m131_2 : decode jdk_65_method_131_code 2 = .ok (.if_icmp .ge 35, 3) := by decide +kernel
theorem d_jdk_65_m131_5 : decode jdk_65_method_131_code 5 = .ok (.new 43, 3) := by decide +kernel
theorem d_jdk_65_m131_8 : decode jdk_65_method_131_code 8 = .ok (.dup, 1) := by decide +kernel
theorem d_jdk_65_m131_9 : decode jdk_65_method_131_code 9 = .ok (.new 45, 3) := by decide +kernel
theorem d_jdk_65_m131_12 : decode jdk_65_method_131_code 12 = .ok (.dup, 1) := by decide +kernel
theorem d_jdk_65_m131_13 : decode jdk_65_method_131_code 13 = .ok (.invokespecial 47, 3) := by decide +kernel
theorem d_jdk_65_m131_16 : decode jdk_65_method_131_code 16 = .ok (.iload_n 0, 1) := by decide +kernel
theorem d_jdk_65_m131_17 : decode jdk_65_method_131_code 17 = .ok (.invokevirtual 54, 3) := by decide +kernel
theorem d_jdk_65_m131_20 : decode jdk_65_method_131_code 20 = .ok (.ldc_w 337, 3) := by decide +kernel
theorem d_jdk_65_m131_23 : decode jdk_65_method_131_code 23 = .ok (.invokevirtual 50, 3) := by decide +kernel
theorem d_jdk_65_m131_26 : decode jdk_65_method_131_code 26 = .ok (.iload_n 1, 1) := by decide +kernel
theorem d_jdk_65_m131_27 : decode jdk_65_method_131_code 27 = .ok (.invokevirtual 54, 3) := by decide +kernel
theorem d_jdk_65_m131_30 : decode jdk_65_method_131_code 30 = .ok (.invokevirtual 61, 3) := by decide +kernel
theorem d_jdk_65_m131_33 : decode jdk_65_method_131_code 33 = .ok (.invokespecial 65, 3) := by decide +kernel
theorem d_jdk_65_m131_36 : decode jdk_65_method_131_code 36 = .ok (.athrow, 1) := by decide +kernel
theorem d_jdk_65_m131_37 : decode jdk_65_method_131_code 37 = .ok (.return_, 1) := by decide +kernel
set_option maxRecDepth 65536 in
set_option maxHeartbeats 40000000 in
theorem cChk {l : Launch} {Z : State} {a0 : Array Value} (W : Wd Z a0) {EL : List (String × Nat)} {vm : Vm} {h : Heap} {x_ : Int32} (q : ¬ x_ < 0) :
    Ctr false l Z a0 EL (⟨"java/util/Arrays", "checkLength", "(II)V"⟩ : MethodName) jdk_65_method_131_code 2 none ({ frames := 0, cells := 0, slots := 0, locals := 0 } : Room) #[.int (0 : Int32), .int x_] vm h (fun v vm' h' => v = none ∧ h' = h) := by
  refine Ctr.of_go (L0 := #[.val (.int (0 : Int32)), .val (.int x_)]) (by first | exact plainFor_of_name (by first | (simp [plainName, overriddenIn]; done) | decide +kernel) | decide +kernel) (fun m => by first | (simp [entryFrame, mkF, argsToLocals, Value.category, maxLocals]; done) | rfl) (fun p e s m below meth c vmi chi => ?_)
  refine Go.iload_n 1 d_jdk_65_m131_0 rfl rfl ?_
  refine Go.iload_n 2 d_jdk_65_m131_1 rfl rfl ?_
  refine Go.if_icmpge 37 5 d_jdk_65_m131_2 (by decide) rfl rfl (fun q9 => ?_) (fun q9 => absurd q9 q)
  exact Go.return_ d_jdk_65_m131_37 rfl (nl rfl) (nl rfl) (fun vm' ch => ⟨rfl, rfl⟩)
theorem d_jdk_65_m133_0 : decode jdk_65_method_133_code 0 = .ok (.iload_n 1, 1) := by decide +kernel
theorem d_jdk_65_m133_1 : decode jdk_65_method_133_code 1 = .ok (.iload_n 2, 1) := by decide +kernel
theorem d_jdk_65_m133_2 : decode jdk_65_method_133_code 2 = .ok (.invokestatic 343, 3) := by decide +kernel
theorem d_jdk_65_m133_5 : decode jdk_65_method_133_code 5 = .ok (.iload_n 2, 1) := by decide +kernel
theorem d_jdk_65_m133_6 : decode jdk_65_method_133_code 6 = .ok (.iload_n 1, 1) := by decide +kernel
theorem d_jdk_65_m133_7 : decode jdk_65_method_133_code 7 = .ok (.isub, 1) := by decide +kernel
theorem d_jdk_65_m133_8 : decode jdk_65_method_133_code 8 = .ok (.istore_n 3, 1) := by decide +kernel
theorem d_jdk_65_m133_9 : decode jdk_65_method_133_code 9 = .ok (.iload_n 3, 1) := by decide +kernel
theorem d_jdk_65_m133_10 : decode jdk_65_method_133_code 10 = .ok (.newarray .byte, 2) := by decide +kernel
theorem d_jdk_65_m133_12 : decode jdk_65_method_133_code 12 = .ok (.astore 4, 2) := by decide +kernel
theorem d_jdk_65_m133_14 : decode jdk_65_method_133_code 14 = .ok (.aload_n 0, 1) := by decide +kernel
theorem d_jdk_65_m133_15 : decode jdk_65_method_133_code 15 = .ok (.iload_n 1, 1) := by decide +kernel
theorem d_jdk_65_m133_16 : decode jdk_65_method_133_code 16 = .ok (.aload 4, 2) := by decide +kernel
theorem d_jdk_65_m133_18 : decode jdk_65_method_133_code 18 = .ok (.iconst 0, 1) := by decide +kernel
theorem d_jdk_65_m133_19 : decode jdk_65_method_133_code 19 = .ok (.aload_n 0, 1) := by decide +kernel
theorem d_jdk_65_m133_20 : decode jdk_65_method_133_code 20 = .ok (.arraylength, 1) := by decide +kernel
theorem d_jdk_65_m133_21 : decode jdk_65_method_133_code 21 = .ok (.iload_n 1, 1) := by decide +kernel
theorem d_jdk_65_m133_22 : decode jdk_65_method_133_code 22 = .ok (.isub, 1) := by decide +kernel
theorem d_jdk_65_m133_23 : decode jdk_65_method_133_code 23 = .ok (.iload_n 3, 1) := by decide +kernel
theorem d_jdk_65_m133_24 : decode jdk_65_method_133_code 24 = .ok (.invokestatic 304, 3) := by decide +kernel
theorem d_jdk_65_m133_27 : decode jdk_65_method_133_code 27 = .ok (.invokestatic 150, 3) := by decide +kernel
theorem d_jdk_65_m133_30 : decode jdk_65_method_133_code 30 = .ok (.aload 4, 2) := by decide +kernel
theorem d_jdk_65_m133_32 : decode jdk_65_method_133_code 32 = .ok (.areturn, 1) := by decide +kernel
set_option maxRecDepth 65536 in
set_option maxHeartbeats 40000000 in
theorem cCRB {l : Launch} {Z : State} {a0 : Array Value} (W : Wd Z a0) {EL : List (String × Nat)} {vm : Vm} {h : Heap} {d : Addr} {kd : ClassId} {n_ m_ : Nat} {vs : List Value} (hn : n_ < m_) (hc : m_ ≤ 80) (A : Arv Z h d kd .byte (Int32.ofNat m_) vs (.int 0)) :
    Ctr false l Z a0 EL (⟨"java/util/Arrays", "copyOfRangeByte", "([BII)[B"⟩ : MethodName) jdk_65_method_133_code 5 (some (.array .byte)) ({ frames := 1, cells := 1, slots := 80, locals := 18 } : Room) #[.ref d, .int (0 : Int32), .int (Int32.ofNat n_)] vm h (fun v vm' h' => ∃ r kr, v = some (.ref r) ∧ Ext h h' ∧ Arv Z h' r kr .byte (Int32.ofNat n_) vs (.int 0) ∧ h.size ≤ r) := by
  refine Ctr.of_go (L0 := #[.val (.ref d), .val (.int (0 : Int32)), .val (.int (Int32.ofNat n_)), .unset, .unset]) (by first | exact plainFor_of_name (by first | (simp [plainName, overriddenIn]; done) | decide +kernel) | decide +kernel) (fun m => by first | (simp [entryFrame, mkF, argsToLocals, Value.category, maxLocals]; done) | rfl) (fun p e s m below meth c vmi chi => ?_)
  refine Go.iload_n 1 d_jdk_65_m133_0 rfl rfl ?_
  refine Go.iload_n 2 d_jdk_65_m133_1 rfl rfl ?_
  refine Go.invokestatic (rest := []) 0 [.int (0 : Int32), .int (Int32.ofNat n_)] 5 d_jdk_65_m133_2 rfl (W.1 212 rfl) (W.1 213 rfl) (W.1 126 rfl) (W.1 214 rfl) (by decide) (cChk W (nneg (by omega))) (by decide +kernel : parseMethodDescriptor "(II)V" = some ⟨[.int, .int], none⟩) rfl rfl rfl (nl rfl) (nl rfl) (nl rfl) (nl rfl) (nl rfl) (fun v1 vm1 h1 ⟨rv, hh⟩ c1 => ?_)
  subst rv; replace hh := hh.symm; subst hh
  refine Go.iload_n 6 d_jdk_65_m133_5 rfl rfl ?_
  refine Go.iload_n 7 d_jdk_65_m133_6 rfl rfl ?_
  refine Go.isub (Int32.ofNat n_) 8 d_jdk_65_m133_7 rfl (Int32.sub_zero _) ?_
  refine Go.istore_n #[.val (.ref d), .val (.int (0 : Int32)), .val (.int (Int32.ofNat n_)), .val (.int (Int32.ofNat n_)), .unset] 9 d_jdk_65_m133_8 rfl rfl ?_
  refine Go.iload_n 10 d_jdk_65_m133_9 rfl rfl ?_
  refine Go.newarrayE (aty := .byte) (z := (Int32.ofNat n_)) (ad := "[B") (by decide +kernel) 80 12 d_jdk_65_m133_10 rfl (W.1 23 rfl) (nneg (by omega)) (by rw [clampN (by omega)]; omega) (by decide) (nl rfl) (nl rfl) (fun r1 h2 e2 E2 ⟨k2, B2, Y2⟩ S2 z2 c2 => ?_)
  refine Go.astore #[.val (.ref d), .val (.int (0 : Int32)), .val (.int (Int32.ofNat n_)), .val (.int (Int32.ofNat n_)), .val (.ref r1)] 14 d_jdk_65_m133_12 rfl rfl rfl ?_
  refine Go.aload_n 15 d_jdk_65_m133_14 rfl rfl rfl ?_
  refine Go.iload_n 16 d_jdk_65_m133_15 rfl rfl ?_
  refine Go.aload 18 d_jdk_65_m133_16 rfl rfl rfl ?_
  refine Go.iconst (0) 19 d_jdk_65_m133_18 rfl rfl ?_
  refine Go.aload_n 20 d_jdk_65_m133_19 rfl rfl rfl ?_
  have f3 := A.ext E2
  refine Go.arraylength 21 d_jdk_65_m133_20 rfl f3 ?_
  refine Go.iload_n 22 d_jdk_65_m133_21 rfl rfl ?_
  refine Go.isub (Int32.ofNat m_) 23 d_jdk_65_m133_22 rfl (Int32.sub_zero _) ?_
  refine Go.iload_n 24 d_jdk_65_m133_23 rfl rfl ?_
  refine Go.invokestatic (rest := [.int (0 : Int32), .ref r1, .int (0 : Int32), .ref d]) 4 [.int (Int32.ofNat m_), .int (Int32.ofNat n_)] 27 d_jdk_65_m133_24 rfl (W.1 128 rfl) (W.1 129 rfl) (W.1 120 rfl) (W.1 130 rfl) (by decide) (cMin W (r_ := Int32.ofNat n_) (if_pos ((ofNat_lt (by omega) (by omega)).mpr hn))) (by decide +kernel : parseMethodDescriptor "(II)I" = some ⟨[.int, .int], (some .int)⟩) rfl rfl rfl (nl rfl) (nl rfl) (nl rfl) (nl rfl) (nl rfl) (fun v4 vm4 h4 ⟨rv, hh⟩ c4 => ?_)
  subst rv; replace hh := hh.symm; subst hh
  have f5 := CHr.safe c4 B2.lt S2
  have L5 := Nat.lt_of_lt_of_le B2.lt c4.2.1
  refine Go.acopy 0 0 n_ vs 30 d_jdk_65_m133_27 rfl (W.1 131 rfl) (W.1 134 rfl) (W.1 132 rfl) (W.1 133 rfl) f3 B2 (by rw [clampN (by omega)]; omega) (by rw [clampN (by omega)]; omega) (cr_get (by omega)) rfl rfl (nl rfl) (nl rfl) f5 z2 (fun hc9 K9 A9 S9 cc9 => ?_)
  refine Go.aload 32 d_jdk_65_m133_30 rfl rfl rfl ?_
  exact Go.areturn d_jdk_65_m133_32 rfl rfl rfl (nl rfl) (nl rfl) (fun vm' ch => ⟨r1, k2, rfl, Ext.kp1 E2 K9 e2, A9, Nat.le_of_eq e2.symm⟩)
theorem d_jdk_65_m132_0 : decode jdk_65_method_132_code 0 = .ok (.iload_n 1, 1) := by decide +kernel
theorem d_jdk_65_m132_1 : decode jdk_65_method_132_code 1 = .ok (.ifCond .ne 9, 3) := by decide +kernel
theorem d_jdk_65_m132_4 : decode jdk_65_method_132_code 4 = .ok (.iload_n 2, 1) := by decide +kernel
theorem d_jdk_65_m132_5 : decode jdk_65_method_132_code 5 = .ok (.aload_n 0, 1) := by decide +kernel
theorem d_jdk_65_m132_6 : decode jdk_65_method_132_code 6 = .ok (.arraylength, 1) := by decide +kernel
theorem d_jdk_65_m132_7 : decode jdk_65_method_132_code 7 = .ok (.if_icmp .eq 10, 3) := by decide +kernel
theorem d_jdk_65_m132_10 : decode jdk_65_method_132_code 10 = .ok (.aload_n 0, 1) := by decide +kernel
theorem d_jdk_65_m132_11 : decode jdk_65_method_132_code 11 = .ok (.iload_n 1, 1) := by decide +kernel
theorem d_jdk_65_m132_12 : decode jdk_65_method_132_code 12 = .ok (.iload_n 2, 1) := by decide +kernel
theorem d_jdk_65_m132_13 : decode jdk_65_method_132_code 13 = .ok (.invokestatic 339, 3) := by decide +kernel
theorem d_jdk_65_m132_16 : decode jdk_65_method_132_code 16 = .ok (.areturn, 1) := by decide +kernel
theorem d_jdk_65_m132_17 : decode jdk_65_method_132_code 17 = .ok (.aload_n 0, 1) := by decide +kernel
theorem d_jdk_65_m132_18 : decode jdk_65_method_132_code 18 = .ok (.invokevirtual 310, 3) := by decide +kernel
theorem d_jdk_65_m132_21 : decode jdk_65_method_132_code 21 = .ok (.checkcast 311, 3) := by decide +kernel
theorem d_jdk_65_m132_24 : decode jdk_65_method_132_code 24 = .ok (.areturn, 1) := by decide +kernel
set_option maxRecDepth 65536 in
set_option maxHeartbeats 40000000 in
theorem cCR {l : Launch} {Z : State} {a0 : Array Value} (W : Wd Z a0) {EL : List (String × Nat)} {vm : Vm} {h : Heap} {d : Addr} {kd : ClassId} {n_ m_ : Nat} {vs : List Value} (hn : n_ ≤ m_) (hc : m_ ≤ 80) (A : Arv Z h d kd .byte (Int32.ofNat m_) vs (.int 0)) (Y : Exa Z h d "[B") :
    Ctr false l Z a0 EL (⟨"java/util/Arrays", "copyOfRange", "([BII)[B"⟩ : MethodName) jdk_65_method_132_code 3 (some (.array .byte)) ({ frames := 2, cells := 1, slots := 80, locals := 34 } : Room) #[.ref d, .int (0 : Int32), .int (Int32.ofNat n_)] vm h (fun v vm' h' => ∃ r kr, v = some (.ref r) ∧ Ext h h' ∧ Arv Z h' r kr .byte (Int32.ofNat n_) vs (.int 0) ∧ h.size ≤ r) := by
  refine Ctr.of_go (L0 := #[.val (.ref d), .val (.int (0 : Int32)), .val (.int (Int32.ofNat n_))]) (by first | exact plainFor_of_name (by first | (simp [plainName, overriddenIn]; done) | decide +kernel) | decide +kernel) (fun m => by first | (simp [entryFrame, mkF, argsToLocals, Value.category, maxLocals]; done) | rfl) (fun p e s m below meth c vmi chi => ?_)
  refine Go.iload_n 1 d_jdk_65_m132_0 rfl rfl ?_
  refine Go.ifne 10 4 d_jdk_65_m132_1 (by decide) rfl rfl (fun q1 => absurd rfl q1) (fun q1 => ?_)
  refine Go.iload_n 5 d_jdk_65_m132_4 rfl rfl ?_
  refine Go.aload_n 6 d_jdk_65_m132_5 rfl rfl rfl ?_
  refine Go.arraylength 7 d_jdk_65_m132_6 rfl A ?_
  by_cases hq : n_ = m_
  · refine Go.if_icmpeq 17 10 d_jdk_65_m132_7 (by decide) rfl rfl (fun q2 => ?_) (fun q2 => absurd (congrArg Int32.ofNat hq) q2)
    refine Go.aload_n 18 d_jdk_65_m132_17 rfl rfl rfl ?_
    refine Go.clone (ad := "[B") 0 80 21 d_jdk_65_m132_18 rfl (W.1 185 rfl) (W.1 186 rfl) (W.1 190 rfl) (W.1 188 rfl) (W.1 189 rfl) (W.1 191 rfl) A Y rfl rfl (nl rfl) (nl rfl) (nl rfl) (by rw [clampN (by omega)]; exact hc) (nl rfl) (nl rfl) (fun r1 hk ek Ek ⟨Ak, Yk⟩ Sk zk ck => ?_)
    refine Go.castY 24 d_jdk_65_m132_21 rfl (W.1 192 rfl) (Ins.self Yk) ?_
    exact Go.areturn d_jdk_65_m132_24 rfl rfl rfl (nl rfl) (nl rfl) (fun vm' ch => ⟨r1, kd, rfl, Ek, by rw [hq]; exact Ak, Nat.le_of_eq ek.symm⟩)
  · refine Go.if_icmpeq 17 10 d_jdk_65_m132_7 (by decide) rfl rfl (fun q3 => absurd ((ofNat_inj (by omega) (by omega)).mp q3) hq) (fun q3 => ?_)
    refine Go.aload_n 11 d_jdk_65_m132_10 rfl rfl rfl ?_
    refine Go.iload_n 12 d_jdk_65_m132_11 rfl rfl ?_
    refine Go.iload_n 13 d_jdk_65_m132_12 rfl rfl ?_
    refine Go.invokestatic (rest := []) 0 [.ref d, .int (0 : Int32), .int (Int32.ofNat n_)] 16 d_jdk_65_m132_13 rfl (W.1 209 rfl) (W.1 210 rfl) (W.1 126 rfl) (W.1 211 rfl) (by decide) (cCRB W (by omega) hc A) (by decide +kernel : parseMethodDescriptor "([BII)[B" = some ⟨[(.array .byte), .int, .int], (some (.array .byte))⟩) rfl rfl rfl (nl rfl) (nl rfl) (nl rfl) (nl rfl) (nl rfl) (fun v4 vm4 h4 ⟨r, kr, rv, E, A1, hr⟩ c4 => ?_)
    subst rv
    exact Go.areturn d_jdk_65_m132_16 rfl rfl rfl (nl rfl) (nl rfl) (fun vm' ch => ⟨r, kr, rfl, E, A1, hr⟩)
theorem d_jdk_42_m150_0 : decode jdk_42_method_150_code 0 = .ok (.aload_n 0, 1) := by decide +kernel
theorem d_jdk_42_m150_1 : decode jdk_42_method_150_code 1 = .ok (.invokespecial 1, 3) := by decide +kernel
theorem d_jdk_42_m150_4 : decode jdk_42_method_150_code 4 = .ok (.aload_n 1, 1) := by decide +kernel
theorem d_jdk_42_m150_5 : decode jdk_42_method_150_code 5 = .ok (.invokevirtual 552, 3) := by decide +kernel
theorem d_jdk_42_m150_8 : decode jdk_42_method_150_code 8 = .ok (.astore_n 3, 1) := by decide +kernel
theorem d_jdk_42_m150_9 : decode jdk_42_method_150_code 9 = .ok (.aload_n 1, 1) := by decide +kernel
theorem d_jdk_42_m150_10 : decode jdk_42_method_150_code 10 = .ok (.invokevirtual 549, 3) := by decide +kernel
theorem d_jdk_42_m150_13 : decode jdk_42_method_150_code 13 = .ok (.istore 4, 2) := by decide +kernel
theorem d_jdk_42_m150_15 : decode jdk_42_method_150_code 15 = .ok (.aload_n 1, 1) := by decide +kernel
theorem d_jdk_42_m150_16 : decode jdk_42_method_150_code 16 = .ok (.invokevirtual 1047, 3) := by decide +kernel
theorem d_jdk_42_m150_19 : decode jdk_42_method_150_code 19 = .ok (.ifCond .eq 22, 3) := by decide +kernel
theorem d_jdk_42_m150_22 : decode jdk_42_method_150_code 22 = .ok (.aload_n 0, 1) := by decide +kernel
theorem d_jdk_42_m150_23 : decode jdk_42_method_150_code 23 = .ok (.iconst 0, 1) := by decide +kernel
theorem d_jdk_42_m150_24 : decode jdk_42_method_150_code 24 = .ok (.putfield 15, 3) := by decide +kernel
theorem d_jdk_42_m150_27 : decode jdk_42_method_150_code 27 = .ok (.aload_n 0, 1) := by decide +kernel
theorem d_jdk_42_m150_28 : decode jdk_42_method_150_code 28 = .ok (.aload_n 3, 1) := by decide +kernel
theorem d_jdk_42_m150_29 : decode jdk_42_method_150_code 29 = .ok (.iconst 0, 1) := by decide +kernel
theorem d_jdk_42_m150_30 : decode jdk_42_method_150_code 30 = .ok (.iload 4, 2) := by decide +kernel
theorem d_jdk_42_m150_32 : decode jdk_42_method_150_code 32 = .ok (.invokestatic 54, 3) := by decide +kernel
theorem d_jdk_42_m150_35 : decode jdk_42_method_150_code 35 = .ok (.putfield 9, 3) := by decide +kernel
theorem d_jdk_42_m150_38 : decode jdk_42_method_150_code 38 = .ok (.goto 59, 3) := by decide +kernel
theorem d_jdk_42_m150_41 : decode jdk_42_method_150_code 41 = .ok (.getstatic 38, 3) := by decide +kernel
theorem d_jdk_42_m150_44 : decode jdk_42_method_150_code 44 = .ok (.ifCond .eq 35, 3) := by decide +kernel
theorem d_jdk_42_m150_47 : decode jdk_42_method_150_code 47 = .ok (.aload_n 1, 1) := by decide +kernel
theorem d_jdk_42_m150_48 : decode jdk_42_method_150_code 48 = .ok (.getfield 1048, 3) := by decide +kernel
theorem d_jdk_42_m150_51 : decode jdk_42_method_150_code 51 = .ok (.ifCond .eq 28, 3) := by decide +kernel
theorem d_jdk_42_m150_54 : decode jdk_42_method_150_code 54 = .ok (.aload_n 0, 1) := by decide +kernel
theorem d_jdk_42_m150_55 : decode jdk_42_method_150_code 55 = .ok (.aload_n 3, 1) := by decide +kernel
theorem d_jdk_42_m150_56 : decode jdk_42_method_150_code 56 = .ok (.iconst 0, 1) := by decide +kernel
theorem d_jdk_42_m150_57 : decode jdk_42_method_150_code 57 = .ok (.iload 4, 2) := by decide +kernel
theorem d_jdk_42_m150_59 : decode jdk_42_method_150_code 59 = .ok (.invokestatic 1051, 3) := by decide +kernel
theorem d_jdk_42_m150_62 : decode jdk_42_method_150_code 62 = .ok (.putfield 9, 3) := by decide +kernel
theorem d_jdk_42_m150_65 : decode jdk_42_method_150_code 65 = .ok (.aload_n 0, 1) := by decide +kernel
theorem d_jdk_42_m150_66 : decode jdk_42_method_150_code 66 = .ok (.aload_n 0, 1) := by decide +kernel
theorem d_jdk_42_m150_67 : decode jdk_42_method_150_code 67 = .ok (.getfield 9, 3) := by decide +kernel
theorem d_jdk_42_m150_70 : decode jdk_42_method_150_code 70 = .ok (.iload 4, 2) := by decide +kernel
theorem d_jdk_42_m150_72 : decode jdk_42_method_150_code 72 = .ok (.invokestatic 47, 3) := by decide +kernel
theorem d_jdk_42_m150_75 : decode jdk_42_method_150_code 75 = .ok (.putfield 15, 3) := by decide +kernel
theorem d_jdk_42_m150_78 : decode jdk_42_method_150_code 78 = .ok (.return_, 1) := by decide +kernel
theorem d_jdk_42_m150_79 : decode jdk_42_method_150_code 79 = .ok (.aload_n 0, 1) := by decide +kernel
theorem d_jdk_42_m150_80 : decode jdk_42_method_150_code 80 = .ok (.iconst 1, 1) := by decide +kernel
theorem d_jdk_42_m150_81 : decode jdk_42_method_150_code 81 = .ok (.putfield 15, 3) := by decide +kernel
theorem d_jdk_42_m150_84 : decode jdk_42_method_150_code 84 = .ok (.aload_n 0, 1) := by decide +kernel
theorem d_jdk_42_m150_85 : decode jdk_42_method_150_code 85 = .ok (.aload_n 3, 1) := by decide +kernel
theorem d_jdk_42_m150_86 : decode jdk_42_method_150_code 86 = .ok (.iconst 0, 1) := by decide +kernel
theorem d_jdk_42_m150_87 : decode jdk_42_method_150_code 87 = .ok (.iload 4, 2) := by decide +kernel
theorem d_jdk_42_m150_89 : decode jdk_42_method_150_code 89 = .ok (.iconst 1, 1) := by decide +kernel
theorem d_jdk_42_m150_90 : decode jdk_42_method_150_code 90 = .ok (.ishl, 1) := by decide +kernel
theorem d_jdk_42_m150_91 : decode jdk_42_method_150_code 91 = .ok (.invokestatic 54, 3) := by decide +kernel
theorem d_jdk_42_m150_94 : decode jdk_42_method_150_code 94 = .ok (.putfield 9, 3) := by decide +kernel
theorem d_jdk_42_m150_97 : decode jdk_42_method_150_code 97 = .ok (.return_, 1) := by decide +kernel
set_option maxRecDepth 65536 in
set_option maxHeartbeats 40000000 in
theorem cSI2 {l : Launch} {Z : State} {a0 : Array Value} (W : Wd Z a0) {EL : List (String × Nat)} {vm : Vm} {h : Heap} {a : Addr} {v0 c0 : Value} (E : Exa Z h a "java/lang/String") (F1 : Fld Z h a "java/lang/String" "value" "[B" (v0)) (F2 : Fld Z h a "java/lang/String" "coder" "B" (c0)) (Sa : Safe Z EL vm h a) (hz : Z.heap.size ≤ a) {b d : Addr} {kd : ClassId} {u cap : Nat} {cs : List Int32} (B : Bd Z h b d kd u cap cs) (na : d ≠ a) :
    Ctr false l Z a0 EL (⟨"java/lang/String", "<init>", "(Ljava/lang/AbstractStringBuilder;Ljava/lang/Void;)V"⟩ : MethodName) jdk_42_method_150_code 5 none ({ frames := 3, cells := 1, slots := 80, locals := 49 } : Room) #[.ref a, .ref b, .null] vm h (fun v vm' h' => v = none ∧ Keep h h' [a] ∧ StrU Z h' a cs) := by
  refine Ctr.of_go (L0 := #[.val (.ref a), .val (.ref b), .val (.null), .unset, .unset]) (by first | exact plainFor_of_name (by first | (simp [plainName, overriddenIn]; done) | decide +kernel) | decide +kernel) (fun m => by first | (simp [entryFrame, mkF, argsToLocals, Value.category, maxLocals]; done) | rfl) (fun p e s m below meth c vmi chi => ?_)
  have c40 := B.c40
  have cle := B.le
  rcases B.u01 with rfl | rfl
  · refine Go.aload_n 1 d_jdk_42_m150_0 rfl rfl rfl ?_
    refine Go.initObject 0 4 d_jdk_42_m150_1 rfl (W.1 15 rfl) (W.1 16 rfl) (W.1 17 rfl) rfl (nl rfl) (nl rfl) (nl rfl) ?_
    refine Go.aload_n 5 d_jdk_42_m150_4 rfl rfl rfl ?_
    refine Go.invokevirtual (rest := []) 0 b [] 8 d_jdk_42_m150_5 rfl B.e (W.1 164 rfl) (W.1 165 rfl) (fun s hs => notFace_of_selects (args := #[]) (mvT hs (W.1 167 rfl))) (W.1 167 rfl) (W.1 166 rfl) (W.1 58 rfl) (W.1 168 rfl) (by decide) (cGV W B) (by decide +kernel : parseMethodDescriptor "()[B" = some ⟨[], (some (.array .byte))⟩) rfl rfl rfl (nl rfl) (nl rfl) (nl rfl) (nl rfl) (nl rfl) (fun v1 vm1 h1 ⟨rv, hh⟩ c1 => ?_)
    subst rv; replace hh := hh.symm; subst hh
    refine Go.astore_n #[.val (.ref a), .val (.ref b), .val (.null), .val (.ref d), .unset] 9 d_jdk_42_m150_8 rfl rfl rfl ?_
    refine Go.aload_n 10 d_jdk_42_m150_9 rfl rfl rfl ?_
    refine Go.invokevirtual (rest := []) 0 b [] 13 d_jdk_42_m150_10 rfl B.e (W.1 169 rfl) (W.1 170 rfl) (fun s hs => notFaceC (args := #[]) (x := ⟨"java/lang/AbstractStringBuilder", "length", "()I"⟩) (mvT hs (W.1 167 rfl)) rfl) (W.1 172 rfl) (W.1 173 rfl) (W.1 40 rfl) (W.1 174 rfl) (by decide) (cLnS W B) (by decide +kernel : parseMethodDescriptor "()I" = some ⟨[], (some .int)⟩) rfl rfl rfl (nl rfl) (nl rfl) (nl rfl) (nl rfl) (nl rfl) (fun v2 vm2 h2 ⟨rv, hh⟩ c2 => ?_)
    subst rv; replace hh := hh.symm; subst hh
    refine Go.istore #[.val (.ref a), .val (.ref b), .val (.null), .val (.ref d), .val (.int (Int32.ofNat cs.length))] 15 d_jdk_42_m150_13 rfl rfl ?_
    refine Go.aload_n 16 d_jdk_42_m150_15 rfl rfl rfl ?_
    refine Go.invokevirtual (rest := []) 0 b [] 19 d_jdk_42_m150_16 rfl B.e (W.1 177 rfl) (W.1 178 rfl) (fun s hs => notFace_of_selects (args := #[]) (mvT hs (W.1 180 rfl))) (W.1 180 rfl) (W.1 179 rfl) (W.1 58 rfl) (W.1 181 rfl) (by decide) (cIsB0 W B) (by decide +kernel : parseMethodDescriptor "()Z" = some ⟨[], (some .boolean)⟩) rfl rfl rfl (nl rfl) (nl rfl) (nl rfl) (nl rfl) (nl rfl) (fun v3 vm3 h3 ⟨rv, hh⟩ c3 => ?_)
    subst rv; replace hh := hh.symm; subst hh
    refine Go.ifeq 41 22 d_jdk_42_m150_19 (by decide) rfl rfl (fun q4 => absurd q4 (by decide)) (fun q4 => ?_)
    refine Go.aload_n 23 d_jdk_42_m150_22 rfl rfl rfl ?_
    refine Go.iconst (0) 24 d_jdk_42_m150_23 rfl rfl ?_
    have f5 := CHr.safe (CHr.trans chi (CHr.trans c1 (CHr.trans c2 c3))) E.lt Sa
    have L5 := Nat.lt_of_lt_of_le E.lt (CHr.trans chi (CHr.trans c1 (CHr.trans c2 c3))).2.1
    refine Go.putfield 27 d_jdk_42_m150_24 rfl (W.1 30 rfl) F2 E (Or.inr ⟨(W.1 31 rfl), rfl, rfl⟩) (W.1 5 rfl) (ty := .byte) (by decide) rfl rfl f5 hz (fun h6 X6 S6 c6 => ?_)
    have Ea := E.wr X6
    have G2 := F2.same X6
    have G1 := F1.other X6 (Or.inr (slot_ne (a0 := a0) (C := "java/lang/String") (Or.inr (W.1 33 rfl)) (Or.inr (W.1 31 rfl)) (by decide) (t := (.array .byte)) (t' := .byte) (by decide) (by decide)))
    have A1 := Arv.other B.a0 X6 na
    refine Go.aload_n 28 d_jdk_42_m150_27 rfl rfl rfl ?_
    refine Go.aload_n 29 d_jdk_42_m150_28 rfl rfl rfl ?_
    refine Go.iconst (0) 30 d_jdk_42_m150_29 rfl rfl ?_
    refine Go.iload 32 d_jdk_42_m150_30 rfl rfl ?_
    refine Go.invokestatic (rest := [.ref a]) 1 [.ref d, .int (0 : Int32), .int (Int32.ofNat cs.length)] 35 d_jdk_42_m150_32 rfl (W.1 182 rfl) (W.1 183 rfl) (W.1 126 rfl) (W.1 184 rfl) (by decide) (cCR W cle (by omega) A1 (B.ex.wr X6)) (by decide +kernel : parseMethodDescriptor "([BII)[B" = some ⟨[(.array .byte), .int, .int], (some (.array .byte))⟩) rfl rfl rfl (nl rfl) (nl rfl) (nl rfl) (nl rfl) (nl rfl) (fun v7 vm7 h7 ⟨r, kr, rv, E1, A2, hr⟩ c7 => ?_)
    subst rv
    have f8 := CHr.safe c7 Ea.lt S6
    have L8 := Nat.lt_of_lt_of_le Ea.lt c7.2.1
    refine Go.putfield 38 d_jdk_42_m150_35 rfl (W.1 32 rfl) (G1.ext E1) (Ea.ext E1) (Or.inr ⟨(W.1 33 rfl), rfl, rfl⟩) (W.1 5 rfl) (ty := (.array .byte)) (by decide) rfl rfl f8 hz (fun h9 X9 S9 c9 => ?_)
    refine Go.goto 97 d_jdk_42_m150_38 (by decide) rfl ?_
    have nr : r ≠ a := fun q => absurd Ea.lt (by rw [← q]; exact Nat.not_lt.mpr hr)
    exact Go.return_ d_jdk_42_m150_97 rfl (nl rfl) (nl rfl) (fun vm' ch => ⟨rfl, ((Keep.of_wr X6).ext E1).wr X9 (Or.inl (by simp)), Or.inl ⟨r, kr, (Ea.ext E1).wr X9, (G2.ext E1).other X9 (Or.inr (slot_ne (a0 := a0) (C := "java/lang/String") (Or.inr (W.1 31 rfl)) (Or.inr (W.1 33 rfl)) (by decide) (t := .byte) (t' := (.array .byte)) (by decide) (by decide))), (G1.ext E1).same X9, Arv.other A2 X9 nr, (by omega), B.l2⟩⟩)
  · refine Go.aload_n 1 d_jdk_42_m150_0 rfl rfl rfl ?_
    refine Go.initObject 0 4 d_jdk_42_m150_1 rfl (W.1 15 rfl) (W.1 16 rfl) (W.1 17 rfl) rfl (nl rfl) (nl rfl) (nl rfl) ?_
    refine Go.aload_n 5 d_jdk_42_m150_4 rfl rfl rfl ?_
    refine Go.invokevirtual (rest := []) 0 b [] 8 d_jdk_42_m150_5 rfl B.e (W.1 164 rfl) (W.1 165 rfl) (fun s hs => notFace_of_selects (args := #[]) (mvT hs (W.1 167 rfl))) (W.1 167 rfl) (W.1 166 rfl) (W.1 58 rfl) (W.1 168 rfl) (by decide) (cGV W B) (by decide +kernel : parseMethodDescriptor "()[B" = some ⟨[], (some (.array .byte))⟩) rfl rfl rfl (nl rfl) (nl rfl) (nl rfl) (nl rfl) (nl rfl) (fun v10 vm10 h10 ⟨rv, hh⟩ c10 => ?_)
    subst rv; replace hh := hh.symm; subst hh
    refine Go.astore_n #[.val (.ref a), .val (.ref b), .val (.null), .val (.ref d), .unset] 9 d_jdk_42_m150_8 rfl rfl rfl ?_
    refine Go.aload_n 10 d_jdk_42_m150_9 rfl rfl rfl ?_
    refine Go.invokevirtual (rest := []) 0 b [] 13 d_jdk_42_m150_10 rfl B.e (W.1 169 rfl) (W.1 170 rfl) (fun s hs => notFaceC (args := #[]) (x := ⟨"java/lang/AbstractStringBuilder", "length", "()I"⟩) (mvT hs (W.1 167 rfl)) rfl) (W.1 172 rfl) (W.1 173 rfl) (W.1 40 rfl) (W.1 174 rfl) (by decide) (cLnS W B) (by decide +kernel : parseMethodDescriptor "()I" = some ⟨[], (some .int)⟩) rfl rfl rfl (nl rfl) (nl rfl) (nl rfl) (nl rfl) (nl rfl) (fun v11 vm11 h11 ⟨rv, hh⟩ c11 => ?_)
    subst rv; replace hh := hh.symm; subst hh
    refine Go.istore #[.val (.ref a), .val (.ref b), .val (.null), .val (.ref d), .val (.int (Int32.ofNat cs.length))] 15 d_jdk_42_m150_13 rfl rfl ?_
    refine Go.aload_n 16 d_jdk_42_m150_15 rfl rfl rfl ?_
    refine Go.invokevirtual (rest := []) 0 b [] 19 d_jdk_42_m150_16 rfl B.e (W.1 177 rfl) (W.1 178 rfl) (fun s hs => notFace_of_selects (args := #[]) (mvT hs (W.1 180 rfl))) (W.1 180 rfl) (W.1 179 rfl) (W.1 58 rfl) (W.1 181 rfl) (by decide) (cIsB1 W B) (by decide +kernel : parseMethodDescriptor "()Z" = some ⟨[], (some .boolean)⟩) rfl rfl rfl (nl rfl) (nl rfl) (nl rfl) (nl rfl) (nl rfl) (fun v12 vm12 h12 ⟨rv, hh⟩ c12 => ?_)
    subst rv; replace hh := hh.symm; subst hh
    refine Go.ifeq 41 22 d_jdk_42_m150_19 (by decide) rfl rfl (fun q13 => ?_) (fun q13 => absurd rfl q13)
    refine Go.know fun hE7 _ _ => ?_
    obtain ⟨zc7, Cz7, hc7⟩ := W.2.1
    refine Go.getstatic 44 d_jdk_42_m150_41 rfl (W.1 18 rfl) (Cz7.ext hE7) ?_
    refine Go.ifeq 79 47 d_jdk_42_m150_44 (by decide) rfl rfl (fun q14 => absurd q14 hc7) (fun q14 => ?_)
    refine Go.aload_n 48 d_jdk_42_m150_47 rfl rfl rfl ?_
    refine Go.getfield 51 d_jdk_42_m150_48 rfl (W.1 297 rfl) B.my ?_
    refine Go.ifeq 79 54 d_jdk_42_m150_51 (by decide) rfl rfl (fun q15 => ?_) (fun q15 => absurd rfl q15)
    refine Go.aload_n 80 d_jdk_42_m150_79 rfl rfl rfl ?_
    refine Go.iconst (1) 81 d_jdk_42_m150_80 rfl rfl ?_
    have f16 := CHr.safe (CHr.trans chi (CHr.trans c10 (CHr.trans c11 c12))) E.lt Sa
    have L16 := Nat.lt_of_lt_of_le E.lt (CHr.trans chi (CHr.trans c10 (CHr.trans c11 c12))).2.1
    refine Go.putfield 84 d_jdk_42_m150_81 rfl (W.1 30 rfl) F2 E (Or.inr ⟨(W.1 31 rfl), rfl, rfl⟩) (W.1 5 rfl) (ty := .byte) (by decide) rfl rfl f16 hz (fun h17 X17 S17 c17 => ?_)
    have Ea := E.wr X17
    have G2 := F2.same X17
    have G1 := F1.other X17 (Or.inr (slot_ne (a0 := a0) (C := "java/lang/String") (Or.inr (W.1 33 rfl)) (Or.inr (W.1 31 rfl)) (by decide) (t := (.array .byte)) (t' := .byte) (by decide) (by decide)))
    have A1 := Arv.other B.a1 X17 na
    refine Go.aload_n 85 d_jdk_42_m150_84 rfl rfl rfl ?_
    refine Go.aload_n 86 d_jdk_42_m150_85 rfl rfl rfl ?_
    refine Go.iconst (0) 87 d_jdk_42_m150_86 rfl rfl ?_
    refine Go.iload 89 d_jdk_42_m150_87 rfl rfl ?_
    refine Go.iconst (1) 90 d_jdk_42_m150_89 rfl rfl ?_
    refine Go.ishl (Int32.ofNat (2 * cs.length)) 91 d_jdk_42_m150_90 rfl (shl1N (by omega)) ?_
    refine Go.invokestatic (rest := [.ref a]) 1 [.ref d, .int (0 : Int32), .int (Int32.ofNat (2 * cs.length))] 94 d_jdk_42_m150_91 rfl (W.1 182 rfl) (W.1 183 rfl) (W.1 126 rfl) (W.1 184 rfl) (by decide) (cCR W (n_ := 2 * cs.length) (by omega) (by omega) A1 (B.ex.wr X17)) (by decide +kernel : parseMethodDescriptor "([BII)[B" = some ⟨[(.array .byte), .int, .int], (some (.array .byte))⟩) rfl rfl rfl (nl rfl) (nl rfl) (nl rfl) (nl rfl) (nl rfl) (fun v18 vm18 h18 ⟨r, kr, rv, E1, A2, hr⟩ c18 => ?_)
    subst rv
    have f19 := CHr.safe c18 Ea.lt S17
    have L19 := Nat.lt_of_lt_of_le Ea.lt c18.2.1
    refine Go.putfield 97 d_jdk_42_m150_94 rfl (W.1 32 rfl) (G1.ext E1) (Ea.ext E1) (Or.inr ⟨(W.1 33 rfl), rfl, rfl⟩) (W.1 5 rfl) (ty := (.array .byte)) (by decide) rfl rfl f19 hz (fun h20 X20 S20 c20 => ?_)
    have nr : r ≠ a := fun q => absurd Ea.lt (by rw [← q]; exact Nat.not_lt.mpr hr)
    exact Go.return_ d_jdk_42_m150_97 rfl (nl rfl) (nl rfl) (fun vm' ch => ⟨rfl, ((Keep.of_wr X17).ext E1).wr X20 (Or.inl (by simp)), Or.inr ⟨r, kr, (Ea.ext E1).wr X20, (G2.ext E1).other X20 (Or.inr (slot_ne (a0 := a0) (C := "java/lang/String") (Or.inr (W.1 31 rfl)) (Or.inr (W.1 33 rfl)) (by decide) (t := .byte) (t' := (.array .byte)) (by decide) (by decide))), (G1.ext E1).same X20, Arv.other A2 X20 nr, (by omega), B.ch⟩⟩)
theorem d_jdk_42_m53_0 : decode jdk_42_method_53_code 0 = .ok (.aload_n 0, 1) := by decide +kernel
theorem d_jdk_42_m53_1 : decode jdk_42_method_53_code 1 = .ok (.aload_n 1, 1) := by decide +kernel
theorem d_jdk_42_m53_2 : decode jdk_42_method_53_code 2 = .ok (.aconst_null, 1) := by decide +kernel
theorem d_jdk_42_m53_3 : decode jdk_42_method_53_code 3 = .ok (.invokespecial 489, 3) := by decide +kernel
theorem d_jdk_42_m53_6 : decode jdk_42_method_53_code 6 = .ok (.return_, 1) := by decide +kernel
set_option maxRecDepth 65536 in
set_option maxHeartbeats 40000000 in
theorem cSI1 {l : Launch} {Z : State} {a0 : Array Value} (W : Wd Z a0) {EL : List (String × Nat)} {vm : Vm} {h : Heap} {a : Addr} {v0 c0 : Value} (E : Exa Z h a "java/lang/String") (F1 : Fld Z h a "java/lang/String" "value" "[B" (v0)) (F2 : Fld Z h a "java/lang/String" "coder" "B" (c0)) (Sa : Safe Z EL vm h a) (hz : Z.heap.size ≤ a) {b d : Addr} {kd : ClassId} {u cap : Nat} {cs : List Int32} (B : Bd Z h b d kd u cap cs) (na : d ≠ a) :
    Ctr false l Z a0 EL (⟨"java/lang/String", "<init>", "(Ljava/lang/StringBuilder;)V"⟩ : MethodName) jdk_42_method_53_code 2 none ({ frames := 4, cells := 1, slots := 80, locals := 65 } : Room) #[.ref a, .ref b] vm h (fun v vm' h' => v = none ∧ Keep h h' [a] ∧ StrU Z h' a cs) := by
  refine Ctr.of_go (L0 := #[.val (.ref a), .val (.ref b)]) (by first | exact plainFor_of_name (by first | (simp [plainName, overriddenIn]; done) | decide +kernel) | decide +kernel) (fun m => by first | (simp [entryFrame, mkF, argsToLocals, Value.category, maxLocals]; done) | rfl) (fun p e s m below meth c vmi chi => ?_)
  refine Go.aload_n 1 d_jdk_42_m53_0 rfl rfl rfl ?_
  refine Go.aload_n 2 d_jdk_42_m53_1 rfl rfl rfl ?_
  refine Go.aconst_null 3 d_jdk_42_m53_2 rfl ?_
  refine Go.invokespecial (rest := []) 0 a [.ref b, .null] 6 d_jdk_42_m53_3 rfl rfl (W.1 161 rfl) (W.1 162 rfl) (W.1 6 rfl) (W.1 163 rfl) (by decide) (cSI2 W E F1 F2 (chi.safe E.lt Sa) hz B na) (by decide +kernel : parseMethodDescriptor "(Ljava/lang/AbstractStringBuilder;Ljava/lang/Void;)V" = some ⟨[(.object "java/lang/AbstractStringBuilder"), (.object "java/lang/Void")], none⟩) rfl rfl rfl (nl rfl) (nl rfl) (nl rfl) (nl rfl) (nl rfl) (fun v1 vm1 h1 ⟨rv, K, T⟩ c1 => ?_)
  subst rv
  exact Go.return_ d_jdk_42_m53_6 rfl (nl rfl) (nl rfl) (fun vm' ch => ⟨rfl, K, T⟩)
theorem d_jdk_67_m42_0 : decode jdk_67_method_42_code 0 = .ok (.new 18, 3) := by decide +kernel
theorem d_jdk_67_m42_3 : decode jdk_67_method_42_code 3 = .ok (.dup, 1) := by decide +kernel
theorem d_jdk_67_m42_4 : decode jdk_67_method_42_code 4 = .ok (.aload_n 0, 1) := by decide +kernel
theorem d_jdk_67_m42_5 : decode jdk_67_method_42_code 5 = .ok (.invokespecial 137, 3) := by decide +kernel
theorem d_jdk_67_m42_8 : decode jdk_67_method_42_code 8 = .ok (.areturn, 1) := by decide +kernel
set_option maxRecDepth 65536 in
set_option maxHeartbeats 40000000 in
theorem cTS {l : Launch} {Z : State} {a0 : Array Value} (W : Wd Z a0) {EL : List (String × Nat)} {vm : Vm} {h : Heap} {b d : Addr} {kd : ClassId} {u cap : Nat} {cs : List Int32} (B : Bd Z h b d kd u cap cs) :
    Ctr false l Z a0 EL (⟨"java/lang/StringBuilder", "toString", "()Ljava/lang/String;"⟩ : MethodName) jdk_67_method_42_code 1 (some (.object "java/lang/String")) ({ frames := 5, cells := 2, slots := 84, locals := 79 } : Room) #[.ref b] vm h (fun v vm' h' => ∃ a, v = some (.ref a) ∧ Ext h h' ∧ StrU Z h' a cs) := by
  refine Ctr.of_go (L0 := #[.val (.ref b)]) (by first | exact plainFor_of_name (by first | (simp [plainName, overriddenIn]; done) | decide +kernel) | decide +kernel) (fun m => by first | (simp [entryFrame, mkF, argsToLocals, Value.category, maxLocals]; done) | rfl) (fun p e s m below meth c vmi chi => ?_)
  refine Go.new 3 d_jdk_67_m42_0 rfl (W.1 157 rfl) (W.1 5 rfl) (W.1 6 rfl) (nl rfl) (nl rfl) (fun x1 h1 e1 E1 ⟨A1, D1⟩ S1 z1 c1 => ?_)
  refine Go.dup 4 d_jdk_67_m42_3 rfl rfl ?_
  refine Go.aload_n 5 d_jdk_67_m42_4 rfl rfl rfl ?_
  have f2 := D1 (Or.inr (W.1 33 rfl)) (ty := (.array .byte)) (by decide)
  have f3 := D1 (Or.inr (W.1 31 rfl)) (ty := .byte) (by decide)
  have na : d ≠ x1 := fun q => absurd B.ar.lt (by rw [q, e1]; exact Nat.lt_irrefl _)
  have f4 := B.ext E1
  refine Go.invokespecial (rest := [.ref x1]) 1 x1 [.ref b] 8 d_jdk_67_m42_5 rfl rfl (W.1 158 rfl) (W.1 159 rfl) (W.1 6 rfl) (W.1 160 rfl) (by decide) (cSI1 W A1 f2 f3 S1 z1 f4 na) (by decide +kernel : parseMethodDescriptor "(Ljava/lang/StringBuilder;)V" = some ⟨[(.object "java/lang/StringBuilder")], none⟩) rfl rfl rfl (nl rfl) (nl rfl) (nl rfl) (nl rfl) (nl rfl) (fun v5 vm5 h5 ⟨rv, K, T⟩ c5 => ?_)
  subst rv
  exact Go.areturn d_jdk_67_m42_8 rfl rfl rfl (nl rfl) (nl rfl) (fun vm' ch => ⟨x1, rfl, Ext.kp1 E1 K e1, T⟩)
theorem d_prog_61_m5_0 : decode prog_61_method_5_code 0 = .ok (.new 31, 3) := by decide +kernel
theorem d_prog_61_m5_3 : decode prog_61_method_5_code 3 = .ok (.dup, 1) := by decide +kernel
theorem d_prog_61_m5_4 : decode prog_61_method_5_code 4 = .ok (.aload_n 0, 1) := by decide +kernel
theorem d_prog_61_m5_5 : decode prog_61_method_5_code 5 = .ok (.invokevirtual 136, 3) := by decide +kernel
theorem d_prog_61_m5_8 : decode prog_61_method_5_code 8 = .ok (.invokespecial 140, 3) := by decide +kernel
theorem d_prog_61_m5_11 : decode prog_61_method_5_code 11 = .ok (.astore_n 1, 1) := by decide +kernel
theorem d_prog_61_m5_12 : decode prog_61_method_5_code 12 = .ok (.iconst 0, 1) := by decide +kernel
theorem d_prog_61_m5_13 : decode prog_61_method_5_code 13 = .ok (.istore_n 2, 1) := by decide +kernel
theorem d_prog_61_m5_14 : decode prog_61_method_5_code 14 = .ok (.iload_n 2, 1) := by decide +kernel
theorem d_prog_61_m5_15 : decode prog_61_method_5_code 15 = .ok (.aload_n 0, 1) := by decide +kernel
theorem d_prog_61_m5_16 : decode prog_61_method_5_code 16 = .ok (.invokevirtual 136, 3) := by decide +kernel
theorem d_prog_61_m5_19 : decode prog_61_method_5_code 19 = .ok (.if_icmp .ge 123, 3) := by decide +kernel
theorem d_prog_61_m5_22 : decode prog_61_method_5_code 22 = .ok (.aload_n 0, 1) := by decide +kernel
theorem d_prog_61_m5_23 : decode prog_61_method_5_code 23 = .ok (.iload_n 2, 1) := by decide +kernel
theorem d_prog_61_m5_24 : decode prog_61_method_5_code 24 = .ok (.invokevirtual 143, 3) := by decide +kernel
theorem d_prog_61_m5_27 : decode prog_61_method_5_code 27 = .ok (.istore_n 3, 1) := by decide +kernel
theorem d_prog_61_m5_28 : decode prog_61_method_5_code 28 = .ok (.iload_n 3, 1) := by decide +kernel
theorem d_prog_61_m5_29 : decode prog_61_method_5_code 29 = .ok (.lookupswitch 101 #[(34, 81), (38, 51), (39, 91), (60, 61), (62, 71)], 51) := by decide +kernel
theorem d_prog_61_m5_80 : decode prog_61_method_5_code 80 = .ok (.aload_n 1, 1) := by decide +kernel
theorem d_prog_61_m5_81 : decode prog_61_method_5_code 81 = .ok (.ldc 147, 2) := by decide +kernel
theorem d_prog_61_m5_83 : decode prog_61_method_5_code 83 = .ok (.invokevirtual 30, 3) := by decide +kernel
theorem d_prog_61_m5_86 : decode prog_61_method_5_code 86 = .ok (.pop, 1) := by decide +kernel
theorem d_prog_61_m5_87 : decode prog_61_method_5_code 87 = .ok (.goto 49, 3) := by decide +kernel
theorem d_prog_61_m5_90 : decode prog_61_method_5_code 90 = .ok (.aload_n 1, 1) := by decide +kernel
theorem d_prog_61_m5_91 : decode prog_61_method_5_code 91 = .ok (.ldc 149, 2) := by decide +kernel
theorem d_prog_61_m5_93 : decode prog_61_method_5_code 93 = .ok (.invokevirtual 30, 3) := by decide +kernel
theorem d_prog_61_m5_96 : decode prog_61_method_5_code 96 = .ok (.pop, 1) := by decide +kernel
theorem d_prog_61_m5_97 : decode prog_61_method_5_code 97 = .ok (.goto 39, 3) := by decide +kernel
theorem d_prog_61_m5_100 : decode prog_61_method_5_code 100 = .ok (.aload_n 1, 1) := by decide +kernel
theorem d_prog_61_m5_101 : decode prog_61_method_5_code 101 = .ok (.ldc 151, 2) := by decide +kernel
theorem d_prog_61_m5_103 : decode prog_61_method_5_code 103 = .ok (.invokevirtual 30, 3) := by decide +kernel
theorem d_prog_61_m5_106 : decode prog_61_method_5_code 106 = .ok (.pop, 1) := by decide +kernel
theorem d_prog_61_m5_107 : decode prog_61_method_5_code 107 = .ok (.goto 29, 3) := by decide +kernel
theorem d_prog_61_m5_110 : decode prog_61_method_5_code 110 = .ok (.aload_n 1, 1) := by decide +kernel
theorem d_prog_61_m5_111 : decode prog_61_method_5_code 111 = .ok (.ldc 153, 2) := by decide +kernel
theorem d_prog_61_m5_113 : decode prog_61_method_5_code 113 = .ok (.invokevirtual 30, 3) := by decide +kernel
theorem d_prog_61_m5_116 : decode prog_61_method_5_code 116 = .ok (.pop, 1) := by decide +kernel
theorem d_prog_61_m5_117 : decode prog_61_method_5_code 117 = .ok (.goto 19, 3) := by decide +kernel
theorem d_prog_61_m5_120 : decode prog_61_method_5_code 120 = .ok (.aload_n 1, 1) := by decide +kernel
theorem d_prog_61_m5_121 : decode prog_61_method_5_code 121 = .ok (.ldc 155, 2) := by decide +kernel
theorem d_prog_61_m5_123 : decode prog_61_method_5_code 123 = .ok (.invokevirtual 30, 3) := by decide +kernel
theorem d_prog_61_m5_126 : decode prog_61_method_5_code 126 = .ok (.pop, 1) := by decide +kernel
theorem d_prog_61_m5_127 : decode prog_61_method_5_code 127 = .ok (.goto 9, 3) := by decide +kernel
theorem d_prog_61_m5_130 : decode prog_61_method_5_code 130 = .ok (.aload_n 1, 1) := by decide +kernel
theorem d_prog_61_m5_131 : decode prog_61_method_5_code 131 = .ok (.iload_n 3, 1) := by decide +kernel
theorem d_prog_61_m5_132 : decode prog_61_method_5_code 132 = .ok (.invokevirtual 157, 3) := by decide +kernel
theorem d_prog_61_m5_135 : decode prog_61_method_5_code 135 = .ok (.pop, 1) := by decide +kernel
theorem d_prog_61_m5_136 : decode prog_61_method_5_code 136 = .ok (.iinc 2 1, 3) := by decide +kernel
theorem d_prog_61_m5_139 : decode prog_61_method_5_code 139 = .ok (.goto (-125), 3) := by decide +kernel
theorem d_prog_61_m5_142 : decode prog_61_method_5_code 142 = .ok (.aload_n 1, 1) := by decide +kernel
theorem d_prog_61_m5_143 : decode prog_61_method_5_code 143 = .ok (.invokevirtual 160, 3) := by decide +kernel
theorem d_prog_61_m5_146 : decode prog_61_method_5_code 146 = .ok (.areturn, 1) := by decide +kernel
set_option maxRecDepth 65536 in
set_option maxHeartbeats 40000000 in
theorem cEsc {l : Launch} {Z : State} {a0 : Array Value} (W : Wd Z a0) {EL : List (String × Nat)} {vm : Vm} {h : Heap} {a : Addr} {cs : List Int32} (U : UT Z) (hm : ("com/example/guide/guide/web/Pages", 147) ∈ EL ∧ ("com/example/guide/guide/web/Pages", 149) ∈ EL ∧ ("com/example/guide/guide/web/Pages", 151) ∈ EL ∧ ("com/example/guide/guide/web/Pages", 153) ∈ EL ∧ ("com/example/guide/guide/web/Pages", 155) ∈ EL) (T : StrU Z h a cs) (h3 : cs.length ≤ 3) :
    Ctr false l Z a0 EL (⟨"com/example/guide/guide/web/Pages", "escape", "(Ljava/lang/String;)Ljava/lang/String;"⟩ : MethodName) prog_61_method_5_code 4 (some (.object "java/lang/String")) ({ frames := 9, cells := 13, slots := 601, locals := 132 } : Room) #[.ref a] vm h (fun v vm' h' => ∃ z, v = some (.ref z) ∧ Ext h h' ∧ StrU Z h' z (outV cs)) := by
  refine Ctr.of_go (L0 := #[.val (.ref a), .unset, .unset, .unset]) (by first | exact plainFor_of_name (by first | (simp [plainName, overriddenIn]; done) | decide +kernel) | decide +kernel) (fun m => by first | (simp [entryFrame, mkF, argsToLocals, Value.category, maxLocals]; done) | rfl) (fun p e s m below meth c vmi chi => ?_)
  refine Go.know fun hEz _ _ => ?_
  refine Go.new 3 d_prog_61_m5_0 rfl (W.1 38 rfl) (W.1 39 rfl) (W.1 40 rfl) (nl rfl) (nl rfl) (fun b h1 e1 E1 ⟨A1, D1⟩ S1 z1 c1 => ?_)
  refine Go.dup 4 d_prog_61_m5_3 rfl rfl ?_
  refine Go.aload_n 5 d_prog_61_m5_4 rfl rfl rfl ?_
  have f2 := D1 (Or.inl (W.1 65 rfl)) (ty := .byte) (by decide)
  have f3 := D1 (Or.inl (W.1 63 rfl)) (ty := (.array .byte)) (by decide)
  have f4 := D1 (Or.inl (W.1 103 rfl)) (ty := .int) (by decide)
  have f5 := D1 (Or.inl (W.1 298 rfl)) (ty := .boolean) (by decide)
  have f6 := T.ext E1
  refine Go.invokevirtual (rest := [.ref b, .ref b]) 2 a [] 8 d_prog_61_m5_5 rfl f6.exa (W.1 41 rfl) (W.1 42 rfl) (fun s hs => notFace_of_selects (args := #[]) (mvT hs (W.1 44 rfl))) (W.1 44 rfl) (W.1 43 rfl) (W.1 6 rfl) (W.1 45 rfl) (by decide) (cSLen W f6) (by decide +kernel : parseMethodDescriptor "()I" = some ⟨[], (some .int)⟩) rfl rfl rfl (nl rfl) (nl rfl) (nl rfl) (nl rfl) (nl rfl) (fun v7 vm7 h7 ⟨rv, hh⟩ c7 => ?_)
  subst rv; replace hh := hh.symm; subst hh
  have f8 := CHr.safe c7 A1.lt S1
  have L8 := Nat.lt_of_lt_of_le A1.lt c7.2.1
  refine Go.invokespecial (rest := [.ref b]) 1 b [.int (Int32.ofNat cs.length)] 11 d_prog_61_m5_8 rfl rfl (W.1 51 rfl) (W.1 52 rfl) (W.1 40 rfl) (W.1 53 rfl) (by decide) (cSbI W h3 A1 f3 f2 f4 f5 f8 z1) (by decide +kernel : parseMethodDescriptor "(I)V" = some ⟨[.int], none⟩) rfl rfl rfl (nl rfl) (nl rfl) (nl rfl) (nl rfl) (nl rfl) (fun v9 vm9 h9 ⟨rv, K0, d0, kd0, B0, hd0, Sd0⟩ c9 => ?_)
  subst rv
  have EE0 := Ext.kp1 E1 K0 e1
  have hb : h.size ≤ b := Nat.le_of_eq e1.symm
  have hl0 : h.size ≤ d0 := Nat.le_trans hb (Nat.le_trans (Nat.le_of_lt A1.lt) hd0)
  have nd0 : d0 ≠ b := (ne_of_new A1.lt hd0).symm
  refine Go.astore_n #[.val (.ref a), .val (.ref b), .unset, .unset] 12 d_prog_61_m5_11 rfl rfl rfl ?_
  refine Go.iconst (0) 13 d_prog_61_m5_12 rfl rfl ?_
  refine Go.istore_n #[.val (.ref a), .val (.ref b), .val (.int (0 : Int32)), .unset] 14 d_prog_61_m5_13 rfl rfl ?_
  have f10 := CHr.safe c9 L8 f8
  have L10 := Nat.lt_of_lt_of_le L8 c9.2.1
  have J3 : ∀ (dJ : Addr) (kJ : ClassId) (uJ cJ : Nat) (vmJ : Vm) (hJ : Heap) (l3 : Slot), (l3 = .unset ∨ ∃ w : Value, l3 = .val w ∧ w.category = 1) → 3 ≤ cs.length → Ext h hJ → Bd Z hJ b dJ kJ uJ cJ (outV (cs.take 3)) → Safe Z EL vmJ hJ b → Safe Z EL vmJ hJ dJ → h.size ≤ dJ → dJ ≠ b → Go false p l e ({ frames := 9, cells := 13, slots := 601, locals := 132 } : Room) s m #[.ref a] below meth c prog_61_method_5_code 4 "escape" (some (.object "java/lang/String")) Z a0 EL "com/example/guide/guide/web/Pages" (fun v vm' h' => ∃ z, v = some (.ref z) ∧ Ext h h' ∧ StrU Z h' z (outV cs)) vmJ hJ 11 517 14 #[.val (.ref a), .val (.ref b), .val (.int (3 : Int32)), l3] [] := by
    intro dJ kJ uJ cJ vmJ hJ l3 o3 hi EJ BJ SbJ SdJ hlJ ndJ
    have zd : Z.heap.size ≤ dJ := Nat.le_trans hEz.1 hlJ
    have lt := take_le (cs := cs) 3
    refine Go.iload_n 15 d_prog_61_m5_14 rfl rfl ?_
    refine Go.aload_n 16 d_prog_61_m5_15 rfl rfl rfl ?_
    have f11 := T.ext EJ
    refine Go.invokevirtual (rest := [.int (3 : Int32)]) 1 a [] 19 d_prog_61_m5_16 rfl f11.exa (W.1 41 rfl) (W.1 42 rfl) (fun s hs => notFace_of_selects (args := #[]) (mvT hs (W.1 44 rfl))) (W.1 44 rfl) (W.1 43 rfl) (W.1 6 rfl) (W.1 45 rfl) (by decide) (cSLen W f11) (by decide +kernel : parseMethodDescriptor "()I" = some ⟨[], (some .int)⟩) rfl rfl rfl (nl rfl) (nl rfl) (nl rfl) (nl rfl) (nl rfl) (fun v12 vm12 h12 ⟨rv, hh⟩ c12 => ?_)
    subst rv; replace hh := hh.symm; subst hh
    by_cases hq : 3 < cs.length
    · exact absurd h3 (by omega)
    · refine Go.if_icmpge 142 22 d_prog_61_m5_19 (by decide) rfl rfl (fun q13 => ?_) (fun q13 => absurd ((ofNat_lt (i := 3) (by decide) (by omega)).mp q13) hq)
      refine Go.aload_n 143 d_prog_61_m5_142 rfl rfl rfl ?_
      refine Go.invokevirtual (rest := []) 0 b [] 146 d_prog_61_m5_143 rfl BJ.e (W.1 152 rfl) (W.1 153 rfl) (fun s hs => notFace_of_selects (args := #[]) (mvT hs (W.1 155 rfl))) (W.1 155 rfl) (W.1 154 rfl) (W.1 40 rfl) (W.1 156 rfl) (by decide) (cTS W BJ) (by decide +kernel : parseMethodDescriptor "()Ljava/lang/String;" = some ⟨[], (some (.object "java/lang/String"))⟩) rfl rfl rfl (nl rfl) (nl rfl) (nl rfl) (nl rfl) (nl rfl) (fun v14 vm14 h14 ⟨z9, rv, E9, T9⟩ c14 => ?_)
      subst rv
      rw [List.take_of_length_le (by omega)] at T9
      exact Go.areturn d_prog_61_m5_146 rfl rfl rfl (nl rfl) (nl rfl) (fun vm' ch => ⟨z9, rfl, (Ext.tr EJ E9), T9⟩)
  have J2 : ∀ (dJ : Addr) (kJ : ClassId) (uJ cJ : Nat) (vmJ : Vm) (hJ : Heap) (l3 : Slot), (l3 = .unset ∨ ∃ w : Value, l3 = .val w ∧ w.category = 1) → 2 ≤ cs.length → Ext h hJ → Bd Z hJ b dJ kJ uJ cJ (outV (cs.take 2)) → Safe Z EL vmJ hJ b → Safe Z EL vmJ hJ dJ → h.size ≤ dJ → dJ ≠ b → Go false p l e ({ frames := 9, cells := 13, slots := 601, locals := 132 } : Room) s m #[.ref a] below meth c prog_61_method_5_code 4 "escape" (some (.object "java/lang/String")) Z a0 EL "com/example/guide/guide/web/Pages" (fun v vm' h' => ∃ z, v = some (.ref z) ∧ Ext h h' ∧ StrU Z h' z (outV cs)) vmJ hJ 8 347 14 #[.val (.ref a), .val (.ref b), .val (.int (2 : Int32)), l3] [] := by
    intro dJ kJ uJ cJ vmJ hJ l3 o3 hi EJ BJ SbJ SdJ hlJ ndJ
    have zd : Z.heap.size ≤ dJ := Nat.le_trans hEz.1 hlJ
    have lt := take_le (cs := cs) 2
    refine Go.iload_n 15 d_prog_61_m5_14 rfl rfl ?_
    refine Go.aload_n 16 d_prog_61_m5_15 rfl rfl rfl ?_
    have f15 := T.ext EJ
    refine Go.invokevirtual (rest := [.int (2 : Int32)]) 1 a [] 19 d_prog_61_m5_16 rfl f15.exa (W.1 41 rfl) (W.1 42 rfl) (fun s hs => notFace_of_selects (args := #[]) (mvT hs (W.1 44 rfl))) (W.1 44 rfl) (W.1 43 rfl) (W.1 6 rfl) (W.1 45 rfl) (by decide) (cSLen W f15) (by decide +kernel : parseMethodDescriptor "()I" = some ⟨[], (some .int)⟩) rfl rfl rfl (nl rfl) (nl rfl) (nl rfl) (nl rfl) (nl rfl) (fun v16 vm16 h16 ⟨rv, hh⟩ c16 => ?_)
    subst rv; replace hh := hh.symm; subst hh
    by_cases hq : 2 < cs.length
    · refine Go.if_icmpge 142 22 d_prog_61_m5_19 (by decide) rfl rfl (fun q17 => absurd ((ofNat_lt (i := 2) (by decide) (by omega)).mpr hq) q17) (fun q17 => ?_)
      refine Go.aload_n 23 d_prog_61_m5_22 rfl rfl rfl ?_
      refine Go.iload_n 24 d_prog_61_m5_23 rfl rfl ?_
      refine Go.invokevirtual (rest := []) 0 a [.int (2 : Int32)] 27 d_prog_61_m5_24 rfl f15.exa (W.1 66 rfl) (W.1 67 rfl) (fun s hs => notFace_of_selects (args := #[]) (mvT hs (W.1 69 rfl))) (W.1 69 rfl) (W.1 68 rfl) (W.1 6 rfl) (W.1 70 rfl) (by decide) (cSAt W (i_ := 2) U f15 hq) (by decide +kernel : parseMethodDescriptor "(I)C" = some ⟨[.int], (some .char)⟩) rfl rfl rfl (nl rfl) (nl rfl) (nl rfl) (nl rfl) (nl rfl) (fun v18 vm18 h18 ⟨rv, hh⟩ c18 => ?_)
      subst rv; replace hh := hh.symm; subst hh
      refine Go.istore_n #[.val (.ref a), .val (.ref b), .val (.int (2 : Int32)), .val (.int (cs.getD 2 0))] 28 d_prog_61_m5_27 rfl (XS.store1 rfl o3 rfl) ?_
      refine Go.iload_n 29 d_prog_61_m5_28 rfl rfl ?_
      have hcc : C16 (cs.getD 2 0) := T.ch _ (getIn hq)
      by_cases g38 : (cs.getD 2 0) = 38
      · refine Go.switchHit (a := 38) (off := 51) 80 d_prog_61_m5_29 (by decide) (by rw [g38]; rfl) (by decide) rfl ?_
        refine Go.aload_n 81 d_prog_61_m5_80 rfl rfl rfl ?_
        refine Go.ldcS (text := "&amp;") (vs := [.int (38), .int (97), .int (109), .int (112), .int (59)]) (z := (5 : Int32)) 20 83 d_prog_61_m5_81 rfl rfl (W.1 88 rfl) (W.sub (by decide +kernel)) hm.1 lit_ok__26amp_3b.1 (by decide) (by decide) lit_ok__26amp_3b.2 (by decide) (nl rfl) (nl rfl) (fun y1 b19 k19 vm19 h19 E19 A19 C19 V19 B19 N19 c19 => ?_)
        have T19 : Str Z h19 y1 [38, 97, 109, 112, 59] := ⟨b19, k19, A19, C19, V19, B19, by decide, by decide⟩
        have f20 := BJ.ext E19
        have f21 := CHr.safe (CHr.trans c16 (CHr.trans c18 c19)) BJ.e.lt SbJ
        have L21 := Nat.lt_of_lt_of_le BJ.e.lt (CHr.trans c16 (CHr.trans c18 c19)).2.1
        have f22 := CHr.safe (CHr.trans c16 (CHr.trans c18 c19)) BJ.ar.lt SdJ
        have L22 := Nat.lt_of_lt_of_le BJ.ar.lt (CHr.trans c16 (CHr.trans c18 c19)).2.1
        refine Go.invokevirtual (rest := []) 0 b [.ref y1] 86 d_prog_61_m5_83 rfl f20.e (W.1 91 rfl) (W.1 92 rfl) (fun s hs => notFace_of_selects (args := #[]) (mvT hs (W.1 94 rfl))) (W.1 94 rfl) (W.1 93 rfl) (W.1 40 rfl) (W.1 95 rfl) (by decide) (cAppS W U T19 f20 (by simp only [List.length_cons, List.length_nil]; omega) f21 z1 f22 zd ndJ (fun F => by cases Fld.uniq F V19; exact (N19 _ f22).2.symm)) (by decide +kernel : parseMethodDescriptor "(Ljava/lang/String;)Ljava/lang/StringBuilder;" = some ⟨[(.object "java/lang/String")], (some (.object "java/lang/StringBuilder"))⟩) rfl rfl rfl (nl rfl) (nl rfl) (nl rfl) (nl rfl) (nl rfl) (fun v23 vm23 h23 ⟨d2, kd2, u2, cap2, rv, K2, B2, o2, S2⟩ c23 => ?_)
        subst rv
        have E2 := Ext.kp2 (Ext.tr EJ E19) K2 hb hlJ
        refine Go.pop 87 d_prog_61_m5_86 rfl rfl ?_
        refine Go.goto 136 d_prog_61_m5_87 (by decide) rfl ?_
        refine Go.iinc (3 : Int32) #[.val (.ref a), .val (.ref b), .val (.int (3 : Int32)), .val (.int (cs.getD 2 0))] 139 d_prog_61_m5_136 rfl rfl rfl rfl ?_
        refine Go.goto 14 d_prog_61_m5_139 (by decide) rfl ?_
        have R : refV (cs.getD 2 0) = [38, 97, 109, 112, 59] := by unfold refV; rw [if_pos g38]
        have BN : Bd Z h23 b d2 kd2 u2 cap2 (outV (cs.take 3)) := by rw [outS hq, R]; exact B2
        have hl2 : h.size ≤ d2 := o2.elim (fun q => by rw [q]; exact hlJ) (fun q => Nat.le_trans (Ext.tr EJ E19).1 q)
        have nd2 : d2 ≠ b := o2.elim (fun q => by rw [q]; exact ndJ) (fun q => (ne_of_new f20.e.lt q).symm)
        refine Go.mono (k' := 11) (n' := 517) (nl rfl) (nl rfl) ?_
        have f24 := CHr.safe c23 L21 f21
        have L24 := Nat.lt_of_lt_of_le L21 c23.2.1
        exact J3 _ _ _ _ _ _ _ (Or.inr ⟨_, rfl, rfl⟩) (by omega) E2 BN f24 S2 hl2 nd2
      · by_cases g60 : (cs.getD 2 0) = 60
        · refine Go.switchHit (a := 60) (off := 61) 90 d_prog_61_m5_29 (by decide) (by rw [g60]; rfl) (by decide) rfl ?_
          refine Go.aload_n 91 d_prog_61_m5_90 rfl rfl rfl ?_
          refine Go.ldcS (text := "&lt;") (vs := [.int (38), .int (108), .int (116), .int (59)]) (z := (4 : Int32)) 16 93 d_prog_61_m5_91 rfl rfl (W.1 242 rfl) (W.sub (by decide +kernel)) hm.2.1 lit_ok__26lt_3b.1 (by decide) (by decide) lit_ok__26lt_3b.2 (by decide) (nl rfl) (nl rfl) (fun y1 b25 k25 vm25 h25 E25 A25 C25 V25 B25 N25 c25 => ?_)
          have T25 : Str Z h25 y1 [38, 108, 116, 59] := ⟨b25, k25, A25, C25, V25, B25, by decide, by decide⟩
          have f26 := BJ.ext E25
          have f27 := CHr.safe (CHr.trans c16 (CHr.trans c18 c25)) BJ.e.lt SbJ
          have L27 := Nat.lt_of_lt_of_le BJ.e.lt (CHr.trans c16 (CHr.trans c18 c25)).2.1
          have f28 := CHr.safe (CHr.trans c16 (CHr.trans c18 c25)) BJ.ar.lt SdJ
          have L28 := Nat.lt_of_lt_of_le BJ.ar.lt (CHr.trans c16 (CHr.trans c18 c25)).2.1
          refine Go.invokevirtual (rest := []) 0 b [.ref y1] 96 d_prog_61_m5_93 rfl f26.e (W.1 91 rfl) (W.1 92 rfl) (fun s hs => notFace_of_selects (args := #[]) (mvT hs (W.1 94 rfl))) (W.1 94 rfl) (W.1 93 rfl) (W.1 40 rfl) (W.1 95 rfl) (by decide) (cAppS W U T25 f26 (by simp only [List.length_cons, List.length_nil]; omega) f27 z1 f28 zd ndJ (fun F => by cases Fld.uniq F V25; exact (N25 _ f28).2.symm)) (by decide +kernel : parseMethodDescriptor "(Ljava/lang/String;)Ljava/lang/StringBuilder;" = some ⟨[(.object "java/lang/String")], (some (.object "java/lang/StringBuilder"))⟩) rfl rfl rfl (nl rfl) (nl rfl) (nl rfl) (nl rfl) (nl rfl) (fun v29 vm29 h29 ⟨d2, kd2, u2, cap2, rv, K2, B2, o2, S2⟩ c29 => ?_)
          subst rv
          have E2 := Ext.kp2 (Ext.tr EJ E25) K2 hb hlJ
          refine Go.pop 97 d_prog_61_m5_96 rfl rfl ?_
          refine Go.goto 136 d_prog_61_m5_97 (by decide) rfl ?_
          refine Go.iinc (3 : Int32) #[.val (.ref a), .val (.ref b), .val (.int (3 : Int32)), .val (.int (cs.getD 2 0))] 139 d_prog_61_m5_136 rfl rfl rfl rfl ?_
          refine Go.goto 14 d_prog_61_m5_139 (by decide) rfl ?_
          have R : refV (cs.getD 2 0) = [38, 108, 116, 59] := by unfold refV; rw [if_neg g38, if_pos g60]
          have BN : Bd Z h29 b d2 kd2 u2 cap2 (outV (cs.take 3)) := by rw [outS hq, R]; exact B2
          have hl2 : h.size ≤ d2 := o2.elim (fun q => by rw [q]; exact hlJ) (fun q => Nat.le_trans (Ext.tr EJ E25).1 q)
          have nd2 : d2 ≠ b := o2.elim (fun q => by rw [q]; exact ndJ) (fun q => (ne_of_new f26.e.lt q).symm)
          refine Go.mono (k' := 11) (n' := 517) (nl rfl) (nl rfl) ?_
          have f30 := CHr.safe c29 L27 f27
          have L30 := Nat.lt_of_lt_of_le L27 c29.2.1
          exact J3 _ _ _ _ _ _ _ (Or.inr ⟨_, rfl, rfl⟩) (by omega) E2 BN f30 S2 hl2 nd2
        · by_cases g62 : (cs.getD 2 0) = 62
          · refine Go.switchHit (a := 62) (off := 71) 100 d_prog_61_m5_29 (by decide) (by rw [g62]; rfl) (by decide) rfl ?_
            refine Go.aload_n 101 d_prog_61_m5_100 rfl rfl rfl ?_
            refine Go.ldcS (text := "&gt;") (vs := [.int (38), .int (103), .int (116), .int (59)]) (z := (4 : Int32)) 16 103 d_prog_61_m5_101 rfl rfl (W.1 302 rfl) (W.sub (by decide +kernel)) hm.2.2.1 lit_ok__26gt_3b.1 (by decide) (by decide) lit_ok__26gt_3b.2 (by decide) (nl rfl) (nl rfl) (fun y1 b31 k31 vm31 h31 E31 A31 C31 V31 B31 N31 c31 => ?_)
            have T31 : Str Z h31 y1 [38, 103, 116, 59] := ⟨b31, k31, A31, C31, V31, B31, by decide, by decide⟩
            have f32 := BJ.ext E31
            have f33 := CHr.safe (CHr.trans c16 (CHr.trans c18 c31)) BJ.e.lt SbJ
            have L33 := Nat.lt_of_lt_of_le BJ.e.lt (CHr.trans c16 (CHr.trans c18 c31)).2.1
            have f34 := CHr.safe (CHr.trans c16 (CHr.trans c18 c31)) BJ.ar.lt SdJ
            have L34 := Nat.lt_of_lt_of_le BJ.ar.lt (CHr.trans c16 (CHr.trans c18 c31)).2.1
            refine Go.invokevirtual (rest := []) 0 b [.ref y1] 106 d_prog_61_m5_103 rfl f32.e (W.1 91 rfl) (W.1 92 rfl) (fun s hs => notFace_of_selects (args := #[]) (mvT hs (W.1 94 rfl))) (W.1 94 rfl) (W.1 93 rfl) (W.1 40 rfl) (W.1 95 rfl) (by decide) (cAppS W U T31 f32 (by simp only [List.length_cons, List.length_nil]; omega) f33 z1 f34 zd ndJ (fun F => by cases Fld.uniq F V31; exact (N31 _ f34).2.symm)) (by decide +kernel : parseMethodDescriptor "(Ljava/lang/String;)Ljava/lang/StringBuilder;" = some ⟨[(.object "java/lang/String")], (some (.object "java/lang/StringBuilder"))⟩) rfl rfl rfl (nl rfl) (nl rfl) (nl rfl) (nl rfl) (nl rfl) (fun v35 vm35 h35 ⟨d2, kd2, u2, cap2, rv, K2, B2, o2, S2⟩ c35 => ?_)
            subst rv
            have E2 := Ext.kp2 (Ext.tr EJ E31) K2 hb hlJ
            refine Go.pop 107 d_prog_61_m5_106 rfl rfl ?_
            refine Go.goto 136 d_prog_61_m5_107 (by decide) rfl ?_
            refine Go.iinc (3 : Int32) #[.val (.ref a), .val (.ref b), .val (.int (3 : Int32)), .val (.int (cs.getD 2 0))] 139 d_prog_61_m5_136 rfl rfl rfl rfl ?_
            refine Go.goto 14 d_prog_61_m5_139 (by decide) rfl ?_
            have R : refV (cs.getD 2 0) = [38, 103, 116, 59] := by unfold refV; rw [if_neg g38, if_neg g60, if_pos g62]
            have BN : Bd Z h35 b d2 kd2 u2 cap2 (outV (cs.take 3)) := by rw [outS hq, R]; exact B2
            have hl2 : h.size ≤ d2 := o2.elim (fun q => by rw [q]; exact hlJ) (fun q => Nat.le_trans (Ext.tr EJ E31).1 q)
            have nd2 : d2 ≠ b := o2.elim (fun q => by rw [q]; exact ndJ) (fun q => (ne_of_new f32.e.lt q).symm)
            refine Go.mono (k' := 11) (n' := 517) (nl rfl) (nl rfl) ?_
            have f36 := CHr.safe c35 L33 f33
            have L36 := Nat.lt_of_lt_of_le L33 c35.2.1
            exact J3 _ _ _ _ _ _ _ (Or.inr ⟨_, rfl, rfl⟩) (by omega) E2 BN f36 S2 hl2 nd2
          · by_cases g34 : (cs.getD 2 0) = 34
            · refine Go.switchHit (a := 34) (off := 81) 110 d_prog_61_m5_29 (by decide) (by rw [g34]; rfl) (by decide) rfl ?_
              refine Go.aload_n 111 d_prog_61_m5_110 rfl rfl rfl ?_
              refine Go.ldcS (text := "&quot;") (vs := [.int (38), .int (113), .int (117), .int (111), .int (116), .int (59)]) (z := (6 : Int32)) 24 113 d_prog_61_m5_111 rfl rfl (W.1 208 rfl) (W.sub (by decide +kernel)) hm.2.2.2.1 lit_ok__26quot_3b.1 (by decide) (by decide) lit_ok__26quot_3b.2 (by decide) (nl rfl) (nl rfl) (fun y1 b37 k37 vm37 h37 E37 A37 C37 V37 B37 N37 c37 => ?_)
              have T37 : Str Z h37 y1 [38, 113, 117, 111, 116, 59] := ⟨b37, k37, A37, C37, V37, B37, by decide, by decide⟩
              have f38 := BJ.ext E37
              have f39 := CHr.safe (CHr.trans c16 (CHr.trans c18 c37)) BJ.e.lt SbJ
              have L39 := Nat.lt_of_lt_of_le BJ.e.lt (CHr.trans c16 (CHr.trans c18 c37)).2.1
              have f40 := CHr.safe (CHr.trans c16 (CHr.trans c18 c37)) BJ.ar.lt SdJ
              have L40 := Nat.lt_of_lt_of_le BJ.ar.lt (CHr.trans c16 (CHr.trans c18 c37)).2.1
              refine Go.invokevirtual (rest := []) 0 b [.ref y1] 116 d_prog_61_m5_113 rfl f38.e (W.1 91 rfl) (W.1 92 rfl) (fun s hs => notFace_of_selects (args := #[]) (mvT hs (W.1 94 rfl))) (W.1 94 rfl) (W.1 93 rfl) (W.1 40 rfl) (W.1 95 rfl) (by decide) (cAppS W U T37 f38 (by simp only [List.length_cons, List.length_nil]; omega) f39 z1 f40 zd ndJ (fun F => by cases Fld.uniq F V37; exact (N37 _ f40).2.symm)) (by decide +kernel : parseMethodDescriptor "(Ljava/lang/String;)Ljava/lang/StringBuilder;" = some ⟨[(.object "java/lang/String")], (some (.object "java/lang/StringBuilder"))⟩) rfl rfl rfl (nl rfl) (nl rfl) (nl rfl) (nl rfl) (nl rfl) (fun v41 vm41 h41 ⟨d2, kd2, u2, cap2, rv, K2, B2, o2, S2⟩ c41 => ?_)
              subst rv
              have E2 := Ext.kp2 (Ext.tr EJ E37) K2 hb hlJ
              refine Go.pop 117 d_prog_61_m5_116 rfl rfl ?_
              refine Go.goto 136 d_prog_61_m5_117 (by decide) rfl ?_
              refine Go.iinc (3 : Int32) #[.val (.ref a), .val (.ref b), .val (.int (3 : Int32)), .val (.int (cs.getD 2 0))] 139 d_prog_61_m5_136 rfl rfl rfl rfl ?_
              refine Go.goto 14 d_prog_61_m5_139 (by decide) rfl ?_
              have R : refV (cs.getD 2 0) = [38, 113, 117, 111, 116, 59] := by unfold refV; rw [if_neg g38, if_neg g60, if_neg g62, if_pos g34]
              have BN : Bd Z h41 b d2 kd2 u2 cap2 (outV (cs.take 3)) := by rw [outS hq, R]; exact B2
              have hl2 : h.size ≤ d2 := o2.elim (fun q => by rw [q]; exact hlJ) (fun q => Nat.le_trans (Ext.tr EJ E37).1 q)
              have nd2 : d2 ≠ b := o2.elim (fun q => by rw [q]; exact ndJ) (fun q => (ne_of_new f38.e.lt q).symm)
              refine Go.mono (k' := 11) (n' := 517) (nl rfl) (nl rfl) ?_
              have f42 := CHr.safe c41 L39 f39
              have L42 := Nat.lt_of_lt_of_le L39 c41.2.1
              exact J3 _ _ _ _ _ _ _ (Or.inr ⟨_, rfl, rfl⟩) (by omega) E2 BN f42 S2 hl2 nd2
            · by_cases g39 : (cs.getD 2 0) = 39
              · refine Go.switchHit (a := 39) (off := 91) 120 d_prog_61_m5_29 (by decide) (by rw [g39]; rfl) (by decide) rfl ?_
                refine Go.aload_n 121 d_prog_61_m5_120 rfl rfl rfl ?_
                refine Go.ldcS (text := "&#39;") (vs := [.int (38), .int (35), .int (51), .int (57), .int (59)]) (z := (5 : Int32)) 20 123 d_prog_61_m5_121 rfl rfl (W.1 207 rfl) (W.sub (by decide +kernel)) hm.2.2.2.2 lit_ok__26_2339_3b.1 (by decide) (by decide) lit_ok__26_2339_3b.2 (by decide) (nl rfl) (nl rfl) (fun y1 b43 k43 vm43 h43 E43 A43 C43 V43 B43 N43 c43 => ?_)
                have T43 : Str Z h43 y1 [38, 35, 51, 57, 59] := ⟨b43, k43, A43, C43, V43, B43, by decide, by decide⟩
                have f44 := BJ.ext E43
                have f45 := CHr.safe (CHr.trans c16 (CHr.trans c18 c43)) BJ.e.lt SbJ
                have L45 := Nat.lt_of_lt_of_le BJ.e.lt (CHr.trans c16 (CHr.trans c18 c43)).2.1
                have f46 := CHr.safe (CHr.trans c16 (CHr.trans c18 c43)) BJ.ar.lt SdJ
                have L46 := Nat.lt_of_lt_of_le BJ.ar.lt (CHr.trans c16 (CHr.trans c18 c43)).2.1
                refine Go.invokevirtual (rest := []) 0 b [.ref y1] 126 d_prog_61_m5_123 rfl f44.e (W.1 91 rfl) (W.1 92 rfl) (fun s hs => notFace_of_selects (args := #[]) (mvT hs (W.1 94 rfl))) (W.1 94 rfl) (W.1 93 rfl) (W.1 40 rfl) (W.1 95 rfl) (by decide) (cAppS W U T43 f44 (by simp only [List.length_cons, List.length_nil]; omega) f45 z1 f46 zd ndJ (fun F => by cases Fld.uniq F V43; exact (N43 _ f46).2.symm)) (by decide +kernel : parseMethodDescriptor "(Ljava/lang/String;)Ljava/lang/StringBuilder;" = some ⟨[(.object "java/lang/String")], (some (.object "java/lang/StringBuilder"))⟩) rfl rfl rfl (nl rfl) (nl rfl) (nl rfl) (nl rfl) (nl rfl) (fun v47 vm47 h47 ⟨d2, kd2, u2, cap2, rv, K2, B2, o2, S2⟩ c47 => ?_)
                subst rv
                have E2 := Ext.kp2 (Ext.tr EJ E43) K2 hb hlJ
                refine Go.pop 127 d_prog_61_m5_126 rfl rfl ?_
                refine Go.goto 136 d_prog_61_m5_127 (by decide) rfl ?_
                refine Go.iinc (3 : Int32) #[.val (.ref a), .val (.ref b), .val (.int (3 : Int32)), .val (.int (cs.getD 2 0))] 139 d_prog_61_m5_136 rfl rfl rfl rfl ?_
                refine Go.goto 14 d_prog_61_m5_139 (by decide) rfl ?_
                have R : refV (cs.getD 2 0) = [38, 35, 51, 57, 59] := by unfold refV; rw [if_neg g38, if_neg g60, if_neg g62, if_neg g34, if_pos g39]
                have BN : Bd Z h47 b d2 kd2 u2 cap2 (outV (cs.take 3)) := by rw [outS hq, R]; exact B2
                have hl2 : h.size ≤ d2 := o2.elim (fun q => by rw [q]; exact hlJ) (fun q => Nat.le_trans (Ext.tr EJ E43).1 q)
                have nd2 : d2 ≠ b := o2.elim (fun q => by rw [q]; exact ndJ) (fun q => (ne_of_new f44.e.lt q).symm)
                refine Go.mono (k' := 11) (n' := 517) (nl rfl) (nl rfl) ?_
                have f48 := CHr.safe c47 L45 f45
                have L48 := Nat.lt_of_lt_of_le L45 c47.2.1
                exact J3 _ _ _ _ _ _ _ (Or.inr ⟨_, rfl, rfl⟩) (by omega) E2 BN f48 S2 hl2 nd2
              · refine Go.switchMiss 130 d_prog_61_m5_29 (by decide) (miss5 g38 g60 g62 g34 g39) (by decide) rfl ?_
                refine Go.aload_n 131 d_prog_61_m5_130 rfl rfl rfl ?_
                refine Go.iload_n 132 d_prog_61_m5_131 rfl rfl ?_
                have f49 := CHr.safe (CHr.trans c16 c18) BJ.e.lt SbJ
                have L49 := Nat.lt_of_lt_of_le BJ.e.lt (CHr.trans c16 c18).2.1
                have f50 := CHr.safe (CHr.trans c16 c18) BJ.ar.lt SdJ
                have L50 := Nat.lt_of_lt_of_le BJ.ar.lt (CHr.trans c16 c18).2.1
                refine Go.invokevirtual (rest := []) 0 b [.int (cs.getD 2 0)] 135 d_prog_61_m5_132 rfl BJ.e (W.1 217 rfl) (W.1 218 rfl) (fun s hs => notFace_of_selects (args := #[]) (mvT hs (W.1 220 rfl))) (W.1 220 rfl) (W.1 219 rfl) (W.1 40 rfl) (W.1 221 rfl) (by decide) (cAppCS W U hcc BJ (by omega) f49 z1 f50 zd ndJ) (by decide +kernel : parseMethodDescriptor "(C)Ljava/lang/StringBuilder;" = some ⟨[.char], (some (.object "java/lang/StringBuilder"))⟩) rfl rfl rfl (nl rfl) (nl rfl) (nl rfl) (nl rfl) (nl rfl) (fun v51 vm51 h51 ⟨d2, kd2, u2, cap2, rv, K2, B2, o2, S2⟩ c51 => ?_)
                subst rv
                have E2 := Ext.kp2 EJ K2 hb hlJ
                refine Go.pop 136 d_prog_61_m5_135 rfl rfl ?_
                refine Go.iinc (3 : Int32) #[.val (.ref a), .val (.ref b), .val (.int (3 : Int32)), .val (.int (cs.getD 2 0))] 139 d_prog_61_m5_136 rfl rfl rfl rfl ?_
                refine Go.goto 14 d_prog_61_m5_139 (by decide) rfl ?_
                have R : refV (cs.getD 2 0) = [(cs.getD 2 0)] := by unfold refV; rw [if_neg g38, if_neg g60, if_neg g62, if_neg g34, if_neg g39]
                have BN : Bd Z h51 b d2 kd2 u2 cap2 (outV (cs.take 3)) := by rw [outS hq, R]; exact B2
                have hl2 : h.size ≤ d2 := o2.elim (fun q => by rw [q]; exact hlJ) (fun q => Nat.le_trans EJ.1 q)
                have nd2 : d2 ≠ b := o2.elim (fun q => by rw [q]; exact ndJ) (fun q => (ne_of_new BJ.e.lt q).symm)
                refine Go.mono (k' := 11) (n' := 517) (nl rfl) (nl rfl) ?_
                have f52 := CHr.safe c51 L49 f49
                have L52 := Nat.lt_of_lt_of_le L49 c51.2.1
                exact J3 _ _ _ _ _ _ _ (Or.inr ⟨_, rfl, rfl⟩) (by omega) E2 BN f52 S2 hl2 nd2
    · refine Go.if_icmpge 142 22 d_prog_61_m5_19 (by decide) rfl rfl (fun q53 => ?_) (fun q53 => absurd ((ofNat_lt (i := 2) (by decide) (by omega)).mp q53) hq)
      refine Go.aload_n 143 d_prog_61_m5_142 rfl rfl rfl ?_
      refine Go.invokevirtual (rest := []) 0 b [] 146 d_prog_61_m5_143 rfl BJ.e (W.1 152 rfl) (W.1 153 rfl) (fun s hs => notFace_of_selects (args := #[]) (mvT hs (W.1 155 rfl))) (W.1 155 rfl) (W.1 154 rfl) (W.1 40 rfl) (W.1 156 rfl) (by decide) (cTS W BJ) (by decide +kernel : parseMethodDescriptor "()Ljava/lang/String;" = some ⟨[], (some (.object "java/lang/String"))⟩) rfl rfl rfl (nl rfl) (nl rfl) (nl rfl) (nl rfl) (nl rfl) (fun v54 vm54 h54 ⟨z9, rv, E9, T9⟩ c54 => ?_)
      subst rv
      rw [List.take_of_length_le (by omega)] at T9
      exact Go.areturn d_prog_61_m5_146 rfl rfl rfl (nl rfl) (nl rfl) (fun vm' ch => ⟨z9, rfl, (Ext.tr EJ E9), T9⟩)
  have J1 : ∀ (dJ : Addr) (kJ : ClassId) (uJ cJ : Nat) (vmJ : Vm) (hJ : Heap) (l3 : Slot), (l3 = .unset ∨ ∃ w : Value, l3 = .val w ∧ w.category = 1) → 1 ≤ cs.length → Ext h hJ → Bd Z hJ b dJ kJ uJ cJ (outV (cs.take 1)) → Safe Z EL vmJ hJ b → Safe Z EL vmJ hJ dJ → h.size ≤ dJ → dJ ≠ b → Go false p l e ({ frames := 9, cells := 13, slots := 601, locals := 132 } : Room) s m #[.ref a] below meth c prog_61_method_5_code 4 "escape" (some (.object "java/lang/String")) Z a0 EL "com/example/guide/guide/web/Pages" (fun v vm' h' => ∃ z, v = some (.ref z) ∧ Ext h h' ∧ StrU Z h' z (outV cs)) vmJ hJ 5 177 14 #[.val (.ref a), .val (.ref b), .val (.int (1 : Int32)), l3] [] := by
    intro dJ kJ uJ cJ vmJ hJ l3 o3 hi EJ BJ SbJ SdJ hlJ ndJ
    have zd : Z.heap.size ≤ dJ := Nat.le_trans hEz.1 hlJ
    have lt := take_le (cs := cs) 1
    refine Go.iload_n 15 d_prog_61_m5_14 rfl rfl ?_
    refine Go.aload_n 16 d_prog_61_m5_15 rfl rfl rfl ?_
    have f55 := T.ext EJ
    refine Go.invokevirtual (rest := [.int (1 : Int32)]) 1 a [] 19 d_prog_61_m5_16 rfl f55.exa (W.1 41 rfl) (W.1 42 rfl) (fun s hs => notFace_of_selects (args := #[]) (mvT hs (W.1 44 rfl))) (W.1 44 rfl) (W.1 43 rfl) (W.1 6 rfl) (W.1 45 rfl) (by decide) (cSLen W f55) (by decide +kernel : parseMethodDescriptor "()I" = some ⟨[], (some .int)⟩) rfl rfl rfl (nl rfl) (nl rfl) (nl rfl) (nl rfl) (nl rfl) (fun v56 vm56 h56 ⟨rv, hh⟩ c56 => ?_)
    subst rv; replace hh := hh.symm; subst hh
    by_cases hq : 1 < cs.length
    · refine Go.if_icmpge 142 22 d_prog_61_m5_19 (by decide) rfl rfl (fun q57 => absurd ((ofNat_lt (i := 1) (by decide) (by omega)).mpr hq) q57) (fun q57 => ?_)
      refine Go.aload_n 23 d_prog_61_m5_22 rfl rfl rfl ?_
      refine Go.iload_n 24 d_prog_61_m5_23 rfl rfl ?_
      refine Go.invokevirtual (rest := []) 0 a [.int (1 : Int32)] 27 d_prog_61_m5_24 rfl f55.exa (W.1 66 rfl) (W.1 67 rfl) (fun s hs => notFace_of_selects (args := #[]) (mvT hs (W.1 69 rfl))) (W.1 69 rfl) (W.1 68 rfl) (W.1 6 rfl) (W.1 70 rfl) (by decide) (cSAt W (i_ := 1) U f55 hq) (by decide +kernel : parseMethodDescriptor "(I)C" = some ⟨[.int], (some .char)⟩) rfl rfl rfl (nl rfl) (nl rfl) (nl rfl) (nl rfl) (nl rfl) (fun v58 vm58 h58 ⟨rv, hh⟩ c58 => ?_)
      subst rv; replace hh := hh.symm; subst hh
      refine Go.istore_n #[.val (.ref a), .val (.ref b), .val (.int (1 : Int32)), .val (.int (cs.getD 1 0))] 28 d_prog_61_m5_27 rfl (XS.store1 rfl o3 rfl) ?_
      refine Go.iload_n 29 d_prog_61_m5_28 rfl rfl ?_
      have hcc : C16 (cs.getD 1 0) := T.ch _ (getIn hq)
      by_cases g38 : (cs.getD 1 0) = 38
      · refine Go.switchHit (a := 38) (off := 51) 80 d_prog_61_m5_29 (by decide) (by rw [g38]; rfl) (by decide) rfl ?_
        refine Go.aload_n 81 d_prog_61_m5_80 rfl rfl rfl ?_
        refine Go.ldcS (text := "&amp;") (vs := [.int (38), .int (97), .int (109), .int (112), .int (59)]) (z := (5 : Int32)) 20 83 d_prog_61_m5_81 rfl rfl (W.1 88 rfl) (W.sub (by decide +kernel)) hm.1 lit_ok__26amp_3b.1 (by decide) (by decide) lit_ok__26amp_3b.2 (by decide) (nl rfl) (nl rfl) (fun y1 b59 k59 vm59 h59 E59 A59 C59 V59 B59 N59 c59 => ?_)
        have T59 : Str Z h59 y1 [38, 97, 109, 112, 59] := ⟨b59, k59, A59, C59, V59, B59, by decide, by decide⟩
        have f60 := BJ.ext E59
        have f61 := CHr.safe (CHr.trans c56 (CHr.trans c58 c59)) BJ.e.lt SbJ
        have L61 := Nat.lt_of_lt_of_le BJ.e.lt (CHr.trans c56 (CHr.trans c58 c59)).2.1
        have f62 := CHr.safe (CHr.trans c56 (CHr.trans c58 c59)) BJ.ar.lt SdJ
        have L62 := Nat.lt_of_lt_of_le BJ.ar.lt (CHr.trans c56 (CHr.trans c58 c59)).2.1
        refine Go.invokevirtual (rest := []) 0 b [.ref y1] 86 d_prog_61_m5_83 rfl f60.e (W.1 91 rfl) (W.1 92 rfl) (fun s hs => notFace_of_selects (args := #[]) (mvT hs (W.1 94 rfl))) (W.1 94 rfl) (W.1 93 rfl) (W.1 40 rfl) (W.1 95 rfl) (by decide) (cAppS W U T59 f60 (by simp only [List.length_cons, List.length_nil]; omega) f61 z1 f62 zd ndJ (fun F => by cases Fld.uniq F V59; exact (N59 _ f62).2.symm)) (by decide +kernel : parseMethodDescriptor "(Ljava/lang/String;)Ljava/lang/StringBuilder;" = some ⟨[(.object "java/lang/String")], (some (.object "java/lang/StringBuilder"))⟩) rfl rfl rfl (nl rfl) (nl rfl) (nl rfl) (nl rfl) (nl rfl) (fun v63 vm63 h63 ⟨d2, kd2, u2, cap2, rv, K2, B2, o2, S2⟩ c63 => ?_)
        subst rv
        have E2 := Ext.kp2 (Ext.tr EJ E59) K2 hb hlJ
        refine Go.pop 87 d_prog_61_m5_86 rfl rfl ?_
        refine Go.goto 136 d_prog_61_m5_87 (by decide) rfl ?_
        refine Go.iinc (2 : Int32) #[.val (.ref a), .val (.ref b), .val (.int (2 : Int32)), .val (.int (cs.getD 1 0))] 139 d_prog_61_m5_136 rfl rfl rfl rfl ?_
        refine Go.goto 14 d_prog_61_m5_139 (by decide) rfl ?_
        have R : refV (cs.getD 1 0) = [38, 97, 109, 112, 59] := by unfold refV; rw [if_pos g38]
        have BN : Bd Z h63 b d2 kd2 u2 cap2 (outV (cs.take 2)) := by rw [outS hq, R]; exact B2
        have hl2 : h.size ≤ d2 := o2.elim (fun q => by rw [q]; exact hlJ) (fun q => Nat.le_trans (Ext.tr EJ E59).1 q)
        have nd2 : d2 ≠ b := o2.elim (fun q => by rw [q]; exact ndJ) (fun q => (ne_of_new f60.e.lt q).symm)
        refine Go.mono (k' := 8) (n' := 347) (nl rfl) (nl rfl) ?_
        have f64 := CHr.safe c63 L61 f61
        have L64 := Nat.lt_of_lt_of_le L61 c63.2.1
        exact J2 _ _ _ _ _ _ _ (Or.inr ⟨_, rfl, rfl⟩) (by omega) E2 BN f64 S2 hl2 nd2
      · by_cases g60 : (cs.getD 1 0) = 60
        · refine Go.switchHit (a := 60) (off := 61) 90 d_prog_61_m5_29 (by decide) (by rw [g60]; rfl) (by decide) rfl ?_
          refine Go.aload_n 91 d_prog_61_m5_90 rfl rfl rfl ?_
          refine Go.ldcS (text := "&lt;") (vs := [.int (38), .int (108), .int (116), .int (59)]) (z := (4 : Int32)) 16 93 d_prog_61_m5_91 rfl rfl (W.1 242 rfl) (W.sub (by decide +kernel)) hm.2.1 lit_ok__26lt_3b.1 (by decide) (by decide) lit_ok__26lt_3b.2 (by decide) (nl rfl) (nl rfl) (fun y1 b65 k65 vm65 h65 E65 A65 C65 V65 B65 N65 c65 => ?_)
          have T65 : Str Z h65 y1 [38, 108, 116, 59] := ⟨b65, k65, A65, C65, V65, B65, by decide, by decide⟩
          have f66 := BJ.ext E65
          have f67 := CHr.safe (CHr.trans c56 (CHr.trans c58 c65)) BJ.e.lt SbJ
          have L67 := Nat.lt_of_lt_of_le BJ.e.lt (CHr.trans c56 (CHr.trans c58 c65)).2.1
          have f68 := CHr.safe (CHr.trans c56 (CHr.trans c58 c65)) BJ.ar.lt SdJ
          have L68 := Nat.lt_of_lt_of_le BJ.ar.lt (CHr.trans c56 (CHr.trans c58 c65)).2.1
          refine Go.invokevirtual (rest := []) 0 b [.ref y1] 96 d_prog_61_m5_93 rfl f66.e (W.1 91 rfl) (W.1 92 rfl) (fun s hs => notFace_of_selects (args := #[]) (mvT hs (W.1 94 rfl))) (W.1 94 rfl) (W.1 93 rfl) (W.1 40 rfl) (W.1 95 rfl) (by decide) (cAppS W U T65 f66 (by simp only [List.length_cons, List.length_nil]; omega) f67 z1 f68 zd ndJ (fun F => by cases Fld.uniq F V65; exact (N65 _ f68).2.symm)) (by decide +kernel : parseMethodDescriptor "(Ljava/lang/String;)Ljava/lang/StringBuilder;" = some ⟨[(.object "java/lang/String")], (some (.object "java/lang/StringBuilder"))⟩) rfl rfl rfl (nl rfl) (nl rfl) (nl rfl) (nl rfl) (nl rfl) (fun v69 vm69 h69 ⟨d2, kd2, u2, cap2, rv, K2, B2, o2, S2⟩ c69 => ?_)
          subst rv
          have E2 := Ext.kp2 (Ext.tr EJ E65) K2 hb hlJ
          refine Go.pop 97 d_prog_61_m5_96 rfl rfl ?_
          refine Go.goto 136 d_prog_61_m5_97 (by decide) rfl ?_
          refine Go.iinc (2 : Int32) #[.val (.ref a), .val (.ref b), .val (.int (2 : Int32)), .val (.int (cs.getD 1 0))] 139 d_prog_61_m5_136 rfl rfl rfl rfl ?_
          refine Go.goto 14 d_prog_61_m5_139 (by decide) rfl ?_
          have R : refV (cs.getD 1 0) = [38, 108, 116, 59] := by unfold refV; rw [if_neg g38, if_pos g60]
          have BN : Bd Z h69 b d2 kd2 u2 cap2 (outV (cs.take 2)) := by rw [outS hq, R]; exact B2
          have hl2 : h.size ≤ d2 := o2.elim (fun q => by rw [q]; exact hlJ) (fun q => Nat.le_trans (Ext.tr EJ E65).1 q)
          have nd2 : d2 ≠ b := o2.elim (fun q => by rw [q]; exact ndJ) (fun q => (ne_of_new f66.e.lt q).symm)
          refine Go.mono (k' := 8) (n' := 347) (nl rfl) (nl rfl) ?_
          have f70 := CHr.safe c69 L67 f67
          have L70 := Nat.lt_of_lt_of_le L67 c69.2.1
          exact J2 _ _ _ _ _ _ _ (Or.inr ⟨_, rfl, rfl⟩) (by omega) E2 BN f70 S2 hl2 nd2
        · by_cases g62 : (cs.getD 1 0) = 62
          · refine Go.switchHit (a := 62) (off := 71) 100 d_prog_61_m5_29 (by decide) (by rw [g62]; rfl) (by decide) rfl ?_
            refine Go.aload_n 101 d_prog_61_m5_100 rfl rfl rfl ?_
            refine Go.ldcS (text := "&gt;") (vs := [.int (38), .int (103), .int (116), .int (59)]) (z := (4 : Int32)) 16 103 d_prog_61_m5_101 rfl rfl (W.1 302 rfl) (W.sub (by decide +kernel)) hm.2.2.1 lit_ok__26gt_3b.1 (by decide) (by decide) lit_ok__26gt_3b.2 (by decide) (nl rfl) (nl rfl) (fun y1 b71 k71 vm71 h71 E71 A71 C71 V71 B71 N71 c71 => ?_)
            have T71 : Str Z h71 y1 [38, 103, 116, 59] := ⟨b71, k71, A71, C71, V71, B71, by decide, by decide⟩
            have f72 := BJ.ext E71
            have f73 := CHr.safe (CHr.trans c56 (CHr.trans c58 c71)) BJ.e.lt SbJ
            have L73 := Nat.lt_of_lt_of_le BJ.e.lt (CHr.trans c56 (CHr.trans c58 c71)).2.1
            have f74 := CHr.safe (CHr.trans c56 (CHr.trans c58 c71)) BJ.ar.lt SdJ
            have L74 := Nat.lt_of_lt_of_le BJ.ar.lt (CHr.trans c56 (CHr.trans c58 c71)).2.1
            refine Go.invokevirtual (rest := []) 0 b [.ref y1] 106 d_prog_61_m5_103 rfl f72.e (W.1 91 rfl) (W.1 92 rfl) (fun s hs => notFace_of_selects (args := #[]) (mvT hs (W.1 94 rfl))) (W.1 94 rfl) (W.1 93 rfl) (W.1 40 rfl) (W.1 95 rfl) (by decide) (cAppS W U T71 f72 (by simp only [List.length_cons, List.length_nil]; omega) f73 z1 f74 zd ndJ (fun F => by cases Fld.uniq F V71; exact (N71 _ f74).2.symm)) (by decide +kernel : parseMethodDescriptor "(Ljava/lang/String;)Ljava/lang/StringBuilder;" = some ⟨[(.object "java/lang/String")], (some (.object "java/lang/StringBuilder"))⟩) rfl rfl rfl (nl rfl) (nl rfl) (nl rfl) (nl rfl) (nl rfl) (fun v75 vm75 h75 ⟨d2, kd2, u2, cap2, rv, K2, B2, o2, S2⟩ c75 => ?_)
            subst rv
            have E2 := Ext.kp2 (Ext.tr EJ E71) K2 hb hlJ
            refine Go.pop 107 d_prog_61_m5_106 rfl rfl ?_
            refine Go.goto 136 d_prog_61_m5_107 (by decide) rfl ?_
            refine Go.iinc (2 : Int32) #[.val (.ref a), .val (.ref b), .val (.int (2 : Int32)), .val (.int (cs.getD 1 0))] 139 d_prog_61_m5_136 rfl rfl rfl rfl ?_
            refine Go.goto 14 d_prog_61_m5_139 (by decide) rfl ?_
            have R : refV (cs.getD 1 0) = [38, 103, 116, 59] := by unfold refV; rw [if_neg g38, if_neg g60, if_pos g62]
            have BN : Bd Z h75 b d2 kd2 u2 cap2 (outV (cs.take 2)) := by rw [outS hq, R]; exact B2
            have hl2 : h.size ≤ d2 := o2.elim (fun q => by rw [q]; exact hlJ) (fun q => Nat.le_trans (Ext.tr EJ E71).1 q)
            have nd2 : d2 ≠ b := o2.elim (fun q => by rw [q]; exact ndJ) (fun q => (ne_of_new f72.e.lt q).symm)
            refine Go.mono (k' := 8) (n' := 347) (nl rfl) (nl rfl) ?_
            have f76 := CHr.safe c75 L73 f73
            have L76 := Nat.lt_of_lt_of_le L73 c75.2.1
            exact J2 _ _ _ _ _ _ _ (Or.inr ⟨_, rfl, rfl⟩) (by omega) E2 BN f76 S2 hl2 nd2
          · by_cases g34 : (cs.getD 1 0) = 34
            · refine Go.switchHit (a := 34) (off := 81) 110 d_prog_61_m5_29 (by decide) (by rw [g34]; rfl) (by decide) rfl ?_
              refine Go.aload_n 111 d_prog_61_m5_110 rfl rfl rfl ?_
              refine Go.ldcS (text := "&quot;") (vs := [.int (38), .int (113), .int (117), .int (111), .int (116), .int (59)]) (z := (6 : Int32)) 24 113 d_prog_61_m5_111 rfl rfl (W.1 208 rfl) (W.sub (by decide +kernel)) hm.2.2.2.1 lit_ok__26quot_3b.1 (by decide) (by decide) lit_ok__26quot_3b.2 (by decide) (nl rfl) (nl rfl) (fun y1 b77 k77 vm77 h77 E77 A77 C77 V77 B77 N77 c77 => ?_)
              have T77 : Str Z h77 y1 [38, 113, 117, 111, 116, 59] := ⟨b77, k77, A77, C77, V77, B77, by decide, by decide⟩
              have f78 := BJ.ext E77
              have f79 := CHr.safe (CHr.trans c56 (CHr.trans c58 c77)) BJ.e.lt SbJ
              have L79 := Nat.lt_of_lt_of_le BJ.e.lt (CHr.trans c56 (CHr.trans c58 c77)).2.1
              have f80 := CHr.safe (CHr.trans c56 (CHr.trans c58 c77)) BJ.ar.lt SdJ
              have L80 := Nat.lt_of_lt_of_le BJ.ar.lt (CHr.trans c56 (CHr.trans c58 c77)).2.1
              refine Go.invokevirtual (rest := []) 0 b [.ref y1] 116 d_prog_61_m5_113 rfl f78.e (W.1 91 rfl) (W.1 92 rfl) (fun s hs => notFace_of_selects (args := #[]) (mvT hs (W.1 94 rfl))) (W.1 94 rfl) (W.1 93 rfl) (W.1 40 rfl) (W.1 95 rfl) (by decide) (cAppS W U T77 f78 (by simp only [List.length_cons, List.length_nil]; omega) f79 z1 f80 zd ndJ (fun F => by cases Fld.uniq F V77; exact (N77 _ f80).2.symm)) (by decide +kernel : parseMethodDescriptor "(Ljava/lang/String;)Ljava/lang/StringBuilder;" = some ⟨[(.object "java/lang/String")], (some (.object "java/lang/StringBuilder"))⟩) rfl rfl rfl (nl rfl) (nl rfl) (nl rfl) (nl rfl) (nl rfl) (fun v81 vm81 h81 ⟨d2, kd2, u2, cap2, rv, K2, B2, o2, S2⟩ c81 => ?_)
              subst rv
              have E2 := Ext.kp2 (Ext.tr EJ E77) K2 hb hlJ
              refine Go.pop 117 d_prog_61_m5_116 rfl rfl ?_
              refine Go.goto 136 d_prog_61_m5_117 (by decide) rfl ?_
              refine Go.iinc (2 : Int32) #[.val (.ref a), .val (.ref b), .val (.int (2 : Int32)), .val (.int (cs.getD 1 0))] 139 d_prog_61_m5_136 rfl rfl rfl rfl ?_
              refine Go.goto 14 d_prog_61_m5_139 (by decide) rfl ?_
              have R : refV (cs.getD 1 0) = [38, 113, 117, 111, 116, 59] := by unfold refV; rw [if_neg g38, if_neg g60, if_neg g62, if_pos g34]
              have BN : Bd Z h81 b d2 kd2 u2 cap2 (outV (cs.take 2)) := by rw [outS hq, R]; exact B2
              have hl2 : h.size ≤ d2 := o2.elim (fun q => by rw [q]; exact hlJ) (fun q => Nat.le_trans (Ext.tr EJ E77).1 q)
              have nd2 : d2 ≠ b := o2.elim (fun q => by rw [q]; exact ndJ) (fun q => (ne_of_new f78.e.lt q).symm)
              refine Go.mono (k' := 8) (n' := 347) (nl rfl) (nl rfl) ?_
              have f82 := CHr.safe c81 L79 f79
              have L82 := Nat.lt_of_lt_of_le L79 c81.2.1
              exact J2 _ _ _ _ _ _ _ (Or.inr ⟨_, rfl, rfl⟩) (by omega) E2 BN f82 S2 hl2 nd2
            · by_cases g39 : (cs.getD 1 0) = 39
              · refine Go.switchHit (a := 39) (off := 91) 120 d_prog_61_m5_29 (by decide) (by rw [g39]; rfl) (by decide) rfl ?_
                refine Go.aload_n 121 d_prog_61_m5_120 rfl rfl rfl ?_
                refine Go.ldcS (text := "&#39;") (vs := [.int (38), .int (35), .int (51), .int (57), .int (59)]) (z := (5 : Int32)) 20 123 d_prog_61_m5_121 rfl rfl (W.1 207 rfl) (W.sub (by decide +kernel)) hm.2.2.2.2 lit_ok__26_2339_3b.1 (by decide) (by decide) lit_ok__26_2339_3b.2 (by decide) (nl rfl) (nl rfl) (fun y1 b83 k83 vm83 h83 E83 A83 C83 V83 B83 N83 c83 => ?_)
                have T83 : Str Z h83 y1 [38, 35, 51, 57, 59] := ⟨b83, k83, A83, C83, V83, B83, by decide, by decide⟩
                have f84 := BJ.ext E83
                have f85 := CHr.safe (CHr.trans c56 (CHr.trans c58 c83)) BJ.e.lt SbJ
                have L85 := Nat.lt_of_lt_of_le BJ.e.lt (CHr.trans c56 (CHr.trans c58 c83)).2.1
                have f86 := CHr.safe (CHr.trans c56 (CHr.trans c58 c83)) BJ.ar.lt SdJ
                have L86 := Nat.lt_of_lt_of_le BJ.ar.lt (CHr.trans c56 (CHr.trans c58 c83)).2.1
                refine Go.invokevirtual (rest := []) 0 b [.ref y1] 126 d_prog_61_m5_123 rfl f84.e (W.1 91 rfl) (W.1 92 rfl) (fun s hs => notFace_of_selects (args := #[]) (mvT hs (W.1 94 rfl))) (W.1 94 rfl) (W.1 93 rfl) (W.1 40 rfl) (W.1 95 rfl) (by decide) (cAppS W U T83 f84 (by simp only [List.length_cons, List.length_nil]; omega) f85 z1 f86 zd ndJ (fun F => by cases Fld.uniq F V83; exact (N83 _ f86).2.symm)) (by decide +kernel : parseMethodDescriptor "(Ljava/lang/String;)Ljava/lang/StringBuilder;" = some ⟨[(.object "java/lang/String")], (some (.object "java/lang/StringBuilder"))⟩) rfl rfl rfl (nl rfl) (nl rfl) (nl rfl) (nl rfl) (nl rfl) (fun v87 vm87 h87 ⟨d2, kd2, u2, cap2, rv, K2, B2, o2, S2⟩ c87 => ?_)
                subst rv
                have E2 := Ext.kp2 (Ext.tr EJ E83) K2 hb hlJ
                refine Go.pop 127 d_prog_61_m5_126 rfl rfl ?_
                refine Go.goto 136 d_prog_61_m5_127 (by decide) rfl ?_
                refine Go.iinc (2 : Int32) #[.val (.ref a), .val (.ref b), .val (.int (2 : Int32)), .val (.int (cs.getD 1 0))] 139 d_prog_61_m5_136 rfl rfl rfl rfl ?_
                refine Go.goto 14 d_prog_61_m5_139 (by decide) rfl ?_
                have R : refV (cs.getD 1 0) = [38, 35, 51, 57, 59] := by unfold refV; rw [if_neg g38, if_neg g60, if_neg g62, if_neg g34, if_pos g39]
                have BN : Bd Z h87 b d2 kd2 u2 cap2 (outV (cs.take 2)) := by rw [outS hq, R]; exact B2
                have hl2 : h.size ≤ d2 := o2.elim (fun q => by rw [q]; exact hlJ) (fun q => Nat.le_trans (Ext.tr EJ E83).1 q)
                have nd2 : d2 ≠ b := o2.elim (fun q => by rw [q]; exact ndJ) (fun q => (ne_of_new f84.e.lt q).symm)
                refine Go.mono (k' := 8) (n' := 347) (nl rfl) (nl rfl) ?_
                have f88 := CHr.safe c87 L85 f85
                have L88 := Nat.lt_of_lt_of_le L85 c87.2.1
                exact J2 _ _ _ _ _ _ _ (Or.inr ⟨_, rfl, rfl⟩) (by omega) E2 BN f88 S2 hl2 nd2
              · refine Go.switchMiss 130 d_prog_61_m5_29 (by decide) (miss5 g38 g60 g62 g34 g39) (by decide) rfl ?_
                refine Go.aload_n 131 d_prog_61_m5_130 rfl rfl rfl ?_
                refine Go.iload_n 132 d_prog_61_m5_131 rfl rfl ?_
                have f89 := CHr.safe (CHr.trans c56 c58) BJ.e.lt SbJ
                have L89 := Nat.lt_of_lt_of_le BJ.e.lt (CHr.trans c56 c58).2.1
                have f90 := CHr.safe (CHr.trans c56 c58) BJ.ar.lt SdJ
                have L90 := Nat.lt_of_lt_of_le BJ.ar.lt (CHr.trans c56 c58).2.1
                refine Go.invokevirtual (rest := []) 0 b [.int (cs.getD 1 0)] 135 d_prog_61_m5_132 rfl BJ.e (W.1 217 rfl) (W.1 218 rfl) (fun s hs => notFace_of_selects (args := #[]) (mvT hs (W.1 220 rfl))) (W.1 220 rfl) (W.1 219 rfl) (W.1 40 rfl) (W.1 221 rfl) (by decide) (cAppCS W U hcc BJ (by omega) f89 z1 f90 zd ndJ) (by decide +kernel : parseMethodDescriptor "(C)Ljava/lang/StringBuilder;" = some ⟨[.char], (some (.object "java/lang/StringBuilder"))⟩) rfl rfl rfl (nl rfl) (nl rfl) (nl rfl) (nl rfl) (nl rfl) (fun v91 vm91 h91 ⟨d2, kd2, u2, cap2, rv, K2, B2, o2, S2⟩ c91 => ?_)
                subst rv
                have E2 := Ext.kp2 EJ K2 hb hlJ
                refine Go.pop 136 d_prog_61_m5_135 rfl rfl ?_
                refine Go.iinc (2 : Int32) #[.val (.ref a), .val (.ref b), .val (.int (2 : Int32)), .val (.int (cs.getD 1 0))] 139 d_prog_61_m5_136 rfl rfl rfl rfl ?_
                refine Go.goto 14 d_prog_61_m5_139 (by decide) rfl ?_
                have R : refV (cs.getD 1 0) = [(cs.getD 1 0)] := by unfold refV; rw [if_neg g38, if_neg g60, if_neg g62, if_neg g34, if_neg g39]
                have BN : Bd Z h91 b d2 kd2 u2 cap2 (outV (cs.take 2)) := by rw [outS hq, R]; exact B2
                have hl2 : h.size ≤ d2 := o2.elim (fun q => by rw [q]; exact hlJ) (fun q => Nat.le_trans EJ.1 q)
                have nd2 : d2 ≠ b := o2.elim (fun q => by rw [q]; exact ndJ) (fun q => (ne_of_new BJ.e.lt q).symm)
                refine Go.mono (k' := 8) (n' := 347) (nl rfl) (nl rfl) ?_
                have f92 := CHr.safe c91 L89 f89
                have L92 := Nat.lt_of_lt_of_le L89 c91.2.1
                exact J2 _ _ _ _ _ _ _ (Or.inr ⟨_, rfl, rfl⟩) (by omega) E2 BN f92 S2 hl2 nd2
    · refine Go.if_icmpge 142 22 d_prog_61_m5_19 (by decide) rfl rfl (fun q93 => ?_) (fun q93 => absurd ((ofNat_lt (i := 1) (by decide) (by omega)).mp q93) hq)
      refine Go.aload_n 143 d_prog_61_m5_142 rfl rfl rfl ?_
      refine Go.invokevirtual (rest := []) 0 b [] 146 d_prog_61_m5_143 rfl BJ.e (W.1 152 rfl) (W.1 153 rfl) (fun s hs => notFace_of_selects (args := #[]) (mvT hs (W.1 155 rfl))) (W.1 155 rfl) (W.1 154 rfl) (W.1 40 rfl) (W.1 156 rfl) (by decide) (cTS W BJ) (by decide +kernel : parseMethodDescriptor "()Ljava/lang/String;" = some ⟨[], (some (.object "java/lang/String"))⟩) rfl rfl rfl (nl rfl) (nl rfl) (nl rfl) (nl rfl) (nl rfl) (fun v94 vm94 h94 ⟨z9, rv, E9, T9⟩ c94 => ?_)
      subst rv
      rw [List.take_of_length_le (by omega)] at T9
      exact Go.areturn d_prog_61_m5_146 rfl rfl rfl (nl rfl) (nl rfl) (fun vm' ch => ⟨z9, rfl, (Ext.tr EJ E9), T9⟩)
  have J0 : ∀ (dJ : Addr) (kJ : ClassId) (uJ cJ : Nat) (vmJ : Vm) (hJ : Heap) (l3 : Slot), (l3 = .unset ∨ ∃ w : Value, l3 = .val w ∧ w.category = 1) → 0 ≤ cs.length → Ext h hJ → Bd Z hJ b dJ kJ uJ cJ (outV (cs.take 0)) → Safe Z EL vmJ hJ b → Safe Z EL vmJ hJ dJ → h.size ≤ dJ → dJ ≠ b → Go false p l e ({ frames := 9, cells := 13, slots := 601, locals := 132 } : Room) s m #[.ref a] below meth c prog_61_method_5_code 4 "escape" (some (.object "java/lang/String")) Z a0 EL "com/example/guide/guide/web/Pages" (fun v vm' h' => ∃ z, v = some (.ref z) ∧ Ext h h' ∧ StrU Z h' z (outV cs)) vmJ hJ 2 7 14 #[.val (.ref a), .val (.ref b), .val (.int (0 : Int32)), l3] [] := by
    intro dJ kJ uJ cJ vmJ hJ l3 o3 hi EJ BJ SbJ SdJ hlJ ndJ
    have zd : Z.heap.size ≤ dJ := Nat.le_trans hEz.1 hlJ
    have lt := take_le (cs := cs) 0
    refine Go.iload_n 15 d_prog_61_m5_14 rfl rfl ?_
    refine Go.aload_n 16 d_prog_61_m5_15 rfl rfl rfl ?_
    have f95 := T.ext EJ
    refine Go.invokevirtual (rest := [.int (0 : Int32)]) 1 a [] 19 d_prog_61_m5_16 rfl f95.exa (W.1 41 rfl) (W.1 42 rfl) (fun s hs => notFace_of_selects (args := #[]) (mvT hs (W.1 44 rfl))) (W.1 44 rfl) (W.1 43 rfl) (W.1 6 rfl) (W.1 45 rfl) (by decide) (cSLen W f95) (by decide +kernel : parseMethodDescriptor "()I" = some ⟨[], (some .int)⟩) rfl rfl rfl (nl rfl) (nl rfl) (nl rfl) (nl rfl) (nl rfl) (fun v96 vm96 h96 ⟨rv, hh⟩ c96 => ?_)
    subst rv; replace hh := hh.symm; subst hh
    by_cases hq : 0 < cs.length
    · refine Go.if_icmpge 142 22 d_prog_61_m5_19 (by decide) rfl rfl (fun q97 => absurd ((ofNat_lt (i := 0) (by decide) (by omega)).mpr hq) q97) (fun q97 => ?_)
      refine Go.aload_n 23 d_prog_61_m5_22 rfl rfl rfl ?_
      refine Go.iload_n 24 d_prog_61_m5_23 rfl rfl ?_
      refine Go.invokevirtual (rest := []) 0 a [.int (0 : Int32)] 27 d_prog_61_m5_24 rfl f95.exa (W.1 66 rfl) (W.1 67 rfl) (fun s hs => notFace_of_selects (args := #[]) (mvT hs (W.1 69 rfl))) (W.1 69 rfl) (W.1 68 rfl) (W.1 6 rfl) (W.1 70 rfl) (by decide) (cSAt W (i_ := 0) U f95 hq) (by decide +kernel : parseMethodDescriptor "(I)C" = some ⟨[.int], (some .char)⟩) rfl rfl rfl (nl rfl) (nl rfl) (nl rfl) (nl rfl) (nl rfl) (fun v98 vm98 h98 ⟨rv, hh⟩ c98 => ?_)
      subst rv; replace hh := hh.symm; subst hh
      refine Go.istore_n #[.val (.ref a), .val (.ref b), .val (.int (0 : Int32)), .val (.int (cs.getD 0 0))] 28 d_prog_61_m5_27 rfl (XS.store1 rfl o3 rfl) ?_
      refine Go.iload_n 29 d_prog_61_m5_28 rfl rfl ?_
      have hcc : C16 (cs.getD 0 0) := T.ch _ (getIn hq)
      by_cases g38 : (cs.getD 0 0) = 38
      · refine Go.switchHit (a := 38) (off := 51) 80 d_prog_61_m5_29 (by decide) (by rw [g38]; rfl) (by decide) rfl ?_
        refine Go.aload_n 81 d_prog_61_m5_80 rfl rfl rfl ?_
        refine Go.ldcS (text := "&amp;") (vs := [.int (38), .int (97), .int (109), .int (112), .int (59)]) (z := (5 : Int32)) 20 83 d_prog_61_m5_81 rfl rfl (W.1 88 rfl) (W.sub (by decide +kernel)) hm.1 lit_ok__26amp_3b.1 (by decide) (by decide) lit_ok__26amp_3b.2 (by decide) (nl rfl) (nl rfl) (fun y1 b99 k99 vm99 h99 E99 A99 C99 V99 B99 N99 c99 => ?_)
        have T99 : Str Z h99 y1 [38, 97, 109, 112, 59] := ⟨b99, k99, A99, C99, V99, B99, by decide, by decide⟩
        have f100 := BJ.ext E99
        have f101 := CHr.safe (CHr.trans c96 (CHr.trans c98 c99)) BJ.e.lt SbJ
        have L101 := Nat.lt_of_lt_of_le BJ.e.lt (CHr.trans c96 (CHr.trans c98 c99)).2.1
        have f102 := CHr.safe (CHr.trans c96 (CHr.trans c98 c99)) BJ.ar.lt SdJ
        have L102 := Nat.lt_of_lt_of_le BJ.ar.lt (CHr.trans c96 (CHr.trans c98 c99)).2.1
        refine Go.invokevirtual (rest := []) 0 b [.ref y1] 86 d_prog_61_m5_83 rfl f100.e (W.1 91 rfl) (W.1 92 rfl) (fun s hs => notFace_of_selects (args := #[]) (mvT hs (W.1 94 rfl))) (W.1 94 rfl) (W.1 93 rfl) (W.1 40 rfl) (W.1 95 rfl) (by decide) (cAppS W U T99 f100 (by simp only [List.length_cons, List.length_nil]; omega) f101 z1 f102 zd ndJ (fun F => by cases Fld.uniq F V99; exact (N99 _ f102).2.symm)) (by decide +kernel : parseMethodDescriptor "(Ljava/lang/String;)Ljava/lang/StringBuilder;" = some ⟨[(.object "java/lang/String")], (some (.object "java/lang/StringBuilder"))⟩) rfl rfl rfl (nl rfl) (nl rfl) (nl rfl) (nl rfl) (nl rfl) (fun v103 vm103 h103 ⟨d2, kd2, u2, cap2, rv, K2, B2, o2, S2⟩ c103 => ?_)
        subst rv
        have E2 := Ext.kp2 (Ext.tr EJ E99) K2 hb hlJ
        refine Go.pop 87 d_prog_61_m5_86 rfl rfl ?_
        refine Go.goto 136 d_prog_61_m5_87 (by decide) rfl ?_
        refine Go.iinc (1 : Int32) #[.val (.ref a), .val (.ref b), .val (.int (1 : Int32)), .val (.int (cs.getD 0 0))] 139 d_prog_61_m5_136 rfl rfl rfl rfl ?_
        refine Go.goto 14 d_prog_61_m5_139 (by decide) rfl ?_
        have R : refV (cs.getD 0 0) = [38, 97, 109, 112, 59] := by unfold refV; rw [if_pos g38]
        have BN : Bd Z h103 b d2 kd2 u2 cap2 (outV (cs.take 1)) := by rw [outS hq, R]; exact B2
        have hl2 : h.size ≤ d2 := o2.elim (fun q => by rw [q]; exact hlJ) (fun q => Nat.le_trans (Ext.tr EJ E99).1 q)
        have nd2 : d2 ≠ b := o2.elim (fun q => by rw [q]; exact ndJ) (fun q => (ne_of_new f100.e.lt q).symm)
        refine Go.mono (k' := 5) (n' := 177) (nl rfl) (nl rfl) ?_
        have f104 := CHr.safe c103 L101 f101
        have L104 := Nat.lt_of_lt_of_le L101 c103.2.1
        exact J1 _ _ _ _ _ _ _ (Or.inr ⟨_, rfl, rfl⟩) (by omega) E2 BN f104 S2 hl2 nd2
      · by_cases g60 : (cs.getD 0 0) = 60
        · refine Go.switchHit (a := 60) (off := 61) 90 d_prog_61_m5_29 (by decide) (by rw [g60]; rfl) (by decide) rfl ?_
          refine Go.aload_n 91 d_prog_61_m5_90 rfl rfl rfl ?_
          refine Go.ldcS (text := "&lt;") (vs := [.int (38), .int (108), .int (116), .int (59)]) (z := (4 : Int32)) 16 93 d_prog_61_m5_91 rfl rfl (W.1 242 rfl) (W.sub (by decide +kernel)) hm.2.1 lit_ok__26lt_3b.1 (by decide) (by decide) lit_ok__26lt_3b.2 (by decide) (nl rfl) (nl rfl) (fun y1 b105 k105 vm105 h105 E105 A105 C105 V105 B105 N105 c105 => ?_)
          have T105 : Str Z h105 y1 [38, 108, 116, 59] := ⟨b105, k105, A105, C105, V105, B105, by decide, by decide⟩
          have f106 := BJ.ext E105
          have f107 := CHr.safe (CHr.trans c96 (CHr.trans c98 c105)) BJ.e.lt SbJ
          have L107 := Nat.lt_of_lt_of_le BJ.e.lt (CHr.trans c96 (CHr.trans c98 c105)).2.1
          have f108 := CHr.safe (CHr.trans c96 (CHr.trans c98 c105)) BJ.ar.lt SdJ
          have L108 := Nat.lt_of_lt_of_le BJ.ar.lt (CHr.trans c96 (CHr.trans c98 c105)).2.1
          refine Go.invokevirtual (rest := []) 0 b [.ref y1] 96 d_prog_61_m5_93 rfl f106.e (W.1 91 rfl) (W.1 92 rfl) (fun s hs => notFace_of_selects (args := #[]) (mvT hs (W.1 94 rfl))) (W.1 94 rfl) (W.1 93 rfl) (W.1 40 rfl) (W.1 95 rfl) (by decide) (cAppS W U T105 f106 (by simp only [List.length_cons, List.length_nil]; omega) f107 z1 f108 zd ndJ (fun F => by cases Fld.uniq F V105; exact (N105 _ f108).2.symm)) (by decide +kernel : parseMethodDescriptor "(Ljava/lang/String;)Ljava/lang/StringBuilder;" = some ⟨[(.object "java/lang/String")], (some (.object "java/lang/StringBuilder"))⟩) rfl rfl rfl (nl rfl) (nl rfl) (nl rfl) (nl rfl) (nl rfl) (fun v109 vm109 h109 ⟨d2, kd2, u2, cap2, rv, K2, B2, o2, S2⟩ c109 => ?_)
          subst rv
          have E2 := Ext.kp2 (Ext.tr EJ E105) K2 hb hlJ
          refine Go.pop 97 d_prog_61_m5_96 rfl rfl ?_
          refine Go.goto 136 d_prog_61_m5_97 (by decide) rfl ?_
          refine Go.iinc (1 : Int32) #[.val (.ref a), .val (.ref b), .val (.int (1 : Int32)), .val (.int (cs.getD 0 0))] 139 d_prog_61_m5_136 rfl rfl rfl rfl ?_
          refine Go.goto 14 d_prog_61_m5_139 (by decide) rfl ?_
          have R : refV (cs.getD 0 0) = [38, 108, 116, 59] := by unfold refV; rw [if_neg g38, if_pos g60]
          have BN : Bd Z h109 b d2 kd2 u2 cap2 (outV (cs.take 1)) := by rw [outS hq, R]; exact B2
          have hl2 : h.size ≤ d2 := o2.elim (fun q => by rw [q]; exact hlJ) (fun q => Nat.le_trans (Ext.tr EJ E105).1 q)
          have nd2 : d2 ≠ b := o2.elim (fun q => by rw [q]; exact ndJ) (fun q => (ne_of_new f106.e.lt q).symm)
          refine Go.mono (k' := 5) (n' := 177) (nl rfl) (nl rfl) ?_
          have f110 := CHr.safe c109 L107 f107
          have L110 := Nat.lt_of_lt_of_le L107 c109.2.1
          exact J1 _ _ _ _ _ _ _ (Or.inr ⟨_, rfl, rfl⟩) (by omega) E2 BN f110 S2 hl2 nd2
        · by_cases g62 : (cs.getD 0 0) = 62
          · refine Go.switchHit (a := 62) (off := 71) 100 d_prog_61_m5_29 (by decide) (by rw [g62]; rfl) (by decide) rfl ?_
            refine Go.aload_n 101 d_prog_61_m5_100 rfl rfl rfl ?_
            refine Go.ldcS (text := "&gt;") (vs := [.int (38), .int (103), .int (116), .int (59)]) (z := (4 : Int32)) 16 103 d_prog_61_m5_101 rfl rfl (W.1 302 rfl) (W.sub (by decide +kernel)) hm.2.2.1 lit_ok__26gt_3b.1 (by decide) (by decide) lit_ok__26gt_3b.2 (by decide) (nl rfl) (nl rfl) (fun y1 b111 k111 vm111 h111 E111 A111 C111 V111 B111 N111 c111 => ?_)
            have T111 : Str Z h111 y1 [38, 103, 116, 59] := ⟨b111, k111, A111, C111, V111, B111, by decide, by decide⟩
            have f112 := BJ.ext E111
            have f113 := CHr.safe (CHr.trans c96 (CHr.trans c98 c111)) BJ.e.lt SbJ
            have L113 := Nat.lt_of_lt_of_le BJ.e.lt (CHr.trans c96 (CHr.trans c98 c111)).2.1
            have f114 := CHr.safe (CHr.trans c96 (CHr.trans c98 c111)) BJ.ar.lt SdJ
            have L114 := Nat.lt_of_lt_of_le BJ.ar.lt (CHr.trans c96 (CHr.trans c98 c111)).2.1
            refine Go.invokevirtual (rest := []) 0 b [.ref y1] 106 d_prog_61_m5_103 rfl f112.e (W.1 91 rfl) (W.1 92 rfl) (fun s hs => notFace_of_selects (args := #[]) (mvT hs (W.1 94 rfl))) (W.1 94 rfl) (W.1 93 rfl) (W.1 40 rfl) (W.1 95 rfl) (by decide) (cAppS W U T111 f112 (by simp only [List.length_cons, List.length_nil]; omega) f113 z1 f114 zd ndJ (fun F => by cases Fld.uniq F V111; exact (N111 _ f114).2.symm)) (by decide +kernel : parseMethodDescriptor "(Ljava/lang/String;)Ljava/lang/StringBuilder;" = some ⟨[(.object "java/lang/String")], (some (.object "java/lang/StringBuilder"))⟩) rfl rfl rfl (nl rfl) (nl rfl) (nl rfl) (nl rfl) (nl rfl) (fun v115 vm115 h115 ⟨d2, kd2, u2, cap2, rv, K2, B2, o2, S2⟩ c115 => ?_)
            subst rv
            have E2 := Ext.kp2 (Ext.tr EJ E111) K2 hb hlJ
            refine Go.pop 107 d_prog_61_m5_106 rfl rfl ?_
            refine Go.goto 136 d_prog_61_m5_107 (by decide) rfl ?_
            refine Go.iinc (1 : Int32) #[.val (.ref a), .val (.ref b), .val (.int (1 : Int32)), .val (.int (cs.getD 0 0))] 139 d_prog_61_m5_136 rfl rfl rfl rfl ?_
            refine Go.goto 14 d_prog_61_m5_139 (by decide) rfl ?_
            have R : refV (cs.getD 0 0) = [38, 103, 116, 59] := by unfold refV; rw [if_neg g38, if_neg g60, if_pos g62]
            have BN : Bd Z h115 b d2 kd2 u2 cap2 (outV (cs.take 1)) := by rw [outS hq, R]; exact B2
            have hl2 : h.size ≤ d2 := o2.elim (fun q => by rw [q]; exact hlJ) (fun q => Nat.le_trans (Ext.tr EJ E111).1 q)
            have nd2 : d2 ≠ b := o2.elim (fun q => by rw [q]; exact ndJ) (fun q => (ne_of_new f112.e.lt q).symm)
            refine Go.mono (k' := 5) (n' := 177) (nl rfl) (nl rfl) ?_
            have f116 := CHr.safe c115 L113 f113
            have L116 := Nat.lt_of_lt_of_le L113 c115.2.1
            exact J1 _ _ _ _ _ _ _ (Or.inr ⟨_, rfl, rfl⟩) (by omega) E2 BN f116 S2 hl2 nd2
          · by_cases g34 : (cs.getD 0 0) = 34
            · refine Go.switchHit (a := 34) (off := 81) 110 d_prog_61_m5_29 (by decide) (by rw [g34]; rfl) (by decide) rfl ?_
              refine Go.aload_n 111 d_prog_61_m5_110 rfl rfl rfl ?_
              refine Go.ldcS (text := "&quot;") (vs := [.int (38), .int (113), .int (117), .int (111), .int (116), .int (59)]) (z := (6 : Int32)) 24 113 d_prog_61_m5_111 rfl rfl (W.1 208 rfl) (W.sub (by decide +kernel)) hm.2.2.2.1 lit_ok__26quot_3b.1 (by decide) (by decide) lit_ok__26quot_3b.2 (by decide) (nl rfl) (nl rfl) (fun y1 b117 k117 vm117 h117 E117 A117 C117 V117 B117 N117 c117 => ?_)
              have T117 : Str Z h117 y1 [38, 113, 117, 111, 116, 59] := ⟨b117, k117, A117, C117, V117, B117, by decide, by decide⟩
              have f118 := BJ.ext E117
              have f119 := CHr.safe (CHr.trans c96 (CHr.trans c98 c117)) BJ.e.lt SbJ
              have L119 := Nat.lt_of_lt_of_le BJ.e.lt (CHr.trans c96 (CHr.trans c98 c117)).2.1
              have f120 := CHr.safe (CHr.trans c96 (CHr.trans c98 c117)) BJ.ar.lt SdJ
              have L120 := Nat.lt_of_lt_of_le BJ.ar.lt (CHr.trans c96 (CHr.trans c98 c117)).2.1
              refine Go.invokevirtual (rest := []) 0 b [.ref y1] 116 d_prog_61_m5_113 rfl f118.e (W.1 91 rfl) (W.1 92 rfl) (fun s hs => notFace_of_selects (args := #[]) (mvT hs (W.1 94 rfl))) (W.1 94 rfl) (W.1 93 rfl) (W.1 40 rfl) (W.1 95 rfl) (by decide) (cAppS W U T117 f118 (by simp only [List.length_cons, List.length_nil]; omega) f119 z1 f120 zd ndJ (fun F => by cases Fld.uniq F V117; exact (N117 _ f120).2.symm)) (by decide +kernel : parseMethodDescriptor "(Ljava/lang/String;)Ljava/lang/StringBuilder;" = some ⟨[(.object "java/lang/String")], (some (.object "java/lang/StringBuilder"))⟩) rfl rfl rfl (nl rfl) (nl rfl) (nl rfl) (nl rfl) (nl rfl) (fun v121 vm121 h121 ⟨d2, kd2, u2, cap2, rv, K2, B2, o2, S2⟩ c121 => ?_)
              subst rv
              have E2 := Ext.kp2 (Ext.tr EJ E117) K2 hb hlJ
              refine Go.pop 117 d_prog_61_m5_116 rfl rfl ?_
              refine Go.goto 136 d_prog_61_m5_117 (by decide) rfl ?_
              refine Go.iinc (1 : Int32) #[.val (.ref a), .val (.ref b), .val (.int (1 : Int32)), .val (.int (cs.getD 0 0))] 139 d_prog_61_m5_136 rfl rfl rfl rfl ?_
              refine Go.goto 14 d_prog_61_m5_139 (by decide) rfl ?_
              have R : refV (cs.getD 0 0) = [38, 113, 117, 111, 116, 59] := by unfold refV; rw [if_neg g38, if_neg g60, if_neg g62, if_pos g34]
              have BN : Bd Z h121 b d2 kd2 u2 cap2 (outV (cs.take 1)) := by rw [outS hq, R]; exact B2
              have hl2 : h.size ≤ d2 := o2.elim (fun q => by rw [q]; exact hlJ) (fun q => Nat.le_trans (Ext.tr EJ E117).1 q)
              have nd2 : d2 ≠ b := o2.elim (fun q => by rw [q]; exact ndJ) (fun q => (ne_of_new f118.e.lt q).symm)
              refine Go.mono (k' := 5) (n' := 177) (nl rfl) (nl rfl) ?_
              have f122 := CHr.safe c121 L119 f119
              have L122 := Nat.lt_of_lt_of_le L119 c121.2.1
              exact J1 _ _ _ _ _ _ _ (Or.inr ⟨_, rfl, rfl⟩) (by omega) E2 BN f122 S2 hl2 nd2
            · by_cases g39 : (cs.getD 0 0) = 39
              · refine Go.switchHit (a := 39) (off := 91) 120 d_prog_61_m5_29 (by decide) (by rw [g39]; rfl) (by decide) rfl ?_
                refine Go.aload_n 121 d_prog_61_m5_120 rfl rfl rfl ?_
                refine Go.ldcS (text := "&#39;") (vs := [.int (38), .int (35), .int (51), .int (57), .int (59)]) (z := (5 : Int32)) 20 123 d_prog_61_m5_121 rfl rfl (W.1 207 rfl) (W.sub (by decide +kernel)) hm.2.2.2.2 lit_ok__26_2339_3b.1 (by decide) (by decide) lit_ok__26_2339_3b.2 (by decide) (nl rfl) (nl rfl) (fun y1 b123 k123 vm123 h123 E123 A123 C123 V123 B123 N123 c123 => ?_)
                have T123 : Str Z h123 y1 [38, 35, 51, 57, 59] := ⟨b123, k123, A123, C123, V123, B123, by decide, by decide⟩
                have f124 := BJ.ext E123
                have f125 := CHr.safe (CHr.trans c96 (CHr.trans c98 c123)) BJ.e.lt SbJ
                have L125 := Nat.lt_of_lt_of_le BJ.e.lt (CHr.trans c96 (CHr.trans c98 c123)).2.1
                have f126 := CHr.safe (CHr.trans c96 (CHr.trans c98 c123)) BJ.ar.lt SdJ
                have L126 := Nat.lt_of_lt_of_le BJ.ar.lt (CHr.trans c96 (CHr.trans c98 c123)).2.1
                refine Go.invokevirtual (rest := []) 0 b [.ref y1] 126 d_prog_61_m5_123 rfl f124.e (W.1 91 rfl) (W.1 92 rfl) (fun s hs => notFace_of_selects (args := #[]) (mvT hs (W.1 94 rfl))) (W.1 94 rfl) (W.1 93 rfl) (W.1 40 rfl) (W.1 95 rfl) (by decide) (cAppS W U T123 f124 (by simp only [List.length_cons, List.length_nil]; omega) f125 z1 f126 zd ndJ (fun F => by cases Fld.uniq F V123; exact (N123 _ f126).2.symm)) (by decide +kernel : parseMethodDescriptor "(Ljava/lang/String;)Ljava/lang/StringBuilder;" = some ⟨[(.object "java/lang/String")], (some (.object "java/lang/StringBuilder"))⟩) rfl rfl rfl (nl rfl) (nl rfl) (nl rfl) (nl rfl) (nl rfl) (fun v127 vm127 h127 ⟨d2, kd2, u2, cap2, rv, K2, B2, o2, S2⟩ c127 => ?_)
                subst rv
                have E2 := Ext.kp2 (Ext.tr EJ E123) K2 hb hlJ
                refine Go.pop 127 d_prog_61_m5_126 rfl rfl ?_
                refine Go.goto 136 d_prog_61_m5_127 (by decide) rfl ?_
                refine Go.iinc (1 : Int32) #[.val (.ref a), .val (.ref b), .val (.int (1 : Int32)), .val (.int (cs.getD 0 0))] 139 d_prog_61_m5_136 rfl rfl rfl rfl ?_
                refine Go.goto 14 d_prog_61_m5_139 (by decide) rfl ?_
                have R : refV (cs.getD 0 0) = [38, 35, 51, 57, 59] := by unfold refV; rw [if_neg g38, if_neg g60, if_neg g62, if_neg g34, if_pos g39]
                have BN : Bd Z h127 b d2 kd2 u2 cap2 (outV (cs.take 1)) := by rw [outS hq, R]; exact B2
                have hl2 : h.size ≤ d2 := o2.elim (fun q => by rw [q]; exact hlJ) (fun q => Nat.le_trans (Ext.tr EJ E123).1 q)
                have nd2 : d2 ≠ b := o2.elim (fun q => by rw [q]; exact ndJ) (fun q => (ne_of_new f124.e.lt q).symm)
                refine Go.mono (k' := 5) (n' := 177) (nl rfl) (nl rfl) ?_
                have f128 := CHr.safe c127 L125 f125
                have L128 := Nat.lt_of_lt_of_le L125 c127.2.1
                exact J1 _ _ _ _ _ _ _ (Or.inr ⟨_, rfl, rfl⟩) (by omega) E2 BN f128 S2 hl2 nd2
              · refine Go.switchMiss 130 d_prog_61_m5_29 (by decide) (miss5 g38 g60 g62 g34 g39) (by decide) rfl ?_
                refine Go.aload_n 131 d_prog_61_m5_130 rfl rfl rfl ?_
                refine Go.iload_n 132 d_prog_61_m5_131 rfl rfl ?_
                have f129 := CHr.safe (CHr.trans c96 c98) BJ.e.lt SbJ
                have L129 := Nat.lt_of_lt_of_le BJ.e.lt (CHr.trans c96 c98).2.1
                have f130 := CHr.safe (CHr.trans c96 c98) BJ.ar.lt SdJ
                have L130 := Nat.lt_of_lt_of_le BJ.ar.lt (CHr.trans c96 c98).2.1
                refine Go.invokevirtual (rest := []) 0 b [.int (cs.getD 0 0)] 135 d_prog_61_m5_132 rfl BJ.e (W.1 217 rfl) (W.1 218 rfl) (fun s hs => notFace_of_selects (args := #[]) (mvT hs (W.1 220 rfl))) (W.1 220 rfl) (W.1 219 rfl) (W.1 40 rfl) (W.1 221 rfl) (by decide) (cAppCS W U hcc BJ (by omega) f129 z1 f130 zd ndJ) (by decide +kernel : parseMethodDescriptor "(C)Ljava/lang/StringBuilder;" = some ⟨[.char], (some (.object "java/lang/StringBuilder"))⟩) rfl rfl rfl (nl rfl) (nl rfl) (nl rfl) (nl rfl) (nl rfl) (fun v131 vm131 h131 ⟨d2, kd2, u2, cap2, rv, K2, B2, o2, S2⟩ c131 => ?_)
                subst rv
                have E2 := Ext.kp2 EJ K2 hb hlJ
                refine Go.pop 136 d_prog_61_m5_135 rfl rfl ?_
                refine Go.iinc (1 : Int32) #[.val (.ref a), .val (.ref b), .val (.int (1 : Int32)), .val (.int (cs.getD 0 0))] 139 d_prog_61_m5_136 rfl rfl rfl rfl ?_
                refine Go.goto 14 d_prog_61_m5_139 (by decide) rfl ?_
                have R : refV (cs.getD 0 0) = [(cs.getD 0 0)] := by unfold refV; rw [if_neg g38, if_neg g60, if_neg g62, if_neg g34, if_neg g39]
                have BN : Bd Z h131 b d2 kd2 u2 cap2 (outV (cs.take 1)) := by rw [outS hq, R]; exact B2
                have hl2 : h.size ≤ d2 := o2.elim (fun q => by rw [q]; exact hlJ) (fun q => Nat.le_trans EJ.1 q)
                have nd2 : d2 ≠ b := o2.elim (fun q => by rw [q]; exact ndJ) (fun q => (ne_of_new BJ.e.lt q).symm)
                refine Go.mono (k' := 5) (n' := 177) (nl rfl) (nl rfl) ?_
                have f132 := CHr.safe c131 L129 f129
                have L132 := Nat.lt_of_lt_of_le L129 c131.2.1
                exact J1 _ _ _ _ _ _ _ (Or.inr ⟨_, rfl, rfl⟩) (by omega) E2 BN f132 S2 hl2 nd2
    · refine Go.if_icmpge 142 22 d_prog_61_m5_19 (by decide) rfl rfl (fun q133 => ?_) (fun q133 => absurd ((ofNat_lt (i := 0) (by decide) (by omega)).mp q133) hq)
      refine Go.aload_n 143 d_prog_61_m5_142 rfl rfl rfl ?_
      refine Go.invokevirtual (rest := []) 0 b [] 146 d_prog_61_m5_143 rfl BJ.e (W.1 152 rfl) (W.1 153 rfl) (fun s hs => notFace_of_selects (args := #[]) (mvT hs (W.1 155 rfl))) (W.1 155 rfl) (W.1 154 rfl) (W.1 40 rfl) (W.1 156 rfl) (by decide) (cTS W BJ) (by decide +kernel : parseMethodDescriptor "()Ljava/lang/String;" = some ⟨[], (some (.object "java/lang/String"))⟩) rfl rfl rfl (nl rfl) (nl rfl) (nl rfl) (nl rfl) (nl rfl) (fun v134 vm134 h134 ⟨z9, rv, E9, T9⟩ c134 => ?_)
      subst rv
      rw [List.take_of_length_le (by omega)] at T9
      exact Go.areturn d_prog_61_m5_146 rfl rfl rfl (nl rfl) (nl rfl) (fun vm' ch => ⟨z9, rfl, (Ext.tr EJ E9), T9⟩)
  exact J0 _ _ _ _ _ _ _ (Or.inl rfl) (Nat.zero_le _) EE0 B0 f10 Sd0 hl0 nd0
theorem d_m3_0 : decode method_3_code 0 = .ok (.iload_n 0, 1) := by decide +kernel
theorem d_m3_1 : decode method_3_code 1 = .ok (.bipush 7, 2) := by decide +kernel
theorem d_m3_3 : decode method_3_code 3 = .ok (.iand, 1) := by decide +kernel
theorem d_m3_4 : decode method_3_code 4 = .ok (.istore_n 1, 1) := by decide +kernel
theorem d_m3_5 : decode method_3_code 5 = .ok (.iload_n 1, 1) := by decide +kernel
theorem d_m3_6 : decode method_3_code 6 = .ok (.ifCond .ne 6, 3) := by decide +kernel
theorem d_m3_9 : decode method_3_code 9 = .ok (.bipush 38, 2) := by decide +kernel
theorem d_m3_11 : decode method_3_code 11 = .ok (.ireturn, 1) := by decide +kernel
theorem d_m3_12 : decode method_3_code 12 = .ok (.iload_n 1, 1) := by decide +kernel
theorem d_m3_13 : decode method_3_code 13 = .ok (.iconst 1, 1) := by decide +kernel
theorem d_m3_14 : decode method_3_code 14 = .ok (.if_icmp .ne 6, 3) := by decide +kernel
theorem d_m3_17 : decode method_3_code 17 = .ok (.bipush 60, 2) := by decide +kernel
theorem d_m3_19 : decode method_3_code 19 = .ok (.ireturn, 1) := by decide +kernel
theorem d_m3_20 : decode method_3_code 20 = .ok (.iload_n 1, 1) := by decide +kernel
theorem d_m3_21 : decode method_3_code 21 = .ok (.iconst 2, 1) := by decide +kernel
theorem d_m3_22 : decode method_3_code 22 = .ok (.if_icmp .ne 6, 3) := by decide +kernel
theorem d_m3_25 : decode method_3_code 25 = .ok (.bipush 62, 2) := by decide +kernel
theorem d_m3_27 : decode method_3_code 27 = .ok (.ireturn, 1) := by decide +kernel
theorem d_m3_28 : decode method_3_code 28 = .ok (.iload_n 1, 1) := by decide +kernel
theorem d_m3_29 : decode method_3_code 29 = .ok (.iconst 3, 1) := by decide +kernel
theorem d_m3_30 : decode method_3_code 30 = .ok (.if_icmp .ne 6, 3) := by decide +kernel
theorem d_m3_33 : decode method_3_code 33 = .ok (.bipush 34, 2) := by decide +kernel
theorem d_m3_35 : decode method_3_code 35 = .ok (.ireturn, 1) := by decide +kernel
theorem d_m3_36 : decode method_3_code 36 = .ok (.iload_n 1, 1) := by decide +kernel
theorem d_m3_37 : decode method_3_code 37 = .ok (.iconst 4, 1) := by decide +kernel
theorem d_m3_38 : decode method_3_code 38 = .ok (.if_icmp .ne 6, 3) := by decide +kernel
theorem d_m3_41 : decode method_3_code 41 = .ok (.bipush 39, 2) := by decide +kernel
theorem d_m3_43 : decode method_3_code 43 = .ok (.ireturn, 1) := by decide +kernel
theorem d_m3_44 : decode method_3_code 44 = .ok (.iload_n 0, 1) := by decide +kernel
theorem d_m3_45 : decode method_3_code 45 = .ok (.iconst 3, 1) := by decide +kernel
theorem d_m3_46 : decode method_3_code 46 = .ok (.iushr, 1) := by decide +kernel
theorem d_m3_47 : decode method_3_code 47 = .ok (.i2c, 1) := by decide +kernel
theorem d_m3_48 : decode method_3_code 48 = .ok (.ireturn, 1) := by decide +kernel
set_option maxRecDepth 65536 in
set_option maxHeartbeats 40000000 in
theorem cPick {l : Launch} {Z : State} {a0 : Array Value} (W : Wd Z a0) {EL : List (String × Nat)} {vm : Vm} {h : Heap} {x_ : Int32} :
    Ctr false l Z a0 EL (⟨"com/example/guide/guide/web/PagesEscapePinLaw", "pick", "(I)C"⟩ : MethodName) method_3_code 2 (some .char) ({ frames := 0, cells := 0, slots := 0, locals := 0 } : Room) #[.int x_] vm h (fun v vm' h' => ∃ c, v = some (.int c) ∧ C16 c ∧ h' = h) := by
  refine Ctr.of_go (L0 := #[.val (.int x_), .unset]) (by first | exact plainFor_of_name (by first | (simp [plainName, overriddenIn]; done) | decide +kernel) | decide +kernel) (fun m => by first | (simp [entryFrame, mkF, argsToLocals, Value.category, maxLocals]; done) | rfl) (fun p e s m below meth c vmi chi => ?_)
  refine Go.iload_n 1 d_m3_0 rfl rfl ?_
  refine Go.bipush (7) 3 d_m3_1 rfl rfl ?_
  refine Go.iand (x_ &&& (7 : Int32)) 4 d_m3_3 rfl rfl ?_
  refine Go.istore_n #[.val (.int x_), .val (.int (x_ &&& (7 : Int32)))] 5 d_m3_4 rfl rfl ?_
  refine Go.iload_n 6 d_m3_5 rfl rfl ?_
  refine Go.ifne 12 9 d_m3_6 (by decide) rfl rfl (fun q1 => ?_) (fun q1 => ?_)
  · refine Go.iload_n 13 d_m3_12 rfl rfl ?_
    refine Go.iconst (1) 14 d_m3_13 rfl rfl ?_
    refine Go.if_icmpne 20 17 d_m3_14 (by decide) rfl rfl (fun q2 => ?_) (fun q2 => ?_)
    · refine Go.iload_n 21 d_m3_20 rfl rfl ?_
      refine Go.iconst (2) 22 d_m3_21 rfl rfl ?_
      refine Go.if_icmpne 28 25 d_m3_22 (by decide) rfl rfl (fun q3 => ?_) (fun q3 => ?_)
      · refine Go.iload_n 29 d_m3_28 rfl rfl ?_
        refine Go.iconst (3) 30 d_m3_29 rfl rfl ?_
        refine Go.if_icmpne 36 33 d_m3_30 (by decide) rfl rfl (fun q4 => ?_) (fun q4 => ?_)
        · refine Go.iload_n 37 d_m3_36 rfl rfl ?_
          refine Go.iconst (4) 38 d_m3_37 rfl rfl ?_
          refine Go.if_icmpne 44 41 d_m3_38 (by decide) rfl rfl (fun q5 => ?_) (fun q5 => ?_)
          · refine Go.iload_n 45 d_m3_44 rfl rfl ?_
            refine Go.iconst (3) 46 d_m3_45 rfl rfl ?_
            refine Go.iushr (XT.ushr x_ (3 : Int32)) 47 d_m3_46 rfl rfl ?_
            refine Go.i2c ((XT.ushr x_ (3 : Int32)).toUInt32.toUInt16.toUInt32.toInt32) 48 d_m3_47 rfl rfl ?_
            exact Go.ireturn d_m3_48 rfl (nar16v (i2cC _)) (by simp) (nl rfl) (nl rfl) (fun vm' ch => ⟨_, rfl, i2cC _, rfl⟩)
          · refine Go.bipush (39) 43 d_m3_41 rfl rfl ?_
            exact Go.ireturn d_m3_43 rfl rfl (by simp) (nl rfl) (nl rfl) (fun vm' ch => ⟨_, rfl, ⟨by decide, by decide⟩, rfl⟩)
        · refine Go.bipush (34) 35 d_m3_33 rfl rfl ?_
          exact Go.ireturn d_m3_35 rfl rfl (by simp) (nl rfl) (nl rfl) (fun vm' ch => ⟨_, rfl, ⟨by decide, by decide⟩, rfl⟩)
      · refine Go.bipush (62) 27 d_m3_25 rfl rfl ?_
        exact Go.ireturn d_m3_27 rfl rfl (by simp) (nl rfl) (nl rfl) (fun vm' ch => ⟨_, rfl, ⟨by decide, by decide⟩, rfl⟩)
    · refine Go.bipush (60) 19 d_m3_17 rfl rfl ?_
      exact Go.ireturn d_m3_19 rfl rfl (by simp) (nl rfl) (nl rfl) (fun vm' ch => ⟨_, rfl, ⟨by decide, by decide⟩, rfl⟩)
  · refine Go.bipush (38) 11 d_m3_9 rfl rfl ?_
    exact Go.ireturn d_m3_11 rfl rfl (by simp) (nl rfl) (nl rfl) (fun vm' ch => ⟨_, rfl, ⟨by decide, by decide⟩, rfl⟩)
theorem d_m4_0 : decode method_4_code 0 = .ok (.iload_n 0, 1) := by decide +kernel
theorem d_m4_1 : decode method_4_code 1 = .ok (.bipush 38, 2) := by decide +kernel
theorem d_m4_3 : decode method_4_code 3 = .ok (.if_icmp .ne 6, 3) := by decide +kernel
theorem d_m4_6 : decode method_4_code 6 = .ok (.ldc 38, 2) := by decide +kernel
theorem d_m4_8 : decode method_4_code 8 = .ok (.areturn, 1) := by decide +kernel
theorem d_m4_9 : decode method_4_code 9 = .ok (.iload_n 0, 1) := by decide +kernel
theorem d_m4_10 : decode method_4_code 10 = .ok (.bipush 60, 2) := by decide +kernel
theorem d_m4_12 : decode method_4_code 12 = .ok (.if_icmp .ne 6, 3) := by decide +kernel
theorem d_m4_15 : decode method_4_code 15 = .ok (.ldc 40, 2) := by decide +kernel
theorem d_m4_17 : decode method_4_code 17 = .ok (.areturn, 1) := by decide +kernel
theorem d_m4_18 : decode method_4_code 18 = .ok (.iload_n 0, 1) := by decide +kernel
theorem d_m4_19 : decode method_4_code 19 = .ok (.bipush 62, 2) := by decide +kernel
theorem d_m4_21 : decode method_4_code 21 = .ok (.if_icmp .ne 6, 3) := by decide +kernel
theorem d_m4_24 : decode method_4_code 24 = .ok (.ldc 42, 2) := by decide +kernel
theorem d_m4_26 : decode method_4_code 26 = .ok (.areturn, 1) := by decide +kernel
theorem d_m4_27 : decode method_4_code 27 = .ok (.iload_n 0, 1) := by decide +kernel
theorem d_m4_28 : decode method_4_code 28 = .ok (.bipush 34, 2) := by decide +kernel
theorem d_m4_30 : decode method_4_code 30 = .ok (.if_icmp .ne 6, 3) := by decide +kernel
theorem d_m4_33 : decode method_4_code 33 = .ok (.ldc 44, 2) := by decide +kernel
theorem d_m4_35 : decode method_4_code 35 = .ok (.areturn, 1) := by decide +kernel
theorem d_m4_36 : decode method_4_code 36 = .ok (.iload_n 0, 1) := by decide +kernel
theorem d_m4_37 : decode method_4_code 37 = .ok (.bipush 39, 2) := by decide +kernel
theorem d_m4_39 : decode method_4_code 39 = .ok (.if_icmp .ne 6, 3) := by decide +kernel
theorem d_m4_42 : decode method_4_code 42 = .ok (.ldc 46, 2) := by decide +kernel
theorem d_m4_44 : decode method_4_code 44 = .ok (.areturn, 1) := by decide +kernel
theorem d_m4_45 : decode method_4_code 45 = .ok (.iload_n 0, 1) := by decide +kernel
theorem d_m4_46 : decode method_4_code 46 = .ok (.invokestatic 48, 3) := by decide +kernel
theorem d_m4_49 : decode method_4_code 49 = .ok (.areturn, 1) := by decide +kernel
set_option maxRecDepth 65536 in
set_option maxHeartbeats 40000000 in
theorem cRef {l : Launch} {Z : State} {a0 : Array Value} (W : Wd Z a0) {EL : List (String × Nat)} {vm : Vm} {h : Heap} {c_ : Int32} (U : UT Z) (hm : ("com/example/guide/guide/web/PagesEscapePinLaw", 38) ∈ EL ∧ ("com/example/guide/guide/web/PagesEscapePinLaw", 40) ∈ EL ∧ ("com/example/guide/guide/web/PagesEscapePinLaw", 42) ∈ EL ∧ ("com/example/guide/guide/web/PagesEscapePinLaw", 44) ∈ EL ∧ ("com/example/guide/guide/web/PagesEscapePinLaw", 46) ∈ EL) (hc : C16 c_) :
    Ctr false l Z a0 EL (⟨"com/example/guide/guide/web/PagesEscapePinLaw", "ref", "(C)Ljava/lang/String;"⟩ : MethodName) method_4_code 1 (some (.object "java/lang/String")) ({ frames := 3, cells := 2, slots := 28, locals := 41 } : Room) #[.int c_] vm h (fun v vm' h' => ∃ a, v = some (.ref a) ∧ Ext h h' ∧ StrU Z h' a (refV c_)) := by
  refine Ctr.of_go (L0 := #[.val (.int c_)]) (by first | exact plainFor_of_name (by first | (simp [plainName, overriddenIn]; done) | decide +kernel) | decide +kernel) (fun m => by first | (simp [entryFrame, mkF, argsToLocals, Value.category, maxLocals]; done) | rfl) (fun p e s m below meth c vmi chi => ?_)
  refine Go.iload_n 1 d_m4_0 rfl rfl ?_
  refine Go.bipush (38) 3 d_m4_1 rfl rfl ?_
  refine Go.if_icmpne 9 6 d_m4_3 (by decide) rfl rfl (fun g38 => ?_) (fun g38 => ?_)
  · refine Go.iload_n 10 d_m4_9 rfl rfl ?_
    refine Go.bipush (60) 12 d_m4_10 rfl rfl ?_
    refine Go.if_icmpne 18 15 d_m4_12 (by decide) rfl rfl (fun g60 => ?_) (fun g60 => ?_)
    · refine Go.iload_n 19 d_m4_18 rfl rfl ?_
      refine Go.bipush (62) 21 d_m4_19 rfl rfl ?_
      refine Go.if_icmpne 27 24 d_m4_21 (by decide) rfl rfl (fun g62 => ?_) (fun g62 => ?_)
      · refine Go.iload_n 28 d_m4_27 rfl rfl ?_
        refine Go.bipush (34) 30 d_m4_28 rfl rfl ?_
        refine Go.if_icmpne 36 33 d_m4_30 (by decide) rfl rfl (fun g34 => ?_) (fun g34 => ?_)
        · refine Go.iload_n 37 d_m4_36 rfl rfl ?_
          refine Go.bipush (39) 39 d_m4_37 rfl rfl ?_
          refine Go.if_icmpne 45 42 d_m4_39 (by decide) rfl rfl (fun g39 => ?_) (fun g39 => ?_)
          · refine Go.iload_n 46 d_m4_45 rfl rfl ?_
            refine Go.invokestatic (rest := []) 0 [.int c_] 49 d_m4_46 rfl (W.1 230 rfl) (W.1 231 rfl) (W.1 6 rfl) (W.1 232 rfl) (by decide) (cVof W U hc) (by decide +kernel : parseMethodDescriptor "(C)Ljava/lang/String;" = some ⟨[.char], (some (.object "java/lang/String"))⟩) rfl rfl rfl (nl rfl) (nl rfl) (nl rfl) (nl rfl) (nl rfl) (fun v1 vm1 h1 ⟨a9, rv, E9, T9⟩ c1 => ?_)
            subst rv
            have R : refV c_ = [c_] := by unfold refV; rw [if_neg g38, if_neg g60, if_neg g62, if_neg g34, if_neg g39]
            exact Go.areturn d_m4_49 rfl rfl rfl (nl rfl) (nl rfl) (fun vm' ch => ⟨a9, rfl, E9, R ▸ T9⟩)
          · refine Go.ldcS (text := "&#39;") (vs := [.int (38), .int (35), .int (51), .int (57), .int (59)]) (z := (5 : Int32)) 20 44 d_m4_42 rfl rfl (W.1 215 rfl) (W.sub (by decide +kernel)) hm.2.2.2.2 lit_ok__26_2339_3b.1 (by decide) (by decide) lit_ok__26_2339_3b.2 (by decide) (nl rfl) (nl rfl) (fun y1 b2 k2 vm2 h2 E2 A2 C2 V2 B2 N2 c2 => ?_)
            have T2 : Str Z h2 y1 [38, 35, 51, 57, 59] := ⟨b2, k2, A2, C2, V2, B2, by decide, by decide⟩
            have R : refV c_ = [38, 35, 51, 57, 59] := by unfold refV; rw [if_neg g38, if_neg g60, if_neg g62, if_neg g34, if_pos g39]
            exact Go.areturn d_m4_44 rfl rfl rfl (nl rfl) (nl rfl) (fun vm' ch => ⟨y1, rfl, E2, Or.inl (R ▸ T2)⟩)
        · refine Go.ldcS (text := "&quot;") (vs := [.int (38), .int (113), .int (117), .int (111), .int (116), .int (59)]) (z := (6 : Int32)) 24 35 d_m4_33 rfl rfl (W.1 216 rfl) (W.sub (by decide +kernel)) hm.2.2.2.1 lit_ok__26quot_3b.1 (by decide) (by decide) lit_ok__26quot_3b.2 (by decide) (nl rfl) (nl rfl) (fun y1 b3 k3 vm3 h3 E3 A3 C3 V3 B3 N3 c3 => ?_)
          have T3 : Str Z h3 y1 [38, 113, 117, 111, 116, 59] := ⟨b3, k3, A3, C3, V3, B3, by decide, by decide⟩
          have R : refV c_ = [38, 113, 117, 111, 116, 59] := by unfold refV; rw [if_neg g38, if_neg g60, if_neg g62, if_pos g34]
          exact Go.areturn d_m4_35 rfl rfl rfl (nl rfl) (nl rfl) (fun vm' ch => ⟨y1, rfl, E3, Or.inl (R ▸ T3)⟩)
      · refine Go.ldcS (text := "&gt;") (vs := [.int (38), .int (103), .int (116), .int (59)]) (z := (4 : Int32)) 16 26 d_m4_24 rfl rfl (W.1 303 rfl) (W.sub (by decide +kernel)) hm.2.2.1 lit_ok__26gt_3b.1 (by decide) (by decide) lit_ok__26gt_3b.2 (by decide) (nl rfl) (nl rfl) (fun y1 b4 k4 vm4 h4 E4 A4 C4 V4 B4 N4 c4 => ?_)
        have T4 : Str Z h4 y1 [38, 103, 116, 59] := ⟨b4, k4, A4, C4, V4, B4, by decide, by decide⟩
        have R : refV c_ = [38, 103, 116, 59] := by unfold refV; rw [if_neg g38, if_neg g60, if_pos g62]
        exact Go.areturn d_m4_26 rfl rfl rfl (nl rfl) (nl rfl) (fun vm' ch => ⟨y1, rfl, E4, Or.inl (R ▸ T4)⟩)
    · refine Go.ldcS (text := "&lt;") (vs := [.int (38), .int (108), .int (116), .int (59)]) (z := (4 : Int32)) 16 17 d_m4_15 rfl rfl (W.1 243 rfl) (W.sub (by decide +kernel)) hm.2.1 lit_ok__26lt_3b.1 (by decide) (by decide) lit_ok__26lt_3b.2 (by decide) (nl rfl) (nl rfl) (fun y1 b5 k5 vm5 h5 E5 A5 C5 V5 B5 N5 c5 => ?_)
      have T5 : Str Z h5 y1 [38, 108, 116, 59] := ⟨b5, k5, A5, C5, V5, B5, by decide, by decide⟩
      have R : refV c_ = [38, 108, 116, 59] := by unfold refV; rw [if_neg g38, if_pos g60]
      exact Go.areturn d_m4_17 rfl rfl rfl (nl rfl) (nl rfl) (fun vm' ch => ⟨y1, rfl, E5, Or.inl (R ▸ T5)⟩)
  · refine Go.ldcS (text := "&amp;") (vs := [.int (38), .int (97), .int (109), .int (112), .int (59)]) (z := (5 : Int32)) 20 8 d_m4_6 rfl rfl (W.1 197 rfl) (W.sub (by decide +kernel)) hm.1 lit_ok__26amp_3b.1 (by decide) (by decide) lit_ok__26amp_3b.2 (by decide) (nl rfl) (nl rfl) (fun y1 b6 k6 vm6 h6 E6 A6 C6 V6 B6 N6 c6 => ?_)
    have T6 : Str Z h6 y1 [38, 97, 109, 112, 59] := ⟨b6, k6, A6, C6, V6, B6, by decide, by decide⟩
    have R : refV c_ = [38, 97, 109, 112, 59] := by unfold refV; rw [if_pos g38]
    exact Go.areturn d_m4_8 rfl rfl rfl (nl rfl) (nl rfl) (fun vm' ch => ⟨y1, rfl, E6, Or.inl (R ▸ T6)⟩)
theorem d_m6_0 : decode method_6_code 0 = .ok (.iload_n 3, 1) := by decide +kernel
theorem d_m6_1 : decode method_6_code 1 = .ok (.iload 4, 2) := by decide +kernel
theorem d_m6_3 : decode method_6_code 3 = .ok (.if_icmp .ge 18, 3) := by decide +kernel
theorem d_m6_6 : decode method_6_code 6 = .ok (.aload_n 0, 1) := by decide +kernel
theorem d_m6_7 : decode method_6_code 7 = .ok (.iload_n 1, 1) := by decide +kernel
theorem d_m6_8 : decode method_6_code 8 = .ok (.iload_n 3, 1) := by decide +kernel
theorem d_m6_9 : decode method_6_code 9 = .ok (.iadd, 1) := by decide +kernel
theorem d_m6_10 : decode method_6_code 10 = .ok (.invokevirtual 55, 3) := by decide +kernel
theorem d_m6_13 : decode method_6_code 13 = .ok (.aload_n 2, 1) := by decide +kernel
theorem d_m6_14 : decode method_6_code 14 = .ok (.iload_n 3, 1) := by decide +kernel
theorem d_m6_15 : decode method_6_code 15 = .ok (.invokevirtual 55, 3) := by decide +kernel
theorem d_m6_18 : decode method_6_code 18 = .ok (.if_icmp .ne 7, 3) := by decide +kernel
theorem d_m6_21 : decode method_6_code 21 = .ok (.iconst 1, 1) := by decide +kernel
theorem d_m6_22 : decode method_6_code 22 = .ok (.goto 4, 3) := by decide +kernel
theorem d_m6_25 : decode method_6_code 25 = .ok (.iconst 0, 1) := by decide +kernel
theorem d_m6_26 : decode method_6_code 26 = .ok (.ireturn, 1) := by decide +kernel
set_option maxRecDepth 65536 in
set_option maxHeartbeats 40000000 in
theorem cAt {l : Launch} {Z : State} {a0 : Array Value} (W : Wd Z a0) {EL : List (String × Nat)} {vm : Vm} {h : Heap} {i_ : Nat} (h6 : i_ < 6) {o_ p_ : Addr} {f_ : Nat} {os ps : List Int32} (U : UT Z) (O : StrU Z h o_ os) (P : StrU Z h p_ ps) (hf : ∀ i, i < ps.length → f_ + i < os.length ∧ os.getD (f_ + i) 0 = ps.getD i 0) :
    Ctr false l Z a0 EL (⟨"com/example/guide/guide/web/PagesEscapePinLaw", "at", "(Ljava/lang/String;ILjava/lang/String;II)Z"⟩ : MethodName) method_6_code 5 (some .boolean) ({ frames := 5, cells := 0, slots := 0, locals := 67 } : Room) #[.ref o_, .int (Int32.ofNat f_), .ref p_, .int (Int32.ofNat i_), .int (Int32.ofNat ps.length)] vm h (fun v vm' h' => v = some (.int 1) ∧ h' = h) := by
  refine Ctr.of_go (L0 := #[.val (.ref o_), .val (.int (Int32.ofNat f_)), .val (.ref p_), .val (.int (Int32.ofNat i_)), .val (.int (Int32.ofNat ps.length))]) (by first | exact plainFor_of_name (by first | (simp [plainName, overriddenIn]; done) | decide +kernel) | decide +kernel) (fun m => by first | (simp [entryFrame, mkF, argsToLocals, Value.category, maxLocals]; done) | rfl) (fun p e s m below meth c vmi chi => ?_)
  have lp := P.len
  have lo_ := O.len
  refine Go.iload_n 1 d_m6_0 rfl rfl ?_
  refine Go.iload 3 d_m6_1 rfl rfl ?_
  refine Go.if_icmpge 21 6 d_m6_3 (by decide) rfl rfl (fun ql => ?_) (fun ql => ?_)
  · refine Go.iconst (1) 22 d_m6_21 rfl rfl ?_
    refine Go.goto 26 d_m6_22 (by decide) rfl ?_
    exact Go.ireturn d_m6_26 rfl rfl (by simp) (nl rfl) (nl rfl) (fun vm' ch => ⟨rfl, rfl⟩)
  · have hi : i_ < ps.length := (ofNat_lt (by omega) (by omega)).mp ql
    have hfi := hf i_ hi
    refine Go.aload_n 7 d_m6_6 rfl rfl rfl ?_
    refine Go.iload_n 8 d_m6_7 rfl rfl ?_
    refine Go.iload_n 9 d_m6_8 rfl rfl ?_
    refine Go.iadd (Int32.ofNat (f_ + i_)) 10 d_m6_9 rfl (ofNat_add' _ _) ?_
    refine Go.invokevirtual (rest := []) 0 o_ [.int (Int32.ofNat (f_ + i_))] 13 d_m6_10 rfl O.exa (W.1 206 rfl) (W.1 67 rfl) (fun s hs => notFace_of_selects (args := #[]) (mvT hs (W.1 69 rfl))) (W.1 69 rfl) (W.1 68 rfl) (W.1 6 rfl) (W.1 70 rfl) (by decide) (cSAt W U O hfi.1) (by decide +kernel : parseMethodDescriptor "(I)C" = some ⟨[.int], (some .char)⟩) rfl rfl rfl (nl rfl) (nl rfl) (nl rfl) (nl rfl) (nl rfl) (fun v1 vm1 h1 ⟨rv, hh⟩ c1 => ?_)
    subst rv; replace hh := hh.symm; subst hh
    refine Go.aload_n 14 d_m6_13 rfl rfl rfl ?_
    refine Go.iload_n 15 d_m6_14 rfl rfl ?_
    refine Go.invokevirtual (rest := [.int (os.getD (f_ + i_) 0)]) 1 p_ [.int (Int32.ofNat i_)] 18 d_m6_15 rfl P.exa (W.1 206 rfl) (W.1 67 rfl) (fun s hs => notFace_of_selects (args := #[]) (mvT hs (W.1 69 rfl))) (W.1 69 rfl) (W.1 68 rfl) (W.1 6 rfl) (W.1 70 rfl) (by decide) (cSAt W U P hi) (by decide +kernel : parseMethodDescriptor "(I)C" = some ⟨[.int], (some .char)⟩) rfl rfl rfl (nl rfl) (nl rfl) (nl rfl) (nl rfl) (nl rfl) (fun v2 vm2 h2 ⟨rv, hh⟩ c2 => ?_)
    subst rv; replace hh := hh.symm; subst hh
    refine Go.if_icmpne 25 21 d_m6_18 (by decide) rfl rfl (fun q3 => absurd hfi.2 q3) (fun q3 => ?_)
    refine Go.iconst (1) 22 d_m6_21 rfl rfl ?_
    refine Go.goto 26 d_m6_22 (by decide) rfl ?_
    exact Go.ireturn d_m6_26 rfl rfl (by simp) (nl rfl) (nl rfl) (fun vm' ch => ⟨rfl, rfl⟩)
theorem d_m5_0 : decode method_5_code 0 = .ok (.aload_n 2, 1) := by decide +kernel
theorem d_m5_1 : decode method_5_code 1 = .ok (.invokevirtual 30, 3) := by decide +kernel
theorem d_m5_4 : decode method_5_code 4 = .ok (.istore_n 3, 1) := by decide +kernel
theorem d_m5_5 : decode method_5_code 5 = .ok (.aload_n 0, 1) := by decide +kernel
theorem d_m5_6 : decode method_5_code 6 = .ok (.iload_n 1, 1) := by decide +kernel
theorem d_m5_7 : decode method_5_code 7 = .ok (.aload_n 2, 1) := by decide +kernel
theorem d_m5_8 : decode method_5_code 8 = .ok (.iconst 0, 1) := by decide +kernel
theorem d_m5_9 : decode method_5_code 9 = .ok (.iload_n 3, 1) := by decide +kernel
theorem d_m5_10 : decode method_5_code 10 = .ok (.invokestatic 51, 3) := by decide +kernel
theorem d_m5_13 : decode method_5_code 13 = .ok (.ifCond .eq 62, 3) := by decide +kernel
theorem d_m5_16 : decode method_5_code 16 = .ok (.aload_n 0, 1) := by decide +kernel
theorem d_m5_17 : decode method_5_code 17 = .ok (.iload_n 1, 1) := by decide +kernel
theorem d_m5_18 : decode method_5_code 18 = .ok (.aload_n 2, 1) := by decide +kernel
theorem d_m5_19 : decode method_5_code 19 = .ok (.iconst 1, 1) := by decide +kernel
theorem d_m5_20 : decode method_5_code 20 = .ok (.iload_n 3, 1) := by decide +kernel
theorem d_m5_21 : decode method_5_code 21 = .ok (.invokestatic 51, 3) := by decide +kernel
theorem d_m5_24 : decode method_5_code 24 = .ok (.ifCond .eq 51, 3) := by decide +kernel
theorem d_m5_27 : decode method_5_code 27 = .ok (.aload_n 0, 1) := by decide +kernel
theorem d_m5_28 : decode method_5_code 28 = .ok (.iload_n 1, 1) := by decide +kernel
theorem d_m5_29 : decode method_5_code 29 = .ok (.aload_n 2, 1) := by decide +kernel
theorem d_m5_30 : decode method_5_code 30 = .ok (.iconst 2, 1) := by decide +kernel
theorem d_m5_31 : decode method_5_code 31 = .ok (.iload_n 3, 1) := by decide +kernel
theorem d_m5_32 : decode method_5_code 32 = .ok (.invokestatic 51, 3) := by decide +kernel
theorem d_m5_35 : decode method_5_code 35 = .ok (.ifCond .eq 40, 3) := by decide +kernel
theorem d_m5_38 : decode method_5_code 38 = .ok (.aload_n 0, 1) := by decide +kernel
theorem d_m5_39 : decode method_5_code 39 = .ok (.iload_n 1, 1) := by decide +kernel
theorem d_m5_40 : decode method_5_code 40 = .ok (.aload_n 2, 1) := by decide +kernel
theorem d_m5_41 : decode method_5_code 41 = .ok (.iconst 3, 1) := by decide +kernel
theorem d_m5_42 : decode method_5_code 42 = .ok (.iload_n 3, 1) := by decide +kernel
theorem d_m5_43 : decode method_5_code 43 = .ok (.invokestatic 51, 3) := by decide +kernel
theorem d_m5_46 : decode method_5_code 46 = .ok (.ifCond .eq 29, 3) := by decide +kernel
theorem d_m5_49 : decode method_5_code 49 = .ok (.aload_n 0, 1) := by decide +kernel
theorem d_m5_50 : decode method_5_code 50 = .ok (.iload_n 1, 1) := by decide +kernel
theorem d_m5_51 : decode method_5_code 51 = .ok (.aload_n 2, 1) := by decide +kernel
theorem d_m5_52 : decode method_5_code 52 = .ok (.iconst 4, 1) := by decide +kernel
theorem d_m5_53 : decode method_5_code 53 = .ok (.iload_n 3, 1) := by decide +kernel
theorem d_m5_54 : decode method_5_code 54 = .ok (.invokestatic 51, 3) := by decide +kernel
theorem d_m5_57 : decode method_5_code 57 = .ok (.ifCond .eq 18, 3) := by decide +kernel
theorem d_m5_60 : decode method_5_code 60 = .ok (.aload_n 0, 1) := by decide +kernel
theorem d_m5_61 : decode method_5_code 61 = .ok (.iload_n 1, 1) := by decide +kernel
theorem d_m5_62 : decode method_5_code 62 = .ok (.aload_n 2, 1) := by decide +kernel
theorem d_m5_63 : decode method_5_code 63 = .ok (.iconst 5, 1) := by decide +kernel
theorem d_m5_64 : decode method_5_code 64 = .ok (.iload_n 3, 1) := by decide +kernel
theorem d_m5_65 : decode method_5_code 65 = .ok (.invokestatic 51, 3) := by decide +kernel
theorem d_m5_68 : decode method_5_code 68 = .ok (.ifCond .eq 7, 3) := by decide +kernel
theorem d_m5_71 : decode method_5_code 71 = .ok (.iconst 1, 1) := by decide +kernel
theorem d_m5_72 : decode method_5_code 72 = .ok (.goto 4, 3) := by decide +kernel
theorem d_m5_75 : decode method_5_code 75 = .ok (.iconst 0, 1) := by decide +kernel
theorem d_m5_76 : decode method_5_code 76 = .ok (.ireturn, 1) := by decide +kernel
set_option maxRecDepth 65536 in
set_option maxHeartbeats 40000000 in
theorem cSeg {l : Launch} {Z : State} {a0 : Array Value} (W : Wd Z a0) {EL : List (String × Nat)} {vm : Vm} {h : Heap} {o_ p_ : Addr} {f_ : Nat} {os ps : List Int32} (U : UT Z) (O : StrU Z h o_ os) (P : StrU Z h p_ ps) (hf : ∀ i, i < ps.length → f_ + i < os.length ∧ os.getD (f_ + i) 0 = ps.getD i 0) :
    Ctr false l Z a0 EL (⟨"com/example/guide/guide/web/PagesEscapePinLaw", "seg", "(Ljava/lang/String;ILjava/lang/String;)Z"⟩ : MethodName) method_5_code 4 (some .boolean) ({ frames := 6, cells := 0, slots := 0, locals := 83 } : Room) #[.ref o_, .int (Int32.ofNat f_), .ref p_] vm h (fun v vm' h' => v = some (.int 1) ∧ h' = h) := by
  refine Ctr.of_go (L0 := #[.val (.ref o_), .val (.int (Int32.ofNat f_)), .val (.ref p_), .unset]) (by first | exact plainFor_of_name (by first | (simp [plainName, overriddenIn]; done) | decide +kernel) | decide +kernel) (fun m => by first | (simp [entryFrame, mkF, argsToLocals, Value.category, maxLocals]; done) | rfl) (fun p e s m below meth c vmi chi => ?_)
  refine Go.aload_n 1 d_m5_0 rfl rfl rfl ?_
  refine Go.invokevirtual (rest := []) 0 p_ [] 4 d_m5_1 rfl P.exa (W.1 199 rfl) (W.1 42 rfl) (fun s hs => notFace_of_selects (args := #[]) (mvT hs (W.1 44 rfl))) (W.1 44 rfl) (W.1 43 rfl) (W.1 6 rfl) (W.1 45 rfl) (by decide) (cSLen W P) (by decide +kernel : parseMethodDescriptor "()I" = some ⟨[], (some .int)⟩) rfl rfl rfl (nl rfl) (nl rfl) (nl rfl) (nl rfl) (nl rfl) (fun v1 vm1 h1 ⟨rv, hh⟩ c1 => ?_)
  subst rv; replace hh := hh.symm; subst hh
  refine Go.istore_n #[.val (.ref o_), .val (.int (Int32.ofNat f_)), .val (.ref p_), .val (.int (Int32.ofNat ps.length))] 5 d_m5_4 rfl rfl ?_
  refine Go.aload_n 6 d_m5_5 rfl rfl rfl ?_
  refine Go.iload_n 7 d_m5_6 rfl rfl ?_
  refine Go.aload_n 8 d_m5_7 rfl rfl rfl ?_
  refine Go.iconst (0) 9 d_m5_8 rfl rfl ?_
  refine Go.iload_n 10 d_m5_9 rfl rfl ?_
  refine Go.invokestatic (rest := []) 0 [.ref o_, .int (Int32.ofNat f_), .ref p_, .int (0 : Int32), .int (Int32.ofNat ps.length)] 13 d_m5_10 rfl (W.1 203 rfl) (W.1 204 rfl) (W.1 2 rfl) (W.1 205 rfl) (by decide) (cAt W (i_ := 0) (by decide) U O P hf) (by decide +kernel : parseMethodDescriptor "(Ljava/lang/String;ILjava/lang/String;II)Z" = some ⟨[(.object "java/lang/String"), .int, (.object "java/lang/String"), .int, .int], (some .boolean)⟩) rfl rfl rfl (nl rfl) (nl rfl) (nl rfl) (nl rfl) (nl rfl) (fun v2 vm2 h2 ⟨rv, hh⟩ c2 => ?_)
  subst rv; replace hh := hh.symm; subst hh
  refine Go.ifeq 75 16 d_m5_13 (by decide) rfl rfl (fun q3 => absurd q3 (by decide)) (fun q3 => ?_)
  refine Go.aload_n 17 d_m5_16 rfl rfl rfl ?_
  refine Go.iload_n 18 d_m5_17 rfl rfl ?_
  refine Go.aload_n 19 d_m5_18 rfl rfl rfl ?_
  refine Go.iconst (1) 20 d_m5_19 rfl rfl ?_
  refine Go.iload_n 21 d_m5_20 rfl rfl ?_
  refine Go.invokestatic (rest := []) 0 [.ref o_, .int (Int32.ofNat f_), .ref p_, .int (1 : Int32), .int (Int32.ofNat ps.length)] 24 d_m5_21 rfl (W.1 203 rfl) (W.1 204 rfl) (W.1 2 rfl) (W.1 205 rfl) (by decide) (cAt W (i_ := 1) (by decide) U O P hf) (by decide +kernel : parseMethodDescriptor "(Ljava/lang/String;ILjava/lang/String;II)Z" = some ⟨[(.object "java/lang/String"), .int, (.object "java/lang/String"), .int, .int], (some .boolean)⟩) rfl rfl rfl (nl rfl) (nl rfl) (nl rfl) (nl rfl) (nl rfl) (fun v4 vm4 h4 ⟨rv, hh⟩ c4 => ?_)
  subst rv; replace hh := hh.symm; subst hh
  refine Go.ifeq 75 27 d_m5_24 (by decide) rfl rfl (fun q5 => absurd q5 (by decide)) (fun q5 => ?_)
  refine Go.aload_n 28 d_m5_27 rfl rfl rfl ?_
  refine Go.iload_n 29 d_m5_28 rfl rfl ?_
  refine Go.aload_n 30 d_m5_29 rfl rfl rfl ?_
  refine Go.iconst (2) 31 d_m5_30 rfl rfl ?_
  refine Go.iload_n 32 d_m5_31 rfl rfl ?_
  refine Go.invokestatic (rest := []) 0 [.ref o_, .int (Int32.ofNat f_), .ref p_, .int (2 : Int32), .int (Int32.ofNat ps.length)] 35 d_m5_32 rfl (W.1 203 rfl) (W.1 204 rfl) (W.1 2 rfl) (W.1 205 rfl) (by decide) (cAt W (i_ := 2) (by decide) U O P hf) (by decide +kernel : parseMethodDescriptor "(Ljava/lang/String;ILjava/lang/String;II)Z" = some ⟨[(.object "java/lang/String"), .int, (.object "java/lang/String"), .int, .int], (some .boolean)⟩) rfl rfl rfl (nl rfl) (nl rfl) (nl rfl) (nl rfl) (nl rfl) (fun v6 vm6 h6 ⟨rv, hh⟩ c6 => ?_)
  subst rv; replace hh := hh.symm; subst hh
  refine Go.ifeq 75 38 d_m5_35 (by decide) rfl rfl (fun q7 => absurd q7 (by decide)) (fun q7 => ?_)
  refine Go.aload_n 39 d_m5_38 rfl rfl rfl ?_
  refine Go.iload_n 40 d_m5_39 rfl rfl ?_
  refine Go.aload_n 41 d_m5_40 rfl rfl rfl ?_
  refine Go.iconst (3) 42 d_m5_41 rfl rfl ?_
  refine Go.iload_n 43 d_m5_42 rfl rfl ?_
  refine Go.invokestatic (rest := []) 0 [.ref o_, .int (Int32.ofNat f_), .ref p_, .int (3 : Int32), .int (Int32.ofNat ps.length)] 46 d_m5_43 rfl (W.1 203 rfl) (W.1 204 rfl) (W.1 2 rfl) (W.1 205 rfl) (by decide) (cAt W (i_ := 3) (by decide) U O P hf) (by decide +kernel : parseMethodDescriptor "(Ljava/lang/String;ILjava/lang/String;II)Z" = some ⟨[(.object "java/lang/String"), .int, (.object "java/lang/String"), .int, .int], (some .boolean)⟩) rfl rfl rfl (nl rfl) (nl rfl) (nl rfl) (nl rfl) (nl rfl) (fun v8 vm8 h8 ⟨rv, hh⟩ c8 => ?_)
  subst rv; replace hh := hh.symm; subst hh
  refine Go.ifeq 75 49 d_m5_46 (by decide) rfl rfl (fun q9 => absurd q9 (by decide)) (fun q9 => ?_)
  refine Go.aload_n 50 d_m5_49 rfl rfl rfl ?_
  refine Go.iload_n 51 d_m5_50 rfl rfl ?_
  refine Go.aload_n 52 d_m5_51 rfl rfl rfl ?_
  refine Go.iconst (4) 53 d_m5_52 rfl rfl ?_
  refine Go.iload_n 54 d_m5_53 rfl rfl ?_
  refine Go.invokestatic (rest := []) 0 [.ref o_, .int (Int32.ofNat f_), .ref p_, .int (4 : Int32), .int (Int32.ofNat ps.length)] 57 d_m5_54 rfl (W.1 203 rfl) (W.1 204 rfl) (W.1 2 rfl) (W.1 205 rfl) (by decide) (cAt W (i_ := 4) (by decide) U O P hf) (by decide +kernel : parseMethodDescriptor "(Ljava/lang/String;ILjava/lang/String;II)Z" = some ⟨[(.object "java/lang/String"), .int, (.object "java/lang/String"), .int, .int], (some .boolean)⟩) rfl rfl rfl (nl rfl) (nl rfl) (nl rfl) (nl rfl) (nl rfl) (fun v10 vm10 h10 ⟨rv, hh⟩ c10 => ?_)
  subst rv; replace hh := hh.symm; subst hh
  refine Go.ifeq 75 60 d_m5_57 (by decide) rfl rfl (fun q11 => absurd q11 (by decide)) (fun q11 => ?_)
  refine Go.aload_n 61 d_m5_60 rfl rfl rfl ?_
  refine Go.iload_n 62 d_m5_61 rfl rfl ?_
  refine Go.aload_n 63 d_m5_62 rfl rfl rfl ?_
  refine Go.iconst (5) 64 d_m5_63 rfl rfl ?_
  refine Go.iload_n 65 d_m5_64 rfl rfl ?_
  refine Go.invokestatic (rest := []) 0 [.ref o_, .int (Int32.ofNat f_), .ref p_, .int (5 : Int32), .int (Int32.ofNat ps.length)] 68 d_m5_65 rfl (W.1 203 rfl) (W.1 204 rfl) (W.1 2 rfl) (W.1 205 rfl) (by decide) (cAt W (i_ := 5) (by decide) U O P hf) (by decide +kernel : parseMethodDescriptor "(Ljava/lang/String;ILjava/lang/String;II)Z" = some ⟨[(.object "java/lang/String"), .int, (.object "java/lang/String"), .int, .int], (some .boolean)⟩) rfl rfl rfl (nl rfl) (nl rfl) (nl rfl) (nl rfl) (nl rfl) (fun v12 vm12 h12 ⟨rv, hh⟩ c12 => ?_)
  subst rv; replace hh := hh.symm; subst hh
  refine Go.ifeq 75 71 d_m5_68 (by decide) rfl rfl (fun q13 => absurd q13 (by decide)) (fun q13 => ?_)
  refine Go.iconst (1) 72 d_m5_71 rfl rfl ?_
  refine Go.goto 76 d_m5_72 (by decide) rfl ?_
  exact Go.ireturn d_m5_76 rfl rfl (by simp) (nl rfl) (nl rfl) (fun vm' ch => ⟨rfl, rfl⟩)
set_option maxRecDepth 65536 in
set_option maxHeartbeats 40000000 in
theorem cLaw {l : Launch} {Z : State} {a0 : Array Value} (W : Wd Z a0)  {vm : Vm} {h : Heap} {aa ba ca na : Int32} (U : UT Z) :
    Ctr false l Z a0 consts_1 x code maxLocals ret room_1 #[.int aa, .int ba, .int ca, .int na] vm h (fun v vm' h' => v = some (.int 1)) := by
  refine Ctr.of_go (L0 := #[.val (.int aa), .val (.int ba), .val (.int ca), .val (.int na), .unset, .unset, .unset, .unset, .unset, .unset, .unset, .unset, .unset, .unset, .unset, .unset]) (by first | exact plainFor_of_name (by first | (simp [plainName, overriddenIn]; done) | decide +kernel) | decide +kernel) (fun m => by first | (simp [entryFrame, mkF, argsToLocals, Value.category, maxLocals]; done) | rfl) (fun p e s m below meth c vmi chi => ?_)
  refine Go.iload_n 1 at_0 rfl rfl ?_
  refine Go.iconst (3) 2 at_1 rfl rfl ?_
  refine Go.iand (na &&& (3 : Int32)) 3 at_2 rfl rfl ?_
  refine Go.istore #[.val (.int aa), .val (.int ba), .val (.int ca), .val (.int na), .val (.int (na &&& (3 : Int32))), .unset, .unset, .unset, .unset, .unset, .unset, .unset, .unset, .unset, .unset, .unset] 5 at_3 rfl rfl ?_
  refine Go.iload_n 6 at_5 rfl rfl ?_
  refine Go.invokestatic (rest := []) 0 [.int aa] 9 at_6 rfl (W.1 0 rfl) (W.1 1 rfl) (W.1 2 rfl) (W.1 3 rfl) (by decide) (cPick W ) (by decide +kernel : parseMethodDescriptor "(I)C" = some ⟨[.int], (some .char)⟩) rfl rfl rfl (nl rfl) (nl rfl) (nl rfl) (nl rfl) (nl rfl) (fun v1 vm1 h1 ⟨c1_, rv, hc1, hh⟩ c1 => ?_)
  subst rv; replace hh := hh.symm; subst hh
  refine Go.istore #[.val (.int aa), .val (.int ba), .val (.int ca), .val (.int na), .val (.int (na &&& (3 : Int32))), .val (.int c1_), .unset, .unset, .unset, .unset, .unset, .unset, .unset, .unset, .unset, .unset] 11 at_9 rfl rfl ?_
  refine Go.iload_n 12 at_11 rfl rfl ?_
  refine Go.invokestatic (rest := []) 0 [.int ba] 15 at_12 rfl (W.1 0 rfl) (W.1 1 rfl) (W.1 2 rfl) (W.1 3 rfl) (by decide) (cPick W ) (by decide +kernel : parseMethodDescriptor "(I)C" = some ⟨[.int], (some .char)⟩) rfl rfl rfl (nl rfl) (nl rfl) (nl rfl) (nl rfl) (nl rfl) (fun v2 vm2 h2 ⟨c2_, rv, hc2, hh⟩ c2 => ?_)
  subst rv; replace hh := hh.symm; subst hh
  refine Go.istore #[.val (.int aa), .val (.int ba), .val (.int ca), .val (.int na), .val (.int (na &&& (3 : Int32))), .val (.int c1_), .val (.int c2_), .unset, .unset, .unset, .unset, .unset, .unset, .unset, .unset, .unset] 17 at_15 rfl rfl ?_
  refine Go.iload_n 18 at_17 rfl rfl ?_
  refine Go.invokestatic (rest := []) 0 [.int ca] 21 at_18 rfl (W.1 0 rfl) (W.1 1 rfl) (W.1 2 rfl) (W.1 3 rfl) (by decide) (cPick W ) (by decide +kernel : parseMethodDescriptor "(I)C" = some ⟨[.int], (some .char)⟩) rfl rfl rfl (nl rfl) (nl rfl) (nl rfl) (nl rfl) (nl rfl) (fun v3 vm3 h3 ⟨c3_, rv, hc3, hh⟩ c3 => ?_)
  subst rv; replace hh := hh.symm; subst hh
  refine Go.istore #[.val (.int aa), .val (.int ba), .val (.int ca), .val (.int na), .val (.int (na &&& (3 : Int32))), .val (.int c1_), .val (.int c2_), .val (.int c3_), .unset, .unset, .unset, .unset, .unset, .unset, .unset, .unset] 23 at_21 rfl rfl ?_
  refine Go.iload 25 at_23 rfl rfl ?_
  rcases and3 na with hk | hk | hk | hk
  · have hall : ∀ c ∈ ([] : List Int32), C16 c := (fun _ q => nomatch q)
    have J127 : ∀ (sJ : Addr) (vmJ : Vm) (hJ : Heap), Ext h hJ → StrU Z hJ sJ ([] : List Int32) → Go false p l e room_1 s m #[.int aa, .int ba, .int ca, .int na] below meth c code maxLocals "law" ret Z a0 consts_1 "com/example/guide/guide/web/PagesEscapePinLaw" (fun v vm' h' => v = some (.int 1)) vmJ hJ 6 260 127 #[.val (.int aa), .val (.int ba), .val (.int ca), .val (.int na), .val (.int (na &&& (3 : Int32))), .val (.int c1_), .val (.int c2_), .val (.int c3_), .val (.ref sJ), .unset, .unset, .unset, .unset, .unset, .unset, .unset] [] := by
      intro sJ vmJ hJ EJ SJ
      refine Go.aload 129 at_127 rfl rfl rfl ?_
      refine Go.invokestatic (rest := []) 0 [.ref sJ] 132 at_129 rfl (W.1 34 rfl) (W.1 35 rfl) (W.1 36 rfl) (W.1 37 rfl) (by decide) (cEsc W U ⟨(by decide : ("com/example/guide/guide/web/Pages", 147) ∈ consts_1), (by decide : ("com/example/guide/guide/web/Pages", 149) ∈ consts_1), (by decide : ("com/example/guide/guide/web/Pages", 151) ∈ consts_1), (by decide : ("com/example/guide/guide/web/Pages", 153) ∈ consts_1), (by decide : ("com/example/guide/guide/web/Pages", 155) ∈ consts_1)⟩ SJ (nl rfl)) (by decide +kernel : parseMethodDescriptor "(Ljava/lang/String;)Ljava/lang/String;" = some ⟨[(.object "java/lang/String")], (some (.object "java/lang/String"))⟩) rfl rfl rfl (nl rfl) (nl rfl) (nl rfl) (nl rfl) (nl rfl) (fun v4 vm4 h4 ⟨out, rv, E9_, T9_⟩ c4 => ?_)
      subst rv
      have OS : outV ([] : List Int32) = ((([] : List Int32) ++ ([] : List Int32)) ++ ([] : List Int32)) := by simp [outV]
      rw [OS] at T9_
      refine Go.astore #[.val (.int aa), .val (.int ba), .val (.int ca), .val (.int na), .val (.int (na &&& (3 : Int32))), .val (.int c1_), .val (.int c2_), .val (.int c3_), .val (.ref sJ), .val (.ref out), .unset, .unset, .unset, .unset, .unset, .unset] 134 at_132 rfl rfl rfl ?_
      refine Go.iload 136 at_134 rfl rfl ?_
      refine Go.iconst (1) 137 at_136 rfl rfl ?_
      refine Go.if_icmplt 148 140 at_137 (by decide) rfl rfl (fun q5 => ?_) (fun q5 => (by rw [hk] at q5; exact absurd q5 (by decide)))
      refine Go.ldcS (text := "") (vs := []) (z := (0 : Int32)) 0 150 at_148 rfl rfl (W.1 198 rfl) (W.sub (by decide +kernel)) (by decide : ("com/example/guide/guide/web/PagesEscapePinLaw", 28) ∈ consts_1) lit_ok_.1 (by decide) (by decide) lit_ok_.2 (by decide) (nl rfl) (nl rfl) (fun p1_ b6 k6 vm6 h6 E6 A6 C6 V6 B6 N6 c6 => ?_)
      have T6 : Str Z h6 p1_ [] := ⟨b6, k6, A6, C6, V6, B6, by decide, by decide⟩
      have U1 : StrU Z h6 p1_ [] := Or.inl T6
      refine Go.astore #[.val (.int aa), .val (.int ba), .val (.int ca), .val (.int na), .val (.int (na &&& (3 : Int32))), .val (.int c1_), .val (.int c2_), .val (.int c3_), .val (.ref sJ), .val (.ref out), .val (.ref p1_), .unset, .unset, .unset, .unset, .unset] 152 at_150 rfl rfl rfl ?_
      refine Go.iload 154 at_152 rfl rfl ?_
      refine Go.iconst (2) 155 at_154 rfl rfl ?_
      refine Go.if_icmplt 166 158 at_155 (by decide) rfl rfl (fun q7 => ?_) (fun q7 => (by rw [hk] at q7; exact absurd q7 (by decide)))
      refine Go.ldcS (text := "") (vs := []) (z := (0 : Int32)) 0 168 at_166 rfl rfl (W.1 198 rfl) (W.sub (by decide +kernel)) (by decide : ("com/example/guide/guide/web/PagesEscapePinLaw", 28) ∈ consts_1) lit_ok_.1 (by decide) (by decide) lit_ok_.2 (by decide) (nl rfl) (nl rfl) (fun p2_ b8 k8 vm8 h8 E8 A8 C8 V8 B8 N8 c8 => ?_)
      have T8 : Str Z h8 p2_ [] := ⟨b8, k8, A8, C8, V8, B8, by decide, by decide⟩
      have U2 : StrU Z h8 p2_ [] := Or.inl T8
      refine Go.astore #[.val (.int aa), .val (.int ba), .val (.int ca), .val (.int na), .val (.int (na &&& (3 : Int32))), .val (.int c1_), .val (.int c2_), .val (.int c3_), .val (.ref sJ), .val (.ref out), .val (.ref p1_), .val (.ref p2_), .unset, .unset, .unset, .unset] 170 at_168 rfl rfl rfl ?_
      refine Go.iload 172 at_170 rfl rfl ?_
      refine Go.iconst (3) 173 at_172 rfl rfl ?_
      refine Go.if_icmplt 184 176 at_173 (by decide) rfl rfl (fun q9 => ?_) (fun q9 => (by rw [hk] at q9; exact absurd q9 (by decide)))
      refine Go.ldcS (text := "") (vs := []) (z := (0 : Int32)) 0 186 at_184 rfl rfl (W.1 198 rfl) (W.sub (by decide +kernel)) (by decide : ("com/example/guide/guide/web/PagesEscapePinLaw", 28) ∈ consts_1) lit_ok_.1 (by decide) (by decide) lit_ok_.2 (by decide) (nl rfl) (nl rfl) (fun p3_ b10 k10 vm10 h10 E10 A10 C10 V10 B10 N10 c10 => ?_)
      have T10 : Str Z h10 p3_ [] := ⟨b10, k10, A10, C10, V10, B10, by decide, by decide⟩
      have U3 : StrU Z h10 p3_ [] := Or.inl T10
      refine Go.astore #[.val (.int aa), .val (.int ba), .val (.int ca), .val (.int na), .val (.int (na &&& (3 : Int32))), .val (.int c1_), .val (.int c2_), .val (.int c3_), .val (.ref sJ), .val (.ref out), .val (.ref p1_), .val (.ref p2_), .val (.ref p3_), .unset, .unset, .unset] 188 at_186 rfl rfl rfl ?_
      refine Go.aload 190 at_188 rfl rfl rfl ?_
      have f11 := U1.ext (Ext.tr E8 E10)
      refine Go.invokevirtual (rest := []) 0 p1_ [] 193 at_190 rfl f11.exa (W.1 199 rfl) (W.1 42 rfl) (fun s hs => notFace_of_selects (args := #[]) (mvT hs (W.1 44 rfl))) (W.1 44 rfl) (W.1 43 rfl) (W.1 6 rfl) (W.1 45 rfl) (by decide) (cSLen W f11) (by decide +kernel : parseMethodDescriptor "()I" = some ⟨[], (some .int)⟩) rfl rfl rfl (nl rfl) (nl rfl) (nl rfl) (nl rfl) (nl rfl) (fun v12 vm12 h12 ⟨rv, hh⟩ c12 => ?_)
      subst rv; replace hh := hh.symm; subst hh
      refine Go.istore #[.val (.int aa), .val (.int ba), .val (.int ca), .val (.int na), .val (.int (na &&& (3 : Int32))), .val (.int c1_), .val (.int c2_), .val (.int c3_), .val (.ref sJ), .val (.ref out), .val (.ref p1_), .val (.ref p2_), .val (.ref p3_), .val (.int (Int32.ofNat ([] : List Int32).length)), .unset, .unset] 195 at_193 rfl rfl ?_
      refine Go.aload 197 at_195 rfl rfl rfl ?_
      have f13 := U2.ext E10
      refine Go.invokevirtual (rest := []) 0 p2_ [] 200 at_197 rfl f13.exa (W.1 199 rfl) (W.1 42 rfl) (fun s hs => notFace_of_selects (args := #[]) (mvT hs (W.1 44 rfl))) (W.1 44 rfl) (W.1 43 rfl) (W.1 6 rfl) (W.1 45 rfl) (by decide) (cSLen W f13) (by decide +kernel : parseMethodDescriptor "()I" = some ⟨[], (some .int)⟩) rfl rfl rfl (nl rfl) (nl rfl) (nl rfl) (nl rfl) (nl rfl) (fun v14 vm14 h14 ⟨rv, hh⟩ c14 => ?_)
      subst rv; replace hh := hh.symm; subst hh
      refine Go.istore #[.val (.int aa), .val (.int ba), .val (.int ca), .val (.int na), .val (.int (na &&& (3 : Int32))), .val (.int c1_), .val (.int c2_), .val (.int c3_), .val (.ref sJ), .val (.ref out), .val (.ref p1_), .val (.ref p2_), .val (.ref p3_), .val (.int (Int32.ofNat ([] : List Int32).length)), .val (.int (Int32.ofNat ([] : List Int32).length)), .unset] 202 at_200 rfl rfl ?_
      refine Go.aload 204 at_202 rfl rfl rfl ?_
      refine Go.invokevirtual (rest := []) 0 p3_ [] 207 at_204 rfl U3.exa (W.1 199 rfl) (W.1 42 rfl) (fun s hs => notFace_of_selects (args := #[]) (mvT hs (W.1 44 rfl))) (W.1 44 rfl) (W.1 43 rfl) (W.1 6 rfl) (W.1 45 rfl) (by decide) (cSLen W U3) (by decide +kernel : parseMethodDescriptor "()I" = some ⟨[], (some .int)⟩) rfl rfl rfl (nl rfl) (nl rfl) (nl rfl) (nl rfl) (nl rfl) (fun v15 vm15 h15 ⟨rv, hh⟩ c15 => ?_)
      subst rv; replace hh := hh.symm; subst hh
      refine Go.istore #[.val (.int aa), .val (.int ba), .val (.int ca), .val (.int na), .val (.int (na &&& (3 : Int32))), .val (.int c1_), .val (.int c2_), .val (.int c3_), .val (.ref sJ), .val (.ref out), .val (.ref p1_), .val (.ref p2_), .val (.ref p3_), .val (.int (Int32.ofNat ([] : List Int32).length)), .val (.int (Int32.ofNat ([] : List Int32).length)), .val (.int (Int32.ofNat ([] : List Int32).length))] 209 at_207 rfl rfl ?_
      refine Go.aload 211 at_209 rfl rfl rfl ?_
      have f16 := T9_.ext (Ext.tr E6 (Ext.tr E8 E10))
      refine Go.invokevirtual (rest := []) 0 out [] 214 at_211 rfl f16.exa (W.1 199 rfl) (W.1 42 rfl) (fun s hs => notFace_of_selects (args := #[]) (mvT hs (W.1 44 rfl))) (W.1 44 rfl) (W.1 43 rfl) (W.1 6 rfl) (W.1 45 rfl) (by decide) (cSLen W f16) (by decide +kernel : parseMethodDescriptor "()I" = some ⟨[], (some .int)⟩) rfl rfl rfl (nl rfl) (nl rfl) (nl rfl) (nl rfl) (nl rfl) (fun v17 vm17 h17 ⟨rv, hh⟩ c17 => ?_)
      subst rv; replace hh := hh.symm; subst hh
      refine Go.iload 216 at_214 rfl rfl ?_
      refine Go.iload 218 at_216 rfl rfl ?_
      refine Go.iadd (Int32.ofNat (([] : List Int32).length + ([] : List Int32).length)) 219 at_218 rfl (ofNat_add' _ _) ?_
      refine Go.iload 221 at_219 rfl rfl ?_
      refine Go.iadd (Int32.ofNat (([] : List Int32).length + ([] : List Int32).length + ([] : List Int32).length)) 222 at_221 rfl (ofNat_add' _ _) ?_
      refine Go.if_icmpeq 227 225 at_222 (by decide) rfl rfl (fun q18 => ?_) (fun q18 => absurd (congrArg Int32.ofNat (by simp only [List.length_append])) q18)
      refine Go.aload 229 at_227 rfl rfl rfl ?_
      refine Go.iconst (0) 230 at_229 rfl rfl ?_
      refine Go.aload 232 at_230 rfl rfl rfl ?_
      have O1 : StrU Z h10 out ([] ++ ([] : List Int32) ++ (([] : List Int32) ++ ([] : List Int32))) := by rw [show ([] ++ ([] : List Int32) ++ (([] : List Int32) ++ ([] : List Int32))) = ((([] : List Int32) ++ ([] : List Int32)) ++ ([] : List Int32)) from by simp]; exact f16
      refine Go.invokestatic (rest := []) 0 [.ref out, .int (0 : Int32), .ref p1_] 235 at_232 rfl (W.1 200 rfl) (W.1 201 rfl) (W.1 2 rfl) (W.1 202 rfl) (by decide) (cSeg W (f_ := 0) U O1 f11 (segOK (pre := []) (post := ([] : List Int32) ++ ([] : List Int32)) rfl)) (by decide +kernel : parseMethodDescriptor "(Ljava/lang/String;ILjava/lang/String;)Z" = some ⟨[(.object "java/lang/String"), .int, (.object "java/lang/String")], (some .boolean)⟩) rfl rfl rfl (nl rfl) (nl rfl) (nl rfl) (nl rfl) (nl rfl) (fun v19 vm19 h19 ⟨rv, hh⟩ c19 => ?_)
      subst rv; replace hh := hh.symm; subst hh
      refine Go.ifeq 269 238 at_235 (by decide) rfl rfl (fun q20 => absurd q20 (by decide)) (fun q20 => ?_)
      refine Go.aload 240 at_238 rfl rfl rfl ?_
      refine Go.iload 242 at_240 rfl rfl ?_
      refine Go.aload 244 at_242 rfl rfl rfl ?_
      have O2 : StrU Z h10 out ((([] : List Int32) ++ ([] : List Int32)) ++ ([] : List Int32)) := by rw [show ((([] : List Int32) ++ ([] : List Int32)) ++ ([] : List Int32)) = ((([] : List Int32) ++ ([] : List Int32)) ++ ([] : List Int32)) from by simp]; exact f16
      refine Go.invokestatic (rest := []) 0 [.ref out, .int (Int32.ofNat ([] : List Int32).length), .ref p2_] 247 at_244 rfl (W.1 200 rfl) (W.1 201 rfl) (W.1 2 rfl) (W.1 202 rfl) (by decide) (cSeg W (f_ := ([] : List Int32).length) U O2 f13 (segOK (pre := ([] : List Int32)) rfl)) (by decide +kernel : parseMethodDescriptor "(Ljava/lang/String;ILjava/lang/String;)Z" = some ⟨[(.object "java/lang/String"), .int, (.object "java/lang/String")], (some .boolean)⟩) rfl rfl rfl (nl rfl) (nl rfl) (nl rfl) (nl rfl) (nl rfl) (fun v21 vm21 h21 ⟨rv, hh⟩ c21 => ?_)
      subst rv; replace hh := hh.symm; subst hh
      refine Go.ifeq 269 250 at_247 (by decide) rfl rfl (fun q22 => absurd q22 (by decide)) (fun q22 => ?_)
      refine Go.aload 252 at_250 rfl rfl rfl ?_
      refine Go.iload 254 at_252 rfl rfl ?_
      refine Go.iload 256 at_254 rfl rfl ?_
      refine Go.iadd (Int32.ofNat (([] : List Int32).length + ([] : List Int32).length)) 257 at_256 rfl (ofNat_add' _ _) ?_
      refine Go.aload 259 at_257 rfl rfl rfl ?_
      have O3 : StrU Z h10 out ((([] : List Int32) ++ ([] : List Int32)) ++ ([] : List Int32) ++ []) := by rw [show ((([] : List Int32) ++ ([] : List Int32)) ++ ([] : List Int32) ++ []) = ((([] : List Int32) ++ ([] : List Int32)) ++ ([] : List Int32)) from by simp]; exact f16
      refine Go.invokestatic (rest := []) 0 [.ref out, .int (Int32.ofNat (([] : List Int32).length + ([] : List Int32).length)), .ref p3_] 262 at_259 rfl (W.1 200 rfl) (W.1 201 rfl) (W.1 2 rfl) (W.1 202 rfl) (by decide) (cSeg W (f_ := ([] : List Int32).length + ([] : List Int32).length) U O3 U3 (segOK (pre := ([] : List Int32) ++ ([] : List Int32)) (post := []) (by simp only [List.length_append]))) (by decide +kernel : parseMethodDescriptor "(Ljava/lang/String;ILjava/lang/String;)Z" = some ⟨[(.object "java/lang/String"), .int, (.object "java/lang/String")], (some .boolean)⟩) rfl rfl rfl (nl rfl) (nl rfl) (nl rfl) (nl rfl) (nl rfl) (fun v23 vm23 h23 ⟨rv, hh⟩ c23 => ?_)
      subst rv; replace hh := hh.symm; subst hh
      refine Go.ifeq 269 265 at_262 (by decide) rfl rfl (fun q24 => absurd q24 (by decide)) (fun q24 => ?_)
      refine Go.iconst (1) 266 at_265 rfl rfl ?_
      refine Go.goto 270 at_266 (by decide) rfl ?_
      exact Go.ireturn at_270 rfl rfl (by simp) (nl rfl) (nl rfl) (fun vm' ch => rfl)
    refine Go.ifne 43 28 at_25 (by decide) rfl rfl (fun q25 => (by rw [hk] at q25; exact absurd q25 (by decide))) (fun q25 => ?_)
    refine Go.new 31 at_28 rfl (W.1 4 rfl) (W.1 5 rfl) (W.1 6 rfl) (nl rfl) (nl rfl) (fun x1 h26 e26 E26 ⟨A26, D26⟩ S26 z26 c26 => ?_)
    refine Go.dup 32 at_31 rfl rfl ?_
    refine Go.iconst (0) 33 at_32 rfl rfl ?_
    refine Go.newarray 0 35 at_33 rfl (W.1 7 rfl) (by decide) (by decide) (by decide) (nl rfl) (nl rfl) (fun b1 h27 e27 E27 ⟨k27, B27⟩ S27 z27 c27 => ?_)
    have A27 : Arv Z h27 b1 k27 .char (0 : Int32) [] (.int 0) := B27.pad (pad_rep [] (.int 0) 0)
    have f28 := D26 (Or.inr (W.1 33 rfl)) (ty := (.array .byte)) (by decide)
    have f29 := D26 (Or.inr (W.1 31 rfl)) (ty := .byte) (by decide)
    have f30 := A26.ext E27
    have f31 := f28.ext E27
    have f32 := f29.ext E27
    have f33 := CHr.safe c27 A26.lt S26
    have L33 := Nat.lt_of_lt_of_le A26.lt c27.2.1
    refine Go.invokespecial (rest := [.ref x1]) 1 x1 [.ref b1] 38 at_35 rfl rfl (W.1 8 rfl) (W.1 9 rfl) (W.1 6 rfl) (W.1 10 rfl) (by decide) (cEmp1 W (by decide : ("java/lang/String", 7) ∈ consts_1) f30 f31 f32 A27 f33 z26) (by decide +kernel : parseMethodDescriptor "([C)V" = some ⟨[(.array .char)], none⟩) rfl rfl rfl (nl rfl) (nl rfl) (nl rfl) (nl rfl) (nl rfl) (fun v34 vm34 h34 ⟨rv, K34, T34⟩ c34 => ?_)
    subst rv
    have E34 := Ext.kp1 (Ext.tr E26 E27) K34 e26
    refine Go.astore #[.val (.int aa), .val (.int ba), .val (.int ca), .val (.int na), .val (.int (na &&& (3 : Int32))), .val (.int c1_), .val (.int c2_), .val (.int c3_), .val (.ref x1), .unset, .unset, .unset, .unset, .unset, .unset, .unset] 40 at_38 rfl rfl rfl ?_
    refine Go.goto 127 at_40 (by decide) rfl ?_
    refine Go.mono (k' := 6) (n' := 260) (nl rfl) (nl rfl) ?_
    exact J127 _ _ _ E34 (Or.inl T34)
  · have hall : ∀ c ∈ ([c1_] : List Int32), C16 c := (by intro c hc; simp only [List.mem_cons, List.not_mem_nil, or_false] at hc; rcases hc with rfl <;> assumption)
    have J127 : ∀ (sJ : Addr) (vmJ : Vm) (hJ : Heap), Ext h hJ → StrU Z hJ sJ ([c1_] : List Int32) → Go false p l e room_1 s m #[.int aa, .int ba, .int ca, .int na] below meth c code maxLocals "law" ret Z a0 consts_1 "com/example/guide/guide/web/PagesEscapePinLaw" (fun v vm' h' => v = some (.int 1)) vmJ hJ 6 260 127 #[.val (.int aa), .val (.int ba), .val (.int ca), .val (.int na), .val (.int (na &&& (3 : Int32))), .val (.int c1_), .val (.int c2_), .val (.int c3_), .val (.ref sJ), .unset, .unset, .unset, .unset, .unset, .unset, .unset] [] := by
      intro sJ vmJ hJ EJ SJ
      refine Go.aload 129 at_127 rfl rfl rfl ?_
      refine Go.invokestatic (rest := []) 0 [.ref sJ] 132 at_129 rfl (W.1 34 rfl) (W.1 35 rfl) (W.1 36 rfl) (W.1 37 rfl) (by decide) (cEsc W U ⟨(by decide : ("com/example/guide/guide/web/Pages", 147) ∈ consts_1), (by decide : ("com/example/guide/guide/web/Pages", 149) ∈ consts_1), (by decide : ("com/example/guide/guide/web/Pages", 151) ∈ consts_1), (by decide : ("com/example/guide/guide/web/Pages", 153) ∈ consts_1), (by decide : ("com/example/guide/guide/web/Pages", 155) ∈ consts_1)⟩ SJ (nl rfl)) (by decide +kernel : parseMethodDescriptor "(Ljava/lang/String;)Ljava/lang/String;" = some ⟨[(.object "java/lang/String")], (some (.object "java/lang/String"))⟩) rfl rfl rfl (nl rfl) (nl rfl) (nl rfl) (nl rfl) (nl rfl) (fun v35 vm35 h35 ⟨out, rv, E9_, T9_⟩ c35 => ?_)
      subst rv
      have OS : outV ([c1_] : List Int32) = (((refV c1_) ++ ([] : List Int32)) ++ ([] : List Int32)) := by simp [outV]
      rw [OS] at T9_
      refine Go.astore #[.val (.int aa), .val (.int ba), .val (.int ca), .val (.int na), .val (.int (na &&& (3 : Int32))), .val (.int c1_), .val (.int c2_), .val (.int c3_), .val (.ref sJ), .val (.ref out), .unset, .unset, .unset, .unset, .unset, .unset] 134 at_132 rfl rfl rfl ?_
      refine Go.iload 136 at_134 rfl rfl ?_
      refine Go.iconst (1) 137 at_136 rfl rfl ?_
      refine Go.if_icmplt 148 140 at_137 (by decide) rfl rfl (fun q36 => (by rw [hk] at q36; exact absurd q36 (by decide))) (fun q36 => ?_)
      refine Go.iload 142 at_140 rfl rfl ?_
      refine Go.invokestatic (rest := []) 0 [.int c1_] 145 at_142 rfl (W.1 194 rfl) (W.1 195 rfl) (W.1 2 rfl) (W.1 196 rfl) (by decide) (cRef W U ⟨(by decide : ("com/example/guide/guide/web/PagesEscapePinLaw", 38) ∈ consts_1), (by decide : ("com/example/guide/guide/web/PagesEscapePinLaw", 40) ∈ consts_1), (by decide : ("com/example/guide/guide/web/PagesEscapePinLaw", 42) ∈ consts_1), (by decide : ("com/example/guide/guide/web/PagesEscapePinLaw", 44) ∈ consts_1), (by decide : ("com/example/guide/guide/web/PagesEscapePinLaw", 46) ∈ consts_1)⟩ hc1) (by decide +kernel : parseMethodDescriptor "(C)Ljava/lang/String;" = some ⟨[.char], (some (.object "java/lang/String"))⟩) rfl rfl rfl (nl rfl) (nl rfl) (nl rfl) (nl rfl) (nl rfl) (fun v37 vm37 h37 ⟨p1_, rv, Ep1, Tp1⟩ c37 => ?_)
      subst rv
      refine Go.goto 150 at_145 (by decide) rfl ?_
      refine Go.astore #[.val (.int aa), .val (.int ba), .val (.int ca), .val (.int na), .val (.int (na &&& (3 : Int32))), .val (.int c1_), .val (.int c2_), .val (.int c3_), .val (.ref sJ), .val (.ref out), .val (.ref p1_), .unset, .unset, .unset, .unset, .unset] 152 at_150 rfl rfl rfl ?_
      refine Go.iload 154 at_152 rfl rfl ?_
      refine Go.iconst (2) 155 at_154 rfl rfl ?_
      refine Go.if_icmplt 166 158 at_155 (by decide) rfl rfl (fun q38 => ?_) (fun q38 => (by rw [hk] at q38; exact absurd q38 (by decide)))
      refine Go.ldcS (text := "") (vs := []) (z := (0 : Int32)) 0 168 at_166 rfl rfl (W.1 198 rfl) (W.sub (by decide +kernel)) (by decide : ("com/example/guide/guide/web/PagesEscapePinLaw", 28) ∈ consts_1) lit_ok_.1 (by decide) (by decide) lit_ok_.2 (by decide) (nl rfl) (nl rfl) (fun p2_ b39 k39 vm39 h39 E39 A39 C39 V39 B39 N39 c39 => ?_)
      have T39 : Str Z h39 p2_ [] := ⟨b39, k39, A39, C39, V39, B39, by decide, by decide⟩
      have U2 : StrU Z h39 p2_ [] := Or.inl T39
      refine Go.astore #[.val (.int aa), .val (.int ba), .val (.int ca), .val (.int na), .val (.int (na &&& (3 : Int32))), .val (.int c1_), .val (.int c2_), .val (.int c3_), .val (.ref sJ), .val (.ref out), .val (.ref p1_), .val (.ref p2_), .unset, .unset, .unset, .unset] 170 at_168 rfl rfl rfl ?_
      refine Go.iload 172 at_170 rfl rfl ?_
      refine Go.iconst (3) 173 at_172 rfl rfl ?_
      refine Go.if_icmplt 184 176 at_173 (by decide) rfl rfl (fun q40 => ?_) (fun q40 => (by rw [hk] at q40; exact absurd q40 (by decide)))
      refine Go.ldcS (text := "") (vs := []) (z := (0 : Int32)) 0 186 at_184 rfl rfl (W.1 198 rfl) (W.sub (by decide +kernel)) (by decide : ("com/example/guide/guide/web/PagesEscapePinLaw", 28) ∈ consts_1) lit_ok_.1 (by decide) (by decide) lit_ok_.2 (by decide) (nl rfl) (nl rfl) (fun p3_ b41 k41 vm41 h41 E41 A41 C41 V41 B41 N41 c41 => ?_)
      have T41 : Str Z h41 p3_ [] := ⟨b41, k41, A41, C41, V41, B41, by decide, by decide⟩
      have U3 : StrU Z h41 p3_ [] := Or.inl T41
      refine Go.astore #[.val (.int aa), .val (.int ba), .val (.int ca), .val (.int na), .val (.int (na &&& (3 : Int32))), .val (.int c1_), .val (.int c2_), .val (.int c3_), .val (.ref sJ), .val (.ref out), .val (.ref p1_), .val (.ref p2_), .val (.ref p3_), .unset, .unset, .unset] 188 at_186 rfl rfl rfl ?_
      refine Go.aload 190 at_188 rfl rfl rfl ?_
      have f42 := Tp1.ext (Ext.tr E39 E41)
      refine Go.invokevirtual (rest := []) 0 p1_ [] 193 at_190 rfl f42.exa (W.1 199 rfl) (W.1 42 rfl) (fun s hs => notFace_of_selects (args := #[]) (mvT hs (W.1 44 rfl))) (W.1 44 rfl) (W.1 43 rfl) (W.1 6 rfl) (W.1 45 rfl) (by decide) (cSLen W f42) (by decide +kernel : parseMethodDescriptor "()I" = some ⟨[], (some .int)⟩) rfl rfl rfl (nl rfl) (nl rfl) (nl rfl) (nl rfl) (nl rfl) (fun v43 vm43 h43 ⟨rv, hh⟩ c43 => ?_)
      subst rv; replace hh := hh.symm; subst hh
      refine Go.istore #[.val (.int aa), .val (.int ba), .val (.int ca), .val (.int na), .val (.int (na &&& (3 : Int32))), .val (.int c1_), .val (.int c2_), .val (.int c3_), .val (.ref sJ), .val (.ref out), .val (.ref p1_), .val (.ref p2_), .val (.ref p3_), .val (.int (Int32.ofNat (refV c1_).length)), .unset, .unset] 195 at_193 rfl rfl ?_
      refine Go.aload 197 at_195 rfl rfl rfl ?_
      have f44 := U2.ext E41
      refine Go.invokevirtual (rest := []) 0 p2_ [] 200 at_197 rfl f44.exa (W.1 199 rfl) (W.1 42 rfl) (fun s hs => notFace_of_selects (args := #[]) (mvT hs (W.1 44 rfl))) (W.1 44 rfl) (W.1 43 rfl) (W.1 6 rfl) (W.1 45 rfl) (by decide) (cSLen W f44) (by decide +kernel : parseMethodDescriptor "()I" = some ⟨[], (some .int)⟩) rfl rfl rfl (nl rfl) (nl rfl) (nl rfl) (nl rfl) (nl rfl) (fun v45 vm45 h45 ⟨rv, hh⟩ c45 => ?_)
      subst rv; replace hh := hh.symm; subst hh
      refine Go.istore #[.val (.int aa), .val (.int ba), .val (.int ca), .val (.int na), .val (.int (na &&& (3 : Int32))), .val (.int c1_), .val (.int c2_), .val (.int c3_), .val (.ref sJ), .val (.ref out), .val (.ref p1_), .val (.ref p2_), .val (.ref p3_), .val (.int (Int32.ofNat (refV c1_).length)), .val (.int (Int32.ofNat ([] : List Int32).length)), .unset] 202 at_200 rfl rfl ?_
      refine Go.aload 204 at_202 rfl rfl rfl ?_
      refine Go.invokevirtual (rest := []) 0 p3_ [] 207 at_204 rfl U3.exa (W.1 199 rfl) (W.1 42 rfl) (fun s hs => notFace_of_selects (args := #[]) (mvT hs (W.1 44 rfl))) (W.1 44 rfl) (W.1 43 rfl) (W.1 6 rfl) (W.1 45 rfl) (by decide) (cSLen W U3) (by decide +kernel : parseMethodDescriptor "()I" = some ⟨[], (some .int)⟩) rfl rfl rfl (nl rfl) (nl rfl) (nl rfl) (nl rfl) (nl rfl) (fun v46 vm46 h46 ⟨rv, hh⟩ c46 => ?_)
      subst rv; replace hh := hh.symm; subst hh
      refine Go.istore #[.val (.int aa), .val (.int ba), .val (.int ca), .val (.int na), .val (.int (na &&& (3 : Int32))), .val (.int c1_), .val (.int c2_), .val (.int c3_), .val (.ref sJ), .val (.ref out), .val (.ref p1_), .val (.ref p2_), .val (.ref p3_), .val (.int (Int32.ofNat (refV c1_).length)), .val (.int (Int32.ofNat ([] : List Int32).length)), .val (.int (Int32.ofNat ([] : List Int32).length))] 209 at_207 rfl rfl ?_
      refine Go.aload 211 at_209 rfl rfl rfl ?_
      have f47 := T9_.ext (Ext.tr Ep1 (Ext.tr E39 E41))
      refine Go.invokevirtual (rest := []) 0 out [] 214 at_211 rfl f47.exa (W.1 199 rfl) (W.1 42 rfl) (fun s hs => notFace_of_selects (args := #[]) (mvT hs (W.1 44 rfl))) (W.1 44 rfl) (W.1 43 rfl) (W.1 6 rfl) (W.1 45 rfl) (by decide) (cSLen W f47) (by decide +kernel : parseMethodDescriptor "()I" = some ⟨[], (some .int)⟩) rfl rfl rfl (nl rfl) (nl rfl) (nl rfl) (nl rfl) (nl rfl) (fun v48 vm48 h48 ⟨rv, hh⟩ c48 => ?_)
      subst rv; replace hh := hh.symm; subst hh
      refine Go.iload 216 at_214 rfl rfl ?_
      refine Go.iload 218 at_216 rfl rfl ?_
      refine Go.iadd (Int32.ofNat ((refV c1_).length + ([] : List Int32).length)) 219 at_218 rfl (ofNat_add' _ _) ?_
      refine Go.iload 221 at_219 rfl rfl ?_
      refine Go.iadd (Int32.ofNat ((refV c1_).length + ([] : List Int32).length + ([] : List Int32).length)) 222 at_221 rfl (ofNat_add' _ _) ?_
      refine Go.if_icmpeq 227 225 at_222 (by decide) rfl rfl (fun q49 => ?_) (fun q49 => absurd (congrArg Int32.ofNat (by simp only [List.length_append])) q49)
      refine Go.aload 229 at_227 rfl rfl rfl ?_
      refine Go.iconst (0) 230 at_229 rfl rfl ?_
      refine Go.aload 232 at_230 rfl rfl rfl ?_
      have O1 : StrU Z h41 out ([] ++ (refV c1_) ++ (([] : List Int32) ++ ([] : List Int32))) := by rw [show ([] ++ (refV c1_) ++ (([] : List Int32) ++ ([] : List Int32))) = (((refV c1_) ++ ([] : List Int32)) ++ ([] : List Int32)) from by simp]; exact f47
      refine Go.invokestatic (rest := []) 0 [.ref out, .int (0 : Int32), .ref p1_] 235 at_232 rfl (W.1 200 rfl) (W.1 201 rfl) (W.1 2 rfl) (W.1 202 rfl) (by decide) (cSeg W (f_ := 0) U O1 f42 (segOK (pre := []) (post := ([] : List Int32) ++ ([] : List Int32)) rfl)) (by decide +kernel : parseMethodDescriptor "(Ljava/lang/String;ILjava/lang/String;)Z" = some ⟨[(.object "java/lang/String"), .int, (.object "java/lang/String")], (some .boolean)⟩) rfl rfl rfl (nl rfl) (nl rfl) (nl rfl) (nl rfl) (nl rfl) (fun v50 vm50 h50 ⟨rv, hh⟩ c50 => ?_)
      subst rv; replace hh := hh.symm; subst hh
      refine Go.ifeq 269 238 at_235 (by decide) rfl rfl (fun q51 => absurd q51 (by decide)) (fun q51 => ?_)
      refine Go.aload 240 at_238 rfl rfl rfl ?_
      refine Go.iload 242 at_240 rfl rfl ?_
      refine Go.aload 244 at_242 rfl rfl rfl ?_
      have O2 : StrU Z h41 out (((refV c1_) ++ ([] : List Int32)) ++ ([] : List Int32)) := by rw [show (((refV c1_) ++ ([] : List Int32)) ++ ([] : List Int32)) = (((refV c1_) ++ ([] : List Int32)) ++ ([] : List Int32)) from by simp]; exact f47
      refine Go.invokestatic (rest := []) 0 [.ref out, .int (Int32.ofNat (refV c1_).length), .ref p2_] 247 at_244 rfl (W.1 200 rfl) (W.1 201 rfl) (W.1 2 rfl) (W.1 202 rfl) (by decide) (cSeg W (f_ := (refV c1_).length) U O2 f44 (segOK (pre := (refV c1_)) rfl)) (by decide +kernel : parseMethodDescriptor "(Ljava/lang/String;ILjava/lang/String;)Z" = some ⟨[(.object "java/lang/String"), .int, (.object "java/lang/String")], (some .boolean)⟩) rfl rfl rfl (nl rfl) (nl rfl) (nl rfl) (nl rfl) (nl rfl) (fun v52 vm52 h52 ⟨rv, hh⟩ c52 => ?_)
      subst rv; replace hh := hh.symm; subst hh
      refine Go.ifeq 269 250 at_247 (by decide) rfl rfl (fun q53 => absurd q53 (by decide)) (fun q53 => ?_)
      refine Go.aload 252 at_250 rfl rfl rfl ?_
      refine Go.iload 254 at_252 rfl rfl ?_
      refine Go.iload 256 at_254 rfl rfl ?_
      refine Go.iadd (Int32.ofNat ((refV c1_).length + ([] : List Int32).length)) 257 at_256 rfl (ofNat_add' _ _) ?_
      refine Go.aload 259 at_257 rfl rfl rfl ?_
      have O3 : StrU Z h41 out (((refV c1_) ++ ([] : List Int32)) ++ ([] : List Int32) ++ []) := by rw [show (((refV c1_) ++ ([] : List Int32)) ++ ([] : List Int32) ++ []) = (((refV c1_) ++ ([] : List Int32)) ++ ([] : List Int32)) from by simp]; exact f47
      refine Go.invokestatic (rest := []) 0 [.ref out, .int (Int32.ofNat ((refV c1_).length + ([] : List Int32).length)), .ref p3_] 262 at_259 rfl (W.1 200 rfl) (W.1 201 rfl) (W.1 2 rfl) (W.1 202 rfl) (by decide) (cSeg W (f_ := (refV c1_).length + ([] : List Int32).length) U O3 U3 (segOK (pre := (refV c1_) ++ ([] : List Int32)) (post := []) (by simp only [List.length_append]))) (by decide +kernel : parseMethodDescriptor "(Ljava/lang/String;ILjava/lang/String;)Z" = some ⟨[(.object "java/lang/String"), .int, (.object "java/lang/String")], (some .boolean)⟩) rfl rfl rfl (nl rfl) (nl rfl) (nl rfl) (nl rfl) (nl rfl) (fun v54 vm54 h54 ⟨rv, hh⟩ c54 => ?_)
      subst rv; replace hh := hh.symm; subst hh
      refine Go.ifeq 269 265 at_262 (by decide) rfl rfl (fun q55 => absurd q55 (by decide)) (fun q55 => ?_)
      refine Go.iconst (1) 266 at_265 rfl rfl ?_
      refine Go.goto 270 at_266 (by decide) rfl ?_
      exact Go.ireturn at_270 rfl rfl (by simp) (nl rfl) (nl rfl) (fun vm' ch => rfl)
    refine Go.ifne 43 28 at_25 (by decide) rfl rfl (fun q56 => ?_) (fun q56 => (by rw [hk] at q56; exact absurd q56 (by decide)))
    refine Go.iload 45 at_43 rfl rfl ?_
    refine Go.iconst (1) 46 at_45 rfl rfl ?_
    refine Go.if_icmpne 69 49 at_46 (by decide) rfl rfl (fun q57 => (by rw [hk] at q57; exact absurd q57 (by decide))) (fun q57 => ?_)
    refine Go.new 52 at_49 rfl (W.1 4 rfl) (W.1 5 rfl) (W.1 6 rfl) (nl rfl) (nl rfl) (fun x1 h58 e58 E58 ⟨A58, D58⟩ S58 z58 c58 => ?_)
    refine Go.dup 53 at_52 rfl rfl ?_
    refine Go.iconst (1) 54 at_53 rfl rfl ?_
    refine Go.newarray 1 56 at_54 rfl (W.1 7 rfl) (by decide) (by decide) (by decide) (nl rfl) (nl rfl) (fun b1 h59 e59 E59 ⟨k59, B59⟩ S59 z59 c59 => ?_)
    have A59 : Arv Z h59 b1 k59 .char (1 : Int32) [.int 0] (.int 0) := B59.pad (pad_rep [] (.int 0) 1)
    refine Go.dup 57 at_56 rfl rfl ?_
    refine Go.iconst (0) 58 at_57 rfl rfl ?_
    refine Go.iload 60 at_58 rfl rfl ?_
    refine Go.castore 0 c1_ [.int c1_] 61 at_60 rfl A59 (by decide) rfl (nl rfl) (nar16 hc1) rfl S59 z59 (fun h60 K60 A60 S60 c60 => ?_)
    have E60 := Ext.kp1 E59 K60 e59
    by_cases ha : ∀ c ∈ ([c1_] : List Int32), ¬ (255 : Int32) < c
    · have f62 := D58 (Or.inr (W.1 33 rfl)) (ty := (.array .byte)) (by decide)
      have f63 := D58 (Or.inr (W.1 31 rfl)) (ty := .byte) (by decide)
      have f64 := A58.ext E60
      have f65 := f62.ext E60
      have f66 := f63.ext E60
      have f67 := CHr.safe (CHr.trans c59 c60) A58.lt S58
      have L67 := Nat.lt_of_lt_of_le A58.lt (CHr.trans c59 c60).2.1
      refine goStrNew W 1 [c1_] 64 at_61 rfl (W.1 8 rfl) f64 f65 f66 A60 rfl (nl rfl) (nl rfl) (fun c hc => ⟨(hall c hc).1, ha c hc⟩) rfl rfl (nl rfl) (nl rfl) (nl rfl) (nl rfl) (nl rfl) f67 z58 (fun h61 K61 T61 c61 => ?_)
      have E61 := Ext.kp1 (Ext.tr E58 E60) K61 e58
      refine Go.astore #[.val (.int aa), .val (.int ba), .val (.int ca), .val (.int na), .val (.int (na &&& (3 : Int32))), .val (.int c1_), .val (.int c2_), .val (.int c3_), .val (.ref x1), .unset, .unset, .unset, .unset, .unset, .unset, .unset] 66 at_64 rfl rfl rfl ?_
      refine Go.goto 127 at_66 (by decide) rfl ?_
      refine Go.mono (k' := 6) (n' := 260) (nl rfl) (nl rfl) ?_
      exact J127 _ _ _ E61 (Or.inl T61)
    · have f68 := D58 (Or.inr (W.1 33 rfl)) (ty := (.array .byte)) (by decide)
      have f69 := D58 (Or.inr (W.1 31 rfl)) (ty := .byte) (by decide)
      have f70 := A58.ext E60
      have f71 := f68.ext E60
      have f72 := f69.ext E60
      have f73 := CHr.safe (CHr.trans c59 c60) A58.lt S58
      have L73 := Nat.lt_of_lt_of_le A58.lt (CHr.trans c59 c60).2.1
      refine Go.invokespecial (rest := [.ref x1]) 1 x1 [.ref b1] 64 at_61 rfl rfl (W.1 8 rfl) (W.1 9 rfl) (W.1 6 rfl) (W.1 10 rfl) (by decide) (cIniU W (cs := ([c1_] : List Int32)) U f70 f71 f72 f73 z58 A60 (by simp) (by simp) hall ha) (by decide +kernel : parseMethodDescriptor "([C)V" = some ⟨[(.array .char)], none⟩) rfl rfl rfl (nl rfl) (nl rfl) (nl rfl) (nl rfl) (nl rfl) (fun v74 vm74 h74 ⟨rv, K8, T8⟩ c74 => ?_)
      subst rv
      have E8 := Ext.kp1 (Ext.tr E58 E60) K8 e58
      refine Go.astore #[.val (.int aa), .val (.int ba), .val (.int ca), .val (.int na), .val (.int (na &&& (3 : Int32))), .val (.int c1_), .val (.int c2_), .val (.int c3_), .val (.ref x1), .unset, .unset, .unset, .unset, .unset, .unset, .unset] 66 at_64 rfl rfl rfl ?_
      refine Go.goto 127 at_66 (by decide) rfl ?_
      refine Go.mono (k' := 6) (n' := 260) (nl rfl) (nl rfl) ?_
      exact J127 _ _ _ E8 (Or.inr T8)
  · have hall : ∀ c ∈ ([c1_, c2_] : List Int32), C16 c := (by intro c hc; simp only [List.mem_cons, List.not_mem_nil, or_false] at hc; rcases hc with rfl | rfl <;> assumption)
    have J127 : ∀ (sJ : Addr) (vmJ : Vm) (hJ : Heap), Ext h hJ → StrU Z hJ sJ ([c1_, c2_] : List Int32) → Go false p l e room_1 s m #[.int aa, .int ba, .int ca, .int na] below meth c code maxLocals "law" ret Z a0 consts_1 "com/example/guide/guide/web/PagesEscapePinLaw" (fun v vm' h' => v = some (.int 1)) vmJ hJ 6 260 127 #[.val (.int aa), .val (.int ba), .val (.int ca), .val (.int na), .val (.int (na &&& (3 : Int32))), .val (.int c1_), .val (.int c2_), .val (.int c3_), .val (.ref sJ), .unset, .unset, .unset, .unset, .unset, .unset, .unset] [] := by
      intro sJ vmJ hJ EJ SJ
      refine Go.aload 129 at_127 rfl rfl rfl ?_
      refine Go.invokestatic (rest := []) 0 [.ref sJ] 132 at_129 rfl (W.1 34 rfl) (W.1 35 rfl) (W.1 36 rfl) (W.1 37 rfl) (by decide) (cEsc W U ⟨(by decide : ("com/example/guide/guide/web/Pages", 147) ∈ consts_1), (by decide : ("com/example/guide/guide/web/Pages", 149) ∈ consts_1), (by decide : ("com/example/guide/guide/web/Pages", 151) ∈ consts_1), (by decide : ("com/example/guide/guide/web/Pages", 153) ∈ consts_1), (by decide : ("com/example/guide/guide/web/Pages", 155) ∈ consts_1)⟩ SJ (nl rfl)) (by decide +kernel : parseMethodDescriptor "(Ljava/lang/String;)Ljava/lang/String;" = some ⟨[(.object "java/lang/String")], (some (.object "java/lang/String"))⟩) rfl rfl rfl (nl rfl) (nl rfl) (nl rfl) (nl rfl) (nl rfl) (fun v75 vm75 h75 ⟨out, rv, E9_, T9_⟩ c75 => ?_)
      subst rv
      have OS : outV ([c1_, c2_] : List Int32) = (((refV c1_) ++ (refV c2_)) ++ ([] : List Int32)) := by simp [outV]
      rw [OS] at T9_
      refine Go.astore #[.val (.int aa), .val (.int ba), .val (.int ca), .val (.int na), .val (.int (na &&& (3 : Int32))), .val (.int c1_), .val (.int c2_), .val (.int c3_), .val (.ref sJ), .val (.ref out), .unset, .unset, .unset, .unset, .unset, .unset] 134 at_132 rfl rfl rfl ?_
      refine Go.iload 136 at_134 rfl rfl ?_
      refine Go.iconst (1) 137 at_136 rfl rfl ?_
      refine Go.if_icmplt 148 140 at_137 (by decide) rfl rfl (fun q76 => (by rw [hk] at q76; exact absurd q76 (by decide))) (fun q76 => ?_)
      refine Go.iload 142 at_140 rfl rfl ?_
      refine Go.invokestatic (rest := []) 0 [.int c1_] 145 at_142 rfl (W.1 194 rfl) (W.1 195 rfl) (W.1 2 rfl) (W.1 196 rfl) (by decide) (cRef W U ⟨(by decide : ("com/example/guide/guide/web/PagesEscapePinLaw", 38) ∈ consts_1), (by decide : ("com/example/guide/guide/web/PagesEscapePinLaw", 40) ∈ consts_1), (by decide : ("com/example/guide/guide/web/PagesEscapePinLaw", 42) ∈ consts_1), (by decide : ("com/example/guide/guide/web/PagesEscapePinLaw", 44) ∈ consts_1), (by decide : ("com/example/guide/guide/web/PagesEscapePinLaw", 46) ∈ consts_1)⟩ hc1) (by decide +kernel : parseMethodDescriptor "(C)Ljava/lang/String;" = some ⟨[.char], (some (.object "java/lang/String"))⟩) rfl rfl rfl (nl rfl) (nl rfl) (nl rfl) (nl rfl) (nl rfl) (fun v77 vm77 h77 ⟨p1_, rv, Ep1, Tp1⟩ c77 => ?_)
      subst rv
      refine Go.goto 150 at_145 (by decide) rfl ?_
      refine Go.astore #[.val (.int aa), .val (.int ba), .val (.int ca), .val (.int na), .val (.int (na &&& (3 : Int32))), .val (.int c1_), .val (.int c2_), .val (.int c3_), .val (.ref sJ), .val (.ref out), .val (.ref p1_), .unset, .unset, .unset, .unset, .unset] 152 at_150 rfl rfl rfl ?_
      refine Go.iload 154 at_152 rfl rfl ?_
      refine Go.iconst (2) 155 at_154 rfl rfl ?_
      refine Go.if_icmplt 166 158 at_155 (by decide) rfl rfl (fun q78 => (by rw [hk] at q78; exact absurd q78 (by decide))) (fun q78 => ?_)
      refine Go.iload 160 at_158 rfl rfl ?_
      refine Go.invokestatic (rest := []) 0 [.int c2_] 163 at_160 rfl (W.1 194 rfl) (W.1 195 rfl) (W.1 2 rfl) (W.1 196 rfl) (by decide) (cRef W U ⟨(by decide : ("com/example/guide/guide/web/PagesEscapePinLaw", 38) ∈ consts_1), (by decide : ("com/example/guide/guide/web/PagesEscapePinLaw", 40) ∈ consts_1), (by decide : ("com/example/guide/guide/web/PagesEscapePinLaw", 42) ∈ consts_1), (by decide : ("com/example/guide/guide/web/PagesEscapePinLaw", 44) ∈ consts_1), (by decide : ("com/example/guide/guide/web/PagesEscapePinLaw", 46) ∈ consts_1)⟩ hc2) (by decide +kernel : parseMethodDescriptor "(C)Ljava/lang/String;" = some ⟨[.char], (some (.object "java/lang/String"))⟩) rfl rfl rfl (nl rfl) (nl rfl) (nl rfl) (nl rfl) (nl rfl) (fun v79 vm79 h79 ⟨p2_, rv, Ep2, Tp2⟩ c79 => ?_)
      subst rv
      refine Go.goto 168 at_163 (by decide) rfl ?_
      refine Go.astore #[.val (.int aa), .val (.int ba), .val (.int ca), .val (.int na), .val (.int (na &&& (3 : Int32))), .val (.int c1_), .val (.int c2_), .val (.int c3_), .val (.ref sJ), .val (.ref out), .val (.ref p1_), .val (.ref p2_), .unset, .unset, .unset, .unset] 170 at_168 rfl rfl rfl ?_
      refine Go.iload 172 at_170 rfl rfl ?_
      refine Go.iconst (3) 173 at_172 rfl rfl ?_
      refine Go.if_icmplt 184 176 at_173 (by decide) rfl rfl (fun q80 => ?_) (fun q80 => (by rw [hk] at q80; exact absurd q80 (by decide)))
      refine Go.ldcS (text := "") (vs := []) (z := (0 : Int32)) 0 186 at_184 rfl rfl (W.1 198 rfl) (W.sub (by decide +kernel)) (by decide : ("com/example/guide/guide/web/PagesEscapePinLaw", 28) ∈ consts_1) lit_ok_.1 (by decide) (by decide) lit_ok_.2 (by decide) (nl rfl) (nl rfl) (fun p3_ b81 k81 vm81 h81 E81 A81 C81 V81 B81 N81 c81 => ?_)
      have T81 : Str Z h81 p3_ [] := ⟨b81, k81, A81, C81, V81, B81, by decide, by decide⟩
      have U3 : StrU Z h81 p3_ [] := Or.inl T81
      refine Go.astore #[.val (.int aa), .val (.int ba), .val (.int ca), .val (.int na), .val (.int (na &&& (3 : Int32))), .val (.int c1_), .val (.int c2_), .val (.int c3_), .val (.ref sJ), .val (.ref out), .val (.ref p1_), .val (.ref p2_), .val (.ref p3_), .unset, .unset, .unset] 188 at_186 rfl rfl rfl ?_
      refine Go.aload 190 at_188 rfl rfl rfl ?_
      have f82 := Tp1.ext (Ext.tr Ep2 E81)
      refine Go.invokevirtual (rest := []) 0 p1_ [] 193 at_190 rfl f82.exa (W.1 199 rfl) (W.1 42 rfl) (fun s hs => notFace_of_selects (args := #[]) (mvT hs (W.1 44 rfl))) (W.1 44 rfl) (W.1 43 rfl) (W.1 6 rfl) (W.1 45 rfl) (by decide) (cSLen W f82) (by decide +kernel : parseMethodDescriptor "()I" = some ⟨[], (some .int)⟩) rfl rfl rfl (nl rfl) (nl rfl) (nl rfl) (nl rfl) (nl rfl) (fun v83 vm83 h83 ⟨rv, hh⟩ c83 => ?_)
      subst rv; replace hh := hh.symm; subst hh
      refine Go.istore #[.val (.int aa), .val (.int ba), .val (.int ca), .val (.int na), .val (.int (na &&& (3 : Int32))), .val (.int c1_), .val (.int c2_), .val (.int c3_), .val (.ref sJ), .val (.ref out), .val (.ref p1_), .val (.ref p2_), .val (.ref p3_), .val (.int (Int32.ofNat (refV c1_).length)), .unset, .unset] 195 at_193 rfl rfl ?_
      refine Go.aload 197 at_195 rfl rfl rfl ?_
      have f84 := Tp2.ext E81
      refine Go.invokevirtual (rest := []) 0 p2_ [] 200 at_197 rfl f84.exa (W.1 199 rfl) (W.1 42 rfl) (fun s hs => notFace_of_selects (args := #[]) (mvT hs (W.1 44 rfl))) (W.1 44 rfl) (W.1 43 rfl) (W.1 6 rfl) (W.1 45 rfl) (by decide) (cSLen W f84) (by decide +kernel : parseMethodDescriptor "()I" = some ⟨[], (some .int)⟩) rfl rfl rfl (nl rfl) (nl rfl) (nl rfl) (nl rfl) (nl rfl) (fun v85 vm85 h85 ⟨rv, hh⟩ c85 => ?_)
      subst rv; replace hh := hh.symm; subst hh
      refine Go.istore #[.val (.int aa), .val (.int ba), .val (.int ca), .val (.int na), .val (.int (na &&& (3 : Int32))), .val (.int c1_), .val (.int c2_), .val (.int c3_), .val (.ref sJ), .val (.ref out), .val (.ref p1_), .val (.ref p2_), .val (.ref p3_), .val (.int (Int32.ofNat (refV c1_).length)), .val (.int (Int32.ofNat (refV c2_).length)), .unset] 202 at_200 rfl rfl ?_
      refine Go.aload 204 at_202 rfl rfl rfl ?_
      refine Go.invokevirtual (rest := []) 0 p3_ [] 207 at_204 rfl U3.exa (W.1 199 rfl) (W.1 42 rfl) (fun s hs => notFace_of_selects (args := #[]) (mvT hs (W.1 44 rfl))) (W.1 44 rfl) (W.1 43 rfl) (W.1 6 rfl) (W.1 45 rfl) (by decide) (cSLen W U3) (by decide +kernel : parseMethodDescriptor "()I" = some ⟨[], (some .int)⟩) rfl rfl rfl (nl rfl) (nl rfl) (nl rfl) (nl rfl) (nl rfl) (fun v86 vm86 h86 ⟨rv, hh⟩ c86 => ?_)
      subst rv; replace hh := hh.symm; subst hh
      refine Go.istore #[.val (.int aa), .val (.int ba), .val (.int ca), .val (.int na), .val (.int (na &&& (3 : Int32))), .val (.int c1_), .val (.int c2_), .val (.int c3_), .val (.ref sJ), .val (.ref out), .val (.ref p1_), .val (.ref p2_), .val (.ref p3_), .val (.int (Int32.ofNat (refV c1_).length)), .val (.int (Int32.ofNat (refV c2_).length)), .val (.int (Int32.ofNat ([] : List Int32).length))] 209 at_207 rfl rfl ?_
      refine Go.aload 211 at_209 rfl rfl rfl ?_
      have f87 := T9_.ext (Ext.tr Ep1 (Ext.tr Ep2 E81))
      refine Go.invokevirtual (rest := []) 0 out [] 214 at_211 rfl f87.exa (W.1 199 rfl) (W.1 42 rfl) (fun s hs => notFace_of_selects (args := #[]) (mvT hs (W.1 44 rfl))) (W.1 44 rfl) (W.1 43 rfl) (W.1 6 rfl) (W.1 45 rfl) (by decide) (cSLen W f87) (by decide +kernel : parseMethodDescriptor "()I" = some ⟨[], (some .int)⟩) rfl rfl rfl (nl rfl) (nl rfl) (nl rfl) (nl rfl) (nl rfl) (fun v88 vm88 h88 ⟨rv, hh⟩ c88 => ?_)
      subst rv; replace hh := hh.symm; subst hh
      refine Go.iload 216 at_214 rfl rfl ?_
      refine Go.iload 218 at_216 rfl rfl ?_
      refine Go.iadd (Int32.ofNat ((refV c1_).length + (refV c2_).length)) 219 at_218 rfl (ofNat_add' _ _) ?_
      refine Go.iload 221 at_219 rfl rfl ?_
      refine Go.iadd (Int32.ofNat ((refV c1_).length + (refV c2_).length + ([] : List Int32).length)) 222 at_221 rfl (ofNat_add' _ _) ?_
      refine Go.if_icmpeq 227 225 at_222 (by decide) rfl rfl (fun q89 => ?_) (fun q89 => absurd (congrArg Int32.ofNat (by simp only [List.length_append])) q89)
      refine Go.aload 229 at_227 rfl rfl rfl ?_
      refine Go.iconst (0) 230 at_229 rfl rfl ?_
      refine Go.aload 232 at_230 rfl rfl rfl ?_
      have O1 : StrU Z h81 out ([] ++ (refV c1_) ++ ((refV c2_) ++ ([] : List Int32))) := by rw [show ([] ++ (refV c1_) ++ ((refV c2_) ++ ([] : List Int32))) = (((refV c1_) ++ (refV c2_)) ++ ([] : List Int32)) from by simp]; exact f87
      refine Go.invokestatic (rest := []) 0 [.ref out, .int (0 : Int32), .ref p1_] 235 at_232 rfl (W.1 200 rfl) (W.1 201 rfl) (W.1 2 rfl) (W.1 202 rfl) (by decide) (cSeg W (f_ := 0) U O1 f82 (segOK (pre := []) (post := (refV c2_) ++ ([] : List Int32)) rfl)) (by decide +kernel : parseMethodDescriptor "(Ljava/lang/String;ILjava/lang/String;)Z" = some ⟨[(.object "java/lang/String"), .int, (.object "java/lang/String")], (some .boolean)⟩) rfl rfl rfl (nl rfl) (nl rfl) (nl rfl) (nl rfl) (nl rfl) (fun v90 vm90 h90 ⟨rv, hh⟩ c90 => ?_)
      subst rv; replace hh := hh.symm; subst hh
      refine Go.ifeq 269 238 at_235 (by decide) rfl rfl (fun q91 => absurd q91 (by decide)) (fun q91 => ?_)
      refine Go.aload 240 at_238 rfl rfl rfl ?_
      refine Go.iload 242 at_240 rfl rfl ?_
      refine Go.aload 244 at_242 rfl rfl rfl ?_
      have O2 : StrU Z h81 out (((refV c1_) ++ (refV c2_)) ++ ([] : List Int32)) := by rw [show (((refV c1_) ++ (refV c2_)) ++ ([] : List Int32)) = (((refV c1_) ++ (refV c2_)) ++ ([] : List Int32)) from by simp]; exact f87
      refine Go.invokestatic (rest := []) 0 [.ref out, .int (Int32.ofNat (refV c1_).length), .ref p2_] 247 at_244 rfl (W.1 200 rfl) (W.1 201 rfl) (W.1 2 rfl) (W.1 202 rfl) (by decide) (cSeg W (f_ := (refV c1_).length) U O2 f84 (segOK (pre := (refV c1_)) rfl)) (by decide +kernel : parseMethodDescriptor "(Ljava/lang/String;ILjava/lang/String;)Z" = some ⟨[(.object "java/lang/String"), .int, (.object "java/lang/String")], (some .boolean)⟩) rfl rfl rfl (nl rfl) (nl rfl) (nl rfl) (nl rfl) (nl rfl) (fun v92 vm92 h92 ⟨rv, hh⟩ c92 => ?_)
      subst rv; replace hh := hh.symm; subst hh
      refine Go.ifeq 269 250 at_247 (by decide) rfl rfl (fun q93 => absurd q93 (by decide)) (fun q93 => ?_)
      refine Go.aload 252 at_250 rfl rfl rfl ?_
      refine Go.iload 254 at_252 rfl rfl ?_
      refine Go.iload 256 at_254 rfl rfl ?_
      refine Go.iadd (Int32.ofNat ((refV c1_).length + (refV c2_).length)) 257 at_256 rfl (ofNat_add' _ _) ?_
      refine Go.aload 259 at_257 rfl rfl rfl ?_
      have O3 : StrU Z h81 out (((refV c1_) ++ (refV c2_)) ++ ([] : List Int32) ++ []) := by rw [show (((refV c1_) ++ (refV c2_)) ++ ([] : List Int32) ++ []) = (((refV c1_) ++ (refV c2_)) ++ ([] : List Int32)) from by simp]; exact f87
      refine Go.invokestatic (rest := []) 0 [.ref out, .int (Int32.ofNat ((refV c1_).length + (refV c2_).length)), .ref p3_] 262 at_259 rfl (W.1 200 rfl) (W.1 201 rfl) (W.1 2 rfl) (W.1 202 rfl) (by decide) (cSeg W (f_ := (refV c1_).length + (refV c2_).length) U O3 U3 (segOK (pre := (refV c1_) ++ (refV c2_)) (post := []) (by simp only [List.length_append]))) (by decide +kernel : parseMethodDescriptor "(Ljava/lang/String;ILjava/lang/String;)Z" = some ⟨[(.object "java/lang/String"), .int, (.object "java/lang/String")], (some .boolean)⟩) rfl rfl rfl (nl rfl) (nl rfl) (nl rfl) (nl rfl) (nl rfl) (fun v94 vm94 h94 ⟨rv, hh⟩ c94 => ?_)
      subst rv; replace hh := hh.symm; subst hh
      refine Go.ifeq 269 265 at_262 (by decide) rfl rfl (fun q95 => absurd q95 (by decide)) (fun q95 => ?_)
      refine Go.iconst (1) 266 at_265 rfl rfl ?_
      refine Go.goto 270 at_266 (by decide) rfl ?_
      exact Go.ireturn at_270 rfl rfl (by simp) (nl rfl) (nl rfl) (fun vm' ch => rfl)
    refine Go.ifne 43 28 at_25 (by decide) rfl rfl (fun q96 => ?_) (fun q96 => (by rw [hk] at q96; exact absurd q96 (by decide)))
    refine Go.iload 45 at_43 rfl rfl ?_
    refine Go.iconst (1) 46 at_45 rfl rfl ?_
    refine Go.if_icmpne 69 49 at_46 (by decide) rfl rfl (fun q97 => ?_) (fun q97 => (by rw [hk] at q97; exact absurd q97 (by decide)))
    refine Go.iload 71 at_69 rfl rfl ?_
    refine Go.iconst (2) 72 at_71 rfl rfl ?_
    refine Go.if_icmpne 100 75 at_72 (by decide) rfl rfl (fun q98 => (by rw [hk] at q98; exact absurd q98 (by decide))) (fun q98 => ?_)
    refine Go.new 78 at_75 rfl (W.1 4 rfl) (W.1 5 rfl) (W.1 6 rfl) (nl rfl) (nl rfl) (fun x1 h99 e99 E99 ⟨A99, D99⟩ S99 z99 c99 => ?_)
    refine Go.dup 79 at_78 rfl rfl ?_
    refine Go.iconst (2) 80 at_79 rfl rfl ?_
    refine Go.newarray 2 82 at_80 rfl (W.1 7 rfl) (by decide) (by decide) (by decide) (nl rfl) (nl rfl) (fun b1 h100 e100 E100 ⟨k100, B100⟩ S100 z100 c100 => ?_)
    have A100 : Arv Z h100 b1 k100 .char (2 : Int32) [.int 0, .int 0] (.int 0) := B100.pad (pad_rep [] (.int 0) 2)
    refine Go.dup 83 at_82 rfl rfl ?_
    refine Go.iconst (0) 84 at_83 rfl rfl ?_
    refine Go.iload 86 at_84 rfl rfl ?_
    refine Go.castore 0 c1_ [.int c1_, .int 0] 87 at_86 rfl A100 (by decide) rfl (nl rfl) (nar16 hc1) rfl S100 z100 (fun h101 K101 A101 S101 c101 => ?_)
    have E101 := Ext.kp1 E100 K101 e100
    refine Go.dup 88 at_87 rfl rfl ?_
    refine Go.iconst (1) 89 at_88 rfl rfl ?_
    refine Go.iload 91 at_89 rfl rfl ?_
    refine Go.castore 1 c2_ [.int c1_, .int c2_] 92 at_91 rfl A101 (by decide) rfl (nl rfl) (nar16 hc2) rfl S101 z100 (fun h102 K102 A102 S102 c102 => ?_)
    have E102 := Ext.kp1 E101 K102 e100
    by_cases ha : ∀ c ∈ ([c1_, c2_] : List Int32), ¬ (255 : Int32) < c
    · have f104 := D99 (Or.inr (W.1 33 rfl)) (ty := (.array .byte)) (by decide)
      have f105 := D99 (Or.inr (W.1 31 rfl)) (ty := .byte) (by decide)
      have f106 := A99.ext E102
      have f107 := f104.ext E102
      have f108 := f105.ext E102
      have f109 := CHr.safe (CHr.trans c100 (CHr.trans c101 c102)) A99.lt S99
      have L109 := Nat.lt_of_lt_of_le A99.lt (CHr.trans c100 (CHr.trans c101 c102)).2.1
      refine goStrNew W 1 [c1_, c2_] 95 at_92 rfl (W.1 8 rfl) f106 f107 f108 A102 rfl (nl rfl) (nl rfl) (fun c hc => ⟨(hall c hc).1, ha c hc⟩) rfl rfl (nl rfl) (nl rfl) (nl rfl) (nl rfl) (nl rfl) f109 z99 (fun h103 K103 T103 c103 => ?_)
      have E103 := Ext.kp1 (Ext.tr E99 E102) K103 e99
      refine Go.astore #[.val (.int aa), .val (.int ba), .val (.int ca), .val (.int na), .val (.int (na &&& (3 : Int32))), .val (.int c1_), .val (.int c2_), .val (.int c3_), .val (.ref x1), .unset, .unset, .unset, .unset, .unset, .unset, .unset] 97 at_95 rfl rfl rfl ?_
      refine Go.goto 127 at_97 (by decide) rfl ?_
      refine Go.mono (k' := 6) (n' := 260) (nl rfl) (nl rfl) ?_
      exact J127 _ _ _ E103 (Or.inl T103)
    · have f110 := D99 (Or.inr (W.1 33 rfl)) (ty := (.array .byte)) (by decide)
      have f111 := D99 (Or.inr (W.1 31 rfl)) (ty := .byte) (by decide)
      have f112 := A99.ext E102
      have f113 := f110.ext E102
      have f114 := f111.ext E102
      have f115 := CHr.safe (CHr.trans c100 (CHr.trans c101 c102)) A99.lt S99
      have L115 := Nat.lt_of_lt_of_le A99.lt (CHr.trans c100 (CHr.trans c101 c102)).2.1
      refine Go.invokespecial (rest := [.ref x1]) 1 x1 [.ref b1] 95 at_92 rfl rfl (W.1 8 rfl) (W.1 9 rfl) (W.1 6 rfl) (W.1 10 rfl) (by decide) (cIniU W (cs := ([c1_, c2_] : List Int32)) U f112 f113 f114 f115 z99 A102 (by simp) (by simp) hall ha) (by decide +kernel : parseMethodDescriptor "([C)V" = some ⟨[(.array .char)], none⟩) rfl rfl rfl (nl rfl) (nl rfl) (nl rfl) (nl rfl) (nl rfl) (fun v116 vm116 h116 ⟨rv, K8, T8⟩ c116 => ?_)
      subst rv
      have E8 := Ext.kp1 (Ext.tr E99 E102) K8 e99
      refine Go.astore #[.val (.int aa), .val (.int ba), .val (.int ca), .val (.int na), .val (.int (na &&& (3 : Int32))), .val (.int c1_), .val (.int c2_), .val (.int c3_), .val (.ref x1), .unset, .unset, .unset, .unset, .unset, .unset, .unset] 97 at_95 rfl rfl rfl ?_
      refine Go.goto 127 at_97 (by decide) rfl ?_
      refine Go.mono (k' := 6) (n' := 260) (nl rfl) (nl rfl) ?_
      exact J127 _ _ _ E8 (Or.inr T8)
  · have hall : ∀ c ∈ ([c1_, c2_, c3_] : List Int32), C16 c := (by intro c hc; simp only [List.mem_cons, List.not_mem_nil, or_false] at hc; rcases hc with rfl | rfl | rfl <;> assumption)
    have J127 : ∀ (sJ : Addr) (vmJ : Vm) (hJ : Heap), Ext h hJ → StrU Z hJ sJ ([c1_, c2_, c3_] : List Int32) → Go false p l e room_1 s m #[.int aa, .int ba, .int ca, .int na] below meth c code maxLocals "law" ret Z a0 consts_1 "com/example/guide/guide/web/PagesEscapePinLaw" (fun v vm' h' => v = some (.int 1)) vmJ hJ 6 260 127 #[.val (.int aa), .val (.int ba), .val (.int ca), .val (.int na), .val (.int (na &&& (3 : Int32))), .val (.int c1_), .val (.int c2_), .val (.int c3_), .val (.ref sJ), .unset, .unset, .unset, .unset, .unset, .unset, .unset] [] := by
      intro sJ vmJ hJ EJ SJ
      refine Go.aload 129 at_127 rfl rfl rfl ?_
      refine Go.invokestatic (rest := []) 0 [.ref sJ] 132 at_129 rfl (W.1 34 rfl) (W.1 35 rfl) (W.1 36 rfl) (W.1 37 rfl) (by decide) (cEsc W U ⟨(by decide : ("com/example/guide/guide/web/Pages", 147) ∈ consts_1), (by decide : ("com/example/guide/guide/web/Pages", 149) ∈ consts_1), (by decide : ("com/example/guide/guide/web/Pages", 151) ∈ consts_1), (by decide : ("com/example/guide/guide/web/Pages", 153) ∈ consts_1), (by decide : ("com/example/guide/guide/web/Pages", 155) ∈ consts_1)⟩ SJ (nl rfl)) (by decide +kernel : parseMethodDescriptor "(Ljava/lang/String;)Ljava/lang/String;" = some ⟨[(.object "java/lang/String")], (some (.object "java/lang/String"))⟩) rfl rfl rfl (nl rfl) (nl rfl) (nl rfl) (nl rfl) (nl rfl) (fun v117 vm117 h117 ⟨out, rv, E9_, T9_⟩ c117 => ?_)
      subst rv
      have OS : outV ([c1_, c2_, c3_] : List Int32) = (((refV c1_) ++ (refV c2_)) ++ (refV c3_)) := by simp [outV]
      rw [OS] at T9_
      refine Go.astore #[.val (.int aa), .val (.int ba), .val (.int ca), .val (.int na), .val (.int (na &&& (3 : Int32))), .val (.int c1_), .val (.int c2_), .val (.int c3_), .val (.ref sJ), .val (.ref out), .unset, .unset, .unset, .unset, .unset, .unset] 134 at_132 rfl rfl rfl ?_
      refine Go.iload 136 at_134 rfl rfl ?_
      refine Go.iconst (1) 137 at_136 rfl rfl ?_
      refine Go.if_icmplt 148 140 at_137 (by decide) rfl rfl (fun q118 => (by rw [hk] at q118; exact absurd q118 (by decide))) (fun q118 => ?_)
      refine Go.iload 142 at_140 rfl rfl ?_
      refine Go.invokestatic (rest := []) 0 [.int c1_] 145 at_142 rfl (W.1 194 rfl) (W.1 195 rfl) (W.1 2 rfl) (W.1 196 rfl) (by decide) (cRef W U ⟨(by decide : ("com/example/guide/guide/web/PagesEscapePinLaw", 38) ∈ consts_1), (by decide : ("com/example/guide/guide/web/PagesEscapePinLaw", 40) ∈ consts_1), (by decide : ("com/example/guide/guide/web/PagesEscapePinLaw", 42) ∈ consts_1), (by decide : ("com/example/guide/guide/web/PagesEscapePinLaw", 44) ∈ consts_1), (by decide : ("com/example/guide/guide/web/PagesEscapePinLaw", 46) ∈ consts_1)⟩ hc1) (by decide +kernel : parseMethodDescriptor "(C)Ljava/lang/String;" = some ⟨[.char], (some (.object "java/lang/String"))⟩) rfl rfl rfl (nl rfl) (nl rfl) (nl rfl) (nl rfl) (nl rfl) (fun v119 vm119 h119 ⟨p1_, rv, Ep1, Tp1⟩ c119 => ?_)
      subst rv
      refine Go.goto 150 at_145 (by decide) rfl ?_
      refine Go.astore #[.val (.int aa), .val (.int ba), .val (.int ca), .val (.int na), .val (.int (na &&& (3 : Int32))), .val (.int c1_), .val (.int c2_), .val (.int c3_), .val (.ref sJ), .val (.ref out), .val (.ref p1_), .unset, .unset, .unset, .unset, .unset] 152 at_150 rfl rfl rfl ?_
      refine Go.iload 154 at_152 rfl rfl ?_
      refine Go.iconst (2) 155 at_154 rfl rfl ?_
      refine Go.if_icmplt 166 158 at_155 (by decide) rfl rfl (fun q120 => (by rw [hk] at q120; exact absurd q120 (by decide))) (fun q120 => ?_)
      refine Go.iload 160 at_158 rfl rfl ?_
      refine Go.invokestatic (rest := []) 0 [.int c2_] 163 at_160 rfl (W.1 194 rfl) (W.1 195 rfl) (W.1 2 rfl) (W.1 196 rfl) (by decide) (cRef W U ⟨(by decide : ("com/example/guide/guide/web/PagesEscapePinLaw", 38) ∈ consts_1), (by decide : ("com/example/guide/guide/web/PagesEscapePinLaw", 40) ∈ consts_1), (by decide : ("com/example/guide/guide/web/PagesEscapePinLaw", 42) ∈ consts_1), (by decide : ("com/example/guide/guide/web/PagesEscapePinLaw", 44) ∈ consts_1), (by decide : ("com/example/guide/guide/web/PagesEscapePinLaw", 46) ∈ consts_1)⟩ hc2) (by decide +kernel : parseMethodDescriptor "(C)Ljava/lang/String;" = some ⟨[.char], (some (.object "java/lang/String"))⟩) rfl rfl rfl (nl rfl) (nl rfl) (nl rfl) (nl rfl) (nl rfl) (fun v121 vm121 h121 ⟨p2_, rv, Ep2, Tp2⟩ c121 => ?_)
      subst rv
      refine Go.goto 168 at_163 (by decide) rfl ?_
      refine Go.astore #[.val (.int aa), .val (.int ba), .val (.int ca), .val (.int na), .val (.int (na &&& (3 : Int32))), .val (.int c1_), .val (.int c2_), .val (.int c3_), .val (.ref sJ), .val (.ref out), .val (.ref p1_), .val (.ref p2_), .unset, .unset, .unset, .unset] 170 at_168 rfl rfl rfl ?_
      refine Go.iload 172 at_170 rfl rfl ?_
      refine Go.iconst (3) 173 at_172 rfl rfl ?_
      refine Go.if_icmplt 184 176 at_173 (by decide) rfl rfl (fun q122 => (by rw [hk] at q122; exact absurd q122 (by decide))) (fun q122 => ?_)
      refine Go.iload 178 at_176 rfl rfl ?_
      refine Go.invokestatic (rest := []) 0 [.int c3_] 181 at_178 rfl (W.1 194 rfl) (W.1 195 rfl) (W.1 2 rfl) (W.1 196 rfl) (by decide) (cRef W U ⟨(by decide : ("com/example/guide/guide/web/PagesEscapePinLaw", 38) ∈ consts_1), (by decide : ("com/example/guide/guide/web/PagesEscapePinLaw", 40) ∈ consts_1), (by decide : ("com/example/guide/guide/web/PagesEscapePinLaw", 42) ∈ consts_1), (by decide : ("com/example/guide/guide/web/PagesEscapePinLaw", 44) ∈ consts_1), (by decide : ("com/example/guide/guide/web/PagesEscapePinLaw", 46) ∈ consts_1)⟩ hc3) (by decide +kernel : parseMethodDescriptor "(C)Ljava/lang/String;" = some ⟨[.char], (some (.object "java/lang/String"))⟩) rfl rfl rfl (nl rfl) (nl rfl) (nl rfl) (nl rfl) (nl rfl) (fun v123 vm123 h123 ⟨p3_, rv, Ep3, Tp3⟩ c123 => ?_)
      subst rv
      refine Go.goto 186 at_181 (by decide) rfl ?_
      refine Go.astore #[.val (.int aa), .val (.int ba), .val (.int ca), .val (.int na), .val (.int (na &&& (3 : Int32))), .val (.int c1_), .val (.int c2_), .val (.int c3_), .val (.ref sJ), .val (.ref out), .val (.ref p1_), .val (.ref p2_), .val (.ref p3_), .unset, .unset, .unset] 188 at_186 rfl rfl rfl ?_
      refine Go.aload 190 at_188 rfl rfl rfl ?_
      have f124 := Tp1.ext (Ext.tr Ep2 Ep3)
      refine Go.invokevirtual (rest := []) 0 p1_ [] 193 at_190 rfl f124.exa (W.1 199 rfl) (W.1 42 rfl) (fun s hs => notFace_of_selects (args := #[]) (mvT hs (W.1 44 rfl))) (W.1 44 rfl) (W.1 43 rfl) (W.1 6 rfl) (W.1 45 rfl) (by decide) (cSLen W f124) (by decide +kernel : parseMethodDescriptor "()I" = some ⟨[], (some .int)⟩) rfl rfl rfl (nl rfl) (nl rfl) (nl rfl) (nl rfl) (nl rfl) (fun v125 vm125 h125 ⟨rv, hh⟩ c125 => ?_)
      subst rv; replace hh := hh.symm; subst hh
      refine Go.istore #[.val (.int aa), .val (.int ba), .val (.int ca), .val (.int na), .val (.int (na &&& (3 : Int32))), .val (.int c1_), .val (.int c2_), .val (.int c3_), .val (.ref sJ), .val (.ref out), .val (.ref p1_), .val (.ref p2_), .val (.ref p3_), .val (.int (Int32.ofNat (refV c1_).length)), .unset, .unset] 195 at_193 rfl rfl ?_
      refine Go.aload 197 at_195 rfl rfl rfl ?_
      have f126 := Tp2.ext Ep3
      refine Go.invokevirtual (rest := []) 0 p2_ [] 200 at_197 rfl f126.exa (W.1 199 rfl) (W.1 42 rfl) (fun s hs => notFace_of_selects (args := #[]) (mvT hs (W.1 44 rfl))) (W.1 44 rfl) (W.1 43 rfl) (W.1 6 rfl) (W.1 45 rfl) (by decide) (cSLen W f126) (by decide +kernel : parseMethodDescriptor "()I" = some ⟨[], (some .int)⟩) rfl rfl rfl (nl rfl) (nl rfl) (nl rfl) (nl rfl) (nl rfl) (fun v127 vm127 h127 ⟨rv, hh⟩ c127 => ?_)
      subst rv; replace hh := hh.symm; subst hh
      refine Go.istore #[.val (.int aa), .val (.int ba), .val (.int ca), .val (.int na), .val (.int (na &&& (3 : Int32))), .val (.int c1_), .val (.int c2_), .val (.int c3_), .val (.ref sJ), .val (.ref out), .val (.ref p1_), .val (.ref p2_), .val (.ref p3_), .val (.int (Int32.ofNat (refV c1_).length)), .val (.int (Int32.ofNat (refV c2_).length)), .unset] 202 at_200 rfl rfl ?_
      refine Go.aload 204 at_202 rfl rfl rfl ?_
      refine Go.invokevirtual (rest := []) 0 p3_ [] 207 at_204 rfl Tp3.exa (W.1 199 rfl) (W.1 42 rfl) (fun s hs => notFace_of_selects (args := #[]) (mvT hs (W.1 44 rfl))) (W.1 44 rfl) (W.1 43 rfl) (W.1 6 rfl) (W.1 45 rfl) (by decide) (cSLen W Tp3) (by decide +kernel : parseMethodDescriptor "()I" = some ⟨[], (some .int)⟩) rfl rfl rfl (nl rfl) (nl rfl) (nl rfl) (nl rfl) (nl rfl) (fun v128 vm128 h128 ⟨rv, hh⟩ c128 => ?_)
      subst rv; replace hh := hh.symm; subst hh
      refine Go.istore #[.val (.int aa), .val (.int ba), .val (.int ca), .val (.int na), .val (.int (na &&& (3 : Int32))), .val (.int c1_), .val (.int c2_), .val (.int c3_), .val (.ref sJ), .val (.ref out), .val (.ref p1_), .val (.ref p2_), .val (.ref p3_), .val (.int (Int32.ofNat (refV c1_).length)), .val (.int (Int32.ofNat (refV c2_).length)), .val (.int (Int32.ofNat (refV c3_).length))] 209 at_207 rfl rfl ?_
      refine Go.aload 211 at_209 rfl rfl rfl ?_
      have f129 := T9_.ext (Ext.tr Ep1 (Ext.tr Ep2 Ep3))
      refine Go.invokevirtual (rest := []) 0 out [] 214 at_211 rfl f129.exa (W.1 199 rfl) (W.1 42 rfl) (fun s hs => notFace_of_selects (args := #[]) (mvT hs (W.1 44 rfl))) (W.1 44 rfl) (W.1 43 rfl) (W.1 6 rfl) (W.1 45 rfl) (by decide) (cSLen W f129) (by decide +kernel : parseMethodDescriptor "()I" = some ⟨[], (some .int)⟩) rfl rfl rfl (nl rfl) (nl rfl) (nl rfl) (nl rfl) (nl rfl) (fun v130 vm130 h130 ⟨rv, hh⟩ c130 => ?_)
      subst rv; replace hh := hh.symm; subst hh
      refine Go.iload 216 at_214 rfl rfl ?_
      refine Go.iload 218 at_216 rfl rfl ?_
      refine Go.iadd (Int32.ofNat ((refV c1_).length + (refV c2_).length)) 219 at_218 rfl (ofNat_add' _ _) ?_
      refine Go.iload 221 at_219 rfl rfl ?_
      refine Go.iadd (Int32.ofNat ((refV c1_).length + (refV c2_).length + (refV c3_).length)) 222 at_221 rfl (ofNat_add' _ _) ?_
      refine Go.if_icmpeq 227 225 at_222 (by decide) rfl rfl (fun q131 => ?_) (fun q131 => absurd (congrArg Int32.ofNat (by simp only [List.length_append])) q131)
      refine Go.aload 229 at_227 rfl rfl rfl ?_
      refine Go.iconst (0) 230 at_229 rfl rfl ?_
      refine Go.aload 232 at_230 rfl rfl rfl ?_
      have O1 : StrU Z h123 out ([] ++ (refV c1_) ++ ((refV c2_) ++ (refV c3_))) := by rw [show ([] ++ (refV c1_) ++ ((refV c2_) ++ (refV c3_))) = (((refV c1_) ++ (refV c2_)) ++ (refV c3_)) from by simp]; exact f129
      refine Go.invokestatic (rest := []) 0 [.ref out, .int (0 : Int32), .ref p1_] 235 at_232 rfl (W.1 200 rfl) (W.1 201 rfl) (W.1 2 rfl) (W.1 202 rfl) (by decide) (cSeg W (f_ := 0) U O1 f124 (segOK (pre := []) (post := (refV c2_) ++ (refV c3_)) rfl)) (by decide +kernel : parseMethodDescriptor "(Ljava/lang/String;ILjava/lang/String;)Z" = some ⟨[(.object "java/lang/String"), .int, (.object "java/lang/String")], (some .boolean)⟩) rfl rfl rfl (nl rfl) (nl rfl) (nl rfl) (nl rfl) (nl rfl) (fun v132 vm132 h132 ⟨rv, hh⟩ c132 => ?_)
      subst rv; replace hh := hh.symm; subst hh
      refine Go.ifeq 269 238 at_235 (by decide) rfl rfl (fun q133 => absurd q133 (by decide)) (fun q133 => ?_)
      refine Go.aload 240 at_238 rfl rfl rfl ?_
      refine Go.iload 242 at_240 rfl rfl ?_
      refine Go.aload 244 at_242 rfl rfl rfl ?_
      have O2 : StrU Z h123 out (((refV c1_) ++ (refV c2_)) ++ (refV c3_)) := by rw [show (((refV c1_) ++ (refV c2_)) ++ (refV c3_)) = (((refV c1_) ++ (refV c2_)) ++ (refV c3_)) from by simp]; exact f129
      refine Go.invokestatic (rest := []) 0 [.ref out, .int (Int32.ofNat (refV c1_).length), .ref p2_] 247 at_244 rfl (W.1 200 rfl) (W.1 201 rfl) (W.1 2 rfl) (W.1 202 rfl) (by decide) (cSeg W (f_ := (refV c1_).length) U O2 f126 (segOK (pre := (refV c1_)) rfl)) (by decide +kernel : parseMethodDescriptor "(Ljava/lang/String;ILjava/lang/String;)Z" = some ⟨[(.object "java/lang/String"), .int, (.object "java/lang/String")], (some .boolean)⟩) rfl rfl rfl (nl rfl) (nl rfl) (nl rfl) (nl rfl) (nl rfl) (fun v134 vm134 h134 ⟨rv, hh⟩ c134 => ?_)
      subst rv; replace hh := hh.symm; subst hh
      refine Go.ifeq 269 250 at_247 (by decide) rfl rfl (fun q135 => absurd q135 (by decide)) (fun q135 => ?_)
      refine Go.aload 252 at_250 rfl rfl rfl ?_
      refine Go.iload 254 at_252 rfl rfl ?_
      refine Go.iload 256 at_254 rfl rfl ?_
      refine Go.iadd (Int32.ofNat ((refV c1_).length + (refV c2_).length)) 257 at_256 rfl (ofNat_add' _ _) ?_
      refine Go.aload 259 at_257 rfl rfl rfl ?_
      have O3 : StrU Z h123 out (((refV c1_) ++ (refV c2_)) ++ (refV c3_) ++ []) := by rw [show (((refV c1_) ++ (refV c2_)) ++ (refV c3_) ++ []) = (((refV c1_) ++ (refV c2_)) ++ (refV c3_)) from by simp]; exact f129
      refine Go.invokestatic (rest := []) 0 [.ref out, .int (Int32.ofNat ((refV c1_).length + (refV c2_).length)), .ref p3_] 262 at_259 rfl (W.1 200 rfl) (W.1 201 rfl) (W.1 2 rfl) (W.1 202 rfl) (by decide) (cSeg W (f_ := (refV c1_).length + (refV c2_).length) U O3 Tp3 (segOK (pre := (refV c1_) ++ (refV c2_)) (post := []) (by simp only [List.length_append]))) (by decide +kernel : parseMethodDescriptor "(Ljava/lang/String;ILjava/lang/String;)Z" = some ⟨[(.object "java/lang/String"), .int, (.object "java/lang/String")], (some .boolean)⟩) rfl rfl rfl (nl rfl) (nl rfl) (nl rfl) (nl rfl) (nl rfl) (fun v136 vm136 h136 ⟨rv, hh⟩ c136 => ?_)
      subst rv; replace hh := hh.symm; subst hh
      refine Go.ifeq 269 265 at_262 (by decide) rfl rfl (fun q137 => absurd q137 (by decide)) (fun q137 => ?_)
      refine Go.iconst (1) 266 at_265 rfl rfl ?_
      refine Go.goto 270 at_266 (by decide) rfl ?_
      exact Go.ireturn at_270 rfl rfl (by simp) (nl rfl) (nl rfl) (fun vm' ch => rfl)
    refine Go.ifne 43 28 at_25 (by decide) rfl rfl (fun q138 => ?_) (fun q138 => (by rw [hk] at q138; exact absurd q138 (by decide)))
    refine Go.iload 45 at_43 rfl rfl ?_
    refine Go.iconst (1) 46 at_45 rfl rfl ?_
    refine Go.if_icmpne 69 49 at_46 (by decide) rfl rfl (fun q139 => ?_) (fun q139 => (by rw [hk] at q139; exact absurd q139 (by decide)))
    refine Go.iload 71 at_69 rfl rfl ?_
    refine Go.iconst (2) 72 at_71 rfl rfl ?_
    refine Go.if_icmpne 100 75 at_72 (by decide) rfl rfl (fun q140 => ?_) (fun q140 => (by rw [hk] at q140; exact absurd q140 (by decide)))
    refine Go.new 103 at_100 rfl (W.1 4 rfl) (W.1 5 rfl) (W.1 6 rfl) (nl rfl) (nl rfl) (fun x1 h141 e141 E141 ⟨A141, D141⟩ S141 z141 c141 => ?_)
    refine Go.dup 104 at_103 rfl rfl ?_
    refine Go.iconst (3) 105 at_104 rfl rfl ?_
    refine Go.newarray 3 107 at_105 rfl (W.1 7 rfl) (by decide) (by decide) (by decide) (nl rfl) (nl rfl) (fun b1 h142 e142 E142 ⟨k142, B142⟩ S142 z142 c142 => ?_)
    have A142 : Arv Z h142 b1 k142 .char (3 : Int32) [.int 0, .int 0, .int 0] (.int 0) := B142.pad (pad_rep [] (.int 0) 3)
    refine Go.dup 108 at_107 rfl rfl ?_
    refine Go.iconst (0) 109 at_108 rfl rfl ?_
    refine Go.iload 111 at_109 rfl rfl ?_
    refine Go.castore 0 c1_ [.int c1_, .int 0, .int 0] 112 at_111 rfl A142 (by decide) rfl (nl rfl) (nar16 hc1) rfl S142 z142 (fun h143 K143 A143 S143 c143 => ?_)
    have E143 := Ext.kp1 E142 K143 e142
    refine Go.dup 113 at_112 rfl rfl ?_
    refine Go.iconst (1) 114 at_113 rfl rfl ?_
    refine Go.iload 116 at_114 rfl rfl ?_
    refine Go.castore 1 c2_ [.int c1_, .int c2_, .int 0] 117 at_116 rfl A143 (by decide) rfl (nl rfl) (nar16 hc2) rfl S143 z142 (fun h144 K144 A144 S144 c144 => ?_)
    have E144 := Ext.kp1 E143 K144 e142
    refine Go.dup 118 at_117 rfl rfl ?_
    refine Go.iconst (2) 119 at_118 rfl rfl ?_
    refine Go.iload 121 at_119 rfl rfl ?_
    refine Go.castore 2 c3_ [.int c1_, .int c2_, .int c3_] 122 at_121 rfl A144 (by decide) rfl (nl rfl) (nar16 hc3) rfl S144 z142 (fun h145 K145 A145 S145 c145 => ?_)
    have E145 := Ext.kp1 E144 K145 e142
    by_cases ha : ∀ c ∈ ([c1_, c2_, c3_] : List Int32), ¬ (255 : Int32) < c
    · have f147 := D141 (Or.inr (W.1 33 rfl)) (ty := (.array .byte)) (by decide)
      have f148 := D141 (Or.inr (W.1 31 rfl)) (ty := .byte) (by decide)
      have f149 := A141.ext E145
      have f150 := f147.ext E145
      have f151 := f148.ext E145
      have f152 := CHr.safe (CHr.trans c142 (CHr.trans c143 (CHr.trans c144 c145))) A141.lt S141
      have L152 := Nat.lt_of_lt_of_le A141.lt (CHr.trans c142 (CHr.trans c143 (CHr.trans c144 c145))).2.1
      refine goStrNew W 1 [c1_, c2_, c3_] 125 at_122 rfl (W.1 8 rfl) f149 f150 f151 A145 rfl (nl rfl) (nl rfl) (fun c hc => ⟨(hall c hc).1, ha c hc⟩) rfl rfl (nl rfl) (nl rfl) (nl rfl) (nl rfl) (nl rfl) f152 z141 (fun h146 K146 T146 c146 => ?_)
      have E146 := Ext.kp1 (Ext.tr E141 E145) K146 e141
      refine Go.astore #[.val (.int aa), .val (.int ba), .val (.int ca), .val (.int na), .val (.int (na &&& (3 : Int32))), .val (.int c1_), .val (.int c2_), .val (.int c3_), .val (.ref x1), .unset, .unset, .unset, .unset, .unset, .unset, .unset] 127 at_125 rfl rfl rfl ?_
      refine Go.mono (k' := 6) (n' := 260) (nl rfl) (nl rfl) ?_
      exact J127 _ _ _ E146 (Or.inl T146)
    · have f153 := D141 (Or.inr (W.1 33 rfl)) (ty := (.array .byte)) (by decide)
      have f154 := D141 (Or.inr (W.1 31 rfl)) (ty := .byte) (by decide)
      have f155 := A141.ext E145
      have f156 := f153.ext E145
      have f157 := f154.ext E145
      have f158 := CHr.safe (CHr.trans c142 (CHr.trans c143 (CHr.trans c144 c145))) A141.lt S141
      have L158 := Nat.lt_of_lt_of_le A141.lt (CHr.trans c142 (CHr.trans c143 (CHr.trans c144 c145))).2.1
      refine Go.invokespecial (rest := [.ref x1]) 1 x1 [.ref b1] 125 at_122 rfl rfl (W.1 8 rfl) (W.1 9 rfl) (W.1 6 rfl) (W.1 10 rfl) (by decide) (cIniU W (cs := ([c1_, c2_, c3_] : List Int32)) U f155 f156 f157 f158 z141 A145 (by simp) (by simp) hall ha) (by decide +kernel : parseMethodDescriptor "([C)V" = some ⟨[(.array .char)], none⟩) rfl rfl rfl (nl rfl) (nl rfl) (nl rfl) (nl rfl) (nl rfl) (fun v159 vm159 h159 ⟨rv, K8, T8⟩ c159 => ?_)
      subst rv
      have E8 := Ext.kp1 (Ext.tr E141 E145) K8 e141
      refine Go.astore #[.val (.int aa), .val (.int ba), .val (.int ca), .val (.int na), .val (.int (na &&& (3 : Int32))), .val (.int c1_), .val (.int c2_), .val (.int c3_), .val (.ref x1), .unset, .unset, .unset, .unset, .unset, .unset, .unset] 127 at_125 rfl rfl rfl ?_
      refine Go.mono (k' := 6) (n' := 260) (nl rfl) (nl rfl) ?_
      exact J127 _ _ _ E8 (Or.inr T8)
set_option maxRecDepth 65536 in
theorem comes_1 {Post : Tables → Env → Array Value → State → Outcome → State → Prop} (hpost : ∀ tb e args s v u, (limb_1_1.after args s (.returned v) u = true ∧ limb_1_2.after args s (.returned v) u = true ∧ True) → Jvm.D.FramedW s (.returned v) u (Jvm.fieldLocs frame_1_writes args s ++ Jvm.arrayLocs frame_1_arrays args s ++ Jvm.staticLocs frame_1_statics s) 64 12672 → Post tb e args s (.returned v) u) :
    ArmFor flags0 classFile x code maxLocals ret World_1 tables_1 room_1 Calls_1 rest_1 Pre_1 Post := by
  intro l hfl _ _ p e ha hc hk s m args below hf hA hF happ hP
  obtain ⟨hcalls, hrest, hpre⟩ := hP
  obtain ⟨-, -, -, hnamed, -, -, -, hat⟩ := (Spec.applies_iff hf).mp happ
  obtain ⟨hg, hn⟩ := and_e (Cond.before_iff.mp (show (Jvm.Cond.and given_1 narrow_1).before args s = true from hpre))
  obtain ⟨g0, r0⟩ := and_e hg
  obtain ⟨g1, r1⟩ := and_e r0
  obtain ⟨g2, r2⟩ := and_e r1
  obtain ⟨g3, r3⟩ := and_e r2
  obtain ⟨w0, w1, w2, w3, rfl⟩ : ∃ w0 w1 w2 w3 : Value, args = #[w0, w1, w2, w3] := by
    have hs : args.size = 4 := by simpa [Cond.value, given_1] using g0
    obtain ⟨L⟩ := args
    match L, hs with
    | [w0, w1, w2, w3], _ => exact ⟨w0, w1, w2, w3, rfl⟩
  have hw := fun d (hd : d ∈ tables_1) => atoms_spec (ws := Jvm.Cond.code x code maxLocals ret :: tables_1) hat d (List.mem_cons_of_mem _ hd)
  obtain ⟨hsets, hown0⟩ := atoms_of _ (rest_1_c_eq ▸ (show rest_1_c.before _ s = true from hrest))
  obtain ⟨i0, ei0⟩ := is_v g1
  obtain rfl : w0 = (.int i0) := Option.some.inj ei0
  obtain ⟨i1, ei1⟩ := is_v g2
  obtain rfl : w1 = (.int i1) := Option.some.inj ei1
  obtain ⟨i2, ei2⟩ := is_v g3
  obtain rfl : w2 = (.int i2) := Option.some.inj ei2
  obtain ⟨i3, ei3⟩ := is_v r3
  obtain rfl : w3 = (.int i3) := Option.some.inj ei3
  have n5 := not_v (Cond.before_iff.mp (hsets _ (List.mem_of_getElem? (i := 2) rfl)))
  obtain ⟨zz, ez⟩ := is_v (Cond.before_iff.mp (hsets _ (List.mem_of_getElem? (i := 1) rfl)))
  have Sz : Sta s s.heap "java/lang/String" "COMPACT_STRINGS" "Z" (.int zz) := Sta.start ez (Or.inl (hsets _ (List.mem_of_getElem? (i := 0) rfl)))
  obtain ⟨vf, ef, rf⟩ := isR_v (Cond.before_iff.mp (hsets _ (List.mem_of_getElem? (i := 8) rfl)))
  have Sf : Sta s s.heap "jdk/internal/util/Preconditions" "SIOOBE_FORMATTER" "Ljava/util/function/BiFunction;" vf := Sta.start ef (Or.inl (hsets _ (List.mem_of_getElem? (i := 7) rfl)))
  have cz : ¬ (zz = (0 : Int32)) := gotF (Cond.eq_ints ez (Term.int_eval (0))) n5
  have W : Wd s #[.int i0, .int i1, .int i2, .int i3] := ⟨fun k _ q => hw _ (List.mem_of_getElem? q), ⟨zz, Sz, cz⟩, vf, Sf, rf⟩
  have hU : UT s := ⟨Sta.start (eqInt (Cond.before_iff.mp (hsets _ (List.mem_of_getElem? (i := 12) rfl)))) (Or.inl (hsets _ (List.mem_of_getElem? (i := 11) rfl))), Sta.start (eqInt (Cond.before_iff.mp (hsets _ (List.mem_of_getElem? (i := 15) rfl)))) (Or.inl (hsets _ (List.mem_of_getElem? (i := 14) rfl))), Sta.start (eqInt (Cond.before_iff.mp (hsets _ (List.mem_of_getElem? (i := 18) rfl)))) (Or.inl (hsets _ (List.mem_of_getElem? (i := 17) rfl)))⟩
  have hEW : EW s #[.int i0, .int i1, .int i2, .int i3] consts_1 := (EW.cons (W.1 88 rfl) (by decide +kernel) (EW.cons (W.1 242 rfl) (by decide +kernel) (EW.cons (W.1 302 rfl) (by decide +kernel) (EW.cons (W.1 208 rfl) (by decide +kernel) (EW.cons (W.1 207 rfl) (by decide +kernel) (EW.cons (W.1 198 rfl) (by decide +kernel) (EW.cons (W.1 197 rfl) (by decide +kernel) (EW.cons (W.1 243 rfl) (by decide +kernel) (EW.cons (W.1 303 rfl) (by decide +kernel) (EW.cons (W.1 216 rfl) (by decide +kernel) (EW.cons (W.1 215 rfl) (by decide +kernel) (EW.cons (W.1 241 rfl) (by decide +kernel) EW.nil))))))))))))
  have H : CHv s consts_1 s.vm s.heap := CHv.start hEW (fun p hp => hcalls.1 p hp) (hsets _ (List.mem_of_getElem? (i := 2) rfl)) (W.1 23 rfl) (W.1 5 rfl)
  obtain ⟨n, o, h1, h2, h3, v, L, rfl, q1, -, -, N, hq, hnw⟩ := cLaw W (aa := i0) (ba := i1) (ca := i2) (na := i3) (l := l) hU tables_1 p e ha hc hk s m _ below hf ((Spec.applies_iff_loose hf).mp happ).1 ⟨rfl, State.Warmed39.refl s, rfl, CHr.refl H, Ext.rfl' _, hEW⟩ trivial
  subst q1
  obtain ⟨a1, a2, a3, a4⟩ := hq
  refine ⟨n, _, h1, h2, h3, hpost _ _ _ _ _ _ ⟨Cond.after_iff.mpr rfl, Cond.after_iff.mpr (eq_i res_at (Term.int_eval (1)) rfl), trivial⟩ ⟨a1, a2, a3, (a4.sift fun y hy => Or.inr (N y hy)).mono (by decide) (by decide)⟩⟩
theorem main_1_1 : Claimed_1_1 := comes_1 fun _ _ _ _ _ _ h hF => ⟨h.1, hF⟩
theorem main_1_2 : Claimed_1_2 := comes_1 fun _ _ _ _ _ _ h hF => ⟨h.2.1, hF⟩
end Jvm.Pilot.@@N@@
namespace Jvm.Pilot.@@N@@
open Jvm Jvm.ClassFile Sem Op Lib Jvm.Free Jvm.Stand Jvm.Pilot.@@N@@.Jvm.D
/-! MADE BY PROGRAM (witnessworld.py) out of the Statement's table words and the real class files: 26 classes; the members and pool entries that the words name. The judged class is class 1, her method 1. -/
namespace start1
open Jvm.ClassFile
def u (s : String) : CpInfo := .utf8 (stringToUtf16 s)
/-- a pool by its gaps: so many unusable entries, then the entry; so many at the end -/
def gap : Nat → List CpInfo → List CpInfo
  | 0, r => r
  | n + 1, r => .unusable :: gap n r
def poolList (es : List (Nat × CpInfo)) (last : Nat) : List CpInfo := es.foldr (fun e r => gap e.1 (e.2 :: r)) (gap last [])
def pool (es : List (Nat × CpInfo)) (last : Nat) : Array CpInfo := ⟨poolList es last⟩
def fileOf (pool : Array CpInfo) (this : Nat) (attrs : Array Attribute := #[]) (ms : Array MethodInfo := #[]) (fl : Nat := 33) (sup : Nat := 0) (ifs : Array Nat := #[]) (fds : Array FieldInfo := #[]) : ClassFile where
  minorVersion := 0
  majorVersion := 65
  constantPool := pool
  accessFlags := fl
  thisClass := this
  superClass := sup
  interfaces := ifs
  fields := fds
  methods := ms
  attributes := attrs
def plain (name : String) (sup : Option ClassId) : Class where
  name := name
  kind := .ordinary
  loader := none
  accessFlags := 33
  super := sup
  interfaces := #[]
  cf := none
  fields := #[]
  methods := #[]
  instanceTypes := #[]
  staticTypes := #[]
  resolved := #[]
  callSites := []
  init := .initialized
  statics := none
  mirror := none

def pool0 : Array CpInfo := pool [(5, u "<init>"), (0, u "()V"), (1, .class_ 10), (1, u "java/lang/Object"), (85, u "clone"), (0, u "()Ljava/lang/Object;")] 26

def k0c0 : Code := { maxStack := 0, maxLocals := 1, code := object_method_1_code, exceptionTable := #[], attributes := #[] }
def k0m0 : Method := { name := "<init>", desc := "()V", sig := { parameters := [], returnType := none }, accessFlags := 1, code := some k0c0 }
def k0m1 : Method := { name := "clone", desc := "()Ljava/lang/Object;", sig := { parameters := [], returnType := some (.object "java/lang/Object") }, accessFlags := 260, code := none }
/-- java/lang/Object -/
def k0 : Class := { plain "java/lang/Object" none with
  accessFlags := 33
  interfaces := #[]
  cf := some (fileOf pool0 8 #[] #[{ accessFlags := 1, nameIndex := 5, descriptorIndex := 6, attributes := #[] }, { accessFlags := 260, nameIndex := 96, descriptorIndex := 97, attributes := #[] }] 33 0 #[] #[])
  fields := #[]
  methods := #[k0m0, k0m1]
  instanceTypes := #[]
  staticTypes := #[]
  resolved := Array.replicate 124 none
  statics := none }

def pool1 : Array CpInfo := pool [(2, .class_ 4), (1, u "java/lang/Object"), (0, u "<init>"), (0, u "()V"), (0, .methodref 8 9), (0, .class_ 10), (0, .nameAndType 11 12), (0, u "com/example/guide/guide/web/PagesEscapePinLaw"), (0, u "pick"), (0, u "(I)C"), (0, .class_ 14), (0, u "java/lang/String"), (0, .methodref 13 16), (0, .nameAndType 5 17), (0, u "([C)V"), (0, .methodref 19 20), (0, .class_ 21), (0, .nameAndType 22 23), (0, u "com/example/guide/guide/web/Pages"), (0, u "escape"), (0, u "(Ljava/lang/String;)Ljava/lang/String;"), (0, .methodref 8 25), (0, .nameAndType 26 27), (0, u "ref"), (0, u "(C)Ljava/lang/String;"), (0, .string 29), (0, u ""), (0, .methodref 13 31), (0, .nameAndType 32 33), (0, u "length"), (0, u "()I"), (0, .methodref 8 35), (0, .nameAndType 36 37), (0, u "seg"), (0, u "(Ljava/lang/String;ILjava/lang/String;)Z"), (0, .string 39), (0, u "&amp;"), (0, .string 41), (0, u "&lt;"), (0, .string 43), (0, u "&gt;"), (0, .string 45), (0, u "&quot;"), (0, .string 47), (0, u "&#39;"), (0, .methodref 13 49), (0, .nameAndType 50 27), (0, u "valueOf"), (0, .methodref 8 52), (0, .nameAndType 53 54), (0, u "at"), (0, u "(Ljava/lang/String;ILjava/lang/String;II)Z"), (0, .methodref 13 56), (0, .nameAndType 57 12), (0, u "charAt"), (2, u "law"), (0, u "(IIII)Z")] 3

def k1m0 : Method := { name := "<init>", desc := "()V", sig := { parameters := [], returnType := none }, accessFlags := 2, code := none }
def k1c1 : Code := { maxStack := 6, maxLocals := 16, code := code, exceptionTable := #[], attributes := #[] }
def k1m1 : Method := { name := "law", desc := "(IIII)Z", sig := { parameters := [.int, .int, .int, .int], returnType := some .boolean }, accessFlags := 9, code := some k1c1 }
def k1c2 : Code := { maxStack := 2, maxLocals := 2, code := method_3_code, exceptionTable := #[], attributes := #[] }
def k1m2 : Method := { name := "pick", desc := "(I)C", sig := { parameters := [.int], returnType := some .char }, accessFlags := 10, code := some k1c2 }
def k1c3 : Code := { maxStack := 2, maxLocals := 1, code := method_4_code, exceptionTable := #[], attributes := #[] }
def k1m3 : Method := { name := "ref", desc := "(C)Ljava/lang/String;", sig := { parameters := [.char], returnType := some (.object "java/lang/String") }, accessFlags := 10, code := some k1c3 }
def k1c4 : Code := { maxStack := 5, maxLocals := 4, code := method_5_code, exceptionTable := #[], attributes := #[] }
def k1m4 : Method := { name := "seg", desc := "(Ljava/lang/String;ILjava/lang/String;)Z", sig := { parameters := [(.object "java/lang/String"), .int, (.object "java/lang/String")], returnType := some .boolean }, accessFlags := 10, code := some k1c4 }
def k1c5 : Code := { maxStack := 3, maxLocals := 5, code := method_6_code, exceptionTable := #[], attributes := #[] }
def k1m5 : Method := { name := "at", desc := "(Ljava/lang/String;ILjava/lang/String;II)Z", sig := { parameters := [(.object "java/lang/String"), .int, (.object "java/lang/String"), .int, .int], returnType := some .boolean }, accessFlags := 10, code := some k1c5 }
/-- com/example/guide/guide/web/PagesEscapePinLaw -/
def k1 : Class := { plain "com/example/guide/guide/web/PagesEscapePinLaw" (some 0) with
  accessFlags := 49
  interfaces := #[]
  cf := some (fileOf pool1 8 #[] #[{ accessFlags := 2, nameIndex := 5, descriptorIndex := 6, attributes := #[] }, { accessFlags := 9, nameIndex := 60, descriptorIndex := 61, attributes := #[] }, { accessFlags := 10, nameIndex := 11, descriptorIndex := 12, attributes := #[] }, { accessFlags := 10, nameIndex := 26, descriptorIndex := 27, attributes := #[] }, { accessFlags := 10, nameIndex := 36, descriptorIndex := 37, attributes := #[] }, { accessFlags := 10, nameIndex := 53, descriptorIndex := 54, attributes := #[] }] 49 2 #[] #[])
  fields := #[]
  methods := #[k1m0, k1m1, k1m2, k1m3, k1m4, k1m5]
  instanceTypes := #[]
  staticTypes := #[]
  resolved := Array.replicate 65 none
  statics := none }

def pool2 : Array CpInfo := pool [(1, .class_ 2), (0, u "java/io/Serializable"), (0, .class_ 4), (0, u "java/lang/Object")] 2

/-- java/io/Serializable -/
def k2 : Class := { plain "java/io/Serializable" (some 0) with
  accessFlags := 1537
  interfaces := #[]
  cf := some (fileOf pool2 1 #[] #[] 1537 3 #[] #[])
  fields := #[]
  methods := #[]
  instanceTypes := #[]
  staticTypes := #[]
  resolved := Array.replicate 7 none
  statics := none }

def pool3 : Array CpInfo := pool [(1, .class_ 2), (0, u "java/lang/Comparable"), (0, .class_ 4), (0, u "java/lang/Object")] 7

/-- java/lang/Comparable -/
def k3 : Class := { plain "java/lang/Comparable" (some 0) with
  accessFlags := 1537
  interfaces := #[]
  cf := some (fileOf pool3 1 #[] #[] 1537 3 #[] #[])
  fields := #[]
  methods := #[]
  instanceTypes := #[]
  staticTypes := #[]
  resolved := Array.replicate 12 none
  statics := none }

def pool4 : Array CpInfo := pool [(2, .class_ 4), (1, u "java/lang/CharSequence"), (42, .class_ 48), (0, u "java/lang/CharSequence$1CodePointIterator"), (10, .class_ 60), (0, u "java/lang/CharSequence$1CharIterator"), (5, .class_ 67), (0, u "java/lang/Object")] 63

/-- java/lang/CharSequence -/
def k4 : Class := { plain "java/lang/CharSequence" (some 0) with
  accessFlags := 1537
  interfaces := #[]
  cf := some (fileOf pool4 2 #[.nestMembers #[47, 59]] #[] 1537 66 #[] #[])
  fields := #[]
  methods := #[]
  instanceTypes := #[]
  staticTypes := #[]
  resolved := Array.replicate 131 none
  statics := none }

def pool5 : Array CpInfo := pool [(1, .class_ 2), (0, u "java/lang/constant/Constable"), (0, .class_ 4), (0, u "java/lang/Object")] 6

/-- java/lang/constant/Constable -/
def k5 : Class := { plain "java/lang/constant/Constable" (some 0) with
  accessFlags := 1537
  interfaces := #[]
  cf := some (fileOf pool5 1 #[] #[] 1537 3 #[] #[])
  fields := #[]
  methods := #[]
  instanceTypes := #[]
  staticTypes := #[]
  resolved := Array.replicate 11 none
  statics := none }

def pool6 : Array CpInfo := pool [(1, .class_ 2), (0, u "java/lang/constant/ConstantDesc"), (0, .class_ 4), (0, u "java/lang/Object")] 32

/-- java/lang/constant/ConstantDesc -/
def k6 : Class := { plain "java/lang/constant/ConstantDesc" (some 0) with
  accessFlags := 1537
  interfaces := #[]
  cf := some (fileOf pool6 1 #[] #[] 1537 3 #[] #[])
  fields := #[]
  methods := #[]
  instanceTypes := #[]
  staticTypes := #[]
  resolved := Array.replicate 37 none
  statics := none }

def pool7 : Array CpInfo := pool [(1, .methodref 2 3), (0, .class_ 4), (0, .nameAndType 5 6), (0, u "java/lang/Object"), (0, u "<init>"), (0, u "()V"), (0, .string 8), (0, u ""), (0, .fieldref 10 11), (0, .class_ 12), (0, .nameAndType 13 14), (0, u "java/lang/String"), (0, u "value"), (0, u "[B"), (0, .fieldref 10 16), (0, .nameAndType 17 18), (0, u "coder"), (0, u "B"), (2, u "hash"), (0, u "I"), (2, u "hashIsZero"), (0, u "Z"), (0, .methodref 10 28), (0, .nameAndType 5 29), (0, u "([CIILjava/lang/Void;)V"), (6, u "checkBoundsOffCount"), (0, u "(III)I"), (0, .fieldref 10 39), (0, .nameAndType 40 26), (0, u "COMPACT_STRINGS"), (1, .class_ 44), (1, u "java/lang/StringUTF16"), (0, u "compress"), (1, .methodref 42 48), (0, .nameAndType 49 50), (0, u "coderFromArrayLen"), (0, u "([BI)B"), (2, u "toBytes"), (0, .methodref 55 56), (0, .class_ 57), (0, .nameAndType 58 59), (0, u "java/util/Arrays"), (0, u "copyOfRange"), (0, u "([BII)[B"), (46, .methodref 107 108), (0, .class_ 109), (0, .nameAndType 110 111), (0, u "java/lang/StringLatin1"), (0, u "inflate"), (0, u "([BI[BII)V"), (30, u "()Z"), (34, .methodref 42 178), (0, .nameAndType 45 179), (0, u "([CII)[B"), (13, .class_ 195), (1, u "java/lang/System"), (13, .methodref 10 210), (0, .nameAndType 5 211), (0, u "([BB)V"), (0, .methodref 193 213), (0, .nameAndType 214 215), (0, u "arraycopy"), (0, u "(Ljava/lang/Object;ILjava/lang/Object;II)V"), (118, u "()I"), (0, .methodref 10 336), (0, .nameAndType 17 337), (0, u "()B"), (2, u "()[B"), (22, u "([BI)C"), (5, u "(C)Z"), (21, u "(II)V"), (35, u "(I)C"), (61, .methodref 10 490), (0, .nameAndType 5 491), (0, u "(Ljava/lang/AbstractStringBuilder;Ljava/lang/Void;)V"), (0, .methodref 10 493), (0, .nameAndType 494 142), (0, u "isLatin1"), (0, .methodref 107 496), (0, .nameAndType 497 363), (0, u "charAt"), (0, .methodref 42 496), (2, u "checkIndex"), (4, .nameAndType 507 334), (0, u "length"), (24, u "getBytes"), (16, .methodref 550 506), (0, .class_ 551), (0, u "java/lang/AbstractStringBuilder"), (0, .methodref 550 553), (0, .nameAndType 554 340), (0, u "getValue"), (20, .class_ 576), (0, u "java/lang/CharSequence"), (22, u "CASE_INSENSITIVE_ORDER"), (0, u "Ljava/util/Comparator;"), (181, u "valueOf"), (0, u "(C)Ljava/lang/String;"), (37, u "([BIB)V"), (188, u "([C)V"), (4, .methodref 107 1016), (0, .nameAndType 1017 369), (0, u "canEncode"), (0, .methodref 107 1019), (0, .nameAndType 53 1020), (0, u "(C)[B"), (0, .methodref 42 1019), (25, .methodref 550 493), (0, .fieldref 550 1049), (0, .nameAndType 1050 26), (0, u "maybeLatin1"), (2, .fieldref 1054 1055), (0, .class_ 1056), (0, .nameAndType 1057 1058), (0, u "jdk/internal/util/Preconditions"), (0, u "SIOOBE_FORMATTER"), (0, u "Ljava/util/function/BiFunction;"), (0, .methodref 1054 1060), (0, .nameAndType 501 1061), (0, u "(IILjava/util/function/BiFunction;)I"), (2, u "(IIILjava/util/function/BiFunction;)I"), (0, .methodref 1054 1066), (0, .nameAndType 1067 1064), (0, u "checkFromIndexSize"), (33, u "serialPersistentFields"), (0, u "[Ljava/io/ObjectStreamField;"), (0, .class_ 1104), (0, u "java/lang/String$CaseInsensitiveComparator"), (1, .class_ 1107), (0, u "java/io/Serializable"), (0, .class_ 1109), (0, u "java/lang/Comparable"), (0, .class_ 1111), (0, u "java/lang/constant/Constable"), (0, .class_ 1113), (0, u "java/lang/constant/ConstantDesc"), (2, u "serialVersionUID"), (0, u "J"), (3, u "REPL"), (0, u "C"), (2, u "LATIN1"), (1, u "UTF16"), (105, u "(Ljava/lang/StringBuilder;)V")] 217

def k7m0 : Method := { name := "<init>", desc := "()V", sig := { parameters := [], returnType := none }, accessFlags := 1, code := none }
def k7c1 : Code := { maxStack := 5, maxLocals := 2, code := jdk_42_method_3_code, exceptionTable := #[], attributes := #[] }
def k7m1 : Method := { name := "<init>", desc := "([C)V", sig := { parameters := [(.array .char)], returnType := none }, accessFlags := 1, code := some k7c1 }
def k7c2 : Code := { maxStack := 3, maxLocals := 2, code := jdk_42_method_53_code, exceptionTable := #[], attributes := #[] }
def k7m2 : Method := { name := "<init>", desc := "(Ljava/lang/StringBuilder;)V", sig := { parameters := [(.object "java/lang/StringBuilder")], returnType := none }, accessFlags := 1, code := some k7c2 }
def k7c3 : Code := { maxStack := 2, maxLocals := 1, code := jdk_42_method_54_code, exceptionTable := #[], attributes := #[] }
def k7m3 : Method := { name := "length", desc := "()I", sig := { parameters := [], returnType := some .int }, accessFlags := 1, code := some k7c3 }
def k7c4 : Code := { maxStack := 2, maxLocals := 2, code := jdk_42_method_56_code, exceptionTable := #[], attributes := #[] }
def k7m4 : Method := { name := "charAt", desc := "(I)C", sig := { parameters := [.int], returnType := some .char }, accessFlags := 1, code := some k7c4 }
def k7c5 : Code := { maxStack := 4, maxLocals := 1, code := jdk_42_method_139_code, exceptionTable := #[], attributes := #[] }
def k7m5 : Method := { name := "valueOf", desc := "(C)Ljava/lang/String;", sig := { parameters := [.char], returnType := some (.object "java/lang/String") }, accessFlags := 9, code := some k7c5 }
def k7c6 : Code := { maxStack := 5, maxLocals := 4, code := jdk_42_method_147_code, exceptionTable := #[], attributes := #[] }
def k7m6 : Method := { name := "getBytes", desc := "([BIB)V", sig := { parameters := [(.array .byte), .int, .byte], returnType := none }, accessFlags := 0, code := some k7c6 }
def k7c7 : Code := { maxStack := 4, maxLocals := 6, code := jdk_42_method_149_code, exceptionTable := #[], attributes := #[] }
def k7m7 : Method := { name := "<init>", desc := "([CIILjava/lang/Void;)V", sig := { parameters := [(.array .char), .int, .int, (.object "java/lang/Void")], returnType := none }, accessFlags := 2, code := some k7c7 }
def k7c8 : Code := { maxStack := 5, maxLocals := 5, code := jdk_42_method_150_code, exceptionTable := #[], attributes := #[] }
def k7m8 : Method := { name := "<init>", desc := "(Ljava/lang/AbstractStringBuilder;Ljava/lang/Void;)V", sig := { parameters := [(.object "java/lang/AbstractStringBuilder"), (.object "java/lang/Void")], returnType := none }, accessFlags := 0, code := some k7c8 }
def k7c9 : Code := { maxStack := 2, maxLocals := 3, code := jdk_42_method_151_code, exceptionTable := #[], attributes := #[] }
def k7m9 : Method := { name := "<init>", desc := "([BB)V", sig := { parameters := [(.array .byte), .byte], returnType := none }, accessFlags := 0, code := some k7c9 }
def k7c10 : Code := { maxStack := 1, maxLocals := 1, code := jdk_42_method_152_code, exceptionTable := #[], attributes := #[] }
def k7m10 : Method := { name := "coder", desc := "()B", sig := { parameters := [], returnType := some .byte }, accessFlags := 0, code := some k7c10 }
def k7c11 : Code := { maxStack := 1, maxLocals := 1, code := jdk_42_method_154_code, exceptionTable := #[], attributes := #[] }
def k7m11 : Method := { name := "isLatin1", desc := "()Z", sig := { parameters := [], returnType := some .boolean }, accessFlags := 0, code := some k7c11 }
def k7c12 : Code := { maxStack := 3, maxLocals := 2, code := jdk_42_method_155_code, exceptionTable := #[], attributes := #[] }
def k7m12 : Method := { name := "checkIndex", desc := "(II)V", sig := { parameters := [.int, .int], returnType := none }, accessFlags := 8, code := some k7c12 }
def k7c13 : Code := { maxStack := 4, maxLocals := 3, code := jdk_42_method_157_code, exceptionTable := #[], attributes := #[] }
def k7m13 : Method := { name := "checkBoundsOffCount", desc := "(III)I", sig := { parameters := [.int, .int, .int], returnType := some .int }, accessFlags := 8, code := some k7c13 }
/-- java/lang/String -/
def k7 : Class := { plain "java/lang/String" (some 0) with
  accessFlags := 49
  interfaces := #[2, 3, 4, 5, 6]
  cf := some (fileOf pool7 10 #[.nestMembers #[1103]] #[{ accessFlags := 1, nameIndex := 5, descriptorIndex := 6, attributes := #[] }, { accessFlags := 1, nameIndex := 5, descriptorIndex := 1010, attributes := #[] }, { accessFlags := 1, nameIndex := 5, descriptorIndex := 1233, attributes := #[] }, { accessFlags := 1, nameIndex := 507, descriptorIndex := 334, attributes := #[] }, { accessFlags := 1, nameIndex := 497, descriptorIndex := 427, attributes := #[] }, { accessFlags := 9, nameIndex := 782, descriptorIndex := 783, attributes := #[] }, { accessFlags := 0, nameIndex := 532, descriptorIndex := 821, attributes := #[] }, { accessFlags := 2, nameIndex := 5, descriptorIndex := 29, attributes := #[] }, { accessFlags := 0, nameIndex := 5, descriptorIndex := 491, attributes := #[] }, { accessFlags := 0, nameIndex := 5, descriptorIndex := 211, attributes := #[] }, { accessFlags := 0, nameIndex := 17, descriptorIndex := 337, attributes := #[] }, { accessFlags := 0, nameIndex := 494, descriptorIndex := 142, attributes := #[] }, { accessFlags := 8, nameIndex := 501, descriptorIndex := 391, attributes := #[] }, { accessFlags := 8, nameIndex := 36, descriptorIndex := 37, attributes := #[] }] 49 2 #[1106, 1108, 575, 1110, 1112] #[{ accessFlags := 18, nameIndex := 13, descriptorIndex := 14, attributes := #[] }, { accessFlags := 18, nameIndex := 17, descriptorIndex := 18, attributes := #[] }, { accessFlags := 2, nameIndex := 21, descriptorIndex := 22, attributes := #[] }, { accessFlags := 2, nameIndex := 25, descriptorIndex := 26, attributes := #[] }, { accessFlags := 26, nameIndex := 1116, descriptorIndex := 1117, attributes := #[] }, { accessFlags := 24, nameIndex := 40, descriptorIndex := 26, attributes := #[] }, { accessFlags := 26, nameIndex := 1101, descriptorIndex := 1102, attributes := #[] }, { accessFlags := 26, nameIndex := 1121, descriptorIndex := 1122, attributes := #[] }, { accessFlags := 25, nameIndex := 599, descriptorIndex := 600, attributes := #[] }, { accessFlags := 24, nameIndex := 1125, descriptorIndex := 18, attributes := #[] }, { accessFlags := 24, nameIndex := 1127, descriptorIndex := 18, attributes := #[] }])
  fields := #[{ name := "value", type := (.array .byte), accessFlags := 18, slot := 0, constantValue := 0 }, { name := "coder", type := .byte, accessFlags := 18, slot := 1, constantValue := 0 }, { name := "hash", type := .int, accessFlags := 2, slot := 2, constantValue := 0 }, { name := "hashIsZero", type := .boolean, accessFlags := 2, slot := 3, constantValue := 0 }, { name := "serialVersionUID", type := .long, accessFlags := 26, slot := 0, constantValue := 0 }, { name := "COMPACT_STRINGS", type := .boolean, accessFlags := 24, slot := 1, constantValue := 0 }, { name := "serialPersistentFields", type := (.array (.object "java/io/ObjectStreamField")), accessFlags := 26, slot := 2, constantValue := 0 }, { name := "REPL", type := .char, accessFlags := 26, slot := 3, constantValue := 0 }, { name := "CASE_INSENSITIVE_ORDER", type := (.object "java/util/Comparator"), accessFlags := 25, slot := 4, constantValue := 0 }, { name := "LATIN1", type := .byte, accessFlags := 24, slot := 5, constantValue := 0 }, { name := "UTF16", type := .byte, accessFlags := 24, slot := 6, constantValue := 0 }]
  methods := #[k7m0, k7m1, k7m2, k7m3, k7m4, k7m5, k7m6, k7m7, k7m8, k7m9, k7m10, k7m11, k7m12, k7m13]
  instanceTypes := #[(.array .byte), .byte, .int, .boolean]
  staticTypes := #[.long, .boolean, (.array (.object "java/io/ObjectStreamField")), .char, (.object "java/util/Comparator"), .byte, .byte]
  resolved := Array.replicate 1451 none
  statics := some 0 }

def pool8 : Array CpInfo := pool [(3, .class_ 4), (0, u "java/lang/String"), (1, .class_ 8), (1, u "java/lang/Object"), (0, u "<init>"), (0, u "()V"), (0, .methodref 12 13), (0, .class_ 14), (0, .nameAndType 15 16), (0, u "java/lang/StringUTF16"), (0, u "newBytesLength"), (0, u "(I)I"), (3, .integer 1073741823), (23, .fieldref 12 45), (0, .nameAndType 46 47), (0, u "$assertionsDisabled"), (0, u "Z"), (0, .methodref 12 49), (0, .nameAndType 50 51), (0, u "length"), (0, u "([B)I"), (7, .fieldref 12 60), (0, .nameAndType 61 62), (0, u "HI_BYTE_SHIFT"), (0, u "I"), (0, .fieldref 12 64), (0, .nameAndType 65 62), (0, u "LO_BYTE_SHIFT"), (1, .methodref 12 68), (0, .nameAndType 69 70), (0, u "checkIndex"), (0, u "(I[B)V"), (0, .methodref 12 72), (0, .nameAndType 73 74), (0, u "getChar"), (0, u "([BI)C"), (24, u "(II[B)V"), (7, .methodref 12 108), (0, .nameAndType 109 110), (0, u "newBytesFor"), (0, u "(I)[B"), (0, .methodref 12 112), (0, .nameAndType 113 114), (0, u "putChar"), (0, u "([BII)V"), (0, .methodref 12 116), (0, .nameAndType 117 118), (0, u "compress"), (0, u "([CI[BII)I"), (0, .methodref 12 120), (0, .nameAndType 121 122), (0, u "toBytes"), (0, u "([CII)[B"), (17, u "inflate"), (0, u "([BI[BII)V"), (31, .methodref 12 174), (0, .nameAndType 175 99), (0, u "checkBoundsOffCount"), (85, u "coderFromArrayLen"), (0, u "([BI)B"), (18, u "(III)I"), (87, .class_ 371), (1, u "java/lang/StringUTF16$LinesSpliterator"), (20, u "charAt"), (21, .methodref 3 415), (0, .nameAndType 69 416), (0, u "(II)V"), (2, .methodref 3 420), (0, .nameAndType 175 281), (9, u "MAX_LENGTH"), (44, u "(C)[B"), (110, u "putCharSB"), (40, .class_ 628), (0, u "java/lang/StringUTF16$CodePointsSpliterator"), (0, .class_ 630), (0, u "java/lang/StringUTF16$CharsSpliterator")] 4

def k8m0 : Method := { name := "<init>", desc := "()V", sig := { parameters := [], returnType := none }, accessFlags := 0, code := none }
def k8c1 : Code := { maxStack := 1, maxLocals := 1, code := jdk_52_method_2_code, exceptionTable := #[], attributes := #[] }
def k8m1 : Method := { name := "newBytesFor", desc := "(I)[B", sig := { parameters := [.int], returnType := some (.array .byte) }, accessFlags := 9, code := some k8c1 }
def k8c2 : Code := { maxStack := 4, maxLocals := 1, code := jdk_52_method_3_code, exceptionTable := #[], attributes := #[] }
def k8m2 : Method := { name := "newBytesLength", desc := "(I)I", sig := { parameters := [.int], returnType := some .int }, accessFlags := 9, code := some k8c2 }
def k8c3 : Code := { maxStack := 4, maxLocals := 3, code := jdk_52_method_4_code, exceptionTable := #[], attributes := #[] }
def k8m3 : Method := { name := "putChar", desc := "([BII)V", sig := { parameters := [(.array .byte), .int, .int], returnType := none }, accessFlags := 8, code := some k8c3 }
def k8c4 : Code := { maxStack := 3, maxLocals := 2, code := jdk_52_method_5_code, exceptionTable := #[], attributes := #[] }
def k8m4 : Method := { name := "getChar", desc := "([BI)C", sig := { parameters := [(.array .byte), .int], returnType := some .char }, accessFlags := 8, code := some k8c4 }
def k8c5 : Code := { maxStack := 2, maxLocals := 1, code := jdk_52_method_6_code, exceptionTable := #[], attributes := #[] }
def k8m5 : Method := { name := "length", desc := "([B)I", sig := { parameters := [(.array .byte)], returnType := some .int }, accessFlags := 9, code := some k8c5 }
def k8c6 : Code := { maxStack := 4, maxLocals := 5, code := jdk_52_method_14_code, exceptionTable := #[], attributes := #[] }
def k8m6 : Method := { name := "toBytes", desc := "([CII)[B", sig := { parameters := [(.array .char), .int, .int], returnType := some (.array .byte) }, accessFlags := 9, code := some k8c6 }
def k8c7 : Code := { maxStack := 2, maxLocals := 2, code := jdk_52_method_15_code, exceptionTable := #[], attributes := #[] }
def k8m7 : Method := { name := "coderFromArrayLen", desc := "([BI)B", sig := { parameters := [(.array .byte), .int], returnType := some .byte }, accessFlags := 8, code := some k8c7 }
def k8c8 : Code := { maxStack := 5, maxLocals := 6, code := jdk_52_method_16_code, exceptionTable := #[], attributes := #[] }
def k8m8 : Method := { name := "compress", desc := "([CII)[B", sig := { parameters := [(.array .char), .int, .int], returnType := some (.array .byte) }, accessFlags := 9, code := some k8c8 }
def k8c9 : Code := { maxStack := 3, maxLocals := 7, code := jdk_52_method_21_code, exceptionTable := #[], attributes := #[] }
def k8m9 : Method := { name := "compress", desc := "([CI[BII)I", sig := { parameters := [(.array .char), .int, (.array .byte), .int, .int], returnType := some .int }, accessFlags := 9, code := some k8c9 }
def k8c10 : Code := { maxStack := 3, maxLocals := 2, code := jdk_52_method_24_code, exceptionTable := #[], attributes := #[] }
def k8m10 : Method := { name := "toBytes", desc := "(C)[B", sig := { parameters := [.char], returnType := some (.array .byte) }, accessFlags := 9, code := some k8c10 }
def k8c11 : Code := { maxStack := 3, maxLocals := 3, code := jdk_52_method_71_code, exceptionTable := #[], attributes := #[] }
def k8m11 : Method := { name := "putCharSB", desc := "([BII)V", sig := { parameters := [(.array .byte), .int, .int], returnType := none }, accessFlags := 9, code := some k8c11 }
def k8c12 : Code := { maxStack := 2, maxLocals := 2, code := jdk_52_method_83_code, exceptionTable := #[], attributes := #[] }
def k8m12 : Method := { name := "charAt", desc := "([BI)C", sig := { parameters := [(.array .byte), .int], returnType := some .char }, accessFlags := 9, code := some k8c12 }
def k8c13 : Code := { maxStack := 4, maxLocals := 6, code := jdk_52_method_86_code, exceptionTable := #[], attributes := #[] }
def k8m13 : Method := { name := "inflate", desc := "([BI[BII)V", sig := { parameters := [(.array .byte), .int, (.array .byte), .int, .int], returnType := none }, accessFlags := 9, code := some k8c13 }
def k8c14 : Code := { maxStack := 2, maxLocals := 2, code := jdk_52_method_91_code, exceptionTable := #[], attributes := #[] }
def k8m14 : Method := { name := "checkIndex", desc := "(I[B)V", sig := { parameters := [.int, (.array .byte)], returnType := none }, accessFlags := 9, code := some k8c14 }
def k8c15 : Code := { maxStack := 3, maxLocals := 3, code := jdk_52_method_94_code, exceptionTable := #[], attributes := #[] }
def k8m15 : Method := { name := "checkBoundsOffCount", desc := "(II[B)V", sig := { parameters := [.int, .int, (.array .byte)], returnType := none }, accessFlags := 9, code := some k8c15 }
/-- java/lang/StringUTF16 -/
def k8 : Class := { plain "java/lang/StringUTF16" (some 0) with
  accessFlags := 48
  interfaces := #[]
  cf := some (fileOf pool8 12 #[.nestMembers #[627, 629, 369]] #[{ accessFlags := 0, nameIndex := 9, descriptorIndex := 10, attributes := #[] }, { accessFlags := 9, nameIndex := 109, descriptorIndex := 110, attributes := #[] }, { accessFlags := 9, nameIndex := 15, descriptorIndex := 16, attributes := #[] }, { accessFlags := 8, nameIndex := 113, descriptorIndex := 114, attributes := #[] }, { accessFlags := 8, nameIndex := 73, descriptorIndex := 74, attributes := #[] }, { accessFlags := 9, nameIndex := 50, descriptorIndex := 51, attributes := #[] }, { accessFlags := 9, nameIndex := 121, descriptorIndex := 122, attributes := #[] }, { accessFlags := 8, nameIndex := 261, descriptorIndex := 262, attributes := #[] }, { accessFlags := 9, nameIndex := 117, descriptorIndex := 122, attributes := #[] }, { accessFlags := 9, nameIndex := 117, descriptorIndex := 118, attributes := #[] }, { accessFlags := 9, nameIndex := 121, descriptorIndex := 475, attributes := #[] }, { accessFlags := 9, nameIndex := 586, descriptorIndex := 114, attributes := #[] }, { accessFlags := 9, nameIndex := 392, descriptorIndex := 74, attributes := #[] }, { accessFlags := 9, nameIndex := 140, descriptorIndex := 141, attributes := #[] }, { accessFlags := 9, nameIndex := 69, descriptorIndex := 70, attributes := #[] }, { accessFlags := 9, nameIndex := 175, descriptorIndex := 99, attributes := #[] }] 48 6 #[] #[{ accessFlags := 26, nameIndex := 61, descriptorIndex := 62, attributes := #[] }, { accessFlags := 26, nameIndex := 65, descriptorIndex := 62, attributes := #[] }, { accessFlags := 24, nameIndex := 430, descriptorIndex := 62, attributes := #[] }, { accessFlags := 4120, nameIndex := 46, descriptorIndex := 47, attributes := #[] }])
  fields := #[{ name := "HI_BYTE_SHIFT", type := .int, accessFlags := 26, slot := 0, constantValue := 0 }, { name := "LO_BYTE_SHIFT", type := .int, accessFlags := 26, slot := 1, constantValue := 0 }, { name := "MAX_LENGTH", type := .int, accessFlags := 24, slot := 2, constantValue := 0 }, { name := "$assertionsDisabled", type := .boolean, accessFlags := 4120, slot := 3, constantValue := 0 }]
  methods := #[k8m0, k8m1, k8m2, k8m3, k8m4, k8m5, k8m6, k8m7, k8m8, k8m9, k8m10, k8m11, k8m12, k8m13, k8m14, k8m15]
  instanceTypes := #[]
  staticTypes := #[.int, .int, .int, .boolean]
  resolved := Array.replicate 635 none
  statics := some 1 }

def pool9 : Array CpInfo := pool [(2, .class_ 4), (1, u "java/lang/Object"), (0, u "<init>"), (0, u "()V"), (5, u "()Ljava/lang/String;"), (10, .class_ 25), (1, u "com/example/guide/guide/web/Pages"), (4, .methodref 31 32), (0, .class_ 33), (0, .nameAndType 34 35), (0, u "java/lang/StringBuilder"), (0, u "append"), (0, u "(Ljava/lang/String;)Ljava/lang/StringBuilder;"), (2, u "escape"), (0, u "(Ljava/lang/String;)Ljava/lang/String;"), (22, .class_ 63), (0, u "java/lang/String"), (72, .methodref 62 137), (0, .nameAndType 138 139), (0, u "length"), (0, u "()I"), (0, .methodref 31 141), (0, .nameAndType 5 142), (0, u "(I)V"), (0, .methodref 62 144), (0, .nameAndType 145 146), (0, u "charAt"), (0, u "(I)C"), (0, .string 148), (0, u "&amp;"), (0, .string 150), (0, u "&lt;"), (0, .string 152), (0, u "&gt;"), (0, .string 154), (0, u "&quot;"), (0, .string 156), (0, u "&#39;"), (0, .methodref 31 158), (0, .nameAndType 34 159), (0, u "(C)Ljava/lang/StringBuilder;"), (0, .methodref 31 161), (0, .nameAndType 162 12), (0, u "toString")] 53

def k9m0 : Method := { name := "<init>", desc := "()V", sig := { parameters := [], returnType := none }, accessFlags := 2, code := none }
def k9c1 : Code := { maxStack := 3, maxLocals := 4, code := prog_61_method_5_code, exceptionTable := #[], attributes := #[] }
def k9m1 : Method := { name := "escape", desc := "(Ljava/lang/String;)Ljava/lang/String;", sig := { parameters := [(.object "java/lang/String")], returnType := some (.object "java/lang/String") }, accessFlags := 8, code := some k9c1 }
/-- com/example/guide/guide/web/Pages -/
def k9 : Class := { plain "com/example/guide/guide/web/Pages" (some 0) with
  accessFlags := 48
  interfaces := #[]
  cf := some (fileOf pool9 23 #[] #[{ accessFlags := 2, nameIndex := 5, descriptorIndex := 6, attributes := #[] }, { accessFlags := 8, nameIndex := 38, descriptorIndex := 39, attributes := #[] }] 48 2 #[] #[])
  fields := #[]
  methods := #[k9m0, k9m1]
  instanceTypes := #[]
  staticTypes := #[]
  resolved := Array.replicate 216 none
  statics := none }

def pool10 : Array CpInfo := pool [(1, .class_ 2), (0, u "java/lang/Appendable"), (0, .class_ 4), (0, u "java/lang/Object")] 9

/-- java/lang/Appendable -/
def k10 : Class := { plain "java/lang/Appendable" (some 0) with
  accessFlags := 1537
  interfaces := #[]
  cf := some (fileOf pool10 1 #[] #[] 1537 3 #[] #[])
  fields := #[]
  methods := #[]
  instanceTypes := #[]
  staticTypes := #[]
  resolved := Array.replicate 14 none
  statics := none }

def pool11 : Array CpInfo := pool [(1, .class_ 2), (0, u "java/lang/String"), (0, .methodref 4 5), (0, .class_ 6), (0, .nameAndType 7 8), (0, u "java/lang/Object"), (0, u "<init>"), (0, u "()V"), (1, .class_ 12), (1, u "java/lang/AbstractStringBuilder"), (0, u "EMPTYVALUE"), (0, u "[B"), (0, .fieldref 10 16), (0, .nameAndType 17 14), (0, u "value"), (0, .fieldref 1 19), (0, .nameAndType 20 21), (0, u "COMPACT_STRINGS"), (0, u "Z"), (0, .fieldref 10 23), (0, .nameAndType 24 25), (0, u "coder"), (0, u "B"), (0, .methodref 27 28), (0, .class_ 29), (0, .nameAndType 30 31), (0, u "java/lang/StringUTF16"), (0, u "newBytesFor"), (0, u "(I)[B"), (0, .methodref 1 33), (0, .nameAndType 34 35), (0, u "length"), (0, u "()I"), (3, .integer 2147483647), (0, .methodref 1 41), (0, .nameAndType 24 42), (0, u "()B"), (2, u "append"), (0, u "(Ljava/lang/String;)Ljava/lang/AbstractStringBuilder;"), (1, .class_ 49), (0, u "java/lang/CharSequence"), (19, u "(Ljava/lang/String;)V"), (5, u "maybeLatin1"), (3, .fieldref 10 80), (0, .nameAndType 81 82), (0, u "count"), (0, u "I"), (0, .methodref 10 84), (0, .nameAndType 85 86), (0, u "isLatin1"), (0, u "()Z"), (1, .class_ 90), (1, u "java/lang/StringLatin1"), (9, .methodref 10 101), (0, .nameAndType 102 103), (0, u "ensureCapacityInternal"), (0, u "(I)V"), (0, .methodref 10 105), (0, .nameAndType 106 107), (0, u "newCapacity"), (0, u "(I)I"), (0, .methodref 109 110), (0, .class_ 111), (0, .nameAndType 112 113), (0, u "java/util/Arrays"), (0, u "copyOf"), (0, u "([BI)[B"), (0, .methodref 115 116), (0, .class_ 117), (0, .nameAndType 118 119), (0, u "jdk/internal/util/ArraysSupport"), (0, u "newLength"), (0, u "(III)I"), (5, .methodref 88 126), (0, .nameAndType 127 128), (0, u "inflate"), (0, u "([BI[BII)V"), (7, u "([BII)V"), (54, .methodref 88 192), (0, .nameAndType 193 194), (0, u "canEncode"), (0, u "(C)Z"), (0, .methodref 10 196), (0, .nameAndType 127 8), (0, .methodref 27 198), (0, .nameAndType 199 136), (0, u "putCharSB"), (8, .methodref 10 209), (0, .nameAndType 210 211), (0, u "putStringAt"), (0, u "(ILjava/lang/String;)V"), (5, u "inflateIfNeededFor"), (2, .nameAndType 221 222), (0, u "getBytes"), (0, u "([BIB)V"), (69, u "(C)Ljava/lang/AbstractStringBuilder;"), (104, .methodref 10 398), (0, .nameAndType 217 69), (0, .methodref 1 220), (3, u "()[B"), (40, .class_ 445), (0, u "java/lang/Appendable"), (106, u "getValue")] 56

def k11m0 : Method := { name := "<init>", desc := "()V", sig := { parameters := [], returnType := none }, accessFlags := 0, code := none }
def k11c1 : Code := { maxStack := 2, maxLocals := 2, code := jdk_68_method_2_code, exceptionTable := #[], attributes := #[] }
def k11m1 : Method := { name := "<init>", desc := "(I)V", sig := { parameters := [.int], returnType := none }, accessFlags := 0, code := some k11c1 }
def k11c2 : Code := { maxStack := 1, maxLocals := 1, code := jdk_68_method_6_code, exceptionTable := #[], attributes := #[] }
def k11m2 : Method := { name := "length", desc := "()I", sig := { parameters := [], returnType := some .int }, accessFlags := 1, code := some k11c2 }
def k11c3 : Code := { maxStack := 4, maxLocals := 3, code := jdk_68_method_9_code, exceptionTable := #[], attributes := #[] }
def k11m3 : Method := { name := "ensureCapacityInternal", desc := "(I)V", sig := { parameters := [.int], returnType := none }, accessFlags := 2, code := some k11c3 }
def k11c4 : Code := { maxStack := 5, maxLocals := 6, code := jdk_68_method_10_code, exceptionTable := #[], attributes := #[] }
def k11m4 : Method := { name := "newCapacity", desc := "(I)I", sig := { parameters := [.int], returnType := some .int }, accessFlags := 2, code := some k11c4 }
def k11c5 : Code := { maxStack := 5, maxLocals := 2, code := jdk_68_method_11_code, exceptionTable := #[], attributes := #[] }
def k11m5 : Method := { name := "inflate", desc := "()V", sig := { parameters := [], returnType := none }, accessFlags := 2, code := some k11c5 }
def k11c6 : Code := { maxStack := 3, maxLocals := 3, code := jdk_68_method_22_code, exceptionTable := #[], attributes := #[] }
def k11m6 : Method := { name := "append", desc := "(Ljava/lang/String;)Ljava/lang/AbstractStringBuilder;", sig := { parameters := [(.object "java/lang/String")], returnType := some (.object "java/lang/AbstractStringBuilder") }, accessFlags := 1, code := some k11c6 }
def k11c7 : Code := { maxStack := 5, maxLocals := 2, code := jdk_68_method_31_code, exceptionTable := #[], attributes := #[] }
def k11m7 : Method := { name := "append", desc := "(C)Ljava/lang/AbstractStringBuilder;", sig := { parameters := [.char], returnType := some (.object "java/lang/AbstractStringBuilder") }, accessFlags := 1, code := some k11c7 }
def k11c8 : Code := { maxStack := 1, maxLocals := 1, code := jdk_68_method_64_code, exceptionTable := #[], attributes := #[] }
def k11m8 : Method := { name := "getValue", desc := "()[B", sig := { parameters := [], returnType := some (.array .byte) }, accessFlags := 16, code := some k11c8 }
def k11c9 : Code := { maxStack := 1, maxLocals := 1, code := jdk_68_method_68_code, exceptionTable := #[], attributes := #[] }
def k11m9 : Method := { name := "isLatin1", desc := "()Z", sig := { parameters := [], returnType := some .boolean }, accessFlags := 16, code := some k11c9 }
def k11c10 : Code := { maxStack := 2, maxLocals := 2, code := jdk_68_method_71_code, exceptionTable := #[], attributes := #[] }
def k11m10 : Method := { name := "inflateIfNeededFor", desc := "(Ljava/lang/String;)V", sig := { parameters := [(.object "java/lang/String")], returnType := none }, accessFlags := 2, code := some k11c10 }
def k11c11 : Code := { maxStack := 4, maxLocals := 3, code := jdk_68_method_73_code, exceptionTable := #[], attributes := #[] }
def k11m11 : Method := { name := "putStringAt", desc := "(ILjava/lang/String;)V", sig := { parameters := [.int, (.object "java/lang/String")], returnType := none }, accessFlags := 2, code := some k11c11 }
/-- java/lang/AbstractStringBuilder -/
def k11 : Class := { plain "java/lang/AbstractStringBuilder" (some 0) with
  accessFlags := 1056
  interfaces := #[10, 4]
  cf := some (fileOf pool11 10 #[] #[{ accessFlags := 0, nameIndex := 7, descriptorIndex := 8, attributes := #[] }, { accessFlags := 0, nameIndex := 7, descriptorIndex := 103, attributes := #[] }, { accessFlags := 1, nameIndex := 34, descriptorIndex := 35, attributes := #[] }, { accessFlags := 2, nameIndex := 102, descriptorIndex := 103, attributes := #[] }, { accessFlags := 2, nameIndex := 106, descriptorIndex := 107, attributes := #[] }, { accessFlags := 2, nameIndex := 127, descriptorIndex := 8, attributes := #[] }, { accessFlags := 1, nameIndex := 45, descriptorIndex := 46, attributes := #[] }, { accessFlags := 1, nameIndex := 45, descriptorIndex := 292, attributes := #[] }, { accessFlags := 16, nameIndex := 552, descriptorIndex := 403, attributes := #[] }, { accessFlags := 16, nameIndex := 85, descriptorIndex := 86, attributes := #[] }, { accessFlags := 2, nameIndex := 217, descriptorIndex := 69, attributes := #[] }, { accessFlags := 2, nameIndex := 210, descriptorIndex := 211, attributes := #[] }] 1056 4 #[444, 48] #[{ accessFlags := 0, nameIndex := 17, descriptorIndex := 14, attributes := #[] }, { accessFlags := 0, nameIndex := 24, descriptorIndex := 25, attributes := #[] }, { accessFlags := 0, nameIndex := 75, descriptorIndex := 21, attributes := #[] }, { accessFlags := 0, nameIndex := 81, descriptorIndex := 82, attributes := #[] }, { accessFlags := 26, nameIndex := 13, descriptorIndex := 14, attributes := #[] }])
  fields := #[{ name := "value", type := (.array .byte), accessFlags := 0, slot := 0, constantValue := 0 }, { name := "coder", type := .byte, accessFlags := 0, slot := 1, constantValue := 0 }, { name := "maybeLatin1", type := .boolean, accessFlags := 0, slot := 2, constantValue := 0 }, { name := "count", type := .int, accessFlags := 0, slot := 3, constantValue := 0 }, { name := "EMPTYVALUE", type := (.array .byte), accessFlags := 26, slot := 0, constantValue := 0 }]
  methods := #[k11m0, k11m1, k11m2, k11m3, k11m4, k11m5, k11m6, k11m7, k11m8, k11m9, k11m10, k11m11]
  instanceTypes := #[(.array .byte), .byte, .boolean, .int]
  staticTypes := #[(.array .byte)]
  resolved := Array.replicate 609 none
  statics := none }

def pool12 : Array CpInfo := pool [(1, .methodref 2 3), (0, .class_ 4), (0, .nameAndType 5 6), (0, u "java/lang/AbstractStringBuilder"), (0, u "<init>"), (0, u "(I)V"), (11, .class_ 20), (1, u "java/lang/String"), (3, .class_ 26), (1, u "java/lang/StringBuilder"), (0, u "append"), (0, u "(Ljava/lang/String;)Ljava/lang/StringBuilder;"), (0, .methodref 2 30), (0, .nameAndType 27 31), (0, u "(Ljava/lang/String;)Ljava/lang/AbstractStringBuilder;"), (18, .methodref 2 51), (0, .nameAndType 27 52), (0, u "(C)Ljava/lang/AbstractStringBuilder;"), (84, .methodref 18 138), (0, .nameAndType 5 139), (0, u "(Ljava/lang/StringBuilder;)V"), (5, u "()V"), (10, u "()I"), (129, u "(C)Ljava/lang/StringBuilder;"), (56, .methodref 2 344), (0, .nameAndType 345 156), (0, u "length"), (3, .class_ 350), (0, u "java/lang/Appendable"), (0, .class_ 352), (0, u "java/io/Serializable"), (0, .class_ 354), (0, u "java/lang/Comparable"), (0, .class_ 356), (0, u "java/lang/CharSequence"), (0, u "serialVersionUID"), (0, u "J"), (40, u "toString"), (0, u "()Ljava/lang/String;")] 21

def k12m0 : Method := { name := "<init>", desc := "()V", sig := { parameters := [], returnType := none }, accessFlags := 1, code := none }
def k12c1 : Code := { maxStack := 2, maxLocals := 2, code := jdk_67_method_2_code, exceptionTable := #[], attributes := #[] }
def k12m1 : Method := { name := "<init>", desc := "(I)V", sig := { parameters := [.int], returnType := none }, accessFlags := 1, code := some k12c1 }
def k12c2 : Code := { maxStack := 2, maxLocals := 2, code := jdk_67_method_7_code, exceptionTable := #[], attributes := #[] }
def k12m2 : Method := { name := "append", desc := "(Ljava/lang/String;)Ljava/lang/StringBuilder;", sig := { parameters := [(.object "java/lang/String")], returnType := some (.object "java/lang/StringBuilder") }, accessFlags := 1, code := some k12c2 }
def k12c3 : Code := { maxStack := 2, maxLocals := 2, code := jdk_67_method_14_code, exceptionTable := #[], attributes := #[] }
def k12m3 : Method := { name := "append", desc := "(C)Ljava/lang/StringBuilder;", sig := { parameters := [.char], returnType := some (.object "java/lang/StringBuilder") }, accessFlags := 1, code := some k12c3 }
def k12c4 : Code := { maxStack := 3, maxLocals := 1, code := jdk_67_method_42_code, exceptionTable := #[], attributes := #[] }
def k12m4 : Method := { name := "toString", desc := "()Ljava/lang/String;", sig := { parameters := [], returnType := some (.object "java/lang/String") }, accessFlags := 1, code := some k12c4 }
def k12c5 : Code := { maxStack := 1, maxLocals := 1, code := jdk_67_method_93_code, exceptionTable := #[], attributes := #[] }
def k12m5 : Method := { name := "length", desc := "()I", sig := { parameters := [], returnType := some .int }, accessFlags := 4161, code := some k12c5 }
/-- java/lang/StringBuilder -/
def k12 : Class := { plain "java/lang/StringBuilder" (some 11) with
  accessFlags := 49
  interfaces := #[10, 2, 3, 4]
  cf := some (fileOf pool12 24 #[] #[{ accessFlags := 1, nameIndex := 5, descriptorIndex := 145, attributes := #[] }, { accessFlags := 1, nameIndex := 5, descriptorIndex := 6, attributes := #[] }, { accessFlags := 1, nameIndex := 27, descriptorIndex := 28, attributes := #[] }, { accessFlags := 1, nameIndex := 27, descriptorIndex := 286, attributes := #[] }, { accessFlags := 1, nameIndex := 399, descriptorIndex := 400, attributes := #[] }, { accessFlags := 4161, nameIndex := 345, descriptorIndex := 156, attributes := #[] }] 49 2 #[349, 351, 353, 355] #[{ accessFlags := 24, nameIndex := 357, descriptorIndex := 358, attributes := #[] }])
  fields := #[{ name := "serialVersionUID", type := .long, accessFlags := 24, slot := 0, constantValue := 0 }]
  methods := #[k12m0, k12m1, k12m2, k12m3, k12m4, k12m5]
  instanceTypes := #[(.array .byte), .byte, .boolean, .int]
  staticTypes := #[.long]
  resolved := Array.replicate 422 none
  statics := none }

def pool13 : Array CpInfo := pool [(1, .class_ 2), (0, u "java/lang/String"), (1, .class_ 6), (1, u "java/lang/Object"), (0, u "<init>"), (0, u "()V"), (0, .methodref 1 10), (0, .nameAndType 11 12), (0, u "checkIndex"), (0, u "(II)V"), (1, .class_ 16), (1, u "java/lang/StringLatin1"), (0, u "inflate"), (2, .class_ 22), (1, u "java/lang/StringUTF16"), (3, .nameAndType 17 27), (0, u "([BI[BII)V"), (25, u "([BI)C"), (36, u "canEncode"), (14, u "(C)Z"), (15, u "$assertionsDisabled"), (0, u "Z"), (98, .class_ 223), (1, u "java/lang/StringLatin1$LinesSpliterator"), (16, .methodref 20 26), (11, u "charAt"), (127, u "toBytes"), (1, u "(C)[B"), (7, .class_ 391), (0, u "java/lang/StringLatin1$CharsSpliterator")] 3

def k13m0 : Method := { name := "<init>", desc := "()V", sig := { parameters := [], returnType := none }, accessFlags := 0, code := none }
def k13c1 : Code := { maxStack := 2, maxLocals := 2, code := jdk_43_method_2_code, exceptionTable := #[], attributes := #[] }
def k13m1 : Method := { name := "charAt", desc := "([BI)C", sig := { parameters := [(.array .byte), .int], returnType := some .char }, accessFlags := 9, code := some k13c1 }
def k13c2 : Code := { maxStack := 2, maxLocals := 1, code := jdk_43_method_3_code, exceptionTable := #[], attributes := #[] }
def k13m2 : Method := { name := "canEncode", desc := "(C)Z", sig := { parameters := [.char], returnType := some .boolean }, accessFlags := 9, code := some k13c2 }
def k13c3 : Code := { maxStack := 4, maxLocals := 1, code := jdk_43_method_46_code, exceptionTable := #[], attributes := #[] }
def k13m3 : Method := { name := "toBytes", desc := "(C)[B", sig := { parameters := [.char], returnType := some (.array .byte) }, accessFlags := 9, code := some k13c3 }
def k13c4 : Code := { maxStack := 5, maxLocals := 5, code := jdk_43_method_50_code, exceptionTable := #[], attributes := #[] }
def k13m4 : Method := { name := "inflate", desc := "([BI[BII)V", sig := { parameters := [(.array .byte), .int, (.array .byte), .int, .int], returnType := none }, accessFlags := 9, code := some k13c4 }
/-- java/lang/StringLatin1 -/
def k13 : Class := { plain "java/lang/StringLatin1" (some 0) with
  accessFlags := 48
  interfaces := #[]
  cf := some (fileOf pool13 14 #[.nestMembers #[390, 221]] #[{ accessFlags := 0, nameIndex := 7, descriptorIndex := 8, attributes := #[] }, { accessFlags := 9, nameIndex := 252, descriptorIndex := 53, attributes := #[] }, { accessFlags := 9, nameIndex := 90, descriptorIndex := 105, attributes := #[] }, { accessFlags := 9, nameIndex := 380, descriptorIndex := 382, attributes := #[] }, { accessFlags := 9, nameIndex := 17, descriptorIndex := 27, attributes := #[] }] 48 4 #[] #[{ accessFlags := 4120, nameIndex := 121, descriptorIndex := 122, attributes := #[] }])
  fields := #[{ name := "$assertionsDisabled", type := .boolean, accessFlags := 4120, slot := 0, constantValue := 0 }]
  methods := #[k13m0, k13m1, k13m2, k13m3, k13m4]
  instanceTypes := #[]
  staticTypes := #[.boolean]
  resolved := Array.replicate 395 none
  statics := none }

def pool14 : Array CpInfo := pool [(2, .class_ 4), (1, u "java/lang/Object"), (0, u "<init>"), (0, u "()V"), (17, .class_ 26), (1, u "jdk/internal/util/Preconditions"), (6, u "checkIndex"), (15, u "checkFromIndexSize"), (5, .class_ 56), (0, u "jdk/internal/util/Preconditions$4"), (57, .class_ 115), (0, u "jdk/internal/util/Preconditions$1"), (7, u "SIOOBE_FORMATTER"), (0, u "Ljava/util/function/BiFunction;"), (0, .class_ 126), (0, u "jdk/internal/util/Preconditions$2"), (3, u "AIOOBE_FORMATTER"), (0, .class_ 132), (0, u "jdk/internal/util/Preconditions$3"), (3, u "IOOBE_FORMATTER"), (41, u "(IILjava/util/function/BiFunction;)I"), (4, u "(IIILjava/util/function/BiFunction;)I")] 10

def k14m0 : Method := { name := "<init>", desc := "()V", sig := { parameters := [], returnType := none }, accessFlags := 1, code := none }
def k14c1 : Code := { maxStack := 3, maxLocals := 3, code := jdk_41_method_11_code, exceptionTable := #[], attributes := #[] }
def k14m1 : Method := { name := "checkIndex", desc := "(IILjava/util/function/BiFunction;)I", sig := { parameters := [.int, .int, (.object "java/util/function/BiFunction")], returnType := some .int }, accessFlags := 9, code := some k14c1 }
def k14c2 : Code := { maxStack := 4, maxLocals := 4, code := jdk_41_method_13_code, exceptionTable := #[], attributes := #[] }
def k14m2 : Method := { name := "checkFromIndexSize", desc := "(IIILjava/util/function/BiFunction;)I", sig := { parameters := [.int, .int, .int, (.object "java/util/function/BiFunction")], returnType := some .int }, accessFlags := 9, code := some k14c2 }
/-- jdk/internal/util/Preconditions -/
def k14 : Class := { plain "jdk/internal/util/Preconditions" (some 0) with
  accessFlags := 33
  interfaces := #[]
  cf := some (fileOf pool14 24 #[.nestMembers #[55, 131, 125, 114]] #[{ accessFlags := 1, nameIndex := 5, descriptorIndex := 6, attributes := #[] }, { accessFlags := 9, nameIndex := 33, descriptorIndex := 178, attributes := #[] }, { accessFlags := 9, nameIndex := 49, descriptorIndex := 183, attributes := #[] }] 33 2 #[] #[{ accessFlags := 25, nameIndex := 123, descriptorIndex := 124, attributes := #[] }, { accessFlags := 25, nameIndex := 130, descriptorIndex := 124, attributes := #[] }, { accessFlags := 25, nameIndex := 136, descriptorIndex := 124, attributes := #[] }])
  fields := #[{ name := "SIOOBE_FORMATTER", type := (.object "java/util/function/BiFunction"), accessFlags := 25, slot := 0, constantValue := 0 }, { name := "AIOOBE_FORMATTER", type := (.object "java/util/function/BiFunction"), accessFlags := 25, slot := 1, constantValue := 0 }, { name := "IOOBE_FORMATTER", type := (.object "java/util/function/BiFunction"), accessFlags := 25, slot := 2, constantValue := 0 }]
  methods := #[k14m0, k14m1, k14m2]
  instanceTypes := #[]
  staticTypes := #[(.object "java/util/function/BiFunction"), (.object "java/util/function/BiFunction"), (.object "java/util/function/BiFunction")]
  resolved := Array.replicate 194 none
  statics := some 2 }

def pool15 : Array CpInfo := pool [(9, u "<init>"), (6, .class_ 18), (1, u "java/lang/Object"), (0, u "()V"), (1, .class_ 23), (1, u "jdk/internal/util/ArraysSupport"), (0, u "LOG2_ARRAY_LONG_INDEX_SCALE"), (0, u "I"), (2, u "U"), (0, u "Ljdk/internal/misc/Unsafe;"), (8, u "BIG_ENDIAN"), (0, u "Z"), (8, u "LOG2_BYTE_BIT_SIZE"), (4, u "LOG2_ARRAY_INT_INDEX_SCALE"), (54, u "JLA"), (0, u "Ljdk/internal/access/JavaLangAccess;"), (11, u "LOG2_ARRAY_BOOLEAN_INDEX_SCALE"), (9, u "LOG2_ARRAY_BYTE_INDEX_SCALE"), (5, u "LOG2_ARRAY_CHAR_INDEX_SCALE"), (5, u "LOG2_ARRAY_SHORT_INDEX_SCALE"), (18, u "LOG2_ARRAY_FLOAT_INDEX_SCALE"), (24, u "LOG2_ARRAY_DOUBLE_INDEX_SCALE"), (6, .methodref 195 196), (0, .class_ 197), (0, .nameAndType 198 199), (0, u "java/lang/Math"), (0, u "max"), (0, u "(II)I"), (0, .integer 2147483639), (76, u "T_BOOLEAN"), (2, u "T_CHAR"), (1, u "T_FLOAT"), (1, u "T_DOUBLE"), (1, u "T_BYTE"), (1, u "T_SHORT"), (1, u "T_INT"), (1, u "T_LONG"), (1, u "SOFT_MAX_ARRAY_LENGTH"), (56, u "newLength"), (0, u "(III)I")] 25

def k15m0 : Method := { name := "<init>", desc := "()V", sig := { parameters := [], returnType := none }, accessFlags := 2, code := none }
def k15c1 : Code := { maxStack := 3, maxLocals := 4, code := jdk_48_method_27_code, exceptionTable := #[], attributes := #[] }
def k15m1 : Method := { name := "newLength", desc := "(III)I", sig := { parameters := [.int, .int, .int], returnType := some .int }, accessFlags := 9, code := some k15c1 }
/-- jdk/internal/util/ArraysSupport -/
def k15 : Class := { plain "jdk/internal/util/ArraysSupport" (some 0) with
  accessFlags := 33
  interfaces := #[]
  cf := some (fileOf pool15 21 #[] #[{ accessFlags := 2, nameIndex := 9, descriptorIndex := 19, attributes := #[] }, { accessFlags := 9, nameIndex := 351, descriptorIndex := 352, attributes := #[] }] 33 16 #[] #[{ accessFlags := 24, nameIndex := 28, descriptorIndex := 29, attributes := #[] }, { accessFlags := 26, nameIndex := 38, descriptorIndex := 39, attributes := #[] }, { accessFlags := 25, nameIndex := 121, descriptorIndex := 25, attributes := #[] }, { accessFlags := 25, nameIndex := 131, descriptorIndex := 25, attributes := #[] }, { accessFlags := 25, nameIndex := 137, descriptorIndex := 25, attributes := #[] }, { accessFlags := 25, nameIndex := 143, descriptorIndex := 25, attributes := #[] }, { accessFlags := 25, nameIndex := 53, descriptorIndex := 25, attributes := #[] }, { accessFlags := 25, nameIndex := 24, descriptorIndex := 25, attributes := #[] }, { accessFlags := 25, nameIndex := 162, descriptorIndex := 25, attributes := #[] }, { accessFlags := 25, nameIndex := 187, descriptorIndex := 25, attributes := #[] }, { accessFlags := 26, nameIndex := 48, descriptorIndex := 25, attributes := #[] }, { accessFlags := 25, nameIndex := 277, descriptorIndex := 25, attributes := #[] }, { accessFlags := 25, nameIndex := 280, descriptorIndex := 25, attributes := #[] }, { accessFlags := 25, nameIndex := 282, descriptorIndex := 25, attributes := #[] }, { accessFlags := 25, nameIndex := 284, descriptorIndex := 25, attributes := #[] }, { accessFlags := 25, nameIndex := 286, descriptorIndex := 25, attributes := #[] }, { accessFlags := 25, nameIndex := 288, descriptorIndex := 25, attributes := #[] }, { accessFlags := 25, nameIndex := 290, descriptorIndex := 25, attributes := #[] }, { accessFlags := 25, nameIndex := 292, descriptorIndex := 25, attributes := #[] }, { accessFlags := 26, nameIndex := 108, descriptorIndex := 109, attributes := #[] }, { accessFlags := 25, nameIndex := 294, descriptorIndex := 25, attributes := #[] }])
  fields := #[{ name := "U", type := (.object "jdk/internal/misc/Unsafe"), accessFlags := 24, slot := 0, constantValue := 0 }, { name := "BIG_ENDIAN", type := .boolean, accessFlags := 26, slot := 1, constantValue := 0 }, { name := "LOG2_ARRAY_BOOLEAN_INDEX_SCALE", type := .int, accessFlags := 25, slot := 2, constantValue := 0 }, { name := "LOG2_ARRAY_BYTE_INDEX_SCALE", type := .int, accessFlags := 25, slot := 3, constantValue := 0 }, { name := "LOG2_ARRAY_CHAR_INDEX_SCALE", type := .int, accessFlags := 25, slot := 4, constantValue := 0 }, { name := "LOG2_ARRAY_SHORT_INDEX_SCALE", type := .int, accessFlags := 25, slot := 5, constantValue := 0 }, { name := "LOG2_ARRAY_INT_INDEX_SCALE", type := .int, accessFlags := 25, slot := 6, constantValue := 0 }, { name := "LOG2_ARRAY_LONG_INDEX_SCALE", type := .int, accessFlags := 25, slot := 7, constantValue := 0 }, { name := "LOG2_ARRAY_FLOAT_INDEX_SCALE", type := .int, accessFlags := 25, slot := 8, constantValue := 0 }, { name := "LOG2_ARRAY_DOUBLE_INDEX_SCALE", type := .int, accessFlags := 25, slot := 9, constantValue := 0 }, { name := "LOG2_BYTE_BIT_SIZE", type := .int, accessFlags := 26, slot := 10, constantValue := 0 }, { name := "T_BOOLEAN", type := .int, accessFlags := 25, slot := 11, constantValue := 0 }, { name := "T_CHAR", type := .int, accessFlags := 25, slot := 12, constantValue := 0 }, { name := "T_FLOAT", type := .int, accessFlags := 25, slot := 13, constantValue := 0 }, { name := "T_DOUBLE", type := .int, accessFlags := 25, slot := 14, constantValue := 0 }, { name := "T_BYTE", type := .int, accessFlags := 25, slot := 15, constantValue := 0 }, { name := "T_SHORT", type := .int, accessFlags := 25, slot := 16, constantValue := 0 }, { name := "T_INT", type := .int, accessFlags := 25, slot := 17, constantValue := 0 }, { name := "T_LONG", type := .int, accessFlags := 25, slot := 18, constantValue := 0 }, { name := "JLA", type := (.object "jdk/internal/access/JavaLangAccess"), accessFlags := 26, slot := 19, constantValue := 0 }, { name := "SOFT_MAX_ARRAY_LENGTH", type := .int, accessFlags := 25, slot := 20, constantValue := 0 }]
  methods := #[k15m0, k15m1]
  instanceTypes := #[]
  staticTypes := #[(.object "jdk/internal/misc/Unsafe"), .boolean, .int, .int, .int, .int, .int, .int, .int, .int, .int, .int, .int, .int, .int, .int, .int, .int, .int, (.object "jdk/internal/access/JavaLangAccess"), .int]
  resolved := Array.replicate 378 none
  statics := none }

def pool16 : Array CpInfo := pool [(1, .class_ 2), (0, u "java/lang/Math"), (1, .class_ 6), (1, u "java/lang/Object"), (0, u "<init>"), (0, u "()V"), (89, .class_ 100), (1, u "java/lang/Math$RandomNumberGeneratorHolder"), (71, u "negativeZeroFloatBits"), (0, u "J"), (2, u "negativeZeroDoubleBits"), (21, u "max"), (2, u "min"), (43, u "$assertionsDisabled"), (0, u "Z"), (88, u "(II)I"), (2, u "twoToTheDoubleScaleDown"), (0, u "D"), (4, u "twoToTheDoubleScaleUp"), (9, u "E"), (3, u "PI"), (2, u "TAU"), (2, u "DEGREES_TO_RADIANS"), (0, u "RADIANS_TO_DEGREES")] 94

def k16m0 : Method := { name := "<init>", desc := "()V", sig := { parameters := [], returnType := none }, accessFlags := 2, code := none }
def k16c1 : Code := { maxStack := 2, maxLocals := 2, code := jdk_29_method_65_code, exceptionTable := #[], attributes := #[] }
def k16m1 : Method := { name := "max", desc := "(II)I", sig := { parameters := [.int, .int], returnType := some .int }, accessFlags := 9, code := some k16c1 }
def k16c2 : Code := { maxStack := 2, maxLocals := 2, code := jdk_29_method_69_code, exceptionTable := #[], attributes := #[] }
def k16m2 : Method := { name := "min", desc := "(II)I", sig := { parameters := [.int, .int], returnType := some .int }, accessFlags := 9, code := some k16c2 }
/-- java/lang/Math -/
def k16 : Class := { plain "java/lang/Math" (some 0) with
  accessFlags := 49
  interfaces := #[]
  cf := some (fileOf pool16 1 #[.nestMembers #[98]] #[{ accessFlags := 2, nameIndex := 7, descriptorIndex := 8, attributes := #[] }, { accessFlags := 9, nameIndex := 198, descriptorIndex := 335, attributes := #[] }, { accessFlags := 9, nameIndex := 201, descriptorIndex := 335, attributes := #[] }] 49 4 #[] #[{ accessFlags := 25, nameIndex := 354, descriptorIndex := 339, attributes := #[] }, { accessFlags := 25, nameIndex := 358, descriptorIndex := 339, attributes := #[] }, { accessFlags := 25, nameIndex := 361, descriptorIndex := 339, attributes := #[] }, { accessFlags := 26, nameIndex := 364, descriptorIndex := 339, attributes := #[] }, { accessFlags := 26, nameIndex := 365, descriptorIndex := 339, attributes := #[] }, { accessFlags := 26, nameIndex := 172, descriptorIndex := 173, attributes := #[] }, { accessFlags := 26, nameIndex := 176, descriptorIndex := 173, attributes := #[] }, { accessFlags := 8, nameIndex := 344, descriptorIndex := 339, attributes := #[] }, { accessFlags := 8, nameIndex := 338, descriptorIndex := 339, attributes := #[] }, { accessFlags := 4120, nameIndex := 245, descriptorIndex := 246, attributes := #[] }])
  fields := #[{ name := "E", type := .double, accessFlags := 25, slot := 0, constantValue := 0 }, { name := "PI", type := .double, accessFlags := 25, slot := 1, constantValue := 0 }, { name := "TAU", type := .double, accessFlags := 25, slot := 2, constantValue := 0 }, { name := "DEGREES_TO_RADIANS", type := .double, accessFlags := 26, slot := 3, constantValue := 0 }, { name := "RADIANS_TO_DEGREES", type := .double, accessFlags := 26, slot := 4, constantValue := 0 }, { name := "negativeZeroFloatBits", type := .long, accessFlags := 26, slot := 5, constantValue := 0 }, { name := "negativeZeroDoubleBits", type := .long, accessFlags := 26, slot := 6, constantValue := 0 }, { name := "twoToTheDoubleScaleUp", type := .double, accessFlags := 8, slot := 7, constantValue := 0 }, { name := "twoToTheDoubleScaleDown", type := .double, accessFlags := 8, slot := 8, constantValue := 0 }, { name := "$assertionsDisabled", type := .boolean, accessFlags := 4120, slot := 9, constantValue := 0 }]
  methods := #[k16m0, k16m1, k16m2]
  instanceTypes := #[]
  staticTypes := #[.double, .double, .double, .double, .double, .long, .long, .double, .double, .boolean]
  resolved := Array.replicate 460 none
  statics := none }

def pool17 : Array CpInfo := pool [(2, .class_ 4), (1, u "java/lang/Object"), (0, u "<init>"), (0, u "()V"), (7, .class_ 16), (1, u "java/util/Arrays"), (57, .class_ 76), (1, u "java/util/Arrays$NaturalOrder"), (32, u "()Ljava/lang/Object;"), (3, .class_ 115), (1, u "java/util/Arrays$LegacyMergeSort"), (1, u "Z"), (10, .nameAndType 129 109), (0, u "clone"), (9, u "copyOfRange"), (10, .methodref 151 152), (0, .class_ 153), (0, .nameAndType 154 155), (0, u "java/lang/System"), (0, u "arraycopy"), (0, u "(Ljava/lang/Object;ILjava/lang/Object;II)V"), (146, u "copyOf"), (1, .methodref 305 306), (0, .class_ 307), (0, .nameAndType 308 309), (0, u "java/lang/Math"), (0, u "min"), (0, u "(II)I"), (0, .methodref 311 128), (0, .class_ 312), (0, u "[B"), (26, .methodref 14 340), (0, .nameAndType 341 342), (0, u "copyOfRangeByte"), (0, u "([BII)[B"), (0, .methodref 14 344), (0, .nameAndType 345 346), (0, u "checkLength"), (0, u "(II)V"), (28, .class_ 376), (0, u "java/util/Arrays$ArrayList"), (68, u "$assertionsDisabled"), (269, u "MIN_ARRAY_SORT_GRAN"), (0, u "I"), (2, u "INSERTIONSORT_THRESHOLD"), (149, u "([BI)[B"), (105, .class_ 976), (0, u "java/util/Arrays$ArrayItr")] 52

def k17m0 : Method := { name := "<init>", desc := "()V", sig := { parameters := [], returnType := none }, accessFlags := 2, code := none }
def k17c1 : Code := { maxStack := 6, maxLocals := 3, code := jdk_65_method_121_code, exceptionTable := #[], attributes := #[] }
def k17m1 : Method := { name := "copyOf", desc := "([BI)[B", sig := { parameters := [(.array .byte), .int], returnType := some (.array .byte) }, accessFlags := 9, code := some k17c1 }
def k17c2 : Code := { maxStack := 4, maxLocals := 2, code := jdk_65_method_131_code, exceptionTable := #[], attributes := #[] }
def k17m2 : Method := { name := "checkLength", desc := "(II)V", sig := { parameters := [.int, .int], returnType := none }, accessFlags := 10, code := some k17c2 }
def k17c3 : Code := { maxStack := 3, maxLocals := 3, code := jdk_65_method_132_code, exceptionTable := #[], attributes := #[] }
def k17m3 : Method := { name := "copyOfRange", desc := "([BII)[B", sig := { parameters := [(.array .byte), .int, .int], returnType := some (.array .byte) }, accessFlags := 9, code := some k17c3 }
def k17c4 : Code := { maxStack := 6, maxLocals := 5, code := jdk_65_method_133_code, exceptionTable := #[], attributes := #[] }
def k17m4 : Method := { name := "copyOfRangeByte", desc := "([BII)[B", sig := { parameters := [(.array .byte), .int, .int], returnType := some (.array .byte) }, accessFlags := 10, code := some k17c4 }
/-- java/util/Arrays -/
def k17 : Class := { plain "java/util/Arrays" (some 0) with
  accessFlags := 49
  interfaces := #[]
  cf := some (fileOf pool17 14 #[.nestMembers #[975, 375, 113, 74]] #[{ accessFlags := 2, nameIndex := 5, descriptorIndex := 6, attributes := #[] }, { accessFlags := 9, nameIndex := 302, descriptorIndex := 869, attributes := #[] }, { accessFlags := 10, nameIndex := 345, descriptorIndex := 346, attributes := #[] }, { accessFlags := 9, nameIndex := 139, descriptorIndex := 342, attributes := #[] }, { accessFlags := 10, nameIndex := 341, descriptorIndex := 342, attributes := #[] }] 49 2 #[] #[{ accessFlags := 26, nameIndex := 715, descriptorIndex := 716, attributes := #[] }, { accessFlags := 26, nameIndex := 719, descriptorIndex := 716, attributes := #[] }, { accessFlags := 4120, nameIndex := 445, descriptorIndex := 117, attributes := #[] }])
  fields := #[{ name := "MIN_ARRAY_SORT_GRAN", type := .int, accessFlags := 26, slot := 0, constantValue := 0 }, { name := "INSERTIONSORT_THRESHOLD", type := .int, accessFlags := 26, slot := 1, constantValue := 0 }, { name := "$assertionsDisabled", type := .boolean, accessFlags := 4120, slot := 2, constantValue := 0 }]
  methods := #[k17m0, k17m1, k17m2, k17m3, k17m4]
  instanceTypes := #[]
  staticTypes := #[.int, .int, .boolean]
  resolved := Array.replicate 1029 none
  statics := none }

def pool18 : Array CpInfo := pool [(2, .class_ 4), (1, u "java/lang/Object"), (0, u "<init>"), (0, u "()V"), (1, .class_ 10), (1, u "java/lang/System"), (0, u "allowSecurityManager"), (0, u "I"), (16, u "cons"), (0, u "Ljava/io/Console;"), (77, .class_ 110), (1, u "java/lang/System$CallersHolder"), (43, u "initialErrStream"), (0, u "Ljava/io/PrintStream;"), (19, u "security"), (0, u "Ljava/lang/SecurityManager;"), (31, .class_ 209), (0, u "java/lang/System$1"), (7, u "props"), (0, u "Ljava/util/Properties;"), (2, u "lineSeparator"), (0, u "Ljava/lang/String;"), (96, .class_ 321), (1, u "java/lang/System$LoggerFinder"), (5, .class_ 328), (0, u "java/lang/System$Logger"), (67, u "err"), (2, u "out"), (91, u "notSupportedJnuEncoding"), (15, u "in"), (17, u "initialIn"), (0, u "Ljava/io/InputStream;"), (35, u "bootLayer"), (0, u "Ljava/lang/ModuleLayer;"), (99, .class_ 664), (0, u "java/lang/System$2"), (9, u "NEVER"), (2, u "MAYBE"), (49, u "arraycopy"), (0, u "(Ljava/lang/Object;ILjava/lang/Object;II)V"), (72, .class_ 802), (0, u "java/lang/System$Logger$Level")] 31

def k18m0 : Method := { name := "<init>", desc := "()V", sig := { parameters := [], returnType := none }, accessFlags := 2, code := none }
def k18m1 : Method := { name := "arraycopy", desc := "(Ljava/lang/Object;ILjava/lang/Object;II)V", sig := { parameters := [(.object "java/lang/Object"), .int, (.object "java/lang/Object"), .int, .int], returnType := none }, accessFlags := 265, code := none }
/-- java/lang/System -/
def k18 : Class := { plain "java/lang/System" (some 0) with
  accessFlags := 49
  interfaces := #[]
  cf := some (fileOf pool18 8 #[.nestMembers #[319, 327, 801, 108, 663, 208]] #[{ accessFlags := 2, nameIndex := 5, descriptorIndex := 6, attributes := #[] }, { accessFlags := 265, nameIndex := 727, descriptorIndex := 728, attributes := #[] }] 49 2 #[] #[{ accessFlags := 25, nameIndex := 507, descriptorIndex := 526, attributes := #[] }, { accessFlags := 25, nameIndex := 399, descriptorIndex := 155, attributes := #[] }, { accessFlags := 25, nameIndex := 396, descriptorIndex := 155, attributes := #[] }, { accessFlags := 10, nameIndex := 525, descriptorIndex := 526, attributes := #[] }, { accessFlags := 26, nameIndex := 674, descriptorIndex := 12, attributes := #[] }, { accessFlags := 26, nameIndex := 677, descriptorIndex := 12, attributes := #[] }, { accessFlags := 10, nameIndex := 11, descriptorIndex := 12, attributes := #[] }, { accessFlags := 74, nameIndex := 175, descriptorIndex := 176, attributes := #[] }, { accessFlags := 10, nameIndex := 491, descriptorIndex := 222, attributes := #[] }, { accessFlags := 74, nameIndex := 29, descriptorIndex := 30, attributes := #[] }, { accessFlags := 74, nameIndex := 154, descriptorIndex := 155, attributes := #[] }, { accessFlags := 10, nameIndex := 217, descriptorIndex := 218, attributes := #[] }, { accessFlags := 10, nameIndex := 221, descriptorIndex := 222, attributes := #[] }, { accessFlags := 8, nameIndex := 562, descriptorIndex := 563, attributes := #[] }])
  fields := #[{ name := "in", type := (.object "java/io/InputStream"), accessFlags := 25, slot := 0, constantValue := 0 }, { name := "out", type := (.object "java/io/PrintStream"), accessFlags := 25, slot := 1, constantValue := 0 }, { name := "err", type := (.object "java/io/PrintStream"), accessFlags := 25, slot := 2, constantValue := 0 }, { name := "initialIn", type := (.object "java/io/InputStream"), accessFlags := 10, slot := 3, constantValue := 0 }, { name := "NEVER", type := .int, accessFlags := 26, slot := 4, constantValue := 0 }, { name := "MAYBE", type := .int, accessFlags := 26, slot := 5, constantValue := 0 }, { name := "allowSecurityManager", type := .int, accessFlags := 10, slot := 6, constantValue := 0 }, { name := "security", type := (.object "java/lang/SecurityManager"), accessFlags := 74, slot := 7, constantValue := 0 }, { name := "notSupportedJnuEncoding", type := (.object "java/lang/String"), accessFlags := 10, slot := 8, constantValue := 0 }, { name := "cons", type := (.object "java/io/Console"), accessFlags := 74, slot := 9, constantValue := 0 }, { name := "initialErrStream", type := (.object "java/io/PrintStream"), accessFlags := 74, slot := 10, constantValue := 0 }, { name := "props", type := (.object "java/util/Properties"), accessFlags := 10, slot := 11, constantValue := 0 }, { name := "lineSeparator", type := (.object "java/lang/String"), accessFlags := 10, slot := 12, constantValue := 0 }, { name := "bootLayer", type := (.object "java/lang/ModuleLayer"), accessFlags := 8, slot := 13, constantValue := 0 }]
  methods := #[k18m0, k18m1]
  instanceTypes := #[]
  staticTypes := #[(.object "java/io/InputStream"), (.object "java/io/PrintStream"), (.object "java/io/PrintStream"), (.object "java/io/InputStream"), .int, .int, .int, (.object "java/lang/SecurityManager"), (.object "java/lang/String"), (.object "java/io/Console"), (.object "java/io/PrintStream"), (.object "java/util/Properties"), (.object "java/lang/String"), (.object "java/lang/ModuleLayer")]
  resolved := Array.replicate 834 none
  statics := none }

def pool19 : Array CpInfo := pool [(1, .class_ 2), (0, u "java/lang/Cloneable"), (0, .class_ 4), (0, u "java/lang/Object")] 2

/-- java/lang/Cloneable -/
def k19 : Class := { plain "java/lang/Cloneable" (some 0) with
  accessFlags := 1537
  interfaces := #[]
  cf := some (fileOf pool19 1 #[] #[] 1537 3 #[] #[])
  fields := #[]
  methods := #[]
  instanceTypes := #[]
  staticTypes := #[]
  resolved := Array.replicate 7 none
  statics := none }

/-- the primitive byte -/
def k20 : Class := { plain "byte" none with kind := .primitive 'B', accessFlags := 0x411 }
/-- [B -/
def k21 : Class := { plain "[B" (some 0) with kind := .array 20 .byte, interfaces := #[19, 2], accessFlags := 1041 }

/-- the primitive char -/
def k22 : Class := { plain "char" none with kind := .primitive 'C', accessFlags := 0x411 }
/-- [C -/
def k23 : Class := { plain "[C" (some 0) with kind := .array 22 .char, interfaces := #[19, 2], accessFlags := 1041 }

/-- the primitive int -/
def k24 : Class := { plain "int" none with kind := .primitive 'I', accessFlags := 0x411 }
/-- [I -/
def k25 : Class := { plain "[I" (some 0) with kind := .array 24 .int, interfaces := #[19, 2], accessFlags := 1041 }

def heap : Heap := #[{ cls := 7, slots := #[.long 0, .int 1, .null, .int 0, .null, .int 0, .int 0], vm := .statics 7 },
  { cls := 8, slots := #[.int 0, .int 8, .int 0, .int 1], vm := .statics 8 },
  { cls := 14, slots := #[.null, .null, .null], vm := .statics 14 }]
def classes : Array Class := #[k0, k1, k2, k3, k4, k5, k6, k7, k8, k9, k10, k11, k12, k13, k14, k15, k16, k17, k18, k19, k20, k21, k22, k23, k24, k25]
def interned : List (Array UInt16 × Addr) := []
def slotsUsed : Nat := 14
def theMethod : MethodId := ⟨1, 1⟩
def args0 : Array Value := #[.int 5, .int 6, .int 7, .int 8]
def aboutOver (below : List Frame) : State where
  vm := { classes := classes, interned := interned.toArray }
  heap := heap
  slotsUsed := slotsUsed
  threads := #[{ frames := .invoking theMethod args0 :: below }]
def below0 : List Frame := [.native { method := ⟨0, 0⟩, args := #[] }]
def about1 : State := aboutOver below0
def p0 : Program := .bare "" "" ""
def e0 : Env := launch0.env 0 0 0
theorem w_frames : about1.frames = Frame.invoking theMethod args0 :: below0 := rfl
set_option maxRecDepth 65536 in
theorem w_args : argsFit about1.vm theMethod args0 = true := by decide +kernel
set_option maxRecDepth 65536 in
theorem w_heap : heapFits about1 = true := by decide +kernel
set_option maxRecDepth 65536 in
theorem w_runnable : about1.curStatus? = some .runnable := by decide +kernel
set_option maxRecDepth 65536 in
theorem w_alone : about1.alone = true := by decide +kernel
set_option maxRecDepth 65536 in
theorem w_named : about1.methodNamed? x = some theMethod := by decide +kernel
set_option maxRecDepth 65536 in
theorem w_hears : about1.hears theMethod below0 = true := by decide +kernel
set_option maxRecDepth 65536 in
theorem w_ripe : about1.ripe theMethod args0 below0 = true := by decide +kernel
theorem w_running : about1.status = .running := rfl
set_option maxRecDepth 65536 in
theorem w_room : about1.hasRoom e0.platform room_1 = true :=
  launch0.hasRoom_least _ room_1 (by decide +kernel) (by decide +kernel) (by decide +kernel) (by decide +kernel) (by decide +kernel) (by decide +kernel)
theorem allAtoms_all (ts : List Jvm.Cond) (a : Array Jvm.Value) (st : Jvm.State) : (allAtoms ts).before a st = ts.all (fun c => c.before a st) := by
  induction ts with
  | nil => rfl
  | cons c t ih =>
    show (Jvm.Cond.and c (allAtoms t)).before a st = _
    rw [Jvm.Cond.before_and, ih, List.all_cons]
def words1 : List Jvm.Cond := Jvm.Cond.code x code maxLocals ret :: tables_1
/-- a 'code' word, met by the world's own term for the bytes: nothing is compared byte by byte -/
theorem code_word {y : MethodName} {bytes : ByteArray} {mx : Nat} {rt : Option FieldType} {a : Array Value} {s : State} {m : MethodId} {meth : Method} {c : Code} (h1 : s.methodNamed? y = some m) (h2 : s.vm.method? m = some meth) (h3 : meth.code = some c) (h4 : c.code = bytes)
    (h5 : (c.maxLocals == mx && c.exceptionTable.isEmpty && decide (c.maxStack ≤ mostOperands) && decide (meth.sig.returnType = rt) && !meth.locks && decide (parseMethodDescriptor y.desc = some meth.sig)) = true) : (Jvm.Cond.code y bytes mx rt).before a s = true := by
  simp only [Bool.and_eq_true, beq_iff_eq, Bool.not_eq_true', decide_eq_true_eq] at h5
  obtain ⟨⟨⟨⟨⟨g1, g2⟩, g3⟩, g4⟩, g5⟩, g6⟩ := h5
  simp [Cond.before, Cond.holds, Cond.value, h1, h2, h3, h4, g1, g2, g3, g4, g5, g6]
def isCode : Jvm.Cond → Bool
  | .code _ _ _ _ => true
  | _ => false
theorem all_split {L : List Jvm.Cond} {P : Jvm.Cond → Bool} (h1 : L.all (fun c => isCode c || P c) = true) (h2 : ∀ c ∈ L.filter isCode, P c = true) : L.all P = true := by
  refine List.all_eq_true.mpr fun c hc => ?_
  have h := List.all_eq_true.mp h1 c hc
  rcases Bool.eq_false_or_eq_true (isCode c) with hi | hi
  · exact h2 c (List.mem_filter.mpr ⟨hc, hi⟩)
  · simpa [hi] using h
set_option maxRecDepth 65536 in
theorem w_c0 : (Jvm.Cond.code x code maxLocals ret).before args0 about1 = true := code_word (m := ⟨1, 1⟩) (meth := k1m1) (c := k1c1) (by decide +kernel) rfl rfl rfl (by decide +kernel)
set_option maxRecDepth 65536 in
theorem w_c1 : (Jvm.Cond.code ({ cls := "com/example/guide/guide/web/PagesEscapePinLaw", name := "pick", desc := "(I)C" } : Jvm.MethodName) method_3_code (2 : Nat) (Option.some Jvm.ClassFile.FieldType.char)).before args0 about1 = true := code_word (m := ⟨1, 2⟩) (meth := k1m2) (c := k1c2) (by decide +kernel) rfl rfl rfl (by decide +kernel)
set_option maxRecDepth 65536 in
theorem w_c2 : (Jvm.Cond.code ({ cls := "java/lang/String", name := "<init>", desc := "([C)V" } : Jvm.MethodName) jdk_42_method_3_code (2 : Nat) (Option.none : Option Jvm.ClassFile.FieldType)).before args0 about1 = true := code_word (m := ⟨7, 1⟩) (meth := k7m1) (c := k7c1) (by decide +kernel) rfl rfl rfl (by decide +kernel)
set_option maxRecDepth 65536 in
theorem w_c3 : (Jvm.Cond.code ({ cls := "java/lang/String", name := "<init>", desc := "([CIILjava/lang/Void;)V" } : Jvm.MethodName) jdk_42_method_149_code (6 : Nat) (Option.none : Option Jvm.ClassFile.FieldType)).before args0 about1 = true := code_word (m := ⟨7, 7⟩) (meth := k7m7) (c := k7c7) (by decide +kernel) rfl rfl rfl (by decide +kernel)
set_option maxRecDepth 65536 in
theorem w_c4 : (Jvm.Cond.code ({ cls := "java/lang/Object", name := "<init>", desc := "()V" } : Jvm.MethodName) object_method_1_code (1 : Nat) (Option.none : Option Jvm.ClassFile.FieldType)).before args0 about1 = true := code_word (m := ⟨0, 0⟩) (meth := k0m0) (c := k0c0) (by decide +kernel) rfl rfl rfl (by decide +kernel)
set_option maxRecDepth 65536 in
theorem w_c5 : (Jvm.Cond.code ({ cls := "java/lang/StringUTF16", name := "compress", desc := "([CII)[B" } : Jvm.MethodName) jdk_52_method_16_code (6 : Nat) (Option.some (Jvm.ClassFile.FieldType.array Jvm.ClassFile.FieldType.byte))).before args0 about1 = true := code_word (m := ⟨8, 8⟩) (meth := k8m8) (c := k8c8) (by decide +kernel) rfl rfl rfl (by decide +kernel)
set_option maxRecDepth 65536 in
theorem w_c6 : (Jvm.Cond.code ({ cls := "java/lang/StringUTF16", name := "compress", desc := "([CI[BII)I" } : Jvm.MethodName) jdk_52_method_21_code (7 : Nat) (Option.some Jvm.ClassFile.FieldType.int)).before args0 about1 = true := code_word (m := ⟨8, 9⟩) (meth := k8m9) (c := k8c9) (by decide +kernel) rfl rfl rfl (by decide +kernel)
set_option maxRecDepth 65536 in
theorem w_c7 : (Jvm.Cond.code ({ cls := "java/lang/StringUTF16", name := "coderFromArrayLen", desc := "([BI)B" } : Jvm.MethodName) jdk_52_method_15_code (2 : Nat) (Option.some Jvm.ClassFile.FieldType.byte)).before args0 about1 = true := code_word (m := ⟨8, 7⟩) (meth := k8m7) (c := k8c7) (by decide +kernel) rfl rfl rfl (by decide +kernel)
set_option maxRecDepth 65536 in
theorem w_c8 : (Jvm.Cond.code ({ cls := "com/example/guide/guide/web/Pages", name := "escape", desc := "(Ljava/lang/String;)Ljava/lang/String;" } : Jvm.MethodName) prog_61_method_5_code (4 : Nat) (Option.some (Jvm.ClassFile.FieldType.object "java/lang/String"))).before args0 about1 = true := code_word (m := ⟨9, 1⟩) (meth := k9m1) (c := k9c1) (by decide +kernel) rfl rfl rfl (by decide +kernel)
set_option maxRecDepth 65536 in
theorem w_c9 : (Jvm.Cond.code ({ cls := "java/lang/String", name := "length", desc := "()I" } : Jvm.MethodName) jdk_42_method_54_code (1 : Nat) (Option.some Jvm.ClassFile.FieldType.int)).before args0 about1 = true := code_word (m := ⟨7, 3⟩) (meth := k7m3) (c := k7c3) (by decide +kernel) rfl rfl rfl (by decide +kernel)
set_option maxRecDepth 65536 in
theorem w_c10 : (Jvm.Cond.code ({ cls := "java/lang/String", name := "coder", desc := "()B" } : Jvm.MethodName) jdk_42_method_152_code (1 : Nat) (Option.some Jvm.ClassFile.FieldType.byte)).before args0 about1 = true := code_word (m := ⟨7, 10⟩) (meth := k7m10) (c := k7c10) (by decide +kernel) rfl rfl rfl (by decide +kernel)
set_option maxRecDepth 65536 in
theorem w_c11 : (Jvm.Cond.code ({ cls := "java/lang/StringBuilder", name := "<init>", desc := "(I)V" } : Jvm.MethodName) jdk_67_method_2_code (2 : Nat) (Option.none : Option Jvm.ClassFile.FieldType)).before args0 about1 = true := code_word (m := ⟨12, 1⟩) (meth := k12m1) (c := k12c1) (by decide +kernel) rfl rfl rfl (by decide +kernel)
set_option maxRecDepth 65536 in
theorem w_c12 : (Jvm.Cond.code ({ cls := "java/lang/AbstractStringBuilder", name := "<init>", desc := "(I)V" } : Jvm.MethodName) jdk_68_method_2_code (2 : Nat) (Option.none : Option Jvm.ClassFile.FieldType)).before args0 about1 = true := code_word (m := ⟨11, 1⟩) (meth := k11m1) (c := k11c1) (by decide +kernel) rfl rfl rfl (by decide +kernel)
set_option maxRecDepth 65536 in
theorem w_c13 : (Jvm.Cond.code ({ cls := "java/lang/String", name := "charAt", desc := "(I)C" } : Jvm.MethodName) jdk_42_method_56_code (2 : Nat) (Option.some Jvm.ClassFile.FieldType.char)).before args0 about1 = true := code_word (m := ⟨7, 4⟩) (meth := k7m4) (c := k7c4) (by decide +kernel) rfl rfl rfl (by decide +kernel)
set_option maxRecDepth 65536 in
theorem w_c14 : (Jvm.Cond.code ({ cls := "java/lang/String", name := "isLatin1", desc := "()Z" } : Jvm.MethodName) jdk_42_method_154_code (1 : Nat) (Option.some Jvm.ClassFile.FieldType.boolean)).before args0 about1 = true := code_word (m := ⟨7, 11⟩) (meth := k7m11) (c := k7c11) (by decide +kernel) rfl rfl rfl (by decide +kernel)
set_option maxRecDepth 65536 in
theorem w_c15 : (Jvm.Cond.code ({ cls := "java/lang/StringLatin1", name := "charAt", desc := "([BI)C" } : Jvm.MethodName) jdk_43_method_2_code (2 : Nat) (Option.some Jvm.ClassFile.FieldType.char)).before args0 about1 = true := code_word (m := ⟨13, 1⟩) (meth := k13m1) (c := k13c1) (by decide +kernel) rfl rfl rfl (by decide +kernel)
set_option maxRecDepth 65536 in
theorem w_c16 : (Jvm.Cond.code ({ cls := "java/lang/String", name := "checkIndex", desc := "(II)V" } : Jvm.MethodName) jdk_42_method_155_code (2 : Nat) (Option.none : Option Jvm.ClassFile.FieldType)).before args0 about1 = true := code_word (m := ⟨7, 12⟩) (meth := k7m12) (c := k7c12) (by decide +kernel) rfl rfl rfl (by decide +kernel)
set_option maxRecDepth 65536 in
theorem w_c17 : (Jvm.Cond.code ({ cls := "jdk/internal/util/Preconditions", name := "checkIndex", desc := "(IILjava/util/function/BiFunction;)I" } : Jvm.MethodName) jdk_41_method_11_code (3 : Nat) (Option.some Jvm.ClassFile.FieldType.int)).before args0 about1 = true := code_word (m := ⟨14, 1⟩) (meth := k14m1) (c := k14c1) (by decide +kernel) rfl rfl rfl (by decide +kernel)
set_option maxRecDepth 65536 in
theorem w_c18 : (Jvm.Cond.code ({ cls := "java/lang/StringBuilder", name := "append", desc := "(Ljava/lang/String;)Ljava/lang/StringBuilder;" } : Jvm.MethodName) jdk_67_method_7_code (2 : Nat) (Option.some (Jvm.ClassFile.FieldType.object "java/lang/StringBuilder"))).before args0 about1 = true := code_word (m := ⟨12, 2⟩) (meth := k12m2) (c := k12c2) (by decide +kernel) rfl rfl rfl (by decide +kernel)
set_option maxRecDepth 65536 in
theorem w_c19 : (Jvm.Cond.code ({ cls := "java/lang/AbstractStringBuilder", name := "append", desc := "(Ljava/lang/String;)Ljava/lang/AbstractStringBuilder;" } : Jvm.MethodName) jdk_68_method_22_code (3 : Nat) (Option.some (Jvm.ClassFile.FieldType.object "java/lang/AbstractStringBuilder"))).before args0 about1 = true := code_word (m := ⟨11, 6⟩) (meth := k11m6) (c := k11c6) (by decide +kernel) rfl rfl rfl (by decide +kernel)
set_option maxRecDepth 65536 in
theorem w_c20 : (Jvm.Cond.code ({ cls := "java/lang/AbstractStringBuilder", name := "ensureCapacityInternal", desc := "(I)V" } : Jvm.MethodName) jdk_68_method_9_code (3 : Nat) (Option.none : Option Jvm.ClassFile.FieldType)).before args0 about1 = true := code_word (m := ⟨11, 3⟩) (meth := k11m3) (c := k11c3) (by decide +kernel) rfl rfl rfl (by decide +kernel)
set_option maxRecDepth 65536 in
theorem w_c21 : (Jvm.Cond.code ({ cls := "java/lang/AbstractStringBuilder", name := "newCapacity", desc := "(I)I" } : Jvm.MethodName) jdk_68_method_10_code (6 : Nat) (Option.some Jvm.ClassFile.FieldType.int)).before args0 about1 = true := code_word (m := ⟨11, 4⟩) (meth := k11m4) (c := k11c4) (by decide +kernel) rfl rfl rfl (by decide +kernel)
set_option maxRecDepth 65536 in
theorem w_c22 : (Jvm.Cond.code ({ cls := "jdk/internal/util/ArraysSupport", name := "newLength", desc := "(III)I" } : Jvm.MethodName) jdk_48_method_27_code (4 : Nat) (Option.some Jvm.ClassFile.FieldType.int)).before args0 about1 = true := code_word (m := ⟨15, 1⟩) (meth := k15m1) (c := k15c1) (by decide +kernel) rfl rfl rfl (by decide +kernel)
set_option maxRecDepth 65536 in
theorem w_c23 : (Jvm.Cond.code ({ cls := "java/lang/Math", name := "max", desc := "(II)I" } : Jvm.MethodName) jdk_29_method_65_code (2 : Nat) (Option.some Jvm.ClassFile.FieldType.int)).before args0 about1 = true := code_word (m := ⟨16, 1⟩) (meth := k16m1) (c := k16c1) (by decide +kernel) rfl rfl rfl (by decide +kernel)
set_option maxRecDepth 65536 in
theorem w_c24 : (Jvm.Cond.code ({ cls := "java/util/Arrays", name := "copyOf", desc := "([BI)[B" } : Jvm.MethodName) jdk_65_method_121_code (3 : Nat) (Option.some (Jvm.ClassFile.FieldType.array Jvm.ClassFile.FieldType.byte))).before args0 about1 = true := code_word (m := ⟨17, 1⟩) (meth := k17m1) (c := k17c1) (by decide +kernel) rfl rfl rfl (by decide +kernel)
set_option maxRecDepth 65536 in
theorem w_c25 : (Jvm.Cond.code ({ cls := "java/lang/Math", name := "min", desc := "(II)I" } : Jvm.MethodName) jdk_29_method_69_code (2 : Nat) (Option.some Jvm.ClassFile.FieldType.int)).before args0 about1 = true := code_word (m := ⟨16, 2⟩) (meth := k16m2) (c := k16c2) (by decide +kernel) rfl rfl rfl (by decide +kernel)
set_option maxRecDepth 65536 in
theorem w_c26 : (Jvm.Cond.code ({ cls := "java/lang/AbstractStringBuilder", name := "putStringAt", desc := "(ILjava/lang/String;)V" } : Jvm.MethodName) jdk_68_method_73_code (3 : Nat) (Option.none : Option Jvm.ClassFile.FieldType)).before args0 about1 = true := code_word (m := ⟨11, 11⟩) (meth := k11m11) (c := k11c11) (by decide +kernel) rfl rfl rfl (by decide +kernel)
set_option maxRecDepth 65536 in
theorem w_c27 : (Jvm.Cond.code ({ cls := "java/lang/AbstractStringBuilder", name := "inflateIfNeededFor", desc := "(Ljava/lang/String;)V" } : Jvm.MethodName) jdk_68_method_71_code (2 : Nat) (Option.none : Option Jvm.ClassFile.FieldType)).before args0 about1 = true := code_word (m := ⟨11, 10⟩) (meth := k11m10) (c := k11c10) (by decide +kernel) rfl rfl rfl (by decide +kernel)
set_option maxRecDepth 65536 in
theorem w_c28 : (Jvm.Cond.code ({ cls := "java/lang/String", name := "getBytes", desc := "([BIB)V" } : Jvm.MethodName) jdk_42_method_147_code (4 : Nat) (Option.none : Option Jvm.ClassFile.FieldType)).before args0 about1 = true := code_word (m := ⟨7, 6⟩) (meth := k7m6) (c := k7c6) (by decide +kernel) rfl rfl rfl (by decide +kernel)
set_option maxRecDepth 65536 in
theorem w_c29 : (Jvm.Cond.code ({ cls := "java/lang/StringBuilder", name := "toString", desc := "()Ljava/lang/String;" } : Jvm.MethodName) jdk_67_method_42_code (1 : Nat) (Option.some (Jvm.ClassFile.FieldType.object "java/lang/String"))).before args0 about1 = true := code_word (m := ⟨12, 4⟩) (meth := k12m4) (c := k12c4) (by decide +kernel) rfl rfl rfl (by decide +kernel)
set_option maxRecDepth 65536 in
theorem w_c30 : (Jvm.Cond.code ({ cls := "java/lang/String", name := "<init>", desc := "(Ljava/lang/StringBuilder;)V" } : Jvm.MethodName) jdk_42_method_53_code (2 : Nat) (Option.none : Option Jvm.ClassFile.FieldType)).before args0 about1 = true := code_word (m := ⟨7, 2⟩) (meth := k7m2) (c := k7c2) (by decide +kernel) rfl rfl rfl (by decide +kernel)
set_option maxRecDepth 65536 in
theorem w_c31 : (Jvm.Cond.code ({ cls := "java/lang/String", name := "<init>", desc := "(Ljava/lang/AbstractStringBuilder;Ljava/lang/Void;)V" } : Jvm.MethodName) jdk_42_method_150_code (5 : Nat) (Option.none : Option Jvm.ClassFile.FieldType)).before args0 about1 = true := code_word (m := ⟨7, 8⟩) (meth := k7m8) (c := k7c8) (by decide +kernel) rfl rfl rfl (by decide +kernel)
set_option maxRecDepth 65536 in
theorem w_c32 : (Jvm.Cond.code ({ cls := "java/lang/AbstractStringBuilder", name := "getValue", desc := "()[B" } : Jvm.MethodName) jdk_68_method_64_code (1 : Nat) (Option.some (Jvm.ClassFile.FieldType.array Jvm.ClassFile.FieldType.byte))).before args0 about1 = true := code_word (m := ⟨11, 8⟩) (meth := k11m8) (c := k11c8) (by decide +kernel) rfl rfl rfl (by decide +kernel)
set_option maxRecDepth 65536 in
theorem w_c33 : (Jvm.Cond.code ({ cls := "java/lang/StringBuilder", name := "length", desc := "()I" } : Jvm.MethodName) jdk_67_method_93_code (1 : Nat) (Option.some Jvm.ClassFile.FieldType.int)).before args0 about1 = true := code_word (m := ⟨12, 5⟩) (meth := k12m5) (c := k12c5) (by decide +kernel) rfl rfl rfl (by decide +kernel)
set_option maxRecDepth 65536 in
theorem w_c34 : (Jvm.Cond.code ({ cls := "java/lang/AbstractStringBuilder", name := "length", desc := "()I" } : Jvm.MethodName) jdk_68_method_6_code (1 : Nat) (Option.some Jvm.ClassFile.FieldType.int)).before args0 about1 = true := code_word (m := ⟨11, 2⟩) (meth := k11m2) (c := k11c2) (by decide +kernel) rfl rfl rfl (by decide +kernel)
set_option maxRecDepth 65536 in
theorem w_c35 : (Jvm.Cond.code ({ cls := "java/lang/AbstractStringBuilder", name := "isLatin1", desc := "()Z" } : Jvm.MethodName) jdk_68_method_68_code (1 : Nat) (Option.some Jvm.ClassFile.FieldType.boolean)).before args0 about1 = true := code_word (m := ⟨11, 9⟩) (meth := k11m9) (c := k11c9) (by decide +kernel) rfl rfl rfl (by decide +kernel)
set_option maxRecDepth 65536 in
theorem w_c36 : (Jvm.Cond.code ({ cls := "java/util/Arrays", name := "copyOfRange", desc := "([BII)[B" } : Jvm.MethodName) jdk_65_method_132_code (3 : Nat) (Option.some (Jvm.ClassFile.FieldType.array Jvm.ClassFile.FieldType.byte))).before args0 about1 = true := code_word (m := ⟨17, 3⟩) (meth := k17m3) (c := k17c3) (by decide +kernel) rfl rfl rfl (by decide +kernel)
set_option maxRecDepth 65536 in
theorem w_c37 : (Jvm.Cond.code ({ cls := "com/example/guide/guide/web/PagesEscapePinLaw", name := "ref", desc := "(C)Ljava/lang/String;" } : Jvm.MethodName) method_4_code (1 : Nat) (Option.some (Jvm.ClassFile.FieldType.object "java/lang/String"))).before args0 about1 = true := code_word (m := ⟨1, 3⟩) (meth := k1m3) (c := k1c3) (by decide +kernel) rfl rfl rfl (by decide +kernel)
set_option maxRecDepth 65536 in
theorem w_c38 : (Jvm.Cond.code ({ cls := "com/example/guide/guide/web/PagesEscapePinLaw", name := "seg", desc := "(Ljava/lang/String;ILjava/lang/String;)Z" } : Jvm.MethodName) method_5_code (4 : Nat) (Option.some Jvm.ClassFile.FieldType.boolean)).before args0 about1 = true := code_word (m := ⟨1, 4⟩) (meth := k1m4) (c := k1c4) (by decide +kernel) rfl rfl rfl (by decide +kernel)
set_option maxRecDepth 65536 in
theorem w_c39 : (Jvm.Cond.code ({ cls := "com/example/guide/guide/web/PagesEscapePinLaw", name := "at", desc := "(Ljava/lang/String;ILjava/lang/String;II)Z" } : Jvm.MethodName) method_6_code (5 : Nat) (Option.some Jvm.ClassFile.FieldType.boolean)).before args0 about1 = true := code_word (m := ⟨1, 5⟩) (meth := k1m5) (c := k1c5) (by decide +kernel) rfl rfl rfl (by decide +kernel)
set_option maxRecDepth 65536 in
theorem w_c40 : (Jvm.Cond.code ({ cls := "java/util/Arrays", name := "copyOfRangeByte", desc := "([BII)[B" } : Jvm.MethodName) jdk_65_method_133_code (5 : Nat) (Option.some (Jvm.ClassFile.FieldType.array Jvm.ClassFile.FieldType.byte))).before args0 about1 = true := code_word (m := ⟨17, 4⟩) (meth := k17m4) (c := k17c4) (by decide +kernel) rfl rfl rfl (by decide +kernel)
set_option maxRecDepth 65536 in
theorem w_c41 : (Jvm.Cond.code ({ cls := "java/util/Arrays", name := "checkLength", desc := "(II)V" } : Jvm.MethodName) jdk_65_method_131_code (2 : Nat) (Option.none : Option Jvm.ClassFile.FieldType)).before args0 about1 = true := code_word (m := ⟨17, 2⟩) (meth := k17m2) (c := k17c2) (by decide +kernel) rfl rfl rfl (by decide +kernel)
set_option maxRecDepth 65536 in
theorem w_c42 : (Jvm.Cond.code ({ cls := "java/lang/StringBuilder", name := "append", desc := "(C)Ljava/lang/StringBuilder;" } : Jvm.MethodName) jdk_67_method_14_code (2 : Nat) (Option.some (Jvm.ClassFile.FieldType.object "java/lang/StringBuilder"))).before args0 about1 = true := code_word (m := ⟨12, 3⟩) (meth := k12m3) (c := k12c3) (by decide +kernel) rfl rfl rfl (by decide +kernel)
set_option maxRecDepth 65536 in
theorem w_c43 : (Jvm.Cond.code ({ cls := "java/lang/AbstractStringBuilder", name := "append", desc := "(C)Ljava/lang/AbstractStringBuilder;" } : Jvm.MethodName) jdk_68_method_31_code (2 : Nat) (Option.some (Jvm.ClassFile.FieldType.object "java/lang/AbstractStringBuilder"))).before args0 about1 = true := code_word (m := ⟨11, 7⟩) (meth := k11m7) (c := k11c7) (by decide +kernel) rfl rfl rfl (by decide +kernel)
set_option maxRecDepth 65536 in
theorem w_c44 : (Jvm.Cond.code ({ cls := "java/lang/StringLatin1", name := "canEncode", desc := "(C)Z" } : Jvm.MethodName) jdk_43_method_3_code (1 : Nat) (Option.some Jvm.ClassFile.FieldType.boolean)).before args0 about1 = true := code_word (m := ⟨13, 2⟩) (meth := k13m2) (c := k13c2) (by decide +kernel) rfl rfl rfl (by decide +kernel)
set_option maxRecDepth 65536 in
theorem w_c45 : (Jvm.Cond.code ({ cls := "java/lang/String", name := "valueOf", desc := "(C)Ljava/lang/String;" } : Jvm.MethodName) jdk_42_method_139_code (1 : Nat) (Option.some (Jvm.ClassFile.FieldType.object "java/lang/String"))).before args0 about1 = true := code_word (m := ⟨7, 5⟩) (meth := k7m5) (c := k7c5) (by decide +kernel) rfl rfl rfl (by decide +kernel)
set_option maxRecDepth 65536 in
theorem w_c46 : (Jvm.Cond.code ({ cls := "java/lang/StringLatin1", name := "toBytes", desc := "(C)[B" } : Jvm.MethodName) jdk_43_method_46_code (1 : Nat) (Option.some (Jvm.ClassFile.FieldType.array Jvm.ClassFile.FieldType.byte))).before args0 about1 = true := code_word (m := ⟨13, 3⟩) (meth := k13m3) (c := k13c3) (by decide +kernel) rfl rfl rfl (by decide +kernel)
set_option maxRecDepth 65536 in
theorem w_c47 : (Jvm.Cond.code ({ cls := "java/lang/String", name := "<init>", desc := "([BB)V" } : Jvm.MethodName) jdk_42_method_151_code (3 : Nat) (Option.none : Option Jvm.ClassFile.FieldType)).before args0 about1 = true := code_word (m := ⟨7, 9⟩) (meth := k7m9) (c := k7c9) (by decide +kernel) rfl rfl rfl (by decide +kernel)
set_option maxRecDepth 65536 in
theorem w_c48 : (Jvm.Cond.code ({ cls := "java/lang/StringUTF16", name := "toBytes", desc := "([CII)[B" } : Jvm.MethodName) jdk_52_method_14_code (5 : Nat) (Option.some (Jvm.ClassFile.FieldType.array Jvm.ClassFile.FieldType.byte))).before args0 about1 = true := code_word (m := ⟨8, 6⟩) (meth := k8m6) (c := k8c6) (by decide +kernel) rfl rfl rfl (by decide +kernel)
set_option maxRecDepth 65536 in
theorem w_c49 : (Jvm.Cond.code ({ cls := "java/lang/StringUTF16", name := "newBytesFor", desc := "(I)[B" } : Jvm.MethodName) jdk_52_method_2_code (1 : Nat) (Option.some (Jvm.ClassFile.FieldType.array Jvm.ClassFile.FieldType.byte))).before args0 about1 = true := code_word (m := ⟨8, 1⟩) (meth := k8m1) (c := k8c1) (by decide +kernel) rfl rfl rfl (by decide +kernel)
set_option maxRecDepth 65536 in
theorem w_c50 : (Jvm.Cond.code ({ cls := "java/lang/StringUTF16", name := "newBytesLength", desc := "(I)I" } : Jvm.MethodName) jdk_52_method_3_code (1 : Nat) (Option.some Jvm.ClassFile.FieldType.int)).before args0 about1 = true := code_word (m := ⟨8, 2⟩) (meth := k8m2) (c := k8c2) (by decide +kernel) rfl rfl rfl (by decide +kernel)
set_option maxRecDepth 65536 in
theorem w_c51 : (Jvm.Cond.code ({ cls := "java/lang/StringUTF16", name := "putChar", desc := "([BII)V" } : Jvm.MethodName) jdk_52_method_4_code (3 : Nat) (Option.none : Option Jvm.ClassFile.FieldType)).before args0 about1 = true := code_word (m := ⟨8, 3⟩) (meth := k8m3) (c := k8c3) (by decide +kernel) rfl rfl rfl (by decide +kernel)
set_option maxRecDepth 65536 in
theorem w_c52 : (Jvm.Cond.code ({ cls := "java/lang/StringUTF16", name := "getChar", desc := "([BI)C" } : Jvm.MethodName) jdk_52_method_5_code (2 : Nat) (Option.some Jvm.ClassFile.FieldType.char)).before args0 about1 = true := code_word (m := ⟨8, 4⟩) (meth := k8m4) (c := k8c4) (by decide +kernel) rfl rfl rfl (by decide +kernel)
set_option maxRecDepth 65536 in
theorem w_c53 : (Jvm.Cond.code ({ cls := "java/lang/StringUTF16", name := "charAt", desc := "([BI)C" } : Jvm.MethodName) jdk_52_method_83_code (2 : Nat) (Option.some Jvm.ClassFile.FieldType.char)).before args0 about1 = true := code_word (m := ⟨8, 12⟩) (meth := k8m12) (c := k8c12) (by decide +kernel) rfl rfl rfl (by decide +kernel)
set_option maxRecDepth 65536 in
theorem w_c54 : (Jvm.Cond.code ({ cls := "java/lang/StringUTF16", name := "checkIndex", desc := "(I[B)V" } : Jvm.MethodName) jdk_52_method_91_code (2 : Nat) (Option.none : Option Jvm.ClassFile.FieldType)).before args0 about1 = true := code_word (m := ⟨8, 14⟩) (meth := k8m14) (c := k8c14) (by decide +kernel) rfl rfl rfl (by decide +kernel)
set_option maxRecDepth 65536 in
theorem w_c55 : (Jvm.Cond.code ({ cls := "java/lang/StringUTF16", name := "length", desc := "([B)I" } : Jvm.MethodName) jdk_52_method_6_code (1 : Nat) (Option.some Jvm.ClassFile.FieldType.int)).before args0 about1 = true := code_word (m := ⟨8, 5⟩) (meth := k8m5) (c := k8c5) (by decide +kernel) rfl rfl rfl (by decide +kernel)
set_option maxRecDepth 65536 in
theorem w_c56 : (Jvm.Cond.code ({ cls := "java/lang/AbstractStringBuilder", name := "inflate", desc := "()V" } : Jvm.MethodName) jdk_68_method_11_code (2 : Nat) (Option.none : Option Jvm.ClassFile.FieldType)).before args0 about1 = true := code_word (m := ⟨11, 5⟩) (meth := k11m5) (c := k11c5) (by decide +kernel) rfl rfl rfl (by decide +kernel)
set_option maxRecDepth 65536 in
theorem w_c57 : (Jvm.Cond.code ({ cls := "java/lang/StringLatin1", name := "inflate", desc := "([BI[BII)V" } : Jvm.MethodName) jdk_43_method_50_code (5 : Nat) (Option.none : Option Jvm.ClassFile.FieldType)).before args0 about1 = true := code_word (m := ⟨13, 4⟩) (meth := k13m4) (c := k13c4) (by decide +kernel) rfl rfl rfl (by decide +kernel)
set_option maxRecDepth 65536 in
theorem w_c58 : (Jvm.Cond.code ({ cls := "java/lang/StringUTF16", name := "inflate", desc := "([BI[BII)V" } : Jvm.MethodName) jdk_52_method_86_code (6 : Nat) (Option.none : Option Jvm.ClassFile.FieldType)).before args0 about1 = true := code_word (m := ⟨8, 13⟩) (meth := k8m13) (c := k8c13) (by decide +kernel) rfl rfl rfl (by decide +kernel)
set_option maxRecDepth 65536 in
theorem w_c59 : (Jvm.Cond.code ({ cls := "java/lang/StringUTF16", name := "checkBoundsOffCount", desc := "(II[B)V" } : Jvm.MethodName) jdk_52_method_94_code (3 : Nat) (Option.none : Option Jvm.ClassFile.FieldType)).before args0 about1 = true := code_word (m := ⟨8, 15⟩) (meth := k8m15) (c := k8c15) (by decide +kernel) rfl rfl rfl (by decide +kernel)
set_option maxRecDepth 65536 in
theorem w_c60 : (Jvm.Cond.code ({ cls := "java/lang/String", name := "checkBoundsOffCount", desc := "(III)I" } : Jvm.MethodName) jdk_42_method_157_code (3 : Nat) (Option.some Jvm.ClassFile.FieldType.int)).before args0 about1 = true := code_word (m := ⟨7, 13⟩) (meth := k7m13) (c := k7c13) (by decide +kernel) rfl rfl rfl (by decide +kernel)
set_option maxRecDepth 65536 in
theorem w_c61 : (Jvm.Cond.code ({ cls := "jdk/internal/util/Preconditions", name := "checkFromIndexSize", desc := "(IIILjava/util/function/BiFunction;)I" } : Jvm.MethodName) jdk_41_method_13_code (4 : Nat) (Option.some Jvm.ClassFile.FieldType.int)).before args0 about1 = true := code_word (m := ⟨14, 2⟩) (meth := k14m2) (c := k14c2) (by decide +kernel) rfl rfl rfl (by decide +kernel)
set_option maxRecDepth 65536 in
theorem w_c62 : (Jvm.Cond.code ({ cls := "java/lang/StringUTF16", name := "putCharSB", desc := "([BII)V" } : Jvm.MethodName) jdk_52_method_71_code (3 : Nat) (Option.none : Option Jvm.ClassFile.FieldType)).before args0 about1 = true := code_word (m := ⟨8, 11⟩) (meth := k8m11) (c := k8c11) (by decide +kernel) rfl rfl rfl (by decide +kernel)
set_option maxRecDepth 65536 in
theorem w_c63 : (Jvm.Cond.code ({ cls := "java/lang/StringUTF16", name := "toBytes", desc := "(C)[B" } : Jvm.MethodName) jdk_52_method_24_code (2 : Nat) (Option.some (Jvm.ClassFile.FieldType.array Jvm.ClassFile.FieldType.byte))).before args0 about1 = true := code_word (m := ⟨8, 10⟩) (meth := k8m10) (c := k8c10) (by decide +kernel) rfl rfl rfl (by decide +kernel)
def codes1 : List Jvm.Cond := [Jvm.Cond.code x code maxLocals ret, Jvm.Cond.code ({ cls := "com/example/guide/guide/web/PagesEscapePinLaw", name := "pick", desc := "(I)C" } : Jvm.MethodName) method_3_code (2 : Nat) (Option.some Jvm.ClassFile.FieldType.char), Jvm.Cond.code ({ cls := "java/lang/String", name := "<init>", desc := "([C)V" } : Jvm.MethodName) jdk_42_method_3_code (2 : Nat) (Option.none : Option Jvm.ClassFile.FieldType), Jvm.Cond.code ({ cls := "java/lang/String", name := "<init>", desc := "([CIILjava/lang/Void;)V" } : Jvm.MethodName) jdk_42_method_149_code (6 : Nat) (Option.none : Option Jvm.ClassFile.FieldType), Jvm.Cond.code ({ cls := "java/lang/Object", name := "<init>", desc := "()V" } : Jvm.MethodName) object_method_1_code (1 : Nat) (Option.none : Option Jvm.ClassFile.FieldType), Jvm.Cond.code ({ cls := "java/lang/StringUTF16", name := "compress", desc := "([CII)[B" } : Jvm.MethodName) jdk_52_method_16_code (6 : Nat) (Option.some (Jvm.ClassFile.FieldType.array Jvm.ClassFile.FieldType.byte)), Jvm.Cond.code ({ cls := "java/lang/StringUTF16", name := "compress", desc := "([CI[BII)I" } : Jvm.MethodName) jdk_52_method_21_code (7 : Nat) (Option.some Jvm.ClassFile.FieldType.int), Jvm.Cond.code ({ cls := "java/lang/StringUTF16", name := "coderFromArrayLen", desc := "([BI)B" } : Jvm.MethodName) jdk_52_method_15_code (2 : Nat) (Option.some Jvm.ClassFile.FieldType.byte), Jvm.Cond.code ({ cls := "com/example/guide/guide/web/Pages", name := "escape", desc := "(Ljava/lang/String;)Ljava/lang/String;" } : Jvm.MethodName) prog_61_method_5_code (4 : Nat) (Option.some (Jvm.ClassFile.FieldType.object "java/lang/String")), Jvm.Cond.code ({ cls := "java/lang/String", name := "length", desc := "()I" } : Jvm.MethodName) jdk_42_method_54_code (1 : Nat) (Option.some Jvm.ClassFile.FieldType.int), Jvm.Cond.code ({ cls := "java/lang/String", name := "coder", desc := "()B" } : Jvm.MethodName) jdk_42_method_152_code (1 : Nat) (Option.some Jvm.ClassFile.FieldType.byte), Jvm.Cond.code ({ cls := "java/lang/StringBuilder", name := "<init>", desc := "(I)V" } : Jvm.MethodName) jdk_67_method_2_code (2 : Nat) (Option.none : Option Jvm.ClassFile.FieldType), Jvm.Cond.code ({ cls := "java/lang/AbstractStringBuilder", name := "<init>", desc := "(I)V" } : Jvm.MethodName) jdk_68_method_2_code (2 : Nat) (Option.none : Option Jvm.ClassFile.FieldType), Jvm.Cond.code ({ cls := "java/lang/String", name := "charAt", desc := "(I)C" } : Jvm.MethodName) jdk_42_method_56_code (2 : Nat) (Option.some Jvm.ClassFile.FieldType.char), Jvm.Cond.code ({ cls := "java/lang/String", name := "isLatin1", desc := "()Z" } : Jvm.MethodName) jdk_42_method_154_code (1 : Nat) (Option.some Jvm.ClassFile.FieldType.boolean), Jvm.Cond.code ({ cls := "java/lang/StringLatin1", name := "charAt", desc := "([BI)C" } : Jvm.MethodName) jdk_43_method_2_code (2 : Nat) (Option.some Jvm.ClassFile.FieldType.char), Jvm.Cond.code ({ cls := "java/lang/String", name := "checkIndex", desc := "(II)V" } : Jvm.MethodName) jdk_42_method_155_code (2 : Nat) (Option.none : Option Jvm.ClassFile.FieldType), Jvm.Cond.code ({ cls := "jdk/internal/util/Preconditions", name := "checkIndex", desc := "(IILjava/util/function/BiFunction;)I" } : Jvm.MethodName) jdk_41_method_11_code (3 : Nat) (Option.some Jvm.ClassFile.FieldType.int), Jvm.Cond.code ({ cls := "java/lang/StringBuilder", name := "append", desc := "(Ljava/lang/String;)Ljava/lang/StringBuilder;" } : Jvm.MethodName) jdk_67_method_7_code (2 : Nat) (Option.some (Jvm.ClassFile.FieldType.object "java/lang/StringBuilder")), Jvm.Cond.code ({ cls := "java/lang/AbstractStringBuilder", name := "append", desc := "(Ljava/lang/String;)Ljava/lang/AbstractStringBuilder;" } : Jvm.MethodName) jdk_68_method_22_code (3 : Nat) (Option.some (Jvm.ClassFile.FieldType.object "java/lang/AbstractStringBuilder")), Jvm.Cond.code ({ cls := "java/lang/AbstractStringBuilder", name := "ensureCapacityInternal", desc := "(I)V" } : Jvm.MethodName) jdk_68_method_9_code (3 : Nat) (Option.none : Option Jvm.ClassFile.FieldType), Jvm.Cond.code ({ cls := "java/lang/AbstractStringBuilder", name := "newCapacity", desc := "(I)I" } : Jvm.MethodName) jdk_68_method_10_code (6 : Nat) (Option.some Jvm.ClassFile.FieldType.int), Jvm.Cond.code ({ cls := "jdk/internal/util/ArraysSupport", name := "newLength", desc := "(III)I" } : Jvm.MethodName) jdk_48_method_27_code (4 : Nat) (Option.some Jvm.ClassFile.FieldType.int), Jvm.Cond.code ({ cls := "java/lang/Math", name := "max", desc := "(II)I" } : Jvm.MethodName) jdk_29_method_65_code (2 : Nat) (Option.some Jvm.ClassFile.FieldType.int), Jvm.Cond.code ({ cls := "java/util/Arrays", name := "copyOf", desc := "([BI)[B" } : Jvm.MethodName) jdk_65_method_121_code (3 : Nat) (Option.some (Jvm.ClassFile.FieldType.array Jvm.ClassFile.FieldType.byte)), Jvm.Cond.code ({ cls := "java/lang/Math", name := "min", desc := "(II)I" } : Jvm.MethodName) jdk_29_method_69_code (2 : Nat) (Option.some Jvm.ClassFile.FieldType.int), Jvm.Cond.code ({ cls := "java/lang/AbstractStringBuilder", name := "putStringAt", desc := "(ILjava/lang/String;)V" } : Jvm.MethodName) jdk_68_method_73_code (3 : Nat) (Option.none : Option Jvm.ClassFile.FieldType), Jvm.Cond.code ({ cls := "java/lang/AbstractStringBuilder", name := "inflateIfNeededFor", desc := "(Ljava/lang/String;)V" } : Jvm.MethodName) jdk_68_method_71_code (2 : Nat) (Option.none : Option Jvm.ClassFile.FieldType), Jvm.Cond.code ({ cls := "java/lang/String", name := "getBytes", desc := "([BIB)V" } : Jvm.MethodName) jdk_42_method_147_code (4 : Nat) (Option.none : Option Jvm.ClassFile.FieldType), Jvm.Cond.code ({ cls := "java/lang/StringBuilder", name := "toString", desc := "()Ljava/lang/String;" } : Jvm.MethodName) jdk_67_method_42_code (1 : Nat) (Option.some (Jvm.ClassFile.FieldType.object "java/lang/String")), Jvm.Cond.code ({ cls := "java/lang/String", name := "<init>", desc := "(Ljava/lang/StringBuilder;)V" } : Jvm.MethodName) jdk_42_method_53_code (2 : Nat) (Option.none : Option Jvm.ClassFile.FieldType), Jvm.Cond.code ({ cls := "java/lang/String", name := "<init>", desc := "(Ljava/lang/AbstractStringBuilder;Ljava/lang/Void;)V" } : Jvm.MethodName) jdk_42_method_150_code (5 : Nat) (Option.none : Option Jvm.ClassFile.FieldType), Jvm.Cond.code ({ cls := "java/lang/AbstractStringBuilder", name := "getValue", desc := "()[B" } : Jvm.MethodName) jdk_68_method_64_code (1 : Nat) (Option.some (Jvm.ClassFile.FieldType.array Jvm.ClassFile.FieldType.byte)), Jvm.Cond.code ({ cls := "java/lang/StringBuilder", name := "length", desc := "()I" } : Jvm.MethodName) jdk_67_method_93_code (1 : Nat) (Option.some Jvm.ClassFile.FieldType.int), Jvm.Cond.code ({ cls := "java/lang/AbstractStringBuilder", name := "length", desc := "()I" } : Jvm.MethodName) jdk_68_method_6_code (1 : Nat) (Option.some Jvm.ClassFile.FieldType.int), Jvm.Cond.code ({ cls := "java/lang/AbstractStringBuilder", name := "isLatin1", desc := "()Z" } : Jvm.MethodName) jdk_68_method_68_code (1 : Nat) (Option.some Jvm.ClassFile.FieldType.boolean), Jvm.Cond.code ({ cls := "java/util/Arrays", name := "copyOfRange", desc := "([BII)[B" } : Jvm.MethodName) jdk_65_method_132_code (3 : Nat) (Option.some (Jvm.ClassFile.FieldType.array Jvm.ClassFile.FieldType.byte)), Jvm.Cond.code ({ cls := "com/example/guide/guide/web/PagesEscapePinLaw", name := "ref", desc := "(C)Ljava/lang/String;" } : Jvm.MethodName) method_4_code (1 : Nat) (Option.some (Jvm.ClassFile.FieldType.object "java/lang/String")), Jvm.Cond.code ({ cls := "com/example/guide/guide/web/PagesEscapePinLaw", name := "seg", desc := "(Ljava/lang/String;ILjava/lang/String;)Z" } : Jvm.MethodName) method_5_code (4 : Nat) (Option.some Jvm.ClassFile.FieldType.boolean), Jvm.Cond.code ({ cls := "com/example/guide/guide/web/PagesEscapePinLaw", name := "at", desc := "(Ljava/lang/String;ILjava/lang/String;II)Z" } : Jvm.MethodName) method_6_code (5 : Nat) (Option.some Jvm.ClassFile.FieldType.boolean), Jvm.Cond.code ({ cls := "java/util/Arrays", name := "copyOfRangeByte", desc := "([BII)[B" } : Jvm.MethodName) jdk_65_method_133_code (5 : Nat) (Option.some (Jvm.ClassFile.FieldType.array Jvm.ClassFile.FieldType.byte)), Jvm.Cond.code ({ cls := "java/util/Arrays", name := "checkLength", desc := "(II)V" } : Jvm.MethodName) jdk_65_method_131_code (2 : Nat) (Option.none : Option Jvm.ClassFile.FieldType), Jvm.Cond.code ({ cls := "java/lang/StringBuilder", name := "append", desc := "(C)Ljava/lang/StringBuilder;" } : Jvm.MethodName) jdk_67_method_14_code (2 : Nat) (Option.some (Jvm.ClassFile.FieldType.object "java/lang/StringBuilder")), Jvm.Cond.code ({ cls := "java/lang/AbstractStringBuilder", name := "append", desc := "(C)Ljava/lang/AbstractStringBuilder;" } : Jvm.MethodName) jdk_68_method_31_code (2 : Nat) (Option.some (Jvm.ClassFile.FieldType.object "java/lang/AbstractStringBuilder")), Jvm.Cond.code ({ cls := "java/lang/StringLatin1", name := "canEncode", desc := "(C)Z" } : Jvm.MethodName) jdk_43_method_3_code (1 : Nat) (Option.some Jvm.ClassFile.FieldType.boolean), Jvm.Cond.code ({ cls := "java/lang/String", name := "valueOf", desc := "(C)Ljava/lang/String;" } : Jvm.MethodName) jdk_42_method_139_code (1 : Nat) (Option.some (Jvm.ClassFile.FieldType.object "java/lang/String")), Jvm.Cond.code ({ cls := "java/lang/StringLatin1", name := "toBytes", desc := "(C)[B" } : Jvm.MethodName) jdk_43_method_46_code (1 : Nat) (Option.some (Jvm.ClassFile.FieldType.array Jvm.ClassFile.FieldType.byte)), Jvm.Cond.code ({ cls := "java/lang/String", name := "<init>", desc := "([BB)V" } : Jvm.MethodName) jdk_42_method_151_code (3 : Nat) (Option.none : Option Jvm.ClassFile.FieldType), Jvm.Cond.code ({ cls := "java/lang/StringUTF16", name := "toBytes", desc := "([CII)[B" } : Jvm.MethodName) jdk_52_method_14_code (5 : Nat) (Option.some (Jvm.ClassFile.FieldType.array Jvm.ClassFile.FieldType.byte)), Jvm.Cond.code ({ cls := "java/lang/StringUTF16", name := "newBytesFor", desc := "(I)[B" } : Jvm.MethodName) jdk_52_method_2_code (1 : Nat) (Option.some (Jvm.ClassFile.FieldType.array Jvm.ClassFile.FieldType.byte)), Jvm.Cond.code ({ cls := "java/lang/StringUTF16", name := "newBytesLength", desc := "(I)I" } : Jvm.MethodName) jdk_52_method_3_code (1 : Nat) (Option.some Jvm.ClassFile.FieldType.int), Jvm.Cond.code ({ cls := "java/lang/StringUTF16", name := "putChar", desc := "([BII)V" } : Jvm.MethodName) jdk_52_method_4_code (3 : Nat) (Option.none : Option Jvm.ClassFile.FieldType), Jvm.Cond.code ({ cls := "java/lang/StringUTF16", name := "getChar", desc := "([BI)C" } : Jvm.MethodName) jdk_52_method_5_code (2 : Nat) (Option.some Jvm.ClassFile.FieldType.char), Jvm.Cond.code ({ cls := "java/lang/StringUTF16", name := "charAt", desc := "([BI)C" } : Jvm.MethodName) jdk_52_method_83_code (2 : Nat) (Option.some Jvm.ClassFile.FieldType.char), Jvm.Cond.code ({ cls := "java/lang/StringUTF16", name := "checkIndex", desc := "(I[B)V" } : Jvm.MethodName) jdk_52_method_91_code (2 : Nat) (Option.none : Option Jvm.ClassFile.FieldType), Jvm.Cond.code ({ cls := "java/lang/StringUTF16", name := "length", desc := "([B)I" } : Jvm.MethodName) jdk_52_method_6_code (1 : Nat) (Option.some Jvm.ClassFile.FieldType.int), Jvm.Cond.code ({ cls := "java/lang/AbstractStringBuilder", name := "inflate", desc := "()V" } : Jvm.MethodName) jdk_68_method_11_code (2 : Nat) (Option.none : Option Jvm.ClassFile.FieldType), Jvm.Cond.code ({ cls := "java/lang/StringLatin1", name := "inflate", desc := "([BI[BII)V" } : Jvm.MethodName) jdk_43_method_50_code (5 : Nat) (Option.none : Option Jvm.ClassFile.FieldType), Jvm.Cond.code ({ cls := "java/lang/StringUTF16", name := "inflate", desc := "([BI[BII)V" } : Jvm.MethodName) jdk_52_method_86_code (6 : Nat) (Option.none : Option Jvm.ClassFile.FieldType), Jvm.Cond.code ({ cls := "java/lang/StringUTF16", name := "checkBoundsOffCount", desc := "(II[B)V" } : Jvm.MethodName) jdk_52_method_94_code (3 : Nat) (Option.none : Option Jvm.ClassFile.FieldType), Jvm.Cond.code ({ cls := "java/lang/String", name := "checkBoundsOffCount", desc := "(III)I" } : Jvm.MethodName) jdk_42_method_157_code (3 : Nat) (Option.some Jvm.ClassFile.FieldType.int), Jvm.Cond.code ({ cls := "jdk/internal/util/Preconditions", name := "checkFromIndexSize", desc := "(IIILjava/util/function/BiFunction;)I" } : Jvm.MethodName) jdk_41_method_13_code (4 : Nat) (Option.some Jvm.ClassFile.FieldType.int), Jvm.Cond.code ({ cls := "java/lang/StringUTF16", name := "putCharSB", desc := "([BII)V" } : Jvm.MethodName) jdk_52_method_71_code (3 : Nat) (Option.none : Option Jvm.ClassFile.FieldType), Jvm.Cond.code ({ cls := "java/lang/StringUTF16", name := "toBytes", desc := "(C)[B" } : Jvm.MethodName) jdk_52_method_24_code (2 : Nat) (Option.some (Jvm.ClassFile.FieldType.array Jvm.ClassFile.FieldType.byte))]
set_option maxRecDepth 65536 in
theorem codes_eq : words1.filter isCode = codes1 := rfl
theorem w_codes : ∀ c ∈ words1.filter isCode, c.before args0 about1 = true := by
  rw [codes_eq]
  intro c hc
  simp only [codes1, List.mem_cons, List.not_mem_nil, or_false] at hc
  rcases hc with rfl | rfl | rfl | rfl | rfl | rfl | rfl | rfl | rfl | rfl | rfl | rfl | rfl | rfl | rfl | rfl | rfl | rfl | rfl | rfl | rfl | rfl | rfl | rfl | rfl | rfl | rfl | rfl | rfl | rfl | rfl | rfl | rfl | rfl | rfl | rfl | rfl | rfl | rfl | rfl | rfl | rfl | rfl | rfl | rfl | rfl | rfl | rfl | rfl | rfl | rfl | rfl | rfl | rfl | rfl | rfl | rfl | rfl | rfl | rfl | rfl | rfl | rfl | rfl
  · exact w_c0
  · exact w_c1
  · exact w_c2
  · exact w_c3
  · exact w_c4
  · exact w_c5
  · exact w_c6
  · exact w_c7
  · exact w_c8
  · exact w_c9
  · exact w_c10
  · exact w_c11
  · exact w_c12
  · exact w_c13
  · exact w_c14
  · exact w_c15
  · exact w_c16
  · exact w_c17
  · exact w_c18
  · exact w_c19
  · exact w_c20
  · exact w_c21
  · exact w_c22
  · exact w_c23
  · exact w_c24
  · exact w_c25
  · exact w_c26
  · exact w_c27
  · exact w_c28
  · exact w_c29
  · exact w_c30
  · exact w_c31
  · exact w_c32
  · exact w_c33
  · exact w_c34
  · exact w_c35
  · exact w_c36
  · exact w_c37
  · exact w_c38
  · exact w_c39
  · exact w_c40
  · exact w_c41
  · exact w_c42
  · exact w_c43
  · exact w_c44
  · exact w_c45
  · exact w_c46
  · exact w_c47
  · exact w_c48
  · exact w_c49
  · exact w_c50
  · exact w_c51
  · exact w_c52
  · exact w_c53
  · exact w_c54
  · exact w_c55
  · exact w_c56
  · exact w_c57
  · exact w_c58
  · exact w_c59
  · exact w_c60
  · exact w_c61
  · exact w_c62
  · exact w_c63
set_option maxRecDepth 65536 in
theorem w_t1 : (words1.take 24).all (fun c => isCode c || c.before args0 about1) = true := by decide +kernel
set_option maxRecDepth 65536 in
theorem w_t2 : ((words1.drop 24).take 24).all (fun c => isCode c || c.before args0 about1) = true := by decide +kernel
set_option maxRecDepth 65536 in
theorem w_t3 : (((words1.drop 24).drop 24).take 24).all (fun c => isCode c || c.before args0 about1) = true := by decide +kernel
set_option maxRecDepth 65536 in
theorem w_t4 : ((((words1.drop 24).drop 24).drop 24).take 24).all (fun c => isCode c || c.before args0 about1) = true := by decide +kernel
set_option maxRecDepth 65536 in
theorem w_t5 : (((((words1.drop 24).drop 24).drop 24).drop 24).take 24).all (fun c => isCode c || c.before args0 about1) = true := by decide +kernel
set_option maxRecDepth 65536 in
theorem w_t6 : ((((((words1.drop 24).drop 24).drop 24).drop 24).drop 24).take 24).all (fun c => isCode c || c.before args0 about1) = true := by decide +kernel
set_option maxRecDepth 65536 in
theorem w_t7 : (((((((words1.drop 24).drop 24).drop 24).drop 24).drop 24).drop 24).take 24).all (fun c => isCode c || c.before args0 about1) = true := by decide +kernel
set_option maxRecDepth 65536 in
theorem w_t8 : ((((((((words1.drop 24).drop 24).drop 24).drop 24).drop 24).drop 24).drop 24).take 24).all (fun c => isCode c || c.before args0 about1) = true := by decide +kernel
set_option maxRecDepth 65536 in
theorem w_t9 : (((((((((words1.drop 24).drop 24).drop 24).drop 24).drop 24).drop 24).drop 24).drop 24).take 24).all (fun c => isCode c || c.before args0 about1) = true := by decide +kernel
set_option maxRecDepth 65536 in
theorem w_t10 : ((((((((((words1.drop 24).drop 24).drop 24).drop 24).drop 24).drop 24).drop 24).drop 24).drop 24).take 24).all (fun c => isCode c || c.before args0 about1) = true := by decide +kernel
set_option maxRecDepth 65536 in
theorem w_t11 : (((((((((((words1.drop 24).drop 24).drop 24).drop 24).drop 24).drop 24).drop 24).drop 24).drop 24).drop 24).take 24).all (fun c => isCode c || c.before args0 about1) = true := by decide +kernel
set_option maxRecDepth 65536 in
theorem w_t12 : ((((((((((((words1.drop 24).drop 24).drop 24).drop 24).drop 24).drop 24).drop 24).drop 24).drop 24).drop 24).drop 24).take 24).all (fun c => isCode c || c.before args0 about1) = true := by decide +kernel
set_option maxRecDepth 65536 in
theorem w_t13 : ((((((((((((words1.drop 24).drop 24).drop 24).drop 24).drop 24).drop 24).drop 24).drop 24).drop 24).drop 24).drop 24).drop 24).all (fun c => isCode c || c.before args0 about1) = true := by decide +kernel
theorem w_tables : (allAtoms (Jvm.Cond.code x code maxLocals ret :: tables_1)).before args0 about1 = true := by
  rw [allAtoms_all]
  show words1.all (fun c => c.before args0 about1) = true
  refine all_split ?_ w_codes
  rw [← List.take_append_drop 24 words1, List.all_append, w_t1, ← List.take_append_drop 24 (words1.drop 24), List.all_append, w_t2, ← List.take_append_drop 24 ((words1.drop 24).drop 24), List.all_append, w_t3, ← List.take_append_drop 24 (((words1.drop 24).drop 24).drop 24), List.all_append, w_t4, ← List.take_append_drop 24 ((((words1.drop 24).drop 24).drop 24).drop 24), List.all_append, w_t5, ← List.take_append_drop 24 (((((words1.drop 24).drop 24).drop 24).drop 24).drop 24), List.all_append, w_t6, ← List.take_append_drop 24 ((((((words1.drop 24).drop 24).drop 24).drop 24).drop 24).drop 24), List.all_append, w_t7, ← List.take_append_drop 24 (((((((words1.drop 24).drop 24).drop 24).drop 24).drop 24).drop 24).drop 24), List.all_append, w_t8, ← List.take_append_drop 24 ((((((((words1.drop 24).drop 24).drop 24).drop 24).drop 24).drop 24).drop 24).drop 24), List.all_append, w_t9, ← List.take_append_drop 24 (((((((((words1.drop 24).drop 24).drop 24).drop 24).drop 24).drop 24).drop 24).drop 24).drop 24), List.all_append, w_t10, ← List.take_append_drop 24 ((((((((((words1.drop 24).drop 24).drop 24).drop 24).drop 24).drop 24).drop 24).drop 24).drop 24).drop 24), List.all_append, w_t11, ← List.take_append_drop 24 (((((((((((words1.drop 24).drop 24).drop 24).drop 24).drop 24).drop 24).drop 24).drop 24).drop 24).drop 24).drop 24), List.all_append, w_t12, w_t13]
  rfl
set_option maxRecDepth 65536 in
theorem w_rest : rest_1_c.before args0 about1 = true := by decide +kernel
set_option maxRecDepth 65536 in
theorem w_case : (Jvm.Cond.and given_1 narrow_1).before args0 about1 = true := by decide +kernel
set_option maxRecDepth 65536 in
theorem w_consts : constsHeld consts_1 about1 := Jvm.Lit.constsHeldB_iff.mp (by decide +kernel)
theorem w_applies : (headSpec (Jvm.Cond.code x code maxLocals ret :: tables_1) room_1).applies x e0.platform about1 = true :=
  (Spec.applies_iff w_frames).mpr ⟨w_running, w_runnable, w_alone, w_named, w_hears, w_ripe, w_room, w_tables⟩
theorem atStart : AtStart classFile x code maxLocals ret World_1 tables_1 room_1 Calls_1 rest_1 Pre_1 launch0 p0 e0 about1 theMethod args0 below0 :=
  ⟨lists_1, trivial, launch0.admits_env _ _ _, launch0.least_env, fairChoices_fair.cas, fairChoices_fair.clock, w_frames, w_args, w_heap, w_applies, ⟨w_consts, trivial⟩, w_rest, w_case⟩
end start1
theorem witness_1 : WitnessClaimed_1 := ⟨start1.p0, start1.e0, start1.about1, start1.theMethod, start1.args0, start1.below0, start1.atStart⟩
end Jvm.Pilot.@@N@@
