import JvmDerived
import JvmDerived.Pilot.@@N@@Statement
import JvmDerived.Pilot.@@N@@Code
set_option linter.unusedVariables false
set_option linter.unusedSimpArgs false
namespace Jvm.Own
open Sem ClassFile Op Lib Bundle Jvm.Stand Jvm.Free Jvm.LawKit Jvm.RoadKit
theorem nl {a b : Nat} (h : Nat.ble a b = true) : a ≤ b := Nat.le_of_ble_eq_true h
section Core
variable {nw : Bool} {p : Program} {l : Launch} {e : Env} {R : Room} {s : State} {m : MethodId} {args : Array Value} {below : List Frame} {meth : Method} {c : Code} {code : ByteArray} {ml : Nat} {nm : String} {ret : Option FieldType} {Z : State} {a0 : Array Value} {EL : List (String × Nat)} {own : String} {P : Option Value → Vm → Heap → Prop}
variable {vm vm' : Vm} {h h' h0 h1 h2 : Heap} {k n pc : Nat} {L : Array Slot} {S : List Value}
/-- what the walk knows of its tables and heap -/
def On (nw : Bool) (s : State) (m : MethodId) (Z : State) (a0 : Array Value) (EL : List (String × Nat)) (own : String) (vm : Vm) (h : Heap) : Prop :=
  (∃ k0, s.Since vm k0 ∧ k0 ≤ h.size) ∧ Z.Warmed39 vm ∧ vm.findClass own = some m.cls ∧ CHv Z EL vm h ∧ Ext Z.heap h ∧ EW Z a0 EL ∧ (nw = true → s.WarmedH vm)
/-- from the heap h, the tables vm and this frame the body returns, and P holds of what it leaves -/
def Go (nw : Bool) (p : Program) (l : Launch) (e : Env) (R : Room) (s : State) (m : MethodId) (args : Array Value) (below : List Frame) (meth : Method) (c : Code) (code : ByteArray) (ml : Nat) (nm : String) (ret : Option FieldType) (Z : State) (a0 : Array Value) (EL : List (String × Nat)) (own : String) (P : Option Value → Vm → Heap → Prop)
    (vm : Vm) (h : Heap) (k n pc : Nat) (L : Array Slot) (S : List Value) : Prop :=
  p.tables.exec = Jvm.exec → c.code = code → c.maxLocals = ml → meth.locks = false → meth.name = nm → meth.sig.returnType = ret → On nw s m Z a0 EL own vm h →
  ∀ (T : State) (locs : List Loc) (cells slots : Nat), Stand p l e R (s.setVm vm) m args below meth c T locs cells slots → T.heap = h → Fr Z.heap.size locs → cells ≤ k → slots ≤ n →
  ∃ (s₂ : State) (v : Option Value), Steps p.tables e below (T.setTop (mkF m pc L S)) s₂ ∧ s₂.status = .running ∧ Ended s₂ below (.returned v) ∧ P v s₂.vm s₂.heap ∧ CHr Z EL vm h s₂.vm s₂.heap ∧ Ext Z.heap s₂.heap ∧
    ∃ L', Fr Z.heap.size L' ∧ ReturnedEndW s (.returned v) s₂ L' R.cells R.slots ∧ (nw = true → s.WarmedH s₂.vm)
theorem Go.mono {k' n' : Nat} (hk : k ≤ k') (hn : n ≤ n') (g : Go nw p l e R s m args below meth c code ml nm ret Z a0 EL own P vm h k' n' pc L S) : Go nw p l e R s m args below meth c code ml nm ret Z a0 EL own P vm h k n pc L S :=
  fun hx hc hm hl hnm hr hon T locs cells slots X hh hF q1 q2 => g hx hc hm hl hnm hr hon T locs cells slots X hh hF (Nat.le_trans q1 hk) (Nat.le_trans q2 hn)
theorem Go.know (g : Ext Z.heap h → Z.Warmed39 vm → CHv Z EL vm h → Go nw p l e R s m args below meth c code ml nm ret Z a0 EL own P vm h k n pc L S) : Go nw p l e R s m args below meth c code ml nm ret Z a0 EL own P vm h k n pc L S :=
  fun hx hc hm hl hnm hr hon => g hon.2.2.2.2.1 hon.2.1 hon.2.2.2.1 hx hc hm hl hnm hr hon
theorem Go.step {pc' : Nat} {L' : Array Slot} {S' : List Value} (st : ∀ T, At T m c below → p.tables.exec = Jvm.exec → c.code = code → ∀ target, Steps p.tables e below (T.setTop (mkF m pc' L' S')) target → Steps p.tables e below (T.setTop (mkF m pc L S)) target)
    (g : Go nw p l e R s m args below meth c code ml nm ret Z a0 EL own P vm h k n pc' L' S') : Go nw p l e R s m args below meth c code ml nm ret Z a0 EL own P vm h k n pc L S := by
  intro hx hc hm hl hnm hr hon T locs cells slots X hh hF hk hn
  obtain ⟨s₂, v, st2, r⟩ := g hx hc hm hl hnm hr hon T locs cells slots X hh hF hk hn
  exact ⟨s₂, v, st T X.here hx hc _ st2, r⟩
/-- a step that may note an entry of the pool, the heap as it was -/
theorem Go.note {pc' : Nat} {L' : Array Slot} {S' : List Value} (st : ∀ T locs cells slots, Stand p l e R (s.setVm vm) m args below meth c T locs cells slots → T.heap = h → p.tables.exec = Jvm.exec → c.code = code → c.maxLocals = ml → On nw s m Z a0 EL own vm h →
      ∃ T', Stand p l e R (s.setVm vm) m args below meth c T' locs cells slots ∧ T'.heap = h ∧ ∀ target, Steps p.tables e below (T'.setTop (mkF m pc' L' S')) target → Steps p.tables e below (T.setTop (mkF m pc L S)) target)
    (g : Go nw p l e R s m args below meth c code ml nm ret Z a0 EL own P vm h k n pc' L' S') : Go nw p l e R s m args below meth c code ml nm ret Z a0 EL own P vm h k n pc L S := by
  intro hx hc hm hl hnm hr hon T locs cells slots X hh hF hk hn
  obtain ⟨T', X', hh', st2⟩ := st T locs cells slots X hh hx hc hm hon
  obtain ⟨s₂, v, st3, r⟩ := g hx hc hm hl hnm hr hon T' locs cells slots X' hh' hF hk hn
  exact ⟨s₂, v, st2 _ st3, r⟩
theorem On.ext (hon : On nw s m Z a0 EL own vm h) (E : Ext h h') : On nw s m Z a0 EL own vm h' := by
  obtain ⟨⟨k0, a1, a2⟩, a3, a4, a5, a6, a7, a8⟩ := hon
  exact ⟨⟨k0, a1, Nat.le_trans a2 E.1⟩, a3, a4, a5.ext E, ⟨Nat.le_trans a6.1 E.1, fun a c q => E.2 _ _ (a6.2 _ _ q)⟩, a7, a8⟩
theorem On.wr {a : Addr} {sl : Nat} {v : Value} (hon : On nw s m Z a0 EL own vm h) (W : Wr h h' a sl v) (Sa : Safe Z EL vm h a) (hz : Z.heap.size ≤ a) : On nw s m Z a0 EL own vm h' := by
  obtain ⟨⟨k0, a1, a2⟩, a3, a4, a5, a6, a7, a8⟩ := hon
  have O : Old Z Z.heap.size h' := Old.wr (Z := Z) ⟨rfl, a6⟩ W hz
  exact ⟨⟨k0, a1, by rw [W.size]; exact a2⟩, a3, a4, a5.wr W Sa, O.2, a7, a8⟩
/-- a step that makes a cell -/
theorem Go.made {pc' dk dn : Nat} {L' : Array Slot} {S' : Addr → List Value} {F : Heap → Addr → Prop} (hk0 : k + dk ≤ R.cells) (hn0 : n + dn ≤ R.slots)
    (st : ∀ T locs cells slots, Stand p l e R (s.setVm vm) m args below meth c T locs cells slots → T.heap = h → p.tables.exec = Jvm.exec → c.code = code → c.maxLocals = ml → On nw s m Z a0 EL own vm h → cells + dk ≤ R.cells → slots + dn ≤ R.slots →
      ∃ T' h', Stand p l e R (s.setVm vm) m args below meth c T' locs (cells + dk) (slots + dn) ∧ T'.heap = h' ∧ Ext h h' ∧ F h' h.size ∧ ∀ target, Steps p.tables e below (T'.setTop (mkF m pc' L' (S' h.size))) target → Steps p.tables e below (T.setTop (mkF m pc L S)) target)
    (g : ∀ a h', a = h.size → Ext h h' → F h' a → Safe Z EL vm h' a → Z.heap.size ≤ a → CHr Z EL vm h vm h' → Go nw p l e R s m args below meth c code ml nm ret Z a0 EL own P vm h' (k + dk) (n + dn) pc' L' (S' a)) : Go nw p l e R s m args below meth c code ml nm ret Z a0 EL own P vm h k n pc L S := by
  intro hx hc hm hl hnm hr hon T locs cells slots X hh hF hk hn
  obtain ⟨T', h', X', hh', E, Fh, st2⟩ := st T locs cells slots X hh hx hc hm hon (by omega) (by omega)
  have ch : CHr Z EL vm h vm h' := CHr.ext E hon.2.2.2.1
  obtain ⟨s₂, v, st3, r1, r2, r3, r4, r5⟩ := g h.size h' rfl E Fh (Safe.ext E hon.2.2.2.1 (Safe.new (Nat.le_refl _))) hon.2.2.2.2.1.1 ch hx hc hm hl hnm hr (hon.ext E) T' locs (cells + dk) (slots + dn) X' hh' hF (by omega) (by omega)
  exact ⟨s₂, v, st2 _ st3, r1, r2, r3, ch.trans r4, r5⟩
/-- a step that writes one slot of a cell made since the law began -/
theorem Go.wrote {pc' : Nat} {L' : Array Slot} {S' : List Value} {a : Addr} {sl : Nat} {w : Value} (Sa : Safe Z EL vm h a) (hz : Z.heap.size ≤ a)
    (st : ∀ T locs cells slots, Stand p l e R (s.setVm vm) m args below meth c T locs cells slots → T.heap = h → p.tables.exec = Jvm.exec → c.code = code → c.maxLocals = ml → meth.name = nm → On nw s m Z a0 EL own vm h →
      ∃ T' h', Stand p l e R (s.setVm vm) m args below meth c T' (locs ++ [⟨a, sl⟩]) cells slots ∧ T'.heap = h' ∧ Wr h h' a sl w ∧ ∀ target, Steps p.tables e below (T'.setTop (mkF m pc' L' S')) target → Steps p.tables e below (T.setTop (mkF m pc L S)) target)
    (g : ∀ h', Wr h h' a sl w → Safe Z EL vm h' a → CHr Z EL vm h vm h' → Go nw p l e R s m args below meth c code ml nm ret Z a0 EL own P vm h' k n pc' L' S') : Go nw p l e R s m args below meth c code ml nm ret Z a0 EL own P vm h k n pc L S := by
  intro hx hc hm hl hnm hr hon T locs cells slots X hh hF hk hn
  obtain ⟨T', h', X', hh', W, st2⟩ := st T locs cells slots X hh hx hc hm hnm hon
  have ch : CHr Z EL vm h vm h' := CHr.wr W Sa hon.2.2.2.1
  obtain ⟨s₂, v, st3, r1, r2, r3, r4, r5⟩ := g h' W (Safe.wr W Sa hon.2.2.2.1 Sa) ch hx hc hm hl hnm hr (hon.wr W Sa hz) T' _ cells slots X' hh' (Fr.snoc X' hF hz) hk hn
  exact ⟨s₂, v, st2 _ st3, r1, r2, r3, ch.trans r4, r5⟩
theorem Go.iload_n {i : Fin 4} {v : Int32} (pc' : Nat) (hd : decode code pc = .ok (.iload_n i, 1)) (hp : pc + 1 = pc') (hl : L[i.val]? = some (.val (.int v))) (g : Go nw p l e R s m args below meth c code ml nm ret Z a0 EL own P vm h k n pc' L (.int v :: S)) : Go nw p l e R s m args below meth c code ml nm ret Z a0 EL own P vm h k n pc L S := by
  subst hp; exact g.step fun T hT hx hc _ q => XS.iloadN (g := mkF m pc L (S)) hT hx rfl (hb hc hd) hl q
theorem Go.iload {i : Nat} {v : Int32} (pc' : Nat) (hd : decode code pc = .ok (.iload i, 2)) (hp : pc + 2 = pc') (hl : L[i]? = some (.val (.int v))) (g : Go nw p l e R s m args below meth c code ml nm ret Z a0 EL own P vm h k n pc' L (.int v :: S)) : Go nw p l e R s m args below meth c code ml nm ret Z a0 EL own P vm h k n pc L S := by
  subst hp; exact g.step fun T hT hx hc _ q => XS.iload (g := mkF m pc L (S)) hT hx rfl (hb hc hd) hl q
theorem Go.lload_n {i : Fin 4} {v : Int64} (pc' : Nat) (hd : decode code pc = .ok (.lload_n i, 1)) (hp : pc + 1 = pc') (hl : L[i.val]? = some (.val (.long v))) (g : Go nw p l e R s m args below meth c code ml nm ret Z a0 EL own P vm h k n pc' L (.long v :: S)) : Go nw p l e R s m args below meth c code ml nm ret Z a0 EL own P vm h k n pc L S := by
  subst hp; exact g.step fun T hT hx hc _ q => XS.lloadN (g := mkF m pc L (S)) hT hx rfl (hb hc hd) hl q
theorem Go.lload {i : Nat} {v : Int64} (pc' : Nat) (hd : decode code pc = .ok (.lload i, 2)) (hp : pc + 2 = pc') (hl : L[i]? = some (.val (.long v))) (g : Go nw p l e R s m args below meth c code ml nm ret Z a0 EL own P vm h k n pc' L (.long v :: S)) : Go nw p l e R s m args below meth c code ml nm ret Z a0 EL own P vm h k n pc L S := by
  subst hp; exact g.step fun T hT hx hc _ q => XS.lload (g := mkF m pc L (S)) hT hx rfl (hb hc hd) hl q
theorem Go.aload_n {i : Fin 4} {v : Value} (pc' : Nat) (hd : decode code pc = .ok (.aload_n i, 1)) (hp : pc + 1 = pc') (hl : L[i.val]? = some (.val v)) (hv : v.isRef = true) (g : Go nw p l e R s m args below meth c code ml nm ret Z a0 EL own P vm h k n pc' L (v :: S)) : Go nw p l e R s m args below meth c code ml nm ret Z a0 EL own P vm h k n pc L S := by
  subst hp; exact g.step fun T hT hx hc _ q => XS.aloadN (g := mkF m pc L (S)) hT hx rfl (hb hc hd) hl hv q
theorem Go.aload {i : Nat} {v : Value} (pc' : Nat) (hd : decode code pc = .ok (.aload i, 2)) (hp : pc + 2 = pc') (hl : L[i]? = some (.val v)) (hv : v.isRef = true) (g : Go nw p l e R s m args below meth c code ml nm ret Z a0 EL own P vm h k n pc' L (v :: S)) : Go nw p l e R s m args below meth c code ml nm ret Z a0 EL own P vm h k n pc L S := by
  subst hp; exact g.step fun T hT hx hc _ q => XS.aload (g := mkF m pc L (S)) hT hx rfl (hb hc hd) hl hv q
theorem Go.iconst {i : Int} (v : Int32) (pc' : Nat) (hd : decode code pc = .ok (.iconst i, 1)) (hp : pc + 1 = pc') (hv : Int32.ofInt i = v) (g : Go nw p l e R s m args below meth c code ml nm ret Z a0 EL own P vm h k n pc' L (.int v :: S)) : Go nw p l e R s m args below meth c code ml nm ret Z a0 EL own P vm h k n pc L S := by
  subst hp hv; exact g.step fun T hT hx hc _ q => XS.iconst hT hx rfl (hb hc hd) q
theorem Go.bipush {i : Int} (v : Int32) (pc' : Nat) (hd : decode code pc = .ok (.bipush i, 2)) (hp : pc + 2 = pc') (hv : (Int8.ofInt i).toInt32 = v) (g : Go nw p l e R s m args below meth c code ml nm ret Z a0 EL own P vm h k n pc' L (.int v :: S)) : Go nw p l e R s m args below meth c code ml nm ret Z a0 EL own P vm h k n pc L S := by
  subst hp hv; exact g.step fun T hT hx hc _ q => XS.bipush hT hx rfl (hb hc hd) q
theorem Go.sipush {i : Int} (v : Int32) (pc' : Nat) (hd : decode code pc = .ok (.sipush i, 3)) (hp : pc + 3 = pc') (hv : (Int16.ofInt i).toInt32 = v) (g : Go nw p l e R s m args below meth c code ml nm ret Z a0 EL own P vm h k n pc' L (.int v :: S)) : Go nw p l e R s m args below meth c code ml nm ret Z a0 EL own P vm h k n pc L S := by
  subst hp hv; exact g.step fun T hT hx hc _ q => XS.sipush hT hx rfl (hb hc hd) q
theorem Go.lconst {i : Fin 2} (v : Int64) (pc' : Nat) (hd : decode code pc = .ok (.lconst i, 1)) (hp : pc + 1 = pc') (hv : Int64.ofNat i = v) (g : Go nw p l e R s m args below meth c code ml nm ret Z a0 EL own P vm h k n pc' L (.long v :: S)) : Go nw p l e R s m args below meth c code ml nm ret Z a0 EL own P vm h k n pc L S := by
  subst hp hv; exact g.step fun T hT hx hc _ q => XS.lconst hT hx rfl (hb hc hd) q
theorem Go.aconst_null  (pc' : Nat) (hd : decode code pc = .ok (.aconst_null, 1)) (hp : pc + 1 = pc') (g : Go nw p l e R s m args below meth c code ml nm ret Z a0 EL own P vm h k n pc' L (.null :: S)) : Go nw p l e R s m args below meth c code ml nm ret Z a0 EL own P vm h k n pc L S := by
  subst hp; exact g.step fun T hT hx hc _ q => XS.aconstNull (g := mkF m pc L (S)) hT hx rfl (hb hc hd)  q
theorem Go.istore_n {i : Fin 4} {v : Int32} (L' : Array Slot) (pc' : Nat) (hd : decode code pc = .ok (.istore_n i, 1)) (hp : pc + 1 = pc') (hl : storeLocals L i.val (.int v) = some L') (g : Go nw p l e R s m args below meth c code ml nm ret Z a0 EL own P vm h k n pc' L' S) : Go nw p l e R s m args below meth c code ml nm ret Z a0 EL own P vm h k n pc L (.int v :: S) := by
  subst hp; exact g.step fun T hT hx hc _ q => XS.istoreN hT hx rfl (hb hc hd) rfl hl q
theorem Go.istore {i : Nat} {v : Int32} (L' : Array Slot) (pc' : Nat) (hd : decode code pc = .ok (.istore i, 2)) (hp : pc + 2 = pc') (hl : storeLocals L i (.int v) = some L') (g : Go nw p l e R s m args below meth c code ml nm ret Z a0 EL own P vm h k n pc' L' S) : Go nw p l e R s m args below meth c code ml nm ret Z a0 EL own P vm h k n pc L (.int v :: S) := by
  subst hp; exact g.step fun T hT hx hc _ q => XS.istore hT hx rfl (hb hc hd) rfl hl q
theorem Go.lstore_n {i : Fin 4} {v : Int64} (L' : Array Slot) (pc' : Nat) (hd : decode code pc = .ok (.lstore_n i, 1)) (hp : pc + 1 = pc') (hl : storeLocals L i.val (.long v) = some L') (g : Go nw p l e R s m args below meth c code ml nm ret Z a0 EL own P vm h k n pc' L' S) : Go nw p l e R s m args below meth c code ml nm ret Z a0 EL own P vm h k n pc L (.long v :: S) := by
  subst hp; exact g.step fun T hT hx hc _ q => XS.lstoreN hT hx rfl (hb hc hd) rfl hl q
theorem Go.lstore {i : Nat} {v : Int64} (L' : Array Slot) (pc' : Nat) (hd : decode code pc = .ok (.lstore i, 2)) (hp : pc + 2 = pc') (hl : storeLocals L i (.long v) = some L') (g : Go nw p l e R s m args below meth c code ml nm ret Z a0 EL own P vm h k n pc' L' S) : Go nw p l e R s m args below meth c code ml nm ret Z a0 EL own P vm h k n pc L (.long v :: S) := by
  subst hp; exact g.step fun T hT hx hc _ q => XS.lstore hT hx rfl (hb hc hd) rfl hl q
theorem Go.astore_n {i : Fin 4} {v : Value} (L' : Array Slot) (pc' : Nat) (hd : decode code pc = .ok (.astore_n i, 1)) (hp : pc + 1 = pc') (hv : v.isRef = true) (hl : storeLocals L i.val v = some L') (g : Go nw p l e R s m args below meth c code ml nm ret Z a0 EL own P vm h k n pc' L' S) : Go nw p l e R s m args below meth c code ml nm ret Z a0 EL own P vm h k n pc L (v :: S) := by
  subst hp; exact g.step fun T hT hx hc _ q => XS.astoreN hT hx rfl (hb hc hd) rfl hv hl q
theorem Go.astore {i : Nat} {v : Value} (L' : Array Slot) (pc' : Nat) (hd : decode code pc = .ok (.astore i, 2)) (hp : pc + 2 = pc') (hv : v.isRef = true) (hl : storeLocals L i v = some L') (g : Go nw p l e R s m args below meth c code ml nm ret Z a0 EL own P vm h k n pc' L' S) : Go nw p l e R s m args below meth c code ml nm ret Z a0 EL own P vm h k n pc L (v :: S) := by
  subst hp; exact g.step fun T hT hx hc _ q => XS.astore hT hx rfl (hb hc hd) rfl hv hl q
theorem Go.iinc {i : Nat} {cst : Int} {x : Int32} (w : Int32) (L' : Array Slot) (pc' : Nat) (hd : decode code pc = .ok (.iinc i cst, 3)) (hp : pc + 3 = pc') (hl : L[i]? = some (.val (.int x))) (hw : x + Int32.ofInt cst = w) (hl' : storeLocals L i (.int w) = some L') (g : Go nw p l e R s m args below meth c code ml nm ret Z a0 EL own P vm h k n pc' L' S) : Go nw p l e R s m args below meth c code ml nm ret Z a0 EL own P vm h k n pc L S := by
  subst hp hw; exact g.step fun T hT hx hc _ q => XS.iinc hT hx rfl (hb hc hd) hl hl' q
theorem Go.iadd {x y : Int32} (z : Int32) (pc' : Nat) (hd : decode code pc = .ok (.iadd, 1)) (hp : pc + 1 = pc') (hz : x + y = z) (g : Go nw p l e R s m args below meth c code ml nm ret Z a0 EL own P vm h k n pc' L (.int z :: S)) : Go nw p l e R s m args below meth c code ml nm ret Z a0 EL own P vm h k n pc L (.int y :: .int x :: S) := by
  subst hp hz; exact g.step fun T hT hx hc _ q => XS.iadd hT hx rfl (hb hc hd) rfl  q
theorem Go.isub {x y : Int32} (z : Int32) (pc' : Nat) (hd : decode code pc = .ok (.isub, 1)) (hp : pc + 1 = pc') (hz : x - y = z) (g : Go nw p l e R s m args below meth c code ml nm ret Z a0 EL own P vm h k n pc' L (.int z :: S)) : Go nw p l e R s m args below meth c code ml nm ret Z a0 EL own P vm h k n pc L (.int y :: .int x :: S) := by
  subst hp hz; exact g.step fun T hT hx hc _ q => XS.isub hT hx rfl (hb hc hd) rfl  q
theorem Go.imul {x y : Int32} (z : Int32) (pc' : Nat) (hd : decode code pc = .ok (.imul, 1)) (hp : pc + 1 = pc') (hz : x * y = z) (g : Go nw p l e R s m args below meth c code ml nm ret Z a0 EL own P vm h k n pc' L (.int z :: S)) : Go nw p l e R s m args below meth c code ml nm ret Z a0 EL own P vm h k n pc L (.int y :: .int x :: S) := by
  subst hp hz; exact g.step fun T hT hx hc _ q => XS.imul hT hx rfl (hb hc hd) rfl  q
theorem Go.iand {x y : Int32} (z : Int32) (pc' : Nat) (hd : decode code pc = .ok (.iand, 1)) (hp : pc + 1 = pc') (hz : x &&& y = z) (g : Go nw p l e R s m args below meth c code ml nm ret Z a0 EL own P vm h k n pc' L (.int z :: S)) : Go nw p l e R s m args below meth c code ml nm ret Z a0 EL own P vm h k n pc L (.int y :: .int x :: S) := by
  subst hp hz; exact g.step fun T hT hx hc _ q => XS.iand hT hx rfl (hb hc hd) rfl  q
theorem Go.ior {x y : Int32} (z : Int32) (pc' : Nat) (hd : decode code pc = .ok (.ior, 1)) (hp : pc + 1 = pc') (hz : x ||| y = z) (g : Go nw p l e R s m args below meth c code ml nm ret Z a0 EL own P vm h k n pc' L (.int z :: S)) : Go nw p l e R s m args below meth c code ml nm ret Z a0 EL own P vm h k n pc L (.int y :: .int x :: S) := by
  subst hp hz; exact g.step fun T hT hx hc _ q => XS.ior hT hx rfl (hb hc hd) rfl  q
theorem Go.ixor {x y : Int32} (z : Int32) (pc' : Nat) (hd : decode code pc = .ok (.ixor, 1)) (hp : pc + 1 = pc') (hz : x ^^^ y = z) (g : Go nw p l e R s m args below meth c code ml nm ret Z a0 EL own P vm h k n pc' L (.int z :: S)) : Go nw p l e R s m args below meth c code ml nm ret Z a0 EL own P vm h k n pc L (.int y :: .int x :: S) := by
  subst hp hz; exact g.step fun T hT hx hc _ q => XS.ixor hT hx rfl (hb hc hd) rfl  q
theorem Go.ishl {x y : Int32} (z : Int32) (pc' : Nat) (hd : decode code pc = .ok (.ishl, 1)) (hp : pc + 1 = pc') (hz : x <<< (y &&& 31) = z) (g : Go nw p l e R s m args below meth c code ml nm ret Z a0 EL own P vm h k n pc' L (.int z :: S)) : Go nw p l e R s m args below meth c code ml nm ret Z a0 EL own P vm h k n pc L (.int y :: .int x :: S) := by
  subst hp hz; exact g.step fun T hT hx hc _ q => XS.ishl hT hx rfl (hb hc hd) rfl  q
theorem Go.ishr {x y : Int32} (z : Int32) (pc' : Nat) (hd : decode code pc = .ok (.ishr, 1)) (hp : pc + 1 = pc') (hz : x >>> (y &&& 31) = z) (g : Go nw p l e R s m args below meth c code ml nm ret Z a0 EL own P vm h k n pc' L (.int z :: S)) : Go nw p l e R s m args below meth c code ml nm ret Z a0 EL own P vm h k n pc L (.int y :: .int x :: S) := by
  subst hp hz; exact g.step fun T hT hx hc _ q => XS.ishr hT hx rfl (hb hc hd) rfl  q
theorem Go.iushr {x y : Int32} (z : Int32) (pc' : Nat) (hd : decode code pc = .ok (.iushr, 1)) (hp : pc + 1 = pc') (hz : XT.ushr x y = z) (g : Go nw p l e R s m args below meth c code ml nm ret Z a0 EL own P vm h k n pc' L (.int z :: S)) : Go nw p l e R s m args below meth c code ml nm ret Z a0 EL own P vm h k n pc L (.int y :: .int x :: S) := by
  subst hp hz; exact g.step fun T hT hx hc _ q => XS.iushr hT hx rfl (hb hc hd) rfl  q
theorem Go.idiv {x y : Int32} (z : Int32) (pc' : Nat) (hd : decode code pc = .ok (.idiv, 1)) (hp : pc + 1 = pc') (hy : y ≠ 0) (hz : x / y = z) (g : Go nw p l e R s m args below meth c code ml nm ret Z a0 EL own P vm h k n pc' L (.int z :: S)) : Go nw p l e R s m args below meth c code ml nm ret Z a0 EL own P vm h k n pc L (.int y :: .int x :: S) := by
  subst hp hz; exact g.step fun T hT hx hc _ q => XS.idiv hT hx rfl (hb hc hd) rfl hy q
theorem Go.irem {x y : Int32} (z : Int32) (pc' : Nat) (hd : decode code pc = .ok (.irem, 1)) (hp : pc + 1 = pc') (hy : y ≠ 0) (hz : x - (x / y) * y = z) (g : Go nw p l e R s m args below meth c code ml nm ret Z a0 EL own P vm h k n pc' L (.int z :: S)) : Go nw p l e R s m args below meth c code ml nm ret Z a0 EL own P vm h k n pc L (.int y :: .int x :: S) := by
  subst hp hz; exact g.step fun T hT hx hc _ q => XS.irem hT hx rfl (hb hc hd) rfl hy q
theorem Go.ladd {x y : Int64} (z : Int64) (pc' : Nat) (hd : decode code pc = .ok (.ladd, 1)) (hp : pc + 1 = pc') (hz : x + y = z) (g : Go nw p l e R s m args below meth c code ml nm ret Z a0 EL own P vm h k n pc' L (.long z :: S)) : Go nw p l e R s m args below meth c code ml nm ret Z a0 EL own P vm h k n pc L (.long y :: .long x :: S) := by
  subst hp hz; exact g.step fun T hT hx hc _ q => XS.ladd hT hx rfl (hb hc hd) rfl q
theorem Go.lsub {x y : Int64} (z : Int64) (pc' : Nat) (hd : decode code pc = .ok (.lsub, 1)) (hp : pc + 1 = pc') (hz : x - y = z) (g : Go nw p l e R s m args below meth c code ml nm ret Z a0 EL own P vm h k n pc' L (.long z :: S)) : Go nw p l e R s m args below meth c code ml nm ret Z a0 EL own P vm h k n pc L (.long y :: .long x :: S) := by
  subst hp hz; exact g.step fun T hT hx hc _ q => XS.lsub hT hx rfl (hb hc hd) rfl q
theorem Go.lmul {x y : Int64} (z : Int64) (pc' : Nat) (hd : decode code pc = .ok (.lmul, 1)) (hp : pc + 1 = pc') (hz : x * y = z) (g : Go nw p l e R s m args below meth c code ml nm ret Z a0 EL own P vm h k n pc' L (.long z :: S)) : Go nw p l e R s m args below meth c code ml nm ret Z a0 EL own P vm h k n pc L (.long y :: .long x :: S) := by
  subst hp hz; exact g.step fun T hT hx hc _ q => XS.lmul hT hx rfl (hb hc hd) rfl q
theorem Go.land {x y : Int64} (z : Int64) (pc' : Nat) (hd : decode code pc = .ok (.land, 1)) (hp : pc + 1 = pc') (hz : x &&& y = z) (g : Go nw p l e R s m args below meth c code ml nm ret Z a0 EL own P vm h k n pc' L (.long z :: S)) : Go nw p l e R s m args below meth c code ml nm ret Z a0 EL own P vm h k n pc L (.long y :: .long x :: S) := by
  subst hp hz; exact g.step fun T hT hx hc _ q => XS.land hT hx rfl (hb hc hd) rfl q
theorem Go.lor {x y : Int64} (z : Int64) (pc' : Nat) (hd : decode code pc = .ok (.lor, 1)) (hp : pc + 1 = pc') (hz : x ||| y = z) (g : Go nw p l e R s m args below meth c code ml nm ret Z a0 EL own P vm h k n pc' L (.long z :: S)) : Go nw p l e R s m args below meth c code ml nm ret Z a0 EL own P vm h k n pc L (.long y :: .long x :: S) := by
  subst hp hz; exact g.step fun T hT hx hc _ q => XS.lor hT hx rfl (hb hc hd) rfl q
theorem Go.lxor {x y : Int64} (z : Int64) (pc' : Nat) (hd : decode code pc = .ok (.lxor, 1)) (hp : pc + 1 = pc') (hz : x ^^^ y = z) (g : Go nw p l e R s m args below meth c code ml nm ret Z a0 EL own P vm h k n pc' L (.long z :: S)) : Go nw p l e R s m args below meth c code ml nm ret Z a0 EL own P vm h k n pc L (.long y :: .long x :: S) := by
  subst hp hz; exact g.step fun T hT hx hc _ q => XS.lxor hT hx rfl (hb hc hd) rfl q
theorem Go.lshl {x : Int64} {y : Int32} (z : Int64) (pc' : Nat) (hd : decode code pc = .ok (.lshl, 1)) (hp : pc + 1 = pc') (hz : x <<< (y.toInt64 &&& 63) = z) (g : Go nw p l e R s m args below meth c code ml nm ret Z a0 EL own P vm h k n pc' L (.long z :: S)) : Go nw p l e R s m args below meth c code ml nm ret Z a0 EL own P vm h k n pc L (.int y :: .long x :: S) := by
  subst hp hz; exact g.step fun T hT hx hc _ q => XT.lshl hT hx rfl (hb hc hd) rfl q
theorem Go.lshr {x : Int64} {y : Int32} (z : Int64) (pc' : Nat) (hd : decode code pc = .ok (.lshr, 1)) (hp : pc + 1 = pc') (hz : x >>> (y.toInt64 &&& 63) = z) (g : Go nw p l e R s m args below meth c code ml nm ret Z a0 EL own P vm h k n pc' L (.long z :: S)) : Go nw p l e R s m args below meth c code ml nm ret Z a0 EL own P vm h k n pc L (.int y :: .long x :: S) := by
  subst hp hz; exact g.step fun T hT hx hc _ q => XT.lshr hT hx rfl (hb hc hd) rfl q
theorem Go.lushr {x : Int64} {y : Int32} (z : Int64) (pc' : Nat) (hd : decode code pc = .ok (.lushr, 1)) (hp : pc + 1 = pc') (hz : XT.ushrL x y = z) (g : Go nw p l e R s m args below meth c code ml nm ret Z a0 EL own P vm h k n pc' L (.long z :: S)) : Go nw p l e R s m args below meth c code ml nm ret Z a0 EL own P vm h k n pc L (.int y :: .long x :: S) := by
  subst hp hz; exact g.step fun T hT hx hc _ q => XT.lushr hT hx rfl (hb hc hd) rfl q
theorem Go.lcmp {x y : Int64} (z : Int32) (pc' : Nat) (hd : decode code pc = .ok (.lcmp, 1)) (hp : pc + 1 = pc') (hz : XT.cmpL x y = z) (g : Go nw p l e R s m args below meth c code ml nm ret Z a0 EL own P vm h k n pc' L (.int z :: S)) : Go nw p l e R s m args below meth c code ml nm ret Z a0 EL own P vm h k n pc L (.long y :: .long x :: S) := by
  subst hp hz; exact g.step fun T hT hx hc _ q => XS.lcmp hT hx rfl (hb hc hd) rfl q
theorem Go.ineg {x : Int32} (z : Int32) (pc' : Nat) (hd : decode code pc = .ok (.ineg, 1)) (hp : pc + 1 = pc') (hz : -x = z) (g : Go nw p l e R s m args below meth c code ml nm ret Z a0 EL own P vm h k n pc' L (.int z :: S)) : Go nw p l e R s m args below meth c code ml nm ret Z a0 EL own P vm h k n pc L (.int x :: S) := by
  subst hp hz; exact g.step fun T hT hx hc _ q => XS.ineg hT hx rfl (hb hc hd) rfl q
theorem Go.i2b {x : Int32} (z : Int32) (pc' : Nat) (hd : decode code pc = .ok (.i2b, 1)) (hp : pc + 1 = pc') (hz : x.toInt8.toInt32 = z) (g : Go nw p l e R s m args below meth c code ml nm ret Z a0 EL own P vm h k n pc' L (.int z :: S)) : Go nw p l e R s m args below meth c code ml nm ret Z a0 EL own P vm h k n pc L (.int x :: S) := by
  subst hp hz; exact g.step fun T hT hx hc _ q => XS.i2b hT hx rfl (hb hc hd) rfl q
theorem Go.i2c {x : Int32} (z : Int32) (pc' : Nat) (hd : decode code pc = .ok (.i2c, 1)) (hp : pc + 1 = pc') (hz : x.toUInt32.toUInt16.toUInt32.toInt32 = z) (g : Go nw p l e R s m args below meth c code ml nm ret Z a0 EL own P vm h k n pc' L (.int z :: S)) : Go nw p l e R s m args below meth c code ml nm ret Z a0 EL own P vm h k n pc L (.int x :: S) := by
  subst hp hz; exact g.step fun T hT hx hc _ q => XS.i2c hT hx rfl (hb hc hd) rfl q
theorem Go.i2s {x : Int32} (z : Int32) (pc' : Nat) (hd : decode code pc = .ok (.i2s, 1)) (hp : pc + 1 = pc') (hz : x.toInt16.toInt32 = z) (g : Go nw p l e R s m args below meth c code ml nm ret Z a0 EL own P vm h k n pc' L (.int z :: S)) : Go nw p l e R s m args below meth c code ml nm ret Z a0 EL own P vm h k n pc L (.int x :: S) := by
  subst hp hz; exact g.step fun T hT hx hc _ q => XS.i2s hT hx rfl (hb hc hd) rfl q
theorem Go.i2l {x : Int32} (z : Int64) (pc' : Nat) (hd : decode code pc = .ok (.i2l, 1)) (hp : pc + 1 = pc') (hz : x.toInt64 = z) (g : Go nw p l e R s m args below meth c code ml nm ret Z a0 EL own P vm h k n pc' L (.long z :: S)) : Go nw p l e R s m args below meth c code ml nm ret Z a0 EL own P vm h k n pc L (.int x :: S) := by
  subst hp hz; exact g.step fun T hT hx hc _ q => XS.i2l hT hx rfl (hb hc hd) rfl q
theorem Go.l2i {x : Int64} (z : Int32) (pc' : Nat) (hd : decode code pc = .ok (.l2i, 1)) (hp : pc + 1 = pc') (hz : x.toInt32 = z) (g : Go nw p l e R s m args below meth c code ml nm ret Z a0 EL own P vm h k n pc' L (.int z :: S)) : Go nw p l e R s m args below meth c code ml nm ret Z a0 EL own P vm h k n pc L (.long x :: S) := by
  subst hp hz; exact g.step fun T hT hx hc _ q => XS.l2i hT hx rfl (hb hc hd) rfl q
theorem Go.lneg {x : Int64} (z : Int64) (pc' : Nat) (hd : decode code pc = .ok (.lneg, 1)) (hp : pc + 1 = pc') (hz : -x = z) (g : Go nw p l e R s m args below meth c code ml nm ret Z a0 EL own P vm h k n pc' L (.long z :: S)) : Go nw p l e R s m args below meth c code ml nm ret Z a0 EL own P vm h k n pc L (.long x :: S) := by
  subst hp hz; exact g.step fun T hT hx hc _ q => XS.lneg hT hx rfl (hb hc hd) rfl q
theorem Go.dup {x : Value} (pc' : Nat) (hd : decode code pc = .ok (.dup, 1)) (hp : pc + 1 = pc') (hx1 : x.category = 1) (g : Go nw p l e R s m args below meth c code ml nm ret Z a0 EL own P vm h k n pc' L (x :: x :: S)) : Go nw p l e R s m args below meth c code ml nm ret Z a0 EL own P vm h k n pc L (x :: S) := by
  subst hp; exact g.step fun T hT hx hc _ q => XS.dup (g := mkF m pc L (x :: S)) hT hx rfl (hb hc hd) rfl hx1 q
theorem Go.pop {x : Value} (pc' : Nat) (hd : decode code pc = .ok (.pop, 1)) (hp : pc + 1 = pc') (hx1 : x.category = 1) (g : Go nw p l e R s m args below meth c code ml nm ret Z a0 EL own P vm h k n pc' L S) : Go nw p l e R s m args below meth c code ml nm ret Z a0 EL own P vm h k n pc L (x :: S) := by
  subst hp; exact g.step fun T hT hx hc _ q => XS.pop (g := mkF m pc L (x :: S)) hT hx rfl (hb hc hd) rfl hx1 q
theorem Go.dup_x1 {x y : Value} (pc' : Nat) (hd : decode code pc = .ok (.dup_x1, 1)) (hp : pc + 1 = pc') (hx1 : x.category = 1) (hx2 : y.category = 1) (g : Go nw p l e R s m args below meth c code ml nm ret Z a0 EL own P vm h k n pc' L (x :: y :: x :: S)) : Go nw p l e R s m args below meth c code ml nm ret Z a0 EL own P vm h k n pc L (x :: y :: S) := by
  subst hp; exact g.step fun T hT hx hc _ q => XS.dupX1 (g := mkF m pc L (x :: y :: S)) hT hx rfl (hb hc hd) rfl hx1 hx2 q
theorem Go.dup2 {x y : Value} (pc' : Nat) (hd : decode code pc = .ok (.dup2, 1)) (hp : pc + 1 = pc') (hx1 : x.category = 1) (hx2 : y.category = 1) (g : Go nw p l e R s m args below meth c code ml nm ret Z a0 EL own P vm h k n pc' L (x :: y :: x :: y :: S)) : Go nw p l e R s m args below meth c code ml nm ret Z a0 EL own P vm h k n pc L (x :: y :: S) := by
  subst hp; exact g.step fun T hT hx hc _ q => XT.dup2 (g := mkF m pc L (x :: y :: S)) hT hx rfl (hb hc hd) rfl hx1 hx2 q
theorem Go.goto {o : Int} (pc' : Nat) (hd : decode code pc = .ok (.goto o, 3)) (ho : 0 ≤ (pc : Int) + o) (hp : ((pc : Int) + o).toNat = pc') (g : Go nw p l e R s m args below meth c code ml nm ret Z a0 EL own P vm h k n pc' L S) : Go nw p l e R s m args below meth c code ml nm ret Z a0 EL own P vm h k n pc L S :=
  g.step fun T hT hx hc _ q => XS.goto hT hx rfl rfl (hb hc hd) ho hp q
theorem Go.ifB {cd : ClassFile.Cond} {x : Int32} {o : Int} (pc' pc'' : Nat) (hd : decode code pc = .ok (.ifCond cd o, 3)) (ho : 0 ≤ (pc : Int) + o) (hp : ((pc : Int) + o).toNat = pc') (hq : pc + 3 = pc'')
    (gt : ifCond.holds cd x = true → Go nw p l e R s m args below meth c code ml nm ret Z a0 EL own P vm h k n pc' L S) (gf : ifCond.holds cd x = false → Go nw p l e R s m args below meth c code ml nm ret Z a0 EL own P vm h k n pc'' L S) : Go nw p l e R s m args below meth c code ml nm ret Z a0 EL own P vm h k n pc L (.int x :: S) := by
  subst hq
  cases hh : ifCond.holds cd x
  · exact (gf hh).step fun T hT hx hc _ q => XS.ifNo hT hx rfl (hb hc hd) rfl hh q
  · exact (gt hh).step fun T hT hx hc _ q => XS.ifYes hT hx rfl rfl (hb hc hd) rfl hh ho hp q
theorem Go.icmpB {cd : ClassFile.Cond} {x y : Int32} {o : Int} (pc' pc'' : Nat) (hd : decode code pc = .ok (.if_icmp cd o, 3)) (ho : 0 ≤ (pc : Int) + o) (hp : ((pc : Int) + o).toNat = pc') (hq : pc + 3 = pc'')
    (gt : if_icmp.holds cd x y = true → Go nw p l e R s m args below meth c code ml nm ret Z a0 EL own P vm h k n pc' L S) (gf : if_icmp.holds cd x y = false → Go nw p l e R s m args below meth c code ml nm ret Z a0 EL own P vm h k n pc'' L S) : Go nw p l e R s m args below meth c code ml nm ret Z a0 EL own P vm h k n pc L (.int y :: .int x :: S) := by
  subst hq
  cases hh : if_icmp.holds cd x y
  · exact (gf hh).step fun T hT hx hc _ q => XS.icmpNo hT hx rfl (hb hc hd) rfl hh q
  · exact (gt hh).step fun T hT hx hc _ q => XS.icmpYes hT hx rfl rfl (hb hc hd) rfl hh ho hp q
theorem Go.if_icmpeq {x y : Int32} {o : Int} (pc' pc'' : Nat) (hd : decode code pc = .ok (.if_icmp .eq o, 3)) (ho : 0 ≤ (pc : Int) + o) (hp : ((pc : Int) + o).toNat = pc') (hq : pc + 3 = pc'')
    (gt : x = y → Go nw p l e R s m args below meth c code ml nm ret Z a0 EL own P vm h k n pc' L S) (gf : ¬ x = y → Go nw p l e R s m args below meth c code ml nm ret Z a0 EL own P vm h k n pc'' L S) : Go nw p l e R s m args below meth c code ml nm ret Z a0 EL own P vm h k n pc L (.int y :: .int x :: S) := by
  by_cases q : x = y
  · exact Go.icmpB pc' pc'' hd ho hp hq (fun r => by first | exact gt q | exact absurd (r.symm.trans (teq q).1) (by simp)) (fun r => by first | exact gf q | exact absurd (r.symm.trans (teq q).1) (by simp))
  · exact Go.icmpB pc' pc'' hd ho hp hq (fun r => by first | exact gt q | exact absurd (r.symm.trans (feq q).1) (by simp)) (fun r => by first | exact gf q | exact absurd (r.symm.trans (feq q).1) (by simp))
theorem Go.ifeq {x : Int32} {o : Int} (pc' pc'' : Nat) (hd : decode code pc = .ok (.ifCond .eq o, 3)) (ho : 0 ≤ (pc : Int) + o) (hp : ((pc : Int) + o).toNat = pc') (hq : pc + 3 = pc'')
    (gt : x = 0 → Go nw p l e R s m args below meth c code ml nm ret Z a0 EL own P vm h k n pc' L S) (gf : ¬ x = 0 → Go nw p l e R s m args below meth c code ml nm ret Z a0 EL own P vm h k n pc'' L S) : Go nw p l e R s m args below meth c code ml nm ret Z a0 EL own P vm h k n pc L (.int x :: S) := by
  by_cases q : x = 0
  · exact Go.ifB pc' pc'' hd ho hp hq (fun r => by first | exact gt q | exact absurd (r.symm.trans ((if0 _ _).trans (teq q).1)) (by simp)) (fun r => by first | exact gf q | exact absurd (r.symm.trans ((if0 _ _).trans (teq q).1)) (by simp))
  · exact Go.ifB pc' pc'' hd ho hp hq (fun r => by first | exact gt q | exact absurd (r.symm.trans ((if0 _ _).trans (feq q).1)) (by simp)) (fun r => by first | exact gf q | exact absurd (r.symm.trans ((if0 _ _).trans (feq q).1)) (by simp))
theorem Go.if_icmpne {x y : Int32} {o : Int} (pc' pc'' : Nat) (hd : decode code pc = .ok (.if_icmp .ne o, 3)) (ho : 0 ≤ (pc : Int) + o) (hp : ((pc : Int) + o).toNat = pc') (hq : pc + 3 = pc'')
    (gt : ¬ x = y → Go nw p l e R s m args below meth c code ml nm ret Z a0 EL own P vm h k n pc' L S) (gf : x = y → Go nw p l e R s m args below meth c code ml nm ret Z a0 EL own P vm h k n pc'' L S) : Go nw p l e R s m args below meth c code ml nm ret Z a0 EL own P vm h k n pc L (.int y :: .int x :: S) := by
  by_cases q : x = y
  · exact Go.icmpB pc' pc'' hd ho hp hq (fun r => by first | exact gt q | exact absurd (r.symm.trans (teq q).2) (by simp)) (fun r => by first | exact gf q | exact absurd (r.symm.trans (teq q).2) (by simp))
  · exact Go.icmpB pc' pc'' hd ho hp hq (fun r => by first | exact gt q | exact absurd (r.symm.trans (feq q).2) (by simp)) (fun r => by first | exact gf q | exact absurd (r.symm.trans (feq q).2) (by simp))
theorem Go.ifne {x : Int32} {o : Int} (pc' pc'' : Nat) (hd : decode code pc = .ok (.ifCond .ne o, 3)) (ho : 0 ≤ (pc : Int) + o) (hp : ((pc : Int) + o).toNat = pc') (hq : pc + 3 = pc'')
    (gt : ¬ x = 0 → Go nw p l e R s m args below meth c code ml nm ret Z a0 EL own P vm h k n pc' L S) (gf : x = 0 → Go nw p l e R s m args below meth c code ml nm ret Z a0 EL own P vm h k n pc'' L S) : Go nw p l e R s m args below meth c code ml nm ret Z a0 EL own P vm h k n pc L (.int x :: S) := by
  by_cases q : x = 0
  · exact Go.ifB pc' pc'' hd ho hp hq (fun r => by first | exact gt q | exact absurd (r.symm.trans ((if0 _ _).trans (teq q).2)) (by simp)) (fun r => by first | exact gf q | exact absurd (r.symm.trans ((if0 _ _).trans (teq q).2)) (by simp))
  · exact Go.ifB pc' pc'' hd ho hp hq (fun r => by first | exact gt q | exact absurd (r.symm.trans ((if0 _ _).trans (feq q).2)) (by simp)) (fun r => by first | exact gf q | exact absurd (r.symm.trans ((if0 _ _).trans (feq q).2)) (by simp))
theorem Go.if_icmplt {x y : Int32} {o : Int} (pc' pc'' : Nat) (hd : decode code pc = .ok (.if_icmp .lt o, 3)) (ho : 0 ≤ (pc : Int) + o) (hp : ((pc : Int) + o).toNat = pc') (hq : pc + 3 = pc'')
    (gt : x < y → Go nw p l e R s m args below meth c code ml nm ret Z a0 EL own P vm h k n pc' L S) (gf : ¬ x < y → Go nw p l e R s m args below meth c code ml nm ret Z a0 EL own P vm h k n pc'' L S) : Go nw p l e R s m args below meth c code ml nm ret Z a0 EL own P vm h k n pc L (.int y :: .int x :: S) := by
  by_cases q : x < y
  · exact Go.icmpB pc' pc'' hd ho hp hq (fun r => by first | exact gt q | exact absurd (r.symm.trans (tlt q).1) (by simp)) (fun r => by first | exact gf q | exact absurd (r.symm.trans (tlt q).1) (by simp))
  · exact Go.icmpB pc' pc'' hd ho hp hq (fun r => by first | exact gt q | exact absurd (r.symm.trans (flt q).1) (by simp)) (fun r => by first | exact gf q | exact absurd (r.symm.trans (flt q).1) (by simp))
theorem Go.iflt {x : Int32} {o : Int} (pc' pc'' : Nat) (hd : decode code pc = .ok (.ifCond .lt o, 3)) (ho : 0 ≤ (pc : Int) + o) (hp : ((pc : Int) + o).toNat = pc') (hq : pc + 3 = pc'')
    (gt : x < 0 → Go nw p l e R s m args below meth c code ml nm ret Z a0 EL own P vm h k n pc' L S) (gf : ¬ x < 0 → Go nw p l e R s m args below meth c code ml nm ret Z a0 EL own P vm h k n pc'' L S) : Go nw p l e R s m args below meth c code ml nm ret Z a0 EL own P vm h k n pc L (.int x :: S) := by
  by_cases q : x < 0
  · exact Go.ifB pc' pc'' hd ho hp hq (fun r => by first | exact gt q | exact absurd (r.symm.trans ((if0 _ _).trans (tlt q).1)) (by simp)) (fun r => by first | exact gf q | exact absurd (r.symm.trans ((if0 _ _).trans (tlt q).1)) (by simp))
  · exact Go.ifB pc' pc'' hd ho hp hq (fun r => by first | exact gt q | exact absurd (r.symm.trans ((if0 _ _).trans (flt q).1)) (by simp)) (fun r => by first | exact gf q | exact absurd (r.symm.trans ((if0 _ _).trans (flt q).1)) (by simp))
theorem Go.if_icmpge {x y : Int32} {o : Int} (pc' pc'' : Nat) (hd : decode code pc = .ok (.if_icmp .ge o, 3)) (ho : 0 ≤ (pc : Int) + o) (hp : ((pc : Int) + o).toNat = pc') (hq : pc + 3 = pc'')
    (gt : ¬ x < y → Go nw p l e R s m args below meth c code ml nm ret Z a0 EL own P vm h k n pc' L S) (gf : x < y → Go nw p l e R s m args below meth c code ml nm ret Z a0 EL own P vm h k n pc'' L S) : Go nw p l e R s m args below meth c code ml nm ret Z a0 EL own P vm h k n pc L (.int y :: .int x :: S) := by
  by_cases q : x < y
  · exact Go.icmpB pc' pc'' hd ho hp hq (fun r => by first | exact gt q | exact absurd (r.symm.trans (tlt q).2.1) (by simp)) (fun r => by first | exact gf q | exact absurd (r.symm.trans (tlt q).2.1) (by simp))
  · exact Go.icmpB pc' pc'' hd ho hp hq (fun r => by first | exact gt q | exact absurd (r.symm.trans (flt q).2.1) (by simp)) (fun r => by first | exact gf q | exact absurd (r.symm.trans (flt q).2.1) (by simp))
theorem Go.ifge {x : Int32} {o : Int} (pc' pc'' : Nat) (hd : decode code pc = .ok (.ifCond .ge o, 3)) (ho : 0 ≤ (pc : Int) + o) (hp : ((pc : Int) + o).toNat = pc') (hq : pc + 3 = pc'')
    (gt : ¬ x < 0 → Go nw p l e R s m args below meth c code ml nm ret Z a0 EL own P vm h k n pc' L S) (gf : x < 0 → Go nw p l e R s m args below meth c code ml nm ret Z a0 EL own P vm h k n pc'' L S) : Go nw p l e R s m args below meth c code ml nm ret Z a0 EL own P vm h k n pc L (.int x :: S) := by
  by_cases q : x < 0
  · exact Go.ifB pc' pc'' hd ho hp hq (fun r => by first | exact gt q | exact absurd (r.symm.trans ((if0 _ _).trans (tlt q).2.1)) (by simp)) (fun r => by first | exact gf q | exact absurd (r.symm.trans ((if0 _ _).trans (tlt q).2.1)) (by simp))
  · exact Go.ifB pc' pc'' hd ho hp hq (fun r => by first | exact gt q | exact absurd (r.symm.trans ((if0 _ _).trans (flt q).2.1)) (by simp)) (fun r => by first | exact gf q | exact absurd (r.symm.trans ((if0 _ _).trans (flt q).2.1)) (by simp))
theorem Go.if_icmpgt {x y : Int32} {o : Int} (pc' pc'' : Nat) (hd : decode code pc = .ok (.if_icmp .gt o, 3)) (ho : 0 ≤ (pc : Int) + o) (hp : ((pc : Int) + o).toNat = pc') (hq : pc + 3 = pc'')
    (gt : y < x → Go nw p l e R s m args below meth c code ml nm ret Z a0 EL own P vm h k n pc' L S) (gf : ¬ y < x → Go nw p l e R s m args below meth c code ml nm ret Z a0 EL own P vm h k n pc'' L S) : Go nw p l e R s m args below meth c code ml nm ret Z a0 EL own P vm h k n pc L (.int y :: .int x :: S) := by
  by_cases q : y < x
  · exact Go.icmpB pc' pc'' hd ho hp hq (fun r => by first | exact gt q | exact absurd (r.symm.trans (tlt q).2.2.1) (by simp)) (fun r => by first | exact gf q | exact absurd (r.symm.trans (tlt q).2.2.1) (by simp))
  · exact Go.icmpB pc' pc'' hd ho hp hq (fun r => by first | exact gt q | exact absurd (r.symm.trans (flt q).2.2.1) (by simp)) (fun r => by first | exact gf q | exact absurd (r.symm.trans (flt q).2.2.1) (by simp))
theorem Go.ifgt {x : Int32} {o : Int} (pc' pc'' : Nat) (hd : decode code pc = .ok (.ifCond .gt o, 3)) (ho : 0 ≤ (pc : Int) + o) (hp : ((pc : Int) + o).toNat = pc') (hq : pc + 3 = pc'')
    (gt : 0 < x → Go nw p l e R s m args below meth c code ml nm ret Z a0 EL own P vm h k n pc' L S) (gf : ¬ 0 < x → Go nw p l e R s m args below meth c code ml nm ret Z a0 EL own P vm h k n pc'' L S) : Go nw p l e R s m args below meth c code ml nm ret Z a0 EL own P vm h k n pc L (.int x :: S) := by
  by_cases q : 0 < x
  · exact Go.ifB pc' pc'' hd ho hp hq (fun r => by first | exact gt q | exact absurd (r.symm.trans ((if0 _ _).trans (tlt q).2.2.1)) (by simp)) (fun r => by first | exact gf q | exact absurd (r.symm.trans ((if0 _ _).trans (tlt q).2.2.1)) (by simp))
  · exact Go.ifB pc' pc'' hd ho hp hq (fun r => by first | exact gt q | exact absurd (r.symm.trans ((if0 _ _).trans (flt q).2.2.1)) (by simp)) (fun r => by first | exact gf q | exact absurd (r.symm.trans ((if0 _ _).trans (flt q).2.2.1)) (by simp))
theorem Go.if_icmple {x y : Int32} {o : Int} (pc' pc'' : Nat) (hd : decode code pc = .ok (.if_icmp .le o, 3)) (ho : 0 ≤ (pc : Int) + o) (hp : ((pc : Int) + o).toNat = pc') (hq : pc + 3 = pc'')
    (gt : ¬ y < x → Go nw p l e R s m args below meth c code ml nm ret Z a0 EL own P vm h k n pc' L S) (gf : y < x → Go nw p l e R s m args below meth c code ml nm ret Z a0 EL own P vm h k n pc'' L S) : Go nw p l e R s m args below meth c code ml nm ret Z a0 EL own P vm h k n pc L (.int y :: .int x :: S) := by
  by_cases q : y < x
  · exact Go.icmpB pc' pc'' hd ho hp hq (fun r => by first | exact gt q | exact absurd (r.symm.trans (tlt q).2.2.2) (by simp)) (fun r => by first | exact gf q | exact absurd (r.symm.trans (tlt q).2.2.2) (by simp))
  · exact Go.icmpB pc' pc'' hd ho hp hq (fun r => by first | exact gt q | exact absurd (r.symm.trans (flt q).2.2.2) (by simp)) (fun r => by first | exact gf q | exact absurd (r.symm.trans (flt q).2.2.2) (by simp))
theorem Go.ifle {x : Int32} {o : Int} (pc' pc'' : Nat) (hd : decode code pc = .ok (.ifCond .le o, 3)) (ho : 0 ≤ (pc : Int) + o) (hp : ((pc : Int) + o).toNat = pc') (hq : pc + 3 = pc'')
    (gt : ¬ 0 < x → Go nw p l e R s m args below meth c code ml nm ret Z a0 EL own P vm h k n pc' L S) (gf : 0 < x → Go nw p l e R s m args below meth c code ml nm ret Z a0 EL own P vm h k n pc'' L S) : Go nw p l e R s m args below meth c code ml nm ret Z a0 EL own P vm h k n pc L (.int x :: S) := by
  by_cases q : 0 < x
  · exact Go.ifB pc' pc'' hd ho hp hq (fun r => by first | exact gt q | exact absurd (r.symm.trans ((if0 _ _).trans (tlt q).2.2.2)) (by simp)) (fun r => by first | exact gf q | exact absurd (r.symm.trans ((if0 _ _).trans (tlt q).2.2.2)) (by simp))
  · exact Go.ifB pc' pc'' hd ho hp hq (fun r => by first | exact gt q | exact absurd (r.symm.trans ((if0 _ _).trans (flt q).2.2.2)) (by simp)) (fun r => by first | exact gf q | exact absurd (r.symm.trans ((if0 _ _).trans (flt q).2.2.2)) (by simp))
theorem Go.ifnull_y {o : Int} (pc' : Nat) (hd : decode code pc = .ok (.ifnull o, 3)) (ho : 0 ≤ (pc : Int) + o) (hp : ((pc : Int) + o).toNat = pc') (g : Go nw p l e R s m args below meth c code ml nm ret Z a0 EL own P vm h k n pc' L S) : Go nw p l e R s m args below meth c code ml nm ret Z a0 EL own P vm h k n pc L (.null :: S) :=
  g.step fun T hT hx hc _ q => XS.ifnullYes hT hx rfl rfl (hb hc hd) rfl ho hp q
theorem Go.ifnull_n {o : Int} {b : Addr} (pc' : Nat) (hd : decode code pc = .ok (.ifnull o, 3)) (hp : pc + 3 = pc') (g : Go nw p l e R s m args below meth c code ml nm ret Z a0 EL own P vm h k n pc' L S) : Go nw p l e R s m args below meth c code ml nm ret Z a0 EL own P vm h k n pc L (.ref b :: S) := by
  subst hp; exact g.step fun T hT hx hc _ q => XS.ifnullNo hT hx rfl (hb hc hd) rfl q
theorem Go.ifnonnull_y {o : Int} {b : Addr} (pc' : Nat) (hd : decode code pc = .ok (.ifnonnull o, 3)) (ho : 0 ≤ (pc : Int) + o) (hp : ((pc : Int) + o).toNat = pc') (g : Go nw p l e R s m args below meth c code ml nm ret Z a0 EL own P vm h k n pc' L S) : Go nw p l e R s m args below meth c code ml nm ret Z a0 EL own P vm h k n pc L (.ref b :: S) :=
  g.step fun T hT hx hc _ q => XS.ifnonnullYes hT hx rfl rfl (hb hc hd) rfl ho hp q
theorem Go.ifnonnull_n {o : Int} (pc' : Nat) (hd : decode code pc = .ok (.ifnonnull o, 3)) (hp : pc + 3 = pc') (g : Go nw p l e R s m args below meth c code ml nm ret Z a0 EL own P vm h k n pc' L S) : Go nw p l e R s m args below meth c code ml nm ret Z a0 EL own P vm h k n pc L (.null :: S) := by
  subst hp; exact g.step fun T hT hx hc _ q => XS.ifnonnullNo hT hx rfl (hb hc hd) rfl q
theorem Go.acmp_y {cd : ClassFile.ACond} {x y : Value} {o : Int} (pc' : Nat) (hd : decode code pc = .ok (.if_acmp cd o, 3)) (ho : 0 ≤ (pc : Int) + o) (hp : ((pc : Int) + o).toNat = pc') (h1 : x.isRef = true) (h2 : y.isRef = true) (hq : XT.acmp cd x y = true) (g : Go nw p l e R s m args below meth c code ml nm ret Z a0 EL own P vm h k n pc' L S) : Go nw p l e R s m args below meth c code ml nm ret Z a0 EL own P vm h k n pc L (y :: x :: S) :=
  g.step fun T hT hx hc _ q => XT.acmpYes hT hx rfl rfl (hb hc hd) rfl h1 h2 hq ho hp q
theorem Go.acmp_n {cd : ClassFile.ACond} {x y : Value} {o : Int} (pc' : Nat) (hd : decode code pc = .ok (.if_acmp cd o, 3)) (hp : pc + 3 = pc') (h1 : x.isRef = true) (h2 : y.isRef = true) (hq : XT.acmp cd x y = false) (g : Go nw p l e R s m args below meth c code ml nm ret Z a0 EL own P vm h k n pc' L S) : Go nw p l e R s m args below meth c code ml nm ret Z a0 EL own P vm h k n pc L (y :: x :: S) := by
  subst hp; exact g.step fun T hT hx hc _ q => XT.acmpNo hT hx rfl (hb hc hd) rfl h1 h2 hq q
theorem Go.getfield {O n' d : String} {idx : Nat} {a : Addr} {v : Value} (pc' : Nat) (hd : decode code pc = .ok (.getfield idx, 3)) (hp : pc + 3 = pc') (w : (Cond.fieldLink own idx O n' d).before a0 Z = true) (F : Fld Z h a O n' d v) (g : Go nw p l e R s m args below meth c code ml nm ret Z a0 EL own P vm h k n pc' L (v :: S)) : Go nw p l e R s m args below meth c code ml nm ret Z a0 EL own P vm h k n pc L (.ref a :: S) := by
  subst hp
  exact g.note fun T locs cells slots X hh hx hc hm hon => getF X hx hon.2.1 (host := "") hon.2.2.1 (Or.inl w) Via.refl hh F (g := mkF m pc L (.ref a :: S)) rfl rfl (hb hc hd)
theorem Go.getfieldV {R0 O n' d : String} {idx : Nat} {a : Addr} {v : Value} (pc' : Nat) (hd : decode code pc = .ok (.getfield idx, 3)) (hp : pc + 3 = pc') (w : (Cond.fieldLink own idx R0 n' d).before a0 Z = true) (via : (Cond.sameField R0 O n' d).before a0 Z = true) (F : Fld Z h a O n' d v) (g : Go nw p l e R s m args below meth c code ml nm ret Z a0 EL own P vm h k n pc' L (v :: S)) : Go nw p l e R s m args below meth c code ml nm ret Z a0 EL own P vm h k n pc L (.ref a :: S) := by
  subst hp
  exact g.note fun T locs cells slots X hh hx hc hm hon => getF X hx hon.2.1 (host := "") hon.2.2.1 (Or.inl w) (Via.of via) hh F (g := mkF m pc L (.ref a :: S)) rfl rfl (hb hc hd)
theorem Go.getstatic {O n' d : String} {idx : Nat} {v : Value} (pc' : Nat) (hd : decode code pc = .ok (.getstatic idx, 3)) (hp : pc + 3 = pc') (w : (Cond.fieldLink own idx O n' d).before a0 Z = true) (F : Sta Z h O n' d v) (g : Go nw p l e R s m args below meth c code ml nm ret Z a0 EL own P vm h k n pc' L (v :: S)) : Go nw p l e R s m args below meth c code ml nm ret Z a0 EL own P vm h k n pc L S := by
  subst hp
  exact g.note fun T locs cells slots X hh hx hc hm hon => getS X hx hon.2.1 (host := "") hon.2.2.1 w Via.refl hh F (g := mkF m pc L S) rfl (hb hc hd)
theorem Go.putfield {O n' d C : String} {idx kk : Nat} {ty : FieldType} {a : Addr} {v v0 : Value} (pc' : Nat) (hd : decode code pc = .ok (.putfield idx, 3)) (hp : pc + 3 = pc') (w : (Cond.fieldLink own idx O n' d).before a0 Z = true) (F : Fld Z h a O n' d v0) (E : Exa Z h a C)
    (Lf : (Cond.lays C O n' d).before a0 Z = true ∨ ((Cond.laysFinal C O n' d).before a0 Z = true ∧ own = O ∧ nm = "<init>")) (wi : (Cond.instantiable C kk).before a0 Z = true) (hty : parseFieldDescriptor d = some ty) (hn' : narrow ty v = v) (hf : fits ty v = true)
    (Sa : Safe Z EL vm h a) (hz : Z.heap.size ≤ a) (g : ∀ h', Wr h h' a (RoadKit.slotOf Z O n' d) v → Safe Z EL vm h' a → CHr Z EL vm h vm h' → Go nw p l e R s m args below meth c code ml nm ret Z a0 EL own P vm h' k n pc' L S) : Go nw p l e R s m args below meth c code ml nm ret Z a0 EL own P vm h k n pc L (v :: .ref a :: S) := by
  subst hp
  refine Go.wrote Sa hz (fun T locs cells slots X hh hx hc hm hnm hon => ?_) g
  exact putF X hx hon.2.1 (host := "") hon.2.2.1 (Or.inl w) Via.refl hh F E (Lf.imp id fun q => ⟨q.1, q.2.1, hnm.trans q.2.2⟩) wi hty hn' hf (g := mkF m pc L (v :: .ref a :: S)) rfl rfl (hb hc hd)
theorem Go.putfieldV {R0 O n' d C : String} {idx kk : Nat} {ty : FieldType} {a : Addr} {v v0 : Value} (pc' : Nat) (hd : decode code pc = .ok (.putfield idx, 3)) (hp : pc + 3 = pc') (w : (Cond.fieldLink own idx R0 n' d).before a0 Z = true) (via : (Cond.sameField R0 O n' d).before a0 Z = true) (F : Fld Z h a O n' d v0) (E : Exa Z h a C)
    (Lf : (Cond.lays C O n' d).before a0 Z = true ∨ ((Cond.laysFinal C O n' d).before a0 Z = true ∧ own = O ∧ nm = "<init>")) (wi : (Cond.instantiable C kk).before a0 Z = true) (hty : parseFieldDescriptor d = some ty) (hn' : narrow ty v = v) (hf : fits ty v = true)
    (Sa : Safe Z EL vm h a) (hz : Z.heap.size ≤ a) (g : ∀ h', Wr h h' a (RoadKit.slotOf Z O n' d) v → Safe Z EL vm h' a → CHr Z EL vm h vm h' → Go nw p l e R s m args below meth c code ml nm ret Z a0 EL own P vm h' k n pc' L S) : Go nw p l e R s m args below meth c code ml nm ret Z a0 EL own P vm h k n pc L (v :: .ref a :: S) := by
  subst hp
  refine Go.wrote Sa hz (fun T locs cells slots X hh hx hc hm hnm hon => ?_) g
  exact putF X hx hon.2.1 (host := "") hon.2.2.1 (Or.inl w) (Via.of via) hh F E (Lf.imp id fun q => ⟨q.1, q.2.1, hnm.trans q.2.2⟩) wi hty hn' hf (g := mkF m pc L (v :: .ref a :: S)) rfl rfl (hb hc hd)
theorem Go.new {C : String} {idx nf : Nat} (pc' : Nat) (hd : decode code pc = .ok (.new idx, 3)) (hp : pc + 3 = pc') (w : (Cond.classLink own idx C).before a0 Z = true) (wi : (Cond.instantiable C nf).before a0 Z = true) (wz : (Cond.initialized C).before a0 Z = true) (hk0 : k + 1 ≤ R.cells) (hn0 : n + nf ≤ R.slots)
    (g : ∀ a h', a = h.size → Ext h h' → (Exa Z h' a C ∧ ∀ {O n' d : String} {ty : FieldType}, Laid Z a0 C O n' d → parseFieldDescriptor d = some ty → Fld Z h' a O n' d (defaultValue ty)) → Safe Z EL vm h' a → Z.heap.size ≤ a → CHr Z EL vm h vm h' → Go nw p l e R s m args below meth c code ml nm ret Z a0 EL own P vm h' (k + 1) (n + nf) pc' L (.ref a :: S)) : Go nw p l e R s m args below meth c code ml nm ret Z a0 EL own P vm h k n pc L S := by
  subst hp
  refine Go.made (dk := 1) (dn := nf) (S' := fun a => .ref a :: S) (F := fun h' a => Exa Z h' a C ∧ ∀ {O n' d : String} {ty : FieldType}, Laid Z a0 C O n' d → parseFieldDescriptor d = some ty → Fld Z h' a O n' d (defaultValue ty)) hk0 hn0 (fun T locs cells slots X hh hx hc hm hon q1 q2 => ?_) g
  obtain ⟨T', h', X', e', E, A, D, -, st⟩ := newO X hx hon.2.1 hon.2.2.1 w wi wz hh (g := mkF m pc L S) rfl (hb hc hd) q1 q2
  exact ⟨T', h', X', e', E, ⟨A, D⟩, st⟩
theorem Go.newarray {aty : ArrayType} {z : Int32} (cap : Nat) (pc' : Nat) (hd : decode code pc = .ok (.newarray aty, 2)) (hp : pc + 2 = pc') (w : (Cond.arrayClass (newarray.typeOf aty)).before a0 Z = true) (hz : ¬ z < 0) (hcap : z.toNatClampNeg ≤ cap) (hb8 : cap * 8 ≤ 536870912) (hk0 : k + 1 ≤ R.cells) (hn0 : n + cap ≤ R.slots)
    (g : ∀ a h', a = h.size → Ext h h' → (∃ cA, Arv Z h' a cA (newarray.typeOf aty) z [] (defaultValue (newarray.typeOf aty))) → Safe Z EL vm h' a → Z.heap.size ≤ a → CHr Z EL vm h vm h' → Go nw p l e R s m args below meth c code ml nm ret Z a0 EL own P vm h' (k + 1) (n + cap) pc' L (.ref a :: S)) : Go nw p l e R s m args below meth c code ml nm ret Z a0 EL own P vm h k n pc L (.int z :: S) := by
  subst hp
  refine Go.made (dk := 1) (dn := cap) (S' := fun a => .ref a :: S) (F := fun h' a => ∃ cA, Arv Z h' a cA (newarray.typeOf aty) z [] (defaultValue (newarray.typeOf aty))) hk0 hn0 (fun T locs cells slots X hh hx hc hm hon q1 q2 => ?_) g
  obtain ⟨T', h', cA, X', e', E, A, st⟩ := newP X hx hon.2.1 w hh (g := mkF m pc L (.int z :: S)) rfl (hb hc hd) rfl hz hcap hb8 q1 q2
  exact ⟨T', h', X', e', E, ⟨cA, Arv.new A hz⟩, st⟩
theorem Go.arraylength {a : Addr} {kA : ClassId} {ty : FieldType} {z : Int32} {vs : List Value} {dv : Value} (pc' : Nat) (hd : decode code pc = .ok (.arraylength, 1)) (hp : pc + 1 = pc') (A : Arv Z h a kA ty z vs dv) (g : Go nw p l e R s m args below meth c code ml nm ret Z a0 EL own P vm h k n pc' L (.int z :: S)) : Go nw p l e R s m args below meth c code ml nm ret Z a0 EL own P vm h k n pc L (.ref a :: S) := by
  subst hp
  refine g.note fun T locs cells slots X hh hx hc hm hon => ⟨T, X, hh, fun target q => ?_⟩
  obtain ⟨cl, A1, A2, A3, A4, A5, A6⟩ := A
  refine X.arraylength hx (cell := cl) (by rw [hh]; exact A1.1) (State.isArrayOf_alike hon.2.1.alike A1.2.1) (g := mkF m pc L (.ref a :: S)) rfl (rest := S) rfl (hb hc hd) _ ?_
  rw [len_of A3 A4]; exact q
theorem Go.caload {a : Addr} {kA : ClassId} {z j : Int32} {vs : List Value} {dv : Value} (v : Value) (pc' : Nat) (hd : decode code pc = .ok (.caload, 1)) (hp : pc + 1 = pc') (A : Arv Z h a kA .char z vs dv) (hj : ¬ j < 0 ∧ j < z) (hv : vs.getD j.toNatClampNeg dv = v) (g : Go nw p l e R s m args below meth c code ml nm ret Z a0 EL own P vm h k n pc' L (v :: S)) : Go nw p l e R s m args below meth c code ml nm ret Z a0 EL own P vm h k n pc L (.int j :: .ref a :: S) := by
  subst hp
  refine g.note fun T locs cells slots X hh hx hc hm hon => ⟨T, X, hh, fun target q => ?_⟩
  obtain ⟨cl, A1, A2, A3, A4, A5, A6⟩ := A
  have hin := inb_of A3 hj
  exact X.caload hx (by rw [hh]; exact A1.1) (State.isArrayOf_alike hon.2.1.alike A1.2.1) A1.2.2 hin (A5.at hin hv) (g := mkF m pc L (.int j :: .ref a :: S)) rfl rfl (hb hc hd) _ q
theorem Go.iaload {a : Addr} {kA : ClassId} {z j : Int32} {vs : List Value} {dv : Value} (v : Value) (pc' : Nat) (hd : decode code pc = .ok (.iaload, 1)) (hp : pc + 1 = pc') (A : Arv Z h a kA .int z vs dv) (hj : ¬ j < 0 ∧ j < z) (hv : vs.getD j.toNatClampNeg dv = v) (g : Go nw p l e R s m args below meth c code ml nm ret Z a0 EL own P vm h k n pc' L (v :: S)) : Go nw p l e R s m args below meth c code ml nm ret Z a0 EL own P vm h k n pc L (.int j :: .ref a :: S) := by
  subst hp
  refine g.note fun T locs cells slots X hh hx hc hm hon => ⟨T, X, hh, fun target q => ?_⟩
  obtain ⟨cl, A1, A2, A3, A4, A5, A6⟩ := A
  have hin := inb_of A3 hj
  exact X.iaload hx (by rw [hh]; exact A1.1) (State.isArrayOf_alike hon.2.1.alike A1.2.1) A1.2.2 hin (A5.at hin hv) (g := mkF m pc L (.int j :: .ref a :: S)) rfl rfl (hb hc hd) _ q
theorem Go.baload {a : Addr} {kA : ClassId} {z j : Int32} {vs : List Value} {dv : Value} (v : Value) (pc' : Nat) (hd : decode code pc = .ok (.baload, 1)) (hp : pc + 1 = pc') (A : Arv Z h a kA .byte z vs dv) (hj : ¬ j < 0 ∧ j < z) (hv : vs.getD j.toNatClampNeg dv = v) (g : Go nw p l e R s m args below meth c code ml nm ret Z a0 EL own P vm h k n pc' L (v :: S)) : Go nw p l e R s m args below meth c code ml nm ret Z a0 EL own P vm h k n pc L (.int j :: .ref a :: S) := by
  subst hp
  refine g.note fun T locs cells slots X hh hx hc hm hon => ⟨T, X, hh, fun target q => ?_⟩
  obtain ⟨cl, A1, A2, A3, A4, A5, A6⟩ := A
  have hin := inb_of A3 hj
  exact X.baloadBytes hx (by rw [hh]; exact A1.1) (State.isArrayOf_alike hon.2.1.alike A1.2.1) A1.2.2 hin (A5.at hin hv) (g := mkF m pc L (.int j :: .ref a :: S)) rfl rfl (hb hc hd) _ q
theorem Go.aaload {a : Addr} {kA : ClassId} {ty : FieldType} {z j : Int32} {vs : List Value} {dv : Value} (v : Value) (pc' : Nat) (hd : decode code pc = .ok (.aaload, 1)) (hp : pc + 1 = pc') (A : Arv Z h a kA ty z vs dv) (hty : ty.isReference = true) (hj : ¬ j < 0 ∧ j < z) (hv : vs.getD j.toNatClampNeg dv = v) (g : Go nw p l e R s m args below meth c code ml nm ret Z a0 EL own P vm h k n pc' L (v :: S)) : Go nw p l e R s m args below meth c code ml nm ret Z a0 EL own P vm h k n pc L (.int j :: .ref a :: S) := by
  subst hp
  refine g.note fun T locs cells slots X hh hx hc hm hon => ⟨T, X, hh, fun target q => ?_⟩
  obtain ⟨cl, A1, A2, A3, A4, A5, A6⟩ := A
  have hin := inb_of A3 hj
  exact X.aaload hx (by rw [hh]; exact A1.1) (State.isArrayOf_alike hon.2.1.alike A1.2.1) hty A1.2.2 hin (A5.at hin hv) (g := mkF m pc L (.int j :: .ref a :: S)) rfl rfl (hb hc hd) _ q
theorem Go.castore {a : Addr} {kA : ClassId} {z j x : Int32} {vs : List Value} {dv : Value} (i : Nat) (y : Int32) (vs' : List Value) (pc' : Nat) (hd : decode code pc = .ok (.castore, 1)) (hp : pc + 1 = pc') (A : Arv Z h a kA .char z vs dv) (hj : ¬ j < 0 ∧ j < z) (hi : j.toNatClampNeg = i) (hl : i < vs.length) (hy : nar .char x = y) (hvs : vs.set i (.int y) = vs') (Sa : Safe Z EL vm h a) (hz : Z.heap.size ≤ a)
    (g : ∀ h', Keep h h' [a] → Arv Z h' a kA .char z vs' dv → Safe Z EL vm h' a → CHr Z EL vm h vm h' → Go nw p l e R s m args below meth c code ml nm ret Z a0 EL own P vm h' k n pc' L S) : Go nw p l e R s m args below meth c code ml nm ret Z a0 EL own P vm h k n pc L (.int x :: .int j :: .ref a :: S) := by
  subst hp hy hvs
  obtain ⟨cl, A1, A2, A3, A4, A5, A6⟩ := A
  have hin := inb_of A3 hj
  refine Go.wrote Sa hz (sl := j.toNatClampNeg) (w := .int (nar .char x)) (fun T locs cells slots X hh hx hc hm hnm hon => ?_) (fun h' W s2 ch => g h' (Keep.of_wr W) (Arv.set A1 A2 A3 A4 A5 A6 (fits_nar_char _) W i hi hl) s2 ch)
  exact stC X hx hon.2.1 hh A1 hin (g := mkF m pc L (.int x :: .int j :: .ref a :: S)) rfl rfl (hb hc hd)
theorem Go.iastore {a : Addr} {kA : ClassId} {z j x : Int32} {vs : List Value} {dv : Value} (i : Nat) (y : Int32) (vs' : List Value) (pc' : Nat) (hd : decode code pc = .ok (.iastore, 1)) (hp : pc + 1 = pc') (A : Arv Z h a kA .int z vs dv) (hj : ¬ j < 0 ∧ j < z) (hi : j.toNatClampNeg = i) (hl : i < vs.length) (hy : x = y) (hvs : vs.set i (.int y) = vs') (Sa : Safe Z EL vm h a) (hz : Z.heap.size ≤ a)
    (g : ∀ h', Keep h h' [a] → Arv Z h' a kA .int z vs' dv → Safe Z EL vm h' a → CHr Z EL vm h vm h' → Go nw p l e R s m args below meth c code ml nm ret Z a0 EL own P vm h' k n pc' L S) : Go nw p l e R s m args below meth c code ml nm ret Z a0 EL own P vm h k n pc L (.int x :: .int j :: .ref a :: S) := by
  subst hp hy hvs
  obtain ⟨cl, A1, A2, A3, A4, A5, A6⟩ := A
  have hin := inb_of A3 hj
  refine Go.wrote Sa hz (sl := j.toNatClampNeg) (w := .int (x)) (fun T locs cells slots X hh hx hc hm hnm hon => ?_) (fun h' W s2 ch => g h' (Keep.of_wr W) (Arv.set A1 A2 A3 A4 A5 A6 (rfl) W i hi hl) s2 ch)
  exact stI X hx hon.2.1 hh A1 hin (g := mkF m pc L (.int x :: .int j :: .ref a :: S)) rfl rfl (hb hc hd)
theorem Go.bastore {a : Addr} {kA : ClassId} {z j x : Int32} {vs : List Value} {dv : Value} (i : Nat) (y : Int32) (vs' : List Value) (pc' : Nat) (hd : decode code pc = .ok (.bastore, 1)) (hp : pc + 1 = pc') (A : Arv Z h a kA .byte z vs dv) (hj : ¬ j < 0 ∧ j < z) (hi : j.toNatClampNeg = i) (hl : i < vs.length) (hy : x.toInt8.toInt32 = y) (hvs : vs.set i (.int y) = vs') (Sa : Safe Z EL vm h a) (hz : Z.heap.size ≤ a)
    (g : ∀ h', Keep h h' [a] → Arv Z h' a kA .byte z vs' dv → Safe Z EL vm h' a → CHr Z EL vm h vm h' → Go nw p l e R s m args below meth c code ml nm ret Z a0 EL own P vm h' k n pc' L S) : Go nw p l e R s m args below meth c code ml nm ret Z a0 EL own P vm h k n pc L (.int x :: .int j :: .ref a :: S) := by
  subst hp hy hvs
  obtain ⟨cl, A1, A2, A3, A4, A5, A6⟩ := A
  have hin := inb_of A3 hj
  refine Go.wrote Sa hz (sl := j.toNatClampNeg) (w := .int (x.toInt8.toInt32)) (fun T locs cells slots X hh hx hc hm hnm hon => ?_) (fun h' W s2 ch => g h' (Keep.of_wr W) (Arv.set A1 A2 A3 A4 A5 A6 (fits_nar_byte _) W i hi hl) s2 ch)
  exact stB X hx hon.2.1 hh A1 hin (g := mkF m pc L (.int x :: .int j :: .ref a :: S)) rfl rfl (hb hc hd)
theorem Go.fin {v : Option Value} (hk0 : k ≤ R.cells) (hn0 : n ≤ R.slots) (hv : ret = none → v = none) (hP : ∀ vm', CHr Z EL vm h vm' h → P v vm' h)
    (st : ∀ (T : State) (locs : List Loc) (cells slots : Nat), Stand p l e R (s.setVm vm) m args below meth c T locs cells slots → p.tables.exec = Jvm.exec → c.code = code → meth.sig.returnType = ret → ∀ fs : List Frame, (∀ (f : JFrame) (acts : List Action), f.method = m → f.locked = none → f.entered = [] → (doReturn e (T.setTop f) acts v).1 = T.setFrames fs) → Steps p.tables e below (T.setTop (mkF m pc L S)) (T.setFrames fs)) : Go nw p l e R s m args below meth c code ml nm ret Z a0 EL own P vm h k n pc L S := by
  intro hx hc hm hl hnm hr hon T locs cells slots X hh hF hk hn
  obtain ⟨⟨k0, a1, a2⟩, a3, a4, a5, a6, a7, a8⟩ := hon
  obtain ⟨fs, h1, h2, h3, h4⟩ := X.leaveW a1 (by rw [hh]; exact a2) (v := v) (fun q => hv (hr ▸ q)) hl
  have ch : CHr Z EL vm h T.vm h := CHv.at X a3 a7 a5
  have hh' : (T.setFrames fs).heap = h := hh
  refine ⟨_, v, st T locs cells slots X hx hc hr fs h1, h2, h3, by rw [hh']; exact hP _ ch, by rw [hh']; exact ch, by rw [hh']; exact a6, locs, hF, ?_, fun q => ?_⟩
  · obtain ⟨q1, q2, q3, q4⟩ := h4
    exact ⟨q1, q2, q3, q4.mono (Nat.le_trans hk hk0) (Nat.le_trans hn hn0)⟩
  · exact State.WarmedH.trans (t := s.setVm vm) (a8 q) X.warmed
theorem Go.return_ (hd : decode code pc = .ok (.return_, 1)) (hr : ret = none) (hk0 : k ≤ R.cells) (hn0 : n ≤ R.slots) (hP : ∀ vm', CHr Z EL vm h vm' h → P none vm' h) : Go nw p l e R s m args below meth c code ml nm ret Z a0 EL own P vm h k n pc L ([]) :=
  Go.fin (v := none) hk0 hn0 (fun _ => rfl) hP fun T locs cells slots X hx hc hrt fs hl => X.returnOut hx (hrt.trans hr) (hb hc hd) hl
theorem Go.areturn {t : FieldType} {w : Value} (hd : decode code pc = .ok (.areturn, 1)) (hr : ret = some t) (ht : t.isReference = true) (hw : w.isRef = true) (hk0 : k ≤ R.cells) (hn0 : n ≤ R.slots) (hP : ∀ vm', CHr Z EL vm h vm' h → P (some w) vm' h) : Go nw p l e R s m args below meth c code ml nm ret Z a0 EL own P vm h k n pc L (w :: S) :=
  Go.fin (v := some w) hk0 hn0 (fun q => by rw [hr] at q; cases q) hP fun T locs cells slots X hx hc hrt fs hl => retOut X hx (hrt.trans hr) (by cases t <;> first | rfl | cases ht) (Or.inr (Or.inr (Or.inr (Or.inr ⟨rfl, ht, hw⟩)))) (hb hc hd) hl
theorem Go.ireturn {t : FieldType} {x : Int32} (hd : decode code pc = .ok (.ireturn, 1)) (hr : ret = some t) (hn' : narrow t (.int x) = .int x) (ht : t = .int ∨ t = .boolean ∨ t = .byte ∨ t = .char ∨ t = .short) (hk0 : k ≤ R.cells) (hn0 : n ≤ R.slots) (hP : ∀ vm', CHr Z EL vm h vm' h → P (some (.int x)) vm' h) : Go nw p l e R s m args below meth c code ml nm ret Z a0 EL own P vm h k n pc L (.int x :: S) :=
  Go.fin (v := some (.int x)) hk0 hn0 (fun q => by rw [hr] at q; cases q) hP fun T locs cells slots X hx hc hrt fs hl => retOut X hx (hrt.trans hr) hn' (Or.inl ⟨rfl, ht, _, rfl⟩) (hb hc hd) hl
theorem Go.initObject {idx : Nat} {a : Addr} (W : Nat) (pc' : Nat) (hd : decode code pc = .ok (.invokespecial idx, 3)) (hp : pc + 3 = pc') (w1 : (Cond.methodLink own idx Lib.objectInit).before a0 Z = true) (w2 : (Cond.instanceMethod Lib.objectInit).before a0 Z = true) (w3 : (Cond.code Lib.objectInit ⟨#[0xb1]⟩ 1 none).before a0 Z = true)
    (hsz : L.size = ml) (hf : 1 ≤ R.frames) (hW : (S.map fun v => v.category).sum ≤ W) (hl : W + 12 ≤ R.locals) (g : Go nw p l e R s m args below meth c code ml nm ret Z a0 EL own P vm h k n pc' L S) : Go nw p l e R s m args below meth c code ml nm ret Z a0 EL own P vm h k n pc L (.ref a :: S) := by
  subst hp
  exact g.note fun T locs cells slots X hh hx hc hm hon => initO X hx hon.2.1 hon.2.2.1 w1 w2 w3 hh (g := mkF m pc L (.ref a :: S)) rfl (hsz.trans hm.symm) rfl (hb hc hd) hf (by show 2 * 0 + _ ≤ _; omega) hl
/-- what a callee promises: at the heap h and tables that have booked no more than vm -/
def Ctr (nw : Bool) (l : Launch) (Z : State) (a0 : Array Value) (EL : List (String × Nat)) (y : MethodName) (code : ByteArray) (ml : Nat) (ret : Option FieldType) (rm : Room) (as' : Array Value) (vm : Vm) (h : Heap) (Q : Option Value → Vm → Heap → Prop) : Prop :=
  ∀ ws : List Jvm.Cond, MetFree l y (head1 (Jvm.Cond.code y code ml ret :: ws) rm) (fun a U => a = as' ∧ Z.Warmed39 U.vm ∧ U.heap = h ∧ CHr Z EL vm h U.vm h ∧ Ext Z.heap h ∧ EW Z a0 EL) (fun _ _ _ _ _ => True)
    (fun _ U o U' => ∃ v L, o = .returned v ∧ Q v U'.vm U'.heap ∧ CHr Z EL U.vm h U'.vm U'.heap ∧ Ext Z.heap U'.heap ∧ Fr Z.heap.size L ∧ ReturnedEndW U o U' L rm.cells rm.slots ∧ (nw = true → U.WarmedH U'.vm))
theorem Ctr.of_go {y : MethodName} {rm : Room} {as' : Array Value} {Q : Option Value → Vm → Heap → Prop} {L0 : Array Slot} (hpn : plainFor y = true) (hent : ∀ m, entryFrame m as' ml = mkF m 0 L0 [])
    (body : ∀ (p : Program) (e : Env) (s : State) (m : MethodId) (below : List Frame) (meth : Method) (c : Code) (vm1 : Vm), CHr Z EL vm h vm1 h → Go nw p l e rm s m as' below meth c code ml y.name ret Z a0 EL y.cls Q vm1 h 0 0 0 L0 []) : Ctr nw l Z a0 EL y code ml ret rm as' vm h Q := by
  intro ws
  refine MetFree.of_bodySF hpn hisR ?_
  intro p e s m args below meth c s₁ Bd hml0 hP hK
  obtain ⟨rfl, hZ, hh, hch, hext, hew⟩ := hP
  have e0 : s₁.heap = h := by rw [← hh, Bd.state]; rfl
  have X0 : Stand p l e rm (s.setVm s.vm) m args below meth c s₁ [] 0 0 := Stand.of_body Bd
  obtain ⟨s₂, v, st, h1, h2, h3, h4, hE, L', h5, h6, h7⟩ := body p e s m below meth c s.vm hch Bd.exec Bd.bytes hml0 Bd.notSynchronized (name_of_methodNamed Bd.named Bd.method).1 Bd.returns
    ⟨⟨0, (State.WarmedH.refl s).since _, Nat.zero_le _⟩, hZ, findClass_of_methodNamed Bd.named, hch.1, hext, hew, fun _ => State.WarmedH.refl s⟩ s₁ [] 0 0 X0 e0 (Fr.nil _) (Nat.le_refl _) (Nat.le_refl _)
  exact ⟨s₂, _, castTop (hent m) st, h1, h2, v, L', rfl, h3, h4, hE, h5, h6, h7⟩
/-- the callee's contract, as a call wants it -/
theorem Ctr.back {y : MethodName} {code' : ByteArray} {ml' : Nat} {ret' : Option FieldType} {rm : Room} {as' : Array Value} {Q : Option Value → Vm → Heap → Prop} {len W : Nat} (C : Ctr nw l Z a0 EL y code' ml' ret' rm as' vm h Q) (hon : On nw s m Z a0 EL own vm h)
    (wc : (Jvm.Cond.code y code' ml' ret').before a0 Z = true) (wz : (Jvm.Cond.initialized y.cls).before a0 Z = true) (hf : rm.frames + 1 ≤ R.frames) (hl : W + (ml' + 11) + rm.locals ≤ R.locals) :
    BackS l R p e below (s.setVm vm) args y len W (fun A a => a = as' ∧ A.U.heap = h ∧ A.cells + rm.cells ≤ R.cells ∧ A.slots + rm.slots ≤ R.slots)
      (fun A _ v B => ∃ L, Q v B.U.vm B.U.heap ∧ CHr Z EL vm h B.U.vm B.U.heap ∧ Ext Z.heap B.U.heap ∧ Fr Z.heap.size L ∧ B.locs = A.locs ++ L ∧ B.cells = A.cells + rm.cells ∧ B.slots = A.slots + rm.slots ∧ (nw = true → s.WarmedH B.U.vm)) := by
  obtain ⟨⟨k0, a1, a2⟩, a3, a4, a5, a6, a7, a8⟩ := hon
  refine BackS.of_freeW (bytes := code') (maxL := ml') (ret := ret') (E := fun _ first o t L k n => k = rm.cells ∧ n = rm.slots ∧ (∃ v, o = .returned v ∧ Q v t.vm t.heap) ∧ CHr Z EL first.vm h t.vm t.heap ∧ Ext Z.heap t.heap ∧ Fr Z.heap.size L ∧ (nw = true → first.WarmedH t.vm)) (C []) hf hl
    (fun m meth c A a Y hp => have hU : Z.Warmed39 A.U.vm := wtrans (s := s.setVm vm) a3 Y.warmed
      ⟨by show (Jvm.Cond.and _ .tt).before a A.U = true; rw [Cond.before_and, mv hU wc]; rfl, mv hU wc, mv hU wz, hp.2.2.1, hp.2.2.2⟩)
    (fun m meth c A a g mk Y hp => ⟨hp.1, wtrans (s := s.setVm vm) a3 Y.warmed, hp.2.1, (show CHr Z EL vm h A.U.vm h from CHv.at Y a3 a7 a5), a6, a7⟩) (fun _ _ _ _ _ _ _ _ _ => trivial)
    (fun _ _ _ _ ⟨v, L, h1, h2, h3, hE, h4, h5, h6⟩ => ⟨L, _, _, h5, rfl, rfl, ⟨v, h1, h2⟩, h3, hE, h4, h6⟩)
    (fun m meth c A a g mk v t L k n Y hp _ _ hE => ?_)
  obtain ⟨e1, e2, ⟨v', e3, e4⟩, e5, e5', e6, e7⟩ := hE
  cases e3; subst e1 e2
  refine ⟨L, e4, (CHv.at Y a3 a7 a5).trans e5, e5', e6, rfl, rfl, rfl, fun q => ?_⟩
  have w1 : s.WarmedH A.U.vm := State.WarmedH.trans (t := s.setVm vm) (a8 q) Y.warmed
  exact State.WarmedH.trans (t := A.U) w1 (e7 q)
/-- behind a call that a BackS pays -/
theorem Go.called {rm : Room} {Q : Option Value → Vm → Heap → Prop} {len pc' : Nat} {rest : List Value} (hp : pc + len = pc') (hk0 : k + rm.cells ≤ R.cells) (hn0 : n + rm.slots ≤ R.slots)
    (st : ∀ T locs cells slots, Stand p l e R (s.setVm vm) m args below meth c T locs cells slots → T.heap = h → p.tables.exec = Jvm.exec → c.code = code → c.maxLocals = ml → On nw s m Z a0 EL own vm h → cells + rm.cells ≤ R.cells → slots + rm.slots ≤ R.slots →
      ∃ (v : Option Value) (vm₁ : Vm) (B : Pt), (s.setVm vm).WarmedH vm₁ ∧ Stand p l e R ((s.setVm vm).setVm B.U.vm) m args below meth c B.U B.locs B.cells B.slots ∧ (s.setVm vm).Since B.U.vm B.U.heap.size ∧ T.heap.size ≤ B.U.heap.size ∧
        (∃ L, Q v B.U.vm B.U.heap ∧ CHr Z EL vm h B.U.vm B.U.heap ∧ Ext Z.heap B.U.heap ∧ Fr Z.heap.size L ∧ B.locs = locs ++ L ∧ B.cells = cells + rm.cells ∧ B.slots = slots + rm.slots ∧ (nw = true → s.WarmedH B.U.vm)) ∧
        Steps p.tables e below (T.setTop (mkF m pc L S)) (B.U.setTop { mkF m pc L S with pc := pc + len, stack := v.toList ++ rest }))
    (g : ∀ v vm' h', Q v vm' h' → CHr Z EL vm h vm' h' → Go nw p l e R s m args below meth c code ml nm ret Z a0 EL own P vm' h' (k + rm.cells) (n + rm.slots) pc' L (v.toList ++ rest)) : Go nw p l e R s m args below meth c code ml nm ret Z a0 EL own P vm h k n pc L S := by
  intro hx hc hm hl hnm hr hon T locs cells slots X hh hF hk hn
  obtain ⟨v, vm₁, B, -, X', hS, hg, ⟨L1, hQ, hC, hE, hFr, e1, e2, e3, hW⟩, st2⟩ := st T locs cells slots X hh hx hc hm hon (by omega) (by omega)
  obtain ⟨U, Ls, c1, s1⟩ := B
  dsimp only [Pt.U, Pt.locs, Pt.cells, Pt.slots] at X' hS hg hQ hC hE e1 e2 e3 hW st2
  subst e1 e2 e3 hp
  obtain ⟨⟨k0, a1, a2⟩, a3, a4, a5, a6, a7, a8⟩ := hon
  have hon' : On nw s m Z a0 EL own U.vm U.heap := ⟨⟨U.heap.size, a1.trans hS (Nat.le_trans a2 hC.2.1), Nat.le_refl _⟩, State.Warmed39.trans (t := s.setVm vm) a3 hS.1, (hS.1.alike.findClass _ _).trans a4, hC.1, hE, a7, hW⟩
  obtain ⟨s₂, v2, st3, r1, r2, r3, r4, r5⟩ := g v U.vm U.heap hQ hC hx hc hm hl hnm hr hon' U _ _ _ X' rfl (Fr.app hF hFr) (by omega) (by omega)
  exact ⟨s₂, v2, st2.trans st3, r1, r2, r3, hC.trans r4, r5⟩
theorem Go.invokestatic {idx : Nat} {y : MethodName} {code' : ByteArray} {ml' : Nat} {ret' : Option FieldType} {rm : Room} {Q : Option Value → Vm → Heap → Prop} {ps : List FieldType} {r : Option FieldType} {rest : List Value} (W : Nat) (argsL : List Value) (pc' : Nat) (hd : decode code pc = .ok (.invokestatic idx, 3)) (hp : pc + 3 = pc') (w1 : (Jvm.Cond.methodLink own idx y).before a0 Z = true) (w2 : (Jvm.Cond.static y).before a0 Z = true) (w3 : (Jvm.Cond.initialized y.cls).before a0 Z = true) (w4 : (Jvm.Cond.code y code' ml' ret').before a0 Z = true) (hy : y.cls ≠ "java/lang/invoke/MethodHandle" ∧ y.cls ≠ "java/lang/invoke/VarHandle")
    (C : Ctr nw l Z a0 EL y code' ml' ret' rm argsL.toArray vm h Q) (hdesc : parseMethodDescriptor y.desc = some ⟨ps, r⟩) (hlen : argsL.length = ps.length) (hst : S = argsL.reverse ++ rest) (hsz : L.size = ml) (hf : rm.frames + 1 ≤ R.frames) (hW : (rest.map fun v => v.category).sum ≤ W) (hl : W + (ml' + 11) + rm.locals ≤ R.locals) (hk0 : k + rm.cells ≤ R.cells) (hn0 : n + rm.slots ≤ R.slots)
    (g : ∀ v vm' h', Q v vm' h' → CHr Z EL vm h vm' h' → Go nw p l e R s m args below meth c code ml nm ret Z a0 EL own P vm' h' (k + rm.cells) (n + rm.slots) pc' L (v.toList ++ rest)) : Go nw p l e R s m args below meth c code ml nm ret Z a0 EL own P vm h k n pc L S := by
  refine Go.called (rm := rm) (Q := Q) (rest := rest) hp hk0 hn0 (fun T locs cells slots X hh hx hc hm hon q1 q2 => ?_) g
  exact callSS X hx hon.2.2.1 (mvT (s := s.setVm vm) hon.2.1 w1) (mvT (s := s.setVm vm) hon.2.1 w2) (mvT (s := s.setVm vm) hon.2.1 w3) (mvT (s := s.setVm vm) hon.2.1 w4) hy (C.back hon w4 w3 hf hl) (g := mkF m pc L S) rfl (hsz.trans hm.symm) (argsL := argsL) (rest := rest) (lenOf hdesc hlen) hst (by show 2 * 0 + _ ≤ _; omega) (hb hc hd) (fun _ _ => ⟨rfl, hh, q1, q2⟩)
theorem Go.invokespecial {idx : Nat} {y : MethodName} {code' : ByteArray} {ml' : Nat} {rm : Room} {Q : Option Value → Vm → Heap → Prop} {ps : List FieldType} {r : Option FieldType} {rest : List Value} (W : Nat) (a : Addr) (argsL : List Value) (pc' : Nat) (hd : decode code pc = .ok (.invokespecial idx, 3)) (hp : pc + 3 = pc') (hy1 : y.name = "<init>") (w1 : (Jvm.Cond.methodLink own idx y).before a0 Z = true) (w2 : (Jvm.Cond.instanceMethod y).before a0 Z = true) (w3 : (Jvm.Cond.initialized y.cls).before a0 Z = true) (w4 : (Jvm.Cond.code y code' ml' none).before a0 Z = true) (hy : y.cls ≠ "java/lang/invoke/MethodHandle" ∧ y.cls ≠ "java/lang/invoke/VarHandle")
    (C : Ctr nw l Z a0 EL y code' ml' none rm (.ref a :: argsL).toArray vm h Q) (hdesc : parseMethodDescriptor y.desc = some ⟨ps, r⟩) (hlen : argsL.length = ps.length) (hst : S = argsL.reverse ++ .ref a :: rest) (hsz : L.size = ml) (hf : rm.frames + 1 ≤ R.frames) (hW : (rest.map fun v => v.category).sum ≤ W) (hl : W + (ml' + 11) + rm.locals ≤ R.locals) (hk0 : k + rm.cells ≤ R.cells) (hn0 : n + rm.slots ≤ R.slots)
    (g : ∀ v vm' h', Q v vm' h' → CHr Z EL vm h vm' h' → Go nw p l e R s m args below meth c code ml nm ret Z a0 EL own P vm' h' (k + rm.cells) (n + rm.slots) pc' L (v.toList ++ rest)) : Go nw p l e R s m args below meth c code ml nm ret Z a0 EL own P vm h k n pc L S := by
  refine Go.called (rm := rm) (Q := Q) (rest := rest) hp hk0 hn0 (fun T locs cells slots X hh hx hc hm hon q1 q2 => ?_) g
  exact X.specialBackS hx hy1 hon.2.2.1 (mvT (s := s.setVm vm) hon.2.1 w1) (mvT (s := s.setVm vm) hon.2.1 w2) (mvT (s := s.setVm vm) hon.2.1 w4) hy (C.back hon w4 w3 hf hl) (g := mkF m pc L S) rfl (hsz.trans hm.symm) (Steps.refl _) (a := a) (argsL := argsL) (rest := rest) (lenOf hdesc hlen) hst (by show 2 * 0 + _ ≤ _; omega) (hb hc hd) (fun _ _ => ⟨rfl, hh, q1, q2⟩)
theorem Go.invokevirtual {idx : Nat} {y : MethodName} {code' : ByteArray} {ml' : Nat} {ret' : Option FieldType} {rm : Room} {Q : Option Value → Vm → Heap → Prop} {ps : List FieldType} {r : Option FieldType} {rest : List Value} {x : MethodName} {cls : String} (W : Nat) (a : Addr) (argsL : List Value) (pc' : Nat) (hd : decode code pc = .ok (.invokevirtual idx, 3)) (hp : pc + 3 = pc') (E : Exa Z h a cls) (w1 : (Jvm.Cond.methodLink own idx x).before a0 Z = true) (w2 : (Jvm.Cond.declares x).before a0 Z = true) (nf : ∀ s : State, Z.Warmed39 s.vm → NotFace s x) (ws : (Jvm.Cond.selects cls x y).before a0 Z = true) (wi : (Jvm.Cond.instanceMethod y).before a0 Z = true) (w3 : (Jvm.Cond.initialized y.cls).before a0 Z = true) (w4 : (Jvm.Cond.code y code' ml' ret').before a0 Z = true)
    (hy : x.cls ≠ "java/lang/invoke/MethodHandle" ∧ x.cls ≠ "java/lang/invoke/VarHandle") (C : Ctr nw l Z a0 EL y code' ml' ret' rm (.ref a :: argsL).toArray vm h Q) (hdesc : parseMethodDescriptor x.desc = some ⟨ps, r⟩) (hlen : argsL.length = ps.length) (hst : S = argsL.reverse ++ .ref a :: rest) (hsz : L.size = ml) (hf : rm.frames + 1 ≤ R.frames) (hW : (rest.map fun v => v.category).sum ≤ W) (hl : W + (ml' + 11) + rm.locals ≤ R.locals) (hk0 : k + rm.cells ≤ R.cells) (hn0 : n + rm.slots ≤ R.slots)
    (g : ∀ v vm' h', Q v vm' h' → CHr Z EL vm h vm' h' → Go nw p l e R s m args below meth c code ml nm ret Z a0 EL own P vm' h' (k + rm.cells) (n + rm.slots) pc' L (v.toList ++ rest)) : Go nw p l e R s m args below meth c code ml nm ret Z a0 EL own P vm h k n pc L S := by
  refine Go.called (rm := rm) (Q := Q) (rest := rest) hp hk0 hn0 (fun T locs cells slots X hh hx hc hm hon q1 q2 => ?_) g
  obtain ⟨cB, kB, b1, b2, b3⟩ := isOf (s := s.setVm vm) hon.2.1 hh E
  exact X.virtualBackS hx hon.2.2.1 (mvT (s := s.setVm vm) hon.2.1 w1) (mvT (s := s.setVm vm) hon.2.1 w2) (nf (s.setVm vm) hon.2.1) (mvT (s := s.setVm vm) hon.2.1 ws) (mvT (s := s.setVm vm) hon.2.1 wi) hy (C.back hon w4 w3 hf hl) b1 b3 (g := mkF m pc L S) rfl (hsz.trans hm.symm) (Steps.refl _) (argsL := argsL) (rest := rest) (lenOf hdesc hlen) hst (by show 2 * 0 + _ ≤ _; omega) (hb hc hd) (fun _ _ => ⟨rfl, hh, q1, q2⟩)
theorem On.keep {ws : List Addr} (hon : On nw s m Z a0 EL own vm h) (K : Keep h h' ws) (hs : ∀ x ∈ ws, Safe Z EL vm h x) (hz : ∀ x ∈ ws, Z.heap.size ≤ x) : On nw s m Z a0 EL own vm h' := by
  obtain ⟨⟨k0, a1, a2⟩, a3, a4, a5, a6, a7, a8⟩ := hon
  exact ⟨⟨k0, a1, Nat.le_trans a2 K.1⟩, a3, a4, a5.keep K hs, (Old.keep (Z := Z) ⟨rfl, a6⟩ K hz).2, a7, a8⟩
/-- behind a call that a Back pays: the tables' base as it was -/
theorem Go.calledB {Q : Option Value → Heap → List Loc → Prop} {dk dn len pc' : Nat} {rest : List Value} (hp : pc + len = pc') (hk0 : k + dk ≤ R.cells) (hn0 : n + dn ≤ R.slots)
    (st : ∀ T locs cells slots, Stand p l e R (s.setVm vm) m args below meth c T locs cells slots → T.heap = h → p.tables.exec = Jvm.exec → c.code = code → c.maxLocals = ml → On nw s m Z a0 EL own vm h → cells + dk ≤ R.cells → slots + dn ≤ R.slots →
      ∃ (v : Option Value) (vm₁ : Vm) (B : Pt), (s.setVm vm).WarmedH vm₁ ∧ Stand p l e R (s.setVm vm) m args below meth c B.U B.locs B.cells B.slots ∧ (∃ L, Q v B.U.heap L ∧ B.locs = locs ++ L ∧ B.cells = cells + dk ∧ B.slots = slots + dn) ∧
        Steps p.tables e below (T.setTop (mkF m pc L S)) (B.U.setTop { mkF m pc L S with pc := pc + len, stack := v.toList ++ rest }))
    (hQ : ∀ v h' lc, Q v h' lc → Fr Z.heap.size lc ∧ ∃ ws, Keep h h' ws ∧ (∀ x ∈ ws, Safe Z EL vm h x) ∧ ∀ x ∈ ws, Z.heap.size ≤ x)
    (g : ∀ v h' lc, Q v h' lc → CHr Z EL vm h vm h' → Go nw p l e R s m args below meth c code ml nm ret Z a0 EL own P vm h' (k + dk) (n + dn) pc' L (v.toList ++ rest)) : Go nw p l e R s m args below meth c code ml nm ret Z a0 EL own P vm h k n pc L S := by
  intro hx hc hm hl hnm hr hon T locs cells slots X hh hF hk hn
  obtain ⟨v, vm₁, B, -, X', ⟨L1, hq, e1, e2, e3⟩, st2⟩ := st T locs cells slots X hh hx hc hm hon (by omega) (by omega)
  obtain ⟨U, Ls, c1, s1⟩ := B
  dsimp only [Pt.U, Pt.locs, Pt.cells, Pt.slots] at X' hq e1 e2 e3 st2
  subst e1 e2 e3 hp
  obtain ⟨hFr, ws, K, hs, hz⟩ := hQ _ _ _ hq
  have ch : CHr Z EL vm h vm U.heap := CHr.keep K hs hon.2.2.2.1
  obtain ⟨s₂, v2, st3, r1, r2, r3, r4, r5⟩ := g v U.heap L1 hq ch hx hc hm hl hnm hr (hon.keep K hs hz) U _ _ _ X' rfl (Fr.app hF hFr) (by omega) (by omega)
  exact ⟨s₂, v2, st2.trans st3, r1, r2, r3, ch.trans r4, r5⟩
theorem Go.virtB {idx : Nat} {x y : MethodName} {cls : String} {Q : Option Value → Heap → List Loc → Prop} {dk dn : Nat} {ps : List FieldType} {r : Option FieldType} {rest : List Value} (W : Nat) (a : Addr) (argsL : List Value) (pc' : Nat) (hd : decode code pc = .ok (.invokevirtual idx, 3)) (hp : pc + 3 = pc') (E : Exa Z h a cls)
    (w1 : (Jvm.Cond.methodLink own idx x).before a0 Z = true) (w2 : (Jvm.Cond.declares x).before a0 Z = true) (nf : ∀ s : State, Z.Warmed39 s.vm → NotFace s x) (ws : (Jvm.Cond.selects cls x y).before a0 Z = true) (wi : (Jvm.Cond.instanceMethod y).before a0 Z = true) (hy : x.cls ≠ "java/lang/invoke/MethodHandle" ∧ x.cls ≠ "java/lang/invoke/VarHandle")
    (B : Z.Warmed39 (s.setVm vm).vm → Ext Z.heap h → Back l R p e below (s.setVm vm) args y 3 W (fun A as => as = (.ref a :: argsL).toArray ∧ A.U.heap = h ∧ A.cells + dk ≤ R.cells ∧ A.slots + dn ≤ R.slots) (fun A _ v B => ∃ L, Q v B.U.heap L ∧ B.locs = A.locs ++ L ∧ B.cells = A.cells + dk ∧ B.slots = A.slots + dn))
    (hdesc : parseMethodDescriptor x.desc = some ⟨ps, r⟩) (hlen : argsL.length = ps.length) (hst : S = argsL.reverse ++ .ref a :: rest) (hsz : L.size = ml) (hW : (rest.map fun v => v.category).sum ≤ W) (hk0 : k + dk ≤ R.cells) (hn0 : n + dn ≤ R.slots)
    (hQ : ∀ v h' lc, Q v h' lc → Fr Z.heap.size lc ∧ ∃ ws, Keep h h' ws ∧ (∀ x ∈ ws, Safe Z EL vm h x) ∧ ∀ x ∈ ws, Z.heap.size ≤ x) (g : ∀ v h' lc, Q v h' lc → CHr Z EL vm h vm h' → Go nw p l e R s m args below meth c code ml nm ret Z a0 EL own P vm h' (k + dk) (n + dn) pc' L (v.toList ++ rest)) : Go nw p l e R s m args below meth c code ml nm ret Z a0 EL own P vm h k n pc L S := by
  refine Go.calledB (rest := rest) hp hk0 hn0 (fun T locs cells slots X hh hx hc hm hon q1 q2 => ?_) hQ g
  obtain ⟨cB, kB, b1, b2, b3⟩ := isOf (s := s.setVm vm) hon.2.1 hh E
  exact X.virtualBack hx hon.2.2.1 (mvT (s := s.setVm vm) hon.2.1 w1) (mvT (s := s.setVm vm) hon.2.1 w2) (nf (s.setVm vm) hon.2.1) (mvT (s := s.setVm vm) hon.2.1 ws) (mvT (s := s.setVm vm) hon.2.1 wi) hy (B hon.2.1 hon.2.2.2.2.1) b1 b3 (g := mkF m pc L S) rfl (hsz.trans hm.symm) (Steps.refl _) (argsL := argsL) (rest := rest) (lenOf hdesc hlen) hst (by show 2 * 0 + _ ≤ _; omega) (hb hc hd) (fun _ _ => ⟨rfl, hh, q1, q2⟩)
theorem Go.specB {idx : Nat} {y : MethodName} {code' : ByteArray} {ml' : Nat} {Q : Option Value → Heap → List Loc → Prop} {dk dn : Nat} {ps : List FieldType} {r : Option FieldType} {rest : List Value} (W : Nat) (a : Addr) (argsL : List Value) (pc' : Nat) (hd : decode code pc = .ok (.invokespecial idx, 3)) (hp : pc + 3 = pc') (hy1 : y.name = "<init>")
    (w1 : (Jvm.Cond.methodLink own idx y).before a0 Z = true) (w2 : (Jvm.Cond.instanceMethod y).before a0 Z = true) (w4 : (Jvm.Cond.code y code' ml' none).before a0 Z = true) (hy : y.cls ≠ "java/lang/invoke/MethodHandle" ∧ y.cls ≠ "java/lang/invoke/VarHandle")
    (B : Z.Warmed39 (s.setVm vm).vm → Ext Z.heap h → Back l R p e below (s.setVm vm) args y 3 W (fun A as => as = (.ref a :: argsL).toArray ∧ A.U.heap = h ∧ A.cells + dk ≤ R.cells ∧ A.slots + dn ≤ R.slots) (fun A _ v B => ∃ L, Q v B.U.heap L ∧ B.locs = A.locs ++ L ∧ B.cells = A.cells + dk ∧ B.slots = A.slots + dn))
    (hdesc : parseMethodDescriptor y.desc = some ⟨ps, r⟩) (hlen : argsL.length = ps.length) (hst : S = argsL.reverse ++ .ref a :: rest) (hsz : L.size = ml) (hW : (rest.map fun v => v.category).sum ≤ W) (hk0 : k + dk ≤ R.cells) (hn0 : n + dn ≤ R.slots)
    (hQ : ∀ v h' lc, Q v h' lc → Fr Z.heap.size lc ∧ ∃ ws, Keep h h' ws ∧ (∀ x ∈ ws, Safe Z EL vm h x) ∧ ∀ x ∈ ws, Z.heap.size ≤ x) (g : ∀ v h' lc, Q v h' lc → CHr Z EL vm h vm h' → Go nw p l e R s m args below meth c code ml nm ret Z a0 EL own P vm h' (k + dk) (n + dn) pc' L (v.toList ++ rest)) : Go nw p l e R s m args below meth c code ml nm ret Z a0 EL own P vm h k n pc L S := by
  refine Go.calledB (rest := rest) hp hk0 hn0 (fun T locs cells slots X hh hx hc hm hon q1 q2 => ?_) hQ g
  exact X.specialBack hx hy1 hon.2.2.1 (mvT (s := s.setVm vm) hon.2.1 w1) (mvT (s := s.setVm vm) hon.2.1 w2) (mvT (s := s.setVm vm) hon.2.1 w4) hy (B hon.2.1 hon.2.2.2.2.1) (g := mkF m pc L S) rfl (hsz.trans hm.symm) (Steps.refl _) (a := a) (argsL := argsL) (rest := rest) (lenOf hdesc hlen) hst (by show 2 * 0 + _ ≤ _; omega) (hb hc hd) (fun _ _ => ⟨rfl, hh, q1, q2⟩)
/-- ldc of a String constant that EL lists, its text read -/
theorem Go.ldcS {idx : Nat} {text : String} {vs : List Value} {z : Int32} (cap : Nat) (pc' : Nat) (hd : decode code pc = .ok (.ldc idx, 2)) (hp : pc + 2 = pc') (hnw : nw = false) (w : (Jvm.Cond.stringLink own idx text).before a0 Z = true) (wS : ∀ a ∈ Bundle.stringAtoms, a.before a0 Z = true) (hmem : (own, idx) ∈ EL)
    (ht : (∀ c ∈ text.toList, c.toNat < 256) ∧ text.toList.map (fun c => Value.int (Jvm.Lit.byteI c.toNat.toUInt16)) = vs) (hz : ¬ z < 0) (hl : z.toNatClampNeg = vs.length) (hcap : 4 * text.toList.length ≤ cap) (hbig : cap ≤ 536870912) (hk0 : k + 2 ≤ R.cells) (hn0 : n + (cap + 4) ≤ R.slots)
    (g : ∀ (a b : Addr) (kb : ClassId) (vm' : Vm) (h' : Heap), Ext h h' → Exa Z h' a "java/lang/String" → Fld Z h' a "java/lang/String" "coder" "B" (.int 0) → Fld Z h' a "java/lang/String" "value" "[B" (.ref b) → Arv Z h' b kb .byte z vs (.int 0) → (∀ x, Safe Z EL vm' h' x → x ≠ a ∧ x ≠ b) → CHr Z EL vm h vm' h' → Go nw p l e R s m args below meth c code ml nm ret Z a0 EL own P vm' h' (k + 2) (n + (cap + 4)) pc' L (.ref a :: S)) : Go nw p l e R s m args below meth c code ml nm ret Z a0 EL own P vm h k n pc L S := by
  subst hp
  intro hx hc hm hl' hnm hr hon T locs cells slots X hh hF hk hn
  obtain ⟨⟨k0, a1, a2⟩, a3, a4, a5, a6, a7, a8⟩ := hon
  obtain ⟨a, T', h', k1, b, kb, X', e', E, hS, hk1, hZ', hf', A, C1, V1, K1, -, -, ch, -, hne, st⟩ := ldcCH X hx a3 a4 w wS hh a1 a2 a7 hmem a5 ht hz hl (g := mkF m pc L S) rfl (hb hc hd) hcap hbig (by omega) (by omega)
  have hon' : On nw s m Z a0 EL own T'.vm h' := ⟨⟨k1, hS, hk1⟩, hZ', hf', ch.1, ⟨Nat.le_trans a6.1 E.1, fun a c q => E.2 _ _ (a6.2 _ _ q)⟩, a7, fun q => by rw [hnw] at q; cases q⟩
  obtain ⟨s₂, v2, st3, r1, r2, r3, r4, r5⟩ := g a b kb T'.vm h' E A C1 V1 K1 hne ch hx hc hm hl' hnm hr hon' T' _ _ _ X' e' hF (by omega) (by omega)
  exact ⟨s₂, v2, st _ st3, r1, r2, r3, ch.trans r4, r5⟩
theorem Go.castY {K : String} {idx : Nat} {a : Addr} (pc' : Nat) (hd : decode code pc = .ok (.checkcast idx, 3)) (hp : pc + 3 = pc') (w : (Jvm.Cond.classLink own idx K).before a0 Z = true) (F : Ins Z h a K true) (g : Go nw p l e R s m args below meth c code ml nm ret Z a0 EL own P vm h k n pc' L (.ref a :: S)) : Go nw p l e R s m args below meth c code ml nm ret Z a0 EL own P vm h k n pc L (.ref a :: S) := by
  subst hp
  exact g.note fun T locs cells slots X hh hx hc hm hon => RoadKit.castY X hx hon.2.1 hon.2.2.1 w hh F (g := mkF m pc L (.ref a :: S)) rfl rfl (hb hc hd)
theorem Go.instY {K : String} {idx : Nat} {a : Addr} (pc' : Nat) (hd : decode code pc = .ok (.instanceof idx, 3)) (hp : pc + 3 = pc') (w : (Jvm.Cond.classLink own idx K).before a0 Z = true) (F : Ins Z h a K true) (g : Go nw p l e R s m args below meth c code ml nm ret Z a0 EL own P vm h k n pc' L (.int 1 :: S)) : Go nw p l e R s m args below meth c code ml nm ret Z a0 EL own P vm h k n pc L (.ref a :: S) := by
  subst hp
  exact g.note fun T locs cells slots X hh hx hc hm hon => RoadKit.instY X hx hon.2.1 hon.2.2.1 w hh F (g := mkF m pc L (.ref a :: S)) rfl rfl (hb hc hd)
theorem Go.instN {K C : String} {idx : Nat} {a : Addr} (pc' : Nat) (hd : decode code pc = .ok (.instanceof idx, 3)) (hp : pc + 3 = pc') (w : (Jvm.Cond.classLink own idx K).before a0 Z = true) (E : Exa Z h a C) (F : ∃ c t, Z.vm.findClass C = some c ∧ Z.vm.findClass K = some t ∧ Z.vm.assignable c t = false) (g : Go nw p l e R s m args below meth c code ml nm ret Z a0 EL own P vm h k n pc' L (.int 0 :: S)) : Go nw p l e R s m args below meth c code ml nm ret Z a0 EL own P vm h k n pc L (.ref a :: S) := by
  subst hp
  exact g.note fun T locs cells slots X hh hx hc hm hon => instNo X hx hon.2.1 hon.2.2.1 w hh E F (g := mkF m pc L (.ref a :: S)) rfl rfl (hb hc hd)
theorem Go.ldc2_w {idx : Nat} {v : Int64} (w : (Jvm.Cond.constantLong own idx v).before a0 Z = true) (pc' : Nat) (hd : decode code pc = .ok (.ldc2_w idx, 3)) (hp : pc + 3 = pc') (g : Go nw p l e R s m args below meth c code ml nm ret Z a0 EL own P vm h k n pc' L (.long v :: S)) : Go nw p l e R s m args below meth c code ml nm ret Z a0 EL own P vm h k n pc L S := by
  subst hp
  exact g.note fun T locs cells slots X hh hx hc hm hon => ⟨T, X, hh, fun target q => ldc2J X hx hon.2.2.1 (mvT (s := s.setVm vm) hon.2.1 w) (g := mkF m pc L S) rfl (hb hc hd) q⟩
theorem Go.instNull {idx : Nat} (pc' : Nat) (hd : decode code pc = .ok (.instanceof idx, 3)) (hp : pc + 3 = pc') (g : Go nw p l e R s m args below meth c code ml nm ret Z a0 EL own P vm h k n pc' L (.int 0 :: S)) : Go nw p l e R s m args below meth c code ml nm ret Z a0 EL own P vm h k n pc L (.null :: S) := by
  subst hp
  exact g.note fun T locs cells slots X hh hx hc hm hon => ⟨T, X, hh, instanceofNull X hx (g := mkF m pc L (.null :: S)) rfl rfl (hb hc hd)⟩
theorem Go.anewarray {C : String} {idx : Nat} {z : Int32} (cap : Nat) (pc' : Nat) (hd : decode code pc = .ok (.anewarray idx, 3)) (hp : pc + 3 = pc') (w1 : (Jvm.Cond.classLink own idx C).before a0 Z = true) (w2 : (Jvm.Cond.arrayOver (.object C)).before a0 Z = true) (hz : ¬ z < 0) (hcap : z.toNatClampNeg ≤ cap) (hb8 : cap * 8 ≤ 536870912) (hk0 : k + 1 ≤ R.cells) (hn0 : n + cap ≤ R.slots)
    (g : ∀ a h', a = h.size → Ext h h' → (∃ cA, Arv Z h' a cA (.object C) z [] .null ∧ Ovr Z cA C) → Safe Z EL vm h' a → Z.heap.size ≤ a → CHr Z EL vm h vm h' → Go nw p l e R s m args below meth c code ml nm ret Z a0 EL own P vm h' (k + 1) (n + cap) pc' L (.ref a :: S)) : Go nw p l e R s m args below meth c code ml nm ret Z a0 EL own P vm h k n pc L (.int z :: S) := by
  subst hp
  refine Go.made (dk := 1) (dn := cap) (S' := fun a => .ref a :: S) (F := fun h' a => ∃ cA, Arv Z h' a cA (.object C) z [] .null ∧ Ovr Z cA C) hk0 hn0 (fun T locs cells slots X hh hx hc hm hon q1 q2 => ?_) g
  obtain ⟨T', h', cA, X', e', E, A, O, st⟩ := newR X hx hon.2.1 hon.2.2.1 w1 w2 hh (g := mkF m pc L (.int z :: S)) rfl (hb hc hd) rfl hz hcap hb8 q1 q2
  exact ⟨T', h', X', e', E, ⟨cA, Arv.new A hz, O⟩, st⟩
theorem Go.aastore {a y : Addr} {kA : ClassId} {C : String} {z j : Int32} {vs : List Value} {dv : Value} (i : Nat) (vs' : List Value) (pc' : Nat) (hd : decode code pc = .ok (.aastore, 1)) (hp : pc + 1 = pc') (A : Arv Z h a kA (.object C) z vs dv) (O : Ovr Z kA C) (I : Ins Z h y C true) (hj : ¬ j < 0 ∧ j < z) (hi : j.toNatClampNeg = i) (hl : i < vs.length) (hvs : vs.set i (.ref y) = vs') (Sa : Safe Z EL vm h a) (hz : Z.heap.size ≤ a)
    (g : ∀ h', Keep h h' [a] → Arv Z h' a kA (.object C) z vs' dv → Safe Z EL vm h' a → CHr Z EL vm h vm h' → Go nw p l e R s m args below meth c code ml nm ret Z a0 EL own P vm h' k n pc' L S) : Go nw p l e R s m args below meth c code ml nm ret Z a0 EL own P vm h k n pc L (.ref y :: .int j :: .ref a :: S) := by
  subst hp hvs
  obtain ⟨cl, A1, A2, A3, A4, A5, A6⟩ := A
  have hin := inb_of A3 hj
  refine Go.wrote Sa hz (sl := j.toNatClampNeg) (w := .ref y) (fun T locs cells slots X hh hx hc hm hnm hon => ?_) (fun h' W s2 ch => g h' (Keep.of_wr W) (Arv.set A1 A2 A3 A4 A5 A6 rfl W i hi hl) s2 ch)
  exact stR X hx hon.2.1 hh A1 hin rfl (Sto.ofV A1 A2 O I) (g := mkF m pc L (.ref y :: .int j :: .ref a :: S)) rfl rfl (hb hc hd)
theorem Go.invokeinterface {idx : Nat} {y : MethodName} {code' : ByteArray} {ml' : Nat} {ret' : Option FieldType} {rm : Room} {Q : Option Value → Vm → Heap → Prop} {ps : List FieldType} {r : Option FieldType} {rest : List Value} {xi : MethodName} {cls : String} {cnt : Nat} (W : Nat) (a : Addr) (argsL : List Value) (pc' : Nat) (hd : decode code pc = .ok (.invokeinterface idx cnt, 5)) (hp : pc + 5 = pc') (E : Exa Z h a cls) (w1 : (Jvm.Cond.methodLink own idx xi).before a0 Z = true) (w2 : (Jvm.Cond.declares xi).before a0 Z = true) (wf : ∀ s' : State, Z.Warmed39 s'.vm → (Jvm.Cond.interfaceMethod xi.cls xi.cls xi.name xi.desc).before args s' = true) (ws : (Jvm.Cond.selects cls xi y).before a0 Z = true) (wi : (Jvm.Cond.instanceMethod y).before a0 Z = true) (wp : (Jvm.Cond.publicMethod y).before a0 Z = true) (wu : (Jvm.Cond.unhidden cls xi.name xi.desc).before a0 Z = true) (wc : (Jvm.Cond.castable cls xi.cls).before a0 Z = true) (w3 : (Jvm.Cond.initialized y.cls).before a0 Z = true) (w4 : (Jvm.Cond.code y code' ml' ret').before a0 Z = true)
    (hy : xi.cls ≠ "java/lang/invoke/MethodHandle" ∧ xi.cls ≠ "java/lang/invoke/VarHandle") (C : Ctr nw l Z a0 EL y code' ml' ret' rm (.ref a :: argsL).toArray vm h Q) (hdesc : parseMethodDescriptor xi.desc = some ⟨ps, r⟩) (hlen : argsL.length = ps.length) (hst : S = argsL.reverse ++ .ref a :: rest) (hsz : L.size = ml) (hf : rm.frames + 1 ≤ R.frames) (hW : (rest.map fun v => v.category).sum ≤ W) (hl : W + (ml' + 11) + rm.locals ≤ R.locals) (hk0 : k + rm.cells ≤ R.cells) (hn0 : n + rm.slots ≤ R.slots)
    (g : ∀ v vm' h', Q v vm' h' → CHr Z EL vm h vm' h' → Go nw p l e R s m args below meth c code ml nm ret Z a0 EL own P vm' h' (k + rm.cells) (n + rm.slots) pc' L (v.toList ++ rest)) : Go nw p l e R s m args below meth c code ml nm ret Z a0 EL own P vm h k n pc L S := by
  refine Go.called (rm := rm) (Q := Q) (rest := rest) hp hk0 hn0 (fun T locs cells slots X hh hx hc hm hon q1 q2 => ?_) g
  obtain ⟨cB, kB, b1, b2, b3⟩ := isOf (s := s.setVm vm) hon.2.1 hh E
  exact X.interfaceBackS hx hon.2.2.1 (mvT (s := s.setVm vm) hon.2.1 w1) (mvT (s := s.setVm vm) hon.2.1 w2) (wf (s.setVm vm) hon.2.1) (mvT (s := s.setVm vm) hon.2.1 ws) (mvT (s := s.setVm vm) hon.2.1 wi) (mvT (s := s.setVm vm) hon.2.1 wp) (mvT (s := s.setVm vm) hon.2.1 wu) (mvT (s := s.setVm vm) hon.2.1 wc) hy (C.back hon w4 w3 hf hl) b1 b2 b3 (g := mkF m pc L S) rfl (hsz.trans hm.symm) (Steps.refl _) (argsL := argsL) (rest := rest) (lenOf hdesc hlen) hst (by show 2 * 0 + _ ≤ _; omega) (hb hc hd) (fun _ _ => ⟨rfl, hh, q1, q2⟩)
theorem Go.ldcI {idx : Nat} {v : Int32} (w : (Jvm.Cond.constant own idx v).before a0 Z = true) (pc' : Nat) (hd : decode code pc = .ok (.ldc idx, 2)) (hp : pc + 2 = pc') (g : Go nw p l e R s m args below meth c code ml nm ret Z a0 EL own P vm h k n pc' L (.int v :: S)) : Go nw p l e R s m args below meth c code ml nm ret Z a0 EL own P vm h k n pc L S := by
  subst hp
  exact g.note fun T locs cells slots X hh hx hc hm hon => ⟨T, X, hh, fun target q => Jvm.Stand.ldcI X hx hon.2.2.1 (mvT (s := s.setVm vm) hon.2.1 w) (g := mkF m pc L S) rfl (hb hc hd) q⟩
theorem Go.super {idx : Nat} {y : MethodName} {code' : ByteArray} {ml' : Nat} {ret' : Option FieldType} {rm : Room} {Q : Option Value → Vm → Heap → Prop} {ps : List FieldType} {r : Option FieldType} {rest : List Value} {K : String} (W : Nat) (a : Addr) (argsL : List Value) (pc' : Nat) (hd : decode code pc = .ok (.invokespecial idx, 3)) (hp : pc + 3 = pc') (hy1 : y.name ≠ "<init>") (w1 : (Jvm.Cond.methodLink own idx y).before a0 Z = true) (w2 : (Jvm.Cond.sameMethod y.cls y.cls y.name y.desc).before a0 Z = true) (wi : (Jvm.Cond.instanceMethod y).before a0 Z = true) (w5 : (Jvm.Cond.superclass own y.cls).before a0 Z = true) (w3 : (Jvm.Cond.initialized y.cls).before a0 Z = true) (w4 : (Jvm.Cond.code y code' ml' ret').before a0 Z = true) (F : Ins Z h a K true)
    (C : Ctr nw l Z a0 EL y code' ml' ret' rm (.ref a :: argsL).toArray vm h Q) (hdesc : parseMethodDescriptor y.desc = some ⟨ps, r⟩) (hlen : argsL.length = ps.length) (hst : S = argsL.reverse ++ .ref a :: rest) (hsz : L.size = ml) (hf : rm.frames + 1 ≤ R.frames) (hW : (rest.map fun v => v.category).sum ≤ W) (hl : W + (ml' + 11) + rm.locals ≤ R.locals) (hk0 : k + rm.cells ≤ R.cells) (hn0 : n + rm.slots ≤ R.slots)
    (g : ∀ v vm' h', Q v vm' h' → CHr Z EL vm h vm' h' → Go nw p l e R s m args below meth c code ml nm ret Z a0 EL own P vm' h' (k + rm.cells) (n + rm.slots) pc' L (v.toList ++ rest)) : Go nw p l e R s m args below meth c code ml nm ret Z a0 EL own P vm h k n pc L S := by
  refine Go.called (rm := rm) (Q := Q) (rest := rest) hp hk0 hn0 (fun T locs cells slots X hh hx hc hm hon q1 q2 => ?_) g
  exact superBackS X hx hon.2.1 hon.2.2.1 w1 w2 wi w5 hy1 (C.back hon w4 w3 hf hl) hh F (g := mkF m pc L S) rfl (hsz.trans hm.symm) w4 (argsL := argsL) (rest := rest) (lenOf hdesc hlen) hst (by show 2 * 0 + _ ≤ _; omega) (hb hc hd) (fun _ _ => ⟨rfl, hh, q1, q2⟩)
/-- declares, of a body with code -/
theorem declares_of {args : Array Value} {s : State} {y : MethodName} {bytes : ByteArray} {maxL : Nat} {ret : Option FieldType} (wi : (Jvm.Cond.instanceMethod y).before args s = true) (wc : (Jvm.Cond.code y bytes maxL ret).before args s = true) : (Jvm.Cond.declares y).before args s = true := by
  obtain ⟨mk, methM, hnamed, hmethM, hstM, habM⟩ := Cond.instanceMethod_spec wi
  obtain ⟨m2, cM, q1, -, -, -, -, -, -, hsig⟩ := Cond.code_spec hnamed wc
  cases hmethM.symm.trans q1
  simp [Cond.before, Cond.holds, Cond.value, hnamed, hmethM, hstM, hsig]
theorem same_of {args : Array Value} {s : State} {K : String} {y g : MethodName} (wi : (Jvm.Cond.instanceMethod y).before args s = true) (ws : (Jvm.Cond.selects K g g).before args s = true) (e : g.cls = y.cls) (hy : y.cls ≠ "java/lang/invoke/MethodHandle" ∧ y.cls ≠ "java/lang/invoke/VarHandle") : (Jvm.Cond.sameMethod y.cls y.cls y.name y.desc).before args s = true := by
  obtain ⟨mk, methM, hnamed, hmethM, hstM, habM⟩ := Cond.instanceMethod_spec wi
  obtain ⟨c2, r2, m2, q1, q2, q3, q4, kP, hkP, hkPi⟩ := Cond.selects_spec ws
  have f1 := findClass_of_methodNamed hnamed
  have f2 := findClass_of_methodNamed q3
  rw [e] at f2
  have f3 : m2.cls = mk.cls := Option.some.inj (f2.symm.trans f1)
  rw [f3] at hkP
  have f4 := State.methodFound?_of_named hnamed hy
  simp [Cond.before, Cond.holds, Cond.value, f1, f4, hnamed, hkP, hkPi]
/-- the cell that a copy leaves -/
theorem Arv.copied {dst : Addr} {k2 : ClassId} {z1 z2 : Int32} {vs ws vs' : List Value} {d1 d2 : Value} {cs cd : Cell} {o q z : Nat}
    (A : Has cs vs d1) (A3 : cs.slots.size = z1.toNatClampNeg) (A6 : ∀ i, i < cs.slots.size → fits .byte (vs.getD i d1) = true)
    (B : Arr Z h dst cd .byte) (B2 : cd.cls = k2) (B3 : cd.slots.size = z2.toNatClampNeg) (B4 : ¬ z2 < 0) (B5 : Has cd ws d2) (B6 : ∀ i, i < cd.slots.size → fits .byte (ws.getD i d2) = true)
    (hz1 : z1.toNatClampNeg < 2 ^ 31) (hz2 : z2.toNatClampNeg < 2 ^ 31) (q1 : o + z ≤ z1.toNatClampNeg) (q2 : q + z ≤ z2.toNatClampNeg)
    (hv : ∀ i, i < z2.toNatClampNeg → vs'.getD i d2 = if q ≤ i ∧ i < q + z then vs.getD (o + (i - q)) d1 else ws.getD i d2) :
    Keep h (h.setIfInBounds dst (Jvm.copied cs cd (Int32.ofNat o) (Int32.ofNat q) (Int32.ofNat z))) [dst] ∧ Arv Z (h.setIfInBounds dst (Jvm.copied cs cd (Int32.ofNat o) (Int32.ofNat q) (Int32.ofNat z))) dst k2 .byte z2 vs' d2 := by
  obtain ⟨f1, f2, f3⟩ := Jvm.Free.SB.copied_facts cs cd (Int32.ofNat o) (Int32.ofNat q) (Int32.ofNat z)
  have hlt : dst < h.size := B.lt
  have hg : ∀ j, (Jvm.copied cs cd (Int32.ofNat o) (Int32.ofNat q) (Int32.ofNat z)).slots[j]? = if q ≤ j ∧ j < q + z then some (cs.slots.getD (o + (j - q)) .null) else cd.slots[j]? :=
    fun j => Jvm.Free.Str.copied_at2 (by omega) (by omega) (by omega) (by omega) j
  refine ⟨⟨by simp, fun x c0 hx hn => ?_, fun x c0 hx => ?_⟩, ⟨Jvm.copied cs cd (Int32.ofNat o) (Int32.ofNat q) (Int32.ofNat z), ⟨by simp [hlt], ⟨fun kk => by rw [f2]; exact B.2.1.1 kk, by rw [f1]; exact B.2.1.2⟩, by rw [f2]; exact B.2.2⟩, by rw [f1]; exact B2, by rw [f3]; exact B3, B4, fun i hi => ?_, fun i hi => ?_⟩⟩
  · rw [Array.getElem?_setIfInBounds_ne (fun e => hn (by simp [e]))]; exact hx
  · by_cases e : dst = x
    · subst e
      refine ⟨Jvm.copied cs cd (Int32.ofNat o) (Int32.ofNat q) (Int32.ofNat z), by simp [hlt], ?_⟩
      cases hx.symm.trans B.1
      exact ⟨f1, f2, f3⟩
    · exact ⟨c0, by rw [Array.getElem?_setIfInBounds_ne e]; exact hx, rfl, rfl, rfl⟩
  · rw [f3, B3] at hi
    rw [hg, hv i hi]
    by_cases e : q ≤ i ∧ i < q + z
    · rw [if_pos e, if_pos e]
      have := A (o + (i - q)) (by omega)
      simp [Array.getD_eq_getD_getElem?, this]
    · rw [if_neg e, if_neg e]; exact B5 i (by omega)
  · rw [f3, B3] at hi
    rw [hv i hi]
    by_cases e : q ≤ i ∧ i < q + z
    · rw [if_pos e]; exact A6 _ (by omega)
    · rw [if_neg e]; exact B6 _ (by omega)
theorem clamp_lt (z : Int32) : z.toNatClampNeg < 2 ^ 31 := by
  have h2 := z.toInt_lt
  simp only [Int32.toNatClampNeg] at *; omega
/-- invokestatic System.arraycopy on bytes, into an array made in this walk -/
theorem Go.acopy {idx : Nat} {src dst : Addr} {k1 k2 : ClassId} {z1 z2 : Int32} {vs ws : List Value} {d1 d2 : Value} {rest : List Value} (o q z : Nat) (vs' : List Value) (pc' : Nat) (hd : decode code pc = .ok (.invokestatic idx, 3)) (hp : pc + 3 = pc')
    (w1 : (Jvm.Cond.methodLink own idx Jvm.Stand.acN).before a0 Z = true) (w2 : (Jvm.Cond.native Jvm.Stand.acN).before a0 Z = true) (w3 : (Jvm.Cond.static Jvm.Stand.acN).before a0 Z = true) (w4 : (Jvm.Cond.initialized "java/lang/System").before a0 Z = true)
    (A : Arv Z h src k1 .byte z1 vs d1) (B : Arv Z h dst k2 .byte z2 ws d2) (q1 : o + z ≤ z1.toNatClampNeg) (q2 : q + z ≤ z2.toNatClampNeg)
    (hv : ∀ i, i < z2.toNatClampNeg → vs'.getD i d2 = if q ≤ i ∧ i < q + z then vs.getD (o + (i - q)) d1 else ws.getD i d2)
    (hst : S = .int (Int32.ofNat z) :: .int (Int32.ofNat q) :: .ref dst :: .int (Int32.ofNat o) :: .ref src :: rest) (hsz : L.size = ml) (hfr : 1 ≤ R.frames) (hlo : (rest.map fun v => v.category).sum + 18 ≤ R.locals)
    (Sa : Safe Z EL vm h dst) (hz : Z.heap.size ≤ dst) (g : ∀ h', Keep h h' [dst] → Arv Z h' dst k2 .byte z2 vs' d2 → Safe Z EL vm h' dst → CHr Z EL vm h vm h' → Go nw p l e R s m args below meth c code ml nm ret Z a0 EL own P vm h' k n pc' L (rest)) : Go nw p l e R s m args below meth c code ml nm ret Z a0 EL own P vm h k n pc L (S) := by
  subst hp hst
  intro hx hc hm hl hnm hr hon T locs cells slots X hh hF hk hn
  have hlt := B.lt
  obtain ⟨cs, A1, A2, A3, A4, A5, A6⟩ := A
  obtain ⟨cd, B1, B2, B3, B4, B5, B6⟩ := B
  have l1 := clamp_lt z1
  have l2 := clamp_lt z2
  have to : ∀ x : Nat, x < 2 ^ 31 → (Int32.ofNat x).toNatClampNeg = x := fun x hx => Int32.toNatClampNeg_ofNat_of_lt hx
  have tI : ∀ x : Nat, x < 2 ^ 31 → (Int32.ofNat x).toInt = x := fun x hx => Int32.toInt_ofNat_of_lt hx
  have tn : ∀ x : Nat, x < 2 ^ 31 → ¬ Int32.ofNat x < 0 := fun x hx => by rw [Int32.lt_iff_toInt_lt, tI x hx]; have e1 : (0 : Int32).toInt = 0 := rfl; omega
  obtain ⟨ks, c1, comp1, c2⟩ := (State.isArrayOf_alike (s := Z) (T := s.setVm vm) hon.2.1.alike A1.2.1).2
  obtain ⟨kd, e1, comp2, e2⟩ := (State.isArrayOf_alike (s := Z) (T := s.setVm vm) hon.2.1.alike B1.2.1).2
  obtain ⟨K, AB⟩ := Arv.copied (o := o) (q := q) (z := z) A5 A3 A6 B1 B2 B3 B4 B5 B6 l1 l2 q1 q2 hv
  obtain ⟨vm₁, -, X', st⟩ := Jvm.Stand.arraycopyK X hx hon.2.2.1 (mvT (s := s.setVm vm) hon.2.1 w1) (mvT (s := s.setVm vm) hon.2.1 w2) (mvT (s := s.setVm vm) hon.2.1 w3) (mvT (s := s.setVm vm) hon.2.1 w4)
    (src := src) (dst := dst) (srcPos := Int32.ofNat o) (destPos := Int32.ofNat q) (n := Int32.ofNat z) (cs := cs) (cd := cd) (by rw [hh]; exact A1.1) (by rw [hh]; exact B1.1) A1.2.1.1 B1.2.1.1 A1.2.2 B1.2.2 c1 e1 c2 e2 (by decide) (tn _ (by omega)) (tn _ (by omega)) (tn _ (by omega))
    (by rw [tI _ (by omega), tI _ (by omega)]; omega) (by rw [tI _ (by omega), tI _ (by omega)]; omega)
    (fun vm₁ _ i hi => by
      rw [to _ (by omega)] at hi
      rw [to _ (by omega)]
      have a := A5 (o + i) (by omega)
      have b := A6 (o + i) (by omega)
      have e : cs.slots.getD (o + i) .null = vs.getD (o + i) d1 := by simp [Array.getD_eq_getD_getElem?, a]
      rw [e]
      refine ⟨b, ?_⟩
      generalize vs.getD (o + i) d1 = u at b
      cases u <;> simp [fits] at b <;> trivial)
    (g := mkF m pc L (.int (Int32.ofNat z) :: .int (Int32.ofNat q) :: .ref dst :: .int (Int32.ofNat o) :: .ref src :: rest)) rfl (hsz.trans hm.symm) (rest := rest) rfl (hb hc hd) hfr (by show 2 * 0 + _ + _ ≤ _; rw [nativeFrameWords_plain 5 (by decide)]; omega)
  have hU : ((T.setVm vm₁).setCell dst (Jvm.copied cs cd (Int32.ofNat o) (Int32.ofNat q) (Int32.ofNat z))).heap = h.setIfInBounds dst (Jvm.copied cs cd (Int32.ofNat o) (Int32.ofNat q) (Int32.ofNat z)) := by rw [← hh]; rfl
  have hs : ∀ x ∈ [dst], Safe Z EL vm h x := fun x hx => by cases List.mem_singleton.mp hx; exact Sa
  have hz' : ∀ x ∈ [dst], Z.heap.size ≤ x := fun x hx => by cases List.mem_singleton.mp hx; exact hz
  have ch : CHr Z EL vm h vm (h.setIfInBounds dst (Jvm.copied cs cd (Int32.ofNat o) (Int32.ofNat q) (Int32.ofNat z))) := CHr.keep K hs hon.2.2.2.1
  obtain ⟨s₂, v2, st3, r1, r2, r3, r4, r5⟩ := g _ K AB (CHr.safe ch hlt Sa) ch hx hc hm hl hnm hr (hon.keep K hs hz') _ _ _ _ X' hU (Fr.app hF fun y hy => by rw [Jvm.Stand.copyLocs_base hy]; exact hz) hk hn
  exact ⟨s₂, v2, st _ st3, r1, r2, r3, ch.trans r4, r5⟩

theorem Go.newarrayE {aty : ArrayType} {z : Int32} {ad : String} (had : "[" ++ (newarray.typeOf aty).toString = ad) (cap : Nat) (pc' : Nat) (hd : decode code pc = .ok (.newarray aty, 2)) (hp : pc + 2 = pc') (w : (Cond.arrayClass (newarray.typeOf aty)).before a0 Z = true) (hz : ¬ z < 0) (hcap : z.toNatClampNeg ≤ cap) (hb8 : cap * 8 ≤ 536870912) (hk0 : k + 1 ≤ R.cells) (hn0 : n + cap ≤ R.slots)
    (g : ∀ a h', a = h.size → Ext h h' → (∃ cA, Arv Z h' a cA (newarray.typeOf aty) z [] (defaultValue (newarray.typeOf aty)) ∧ Exa Z h' a ad) → Safe Z EL vm h' a → Z.heap.size ≤ a → CHr Z EL vm h vm h' → Go nw p l e R s m args below meth c code ml nm ret Z a0 EL own P vm h' (k + 1) (n + cap) pc' L (.ref a :: S)) : Go nw p l e R s m args below meth c code ml nm ret Z a0 EL own P vm h k n pc L (.int z :: S) := by
  subst hp
  refine Go.made (dk := 1) (dn := cap) (S' := fun a => .ref a :: S) (F := fun h' a => ∃ cA, Arv Z h' a cA (newarray.typeOf aty) z [] (defaultValue (newarray.typeOf aty)) ∧ Exa Z h' a ad) hk0 hn0 (fun T locs cells slots X hh hx hc hm hon q1 q2 => ?_) g
  obtain ⟨T', h', cA, X', e', E, A, Ex, st⟩ := newPE X hx hon.2.1 w hh (g := mkF m pc L (.int z :: S)) rfl (hb hc hd) rfl hz hcap hb8 q1 q2 had
  exact ⟨T', h', X', e', E, ⟨cA, Arv.new A hz, Ex⟩, st⟩
/-- invokevirtual clone() on an array -/
theorem Go.clone {idx : Nat} {ad : String} {a : Addr} {kA : ClassId} {ty : FieldType} {z : Int32} {vs : List Value} {dv : Value} {rest : List Value} (Wk cap : Nat) (pc' : Nat) (hd : decode code pc = .ok (.invokevirtual idx, 3)) (hp : pc + 3 = pc')
    (w1 : (Jvm.Cond.methodLink own idx ⟨ad, "clone", "()Ljava/lang/Object;"⟩).before a0 Z = true) (w2 : (Jvm.Cond.sameMethod ad "java/lang/Object" "clone" "()Ljava/lang/Object;").before a0 Z = true) (w3 : (Jvm.Cond.native ⟨"java/lang/Object", "clone", "()Ljava/lang/Object;"⟩).before a0 Z = true)
    (w4 : (Jvm.Cond.instanceMethod ⟨"java/lang/Object", "clone", "()Ljava/lang/Object;"⟩).before a0 Z = true) (w5 : (Jvm.Cond.selects ad ⟨ad, "clone", "()Ljava/lang/Object;"⟩ ⟨"java/lang/Object", "clone", "()Ljava/lang/Object;"⟩).before a0 Z = true) (w6 : (Jvm.Cond.castable ad "java/lang/Cloneable").before a0 Z = true)
    (A : Arv Z h a kA ty z vs dv) (E : Exa Z h a ad) (hst : S = .ref a :: rest) (hsz : L.size = ml) (hW : (rest.map fun v => v.category).sum ≤ Wk) (hfr : 1 ≤ R.frames) (hlo : Wk + 14 ≤ R.locals) (hcap : z.toNatClampNeg ≤ cap) (hk0 : k + 1 ≤ R.cells) (hn0 : n + cap ≤ R.slots)
    (g : ∀ r h', r = h.size → Ext h h' → (Arv Z h' r kA ty z vs dv ∧ Exa Z h' r ad) → Safe Z EL vm h' r → Z.heap.size ≤ r → CHr Z EL vm h vm h' → Go nw p l e R s m args below meth c code ml nm ret Z a0 EL own P vm h' (k + 1) (n + cap) pc' L (.ref r :: rest)) : Go nw p l e R s m args below meth c code ml nm ret Z a0 EL own P vm h k n pc L S := by
  subst hp hst
  refine Go.made (dk := 1) (dn := cap) (S' := fun a => .ref a :: rest) (F := fun h' r => Arv Z h' r kA ty z vs dv ∧ Exa Z h' r ad) hk0 hn0 (fun T locs cells slots X hh hx hc hm hon q1 q2 => ?_) g
  obtain ⟨T', h', X', e', E1, A1, E2, st⟩ := cloneH X hx hon.2.1 hon.2.2.1 w1 w2 w3 w4 w5 w6 hh A.arh E (g := mkF m pc L (.ref a :: rest)) rfl (hsz.trans hm.symm) rfl (hb hc hd) hfr (W := Wk) (cap := cap) (by show 2 * 0 + _ ≤ _; omega) hlo hcap q1 q2
  exact ⟨T', h', X', e', E1, ⟨A1, E2⟩, st⟩
/-- castore at the end of what a char[] holds -/
theorem Go.pushC {a : Addr} {kA : ClassId} {z j x : Int32} (xs : List Int32) (N : Nat) (pc' : Nat) (hd : decode code pc = .ok (.castore, 1)) (hp : pc + 1 = pc') (A : Arv Z h a kA .char z (xs.map Value.int) (.int 0)) (hN : z.toNatClampNeg = N) (hj : j = Int32.ofNat xs.length) (hl : xs.length < N) (hx1 : nar .char x = x) (Sa : Safe Z EL vm h a) (hz : Z.heap.size ≤ a)
    (g : ∀ h', Keep h h' [a] → Arv Z h' a kA .char z ((xs ++ [x]).map Value.int) (.int 0) → Safe Z EL vm h' a → CHr Z EL vm h vm h' → Go nw p l e R s m args below meth c code ml nm ret Z a0 EL own P vm h' k n pc' L S) : Go nw p l e R s m args below meth c code ml nm ret Z a0 EL own P vm h k n pc L (.int x :: .int j :: .ref a :: S) := by
  have hlt := clamp_lt z
  have c1 : j.toNatClampNeg = xs.length := by rw [hj]; exact Int32.toNatClampNeg_ofNat_of_lt (by omega)
  have A' : Arv Z h a kA .char z (xs.map Value.int ++ [.int 0]) (.int 0) := A.pad (pad_rep _ _ 1)
  have hneg : ¬ z < 0 := by obtain ⟨_, _, _, _, q, _⟩ := A; exact q
  refine Go.castore xs.length x ((xs ++ [x]).map Value.int) pc' hd hp A' ⟨?_, ?_⟩ c1 (by simp) hx1 (by simp) Sa hz g
  · rw [hj, Int32.lt_iff_toInt_lt, Int32.toInt_ofNat_of_lt (by omega)]; have e1 : (0 : Int32).toInt = 0 := rfl; omega
  · rw [hj, Int32.lt_iff_toInt_lt, Int32.toInt_ofNat_of_lt (by omega)]
    have e1 : (0 : Int32).toInt = 0 := rfl
    rw [Int32.lt_iff_toInt_lt] at hneg
    have e2 : z.toNatClampNeg = z.toInt.toNat := rfl
    omega
theorem Go.switchHit {k0 : Int32} {df : Int} {prs : Array (Int × Int)} {len : Nat} {a off : Int} (pc' : Nat) (hd : decode code pc = .ok (.lookupswitch df prs, len)) (hs : (prs.toList.zip (prs.toList.drop 1)).all (fun (a, next) => a.1 < next.1) = true) (hf : prs.find? (·.1 == k0.toInt) = some (a, off)) (ho : 0 ≤ (pc : Int) + off) (hp : ((pc : Int) + off).toNat = pc') (g : Go nw p l e R s m args below meth c code ml nm ret Z a0 EL own P vm h k n pc' L S) : Go nw p l e R s m args below meth c code ml nm ret Z a0 EL own P vm h k n pc L (.int k0 :: S) := by
  subst hp
  exact g.note fun T locs cells slots X hh hx hc hm hon => ⟨T, X, hh, fun target q => Jvm.Stand.lookupswitchHit X hx (g := mkF m pc L (.int k0 :: S)) rfl rfl (hb hc hd) hs hf ho target q⟩
theorem Go.switchMiss {k0 : Int32} {df : Int} {prs : Array (Int × Int)} {len : Nat} (pc' : Nat) (hd : decode code pc = .ok (.lookupswitch df prs, len)) (hs : (prs.toList.zip (prs.toList.drop 1)).all (fun (a, next) => a.1 < next.1) = true) (hf : prs.find? (·.1 == k0.toInt) = none) (ho : 0 ≤ (pc : Int) + df) (hp : ((pc : Int) + df).toNat = pc') (g : Go nw p l e R s m args below meth c code ml nm ret Z a0 EL own P vm h k n pc' L S) : Go nw p l e R s m args below meth c code ml nm ret Z a0 EL own P vm h k n pc L (.int k0 :: S) := by
  subst hp
  exact g.note fun T locs cells slots X hh hx hc hm hon => ⟨T, X, hh, fun target q => Jvm.Stand.lookupswitchMiss X hx (g := mkF m pc L (.int k0 :: S)) rfl rfl (hb hc hd) hs hf ho target q⟩
end Core
end Jvm.Own

namespace Jvm.Own
open Sem ClassFile Op Lib Bundle Jvm.Stand Jvm.Free Jvm.LawKit Jvm.RoadKit
section Facts
variable {Z : State} {a0 : Array Value} {EL : List (String × Nat)} {vm vm' : Vm} {h h' h0 h1 h2 : Heap} {a b x : Addr} {cs ds : List Int32} {ws : List Addr} {C : String} {n : Nat}
theorem Ext.rfl' (h : Heap) : Ext h h := ⟨Nat.le_refl _, fun _ _ q => q⟩
theorem Ext.tr (E : Ext h h1) (F : Ext h1 h2) : Ext h h2 := ⟨Nat.le_trans E.1 F.1, fun a c q => F.2 _ _ (E.2 _ _ q)⟩
/-- only new cells written: from the old heap's side nothing has changed -/
theorem Ext.kp (E : Ext h h1) (K : Keep h1 h2 ws) (q : ∀ x ∈ ws, h.size ≤ x) : Ext h h2 :=
  ⟨Nat.le_trans E.1 K.1, fun a c r => K.2.1 a c (E.2 _ _ r) fun z => absurd (Array.getElem?_eq_some_iff.mp r).1 (Nat.not_lt.mpr (q a z))⟩
theorem Ext.kp1 (E : Ext h h1) (K : Keep h1 h2 [x]) (e : x = h.size) : Ext h h2 := Ext.kp E K fun y hy => by cases List.mem_singleton.mp hy; exact Nat.le_of_eq e.symm
theorem Ext.kq1 (E : Ext h h1) (K : Keep h1 h2 [x]) (e : h.size ≤ x) : Ext h h2 := Ext.kp E K fun y hy => by cases List.mem_singleton.mp hy; exact e
theorem Ext.wr1 {sl : Nat} {v : Value} (E : Ext h h1) (W : Wr h1 h2 x sl v) (e : h.size ≤ x) : Ext h h2 := Ext.kq1 E (Keep.of_wr W) e
theorem Keep.ofExt (E : Ext h h') (ws : List Addr) : Keep h h' ws := (Keep.refl h ws).ext E
theorem Keep.e0 (K : Keep h h' []) : Ext h h' := ⟨K.1, fun a c q => K.2.1 a c q nin0⟩
theorem ne_of_new (q : a < h.size) (r : h.size ≤ b) : a ≠ b := Nat.ne_of_lt (Nat.lt_of_lt_of_le q r)
/-- a Latin-1 String of these chars -/
def Str (Z : State) (h : Heap) (a : Addr) (cs : List Int32) : Prop :=
  ∃ (b : Addr) (kb : ClassId), Exa Z h a "java/lang/String" ∧ Fld Z h a "java/lang/String" "coder" "B" (.int 0) ∧ Fld Z h a "java/lang/String" "value" "[B" (.ref b) ∧
    Arv Z h b kb .byte (Int32.ofNat cs.length) ((cs.map fun c => c.toInt8.toInt32).map Value.int) (.int 0) ∧ cs.length ≤ 4000 ∧ ∀ c ∈ cs, ¬ c < 0 ∧ ¬ (255 : Int32) < c
theorem Str.ext (S : Str Z h a cs) (E : Ext h h') : Str Z h' a cs := by
  obtain ⟨b, kb, s1, s2, s3, s4, s5⟩ := S
  exact ⟨b, kb, s1.ext E, s2.ext E, s3.ext E, s4.ext E, s5⟩
theorem Str.exa (S : Str Z h a cs) : Exa Z h a "java/lang/String" := by obtain ⟨b, kb, s1, -⟩ := S; exact s1
theorem Str.lt (S : Str Z h a cs) : a < h.size := S.exa.lt
/-- an object of another class is written -/
theorem Str.keepE (S : Str Z h a cs) (K : Keep h h' [x]) (E : Exa Z h x C) (hC : C ≠ "java/lang/String") (wi : (Jvm.Cond.instantiable C n).before a0 Z = true) : Str Z h' a cs := by
  obtain ⟨b, kb, s1, s2, s3, s4, s5⟩ := S
  have n1 : a ∉ [x] := ninS (fun q => (Exa.ne E s1 hC) q.symm) nin0
  have n2 : b ∉ [x] := ninS (fun q => (Exa.neArv E s4 wi) q.symm) nin0
  exact ⟨b, kb, s1.keep K, s2.keep K n1, s3.keep K n1, s4.keep K n2, s5⟩
theorem Str.wrE {sl : Nat} {v : Value} (S : Str Z h a cs) (W : Wr h h' x sl v) (E : Exa Z h x C) (hC : C ≠ "java/lang/String") (wi : (Jvm.Cond.instantiable C n).before a0 Z = true) : Str Z h' a cs := S.keepE (Keep.of_wr W) E hC wi
/-- an array of another kind is written -/
theorem Str.keepA {k : ClassId} {ty : FieldType} {z : Int32} {vs : List Value} {dv : Value} {nI : Nat} (S : Str Z h a cs) (K : Keep h h' [x]) (A : Arv Z h x k ty z vs dv) (ht : ty ≠ .byte) (wi : (Jvm.Cond.instantiable "java/lang/String" nI).before a0 Z = true) : Str Z h' a cs := by
  obtain ⟨b, kb, s1, s2, s3, s4, s5⟩ := S
  have n1 : a ∉ [x] := ninS (Exa.neArv s1 A wi) nin0
  have n2 : b ∉ [x] := ninS (fun q => by
    subst q
    obtain ⟨c1, ⟨e1, ⟨-, k1, f1, p1, g1⟩, -⟩, -⟩ := s4
    obtain ⟨c2, ⟨e2, ⟨-, k2, f2, p2, g2⟩, -⟩, -⟩ := A
    cases e1.symm.trans e2
    cases f1.symm.trans f2
    rw [g1] at g2
    cases g2
    exact ht rfl) nin0
  exact ⟨b, kb, s1.keep K, s2.keep K n1, s3.keep K n1, s4.keep K n2, s5⟩
theorem Exa.insOf (E : Exa Z h a C) : Ins Z h a C true := Ins.self E
theorem i2c255 (x : Int32) : (x &&& 255).toUInt32.toUInt16.toUInt32.toInt32 = x &&& 255 := i2c_mask x
theorem and255 (x : Int32) : ¬ (x &&& (255 : Int32)) < 0 ∧ ¬ (255 : Int32) < (x &&& (255 : Int32)) := by
  have t : ∀ k : Fin 256, ¬ (Int32.ofNat k.val) < 0 ∧ ¬ (255 : Int32) < Int32.ofNat k.val := by decide +kernel
  have h : (x &&& 255).toBitVec.toNat < 256 := by
    simp only [Int32.toBitVec_and, BitVec.toNat_and]
    exact Nat.lt_succ_of_le Nat.and_le_right
  have e : (x &&& 255) = Int32.ofNat (x &&& 255).toBitVec.toNat := by
    apply Int32.toBitVec_inj.mp
    show _ = BitVec.ofNat 32 _
    rw [BitVec.ofNat_toNat]; simp
  rw [e]
  exact t ⟨_, h⟩
theorem narC {x : Int32} (h : ¬ x < 0 ∧ ¬ (255 : Int32) < x) : nar .char x = x := by
  have e : x = x &&& 255 := by
    obtain ⟨h1, h2⟩ := h
    apply Int32.toInt_inj.mp
    rw [c_mask x 255 8 (by decide) (by decide)]
    rw [Int32.lt_iff_toInt_lt] at h1 h2
    have e1 : (0 : Int32).toInt = 0 := rfl
    have e2 : (255 : Int32).toInt = 255 := rfl
    omega
  rw [e]; exact i2c_mask x
theorem narZ {x : Int32} (h : x = 0 ∨ x = 1) : narrow .boolean (.int x) = .int x := by rcases h with rfl | rfl <;> rfl
theorem narCv {x : Int32} (h : ¬ x < 0 ∧ ¬ (255 : Int32) < x) : narrow .char (.int x) = .int x := (show narrow .char (.int x) = .int (nar .char x) from rfl).trans (by rw [narC h])
theorem l2i_mask {y m : Int64} {k : Nat} (hk : k ≤ 30) (hm : m.toBitVec.toNat = 2 ^ k - 1) : ((y &&& m).toInt32).toInt = y.toInt % (2 ^ k : Nat) := by
  have h1 := c_maskL y m k (by omega) hm
  have h2 := c_l2i (y &&& m)
  rw [h1] at h2
  have h3 := rng32 (y &&& m).toInt32
  have h4 : (2 ^ k : Nat) ≤ 2 ^ 30 := Nat.pow_le_pow_right (by decide) hk
  have h5 : 0 < (2 ^ k : Nat) := Nat.pow_pos (by decide)
  have h6 := Int.emod_nonneg y.toInt (b := ((2 ^ k : Nat) : Int)) (by omega)
  have h7 := Int.emod_lt_of_pos y.toInt (b := ((2 ^ k : Nat) : Int)) (by omega)
  omega
theorem b255L (y : Int64) : ¬ (y &&& (255 : Int64)).toInt32 < 0 ∧ ¬ (255 : Int32) < (y &&& (255 : Int64)).toInt32 := by
  have h := l2i_mask (y := y) (m := 255) (k := 8) (by decide) (by decide)
  rw [Int32.lt_iff_toInt_lt, Int32.lt_iff_toInt_lt, h]
  have e1 : (0 : Int32).toInt = 0 := rfl
  have e2 : (255 : Int32).toInt = 255 := rfl
  omega
theorem ofNat_toInt {n : Nat} (h : n < 2 ^ 31) : (Int32.ofNat n).toInt = n := len_toInt h
theorem ofNat_lt {i n : Nat} (hi : i < 2 ^ 31) (hn : n < 2 ^ 31) : Int32.ofNat i < Int32.ofNat n ↔ i < n := by
  rw [Int32.lt_iff_toInt_lt, ofNat_toInt hi, ofNat_toInt hn]; omega
theorem Str.at {i : Nat} (S : Str Z h a cs) (hi : i < cs.length) : ¬ cs.getD i 0 < 0 ∧ ¬ (255 : Int32) < cs.getD i 0 := by
  obtain ⟨b, kb, -, -, -, -, -, q⟩ := S
  have e : cs.getD i 0 = cs[i] := by simp [List.getD_eq_getElem?_getD, hi]
  rw [e]; exact q _ (List.getElem_mem _)
theorem Str.len (S : Str Z h a cs) : cs.length ≤ 4000 := by obtain ⟨b, kb, -, -, -, -, q, -⟩ := S; exact q
theorem refCat {v : Value} (h : v.isRef = true) : v.category = 1 := by rcases ref_cases h with rfl | ⟨a, rfl⟩ <;> rfl
/-- a truth as an int -/
def bi (P : Prop) [Decidable P] : Int32 := if P then 1 else 0
theorem bi_t {P : Prop} [Decidable P] (h : P) : bi P = 1 := if_pos h
theorem bi_f {P : Prop} [Decidable P] (h : ¬ P) : bi P = 0 := if_neg h
theorem bi0 {P : Prop} [Decidable P] : bi P = 0 ↔ ¬ P := by unfold bi; by_cases h : P <;> simp [h]
theorem bi1 {P : Prop} [Decidable P] : bi P = 1 ↔ P := by unfold bi; by_cases h : P <;> simp [h]
theorem bi_iff {P Q : Prop} [Decidable P] [Decidable Q] (h : P ↔ Q) : bi P = bi Q := by unfold bi; by_cases q : Q <;> simp [q, h]
theorem bi01 (P : Prop) [Decidable P] : bi P = 0 ∨ bi P = 1 := by unfold bi; by_cases h : P <;> simp [h]
theorem biZ (P : Prop) [Decidable P] : narrow .boolean (.int (bi P)) = .int (bi P) := narZ (bi01 P)
/-- a class that is no subclass of K -/
theorem noSub {C K O : String} {nk : Nat} (hC : (Jvm.Cond.superclass C O).before a0 Z = true) (hO : (Jvm.Cond.noSuperclass O).before a0 Z = true) (hK : (Jvm.Cond.instantiable K nk).before a0 Z = true) (n1 : C ≠ K) (n2 : O ≠ K) : ∃ c t, Z.vm.findClass C = some c ∧ Z.vm.findClass K = some t ∧ Z.vm.assignable c t = false := by
  obtain ⟨t, kt, g1, g2, g3, g4⟩ := Cond.instantiable_spec hK
  obtain ⟨o, ko, o1, o2, o3, -, -⟩ := Cond.noSuperclass_spec hO
  obtain ⟨c, h0⟩ := found_sup hC
  obtain ⟨p, k, kp, h1, h2, h3, h4, h5, -, h7⟩ := Cond.superclass_spec h0 hC
  cases o1.symm.trans h1
  have ne := ids_ne h0 g1 n1
  have no := ids_ne o1 g1 n2
  refine ⟨c, t, h0, g1, ?_⟩
  have sub : ∀ fuel, Z.vm.isSubclassAux fuel c t = false := fun fuel => by
    cases fuel with
    | zero => rfl
    | succ f =>
      cases f with
      | zero => simp [Vm.isSubclassAux, ne, h2, h4]
      | succ f => simp [Vm.isSubclassAux, ne, h2, h4, no, o2, o3]
  have g5 : kt.isInterface = false := by
    have q := g4.1
    simp only [Bool.or_eq_false_iff] at q
    exact q.1
  show Z.vm.assignableAux (255 + 1) c t = false
  simp [Vm.assignableAux, ne, h2, g2, h5, g3, g5, Vm.isSubclass, sub]
end Facts
end Jvm.Own
/- laws to paste: Road.backV, Road.lenW, Road.chN, Road.codOf (cut by pick.py; bodies as the Statement names them) -/
namespace Jvm.Pilot.@@N@@
namespace StrChars
open Jvm Sem ClassFile Op Lib Jvm.Stand Jvm.Free.XT Jvm.Free.ALB Jvm.Free.JM Jvm.Free
open Jvm.Lib.Cold (StaticIs)
/-- a char array whose places are chars -/
def Ch (a : Addr) (A : Cell) (U : State) : Prop := Arr .char a A U ∧ Typed .char A
theorem Ch.mv {a : Addr} {A : Cell} {U U' : State} (h : Ch a A U) (hal : U.vm.Alike U'.vm) (hh : U'.heap = U.heap) : Ch a A U' := ⟨h.1.mv hal hh, h.2⟩
theorem Ch.keep {a : Addr} {A : Cell} {U U' : State} (h : Ch a A U) (hal : U.vm.Alike U'.vm) (hk : U'.heap[a]? = some A) : Ch a A U' := ⟨h.1.keep hal hk, h.2⟩
/-- what place i of a char[]'s cell holds -/
def cv (A : Cell) (i : Nat) : Int32 := match A.slots[i]? with | some (.int x) => x | _ => 0
theorem Ch.get {a : Addr} {A : Cell} {U : State} (h : Ch a A U) {i : Nat} (hi : i < A.slots.size) : A.slots[i]? = some (.int (cv A i)) := by
  have e := Array.getElem?_eq_getElem hi
  have f := h.2 i _ e
  unfold cv; rw [e]
  generalize A.slots[i] = v at f
  cases v <;> simp [fits] at f ⊢
/-- the byte that i2b leaves of a char -/
def lo8 (x : Int32) : Int32 := x.toInt8.toInt32
theorem fits_lo8 (y : Int32) : fits .byte (.int (lo8 y)) = true := by
  have h1 := y.toInt8.le_toInt
  have h2 := y.toInt8.toInt_lt
  simp only [lo8, fits, Bool.and_eq_true, decide_eq_true_eq, Int32.le_iff_toInt_le, Int8.toInt_toInt32, show (-128 : Int32).toInt = -128 from by decide, show (127 : Int32).toInt = 127 from by decide]
  omega
/-- A' is A but that each place j of lo .. hi - 1 holds f j -/
def Laid (A A' : Cell) (lo hi : Nat) (f : Nat → Value) : Prop := A'.cls = A.cls ∧ A'.vm = A.vm ∧ A'.slots.size = A.slots.size ∧ ∀ i, A'.slots[i]? = if lo ≤ i ∧ i < hi then some (f i) else A.slots[i]?
theorem Laid.zero (A : Cell) (lo : Nat) (f : Nat → Value) : Laid A A lo (lo + 0) f := ⟨rfl, rfl, rfl, fun i => by rw [if_neg (by omega)]⟩
theorem Laid.step {A Ak : Cell} {lo k : Nat} {f : Nat → Value} {v : Value} (h : Laid A Ak lo k f) (hlo : lo ≤ k) (hk : k < Ak.slots.size) (hv : v = f k) : Laid A (Ak.setSlot k v) lo (k + 1) f := by
  refine ⟨h.1, h.2.1, by simpa [Cell.setSlot] using h.2.2.1, fun i => ?_⟩
  by_cases e : k = i
  · subst e; rw [Cell.slots_setSlot_self v hk, if_pos (by omega), hv]
  · rw [Cell.slots_setSlot_ne v e, h.2.2.2 i]
    by_cases q : lo ≤ i ∧ i < k
    · rw [if_pos q, if_pos (by omega)]
    · rw [if_neg q, if_neg (by omega)]
def U16 : String := "java/lang/StringUTF16"
namespace Cmp5
def yN : MethodName := ⟨"java/lang/StringUTF16", "compress", "([CI[BII)I"⟩
abbrev yB : ByteArray := jdk_52_method_21_code
theorem d0 : decode yB 0 = .ok (.iconst 0, 1) := by decide +kernel
theorem d1 : decode yB 1 = .ok (.istore 5, 2) := by decide +kernel
theorem d3 : decode yB 3 = .ok (.iload 5, 2) := by decide +kernel
theorem d5 : decode yB 5 = .ok (.iload 4, 2) := by decide +kernel
theorem d7 : decode yB 7 = .ok (.if_icmp (.ge) 37, 3) := by decide +kernel
theorem d10 : decode yB 10 = .ok (.aload_n 0, 1) := by decide +kernel
theorem d11 : decode yB 11 = .ok (.iload_n 1, 1) := by decide +kernel
theorem d12 : decode yB 12 = .ok (.caload, 1) := by decide +kernel
theorem d13 : decode yB 13 = .ok (.istore 6, 2) := by decide +kernel
theorem d15 : decode yB 15 = .ok (.iload 6, 2) := by decide +kernel
theorem d17 : decode yB 17 = .ok (.sipush 255, 3) := by decide +kernel
theorem d20 : decode yB 20 = .ok (.if_icmp (.le) 6, 3) := by decide +kernel
theorem d26 : decode yB 26 = .ok (.aload_n 2, 1) := by decide +kernel
theorem d27 : decode yB 27 = .ok (.iload_n 3, 1) := by decide +kernel
theorem d28 : decode yB 28 = .ok (.iload 6, 2) := by decide +kernel
theorem d30 : decode yB 30 = .ok (.i2b, 1) := by decide +kernel
theorem d31 : decode yB 31 = .ok (.bastore, 1) := by decide +kernel
theorem d32 : decode yB 32 = .ok (.iinc 1 1, 3) := by decide +kernel
theorem d35 : decode yB 35 = .ok (.iinc 3 1, 3) := by decide +kernel
theorem d38 : decode yB 38 = .ok (.iinc 5 1, 3) := by decide +kernel
theorem d41 : decode yB 41 = .ok (.goto (-38), 3) := by decide +kernel
theorem d44 : decode yB 44 = .ok (.iload 4, 2) := by decide +kernel
theorem d46 : decode yB 46 = .ok (.ireturn, 1) := by decide +kernel
def site : List Cond := []
def tab : Cond := tabOf yN yB 7 (some .int) site
def P (b : Addr) (A : Cell) (d : Addr) (B : Cell) (o q len : Nat) (args : Array Value) (s : State) : Prop := args = #[.ref b, .int (Int32.ofNat o), .ref d, .int (Int32.ofNat q), .int (Int32.ofNat len)] ∧ Ch b A s ∧ Arr .byte d B s ∧ b ≠ d ∧ o + len ≤ A.slots.size ∧ q + len ≤ B.slots.size ∧ ∀ i, i < len → ¬ 255 < cv A (o + i)
def E (b : Addr) (A : Cell) (d : Addr) (B : Cell) (o q len : Nat) (r : Option Value) (s u : State) : Prop := r = some (.int (Int32.ofNat len)) ∧ ∃ B', Put d B' s u ∧ Laid B B' q (q + len) (fun j => Value.int (lo8 (cv A (o + (j - q)))))
/-- no char of the range above 255: len; the places written hold each char's low byte -/
theorem law (l : Launch) (b : Addr) (A : Cell) (d : Addr) (B : Cell) (o q len : Nat) : Law l yN 5 5 0 0 yB 7 (some .int) site (P b A d B o q len) (E b A d B o q len) (copyLocs d q len) 0 0 := by
  refine Law.of_walk (plainFor_of_name (by decide +kernel)) (by decide +kernel) (by decide +kernel) (by decide) (fun _ _ h => by rw [h.1]; rfl) (fun _ U U' hal hh h => ⟨h.1, h.2.1.mv hal hh, h.2.2.1.mv hal hh, h.2.2.2⟩) (fun r U U' V V' h1 hal h2 h => ⟨h.1, h.2.elim fun B' q => ⟨B', q.1.mv h1 h2, q.2⟩⟩) ?_
  intro p e s m args below meth c s₁ X0 hexec hbytes hml hret hlk hnm hown hh0 W hP
  obtain ⟨rfl, hA, hB, hne, l1, l2, hp⟩ := hP
  have c1 : Steps p.tables e below (s₁.setTop (entryFrame m #[.ref b, .int (Int32.ofNat o), .ref d, .int (Int32.ofNat q), .int (Int32.ofNat len)] 7)) (s₁.setTop (mkF m 0 #[.val (.ref b), .val (.int (Int32.ofNat o)), .val (.ref d), .val (.int (Int32.ofNat q)), .val (.int (Int32.ofNat len)), .unset, .unset] [])) := entry rfl
  have hA0 := hA.1.mv X0.warmed.alike hh0
  have hB0 := hB.mv X0.warmed.alike hh0
  have a31 := hA.1.2.2.2
  have c2 : Steps p.tables e below (s₁.setTop (entryFrame m #[.ref b, .int (Int32.ofNat o), .ref d, .int (Int32.ofNat q), .int (Int32.ofNat len)] 7)) (s₁.setTop (mkF m 3 #[.val (.ref b), .val (.int (Int32.ofNat o)), .val (.ref d), .val (.int (Int32.ofNat q)), .val (.int (Int32.ofNat len)), .val (.int 0), .unset] [])) := c1.trans (by
    refine iconstV X0.here hexec rfl 0 (hb hbytes d0) (by decide) ?_
    refine XS.istore X0.here hexec rfl (hb hbytes d1) rfl rfl ?_
    exact Steps.refl _)
  have loop : ∀ (r i : Nat), i + r = len → ∀ (z : Slot), (z = .unset ∨ ∃ w, z = .val w ∧ w.category = 1) → ∀ (Tl : State) (Bk : Cell), Stand p l e { frames := 0, locals := 0, cells := 0, slots := 0 } s m #[.ref b, .int (Int32.ofNat o), .ref d, .int (Int32.ofNat q), .int (Int32.ofNat len)] below meth c Tl ([] ++ copyLocs d q i) 0 0 → Put d Bk s₁ Tl → Laid B Bk q (q + i) (fun j => Value.int (lo8 (cv A (o + (j - q))))) →
      Steps p.tables e below (s₁.setTop (entryFrame m #[.ref b, .int (Int32.ofNat o), .ref d, .int (Int32.ofNat q), .int (Int32.ofNat len)] 7)) (Tl.setTop (mkF m 3 #[.val (.ref b), .val (.int (Int32.ofNat (o + i))), .val (.ref d), .val (.int (Int32.ofNat (q + i))), .val (.int (Int32.ofNat len)), .val (.int (Int32.ofNat i)), z] [])) → ∃ (T' : State) (B' : Cell) (z' : Slot), Stand p l e { frames := 0, locals := 0, cells := 0, slots := 0 } s m #[.ref b, .int (Int32.ofNat o), .ref d, .int (Int32.ofNat q), .int (Int32.ofNat len)] below meth c T' ([] ++ copyLocs d q len) 0 0 ∧ Put d B' s₁ T' ∧ Laid B B' q (q + len) (fun j => Value.int (lo8 (cv A (o + (j - q))))) ∧
      Steps p.tables e below (s₁.setTop (entryFrame m #[.ref b, .int (Int32.ofNat o), .ref d, .int (Int32.ofNat q), .int (Int32.ofNat len)] 7)) (T'.setTop (mkF m 3 #[.val (.ref b), .val (.int (Int32.ofNat (o + len))), .val (.ref d), .val (.int (Int32.ofNat (q + len))), .val (.int (Int32.ofNat len)), .val (.int (Int32.ofNat len)), z'] [])) := by
    intro r
    induction r with
    | zero =>
      intro i hi z hz Tl Bk Xl pl fl cl
      have hil : i = len := by omega
      rw [hil] at Xl fl cl
      exact ⟨Tl, Bk, z, Xl, pl, fl, cl⟩
    | succ r ih =>
      intro i hi z hz Tl Bk Xl pl fl cl
      have all := X0.warmed.alike.symm.trans Xl.warmed.alike
      have hAl := hA0.keep all (pl.other hne hA0.1)
      have hBk := hB0.like all pl.1 fl.1 fl.2.1 fl.2.2.1
      have hlt : q + i < Bk.slots.size := by rw [fl.2.2.1]; omega
      have c3 : Steps p.tables e below (s₁.setTop (entryFrame m #[.ref b, .int (Int32.ofNat o), .ref d, .int (Int32.ofNat q), .int (Int32.ofNat len)] 7)) (Tl.setTop (mkF m 12 #[.val (.ref b), .val (.int (Int32.ofNat (o + i))), .val (.ref d), .val (.int (Int32.ofNat (q + i))), .val (.int (Int32.ofNat len)), .val (.int (Int32.ofNat i)), z] [.int (Int32.ofNat (o + i)), .ref b])) := cl.trans (by
        refine XS.iload Xl.here hexec rfl (hb hbytes d3) rfl ?_
        refine XS.iload Xl.here hexec rfl (hb hbytes d5) rfl ?_
        refine XS.icmpNo Xl.here hexec rfl (hb hbytes d7) rfl (ii_ge_f (lt32 (by omega) (by omega))) ?_
        refine XS.aloadN Xl.here hexec rfl (hb hbytes d10) rfl rfl ?_
        refine XS.iloadN Xl.here hexec rfl (hb hbytes d11) rfl ?_
        exact Steps.refl _)
      have c4 : Steps p.tables e below (s₁.setTop (entryFrame m #[.ref b, .int (Int32.ofNat o), .ref d, .int (Int32.ofNat q), .int (Int32.ofNat len)] 7)) (Tl.setTop (mkF m 13 #[.val (.ref b), .val (.int (Int32.ofNat (o + i))), .val (.ref d), .val (.int (Int32.ofNat (q + i))), .val (.int (Int32.ofNat len)), .val (.int (Int32.ofNat i)), z] [.int (cv A (o + i))])) := c3.trans (by
        refine Xl.aget hexec hAl rfl (hA.get (i := o + i) (by omega)) rfl rfl (hb hbytes d12) ?_
        exact Steps.refl _)
      have c5 : Steps p.tables e below (s₁.setTop (entryFrame m #[.ref b, .int (Int32.ofNat o), .ref d, .int (Int32.ofNat q), .int (Int32.ofNat len)] 7)) (Tl.setTop (mkF m 15 #[.val (.ref b), .val (.int (Int32.ofNat (o + i))), .val (.ref d), .val (.int (Int32.ofNat (q + i))), .val (.int (Int32.ofNat len)), .val (.int (Int32.ofNat i)), .val (.int (cv A (o + i)))] [])) := c4.trans (by
        refine XS.istoreS Xl.here hexec rfl (hb hbytes d13) rfl rfl hz ?_
        exact Steps.refl _)
      have c6 : Steps p.tables e below (s₁.setTop (entryFrame m #[.ref b, .int (Int32.ofNat o), .ref d, .int (Int32.ofNat q), .int (Int32.ofNat len)] 7)) (Tl.setTop (mkF m 31 #[.val (.ref b), .val (.int (Int32.ofNat (o + i))), .val (.ref d), .val (.int (Int32.ofNat (q + i))), .val (.int (Int32.ofNat len)), .val (.int (Int32.ofNat i)), .val (.int (cv A (o + i)))] [.int (lo8 (cv A (o + i))), .int (Int32.ofNat (q + i)), .ref d])) := c5.trans (by
        refine XS.iload Xl.here hexec rfl (hb hbytes d15) rfl ?_
        refine sipushV Xl.here hexec rfl 255 (hb hbytes d17) (by decide) ?_
        refine XS.icmpYes Xl.here hexec rfl (pc0 := 20) rfl (hb hbytes d20) rfl (ii_le_t (hp i (by omega))) (by decide) rfl ?_
        refine XS.aloadN Xl.here hexec rfl (hb hbytes d26) rfl rfl ?_
        refine XS.iloadN Xl.here hexec rfl (hb hbytes d27) rfl ?_
        refine XS.iload Xl.here hexec rfl (hb hbytes d28) rfl ?_
        refine i2b Xl.here hexec rfl (hb hbytes d30) rfl ?_
        exact Steps.refl _)
      obtain ⟨T7, X7, p7, st7⟩ := Xl.aput hexec hBk rfl hlt rfl (fits_lo8 (cv A (o + i))) (g := (mkF m 31 #[.val (.ref b), .val (.int (Int32.ofNat (o + i))), .val (.ref d), .val (.int (Int32.ofNat (q + i))), .val (.int (Int32.ofNat len)), .val (.int (Int32.ofNat i)), .val (.int (cv A (o + i)))] [.int (lo8 (cv A (o + i))), .int (Int32.ofNat (q + i)), .ref d])) rfl (rest := []) rfl (hb hbytes d31)
      have c8 : Steps p.tables e below (s₁.setTop (entryFrame m #[.ref b, .int (Int32.ofNat o), .ref d, .int (Int32.ofNat q), .int (Int32.ofNat len)] 7)) (T7.setTop (mkF m 32 #[.val (.ref b), .val (.int (Int32.ofNat (o + i))), .val (.ref d), .val (.int (Int32.ofNat (q + i))), .val (.int (Int32.ofNat len)), .val (.int (Int32.ofNat i)), .val (.int (cv A (o + i)))] [])) := c6.trans (st7 _ (Steps.refl _))
      have c9 : Steps p.tables e below (s₁.setTop (entryFrame m #[.ref b, .int (Int32.ofNat o), .ref d, .int (Int32.ofNat q), .int (Int32.ofNat len)] 7)) (T7.setTop (mkF m 3 #[.val (.ref b), .val (.int (Int32.ofNat (o + i) + 1)), .val (.ref d), .val (.int (Int32.ofNat (q + i) + 1)), .val (.int (Int32.ofNat len)), .val (.int (Int32.ofNat i + 1)), .val (.int (cv A (o + i)))] [])) := c8.trans (by
        refine iincV X7.here hexec rfl 1 (hb hbytes d32) (by decide) rfl rfl ?_
        refine iincV X7.here hexec rfl 1 (hb hbytes d35) (by decide) rfl rfl ?_
        refine iincV X7.here hexec rfl 1 (hb hbytes d38) (by decide) rfl rfl ?_
        refine XS.goto X7.here hexec rfl (pc0 := 41) rfl (hb hbytes d41) (by decide) rfl ?_
        exact Steps.refl _)
      have c10 : Steps p.tables e below (s₁.setTop (entryFrame m #[.ref b, .int (Int32.ofNat o), .ref d, .int (Int32.ofNat q), .int (Int32.ofNat len)] 7)) (T7.setTop (mkF m 3 #[.val (.ref b), .val (.int (Int32.ofNat (o + (i + 1)))), .val (.ref d), .val (.int (Int32.ofNat (q + (i + 1)))), .val (.int (Int32.ofNat len)), .val (.int (Int32.ofNat (i + 1))), .val (.int (cv A (o + i)))] [])) := by
        have := c9
        rw [succ32, succ32, succ32] at this
        exact this
      exact ih (i + 1) (by omega) _ (Or.inr ⟨_, rfl, rfl⟩) T7 _ (by rw [copyLocs_step, ← List.append_assoc]; exact X7) (pl.trans p7) (fl.step (by omega) hlt (by simp)) c10
  obtain ⟨T9, B9, z9, X9, p9, f9, g9⟩ := loop len 0 (by omega) .unset (Or.inl rfl) s₁ B (by simpa [copyLocs] using X0) ⟨hB0.1, fun _ _ => rfl, rfl⟩ (Laid.zero _ _ _) c2
  have c11 : Steps p.tables e below (s₁.setTop (entryFrame m #[.ref b, .int (Int32.ofNat o), .ref d, .int (Int32.ofNat q), .int (Int32.ofNat len)] 7)) (T9.setTop (mkF m 46 #[.val (.ref b), .val (.int (Int32.ofNat (o + len))), .val (.ref d), .val (.int (Int32.ofNat (q + len))), .val (.int (Int32.ofNat len)), .val (.int (Int32.ofNat len)), z9] [.int (Int32.ofNat len)])) := g9.trans (by
    refine XS.iload X9.here hexec rfl (hb hbytes d3) rfl ?_
    refine XS.iload X9.here hexec rfl (hb hbytes d5) rfl ?_
    refine XS.icmpYes X9.here hexec rfl (pc0 := 7) rfl (hb hbytes d7) rfl (ii_ge_t (nlt32 (by omega) (Nat.le_refl _))) (by decide) rfl ?_
    refine XS.iload X9.here hexec rfl (hb hbytes d44) rfl ?_
    exact Steps.refl _)
  exact ⟨T9, some (.int (Int32.ofNat len)), _, _, _, X9, by simp, rfl, rfl, (fun h => by cases h), ⟨rfl, B9, p9.from hh0, f9⟩, fun fs hl => c11.trans (X9.ireturnOut hexec hret rfl (Or.inl rfl) (hb hbytes d46) hl)⟩
end Cmp5
namespace Cmp3
def yN : MethodName := ⟨"java/lang/StringUTF16", "compress", "([CII)[B"⟩
abbrev yB : ByteArray := jdk_52_method_16_code
theorem d0 : decode yB 0 = .ok (.iload_n 2, 1) := by decide +kernel
theorem d1 : decode yB 1 = .ok (.newarray .byte, 2) := by decide +kernel
theorem d3 : decode yB 3 = .ok (.astore_n 3, 1) := by decide +kernel
theorem d4 : decode yB 4 = .ok (.aload_n 0, 1) := by decide +kernel
theorem d5 : decode yB 5 = .ok (.iload_n 1, 1) := by decide +kernel
theorem d6 : decode yB 6 = .ok (.aload_n 3, 1) := by decide +kernel
theorem d7 : decode yB 7 = .ok (.iconst 0, 1) := by decide +kernel
theorem d8 : decode yB 8 = .ok (.iload_n 2, 1) := by decide +kernel
theorem d9 : decode yB 9 = .ok (.invokestatic 115, 3) := by decide +kernel
theorem d12 : decode yB 12 = .ok (.istore 4, 2) := by decide +kernel
theorem d14 : decode yB 14 = .ok (.iload 4, 2) := by decide +kernel
theorem d16 : decode yB 16 = .ok (.iload_n 2, 1) := by decide +kernel
theorem d17 : decode yB 17 = .ok (.if_icmp (.eq) 40, 3) := by decide +kernel
theorem d57 : decode yB 57 = .ok (.aload_n 3, 1) := by decide +kernel
theorem d58 : decode yB 58 = .ok (.areturn, 1) := by decide +kernel
def site : List Cond := [.arrayClass .byte, Cmp5.tab] ++ staticW U16 115 Cmp5.yN
def tab : Cond := tabOf yN yB 6 (some (.array .byte)) site
def P (b : Addr) (A : Cell) (o len : Nat) (args : Array Value) (s : State) : Prop := args = #[.ref b, .int (Int32.ofNat o), .int (Int32.ofNat len)] ∧ Ch b A s ∧ o + len ≤ A.slots.size ∧ len ≤ 536870912 ∧ ∀ i, i < len → ¬ 255 < cv A (o + i)
def E (b : Addr) (A : Cell) (o len : Nat) (r : Option Value) (s u : State) : Prop := NewArr .byte "[B" len (fun j => .int (lo8 (cv A (o + j)))) r s u ∧ u.heap.size = s.heap.size + 1
/-- no char of the range above 255: a new byte[] of their low bytes -/
theorem law (l : Launch) (b : Addr) (A : Cell) (o len : Nat) : Law l yN 3 3 1 18 yB 6 (some (.array .byte)) site (P b A o len) (E b A o len) [] 1 len := by
  refine Law.of_walk (plainFor_of_name (by decide +kernel)) (by decide +kernel) (by decide +kernel) (by decide) (fun _ _ h => by rw [h.1]; rfl) (fun _ U U' hal hh h => ⟨h.1, h.2.1.mv hal hh, h.2.2⟩) (fun r U U' V V' h1 hal h2 h => ⟨NewArr.mv r U U' V V' h1 hal h2 h.1, by rw [h1, h2]; exact h.2⟩) ?_
  intro p e s m args below meth c s₁ X0 hexec hbytes hml hret hlk hnm hown hh0 W hP
  obtain ⟨rfl, hA, l1, l2, hp⟩ := hP
  have a31 := hA.1.2.2.2
  have c1 : Steps p.tables e below (s₁.setTop (entryFrame m #[.ref b, .int (Int32.ofNat o), .int (Int32.ofNat len)] 6)) (s₁.setTop (mkF m 0 #[.val (.ref b), .val (.int (Int32.ofNat o)), .val (.int (Int32.ofNat len)), .unset, .unset, .unset] [])) := entry rfl
  have c2 : Steps p.tables e below (s₁.setTop (entryFrame m #[.ref b, .int (Int32.ofNat o), .int (Int32.ofNat len)] 6)) (s₁.setTop (mkF m 1 #[.val (.ref b), .val (.int (Int32.ofNat o)), .val (.int (Int32.ofNat len)), .unset, .unset, .unset] [.int (Int32.ofNat len)])) := c1.trans (by
    refine XS.iloadN X0.here hexec rfl (hb hbytes d0) rfl ?_
    exact Steps.refl _)
  obtain ⟨T3, B3, X3, ba3, bs3, bv3, bh3, bf3, st3⟩ := X0.anew hexec (atype := .byte) (wk W (.arrayClass .byte)) rfl (by show len * 1 ≤ _; omega) (by omega) (g := (mkF m 1 #[.val (.ref b), .val (.int (Int32.ofNat o)), .val (.int (Int32.ofNat len)), .unset, .unset, .unset] [.int (Int32.ofNat len)])) rfl (hb hbytes d1) (rest := []) rfl (Nat.le_refl _) (by show 0 + len ≤ len; omega)
  rw [hh0] at ba3 st3
  have kp3 : XT.Kept s T3 := (XT.Kept.of_eq hh0).push bh3
  have hA3 := hA.keep X3.warmed.alike (kp3 _ _ hA.1.1)
  have hne : b ≠ s.heap.size := hA.1.ne
  have c4 : Steps p.tables e below (s₁.setTop (entryFrame m #[.ref b, .int (Int32.ofNat o), .int (Int32.ofNat len)] 6)) (T3.setTop (mkF m 3 #[.val (.ref b), .val (.int (Int32.ofNat o)), .val (.int (Int32.ofNat len)), .unset, .unset, .unset] [.ref s.heap.size])) := c2.trans (st3 _ (Steps.refl _))
  have c5 : Steps p.tables e below (s₁.setTop (entryFrame m #[.ref b, .int (Int32.ofNat o), .int (Int32.ofNat len)] 6)) (T3.setTop (mkF m 9 #[.val (.ref b), .val (.int (Int32.ofNat o)), .val (.int (Int32.ofNat len)), .val (.ref s.heap.size), .unset, .unset] [.int (Int32.ofNat len), .int 0, .ref s.heap.size, .int (Int32.ofNat o), .ref b])) := c4.trans (by
    refine XS.astoreN X3.here hexec rfl (hb hbytes d3) rfl rfl rfl ?_
    refine XS.aloadN X3.here hexec rfl (hb hbytes d4) rfl rfl ?_
    refine XS.iloadN X3.here hexec rfl (hb hbytes d5) rfl ?_
    refine XS.aloadN X3.here hexec rfl (hb hbytes d6) rfl rfl ?_
    refine iconstV X3.here hexec rfl 0 (hb hbytes d7) (by decide) ?_
    refine XS.iloadN X3.here hexec rfl (hb hbytes d8) rfl ?_
    exact Steps.refl _)
  obtain ⟨v6, T6, X6, E6, g6⟩ := X3.callS hexec (Cmp5.law l b A s.heap.size B3 o 0 len) hown (wks W (staticW U16 115 Cmp5.yN)) (wk W Cmp5.tab) (W := 0) (Nat.le_of_ble_eq_true rfl) (Nat.le_of_ble_eq_true rfl) (Nat.le_refl _) (by show 0 + len + 0 ≤ len; omega) (g := (mkF m 9 #[.val (.ref b), .val (.int (Int32.ofNat o)), .val (.int (Int32.ofNat len)), .val (.ref s.heap.size), .unset, .unset] [.int (Int32.ofNat len), .int (Int32.ofNat 0), .ref s.heap.size, .int (Int32.ofNat o), .ref b])) rfl (by rw [hml]; rfl) c5 (argsL := [.ref b, .int (Int32.ofNat o), .ref s.heap.size, .int (Int32.ofNat 0), .int (Int32.ofNat len)]) (rest := []) rfl rfl (by show 2 * 0 + 0 ≤ _; decide) (hb hbytes d9) (⟨rfl, hA3, ba3, hne, l1, by rw [bs3]; simp, hp⟩)
  obtain ⟨rfl, B6, p6, f6⟩ := E6
  have c7 : Steps p.tables e below (s₁.setTop (entryFrame m #[.ref b, .int (Int32.ofNat o), .int (Int32.ofNat len)] 6)) (T6.setTop (mkF m 12 #[.val (.ref b), .val (.int (Int32.ofNat o)), .val (.int (Int32.ofNat len)), .val (.ref s.heap.size), .unset, .unset] [.int (Int32.ofNat len)])) := g6
  have c8 : Steps p.tables e below (s₁.setTop (entryFrame m #[.ref b, .int (Int32.ofNat o), .int (Int32.ofNat len)] 6)) (T6.setTop (mkF m 58 #[.val (.ref b), .val (.int (Int32.ofNat o)), .val (.int (Int32.ofNat len)), .val (.ref s.heap.size), .val (.int (Int32.ofNat len)), .unset] [.ref s.heap.size])) := c7.trans (by
    refine XS.istore X6.here hexec rfl (hb hbytes d12) rfl rfl ?_
    refine XS.iload X6.here hexec rfl (hb hbytes d14) rfl ?_
    refine XS.iloadN X6.here hexec rfl (hb hbytes d16) rfl ?_
    refine XS.icmpYes X6.here hexec rfl (pc0 := 17) rfl (hb hbytes d17) rfl (ii_eq_t rfl) (by decide) rfl ?_
    refine XS.aloadN X6.here hexec rfl (hb hbytes d57) rfl rfl ?_
    exact Steps.refl _)
  have X8 := X6.wide (L' := []) (cells' := 1) (slots' := len) (fun x hx hlt => by
    simp only [List.nil_append, copyLocs, List.mem_map, List.mem_range] at hx
    obtain ⟨i, -, rfl⟩ := hx
    exact absurd hlt (Nat.lt_irrefl _)) (Nat.le_refl _) (by omega)
  exact ⟨T6, some (.ref s.heap.size), _, _, _, X8, rfl, rfl, rfl, (fun h => by cases h), ⟨⟨rfl, B6, ba3.like (X3.warmed.alike.symm.trans X6.warmed.alike) p6.1 f6.1 f6.2.1 f6.2.2.1, f6.2.1.trans bv3, by rw [X6.warmed.alike.findClass, f6.1]; exact bf3, by rw [f6.2.2.1, bs3]; simp, fun j hj => by rw [f6.2.2.2 j, if_pos (by omega)]; rfl, kp3.put p6 (Nat.le_refl _)⟩, by rw [p6.2.2, bh3, hh0]; simp⟩, fun fs hl => c8.trans (X8.areturnOut hexec rfl hret rfl (hb hbytes d58) hl)⟩
end Cmp3
namespace CodL
def yN : MethodName := ⟨"java/lang/StringUTF16", "coderFromArrayLen", "([BI)B"⟩
abbrev yB : ByteArray := jdk_52_method_15_code
theorem d0 : decode yB 0 = .ok (.iload_n 1, 1) := by decide +kernel
theorem d1 : decode yB 1 = .ok (.aload_n 0, 1) := by decide +kernel
theorem d2 : decode yB 2 = .ok (.arraylength, 1) := by decide +kernel
theorem d3 : decode yB 3 = .ok (.isub, 1) := by decide +kernel
theorem d4 : decode yB 4 = .ok (.bipush 31, 2) := by decide +kernel
theorem d6 : decode yB 6 = .ok (.iushr, 1) := by decide +kernel
theorem d7 : decode yB 7 = .ok (.i2b, 1) := by decide +kernel
theorem d8 : decode yB 8 = .ok (.ireturn, 1) := by decide +kernel
def site : List Cond := []
def tab : Cond := tabOf yN yB 2 (some .byte) site
def P (d : Addr) (B : Cell) (args : Array Value) (s : State) : Prop := args = #[.ref d, .int (Int32.ofNat B.slots.size)] ∧ Arr .byte d B s
def E (r : Option Value) (s u : State) : Prop := XT.PureE (some (.int 0)) r s u
/-- an array as long as the number of chars: LATIN1 -/
theorem law (l : Launch) (d : Addr) (B : Cell) : Law l yN 2 2 0 0 yB 2 (some .byte) site (P d B) E [] 0 0 := by
  refine Law.of_walk (plainFor_of_name (by decide +kernel)) (by decide +kernel) (by decide +kernel) (by decide) (fun _ _ h => by rw [h.1]; rfl) (fun _ U U' hal hh h => ⟨h.1, h.2.mv hal hh⟩) (fun r U U' V V' h1 hal h2 h => XT.PureE.mv r U U' V V' h1 hal h2 h) ?_
  intro p e s m args below meth c s₁ X0 hexec hbytes hml hret hlk hnm hown hh0 W hP
  obtain ⟨rfl, hB⟩ := hP
  have hB0 := hB.mv X0.warmed.alike hh0
  have c1 : Steps p.tables e below (s₁.setTop (entryFrame m #[.ref d, .int (Int32.ofNat B.slots.size)] 2)) (s₁.setTop (mkF m 0 #[.val (.ref d), .val (.int (Int32.ofNat B.slots.size))] [])) := entry rfl
  have c2 : Steps p.tables e below (s₁.setTop (entryFrame m #[.ref d, .int (Int32.ofNat B.slots.size)] 2)) (s₁.setTop (mkF m 2 #[.val (.ref d), .val (.int (Int32.ofNat B.slots.size))] [.ref d, .int (Int32.ofNat B.slots.size)])) := c1.trans (by
    refine XS.iloadN X0.here hexec rfl (hb hbytes d0) rfl ?_
    refine XS.aloadN X0.here hexec rfl (hb hbytes d1) rfl rfl ?_
    exact Steps.refl _)
  have c3 : Steps p.tables e below (s₁.setTop (entryFrame m #[.ref d, .int (Int32.ofNat B.slots.size)] 2)) (s₁.setTop (mkF m 8 #[.val (.ref d), .val (.int (Int32.ofNat B.slots.size))] [.int (lo8 (ushr (Int32.ofNat B.slots.size - Int32.ofNat B.slots.size) 31))])) := c2.trans (by
    refine X0.alen hexec hB0 rfl rfl (hb hbytes d2) ?_
    refine XS.isub X0.here hexec rfl (hb hbytes d3) rfl ?_
    refine bipushV X0.here hexec rfl 31 (hb hbytes d4) (by decide) ?_
    refine iushr X0.here hexec rfl (hb hbytes d6) rfl ?_
    refine i2b X0.here hexec rfl (hb hbytes d7) rfl ?_
    exact Steps.refl _)
  have e0 : lo8 (ushr (Int32.ofNat B.slots.size - Int32.ofNat B.slots.size) 31) = 0 := by rw [Int32.sub_self]; decide
  rw [e0] at c3
  exact ⟨s₁, some (.int 0), _, _, _, X0, rfl, rfl, rfl, (fun h => by cases h), ⟨rfl, hh0⟩, fun fs hl => c3.trans (X0.ireturnOut hexec hret rfl (Or.inr (Or.inr (Or.inl rfl))) (hb hbytes d8) hl)⟩
end CodL
/-- the String at a is Latin-1 over a new byte[] (the heap's one new cell): the low bytes of the len chars of A from o on; every cell but a is kept -/
def Got (a : Addr) (D : Cell) (fV fC : Field) (A : Cell) (o len : Nat) (r : Option Value) (s u : State) : Prop := r = none ∧ ∃ D' V : Cell, Blank "java/lang/String" a D' u ∧ Same D D' [fV.slot, fC.slot] ∧ D'.slots[fV.slot]? = some (.ref s.heap.size) ∧ D'.slots[fC.slot]? = some (.int 0) ∧ Arr .byte s.heap.size V u ∧ V.vm = .none ∧ u.vm.findClass "[B" = some V.cls ∧ V.slots.size = len ∧ (∀ j, j < len → V.slots[j]? = some (.int (lo8 (cv A (o + j))))) ∧ (∀ (y : Addr) (c : Cell), y ≠ a → s.heap[y]? = some c → u.heap[y]? = some c) ∧ u.heap.size = s.heap.size + 1
theorem Got.mv {a : Addr} {D A : Cell} {fV fC : Field} {o len : Nat} : ∀ r (U U' V V' : State), U'.heap = U.heap → V.vm.Alike V'.vm → V'.heap = V.heap → Got a D fV fC A o len r U V → Got a D fV fC A o len r U' V' :=
  fun r U U' V V' h1 hal h2 ⟨e0, D', X, a1, a2, a3, a4, a5, a6, a7, a8, a9, a10, a11⟩ => ⟨e0, D', X, a1.mv hal h2, a2, by rw [h1]; exact a3, a4, by rw [h1]; exact a5.mv hal h2, a6, by rw [hal.findClass]; exact a7, a8, a9, by rw [h1, h2]; exact a10, by rw [h1, h2]; exact a11⟩
namespace New4
def yN : MethodName := ⟨"java/lang/String", "<init>", "([CIILjava/lang/Void;)V"⟩
abbrev yB : ByteArray := jdk_42_method_149_code
theorem d0 : decode yB 0 = .ok (.aload_n 0, 1) := by decide +kernel
theorem d1 : decode yB 1 = .ok (.invokespecial 1, 3) := by decide +kernel
theorem d4 : decode yB 4 = .ok (.iload_n 3, 1) := by decide +kernel
theorem d5 : decode yB 5 = .ok (.ifCond (.ne) 22, 3) := by decide +kernel
theorem d27 : decode yB 27 = .ok (.getstatic 38, 3) := by decide +kernel
theorem d30 : decode yB 30 = .ok (.ifCond (.eq) 28, 3) := by decide +kernel
theorem d33 : decode yB 33 = .ok (.aload_n 1, 1) := by decide +kernel
theorem d34 : decode yB 34 = .ok (.iload_n 2, 1) := by decide +kernel
theorem d35 : decode yB 35 = .ok (.iload_n 3, 1) := by decide +kernel
theorem d36 : decode yB 36 = .ok (.invokestatic 177, 3) := by decide +kernel
theorem d39 : decode yB 39 = .ok (.astore 5, 2) := by decide +kernel
theorem d41 : decode yB 41 = .ok (.aload_n 0, 1) := by decide +kernel
theorem d42 : decode yB 42 = .ok (.aload 5, 2) := by decide +kernel
theorem d44 : decode yB 44 = .ok (.iload_n 3, 1) := by decide +kernel
theorem d45 : decode yB 45 = .ok (.invokestatic 47, 3) := by decide +kernel
theorem d48 : decode yB 48 = .ok (.putfield 15, 3) := by decide +kernel
theorem d51 : decode yB 51 = .ok (.aload_n 0, 1) := by decide +kernel
theorem d52 : decode yB 52 = .ok (.aload 5, 2) := by decide +kernel
theorem d54 : decode yB 54 = .ok (.putfield 9, 3) := by decide +kernel
theorem d57 : decode yB 57 = .ok (.return_, 1) := by decide +kernel
def site : List Cond := [.fieldLink "java/lang/String" 38 "java/lang/String" "COMPACT_STRINGS" "Z", Cmp3.tab, CodL.tab, .laysFinal "java/lang/String" "java/lang/String" "value" "[B", .fieldLink "java/lang/String" 9 "java/lang/String" "value" "[B", .laysFinal "java/lang/String" "java/lang/String" "coder" "B", .fieldLink "java/lang/String" 15 "java/lang/String" "coder" "B"] ++ objW "java/lang/String" 1 ++ staticW "java/lang/String" 177 Cmp3.yN ++ staticW "java/lang/String" 47 CodL.yN
def tab : Cond := tabOf yN yB 6 none site
def P (a : Addr) (D : Cell) (fV fC : Field) (b : Addr) (A : Cell) (z : Int32) (o len : Nat) (args : Array Value) (s : State) : Prop := args = #[.ref a, .ref b, .int (Int32.ofNat o), .int (Int32.ofNat len), .null] ∧ Blank "java/lang/String" a D s ∧ Found "java/lang/String" "value" "[B" fV s ∧ Found "java/lang/String" "coder" "B" fC s ∧ Ch b A s ∧ StaticIs s "java/lang/String" "COMPACT_STRINGS" "Z" (.int z) ∧ ¬ z = 0 ∧ 0 < len ∧ o + len ≤ A.slots.size ∧ len ≤ 536870912 ∧ ∀ i, i < len → ¬ 255 < cv A (o + i)
def E (a : Addr) (D : Cell) (fV fC : Field) (A : Cell) (o len : Nat) (r : Option Value) (s u : State) : Prop := Got a D fV fC A o len r s u
/-- len > 0, no char of the range above 255: a Latin-1 String of their low bytes -/
theorem law (l : Launch) (a : Addr) (D : Cell) (fV fC : Field) (b : Addr) (A : Cell) (z : Int32) (o len : Nat) : Law l yN 5 4 2 35 yB 6 none site (P a D fV fC b A z o len) (E a D fV fC A o len) [⟨a, fC.slot⟩, ⟨a, fV.slot⟩] 1 len := by
  refine Law.of_walk (plainFor_of_name (by decide +kernel)) (by decide +kernel) (by decide +kernel) (by decide) (fun _ _ h => by rw [h.1]; rfl) (fun _ U U' hal hh h => ⟨h.1, h.2.1.mv hal hh, h.2.2.1.al hal, h.2.2.2.1.al hal, h.2.2.2.2.1.mv hal hh, h.2.2.2.2.2.1.there hal hh, h.2.2.2.2.2.2⟩) (fun r U U' V V' h1 hal h2 h => Got.mv r U U' V V' h1 hal h2 h) ?_
  intro p e s m args below meth c s₁ X0 hexec hbytes hml hret hlk hnm hown hh0 W hP
  obtain ⟨rfl, hB, f1, f2, hA, s1, hz, l0, l1, l2, hp⟩ := hP
  have a31 := hA.1.2.2.2
  have c1 : Steps p.tables e below (s₁.setTop (entryFrame m #[.ref a, .ref b, .int (Int32.ofNat o), .int (Int32.ofNat len), .null] 6)) (s₁.setTop (mkF m 0 #[.val (.ref a), .val (.ref b), .val (.int (Int32.ofNat o)), .val (.int (Int32.ofNat len)), .val .null, .unset] [])) := entry rfl
  have c2 : Steps p.tables e below (s₁.setTop (entryFrame m #[.ref a, .ref b, .int (Int32.ofNat o), .int (Int32.ofNat len), .null] 6)) (s₁.setTop (mkF m 1 #[.val (.ref a), .val (.ref b), .val (.int (Int32.ofNat o)), .val (.int (Int32.ofNat len)), .val .null, .unset] [.ref a])) := c1.trans (by
    refine XS.aloadN X0.here hexec rfl (hb hbytes d0) rfl rfl ?_
    exact Steps.refl _)
  obtain ⟨T3, X3, q3, st3⟩ := X0.oinit hexec hown (wks W (objW "java/lang/String" 1)) (g := (mkF m 1 #[.val (.ref a), .val (.ref b), .val (.int (Int32.ofNat o)), .val (.int (Int32.ofNat len)), .val .null, .unset] [.ref a])) rfl (by rw [hml]; rfl) (rest := []) rfl (hb hbytes d1) (W := 0) (by show 2 * 0 + 0 ≤ _; decide) (Nat.le_of_ble_eq_true rfl) (Nat.le_of_ble_eq_true rfl)
  have hh3 := q3.trans hh0
  have c4 : Steps p.tables e below (s₁.setTop (entryFrame m #[.ref a, .ref b, .int (Int32.ofNat o), .int (Int32.ofNat len), .null] 6)) (T3.setTop (mkF m 27 #[.val (.ref a), .val (.ref b), .val (.int (Int32.ofNat o)), .val (.int (Int32.ofNat len)), .val .null, .unset] [])) := (c2.trans (st3 _ (Steps.refl _))).trans (by
    refine XS.iloadN X3.here hexec rfl (hb hbytes d4) rfl ?_
    refine XS.ifYes X3.here hexec rfl (pc0 := 5) rfl (hb hbytes d5) rfl (i0_ne_t (nz32 (by omega) l0)) (by decide) rfl ?_
    exact Steps.refl _)
  obtain ⟨T5, X5, q5, st5⟩ := X3.sget hexec hown (wk W (.fieldLink "java/lang/String" 38 "java/lang/String" "COMPACT_STRINGS" "Z")) s1 (fun _ _ h => by rw [hh3]; exact h) (g := (mkF m 27 #[.val (.ref a), .val (.ref b), .val (.int (Int32.ofNat o)), .val (.int (Int32.ofNat len)), .val .null, .unset] [])) rfl (hb hbytes d27)
  have hh5 := q5.trans hh3
  have c6 : Steps p.tables e below (s₁.setTop (entryFrame m #[.ref a, .ref b, .int (Int32.ofNat o), .int (Int32.ofNat len), .null] 6)) (T5.setTop (mkF m 30 #[.val (.ref a), .val (.ref b), .val (.int (Int32.ofNat o)), .val (.int (Int32.ofNat len)), .val .null, .unset] [.int z])) := c4.trans (st5 _ (Steps.refl _))
  have c7 : Steps p.tables e below (s₁.setTop (entryFrame m #[.ref a, .ref b, .int (Int32.ofNat o), .int (Int32.ofNat len), .null] 6)) (T5.setTop (mkF m 36 #[.val (.ref a), .val (.ref b), .val (.int (Int32.ofNat o)), .val (.int (Int32.ofNat len)), .val .null, .unset] [.int (Int32.ofNat len), .int (Int32.ofNat o), .ref b])) := c6.trans (by
    refine XS.ifNo X5.here hexec rfl (hb hbytes d30) rfl (i0_eq_f hz) ?_
    refine XS.aloadN X5.here hexec rfl (hb hbytes d33) rfl rfl ?_
    refine XS.iloadN X5.here hexec rfl (hb hbytes d34) rfl ?_
    refine XS.iloadN X5.here hexec rfl (hb hbytes d35) rfl ?_
    exact Steps.refl _)
  obtain ⟨v8, T8, X8, E8, g8⟩ := X5.callS hexec (Cmp3.law l b A o len) hown (wks W (staticW "java/lang/String" 177 Cmp3.yN)) (wk W Cmp3.tab) (W := 0) (Nat.le_of_ble_eq_true rfl) (Nat.le_of_ble_eq_true rfl) (Nat.le_refl _) (by show 0 + len ≤ len; omega) (g := (mkF m 36 #[.val (.ref a), .val (.ref b), .val (.int (Int32.ofNat o)), .val (.int (Int32.ofNat len)), .val .null, .unset] [.int (Int32.ofNat len), .int (Int32.ofNat o), .ref b])) rfl (by rw [hml]; rfl) c7 (argsL := [.ref b, .int (Int32.ofNat o), .int (Int32.ofNat len)]) (rest := []) rfl rfl (by show 2 * 0 + 0 ≤ _; decide) (hb hbytes d36) (⟨rfl, hA.mv X5.warmed.alike hh5, l1, l2, hp⟩)
  obtain ⟨e8, z8⟩ := E8
  obtain ⟨rfl, N, n1, n2, n3, n4, n5, n6⟩ := NewArr.mv _ T5 s _ _ hh5.symm (Vm.Alike.refl _) rfl e8
  rw [hh5] at z8
  have hB1 := hB.keep X8.warmed.alike (n6 _ _ hB.1)
  have hne : s.heap.size ≠ a := (Nat.ne_of_lt (Array.getElem?_eq_some_iff.mp hB.1).1).symm
  have c9 : Steps p.tables e below (s₁.setTop (entryFrame m #[.ref a, .ref b, .int (Int32.ofNat o), .int (Int32.ofNat len), .null] 6)) (T8.setTop (mkF m 39 #[.val (.ref a), .val (.ref b), .val (.int (Int32.ofNat o)), .val (.int (Int32.ofNat len)), .val .null, .unset] [.ref s.heap.size])) := g8
  have c10 : Steps p.tables e below (s₁.setTop (entryFrame m #[.ref a, .ref b, .int (Int32.ofNat o), .int (Int32.ofNat len), .null] 6)) (T8.setTop (mkF m 45 #[.val (.ref a), .val (.ref b), .val (.int (Int32.ofNat o)), .val (.int (Int32.ofNat len)), .val .null, .val (.ref s.heap.size)] [.int (Int32.ofNat N.slots.size), .ref s.heap.size, .ref a])) := by
    have hc : Steps p.tables e below (s₁.setTop (entryFrame m #[.ref a, .ref b, .int (Int32.ofNat o), .int (Int32.ofNat len), .null] 6)) (T8.setTop (mkF m 45 #[.val (.ref a), .val (.ref b), .val (.int (Int32.ofNat o)), .val (.int (Int32.ofNat len)), .val .null, .val (.ref s.heap.size)] [.int (Int32.ofNat len), .ref s.heap.size, .ref a])) := c9.trans (by
      refine XS.astore X8.here hexec rfl (hb hbytes d39) rfl rfl rfl ?_
      refine XS.aloadN X8.here hexec rfl (hb hbytes d41) rfl rfl ?_
      refine XS.aload X8.here hexec rfl (hb hbytes d42) rfl rfl ?_
      refine XS.iloadN X8.here hexec rfl (hb hbytes d44) rfl ?_
      exact Steps.refl _)
    rw [n4]; exact hc
  obtain ⟨v11, T11, X11, E11, g11⟩ := X8.callS hexec (CodL.law l s.heap.size N) hown (wks W (staticW "java/lang/String" 47 CodL.yN)) (wk W CodL.tab) (W := 1) (Nat.le_of_ble_eq_true rfl) (Nat.le_of_ble_eq_true rfl) (Nat.le_refl _) (by show 0 + len + 0 ≤ len; omega) (g := (mkF m 45 #[.val (.ref a), .val (.ref b), .val (.int (Int32.ofNat o)), .val (.int (Int32.ofNat len)), .val .null, .val (.ref s.heap.size)] [.int (Int32.ofNat N.slots.size), .ref s.heap.size, .ref a])) rfl (by rw [hml]; rfl) c10 (argsL := [.ref s.heap.size, .int (Int32.ofNat N.slots.size)]) (rest := [.ref a]) rfl rfl (by show 2 * 0 + (1 + 0) ≤ _; decide) (hb hbytes d45) (⟨rfl, n1⟩)
  obtain ⟨rfl, q11⟩ := E11
  have hB11 := hB1.mv (X8.warmed.alike.symm.trans X11.warmed.alike) q11
  have c12 : Steps p.tables e below (s₁.setTop (entryFrame m #[.ref a, .ref b, .int (Int32.ofNat o), .int (Int32.ofNat len), .null] 6)) (T11.setTop (mkF m 48 #[.val (.ref a), .val (.ref b), .val (.int (Int32.ofNat o)), .val (.int (Int32.ofNat len)), .val .null, .val (.ref s.heap.size)] [.int 0, .ref a])) := g11
  obtain ⟨T13, X13, p13, bl13, sl13, st13⟩ := X11.finit hexec hown (wk W (.fieldLink "java/lang/String" 15 "java/lang/String" "coder" "B")) (Or.inr ⟨_, (wk W (.laysFinal "java/lang/String" "java/lang/String" "coder" "B"))⟩) (Or.inl ⟨rfl, hnm⟩) f2 (Or.inl rfl) hB11 (t := .byte) (by decide +kernel) rfl (g := (mkF m 48 #[.val (.ref a), .val (.ref b), .val (.int (Int32.ofNat o)), .val (.int (Int32.ofNat len)), .val .null, .val (.ref s.heap.size)] [.int 0, .ref a])) rfl (rest := []) rfl (hb hbytes d48)
  have c14 : Steps p.tables e below (s₁.setTop (entryFrame m #[.ref a, .ref b, .int (Int32.ofNat o), .int (Int32.ofNat len), .null] 6)) (T13.setTop (mkF m 54 #[.val (.ref a), .val (.ref b), .val (.int (Int32.ofNat o)), .val (.int (Int32.ofNat len)), .val .null, .val (.ref s.heap.size)] [.ref s.heap.size, .ref a])) := (c12.trans (st13 _ (Steps.refl _))).trans (by
    refine XS.aloadN X13.here hexec rfl (hb hbytes d51) rfl rfl ?_
    refine XS.aload X13.here hexec rfl (hb hbytes d52) rfl rfl ?_
    exact Steps.refl _)
  obtain ⟨T15, X15, p15, bl15, sl15, st15⟩ := X13.finit hexec hown (wk W (.fieldLink "java/lang/String" 9 "java/lang/String" "value" "[B")) (Or.inr ⟨_, (wk W (.laysFinal "java/lang/String" "java/lang/String" "value" "[B"))⟩) (Or.inl ⟨rfl, hnm⟩) f1 (Or.inl rfl) bl13 (t := (.array .byte)) (by decide +kernel) rfl (g := (mkF m 54 #[.val (.ref a), .val (.ref b), .val (.int (Int32.ofNat o)), .val (.int (Int32.ofNat len)), .val .null, .val (.ref s.heap.size)] [.ref s.heap.size, .ref a])) rfl (rest := []) rfl (hb hbytes d54)
  have c16 : Steps p.tables e below (s₁.setTop (entryFrame m #[.ref a, .ref b, .int (Int32.ofNat o), .int (Int32.ofNat len), .null] 6)) (T15.setTop (mkF m 57 #[.val (.ref a), .val (.ref b), .val (.int (Int32.ofNat o)), .val (.int (Int32.ofNat len)), .val .null, .val (.ref s.heap.size)] [])) := c14.trans (st15 _ (Steps.refl _))
  have ap := apart (Or.inr ⟨_, (wk W (.laysFinal "java/lang/String" "java/lang/String" "value" "[B"))⟩) (Or.inr ⟨_, (wk W (.laysFinal "java/lang/String" "java/lang/String" "coder" "B"))⟩) f1 f2 (t₁ := .array .byte) (t₂ := .byte) (by decide +kernel) (by decide +kernel) (by decide)
  have al := X8.warmed.alike.symm.trans X15.warmed.alike
  have n7 : T11.heap[s.heap.size]? = some N := by rw [q11]; exact n1.1
  exact ⟨T15, none, _, _, _, X15, by simp, rfl, by omega, (fun _ => rfl), ⟨rfl, _, N, bl15, ((Same.refl D _).set _ (by simp)).set _ (by simp), sl15, (Cell.slots_setSlot_ne _ ap).trans sl13, n1.keep al (p15.other hne (p13.other hne n7)), n2, by rw [al.findClass]; exact n3, n4, n5, fun y c h1 h2 => p15.other h1 (p13.other h1 (by rw [q11]; exact n6 y c h2)), by rw [p15.2.2, p13.2.2, q11]; exact z8⟩, fun fs hl => c16.trans (X15.returnOut hexec hret (hb hbytes d57) hl)⟩
end New4
namespace New1
def yN : MethodName := ⟨"java/lang/String", "<init>", "([C)V"⟩
abbrev yB : ByteArray := jdk_42_method_3_code
theorem d0 : decode yB 0 = .ok (.aload_n 0, 1) := by decide +kernel
theorem d1 : decode yB 1 = .ok (.aload_n 1, 1) := by decide +kernel
theorem d2 : decode yB 2 = .ok (.iconst 0, 1) := by decide +kernel
theorem d3 : decode yB 3 = .ok (.aload_n 1, 1) := by decide +kernel
theorem d4 : decode yB 4 = .ok (.arraylength, 1) := by decide +kernel
theorem d5 : decode yB 5 = .ok (.aconst_null, 1) := by decide +kernel
theorem d6 : decode yB 6 = .ok (.invokespecial 27, 3) := by decide +kernel
theorem d9 : decode yB 9 = .ok (.return_, 1) := by decide +kernel
def site : List Cond := [New4.tab] ++ initW "java/lang/String" 27 New4.yN
def tab : Cond := tabOf yN yB 2 none site
def P (a : Addr) (D : Cell) (fV fC : Field) (b : Addr) (A : Cell) (z : Int32) (args : Array Value) (s : State) : Prop := args = #[.ref a, .ref b] ∧ Blank "java/lang/String" a D s ∧ Found "java/lang/String" "value" "[B" fV s ∧ Found "java/lang/String" "coder" "B" fC s ∧ Ch b A s ∧ StaticIs s "java/lang/String" "COMPACT_STRINGS" "Z" (.int z) ∧ ¬ z = 0 ∧ 0 < A.slots.size ∧ A.slots.size ≤ 536870912 ∧ ∀ i, i < A.slots.size → ¬ 255 < cv A i
def E (a : Addr) (D : Cell) (fV fC : Field) (A : Cell) (r : Option Value) (s u : State) : Prop := Got a D fV fC A 0 A.slots.size r s u
/-- new String(chars), not empty, no char above 255: a Latin-1 String of their low bytes -/
theorem law (l : Launch) (a : Addr) (D : Cell) (fV fC : Field) (b : Addr) (A : Cell) (z : Int32) : Law l yN 2 1 3 52 yB 2 none site (P a D fV fC b A z) (E a D fV fC A) [⟨a, fC.slot⟩, ⟨a, fV.slot⟩] 1 A.slots.size := by
  refine Law.of_walk (plainFor_of_name (by decide +kernel)) (by decide +kernel) (by decide +kernel) (by decide) (fun _ _ h => by rw [h.1]; rfl) (fun _ U U' hal hh h => ⟨h.1, h.2.1.mv hal hh, h.2.2.1.al hal, h.2.2.2.1.al hal, h.2.2.2.2.1.mv hal hh, h.2.2.2.2.2.1.there hal hh, h.2.2.2.2.2.2⟩) (fun r U U' V V' h1 hal h2 h => Got.mv r U U' V V' h1 hal h2 h) ?_
  intro p e s m args below meth c s₁ X0 hexec hbytes hml hret hlk hnm hown hh0 W hP
  obtain ⟨rfl, hB, f1, f2, hA, s1, hz, l0, l2, hp⟩ := hP
  have c1 : Steps p.tables e below (s₁.setTop (entryFrame m #[.ref a, .ref b] 2)) (s₁.setTop (mkF m 0 #[.val (.ref a), .val (.ref b)] [])) := entry rfl
  have c2 : Steps p.tables e below (s₁.setTop (entryFrame m #[.ref a, .ref b] 2)) (s₁.setTop (mkF m 6 #[.val (.ref a), .val (.ref b)] [.null, .int (Int32.ofNat A.slots.size), .int 0, .ref b, .ref a])) := c1.trans (by
    refine XS.aloadN X0.here hexec rfl (hb hbytes d0) rfl rfl ?_
    refine XS.aloadN X0.here hexec rfl (hb hbytes d1) rfl rfl ?_
    refine iconstV X0.here hexec rfl 0 (hb hbytes d2) (by decide) ?_
    refine XS.aloadN X0.here hexec rfl (hb hbytes d3) rfl rfl ?_
    refine X0.alen hexec (hA.1.mv X0.warmed.alike hh0) rfl rfl (hb hbytes d4) ?_
    refine XS.aconstNull X0.here hexec rfl (hb hbytes d5) ?_
    exact Steps.refl _)
  obtain ⟨v3, T3, X3, E3, g3⟩ := X0.callN hexec (New4.law l a D fV fC b A z 0 A.slots.size) rfl hown (wks W (initW "java/lang/String" 27 New4.yN)) (W New4.tab (by simp only [site, List.mem_cons, List.mem_append, true_or, or_true])) (W := 0) (Nat.le_of_ble_eq_true rfl) (Nat.le_of_ble_eq_true rfl) (Nat.le_refl _) (by show 0 + A.slots.size ≤ A.slots.size; omega) (g := (mkF m 6 #[.val (.ref a), .val (.ref b)] [.null, .int (Int32.ofNat A.slots.size), .int (Int32.ofNat 0), .ref b, .ref a])) rfl (by rw [hml]; rfl) c2 (argsL := [.ref b, .int (Int32.ofNat 0), .int (Int32.ofNat A.slots.size), .null]) (rest := []) rfl rfl (by show 2 * 0 + 0 ≤ _; decide) (hb hbytes d6) (⟨rfl, hB.mv X0.warmed.alike hh0, f1.al X0.warmed.alike, f2.al X0.warmed.alike, hA.mv X0.warmed.alike hh0, s1.there X0.warmed.alike hh0, hz, l0, by omega, l2, fun i hi => by rw [Nat.zero_add]; exact hp i hi⟩)
  have e0 := Got.mv _ s₁ s _ _ hh0.symm (Vm.Alike.refl _) rfl E3
  obtain rfl := e0.1
  have c4 : Steps p.tables e below (s₁.setTop (entryFrame m #[.ref a, .ref b] 2)) (T3.setTop (mkF m 9 #[.val (.ref a), .val (.ref b)] [])) := g3
  exact ⟨T3, none, _, _, _, X3, by simp, rfl, by omega, (fun _ => rfl), e0, fun fs hl => c4.trans (X3.returnOut hexec hret (hb hbytes d9) hl)⟩
theorem pays {l : Launch} {R : Room} {p : Program} {e : Env} {below : List Frame} {s : State} {sargs : Array Value} {len W : Nat} (a : Addr) (D : Cell) (fV fC : Field) (b : Addr) (A : Cell) (z : Int32) (htab : tab.before sargs s = true) (hfr : 4 ≤ R.frames) (hlo : W + 65 ≤ R.locals) :
    Back l R p e below s sargs yN len W (fun A₁ a₁ => A₁.cells + 1 ≤ R.cells ∧ A₁.slots + A.slots.size ≤ R.slots ∧ P a D fV fC b A z a₁ A₁.U) (fun A₁ _ v₁ B₁ => E a D fV fC A v₁ A₁.U B₁.U ∧ B₁.locs = A₁.locs ++ [⟨a, fC.slot⟩, ⟨a, fV.slot⟩] ∧ B₁.cells = A₁.cells + 1 ∧ B₁.slots = A₁.slots + A.slots.size) :=
  (law l a D fV fC b A z).pays htab hfr (by omega)
end New1
/-- the byte, read back as charAt reads it, is the char -/
theorem lo8_mask {x : Int32} (h0 : ¬ x < 0) (h1 : ¬ 255 < x) : lo8 x &&& 255 = x := by
  have t : ∀ k : Fin 256, lo8 (Int32.ofNat k.val) &&& 255 = Int32.ofNat k.val := by decide +kernel
  rw [Int32.lt_iff_toInt_lt] at h0 h1
  have e0 : (0 : Int32).toInt = 0 := rfl
  have e1 : (255 : Int32).toInt = 255 := rfl
  obtain ⟨k, hk⟩ : ∃ k : Nat, x.toInt = k := ⟨x.toInt.toNat, by omega⟩
  have hx : x = Int32.ofNat k := Int32.toInt_inj.mp (by rw [hk, Int32.toInt_ofNat_small (by omega)])
  rw [hx]
  exact t ⟨k, by omega⟩
end StrChars
namespace StrChars.Road
open Jvm Sem ClassFile Op Lib Jvm.Stand Jvm.Free Jvm.Free.XT
open Jvm.Lib.Cold (StaticIs)
abbrev ST : String := "java/lang/String"
/-- every table word that New1's law asks, flat -/
abbrev words : List Jvm.Cond := [.code New1.yN New1.yB 2 none, .initialized ST, .methodLink ST 27 New4.yN, .instanceMethod New4.yN,
  .code New4.yN New4.yB 6 none, .fieldLink ST 38 ST "COMPACT_STRINGS" "Z", .laysFinal ST ST "value" "[B", .fieldLink ST 9 ST "value" "[B", .laysFinal ST ST "coder" "B", .fieldLink ST 15 ST "coder" "B",
  .methodLink ST 1 Lib.objectInit, .instanceMethod Lib.objectInit, .code Lib.objectInit ⟨#[0xb1]⟩ 1 none, .methodLink ST 177 Cmp3.yN, .static Cmp3.yN, .methodLink ST 47 CodL.yN, .static CodL.yN,
  .code Cmp3.yN Cmp3.yB 6 (some (.array .byte)), .initialized U16, .arrayClass .byte, .methodLink U16 115 Cmp5.yN, .static Cmp5.yN, .code Cmp5.yN Cmp5.yB 7 (some .int), .code CodL.yN CodL.yB 2 (some .byte)]
theorem tab_of {a : Array Value} {s : State} (h : ∀ w ∈ words, w.before a s = true) : New1.tab.before a s = true := by
  have h5 : Cmp5.tab.before a s = true := unparts (wk h (.code Cmp5.yN Cmp5.yB 7 (some .int))) (wks h (.initialized Cmp5.yN.cls :: Cmp5.site))
  have hc : CodL.tab.before a s = true := unparts (wk h (.code CodL.yN CodL.yB 2 (some .byte))) (wks h (.initialized CodL.yN.cls :: CodL.site))
  have q5 : ∀ w ∈ Cmp5.tab :: words, w.before a s = true := fun w hw => (List.mem_cons.mp hw).elim (fun e => e ▸ h5) (h w)
  have h3 : Cmp3.tab.before a s = true := unparts (wk q5 (.code Cmp3.yN Cmp3.yB 6 (some (.array .byte)))) (wks q5 (.initialized Cmp3.yN.cls :: Cmp3.site))
  have q3 : ∀ w ∈ Cmp3.tab :: CodL.tab :: words, w.before a s = true := fun w hw => (List.mem_cons.mp hw).elim (fun e => e ▸ h3) fun hw => (List.mem_cons.mp hw).elim (fun e => e ▸ hc) (h w)
  have h4 : New4.tab.before a s = true := unparts (wk q3 (.code New4.yN New4.yB 6 none)) (wks q3 (.initialized New4.yN.cls :: New4.site))
  have q4 : ∀ w ∈ New4.tab :: words, w.before a s = true := fun w hw => (List.mem_cons.mp hw).elim (fun e => e ▸ h4) (h w)
  exact unparts (wk q4 (.code New1.yN New1.yB 2 none)) (wks q4 (.initialized New1.yN.cls :: New1.site))
/-- the words ride from the start Z to the walk's own state -/
theorem moved {Z s : State} {a0 args : Array Value} (hZ : Z.Warmed39 s.vm) (hw : ∀ d ∈ words, d.before a0 Z = true) : ∀ d ∈ words, d.before args s = true := fun d hd => by
  have q := hw d hd
  have t : ∀ d ∈ words, d = .arrayClass .byte ∨ (d.onTables && d.keepsFace) = true := by decide +kernel
  rcases t d hd with rfl | t
  · exact RoadKit.mvA hZ q
  · exact RoadKit.mv hZ q t
/-- WHAT COMES BACK, over the tables of the start Z: h the heap at the call, h' behind it -/
def Q (Z : State) (x : Addr) (A : Cell) (h : Heap) (v : Option Value) (h' : Heap) (L : List Loc) : Prop := v = none ∧ (∀ y ∈ L, y.base = x) ∧ RoadKit.Keep h h' [x] ∧ h'.size = h.size + 1 ∧ RoadKit.Exa Z h' x ST ∧ RoadKit.Fld Z h' x ST "value" "[B" (.ref h.size) ∧ RoadKit.Fld Z h' x ST "coder" "B" (.int 0) ∧
  (∃ V : Cell, RoadKit.Arr Z h' h.size V .byte ∧ V.vm = .none ∧ Z.vm.findClass "[B" = some V.cls ∧ V.slots.size = A.slots.size ∧ ∀ j, j < A.slots.size → V.slots[j]? = some (.int (lo8 (cv A j)))) ∧
  ∀ (O n d : String) (w : Value), RoadKit.Fld Z h x O n d w → RoadKit.slotOf Z O n d ≠ RoadKit.slotOf Z ST "value" "[B" → RoadKit.slotOf Z O n d ≠ RoadKit.slotOf Z ST "coder" "B" → RoadKit.Fld Z h' x O n d w
/-- **new String(chars) AT A CALL, IN THE ROAD'S FORM**: for specialBack behind newO: x the fresh String, b the char[] with the cell A -/
theorem back {p : Program} {l : Launch} {e : Env} {R : Room} {s : State} {args : Array Value} {below : List Frame} {len W : Nat} {Z : State} {a0 : Array Value} {h : Heap} (hZ : Z.Warmed39 s.vm) (hw : ∀ d ∈ words, d.before a0 Z = true) {kI : Nat} (wi : (Jvm.Cond.instantiable ST kI).before a0 Z = true)
    {x b : Addr} {A : Cell} {z : Int32} {v0 c0 : Value} (E : RoadKit.Exa Z h x ST) (V : RoadKit.Fld Z h x ST "value" "[B" v0) (C : RoadKit.Fld Z h x ST "coder" "B" c0) (K : RoadKit.Arr Z h b A .char) (hty : Typed .char A) (S : RoadKit.Sta Z h ST "COMPACT_STRINGS" "Z" (.int z)) (hz : ¬ z = 0)
    (l0 : 0 < A.slots.size) (l2 : A.slots.size ≤ 536870912) (hp : ∀ i, i < A.slots.size → ¬ 255 < cv A i) (hfr : 4 ≤ R.frames) (hlo : W + 65 ≤ R.locals) :
    Back l R p e below s args New1.yN len W (fun P a => a = #[.ref x, .ref b] ∧ P.U.heap = h ∧ P.cells + 1 ≤ R.cells ∧ P.slots + A.slots.size ≤ R.slots)
      (fun P _ v B => ∃ L, Q Z x A h v B.U.heap L ∧ B.locs = P.locs ++ L ∧ B.cells = P.cells + 1 ∧ B.slots = P.slots + A.slots.size) := by
  intro m meth c P g ig mk a X hg hsize hdg hW hn hp'
  obtain ⟨rfl, rfl, r1, r2⟩ := hp'
  have al : Z.vm.Alike P.U.vm := hZ.alike.trans X.warmed.alike
  obtain ⟨D, cfV, kV, iV, fV, hD, gV, stV, knV, obV, asV, slV⟩ := id V
  obtain ⟨D', cfC, kC, iC, fC, hD', gC, stC, -, -, asC, slC⟩ := id C
  cases hD.symm.trans hD'
  obtain ⟨D2, kD, e1, e2, e3, e4, e5⟩ := id E
  cases hD.symm.trans e1
  obtain ⟨c2, k2, i1, i2, i3, -⟩ := Cond.instantiable_spec wi
  cases e2.symm.trans i1
  cases e3.symm.trans i2
  obtain ⟨kU, u1, u2⟩ := al.2.2 _ _ e3
  have hB : Blank ST x D P.U := ⟨hD, ⟨knV, fun q hq => by rw [hq] at obV; cases obV⟩, by rw [al.findClass]; exact e2, kU, u1, by rw [u2]; exact i3, by rw [u2]; exact e5 i3⟩
  have F1 : Found ST "value" "[B" fV P.U := ⟨SBG.found_only al ⟨cfV, kV, iV, gV⟩, stV⟩
  have F2 : Found ST "coder" "B" fC P.U := ⟨SBG.found_only al ⟨cfC, kC, iC, gC⟩, stC⟩
  have hA : Ch b A P.U := ⟨⟨K.1, State.isArrayOf_alike al K.2.1, K.2.2, by omega⟩, hty⟩
  have hS : StaticIs P.U ST "COMPACT_STRINGS" "Z" (.int z) := by
    obtain ⟨cfS, iS, kS, fS, st, cS, t1, t2, t3, t4, t5, t6, t7⟩ := S
    exact StaticIs.there (s := { Z with heap := P.U.heap }) ⟨cfS, iS, kS, fS, st, cS, t1, t2, t3, t4, t5, (fun q => by rw [q] at t6; cases t6), t7⟩ al rfl
  obtain ⟨v, B, X', ⟨⟨hv, E', V', q1, q2, q3, q4, q5, q6, q7, q8, q9, q10, q11⟩, hl, hc, hs⟩, st⟩ := New1.pays x D fV fC b A z (tab_of (moved hZ hw)) hfr hlo m meth c P g ig mk _ X hg hsize hdg hW hn ⟨r1, r2, rfl, hB, F1, F2, hA, hS, hz, l0, l2, hp⟩
  have al' : Z.vm.Alike B.U.vm := hZ.alike.trans X'.warmed.alike
  have hsz : E'.slots.size = D.slots.size := by
    obtain ⟨-, -, -, kB, w1, w2, w3⟩ := q1
    obtain ⟨kB', y1, y2⟩ := al'.2.2 _ _ e3
    rw [q2.2.1] at w1
    cases w1.symm.trans y1
    rw [w3, e5 i3, y2]
  refine ⟨v, B, X', ⟨_, ⟨hv, ?_, ⟨by omega, fun y cy hy hn' => q10 y cy (by simpa using hn') hy, fun y cy hy => ?_⟩, q11, ⟨E', _, q1.1, by rw [q2.2.1]; exact e2, by rw [q2.2.1]; exact e3, by rw [q2.1]; exact obV, fun _ => by rw [hsz]; exact e5 i3⟩,
    ⟨E', cfV, kV, iV, fV, q1.1, gV, stV, by rw [q2.1]; exact knV, by rw [q2.1]; exact obV, by rw [q2.2.1]; exact asV, q3⟩, ⟨E', cfC, kC, iC, fC, q1.1, gC, stC, by rw [q2.1]; exact knV, by rw [q2.1]; exact obV, by rw [q2.2.1]; exact asC, q4⟩,
    ⟨V', ⟨q5.1, State.isArrayOf_alike al'.symm q5.2.1, q5.2.2.1⟩, q6, by rw [← al'.findClass]; exact q7, q8, fun j hj => by have := q9 j hj; rwa [Nat.zero_add] at this⟩, fun O n d w F n1 n2 => ?_⟩, hl, hc, hs⟩, st⟩
  · intro y hy
    simp only [List.mem_cons, List.not_mem_nil, or_false] at hy
    rcases hy with rfl | rfl <;> rfl
  · by_cases q : y = x
    · subst q
      cases hD.symm.trans hy
      exact ⟨E', q1.1, q2.2.1, q2.1, hsz⟩
    · exact ⟨cy, q10 y cy q hy, rfl, rfl, rfl⟩
  · obtain ⟨D3, cf, k, i, f, g1, g2, g3, g4, g5, g6, g7⟩ := F
    cases hD.symm.trans g1
    simp only [RoadKit.slotOf, g2, gV, gC, Option.map_some, Option.getD_some] at n1 n2
    exact ⟨E', cf, k, i, f, q1.1, g2, g3, by rw [q2.1]; exact g4, by rw [q2.1]; exact g5, by rw [q2.2.1]; exact g6, by rw [q2.2.2 f.slot (by simp [n1, n2])]; exact g7⟩
end StrChars.Road
namespace StrChars.Road
open Jvm Sem ClassFile Op Lib Jvm.Stand Jvm.Free Jvm.Free.XT
/-- WHAT COMES BACK, the byte[] as a list of values -/
def QA (Z : State) (x : Addr) (zn : Int32) (cs : List Int32) (h : Heap) (v : Option Value) (h' : Heap) (L : List Loc) : Prop := v = none ∧ (∀ y ∈ L, y.base = x) ∧ RoadKit.Keep h h' [x] ∧ h'.size = h.size + 1 ∧ RoadKit.Exa Z h' x ST ∧ RoadKit.Fld Z h' x ST "value" "[B" (.ref h.size) ∧ RoadKit.Fld Z h' x ST "coder" "B" (.int 0) ∧
  (∃ kb, Z.vm.findClass "[B" = some kb ∧ RoadKit.Arv Z h' h.size kb .byte zn (cs.map fun c => .int (lo8 c)) (.int 0)) ∧
  ∀ (O n d : String) (w : Value), RoadKit.Fld Z h x O n d w → RoadKit.slotOf Z O n d ≠ RoadKit.slotOf Z ST "value" "[B" → RoadKit.slotOf Z O n d ≠ RoadKit.slotOf Z ST "coder" "B" → RoadKit.Fld Z h' x O n d w
/-- **new String(chars) AT A CALL, THE ARRAYS AS LISTS**: the char[] at b holds cs, not empty, no char above 255 -/
theorem backArv {p : Program} {l : Launch} {e : Env} {R : Room} {s : State} {args : Array Value} {below : List Frame} {len W : Nat} {Z : State} {a0 : Array Value} {h : Heap} (hZ : Z.Warmed39 s.vm) (hw : ∀ d ∈ words, d.before a0 Z = true) {kI : Nat} (wi : (Jvm.Cond.instantiable ST kI).before a0 Z = true)
    {x b : Addr} {k : ClassId} {zn z : Int32} {cs : List Int32} {dv v0 c0 : Value} (E : RoadKit.Exa Z h x ST) (V : RoadKit.Fld Z h x ST "value" "[B" v0) (C : RoadKit.Fld Z h x ST "coder" "B" c0) (K : RoadKit.Arv Z h b k .char zn (cs.map Value.int) dv) (S : RoadKit.Sta Z h ST "COMPACT_STRINGS" "Z" (.int z)) (hz : ¬ z = 0)
    (hlen : zn.toNatClampNeg = cs.length) (h0 : 0 < cs.length) (hbig : cs.length ≤ 536870912) (hall : ∀ c ∈ cs, ¬ 255 < c) (hfr : 4 ≤ R.frames) (hlo : W + 65 ≤ R.locals) :
    Back l R p e below s args New1.yN len W (fun P a => a = #[.ref x, .ref b] ∧ P.U.heap = h ∧ P.cells + 1 ≤ R.cells ∧ P.slots + cs.length ≤ R.slots)
      (fun P _ v B => ∃ L, QA Z x zn cs h v B.U.heap L ∧ B.locs = P.locs ++ L ∧ B.cells = P.cells + 1 ∧ B.slots = P.slots + cs.length) := by
  obtain ⟨A, K1, K2, K3, K4, K5, K6⟩ := K
  have e : A.slots.size = cs.length := K3.trans hlen
  have hat : ∀ (i : Nat) (hi : i < cs.length), A.slots[i]? = some (.int cs[i]) := fun i hi => by rw [K5 i (by omega)]; simp [List.getD_eq_getElem?_getD, hi]
  have hcv : ∀ (i : Nat) (hi : i < cs.length), cv A i = cs[i] := fun i hi => by unfold cv; rw [hat i hi]
  have hty : Typed .char A := fun i v hv => by
    have hi : i < A.slots.size := (Array.getElem?_eq_some_iff.mp hv).1
    have q := K5 i hi
    rw [hv] at q
    rw [Option.some.inj q]
    exact K6 i hi
  refine Back.mono (back hZ hw wi E V C K1 hty S hz (by omega) (by omega) (fun i hi => by rw [hcv i (by omega)]; exact hall _ (List.getElem_mem _)) hfr hlo) (fun P a hp => ⟨hp.1, hp.2.1, hp.2.2.1, by rw [e]; exact hp.2.2.2⟩) (fun P a v B hp hq => ?_)
  obtain ⟨L, ⟨q1, q2, q3, q4, q5, q6, q7, ⟨V', v1, v2, v3, v4, v5⟩, q9⟩, hl, hc, hs⟩ := hq
  refine ⟨L, ⟨q1, q2, q3, q4, q5, q6, q7, ⟨V'.cls, v3, V', v1, rfl, by rw [v4, e, hlen], K4, fun i hi => ?_, fun i hi => ?_⟩, q9⟩, hl, hc, by rw [hs, e]⟩
  · have hi' : i < cs.length := by omega
    rw [v5 i (by omega), hcv i hi']; simp [List.getD_eq_getElem?_getD, hi']
  · have hi' : i < cs.length := by omega
    simp only [List.getD_eq_getElem?_getD, List.getElem?_map, List.getElem?_eq_getElem hi', Option.map_some, Option.getD_some]
    exact fits_lo8 _
end StrChars.Road
namespace StrChars.Road
open Jvm Sem ClassFile Op Lib Jvm.Stand Jvm.Free Jvm.Free.XT
/-- WHAT COMES BACK, in the writer's own shape -/
def QV (Z : State) (x : Addr) (N : Int32) (bs : List Int32) (h : Heap) (n0 : Nat) (v : Option Value) (h' : Heap) (L : List Loc) : Prop := v = none ∧ RoadKit.Fr n0 L ∧ RoadKit.Keep h h' [x] ∧ RoadKit.Exa Z h' x ST ∧ RoadKit.Fld Z h' x ST "coder" "B" (.int 0) ∧
  ∃ (t : Addr) (kb : ClassId), n0 ≤ t ∧ h.size ≤ t ∧ ¬ t = x ∧ RoadKit.Fld Z h' x ST "value" "[B" (.ref t) ∧ RoadKit.Arv Z h' t kb .byte N (bs.map Value.int) (.int 0)
/-- **new String(chars) AT A CALL, FOR THE WRITER**: a char[] of n known ints, each 0 to 255 -/
theorem backV {p : Program} {l : Launch} {e : Env} {R : Room} {s : State} {args : Array Value} {below : List Frame} {len W : Nat} {Z : State} {a0 : Array Value} {h : Heap} (hZ : Z.Warmed39 s.vm) (hw : ∀ d ∈ words, d.before a0 Z = true) {kI : Nat} (wi : (Jvm.Cond.instantiable ST kI).before a0 Z = true)
    {x b : Addr} {kC : ClassId} {cs bs : List Int32} {d v0 c0 : Value} {z N : Int32} {n n0 : Nat} (hx0 : n0 ≤ x) (hh0 : n0 ≤ h.size) (E : RoadKit.Exa Z h x ST) (V : RoadKit.Fld Z h x ST "value" "[B" v0) (C : RoadKit.Fld Z h x ST "coder" "B" c0) (K : RoadKit.Arv Z h b kC .char N (cs.map Value.int) d) (S : RoadKit.Sta Z h ST "COMPACT_STRINGS" "Z" (.int z)) (hz : ¬ z = 0)
    (hn : cs.length = n) (hN : N = Int32.ofNat n) (l0 : 0 < n) (l2 : n ≤ 4000) (hp : ∀ c ∈ cs, ¬ c < 0 ∧ ¬ (255 : Int32) < c) (hb : bs = cs.map (fun c => c.toInt8.toInt32)) (hfr : 4 ≤ R.frames) (hlo : W + 65 ≤ R.locals) :
    Back l R p e below s args (⟨"java/lang/String", "<init>", "([C)V"⟩ : MethodName) len W (fun P a => a = #[.ref x, .ref b] ∧ P.U.heap = h ∧ P.cells + 1 ≤ R.cells ∧ P.slots + n ≤ R.slots)
      (fun P _ v B => ∃ L, QV Z x N bs h n0 v B.U.heap L ∧ B.locs = P.locs ++ L ∧ B.cells = P.cells + 1 ∧ B.slots = P.slots + n) := by
  subst hn hN hb
  refine Back.mono (backArv hZ hw wi E V C K S hz (n32 (by omega)) l0 (by omega) (fun c hc => (hp c hc).2) hfr hlo) (fun P a hp => hp) (fun P a v B hp hq => ?_)
  obtain ⟨L, ⟨q1, q2, q3, q4, q5, q6, q7, ⟨kb, v1, v2⟩, q9⟩, hl, hc, hs⟩ := hq
  exact ⟨L, ⟨q1, fun y hy => by rw [q2 y hy]; exact hx0, q3, q5, q7, h.size, kb, hh0, Nat.le_refl _, Nat.ne_of_gt E.lt, q6, by rw [List.map_map]; exact v2⟩, hl, hc, hs⟩
end StrChars.Road
namespace StrChars
open Jvm Sem ClassFile Op Lib Jvm.Stand Jvm.Free.XT Jvm.Free.ALB Jvm.Free.JM Jvm.Free
open Jvm.Lib.Cold (StaticIs)
def hi8 (x : Int32) : Int32 := lo8 (x >>> ((8 : Int32) &&& 31))
/-- what StringUTF16.getChar makes of two bytes -/
def pairCh (u v : Int32) : Int32 := (((u &&& 255) <<< ((0 : Int32) &&& 31)) ||| ((v &&& 255) <<< ((8 : Int32) &&& 31))).toUInt32.toUInt16.toUInt32.toInt32
theorem shr0 (c : Int32) : c >>> ((0 : Int32) &&& 31) = c := by
  have e : ((0 : Int32) &&& 31) = 0 := by decide
  rw [e]
  apply Int32.toBitVec_inj.mp
  rw [Int32.toBitVec_shiftRight]
  have e1 : ((0 : Int32).toBitVec.smod 32) = 0#32 := by decide
  rw [e1, BitVec.sshiftRight_eq']
  exact BitVec.sshiftRight_zero
theorem lo8_and (x : Int32) : (lo8 x &&& 255).toBitVec.toNat = x.toBitVec.toNat % 256 := by
  have h : (lo8 x).toBitVec = (x.toBitVec.signExtend 8).signExtend 32 := by rw [lo8, Int8.toBitVec_toInt32, Int32.toBitVec_toInt8]
  rw [Int32.toBitVec_and, BitVec.toNat_and, h]
  have e : ((x.toBitVec.signExtend 8).signExtend 32).toNat % 256 = x.toBitVec.toNat % 256 := by
    rw [BitVec.toNat_signExtend]
    have hlt := x.toBitVec.isLt
    simp only [BitVec.toNat_setWidth, BitVec.toNat_signExtend]
    split <;> split <;> omega
  rw [← e]
  exact Nat.and_two_pow_sub_one_eq_mod _ 8
theorem pair_says {c : Int32} (h0 : ¬ c < 0) (h1 : ¬ 65535 < c) : pairCh (lo8 c) (hi8 c) = c := by
  rw [Int32.lt_iff_toInt_lt] at h0 h1
  have e0 : (0 : Int32).toInt = 0 := rfl
  have e1 : (65535 : Int32).toInt = 65535 := rfl
  have hc : c.toInt = c.toBitVec.toNat := by
    have := c.toBitVec.isLt
    have e : c.toInt = c.toBitVec.toInt := rfl
    rw [e] at h0 h1
    rw [e]
    rw [BitVec.toInt_eq_toNat_cond] at h0 h1 ⊢
    split at h0 <;> split <;> omega
  have hn : c.toBitVec.toNat < 65536 := by omega
  have a1 := lo8_and c
  have a2 : (hi8 c &&& 255).toBitVec.toNat = c.toBitVec.toNat / 256 := by
    rw [hi8, lo8_and]
    have e : ((8 : Int32) &&& 31) = 8 := by decide
    rw [e, Int32.toBitVec_shiftRight]
    have e2 : ((8 : Int32).toBitVec.smod 32) = 8#32 := by decide
    rw [e2, BitVec.sshiftRight_eq', BitVec.toNat_sshiftRight_of_msb_false (by rw [BitVec.msb_eq_false_iff_two_mul_lt]; omega)]
    show c.toBitVec.toNat >>> 8 % 256 = _
    rw [Nat.shiftRight_eq_div_pow]
    omega
  unfold pairCh
  apply Int32.toBitVec_inj.mp
  apply BitVec.eq_of_toNat_eq
  have f0 : ((0 : Int32) &&& 31) = 0 := by decide
  have f8 : ((8 : Int32) &&& 31) = 8 := by decide
  rw [f0, f8]
  have g : (((lo8 c &&& 255) <<< (0 : Int32)) ||| ((hi8 c &&& 255) <<< (8 : Int32))).toBitVec.toNat = c.toBitVec.toNat := by
    rw [Int32.toBitVec_or, Int32.toBitVec_shiftLeft, Int32.toBitVec_shiftLeft]
    have s0 : ((0 : Int32).toBitVec.smod 32) = 0#32 := by decide
    have s8 : ((8 : Int32).toBitVec.smod 32) = 8#32 := by decide
    rw [s0, s8, BitVec.toNat_or]
    simp only [BitVec.shiftLeft_eq', BitVec.toNat_shiftLeft, a1, a2]
    show (c.toBitVec.toNat % 256) <<< 0 % 2 ^ 32 ||| (c.toBitVec.toNat / 256) <<< 8 % 2 ^ 32 = _
    rw [Nat.shiftLeft_zero, Nat.mod_eq_of_lt (show c.toBitVec.toNat % 256 < 2 ^ 32 by omega), Nat.mod_eq_of_lt (show (c.toBitVec.toNat / 256) <<< 8 < 2 ^ 32 by rw [Nat.shiftLeft_eq]; omega), Nat.or_comm, ← Nat.shiftLeft_add_eq_or_of_lt (by omega), Nat.shiftLeft_eq]
    omega
  show BitVec.toNat (((((lo8 c &&& 255) <<< (0 : Int32)) ||| ((hi8 c &&& 255) <<< (8 : Int32))).toBitVec.setWidth 16).setWidth 32) = _
  rw [BitVec.toNat_setWidth, BitVec.toNat_setWidth, g]
  omega
end StrChars
namespace StrChars
open Jvm Sem ClassFile Op Lib Jvm.Stand Jvm.Free.XT Jvm.Free.ALB Jvm.Free.JM Jvm.Free
open Jvm.Lib.Cold (StaticIs)
theorem shr1 {n : Nat} (h : 2 * n < 2 ^ 31) : Int32.ofNat (2 * n) >>> ((1 : Int32) &&& 31) = Int32.ofNat n := by
  have e : ((1 : Int32) &&& 31) = 1 := by decide
  rw [e]
  apply Int32.toBitVec_inj.mp
  rw [Int32.toBitVec_shiftRight]
  have e1 : ((1 : Int32).toBitVec.smod 32) = 1#32 := by decide
  have hm : (BitVec.ofNat 32 (2 * n)).toNat = 2 * n := by rw [BitVec.toNat_ofNat, Nat.mod_eq_of_lt (by omega)]
  rw [e1, BitVec.sshiftRight_eq']
  apply BitVec.eq_of_toNat_eq
  show ((BitVec.ofNat 32 (2 * n)).sshiftRight 1).toNat = (BitVec.ofNat 32 n).toNat
  rw [BitVec.toNat_sshiftRight_of_msb_false (by rw [BitVec.msb_eq_false_iff_two_mul_lt, hm]; omega), hm, BitVec.toNat_ofNat, Nat.shiftRight_eq_div_pow]
  omega
/-- charAt's cast of a byte read back -/
def chr8 (u : Int32) : Int32 := (u &&& 255).toUInt32.toUInt16.toUInt32.toInt32
theorem chr8_lo8 {c : Int32} (h0 : ¬ c < 0) (h1 : ¬ 255 < c) : chr8 (lo8 c) = c := by
  have t : ∀ k : Fin 256, (Int32.ofNat k.val).toUInt32.toUInt16.toUInt32.toInt32 = Int32.ofNat k.val := by decide +kernel
  unfold chr8
  rw [lo8_mask h0 h1]
  rw [Int32.lt_iff_toInt_lt] at h0 h1
  have e0 : (0 : Int32).toInt = 0 := rfl
  have e1 : (255 : Int32).toInt = 255 := rfl
  obtain ⟨k, hk⟩ : ∃ k : Nat, c.toInt = k := ⟨c.toInt.toNat, by omega⟩
  have hx : c = Int32.ofNat k := Int32.toInt_inj.mp (by rw [hk, Int32.toInt_ofNat_small (by omega)])
  rw [hx]
  exact t ⟨k, by omega⟩
theorem narrow_ch {c : Int32} (h0 : ¬ c < 0) (h1 : ¬ 65535 < c) : narrow .char (.int c) = .int c := by
  have q : narrow .char (.int (pairCh (lo8 c) (hi8 c))) = .int (pairCh (lo8 c) (hi8 c)) := narrow_c _
  rwa [pair_says h0 h1] at q
/-- the array's cell V codes the n chars f 0 .. f (n - 1) by the coder cd, as the JDK does: coder 1 just where some char is above 255 -/
def Cod (cd : Int32) (n : Nat) (f : Nat → Int32) (V : Cell) : Prop := (cd = 0 ∧ V.slots.size = n ∧ ∀ j, j < n → V.slots[j]? = some (.int (lo8 (f j))) ∧ ¬ 255 < f j) ∨ (cd = 1 ∧ V.slots.size = 2 * n ∧ (∀ j, j < n → V.slots[2 * j]? = some (.int (lo8 (f j))) ∧ V.slots[2 * j + 1]? = some (.int (hi8 (f j)))) ∧ ∃ j, j < n ∧ 255 < f j)
theorem Cod.cd {cd : Int32} {n : Nat} {f : Nat → Int32} {V : Cell} (h : Cod cd n f V) : cd = 0 ∨ cd = 1 := h.imp (fun q => q.1) fun q => q.1
theorem Cod.len {cd : Int32} {n : Nat} {f : Nat → Int32} {V : Cell} (h : Cod cd n f V) (hs : V.slots.size < 2 ^ 31) : Int32.ofNat V.slots.size >>> (cd &&& 31) = Int32.ofNat n := by
  rcases h with ⟨rfl, h, -⟩ | ⟨rfl, h, -⟩
  · rw [shr0, h]
  · rw [h, shr1 (by omega)]
/-- **x is a String of the n chars f 0 .. f (n - 1)**, Latin-1 or UTF-16; its array at t has the cell V -/
def Txt (x t : Addr) (V : Cell) (cd : Int32) (n : Nat) (f : Nat → Int32) (U : State) : Prop := Exact "java/lang/String" x U ∧ Has x "java/lang/String" "value" "[B" (.ref t) U ∧ Has x "java/lang/String" "coder" "B" (.int cd) U ∧ XT.Arr .byte t V U ∧ Cod cd n f V ∧ ∀ j, j < n → ¬ f j < 0 ∧ ¬ 65535 < f j
theorem Txt.mv {x t : Addr} {V : Cell} {cd : Int32} {n : Nat} {f : Nat → Int32} {U U' : State} (h : Txt x t V cd n f U) (hal : U.vm.Alike U'.vm) (hh : U'.heap = U.heap) : Txt x t V cd n f U' := ⟨h.1.mv hal hh, h.2.1.mv hal hh, h.2.2.1.mv hal hh, h.2.2.2.1.mv hal hh, h.2.2.2.2⟩
namespace Cdr
def yN : MethodName := ⟨"java/lang/String", "coder", "()B"⟩
abbrev yB : ByteArray := jdk_42_method_152_code
theorem d0 : decode yB 0 = .ok (.getstatic 38, 3) := by decide +kernel
theorem d3 : decode yB 3 = .ok (.ifCond (.eq) 10, 3) := by decide +kernel
theorem d6 : decode yB 6 = .ok (.aload_n 0, 1) := by decide +kernel
theorem d7 : decode yB 7 = .ok (.getfield 15, 3) := by decide +kernel
theorem d10 : decode yB 10 = .ok (.goto 4, 3) := by decide +kernel
theorem d14 : decode yB 14 = .ok (.ireturn, 1) := by decide +kernel
def site : List Cond := [.fieldLink "java/lang/String" 38 "java/lang/String" "COMPACT_STRINGS" "Z", .fieldLink "java/lang/String" 15 "java/lang/String" "coder" "B"]
def tab : Cond := tabOf yN yB 1 (some .byte) site
def P (x : Addr) (cd z : Int32) (args : Array Value) (s : State) : Prop := args = #[.ref x] ∧ Has x "java/lang/String" "coder" "B" (.int cd) s ∧ (cd = 0 ∨ cd = 1) ∧ StaticIs s "java/lang/String" "COMPACT_STRINGS" "Z" (.int z) ∧ ¬ z = 0
def E (cd : Int32) (r : Option Value) (s u : State) : Prop := XT.PureE (some (.int cd)) r s u
theorem law (l : Launch) (x : Addr) (cd z : Int32) : Law l yN 1 0 0 0 yB 1 (some .byte) site (P x cd z) (E cd) [] 0 0 := by
  refine Law.of_walk (plainFor_of_name (by decide +kernel)) (by decide +kernel) (by decide +kernel) (by decide) (fun _ _ h => by rw [h.1]; rfl) (fun _ U U' hal hh h => ⟨h.1, h.2.1.mv hal hh, h.2.2.1, h.2.2.2.1.there hal hh, h.2.2.2.2⟩) (fun r U U' V V' h1 hal h2 h => XT.PureE.mv r U U' V V' h1 hal h2 h) ?_
  intro p e s m args below meth c s₁ X0 hexec hbytes hml hret hlk hnm hown hh0 W hP
  obtain ⟨rfl, hx, hc, s1, hz⟩ := hP
  have c1 : Steps p.tables e below (s₁.setTop (entryFrame m #[.ref x] 1)) (s₁.setTop (mkF m 0 #[.val (.ref x)] [])) := entry rfl
  obtain ⟨T2, X2, q2, st2⟩ := X0.sget hexec hown (wk W (.fieldLink "java/lang/String" 38 "java/lang/String" "COMPACT_STRINGS" "Z")) s1 (fun _ _ h => by rw [hh0]; exact h) (g := (mkF m 0 #[.val (.ref x)] [])) rfl (hb hbytes d0)
  have hh2 := q2.trans hh0
  have c3 : Steps p.tables e below (s₁.setTop (entryFrame m #[.ref x] 1)) (T2.setTop (mkF m 7 #[.val (.ref x)] [.ref x])) := (c1.trans (st2 _ (Steps.refl _))).trans (by
    refine XS.ifNo X2.here hexec rfl (hb hbytes d3) rfl (i0_eq_f hz) ?_
    refine XS.aloadN X2.here hexec rfl (hb hbytes d6) rfl rfl ?_
    exact Steps.refl _)
  obtain ⟨T4, X4, q4, st4⟩ := X2.hget hexec hown (wk W (.fieldLink "java/lang/String" 15 "java/lang/String" "coder" "B")) (hx.mv X2.warmed.alike hh2) (g := (mkF m 7 #[.val (.ref x)] [.ref x])) rfl (rest := []) rfl (hb hbytes d7)
  have c5 : Steps p.tables e below (s₁.setTop (entryFrame m #[.ref x] 1)) (T4.setTop (mkF m 14 #[.val (.ref x)] [.int cd])) := (c3.trans (st4 _ (Steps.refl _))).trans (by
    refine XS.goto X4.here hexec rfl (pc0 := 10) rfl (hb hbytes d10) (by decide) rfl ?_
    exact Steps.refl _)
  exact ⟨T4, some (.int cd), _, _, _, X4, rfl, rfl, rfl, (fun h => by cases h), ⟨rfl, q4.trans hh2⟩, fun fs hl => c5.trans (X4.ireturnOut hexec hret (by rcases hc with rfl | rfl <;> rfl) (Or.inr (Or.inr (Or.inl rfl))) (hb hbytes d14) hl)⟩
end Cdr
namespace Len
def yN : MethodName := ⟨"java/lang/String", "length", "()I"⟩
abbrev yB : ByteArray := jdk_42_method_54_code
theorem d0 : decode yB 0 = .ok (.aload_n 0, 1) := by decide +kernel
theorem d1 : decode yB 1 = .ok (.getfield 9, 3) := by decide +kernel
theorem d4 : decode yB 4 = .ok (.arraylength, 1) := by decide +kernel
theorem d5 : decode yB 5 = .ok (.aload_n 0, 1) := by decide +kernel
theorem d6 : decode yB 6 = .ok (.invokevirtual 335, 3) := by decide +kernel
theorem d9 : decode yB 9 = .ok (.ishr, 1) := by decide +kernel
theorem d10 : decode yB 10 = .ok (.ireturn, 1) := by decide +kernel
def site : List Cond := [.fieldLink "java/lang/String" 9 "java/lang/String" "value" "[B", Cdr.tab] ++ virtW "java/lang/String" 335 "java/lang/String" Cdr.yN Cdr.yN
def tab : Cond := tabOf yN yB 1 (some .int) site
def P (x t : Addr) (V : Cell) (cd : Int32) (n : Nat) (f : Nat → Int32) (z : Int32) (args : Array Value) (s : State) : Prop := args = #[.ref x] ∧ Txt x t V cd n f s ∧ StaticIs s "java/lang/String" "COMPACT_STRINGS" "Z" (.int z) ∧ ¬ z = 0
def E (n : Nat) (r : Option Value) (s u : State) : Prop := XT.PureE (some (.int (Int32.ofNat n))) r s u
/-- length() of a String of n chars, in either coding -/
theorem law (l : Launch) (x t : Addr) (V : Cell) (cd : Int32) (n : Nat) (f : Nat → Int32) (z : Int32) : Law l yN 1 0 1 13 yB 1 (some .int) site (P x t V cd n f z) (E n) [] 0 0 := by
  refine Law.of_walk (plainFor_of_name (by decide +kernel)) (by decide +kernel) (by decide +kernel) (by decide) (fun _ _ h => by rw [h.1]; rfl) (fun _ U U' hal hh h => ⟨h.1, h.2.1.mv hal hh, h.2.2.1.there hal hh, h.2.2.2⟩) (fun r U U' V V' h1 hal h2 h => XT.PureE.mv r U U' V V' h1 hal h2 h) ?_
  intro p e s m args below meth c s₁ X0 hexec hbytes hml hret hlk hnm hown hh0 W hP
  obtain ⟨rfl, hx, s1, hz⟩ := hP
  have v31 := hx.2.2.2.1.2.2.2
  have c1 : Steps p.tables e below (s₁.setTop (entryFrame m #[.ref x] 1)) (s₁.setTop (mkF m 1 #[.val (.ref x)] [.ref x])) := Steps.trans (entry rfl) (by
    show Steps p.tables e below (s₁.setTop (mkF m 0 #[.val (.ref x)] [])) _
    refine XS.aloadN X0.here hexec rfl (hb hbytes d0) rfl rfl ?_
    exact Steps.refl _)
  obtain ⟨T2, X2, q2, st2⟩ := X0.hget hexec hown (wk W (.fieldLink "java/lang/String" 9 "java/lang/String" "value" "[B")) (hx.mv X0.warmed.alike hh0).2.1 (g := (mkF m 1 #[.val (.ref x)] [.ref x])) rfl (rest := []) rfl (hb hbytes d1)
  have hh2 := q2.trans hh0
  have hx2 := hx.mv X2.warmed.alike hh2
  have c3 : Steps p.tables e below (s₁.setTop (entryFrame m #[.ref x] 1)) (T2.setTop (mkF m 6 #[.val (.ref x)] [.ref x, .int (Int32.ofNat V.slots.size)])) := (c1.trans (st2 _ (Steps.refl _))).trans (by
    refine X2.alen hexec hx2.2.2.2.1 rfl rfl (hb hbytes d4) ?_
    refine XS.aloadN X2.here hexec rfl (hb hbytes d5) rfl rfl ?_
    exact Steps.refl _)
  obtain ⟨v4, T4, X4, E4, g4⟩ := X2.callV hexec (Cdr.law l x cd z) hown (wks W (virtW "java/lang/String" 335 "java/lang/String" Cdr.yN Cdr.yN)) rfl (by decide) (wk W Cdr.tab) (W := 1) (Nat.le_of_ble_eq_true rfl) (Nat.le_of_ble_eq_true rfl) (Nat.le_refl _) (Nat.le_refl _) (hx2.1.fc X2.warmed.alike) hx2.1.is (g := (mkF m 6 #[.val (.ref x)] [.ref x, .int (Int32.ofNat V.slots.size)])) rfl (by rw [hml]; rfl) c3 (argsL := []) (rest := [.int (Int32.ofNat V.slots.size)]) rfl rfl (by show 2 * 0 + (1 + 0) ≤ _; decide) (hb hbytes d6) (⟨rfl, hx2.2.2.1, hx.2.2.2.2.1.cd, s1.there X2.warmed.alike hh2, hz⟩)
  obtain ⟨rfl, q4⟩ := E4
  have c5 : Steps p.tables e below (s₁.setTop (entryFrame m #[.ref x] 1)) (T4.setTop (mkF m 10 #[.val (.ref x)] [.int (Int32.ofNat V.slots.size >>> (cd &&& 31))])) := Steps.trans g4 (by
    refine ishr X4.here hexec rfl (hb hbytes d9) rfl ?_
    exact Steps.refl _)
  rw [hx.2.2.2.2.1.len v31] at c5
  exact ⟨T4, some (.int (Int32.ofNat n)), _, _, _, X4, rfl, rfl, rfl, (fun h => by cases h), ⟨rfl, q4.trans hh2⟩, fun fs hl => c5.trans (X4.ireturnOut hexec hret rfl (Or.inl rfl) (hb hbytes d10) hl)⟩
theorem pays {l : Launch} {R : Room} {p : Program} {e : Env} {below : List Frame} {s : State} {sargs : Array Value} {len W : Nat} (x t : Addr) (V : Cell) (cd : Int32) (n : Nat) (f : Nat → Int32) (z : Int32) (htab : tab.before sargs s = true) (hfr : 2 ≤ R.frames) (hlo : W + 25 ≤ R.locals) :
    Back l R p e below s sargs yN len W (fun A₁ a₁ => A₁.cells + 0 ≤ R.cells ∧ A₁.slots + 0 ≤ R.slots ∧ P x t V cd n f z a₁ A₁.U) (fun A₁ _ v₁ B₁ => E n v₁ A₁.U B₁.U ∧ B₁.locs = A₁.locs ++ [] ∧ B₁.cells = A₁.cells + 0 ∧ B₁.slots = A₁.slots + 0) :=
  (law l x t V cd n f z).pays htab hfr (by omega)
end Len
namespace IsL
def yN : MethodName := ⟨"java/lang/String", "isLatin1", "()Z"⟩
abbrev yB : ByteArray := jdk_42_method_154_code
theorem d0 : decode yB 0 = .ok (.getstatic 38, 3) := by decide +kernel
theorem d3 : decode yB 3 = .ok (.ifCond (.eq) 14, 3) := by decide +kernel
theorem d6 : decode yB 6 = .ok (.aload_n 0, 1) := by decide +kernel
theorem d7 : decode yB 7 = .ok (.getfield 15, 3) := by decide +kernel
theorem d10 : decode yB 10 = .ok (.ifCond (.ne) 7, 3) := by decide +kernel
theorem d13 : decode yB 13 = .ok (.iconst 1, 1) := by decide +kernel
theorem d14 : decode yB 14 = .ok (.goto 4, 3) := by decide +kernel
theorem d17 : decode yB 17 = .ok (.iconst 0, 1) := by decide +kernel
theorem d18 : decode yB 18 = .ok (.ireturn, 1) := by decide +kernel
def site : List Cond := [.fieldLink "java/lang/String" 38 "java/lang/String" "COMPACT_STRINGS" "Z", .fieldLink "java/lang/String" 15 "java/lang/String" "coder" "B"]
def tab : Cond := tabOf yN yB 1 (some .boolean) site
def P (x : Addr) (cd z : Int32) (args : Array Value) (s : State) : Prop := args = #[.ref x] ∧ Has x "java/lang/String" "coder" "B" (.int cd) s ∧ (cd = 0 ∨ cd = 1) ∧ StaticIs s "java/lang/String" "COMPACT_STRINGS" "Z" (.int z) ∧ ¬ z = 0
def E (cd : Int32) (r : Option Value) (s u : State) : Prop := XT.PureE (some (.int (1 - cd))) r s u
theorem law (l : Launch) (x : Addr) (cd z : Int32) : Law l yN 1 0 0 0 yB 1 (some .boolean) site (P x cd z) (E cd) [] 0 0 := by
  refine Law.of_walk (plainFor_of_name (by decide +kernel)) (by decide +kernel) (by decide +kernel) (by decide) (fun _ _ h => by rw [h.1]; rfl) (fun _ U U' hal hh h => ⟨h.1, h.2.1.mv hal hh, h.2.2.1, h.2.2.2.1.there hal hh, h.2.2.2.2⟩) (fun r U U' V V' h1 hal h2 h => XT.PureE.mv r U U' V V' h1 hal h2 h) ?_
  intro p e s m args below meth c s₁ X0 hexec hbytes hml hret hlk hnm hown hh0 W hP
  obtain ⟨rfl, hx, hc, s1, hz⟩ := hP
  have c1 : Steps p.tables e below (s₁.setTop (entryFrame m #[.ref x] 1)) (s₁.setTop (mkF m 0 #[.val (.ref x)] [])) := entry rfl
  obtain ⟨T2, X2, q2, st2⟩ := X0.sget hexec hown (wk W (.fieldLink "java/lang/String" 38 "java/lang/String" "COMPACT_STRINGS" "Z")) s1 (fun _ _ h => by rw [hh0]; exact h) (g := (mkF m 0 #[.val (.ref x)] [])) rfl (hb hbytes d0)
  have hh2 := q2.trans hh0
  have c3 : Steps p.tables e below (s₁.setTop (entryFrame m #[.ref x] 1)) (T2.setTop (mkF m 7 #[.val (.ref x)] [.ref x])) := (c1.trans (st2 _ (Steps.refl _))).trans (by
    refine XS.ifNo X2.here hexec rfl (hb hbytes d3) rfl (i0_eq_f hz) ?_
    refine XS.aloadN X2.here hexec rfl (hb hbytes d6) rfl rfl ?_
    exact Steps.refl _)
  obtain ⟨T4, X4, q4, st4⟩ := X2.hget hexec hown (wk W (.fieldLink "java/lang/String" 15 "java/lang/String" "coder" "B")) (hx.mv X2.warmed.alike hh2) (g := (mkF m 7 #[.val (.ref x)] [.ref x])) rfl (rest := []) rfl (hb hbytes d7)
  have c5 : Steps p.tables e below (s₁.setTop (entryFrame m #[.ref x] 1)) (T4.setTop (mkF m 10 #[.val (.ref x)] [.int cd])) := c3.trans (st4 _ (Steps.refl _))
  have c6 : Steps p.tables e below (s₁.setTop (entryFrame m #[.ref x] 1)) (T4.setTop (mkF m 18 #[.val (.ref x)] [.int (1 - cd)])) := by
    rcases hc with rfl | rfl
    · exact c5.trans (by
        refine XS.ifNo X4.here hexec rfl (hb hbytes d10) rfl (i0_ne_f rfl) ?_
        refine iconstV X4.here hexec rfl 1 (hb hbytes d13) (by decide) ?_
        refine XS.goto X4.here hexec rfl (pc0 := 14) rfl (hb hbytes d14) (by decide) rfl ?_
        exact Steps.refl _)
    · exact c5.trans (by
        refine XS.ifYes X4.here hexec rfl (pc0 := 10) rfl (hb hbytes d10) rfl (i0_ne_t (by decide)) (by decide) rfl ?_
        refine iconstV X4.here hexec rfl 0 (hb hbytes d17) (by decide) ?_
        exact Steps.refl _)
  exact ⟨T4, some (.int (1 - cd)), _, _, _, X4, rfl, rfl, rfl, (fun h => by cases h), ⟨rfl, q4.trans hh2⟩, fun fs hl => c6.trans (X4.ireturnOut hexec hret (by rcases hc with rfl | rfl <;> rfl) (Or.inr (Or.inl rfl)) (hb hbytes d18) hl)⟩
end IsL
namespace LChA
def yN : MethodName := ⟨"java/lang/StringLatin1", "charAt", "([BI)C"⟩
abbrev yB : ByteArray := jdk_43_method_2_code
theorem d0 : decode yB 0 = .ok (.iload_n 1, 1) := by decide +kernel
theorem d1 : decode yB 1 = .ok (.aload_n 0, 1) := by decide +kernel
theorem d2 : decode yB 2 = .ok (.arraylength, 1) := by decide +kernel
theorem d3 : decode yB 3 = .ok (.invokestatic 9, 3) := by decide +kernel
theorem d6 : decode yB 6 = .ok (.aload_n 0, 1) := by decide +kernel
theorem d7 : decode yB 7 = .ok (.iload_n 1, 1) := by decide +kernel
theorem d8 : decode yB 8 = .ok (.baload, 1) := by decide +kernel
theorem d9 : decode yB 9 = .ok (.sipush 255, 3) := by decide +kernel
theorem d12 : decode yB 12 = .ok (.iand, 1) := by decide +kernel
theorem d13 : decode yB 13 = .ok (.i2c, 1) := by decide +kernel
theorem d14 : decode yB 14 = .ok (.ireturn, 1) := by decide +kernel
def site : List Cond := [JO.Str_checkIndex.tab] ++ staticW "java/lang/StringLatin1" 9 JO.Str_checkIndex.yN
def tab : Cond := tabOf yN yB 2 (some .char) site
def P (t : Addr) (V : Cell) (i : Nat) (u : Int32) (fm : Value) (args : Array Value) (s : State) : Prop := args = #[.ref t, .int (Int32.ofNat i)] ∧ XT.Arr .byte t V s ∧ V.slots[i]? = some (.int u) ∧ (StaticIs s "jdk/internal/util/Preconditions" "SIOOBE_FORMATTER" "Ljava/util/function/BiFunction;" fm ∧ fm.isRef = true)
def E (u : Int32) (r : Option Value) (s w : State) : Prop := XT.PureE (some (.int (chr8 u))) r s w
theorem law (l : Launch) (t : Addr) (V : Cell) (i : Nat) (u : Int32) (fm : Value) : Law l yN 2 2 2 27 yB 2 (some .char) site (P t V i u fm) (E u) [] 0 0 := by
  refine Law.of_walk (plainFor_of_name (by decide +kernel)) (by decide +kernel) (by decide +kernel) (by decide) (fun _ _ h => by rw [h.1]; rfl) (fun _ U U' hal hh h => ⟨h.1, h.2.1.mv hal hh, h.2.2.1, h.2.2.2.1.there hal hh, h.2.2.2.2⟩) (fun r U U' V V' h1 hal h2 h => XT.PureE.mv r U U' V V' h1 hal h2 h) ?_
  intro p e s m args below meth c s₁ X0 hexec hbytes hml hret hlk hnm hown hh0 W hP
  obtain ⟨rfl, hV, hu, s1, rf⟩ := hP
  have v31 := hV.2.2.2
  have hi : i < V.slots.size := (Array.getElem?_eq_some_iff.mp hu).1
  have c1 : Steps p.tables e below (s₁.setTop (entryFrame m #[.ref t, .int (Int32.ofNat i)] 2)) (s₁.setTop (mkF m 0 #[.val (.ref t), .val (.int (Int32.ofNat i))] [])) := entry rfl
  have c2 : Steps p.tables e below (s₁.setTop (entryFrame m #[.ref t, .int (Int32.ofNat i)] 2)) (s₁.setTop (mkF m 3 #[.val (.ref t), .val (.int (Int32.ofNat i))] [.int (Int32.ofNat V.slots.size), .int (Int32.ofNat i)])) := c1.trans (by
    refine XS.iloadN X0.here hexec rfl (hb hbytes d0) rfl ?_
    refine XS.aloadN X0.here hexec rfl (hb hbytes d1) rfl rfl ?_
    refine X0.alen hexec (hV.mv X0.warmed.alike hh0) rfl rfl (hb hbytes d2) ?_
    exact Steps.refl _)
  obtain ⟨v3, T3, X3, E3, g3⟩ := X0.callS hexec (JO.Str_checkIndex.law l (Int32.ofNat i) (Int32.ofNat V.slots.size) fm) hown (wks W (staticW "java/lang/StringLatin1" 9 JO.Str_checkIndex.yN)) (wk W JO.Str_checkIndex.tab) (W := 0) (Nat.le_of_ble_eq_true rfl) (Nat.le_of_ble_eq_true rfl) (Nat.le_refl _) (Nat.le_refl _) (g := (mkF m 3 #[.val (.ref t), .val (.int (Int32.ofNat i))] [.int (Int32.ofNat V.slots.size), .int (Int32.ofNat i)])) rfl (by rw [hml]; rfl) c2 (argsL := [.int (Int32.ofNat i), .int (Int32.ofNat V.slots.size)]) (rest := []) rfl rfl (by show 2 * 0 + 0 ≤ _; decide) (hb hbytes d3) (⟨rfl, rf, s1.there X0.warmed.alike hh0, Int32.ofNat_not_neg (by omega), lt32 v31 hi⟩)
  obtain ⟨rfl, q3⟩ := E3
  have hh3 := q3.trans hh0
  have c4 : Steps p.tables e below (s₁.setTop (entryFrame m #[.ref t, .int (Int32.ofNat i)] 2)) (T3.setTop (mkF m 14 #[.val (.ref t), .val (.int (Int32.ofNat i))] [.int (chr8 u)])) := Steps.trans g3 (by
    refine XS.aloadN X3.here hexec rfl (hb hbytes d6) rfl rfl ?_
    refine XS.iloadN X3.here hexec rfl (hb hbytes d7) rfl ?_
    refine X3.aget hexec (hV.mv X3.warmed.alike hh3) rfl hu rfl rfl (hb hbytes d8) ?_
    refine sipushV X3.here hexec rfl 255 (hb hbytes d9) (by decide) ?_
    refine XS.iand X3.here hexec rfl (hb hbytes d12) rfl ?_
    refine i2c X3.here hexec rfl (hb hbytes d13) rfl ?_
    exact Steps.refl _)
  exact ⟨T3, some (.int (chr8 u)), _, _, _, X3, rfl, rfl, rfl, (fun h => by cases h), ⟨rfl, hh3⟩, fun fs hl => c4.trans (X3.ireturnOut hexec hret (narrow_c _) (Or.inr (Or.inr (Or.inr (Or.inl rfl)))) (hb hbytes d14) hl)⟩
end LChA
end StrChars
namespace StrChars.Road
open Jvm Sem ClassFile Op Lib Jvm.Stand Jvm.Free Jvm.Free.XT
open Jvm.Lib.Cold (StaticIs)
theorem consq {a : Array Value} {s : State} {c : Jvm.Cond} {L : List Jvm.Cond} (h0 : c.before a s = true) (h : ∀ w ∈ L, w.before a s = true) : ∀ w ∈ c :: L, w.before a s = true := fun w hw => (List.mem_cons.mp hw).elim (fun e => e ▸ h0) (h w)
/-- the words of String.length(), either coding -/
abbrev wordsLen : List Jvm.Cond := [.code Len.yN Len.yB 1 (some .int), .initialized ST, .fieldLink ST 9 ST "value" "[B", .fieldLink ST 38 ST "COMPACT_STRINGS" "Z", .fieldLink ST 15 ST "coder" "B", .code Cdr.yN Cdr.yB 1 (some .byte), .methodLink ST 335 Cdr.yN, .declares Cdr.yN, .selects ST Cdr.yN Cdr.yN, .instanceMethod Cdr.yN]
theorem tabLen_of {a : Array Value} {s : State} (h : ∀ w ∈ wordsLen, w.before a s = true) : Len.tab.before a s = true := by
  have hc : Cdr.tab.before a s = true := unparts (wk h (.code Cdr.yN Cdr.yB 1 (some .byte))) (wks h (.initialized Cdr.yN.cls :: Cdr.site))
  have q := consq hc h
  exact unparts (wk q (.code Len.yN Len.yB 1 (some .int))) (wks q (.initialized Len.yN.cls :: Len.site))
theorem movedLen {Z s : State} {a0 args : Array Value} (hZ : Z.Warmed39 s.vm) (hw : ∀ d ∈ wordsLen, d.before a0 Z = true) : ∀ d ∈ wordsLen, d.before args s = true := fun d hd => by
  have q := hw d hd
  have t : ∀ d ∈ wordsLen, d = .arrayClass .byte ∨ (d.onTables && d.keepsFace) = true := by decide +kernel
  rcases t d hd with rfl | t
  · exact RoadKit.mvA hZ q
  · exact RoadKit.mv hZ q t
/-- the bytes of the chars cs, low before high -/
def wideBytes : List Int32 → List Value
  | [] => []
  | c :: cs => .int (lo8 c) :: .int (hi8 c) :: wideBytes cs
theorem wide_lo (d : Value) : ∀ (cs : List Int32) (j : Nat), j < cs.length → (wideBytes cs).getD (2 * j) d = .int (lo8 (cs.getD j 0))
  | [], j, h => absurd h (Nat.not_lt_zero j)
  | c :: cs, 0, _ => rfl
  | c :: cs, j + 1, h => by
    have q := wide_lo d cs j (by simpa using h)
    rw [show 2 * (j + 1) = 2 * j + 1 + 1 from by omega]
    simpa [wideBytes] using q
theorem wide_hi (d : Value) : ∀ (cs : List Int32) (j : Nat), j < cs.length → (wideBytes cs).getD (2 * j + 1) d = .int (hi8 (cs.getD j 0))
  | [], j, h => absurd h (Nat.not_lt_zero j)
  | c :: cs, 0, _ => rfl
  | c :: cs, j + 1, h => by
    have q := wide_hi d cs j (by simpa using h)
    rw [show 2 * (j + 1) + 1 = 2 * j + 1 + 1 + 1 from by omega]
    simpa [wideBytes] using q
theorem low_at (d : Value) (cs : List Int32) (j : Nat) (h : j < cs.length) : (cs.map fun c => Value.int (lo8 c)).getD j d = .int (lo8 (cs.getD j 0)) := by
  simp [List.getD_eq_getElem?_getD, h]
/-- an array of N2 bytes vs codes the chars cs by the coder cd -/
def CodA (cs : List Int32) (cd N2 : Int32) (vs : List Value) : Prop := (cd = 0 ∧ N2 = Int32.ofNat cs.length ∧ vs = (cs.map fun c => Value.int (lo8 c)) ∧ ∀ c ∈ cs, ¬ 255 < c) ∨ (cd = 1 ∧ N2 = Int32.ofNat (2 * cs.length) ∧ vs = wideBytes cs ∧ ∃ c ∈ cs, 255 < c)
theorem CodA.cod {cs : List Int32} {cd N2 : Int32} {vs : List Value} {V : Cell} (h : CodA cs cd N2 vs) (hn : 2 * cs.length < 2 ^ 31) (hs : V.slots.size = N2.toNatClampNeg) (hv : RoadKit.Has V vs (.int 0)) : Cod cd cs.length (fun j => cs.getD j 0) V := by
  rcases h with ⟨rfl, rfl, rfl, h⟩ | ⟨rfl, rfl, rfl, c, hc, hw⟩
  · rw [n32 (by omega)] at hs
    exact Or.inl ⟨rfl, hs, fun j hj => ⟨by rw [hv j (by omega), low_at _ _ _ hj], by
      have e : cs.getD j 0 = cs[j] := by simp [List.getD_eq_getElem?_getD, hj]
      show ¬ 255 < cs.getD j 0
      rw [e]; exact h _ (List.getElem_mem _)⟩⟩
  · rw [n32 (by omega)] at hs
    obtain ⟨j, hj, rfl⟩ := List.getElem_of_mem hc
    exact Or.inr ⟨rfl, hs, fun j hj => ⟨by rw [hv _ (by omega), wide_lo _ _ _ hj], by rw [hv _ (by omega), wide_hi _ _ _ hj]⟩, j, hj, by
      have e : cs.getD j 0 = cs[j] := by simp [List.getD_eq_getElem?_getD, hj]
      show 255 < cs.getD j 0
      rw [e]; exact hw⟩
/-- an object of exactly java/lang/String, its two fields found: as the laws ask it -/
theorem strObj {Z U : State} {a0 : Array Value} {kI : Nat} (wi : (Jvm.Cond.instantiable ST kI).before a0 Z = true) (al : Z.vm.Alike U.vm) {x : Addr} {v0 c0 : Value} (E : RoadKit.Exa Z U.heap x ST) (V : RoadKit.Fld Z U.heap x ST "value" "[B" v0) (C : RoadKit.Fld Z U.heap x ST "coder" "B" c0) :
    ∃ (D : Cell) (fV fC : Field), Blank ST x D U ∧ Found ST "value" "[B" fV U ∧ Found ST "coder" "B" fC U ∧ D.slots[fV.slot]? = some v0 ∧ D.slots[fC.slot]? = some c0 ∧ RoadKit.slotOf Z ST "value" "[B" = fV.slot ∧ RoadKit.slotOf Z ST "coder" "B" = fC.slot := by
  obtain ⟨D, cfV, kV, iV, fV, hD, gV, stV, knV, obV, asV, slV⟩ := V
  obtain ⟨D', cfC, kC, iC, fC, hD', gC, stC, -, -, asC, slC⟩ := C
  cases hD.symm.trans hD'
  obtain ⟨D2, kD, e1, e2, e3, e4, e5⟩ := E
  cases hD.symm.trans e1
  obtain ⟨c2, k2, i1, i2, i3, -⟩ := Cond.instantiable_spec wi
  cases e2.symm.trans i1
  cases e3.symm.trans i2
  obtain ⟨kU, u1, u2⟩ := al.2.2 _ _ e3
  exact ⟨D, fV, fC, ⟨hD, ⟨knV, fun q hq => by rw [hq] at obV; cases obV⟩, by rw [al.findClass]; exact e2, kU, u1, by rw [u2]; exact i3, by rw [u2]; exact e5 i3⟩, ⟨SBG.found_only al ⟨cfV, kV, iV, gV⟩, stV⟩, ⟨SBG.found_only al ⟨cfC, kC, iC, gC⟩, stC⟩, slV, slC, by simp [RoadKit.slotOf, gV], by simp [RoadKit.slotOf, gC]⟩
theorem sta_is {Z U : State} (al : Z.vm.Alike U.vm) {C n d : String} {v : Value} (S : RoadKit.Sta Z U.heap C n d v) : StaticIs U C n d v := by
  obtain ⟨cfS, iS, kS, fS, st, cS, t1, t2, t3, t4, t5, t6, t7⟩ := S
  exact StaticIs.there (s := { Z with heap := U.heap }) ⟨cfS, iS, kS, fS, st, cS, t1, t2, t3, t4, t5, (fun q => by rw [q] at t6; cases t6), t7⟩ al rfl
/-- **length() OF SUCH A STRING** -/
theorem lenW {p : Program} {l : Launch} {e : Env} {R : Room} {s : State} {args : Array Value} {below : List Frame} {len W : Nat} {Z : State} {a0 : Array Value} {h : Heap} (hZ : Z.Warmed39 s.vm) (hw : ∀ d ∈ wordsLen, d.before a0 Z = true) {kI : Nat} (wi : (Jvm.Cond.instantiable ST kI).before a0 Z = true)
    {x t : Addr} {kb : ClassId} {cs : List Int32} {cd N2 z : Int32} {vs : List Value} (E : RoadKit.Exa Z h x ST) (V : RoadKit.Fld Z h x ST "value" "[B" (.ref t)) (C : RoadKit.Fld Z h x ST "coder" "B" (.int cd)) (K : RoadKit.Arv Z h t kb .byte N2 vs (.int 0)) (hc : CodA cs cd N2 vs) (hb : ∀ c ∈ cs, ¬ c < 0 ∧ ¬ (65535 : Int32) < c)
    (S : RoadKit.Sta Z h ST "COMPACT_STRINGS" "Z" (.int z)) (hz : ¬ z = 0) (l2 : cs.length ≤ 4000) (hfr : 2 ≤ R.frames) (hlo : W + 25 ≤ R.locals) :
    Back l R p e below s args (⟨"java/lang/String", "length", "()I"⟩ : MethodName) len W (fun P a => a = #[.ref x] ∧ P.U.heap = h ∧ P.cells + 0 ≤ R.cells ∧ P.slots + 0 ≤ R.slots)
      (fun P _ v B => ∃ L, (v = some (.int (Int32.ofNat cs.length)) ∧ L = [] ∧ B.U.heap = h) ∧ B.locs = P.locs ++ L ∧ B.cells = P.cells + 0 ∧ B.slots = P.slots + 0) := by
  obtain ⟨A, K1, K2, K3, K4, K5, K6⟩ := K
  have hcod := hc.cod (by omega) K3 K5
  intro m meth c P g ig mk a X hg hsize hdg hW hn hp'
  obtain ⟨rfl, rfl, r1, r2⟩ := hp'
  have al : Z.vm.Alike P.U.vm := hZ.alike.trans X.warmed.alike
  obtain ⟨D, fV, fC, hB, F1, F2, g1, g2, -, -⟩ := strObj wi al E V C
  have hx : Txt x t A cd cs.length (fun j => cs.getD j 0) P.U := ⟨⟨_, hB.2.2.1, D, hB.1, rfl, by cases q : D.vm <;> first | rfl | exact absurd q (hB.2.1.2 _)⟩, Has.of hB F1 g1, Has.of hB F2 g2, ⟨K1.1, State.isArrayOf_alike al K1.2.1, K1.2.2, by rcases hcod with ⟨-, q, -⟩ | ⟨-, q, -⟩ <;> omega⟩, hcod, fun j hj => by
    have e : cs.getD j 0 = cs[j] := by simp [List.getD_eq_getElem?_getD, hj]
    show ¬ cs.getD j 0 < 0 ∧ ¬ 65535 < cs.getD j 0
    rw [e]; exact hb _ (List.getElem_mem _)⟩
  obtain ⟨v, B, X', ⟨⟨hv, hh⟩, hl, hk, hs⟩, st⟩ := Len.pays x t A cd cs.length (fun j => cs.getD j 0) z (tabLen_of (movedLen hZ hw)) hfr hlo m meth c P g ig mk _ X hg hsize hdg hW hn ⟨r1, r2, rfl, hx, sta_is al S, hz⟩
  exact ⟨v, B, X', ⟨[], ⟨hv, rfl, hh⟩, hl, hk, hs⟩, st⟩
end StrChars.Road
namespace StrChars.Road
open Jvm Sem ClassFile Op Lib Jvm.Stand Jvm.Free Jvm.Free.XT
open Jvm.Lib.Cold (StaticIs)
/-- the road's facts of a String, as the laws ask it -/
theorem txt_of {Z U : State} {a0 : Array Value} {kI : Nat} (wi : (Jvm.Cond.instantiable ST kI).before a0 Z = true) (al : Z.vm.Alike U.vm) {x t : Addr} {kb : ClassId} {cs : List Int32} {cd N2 : Int32} {vs : List Value} (E : RoadKit.Exa Z U.heap x ST) (V : RoadKit.Fld Z U.heap x ST "value" "[B" (.ref t)) (C : RoadKit.Fld Z U.heap x ST "coder" "B" (.int cd)) (K : RoadKit.Arv Z U.heap t kb .byte N2 vs (.int 0)) (hc : CodA cs cd N2 vs) (hb : ∀ c ∈ cs, ¬ c < 0 ∧ ¬ (65535 : Int32) < c) (l2 : cs.length ≤ 4000) :
    ∃ A, Txt x t A cd cs.length (fun j => cs.getD j 0) U := by
  obtain ⟨A, K1, K2, K3, K4, K5, K6⟩ := K
  have hcod := hc.cod (by omega) K3 K5
  obtain ⟨D, fV, fC, hB, F1, F2, g1, g2, -, -⟩ := strObj wi al E V C
  exact ⟨A, ⟨_, hB.2.2.1, D, hB.1, rfl, by cases q : D.vm <;> first | rfl | exact absurd q (hB.2.1.2 _)⟩, Has.of hB F1 g1, Has.of hB F2 g2, ⟨K1.1, State.isArrayOf_alike al K1.2.1, K1.2.2, by rcases hcod with ⟨-, q, -⟩ | ⟨-, q, -⟩ <;> omega⟩, hcod, fun j hj => by
    have e : cs.getD j 0 = cs[j] := by simp [List.getD_eq_getElem?_getD, hj]
    show ¬ cs.getD j 0 < 0 ∧ ¬ 65535 < cs.getD j 0
    rw [e]; exact hb _ (List.getElem_mem _)⟩
end StrChars.Road
namespace StrChars
open Jvm Sem ClassFile Op Lib Jvm.Stand Jvm.Free.XT Jvm.Free.ALB Jvm.Free.JM Jvm.Free
open Jvm.Lib.Cold (StaticIs)
namespace ChN
def yN : MethodName := ⟨"java/lang/String", "charAt", "(I)C"⟩
abbrev yB : ByteArray := jdk_42_method_56_code
theorem d0 : decode yB 0 = .ok (.aload_n 0, 1) := by decide +kernel
theorem d1 : decode yB 1 = .ok (.invokevirtual 492, 3) := by decide +kernel
theorem d4 : decode yB 4 = .ok (.ifCond (.eq) 12, 3) := by decide +kernel
theorem d7 : decode yB 7 = .ok (.aload_n 0, 1) := by decide +kernel
theorem d8 : decode yB 8 = .ok (.getfield 9, 3) := by decide +kernel
theorem d11 : decode yB 11 = .ok (.iload_n 1, 1) := by decide +kernel
theorem d12 : decode yB 12 = .ok (.invokestatic 495, 3) := by decide +kernel
theorem d15 : decode yB 15 = .ok (.ireturn, 1) := by decide +kernel
def site : List Cond := [.fieldLink "java/lang/String" 9 "java/lang/String" "value" "[B", IsL.tab, LChA.tab] ++ virtW "java/lang/String" 492 "java/lang/String" IsL.yN IsL.yN ++ staticW "java/lang/String" 495 LChA.yN
def tab : Cond := tabOf yN yB 2 (some .char) site
def P (x t : Addr) (V : Cell) (n : Nat) (f : Nat → Int32) (z : Int32) (fm : Value) (i : Nat) (args : Array Value) (s : State) : Prop := args = #[.ref x, .int (Int32.ofNat i)] ∧ Txt x t V 0 n f s ∧ i < n ∧ StaticIs s "java/lang/String" "COMPACT_STRINGS" "Z" (.int z) ∧ ¬ z = 0 ∧ StaticIs s "jdk/internal/util/Preconditions" "SIOOBE_FORMATTER" "Ljava/util/function/BiFunction;" fm ∧ fm.isRef = true
def E (f : Nat → Int32) (i : Nat) (r : Option Value) (s u : State) : Prop := XT.PureE (some (.int (f i))) r s u
/-- charAt(i) of a Latin-1 String of n chars, i < n: f i -/
theorem law (l : Launch) (x t : Addr) (V : Cell) (n : Nat) (f : Nat → Int32) (z : Int32) (fm : Value) (i : Nat) : Law l yN 2 1 3 40 yB 2 (some .char) site (P x t V n f z fm i) (E f i) [] 0 0 := by
  refine Law.of_walk (plainFor_of_name (by decide +kernel)) (by decide +kernel) (by decide +kernel) (by decide) (fun _ _ h => by rw [h.1]; rfl) (fun _ U U' hal hh h => ⟨h.1, h.2.1.mv hal hh, h.2.2.1, h.2.2.2.1.there hal hh, h.2.2.2.2.1, h.2.2.2.2.2.1.there hal hh, h.2.2.2.2.2.2⟩) (fun r U U' V V' h1 hal h2 h => XT.PureE.mv r U U' V V' h1 hal h2 h) ?_
  intro p e s m args below meth c s₁ X0 hexec hbytes hml hret hlk hnm hown hh0 W hP
  obtain ⟨rfl, hx, hi, s1, hz, s3, rf⟩ := hP
  have v31 := hx.2.2.2.1.2.2.2
  have hr := hx.2.2.2.2.2 i hi
  have hx0 := hx.mv X0.warmed.alike hh0
  have c1 : Steps p.tables e below (s₁.setTop (entryFrame m #[.ref x, .int (Int32.ofNat i)] 2)) (s₁.setTop (mkF m 1 #[.val (.ref x), .val (.int (Int32.ofNat i))] [.ref x])) := Steps.trans (entry rfl) (by
    show Steps p.tables e below (s₁.setTop (mkF m 0 #[.val (.ref x), .val (.int (Int32.ofNat i))] [])) _
    refine XS.aloadN X0.here hexec rfl (hb hbytes d0) rfl rfl ?_
    exact Steps.refl _)
  obtain ⟨v2, T2, X2, E2, g2⟩ := X0.callV hexec (IsL.law l x 0 z) hown (wks W (virtW "java/lang/String" 492 "java/lang/String" IsL.yN IsL.yN)) rfl (by decide) (wk W IsL.tab) (W := 0) (Nat.le_of_ble_eq_true rfl) (Nat.le_of_ble_eq_true rfl) (Nat.le_refl _) (Nat.le_refl _) (hx0.1.fc X0.warmed.alike) hx0.1.is (g := (mkF m 1 #[.val (.ref x), .val (.int (Int32.ofNat i))] [.ref x])) rfl (by rw [hml]; rfl) c1 (argsL := []) (rest := []) rfl rfl (by show 2 * 0 + 0 ≤ _; decide) (hb hbytes d1) (⟨rfl, hx0.2.2.1, hx.2.2.2.2.1.cd, s1.there X0.warmed.alike hh0, hz⟩)
  obtain ⟨rfl, q2⟩ := E2
  have hh2 := q2.trans hh0
  have hx2 := hx.mv X2.warmed.alike hh2
  obtain ⟨-, k1, k2⟩ | ⟨k0, -⟩ := hx.2.2.2.2.1
  · have c3 : Steps p.tables e below (s₁.setTop (entryFrame m #[.ref x, .int (Int32.ofNat i)] 2)) (T2.setTop (mkF m 8 #[.val (.ref x), .val (.int (Int32.ofNat i))] [.ref x])) := Steps.trans g2 (by
      refine XS.ifNo X2.here hexec rfl (hb hbytes d4) rfl (i0_eq_f (by decide)) ?_
      refine XS.aloadN X2.here hexec rfl (hb hbytes d7) rfl rfl ?_
      exact Steps.refl _)
    obtain ⟨T4, X4, q4, st4⟩ := X2.hget hexec hown (wk W (.fieldLink "java/lang/String" 9 "java/lang/String" "value" "[B")) hx2.2.1 (g := (mkF m 8 #[.val (.ref x), .val (.int (Int32.ofNat i))] [.ref x])) rfl (rest := []) rfl (hb hbytes d8)
    have hh4 := q4.trans hh2
    have c5 : Steps p.tables e below (s₁.setTop (entryFrame m #[.ref x, .int (Int32.ofNat i)] 2)) (T4.setTop (mkF m 12 #[.val (.ref x), .val (.int (Int32.ofNat i))] [.int (Int32.ofNat i), .ref t])) := (c3.trans (st4 _ (Steps.refl _))).trans (by
      refine XS.iloadN X4.here hexec rfl (hb hbytes d11) rfl ?_
      exact Steps.refl _)
    obtain ⟨v6, T6, X6, E6, g6⟩ := X4.callS hexec (LChA.law l t V i (lo8 (f i)) fm) hown (wks W (staticW "java/lang/String" 495 LChA.yN)) (wk W LChA.tab) (W := 0) (Nat.le_of_ble_eq_true rfl) (Nat.le_of_ble_eq_true rfl) (Nat.le_refl _) (Nat.le_refl _) (g := (mkF m 12 #[.val (.ref x), .val (.int (Int32.ofNat i))] [.int (Int32.ofNat i), .ref t])) rfl (by rw [hml]; rfl) c5 (argsL := [.ref t, .int (Int32.ofNat i)]) (rest := []) rfl rfl (by show 2 * 0 + 0 ≤ _; decide) (hb hbytes d12) (⟨rfl, hx.2.2.2.1.mv X4.warmed.alike hh4, (k2 i hi).1, s3.there X4.warmed.alike hh4, rf⟩)
    obtain ⟨rfl, q6⟩ := E6
    rw [chr8_lo8 hr.1 (k2 i hi).2] at g6
    exact ⟨T6, some (.int (f i)), _, _, _, X6, rfl, rfl, rfl, (fun h => by cases h), ⟨rfl, q6.trans hh4⟩, fun fs hl => Steps.trans g6 (X6.ireturnOut hexec hret (narrow_ch hr.1 hr.2) (Or.inr (Or.inr (Or.inr (Or.inl rfl)))) (hb hbytes d15) hl)⟩
  · exact absurd k0 (by decide)
theorem pays {l : Launch} {R : Room} {p : Program} {e : Env} {below : List Frame} {s : State} {sargs : Array Value} {len W : Nat} (x t : Addr) (V : Cell) (n : Nat) (f : Nat → Int32) (z : Int32) (fm : Value) (i : Nat) (htab : tab.before sargs s = true) (hfr : 4 ≤ R.frames) (hlo : W + 53 ≤ R.locals) :
    Back l R p e below s sargs yN len W (fun A₁ a₁ => A₁.cells + 0 ≤ R.cells ∧ A₁.slots + 0 ≤ R.slots ∧ P x t V n f z fm i a₁ A₁.U) (fun A₁ _ v₁ B₁ => E f i v₁ A₁.U B₁.U ∧ B₁.locs = A₁.locs ++ [] ∧ B₁.cells = A₁.cells + 0 ∧ B₁.slots = A₁.slots + 0) :=
  (law l x t V n f z fm i).pays htab hfr (by omega)
end ChN
end StrChars
namespace StrChars.Road
open Jvm Sem ClassFile Op Lib Jvm.Stand Jvm.Free Jvm.Free.XT
open Jvm.Lib.Cold (StaticIs)
/-- the words of String.charAt(int), the Latin-1 road alone -/
abbrev wordsChN : List Jvm.Cond := [.code ChN.yN ChN.yB 2 (some .char), .initialized ST, .fieldLink ST 9 ST "value" "[B", .fieldLink ST 38 ST "COMPACT_STRINGS" "Z", .fieldLink ST 15 ST "coder" "B", .code IsL.yN IsL.yB 1 (some .boolean), .methodLink ST 492 IsL.yN, .declares IsL.yN, .selects ST IsL.yN IsL.yN, .instanceMethod IsL.yN,
  .methodLink ST 495 LChA.yN, .static LChA.yN, .code LChA.yN LChA.yB 2 (some .char), .initialized "java/lang/StringLatin1", .methodLink "java/lang/StringLatin1" 9 JO.Str_checkIndex.yN, .static JO.Str_checkIndex.yN, .code JO.Str_checkIndex.yN JO.Str_checkIndex.yB 2 none,
  .fieldLink ST 1053 "jdk/internal/util/Preconditions" "SIOOBE_FORMATTER" "Ljava/util/function/BiFunction;", .methodLink ST 1059 JC.PreCheck.yN, .static JC.PreCheck.yN, .code JC.PreCheck.yN JC.PreCheck.yB 3 (some .int), .initialized "jdk/internal/util/Preconditions"]
theorem tabChN_of {a : Array Value} {s : State} (h : ∀ w ∈ wordsChN, w.before a s = true) : ChN.tab.before a s = true := by
  have hp : JC.PreCheck.tab.before a s = true := unparts (wk h (.code JC.PreCheck.yN JC.PreCheck.yB 3 (some .int))) (wks h (.initialized JC.PreCheck.yN.cls :: JC.PreCheck.site))
  have qk := consq hp h
  have hk : JO.Str_checkIndex.tab.before a s = true := unparts (wk qk (.code JO.Str_checkIndex.yN JO.Str_checkIndex.yB 2 none)) (wks qk (.initialized JO.Str_checkIndex.yN.cls :: JO.Str_checkIndex.site))
  have ql := consq hk h
  have hl : LChA.tab.before a s = true := unparts (wk ql (.code LChA.yN LChA.yB 2 (some .char))) (wks ql (.initialized LChA.yN.cls :: LChA.site))
  have hi : IsL.tab.before a s = true := unparts (wk h (.code IsL.yN IsL.yB 1 (some .boolean))) (wks h (.initialized IsL.yN.cls :: IsL.site))
  have q := consq hi (consq hl h)
  exact unparts (wk q (.code ChN.yN ChN.yB 2 (some .char))) (wks q (.initialized ChN.yN.cls :: ChN.site))
theorem movedChN {Z s : State} {a0 args : Array Value} (hZ : Z.Warmed39 s.vm) (hw : ∀ d ∈ wordsChN, d.before a0 Z = true) : ∀ d ∈ wordsChN, d.before args s = true := fun d hd => by
  have t : ∀ d ∈ wordsChN, (d.onTables && d.keepsFace) = true := by decide +kernel
  exact RoadKit.mv hZ (hw d hd) (t d hd)
/-- **charAt(i) OF A LATIN-1 STRING**, i < n: the char -/
theorem chN {p : Program} {l : Launch} {e : Env} {R : Room} {s : State} {args : Array Value} {below : List Frame} {len W : Nat} {Z : State} {a0 : Array Value} {h : Heap} (hZ : Z.Warmed39 s.vm) (hw : ∀ d ∈ wordsChN, d.before a0 Z = true) {kI : Nat} (wi : (Jvm.Cond.instantiable ST kI).before a0 Z = true)
    {x t : Addr} {kb : ClassId} {cs : List Int32} {N2 z : Int32} {vs : List Value} {fm : Value} {i : Nat} {j : Int32} (E : RoadKit.Exa Z h x ST) (V : RoadKit.Fld Z h x ST "value" "[B" (.ref t)) (C : RoadKit.Fld Z h x ST "coder" "B" (.int 0)) (K : RoadKit.Arv Z h t kb .byte N2 vs (.int 0)) (hc : CodA cs 0 N2 vs) (hb : ∀ c ∈ cs, ¬ c < 0 ∧ ¬ (65535 : Int32) < c)
    (S : RoadKit.Sta Z h ST "COMPACT_STRINGS" "Z" (.int z)) (hz : ¬ z = 0) (F : RoadKit.Sta Z h "jdk/internal/util/Preconditions" "SIOOBE_FORMATTER" "Ljava/util/function/BiFunction;" fm) (rf : fm.isRef = true) (l2 : cs.length ≤ 4000) (hi : i < cs.length) (hj : j = Int32.ofNat i) (hfr : 4 ≤ R.frames) (hlo : W + 53 ≤ R.locals) :
    Back l R p e below s args (⟨"java/lang/String", "charAt", "(I)C"⟩ : MethodName) len W (fun P a => a = #[.ref x, .int j] ∧ P.U.heap = h ∧ P.cells + 0 ≤ R.cells ∧ P.slots + 0 ≤ R.slots)
      (fun P _ v B => ∃ L, (v = some (.int (cs.getD i 0)) ∧ L = [] ∧ B.U.heap = h) ∧ B.locs = P.locs ++ L ∧ B.cells = P.cells + 0 ∧ B.slots = P.slots + 0) := by
  subst hj
  intro m meth c P g ig mk a X hg hsize hdg hW hn hp'
  obtain ⟨rfl, rfl, r1, r2⟩ := hp'
  have al : Z.vm.Alike P.U.vm := hZ.alike.trans X.warmed.alike
  obtain ⟨A, hx⟩ := txt_of wi al E V C K hc hb l2
  obtain ⟨v, B, X', ⟨⟨hv, hh⟩, hl, hk, hs⟩, st⟩ := ChN.pays x t A cs.length (fun j => cs.getD j 0) z fm i (tabChN_of (movedChN hZ hw)) hfr hlo m meth c P g ig mk _ X hg hsize hdg hW hn ⟨r1, r2, rfl, hx, hi, sta_is al S, hz, sta_is al F, rf⟩
  exact ⟨v, B, X', ⟨[], ⟨hv, rfl, hh⟩, hl, hk, hs⟩, st⟩
/-- what backV says of its String, as the contracts of this text ask it: cs's low bytes, coder 0 -/
theorem codOf {cs : List Int32} {n : Nat} (hn : cs.length = n) (hb : ∀ c ∈ cs, ¬ 255 < c) : CodA cs 0 (Int32.ofNat n) ((cs.map lo8).map Value.int) := Or.inl ⟨rfl, by rw [hn], by simp [List.map_map, Function.comp_def], hb⟩
end StrChars.Road
end Jvm.Pilot.@@N@@
namespace Jvm.Pilot.@@N@@
open Jvm Jvm.ClassFile Sem Op Lib Jvm.Free Jvm.Stand Jvm.LawKit Jvm.RoadKit Bundle Jvm.Pilot.@@N@@.Jvm.D Jvm.Own
/-- what the case says of its start -/
def Wd (Z : State) (a0 : Array Value) : Prop := (∀ (k : Nat) {d : Jvm.Cond}, tables_1[k]? = some d → d.before a0 Z = true) ∧ (∃ z : Int32, Sta Z Z.heap "java/lang/String" "COMPACT_STRINGS" "Z" (.int z) ∧ ¬ z = 0) ∧ ∃ fm : Value, Sta Z Z.heap "jdk/internal/util/Preconditions" "SIOOBE_FORMATTER" "Ljava/util/function/BiFunction;" fm ∧ fm.isRef = true
theorem Wd.hw {Z : State} {a0 : Array Value} (W : Wd Z a0) : ∀ d ∈ tables_1, d.before a0 Z = true := fun d hd => by
  obtain ⟨i, hi⟩ := List.mem_iff_getElem?.mp hd
  exact W.1 i hi
theorem Wd.sub {Z : State} {a0 : Array Value} (W : Wd Z a0) {ws : List Jvm.Cond} (h : ∀ d ∈ ws, d ∈ tables_1) : ∀ d ∈ ws, d.before a0 Z = true := fun d hd => W.hw d (h d hd)
theorem pdC : parseMethodDescriptor "([C)V" = some ⟨[(.array .char)], none⟩ := by decide +kernel
theorem up255 {cs : List Int32} (h : ∀ c ∈ cs, ¬ c < 0 ∧ ¬ (255 : Int32) < c) : ∀ c ∈ cs, ¬ c < 0 ∧ ¬ (65535 : Int32) < c := fun c hc => ⟨(h c hc).1, fun q => (h c hc).2 (by rw [Int32.lt_iff_toInt_lt] at q ⊢; have e1 : (65535 : Int32).toInt = 65535 := rfl; have e2 : (255 : Int32).toInt = 255 := rfl; omega)⟩
section StrGo
variable {nw : Bool} {p : Program} {l : Launch} {e : Env} {R : Room} {s : State} {m : MethodId} {args : Array Value} {below : List Frame} {meth : Method} {c : Code} {code : ByteArray} {ml : Nat} {nm : String} {ret : Option FieldType} {Z : State} {a0 : Array Value} {EL : List (String × Nat)} {own : String} {P : Option Value → Vm → Heap → Prop}
variable {vm vm' : Vm} {h h' h0 h1 h2 : Heap} {k n pc : Nat} {L : Array Slot} {S : List Value}
/-- new String(chars), one to 4,000 of them, each 0 to 255 -/
theorem goStrNew (W : Wd Z a0) {idx : Nat} {x b : Addr} {kC : ClassId} {N : Int32} {v0 c0 dv : Value} {rest : List Value} (Wk : Nat) (cs : List Int32) (pc' : Nat) (hd : decode code pc = .ok (.invokespecial idx, 3)) (hp : pc + 3 = pc') (w1 : (Jvm.Cond.methodLink own idx (⟨"java/lang/String", "<init>", "([C)V"⟩ : MethodName)).before a0 Z = true)
    (E : Exa Z h x "java/lang/String") (V : Fld Z h x "java/lang/String" "value" "[B" v0) (C : Fld Z h x "java/lang/String" "coder" "B" c0) (K : Arv Z h b kC .char N (cs.map Value.int) dv) (hN : N = Int32.ofNat cs.length) (l0 : 0 < cs.length) (l2 : cs.length ≤ 4000) (hcs : ∀ c ∈ cs, ¬ c < 0 ∧ ¬ (255 : Int32) < c)
    (hst : S = .ref b :: .ref x :: rest) (hsz : L.size = ml) (hW : (rest.map fun v => v.category).sum ≤ Wk) (hfr : 4 ≤ R.frames) (hlo : Wk + 65 ≤ R.locals) (hk0 : k + 1 ≤ R.cells) (hn0 : n + cs.length ≤ R.slots) (Sx : Safe Z EL vm h x) (hz : Z.heap.size ≤ x)
    (g : ∀ h', Keep h h' [x] → Str Z h' x cs → CHr Z EL vm h vm h' → Go nw p l e R s m args below meth c code ml nm ret Z a0 EL own P vm h' (k + 1) (n + cs.length) pc' L rest) : Go nw p l e R s m args below meth c code ml nm ret Z a0 EL own P vm h k n pc L S := by
  obtain ⟨z, Cz, hz0⟩ := W.2.1
  refine Go.specB (Q := fun v h' L => StrChars.Road.QV Z x N (cs.map fun c => c.toInt8.toInt32) h Z.heap.size v h' L) (dk := 1) (dn := cs.length) (rest := rest) Wk x [.ref b] pc' hd hp rfl w1 (W.1 9 rfl) (W.1 10 rfl) (by decide)
    (fun hZ hE => StrChars.Road.backV hZ (W.sub (by decide +kernel)) (W.1 5 rfl) (bs := cs.map fun c => c.toInt8.toInt32) hz hE.1 E V C K (Cz.ext hE) hz0 rfl hN l0 l2 hcs rfl hfr hlo) pdC rfl hst hsz hW hk0 hn0
    (fun v h' L q => ⟨q.2.1, [x], q.2.2.1, fun y hy => by cases List.mem_singleton.mp hy; exact Sx, fun y hy => by cases List.mem_singleton.mp hy; exact hz⟩) (fun v h' L q ch => ?_)
  obtain ⟨rfl, q2, q3, q4, q5, t, kb, q6, q7, q8, q9, q10⟩ := q
  exact g h' q3 ⟨t, kb, q4, q5, q9, by rw [← hN]; exact q10, l2, hcs⟩ ch
theorem pdI0 : parseMethodDescriptor "()I" = some ⟨[], some .int⟩ := by decide +kernel
theorem goStrLen (W : Wd Z a0) {idx : Nat} {x : Addr} {cs : List Int32} {rest : List Value} (Wk : Nat) (pc' : Nat) (hd : decode code pc = .ok (.invokevirtual idx, 3)) (hp : pc + 3 = pc') (w1 : (Jvm.Cond.methodLink own idx (⟨"java/lang/String", "length", "()I"⟩ : MethodName)).before a0 Z = true)
    (T : Str Z h x cs) (hst : S = .ref x :: rest) (hsz : L.size = ml) (hW : (rest.map fun v => v.category).sum ≤ Wk) (hfr : 2 ≤ R.frames) (hlo : Wk + 25 ≤ R.locals) (hk0 : k ≤ R.cells) (hn0 : n ≤ R.slots) (g : Go nw p l e R s m args below meth c code ml nm ret Z a0 EL own P vm h k n pc' L (.int (Int32.ofNat cs.length) :: rest)) : Go nw p l e R s m args below meth c code ml nm ret Z a0 EL own P vm h k n pc L S := by
  obtain ⟨z, Cz, hz0⟩ := W.2.1
  obtain ⟨b, kb, t1, t2, t3, t4, t5, t6⟩ := T
  refine Go.virtB (Q := fun v h' L => v = some (.int (Int32.ofNat cs.length)) ∧ L = [] ∧ h' = h) (dk := 0) (dn := 0) (rest := rest) Wk x [] pc' hd hp t1 w1 (W.1 92 rfl) (fun s hs => notFace_of_selects (args := #[]) (mvT hs (W.1 94 rfl))) (W.1 94 rfl) (W.1 93 rfl) (by decide)
    (fun hZ hE => StrChars.Road.lenW hZ (W.sub (by decide +kernel)) (W.1 5 rfl) t1 t3 t2 t4 (StrChars.Road.codOf rfl (fun c hc => (t6 c hc).2)) (up255 t6) (Cz.ext hE) hz0 t5 hfr hlo) pdI0 rfl hst hsz hW hk0 hn0
    (fun v h' L q => ⟨by rw [q.2.1]; exact Fr.nil _, [], by rw [q.2.2]; exact Keep.refl _ _, sf0, fun _ q => nomatch q⟩) (fun v h' L q ch => ?_)
  obtain ⟨rfl, rfl, rfl⟩ := q
  exact g
theorem pdIC : parseMethodDescriptor "(I)C" = some ⟨[.int], some .char⟩ := by decide +kernel
theorem goStrAt (W : Wd Z a0) {idx : Nat} {x : Addr} {cs : List Int32} {j : Int32} {rest : List Value} (Wk : Nat) (i : Nat) (y : Int32) (pc' : Nat) (hd : decode code pc = .ok (.invokevirtual idx, 3)) (hp : pc + 3 = pc') (w1 : (Jvm.Cond.methodLink own idx (⟨"java/lang/String", "charAt", "(I)C"⟩ : MethodName)).before a0 Z = true)
    (T : Str Z h x cs) (hi : i < cs.length) (hj : j = Int32.ofNat i) (hy : cs.getD i 0 = y) (hst : S = .int j :: .ref x :: rest) (hsz : L.size = ml) (hW : (rest.map fun v => v.category).sum ≤ Wk) (hfr : 4 ≤ R.frames) (hlo : Wk + 53 ≤ R.locals) (hk0 : k ≤ R.cells) (hn0 : n ≤ R.slots) (g : Go nw p l e R s m args below meth c code ml nm ret Z a0 EL own P vm h k n pc' L (.int y :: rest)) : Go nw p l e R s m args below meth c code ml nm ret Z a0 EL own P vm h k n pc L S := by
  obtain ⟨z, Cz, hz0⟩ := W.2.1
  obtain ⟨fm, Fz, hr0⟩ := W.2.2
  obtain ⟨b, kb, t1, t2, t3, t4, t5, t6⟩ := T
  refine Go.virtB (Q := fun v h' L => v = some (.int (cs.getD i 0)) ∧ L = [] ∧ h' = h) (dk := 0) (dn := 0) (rest := rest) Wk x [.int j] pc' hd hp t1 w1 (W.1 202 rfl) (fun s hs => notFace_of_selects (args := #[]) (mvT hs (W.1 204 rfl))) (W.1 204 rfl) (W.1 203 rfl) (by decide)
    (fun hZ hE => StrChars.Road.chN hZ (W.sub (by decide +kernel)) (W.1 5 rfl) t1 t3 t2 t4 (StrChars.Road.codOf rfl (fun c hc => (t6 c hc).2)) (up255 t6) (Cz.ext hE) hz0 (Fz.ext hE) hr0 t5 hi hj hfr hlo) pdIC rfl hst hsz hW hk0 hn0
    (fun v h' L q => ⟨by rw [q.2.1]; exact Fr.nil _, [], by rw [q.2.2]; exact Keep.refl _ _, sf0, fun _ q => nomatch q⟩) (fun v h' L q ch => ?_)
  obtain ⟨rfl, rfl, rfl⟩ := q
  subst hy
  exact g
end StrGo
end Jvm.Pilot.@@N@@
namespace Jvm.Pilot.@@N@@
open Jvm Jvm.ClassFile Sem Op Lib Jvm.Free Jvm.Stand Jvm.LawKit Jvm.RoadKit Bundle Jvm.Pilot.@@N@@.Jvm.D Jvm.Own
theorem clampN {n : Nat} (h : n < 2 ^ 31) : (Int32.ofNat n).toNatClampNeg = n := Int32.toNatClampNeg_ofNat_of_lt h
theorem ofNat_add' (a b : Nat) : Int32.ofNat a + Int32.ofNat b = Int32.ofNat (a + b) := (Int32.ofNat_add a b).symm
theorem shl0 (x : Int32) : x <<< ((0 : Int32) &&& 31) = x := by
  apply Int32.toBitVec_inj.mp
  simp
theorem nneg {n : Nat} (h : n < 2 ^ 31) : ¬ Int32.ofNat n < 0 := by
  rw [Int32.lt_iff_toInt_lt, ofNat_toInt h]; have e : (0 : Int32).toInt = 0 := rfl; omega
theorem negI {p : Nat} (hp : p < 2 ^ 31) : (-(Int32.ofNat p)).toInt = -(p : Int) := by
  have h := c_ineg (Int32.ofNat p)
  have r := rng32 (-(Int32.ofNat p))
  rw [ofNat_toInt hp] at h
  omega
theorem negc {n p : Nat} (hn : n < 2 ^ 31) (hp : p < 2 ^ 31) : (-(Int32.ofNat p) < -(Int32.ofNat n)) ↔ n < p := by
  rw [Int32.lt_iff_toInt_lt, negI hp, negI hn]; omega
theorem div100 {y : Nat} (hy : y < 2 ^ 31) (h0 : 0 < y) : (-(Int32.ofNat y)) / (100 : Int32) = -(Int32.ofNat (y / 100)) := by
  apply Int32.toInt_inj.mp
  have h := c_idiv (-(Int32.ofNat y)) 100 100 rfl (by decide)
  rw [negI hy] at h
  rw [negI (by omega), h.2 (by omega)]
  omega
theorem rem100 {y : Nat} (hy : y < 2 ^ 31) (h0 : 0 < y) : (-(Int32.ofNat (y / 100))) * (100 : Int32) - (-(Int32.ofNat y)) = Int32.ofNat (y % 100) := by
  apply Int32.toInt_inj.mp
  have h1 := c_imul (-(Int32.ofNat (y / 100))) 100
  have h2 := c_isub ((-(Int32.ofNat (y / 100))) * 100) (-(Int32.ofNat y))
  have e : (100 : Int32).toInt = 100 := rfl
  have r := rng32 ((-(Int32.ofNat (y / 100))) * 100 - -(Int32.ofNat y))
  have r1 := rng32 ((-(Int32.ofNat (y / 100))) * 100)
  rw [negI (by omega), e] at h1
  rw [negI hy] at h2
  rw [ofNat_toInt (by omega)]
  omega
theorem decN {p q : Nat} (h : p = q + 1) (hp : p < 2 ^ 31) : Int32.ofNat p + Int32.ofInt (-1) = Int32.ofNat q := by
  apply Int32.toInt_inj.mp
  have h1 := c_iadd (Int32.ofNat p) (Int32.ofInt (-1))
  have e : (Int32.ofInt (-1)).toInt = -1 := by decide
  have r := rng32 (Int32.ofNat p + Int32.ofInt (-1))
  rw [ofNat_toInt hp, e] at h1
  rw [ofNat_toInt (by omega)]
  omega
theorem incN (p : Nat) : Int32.ofNat p + Int32.ofInt 1 = Int32.ofNat (p + 1) := by
  have e : Int32.ofInt 1 = Int32.ofNat 1 := by decide
  rw [e]; exact (Int32.ofNat_add p 1).symm
theorem incL {xs : List Int32} {x : Int32} : Int32.ofNat xs.length + Int32.ofInt 1 = Int32.ofNat (xs ++ [x]).length := by
  rw [incN]; simp
theorem nnN {y : Nat} (hy : y < 2 ^ 31) : -(-(Int32.ofNat y)) = Int32.ofNat y := by
  apply Int32.toInt_inj.mp
  have h := c_ineg (-(Int32.ofNat y))
  have r := rng32 (-(-(Int32.ofNat y)))
  rw [negI hy] at h
  rw [ofNat_toInt hy]
  omega
theorem posOk {p cap : Nat} (h : p < cap) (hc : cap ≤ 34) : ¬ Int32.ofNat p < 0 ∧ Int32.ofNat p < Int32.ofNat cap := ⟨nneg (by omega), (ofNat_lt (by omega) (by omega)).mpr h⟩
theorem ofNat_inj {a b : Nat} (ha : a < 2 ^ 31) (hb : b < 2 ^ 31) : Int32.ofNat a = Int32.ofNat b ↔ a = b := ⟨fun q => by
  have w := congrArg Int32.toInt q
  rw [ofNat_toInt ha, ofNat_toInt hb] at w
  omega, fun q => by rw [q]⟩
theorem lt100 {y : Nat} (h : y < 100) : ¬ Int32.ofNat y < 0 ∧ Int32.ofNat y < (100 : Int32) := ⟨nneg (by omega), (ofNat_lt (n := 100) (by omega) (by decide)).mpr h⟩
theorem divN {n t : Nat} (hn : n < 2 ^ 31) (ht : 0 < t ∧ t < 2 ^ 31) : Int32.ofNat n / Int32.ofNat t = Int32.ofNat (n / t) := by
  apply Int32.toInt_inj.mp
  have hle : n / t ≤ n := Nat.div_le_self n t
  have hd : Int32.ofNat t ≠ -1 := fun q => by
    have w := congrArg Int32.toInt q
    rw [ofNat_toInt ht.2] at w
    have e : (-1 : Int32).toInt = -1 := by decide
    omega
  have h := (c_idiv (Int32.ofNat n) (Int32.ofNat t) (t : Int) (ofNat_toInt ht.2) hd).1
  rw [ofNat_toInt hn] at h
  rw [h (by omega), ofNat_toInt (by omega)]
  rfl
theorem neN {t : Nat} (ht : 0 < t ∧ t < 2 ^ 31) : Int32.ofNat t ≠ 0 := fun q => by
  have w := congrArg Int32.toInt q
  rw [ofNat_toInt ht.2] at w
  have e : (0 : Int32).toInt = 0 := rfl
  omega
theorem mod10N {n : Nat} (hn : n < 2 ^ 31) : Int32.ofNat n % (10 : Int32) = Int32.ofNat (n % 10) := by
  apply Int32.toInt_inj.mp
  have h := (c_irem (Int32.ofNat n) 10 10 rfl).1
  rw [ofNat_toInt hn] at h
  rw [h (by omega), ofNat_toInt (by omega)]
  omega
theorem dg48F : ∀ m : Fin 10, (¬ Int32.ofNat (48 + m.val) < 0 ∧ ¬ (255 : Int32) < Int32.ofNat (48 + m.val)) ∧ (48 : Int32) + Int32.ofNat m.val = Int32.ofNat (48 + m.val) := by decide +kernel
theorem dg48 (n : Nat) : ¬ Int32.ofNat (48 + n % 10) < 0 ∧ ¬ (255 : Int32) < Int32.ofNat (48 + n % 10) := (dg48F ⟨n % 10, Nat.mod_lt _ (by decide)⟩).1
theorem add48 (n : Nat) : (48 : Int32) + Int32.ofNat (n % 10) = Int32.ofNat (48 + n % 10) := (dg48F ⟨n % 10, Nat.mod_lt _ (by decide)⟩).2
/-- the s last decimal places of n -/
def dgL : Nat → Nat → List Int32
  | 0, _ => []
  | s + 1, n => dgL s (n / 10) ++ [Int32.ofNat (48 + n % 10)]
theorem dgL_len : ∀ s n : Nat, (dgL s n).length = s
  | 0, _ => rfl
  | s + 1, n => by simp [dgL, dgL_len s]
theorem dgL_ch : ∀ s n : Nat, ∀ c ∈ dgL s n, ¬ c < 0 ∧ ¬ (255 : Int32) < c
  | 0, _ => fun c hc => by simp [dgL] at hc
  | s + 1, n => fun c hc => by
    rcases List.mem_append.mp (show c ∈ dgL s (n / 10) ++ [Int32.ofNat (48 + n % 10)] from hc) with q | q
    · exact dgL_ch s _ c q
    · cases List.mem_singleton.mp q; exact dg48 n
/-- n has s decimal places -/
def Nd (s n : Nat) : Prop := 0 < s ∧ n < 10 ^ s ∧ 10 ^ (s - 1) ≤ n
theorem Nd.uniq {s i n hi lo : Nat} (h : Nd s n) (h1 : n < hi) (h2 : lo ≤ n) (e1 : 10 ^ i = hi) (e2 : 10 ^ (i - 1) = lo) (h0 : 0 < i) : s = i := by
  obtain ⟨a, b, c⟩ := h
  rcases Nat.lt_trichotomy s i with q | q | q
  · have t : 10 ^ s ≤ 10 ^ (i - 1) := Nat.pow_le_pow_right (by decide) (by omega)
    omega
  · exact q
  · have t : 10 ^ i ≤ 10 ^ (s - 1) := Nat.pow_le_pow_right (by decide) (by omega)
    omega
theorem Nd.pos {s n : Nat} (h : Nd s n) : 0 < n := by
  have p : 0 < 10 ^ (s - 1) := Nat.pow_pos (by decide)
  exact Nat.lt_of_lt_of_le p h.2.2
theorem Nd.small {s y : Nat} (h : Nd s y) (hq : y < 100) : (y < 10 ∧ s = 1) ∨ (10 ≤ y ∧ s = 2) := by
  have p := h.pos
  by_cases q : y < 10
  · exact Or.inl ⟨q, h.uniq (hi := 10) (lo := 1) q p (by decide) (by decide) (by decide)⟩
  · exact Or.inr ⟨by omega, h.uniq (hi := 100) (lo := 10) hq (by omega) (by decide) (by decide) (by decide)⟩
theorem Nd.big {s y : Nat} (h : Nd s y) (hq : ¬ y < 100) : ∃ t, s = t + 2 ∧ Nd t (y / 100) := by
  obtain ⟨a, b, c⟩ := h
  have e100 : (10 : Nat) ^ 2 = 100 := by decide
  have hs : 3 ≤ s := by
    apply Nat.le_of_not_lt
    intro q
    have t : 10 ^ s ≤ 10 ^ 2 := Nat.pow_le_pow_right (by decide) (by omega)
    rw [e100] at t
    omega
  refine ⟨s - 2, by omega, by omega, ?_, ?_⟩
  · have e : 10 ^ s = 10 ^ (s - 2) * 10 ^ 2 := by rw [← Nat.pow_add, show s - 2 + 2 = s from by omega]
    rw [e100] at e
    omega
  · have e : 10 ^ (s - 1) = 10 ^ (s - 2 - 1) * 10 ^ 2 := by rw [← Nat.pow_add, show s - 2 - 1 + 2 = s - 1 from by omega]
    rw [e100] at e
    omega
theorem Nd.of {s n hi lo : Nat} (h0 : 0 < s) (e1 : 10 ^ s = hi) (e2 : 10 ^ (s - 1) = lo) (h1 : n < hi) (h2 : lo ≤ n) : Nd s n := ⟨h0, by rw [e1]; exact h1, by rw [e2]; exact h2⟩
theorem Nd.le10 {s n : Nat} (h : Nd s n) (hn : n < 2 ^ 31) : s ≤ 10 := by
  apply Nat.le_of_not_lt
  intro q
  have t : 10 ^ 10 ≤ 10 ^ (s - 1) := Nat.pow_le_pow_right (by decide) (by omega)
  have e : (10 : Nat) ^ 10 = 10000000000 := by decide
  have c := h.2.2
  rw [e] at t
  omega
theorem Nd.ex {n : Nat} (h0 : 0 < n) (hn : n < 2 ^ 31) : ∃ s, Nd s n := by
  by_cases q1 : n < 10
  · exact ⟨1, Nd.of (hi := 10) (lo := 1) (by decide) (by decide) (by decide) q1 h0⟩
  by_cases q2 : n < 100
  · exact ⟨2, Nd.of (hi := 100) (lo := 10) (by decide) (by decide) (by decide) q2 (by omega)⟩
  by_cases q3 : n < 1000
  · exact ⟨3, Nd.of (hi := 1000) (lo := 100) (by decide) (by decide) (by decide) q3 (by omega)⟩
  by_cases q4 : n < 10000
  · exact ⟨4, Nd.of (hi := 10000) (lo := 1000) (by decide) (by decide) (by decide) q4 (by omega)⟩
  by_cases q5 : n < 100000
  · exact ⟨5, Nd.of (hi := 100000) (lo := 10000) (by decide) (by decide) (by decide) q5 (by omega)⟩
  by_cases q6 : n < 1000000
  · exact ⟨6, Nd.of (hi := 1000000) (lo := 100000) (by decide) (by decide) (by decide) q6 (by omega)⟩
  by_cases q7 : n < 10000000
  · exact ⟨7, Nd.of (hi := 10000000) (lo := 1000000) (by decide) (by decide) (by decide) q7 (by omega)⟩
  by_cases q8 : n < 100000000
  · exact ⟨8, Nd.of (hi := 100000000) (lo := 10000000) (by decide) (by decide) (by decide) q8 (by omega)⟩
  by_cases q9 : n < 1000000000
  · exact ⟨9, Nd.of (hi := 1000000000) (lo := 100000000) (by decide) (by decide) (by decide) q9 (by omega)⟩
  · exact ⟨10, Nd.of (hi := 10000000000) (lo := 1000000000) (by decide) (by decide) (by decide) (by omega) (by omega)⟩
def onesV : List Value := (List.range 100).map fun i => .int (Int32.ofNat (48 + i % 10))
def tensV : List Value := (List.range 100).map fun i => .int (Int32.ofNat (48 + i / 10))
theorem onesF : ∀ k : Fin 100, onesV.getD k.val (.int 0) = .int (Int32.ofNat (48 + k.val % 10)) := by decide +kernel
theorem tensF : ∀ k : Fin 100, tensV.getD k.val (.int 0) = .int (Int32.ofNat (48 + k.val / 10 % 10)) := by decide +kernel
theorem onesAt {y : Nat} (h : y < 100) : onesV.getD (Int32.ofNat y).toNatClampNeg (.int 0) = .int (Int32.ofNat (48 + y % 10)) := by rw [clampN (by omega)]; exact onesF ⟨y, h⟩
theorem tensAt {y : Nat} (h : y < 100) : tensV.getD (Int32.ofNat y).toNatClampNeg (.int 0) = .int (Int32.ofNat (48 + y / 10 % 10)) := by rw [clampN (by omega)]; exact tensF ⟨y, h⟩
theorem onesR (y : Nat) : onesV.getD (Int32.ofNat (y % 100)).toNatClampNeg (.int 0) = .int (Int32.ofNat (48 + y % 10)) := by rw [onesAt (Nat.mod_lt _ (by decide)), show y % 100 % 10 = y % 10 from by omega]
theorem tensR (y : Nat) : tensV.getD (Int32.ofNat (y % 100)).toNatClampNeg (.int 0) = .int (Int32.ofNat (48 + y / 10 % 10)) := by rw [tensAt (Nat.mod_lt _ (by decide)), show y % 100 / 10 % 10 = y / 10 % 10 from by omega]
/-- the digit tables of java/lang/Integer -/
def Dg (Z : State) (o1 o2 : Addr) : Prop := Sta Z Z.heap "java/lang/Integer" "DigitOnes" "[B" (.ref o1) ∧ (∃ k, Arv Z Z.heap o1 k .byte (100 : Int32) onesV (.int 0)) ∧ Sta Z Z.heap "java/lang/Integer" "DigitTens" "[B" (.ref o2) ∧ ∃ k, Arv Z Z.heap o2 k .byte (100 : Int32) tensV (.int 0)
theorem set_end {α : Type} (a s : List α) (k : Nat) (z v : α) : (a ++ List.replicate (k + 1) z ++ s).set (a.length + k) v = a ++ List.replicate k z ++ v :: s := by
  have e : a ++ List.replicate (k + 1) z ++ s = (a ++ List.replicate k z) ++ (z :: s) := by
    rw [List.replicate_succ']; simp
  rw [e, List.set_append_right _ _ (by simp)]
  simp
theorem set_fill (ds suf : List Int32) (k : Nat) (x : Int32) : (((ds ++ List.replicate (k + 1) 0 ++ suf).map fun (c : Int32) => c.toInt8.toInt32).map Value.int).set (ds.length + k) (.int x.toInt8.toInt32) = (((ds ++ List.replicate k 0 ++ (x :: suf)).map fun (c : Int32) => c.toInt8.toInt32).map Value.int) := by
  have h := set_end ((ds.map fun (c : Int32) => c.toInt8.toInt32).map Value.int) ((suf.map fun (c : Int32) => c.toInt8.toInt32).map Value.int) k (Value.int 0) (Value.int x.toInt8.toInt32)
  have e : (0 : Int32).toInt8.toInt32 = 0 := by decide
  simp only [List.length_map] at h
  simp only [List.map_append, List.map_replicate, List.map_cons, e]
  exact h
theorem fill_lt (ds suf : List Int32) (k : Nat) : ds.length + k < ((((ds ++ List.replicate (k + 1) 0 ++ suf).map fun (c : Int32) => c.toInt8.toInt32).map Value.int)).length := by
  simp only [List.length_map, List.length_append, List.length_replicate]; omega
theorem fill0 (ds : List Int32) (s : Nat) (i : Nat) : (((ds ++ List.replicate s 0 ++ []).map fun (c : Int32) => c.toInt8.toInt32).map Value.int).getD i (.int 0) = ((ds.map fun (c : Int32) => c.toInt8.toInt32).map Value.int).getD i (.int 0) := by
  have e : (0 : Int32).toInt8.toInt32 = 0 := by decide
  simp only [List.append_nil, List.map_append, List.map_replicate, e]
  exact pad_rep _ _ s i

/-- a builder of cap places that holds the chars cs -/
def Bld (Z : State) (h : Heap) (b d : Addr) (kd : ClassId) (cap : Nat) (cs : List Int32) : Prop :=
  Exa Z h b "java/lang/StringBuilder" ∧ Fld Z h b "java/lang/AbstractStringBuilder" "coder" "B" (.int 0) ∧ Fld Z h b "java/lang/AbstractStringBuilder" "value" "[B" (.ref d) ∧ Fld Z h b "java/lang/AbstractStringBuilder" "count" "I" (.int (Int32.ofNat cs.length)) ∧
  Arv Z h d kd .byte (Int32.ofNat cap) ((cs.map fun (c : Int32) => c.toInt8.toInt32).map Value.int) (.int 0) ∧ (Exa Z h d "[B" ∧ (cap = 16 ∨ cap = 34)) ∧ cs.length ≤ cap ∧ ∀ c ∈ cs, ¬ c < 0 ∧ ¬ (255 : Int32) < c
section Bld
variable {Z : State} {h h' : Heap} {b d : Addr} {kd : ClassId} {cap : Nat} {cs : List Int32}
theorem Bld.ext (B : Bld Z h b d kd cap cs) (E : Ext h h') : Bld Z h' b d kd cap cs := by
  obtain ⟨b1, b2, b3, b4, b5, ⟨b6, b7⟩, b8⟩ := B
  exact ⟨b1.ext E, b2.ext E, b3.ext E, b4.ext E, b5.ext E, ⟨b6.ext E, b7⟩, b8⟩
theorem Bld.e (B : Bld Z h b d kd cap cs) : Exa Z h b "java/lang/StringBuilder" := B.1
theorem Bld.co (B : Bld Z h b d kd cap cs) : Fld Z h b "java/lang/AbstractStringBuilder" "coder" "B" (.int 0) := B.2.1
theorem Bld.va (B : Bld Z h b d kd cap cs) : Fld Z h b "java/lang/AbstractStringBuilder" "value" "[B" (.ref d) := B.2.2.1
theorem Bld.ct (B : Bld Z h b d kd cap cs) : Fld Z h b "java/lang/AbstractStringBuilder" "count" "I" (.int (Int32.ofNat cs.length)) := B.2.2.2.1
theorem Bld.ar (B : Bld Z h b d kd cap cs) : Arv Z h d kd .byte (Int32.ofNat cap) ((cs.map fun (c : Int32) => c.toInt8.toInt32).map Value.int) (.int 0) := B.2.2.2.2.1
theorem Bld.ex (B : Bld Z h b d kd cap cs) : Exa Z h d "[B" := B.2.2.2.2.2.1.1
theorem Bld.cp (B : Bld Z h b d kd cap cs) : cap = 16 ∨ cap = 34 := B.2.2.2.2.2.1.2
theorem Bld.le (B : Bld Z h b d kd cap cs) : cs.length ≤ cap := B.2.2.2.2.2.2.1
theorem Bld.ch (B : Bld Z h b d kd cap cs) : ∀ c ∈ cs, ¬ c < 0 ∧ ¬ (255 : Int32) < c := B.2.2.2.2.2.2.2
theorem Bld.c34 (B : Bld Z h b d kd cap cs) : cap ≤ 34 := by rcases B.cp with q | q <;> omega
end Bld
theorem ensN : ∀ n : Fin 17, ¬ 0 < Int32.ofNat n.val - Int32.ofNat 16 := by decide +kernel
theorem ensM : ∀ n : Fin 35, ¬ 0 < Int32.ofNat n.val - Int32.ofNat 34 := by decide +kernel
theorem grow16 : ∀ n : Fin 35, 16 < n.val → 0 < Int32.ofNat n.val - Int32.ofNat 16 ∧ Int32.ofNat 16 + (if Int32.ofNat n.val - Int32.ofNat 16 < (18 : Int32) then (18 : Int32) else Int32.ofNat n.val - Int32.ofNat 16) = 34 := by decide +kernel
theorem cp_get {vs : List Value} (hl : vs.length ≤ 16) : ∀ i, i < (Int32.ofNat 34).toNatClampNeg → vs.getD i (.int 0) = if 0 ≤ i ∧ i < 0 + 16 then vs.getD (0 + (i - 0)) (.int 0) else ([] : List Value).getD i (.int 0) := fun i _ => by
  by_cases q : i < 16
  · rw [if_pos ⟨Nat.zero_le _, by omega⟩]; simp
  · rw [if_neg (fun z => q (by omega))]; simp [List.getD_eq_getElem?_getD, List.getElem?_eq_none (show vs.length ≤ i by omega)]
theorem cr_get {n_ : Nat} {vs : List Value} (hn : n_ < 2 ^ 31) : ∀ i, i < (Int32.ofNat n_).toNatClampNeg → vs.getD i (.int 0) = if 0 ≤ i ∧ i < 0 + n_ then vs.getD (0 + (i - 0)) (.int 0) else ([] : List Value).getD i (.int 0) := fun i hi => by
  rw [clampN hn] at hi
  rw [if_pos ⟨Nat.zero_le _, by omega⟩]; simp
theorem app_get (ds cs : List Int32) (i : Nat) : (((ds ++ cs).map fun (c : Int32) => c.toInt8.toInt32).map Value.int).getD i (.int 0) = if ds.length ≤ i ∧ i < ds.length + cs.length then ((cs.map fun (c : Int32) => c.toInt8.toInt32).map Value.int).getD (0 + (i - ds.length)) (.int 0) else ((ds.map fun (c : Int32) => c.toInt8.toInt32).map Value.int).getD i (.int 0) := by
  simp only [List.getD_eq_getElem?_getD, List.map_append, Nat.zero_add]
  by_cases q : i < ds.length
  · rw [if_neg (by omega), List.getElem?_append_left (by simpa using q)]
  · rw [List.getElem?_append_right (by simpa using Nat.le_of_not_lt q)]
    by_cases r : i < ds.length + cs.length
    · rw [if_pos ⟨Nat.le_of_not_lt q, r⟩]; simp
    · rw [if_neg (fun z => r z.2), List.getElem?_eq_none (by simp; omega), List.getElem?_eq_none (by simp; omega)]
theorem strChars {Z : State} {h : Heap} {a : Addr} {cs : List Int32} (T : Str Z h a cs) : ∀ c ∈ cs, ¬ c < 0 ∧ ¬ (255 : Int32) < c := by obtain ⟨_, _, _, _, _, _, _, t6⟩ := T; exact t6
theorem notFaceC {args : Array Value} {s : State} {K : String} {x g : MethodName} (ws : (Jvm.Cond.selects K g g).before args s = true) (e : g.cls = x.cls) : NotFace s x := fun r0 h0 => by
  obtain ⟨c2, r2, m2, q1, q2, q3, q4, kP, hkP, hkPi⟩ := Cond.selects_spec ws
  have f1 := findClass_of_methodNamed h0
  have f2 := findClass_of_methodNamed q3
  rw [e] at f2
  have f3 : m2.cls = r0.cls := Option.some.inj (f2.symm.trans f1)
  exact ⟨kP, f3 ▸ hkP, hkPi⟩
theorem Ext.kp2 {h h1 h2 : Heap} {x y : Addr} (E : Ext h h1) (K : Keep h1 h2 [x, y]) (e : h.size ≤ x) (f : h.size ≤ y) : Ext h h2 := Ext.kp E K fun z hz => by
  simp only [List.mem_cons, List.not_mem_nil, or_false] at hz
  rcases hz with rfl | rfl
  · exact e
  · exact f
section Start
variable {Z : State} {args : Array Value} {t a : Term} {x na : Addr} {cl : Cell} {ty : FieldType} {k : Int32} {cs : List Int32}
theorem eqInt (h : (Jvm.Cond.eq a (.int k)).value args Z none Z [] = some true) : a.eval args Z none [] Z = some (.int k) := by
  simp only [Jvm.Cond.value, Term.int_eval] at h
  cases ha : a.eval args Z none [] Z with
  | none => simp [ha] at h
  | some v =>
    rw [ha] at h
    cases v <;> simp at h
    subst h; rfl
theorem lenAt (A : RoadKit.Arr Z Z.heap x cl ty) (ht : t.eval args Z none [] Z = some (.ref x)) (h : (Term.length t).eval args Z none [] Z = some (.int k)) : cl.slots.size < 2 ^ 31 ∧ cl.slots.size.toInt32 = k := by
  have e : Z.arrayAt? x = some cl := Arr.fin (Vm.Alike.refl _) A
  simp only [Term.eval, ht, Option.bind_eq_bind, Option.bind_some, e] at h
  by_cases q : cl.slots.size < 2147483648
  · simp [q] at h
    exact ⟨q, h⟩
  · simp [q] at h
theorem getB8 (cs : List Int32) (i : Nat) : ((cs.map fun c => c.toInt8.toInt32).map Value.int).getD i (.int 0) = .int ((cs.getD i 0).toInt8.toInt32) := by
  simp only [List.getD_eq_getElem?_getD, List.getElem?_map]
  cases cs[i]? <;> rfl
theorem strStart (u : t.eval args Z none [] Z = some (.ref na)) (p1 : (Jvm.Cond.exactly t "java/lang/String").value args Z none Z [] = some true) (p2 : (Jvm.Cond.eq (.field t "java/lang/String" "coder" "B") (.int 0)).value args Z none Z [] = some true) (p3 : (Jvm.Cond.arrayOf (.field t "java/lang/String" "value" "[B") .byte).value args Z none Z [] = some true)
    (p4 : (Jvm.Cond.eq (.length (.field t "java/lang/String" "value" "[B")) (.int (Int32.ofNat cs.length))).value args Z none Z [] = some true)
    (pe : ∀ i, i < cs.length → (Jvm.Cond.eq (.elem (.field t "java/lang/String" "value" "[B") (.int (Int32.ofNat i))) (.int ((cs.getD i 0).toInt8.toInt32))).value args Z none Z [] = some true) (hl : cs.length ≤ 4000) (hb : ∀ c ∈ cs, ¬ c < 0 ∧ ¬ (255 : Int32) < c) : Str Z Z.heap na cs := by
  obtain ⟨b, w⟩ := arr_v p3
  obtain ⟨q, A⟩ := Arr.start w p3
  obtain ⟨l1, l2⟩ := lenAt A w (eqInt p4)
  have l3 : q.slots.size = cs.length := by
    have e := congrArg Int32.toInt l2
    rw [len_toInt l1, ofNat_toInt (by omega)] at e
    omega
  have hs : ∀ i, i < q.slots.size → q.slots[i]? = some (((cs.map fun c => c.toInt8.toInt32).map Value.int).getD i (.int 0)) := fun i hi => by
    have e := eqInt (pe i (by omega))
    rw [elem_f w (Term.int_eval _) (Arr.fin (Vm.Alike.refl _) A) (by rw [Int32.lt_iff_toInt_lt, ofNat_toInt (by omega)]; have e1 : (0 : Int32).toInt = 0 := rfl; omega)] at e
    have e2 : (Int32.ofNat i).toNatClampNeg = i := by
      show ((Int32.ofNat i).toInt).toNat = i
      rw [ofNat_toInt (by omega)]; omega
    rw [e2] at e
    rw [e, getB8]
  refine ⟨b, q.cls, Exa.start u p1, Fld.start ((fld_at u).symm.trans (eqInt p2)), Fld.start ((fld_at u).symm.trans w), ⟨q, A, rfl, ?_, ?_, hs, ?_⟩, hl, hb⟩
  · show q.slots.size = ((Int32.ofNat cs.length).toInt).toNat
    rw [ofNat_toInt (by omega)]; omega
  · rw [Int32.lt_iff_toInt_lt, ofNat_toInt (by omega)]; have e1 : (0 : Int32).toInt = 0 := rfl; omega
  · intro i hi
    rw [getB8]; exact fits_nar_byte _
end Start
section Dig
variable {Z : State} {args a0 : Array Value} {t e : Term} {o : Addr}
theorem eqAt {a b : Term} {idx : List Nat} {k : Int32} (h : (Jvm.Cond.eq a b).value args Z none Z idx = some true) (hb : b.eval args Z none idx Z = some (.int k)) : a.eval args Z none idx Z = some (.int k) := by
  simp only [Jvm.Cond.value, hb] at h
  cases ha : a.eval args Z none idx Z with
  | none => simp [ha] at h
  | some v =>
    rw [ha] at h
    cases v <;> simp at h
    subst h; rfl
theorem addT {a b : Term} {idx : List Nat} {x y : Int32} (ha : a.eval args Z none idx Z = some (.int x)) (hb : b.eval args Z none idx Z = some (.int y)) : (Term.add a b).eval args Z none idx Z = some (.int (x + y)) := by simp [Term.eval, ha, hb]
theorem rangeD {f : Nat → Int32} {i : Nat} (hi : i < 100) : ((List.range 100).map fun i => Value.int (f i)).getD i (.int 0) = .int (f i) := by
  rw [List.getD_eq_getElem?_getD, List.getElem?_map, List.getElem?_range hi]; rfl
/-- a table of 100 bytes that a static field holds -/
theorem digStart (f : Nat → Int32) (wb : (Jvm.Cond.arrayClass .byte).before a0 Z = true) (u : t.eval args Z none [] Z = some (.ref o)) (hi : ∀ i : Nat, t.eval args Z none [i] Z = some (.ref o)) (p1 : (Jvm.Cond.exactly t "[B").value args Z none Z [] = some true) (p2 : (Jvm.Cond.eq (.length t) (.int 100)).value args Z none Z [] = some true)
    (p3 : (Jvm.Cond.all t (.eq (.elem t (.index 0)) e)).value args Z none Z [] = some true) (he : ∀ i, i < 100 → e.eval args Z none [i] Z = some (.int (f i))) (hf : ∀ i, i < 100 → fits .byte (.int (f i)) = true) : ∃ k, Arv Z Z.heap o k .byte (100 : Int32) ((List.range 100).map fun i => .int (f i)) (.int 0) := by
  obtain ⟨cell, kk, x1, x2, x3, x4, -⟩ := Exa.start u p1
  obtain ⟨cA, kA, comp, y1, y2, y3⟩ := Cond.arrayClass_spec wb
  have eB : "[" ++ FieldType.toString .byte = "[B" := by decide +kernel
  rw [eB] at y1
  cases x2.symm.trans y1
  cases x3.symm.trans y2
  have hns : ∀ q, cell.vm ≠ .statics q := fun q hq => by rw [hq] at x4; cases x4
  have e1 := eqInt p2
  have hu : cell.vm ≠ .unknown := fun hq => by
    have ha : Z.arrayAt? o = none := by simp [State.arrayAt?, x1, x3, hq]
    simp [Term.eval, u, ha] at e1
  have A : RoadKit.Arr Z Z.heap o cell .byte := ⟨x1, ⟨hns, kk, x3, comp, y3⟩, hu⟩
  have ha : Z.arrayAt? o = some cell := Arr.fin (Vm.Alike.refl _) A
  obtain ⟨l1, l2⟩ := lenAt A u e1
  have l3 : cell.slots.size = 100 := by
    have e := congrArg Int32.toInt l2
    rw [len_toInt l1] at e
    have e2 : (100 : Int32).toInt = 100 := rfl
    omega
  refine ⟨cell.cls, cell, A, rfl, l3, by decide, fun i h => ?_, fun i h => ?_⟩
  · have h' : i < 100 := by omega
    have q := eqAt (Cond.all_elim u ha p3 i h) (he i h')
    rw [elem_f (hi i) (show (Term.index 0).eval args Z none [i] Z = some (.int (Int32.ofNat i)) from rfl) ha (by rw [Int32.lt_iff_toInt_lt, ofNat_toInt (by omega)]; have e1 : (0 : Int32).toInt = 0 := rfl; omega)] at q
    rw [show (Int32.ofNat i).toNatClampNeg = i from Int32.toNatClampNeg_ofNat_of_lt (by omega)] at q
    rw [q, rangeD h']
  · have h' : i < 100 := by omega
    rw [rangeD h']; exact hf i h'
theorem onesE : ∀ k : Fin 100, (48 : Int32) + (Int32.ofNat k.val) % 10 = Int32.ofNat (48 + k.val % 10) := by decide +kernel
theorem tensE : ∀ k : Fin 100, (48 : Int32) + (Int32.ofNat k.val) / 10 = Int32.ofNat (48 + k.val / 10) := by decide +kernel
theorem onesB : ∀ k : Fin 100, fits .byte (.int (Int32.ofNat (48 + k.val % 10))) = true := by decide +kernel
theorem tensB : ∀ k : Fin 100, fits .byte (.int (Int32.ofNat (48 + k.val / 10))) = true := by decide +kernel
end Dig

def mkV (l c0 c1 c2 : Int32) : List Int32 := if l = 0 then [] else if l = 1 then [c0] else if l = 2 then [c0, c1] else [c0, c1, c2]
theorem mk3 (l c0 c1 c2 : Int32) : (mkV l c0 c1 c2).length ≤ 3 := by
  unfold mkV
  split
  · simp
  · split
    · simp
    · split <;> simp
theorem and3 (y : Int32) : y &&& (3 : Int32) = 0 ∨ y &&& (3 : Int32) = 1 ∨ y &&& (3 : Int32) = 2 ∨ y &&& (3 : Int32) = 3 := by
  have h := c_mask y 3 2 (by decide) (by decide)
  have h3 : (y &&& 3).toInt = 0 ∨ (y &&& 3).toInt = 1 ∨ (y &&& 3).toInt = 2 ∨ (y &&& 3).toInt = 3 := by rw [h]; omega
  rcases h3 with h | h | h | h
  · exact Or.inl (Int32.toInt_inj.mp h)
  · exact Or.inr (Or.inl (Int32.toInt_inj.mp h))
  · exact Or.inr (Or.inr (Or.inl (Int32.toInt_inj.mp h)))
  · exact Or.inr (Or.inr (Or.inr (Int32.toInt_inj.mp h)))
/-- the text on the line, of the line's number -/
def LT (ln : Int32) (t : List Int32) : Prop := (¬ 0 < ln ∧ t = []) ∨ (0 < ln ∧ ∃ s n : Nat, ln = Int32.ofNat n ∧ n < 2 ^ 31 ∧ Nd s n ∧ t = [44, 32, 108, 105, 110, 101, 32] ++ dgL s n)
theorem LT.len {ln : Int32} {t : List Int32} (h : LT ln t) : t.length ≤ 17 := by
  rcases h with ⟨-, rfl⟩ | ⟨-, s, n, -, hn, hs, rfl⟩
  · simp
  · have q := hs.le10 hn
    simp only [List.length_append, List.length_cons, List.length_nil, dgL_len]; omega
theorem posN {x : Int32} (h : 0 < x) : ∃ n : Nat, n < 2 ^ 31 ∧ 0 < n ∧ x = Int32.ofNat n := by
  rw [Int32.lt_iff_toInt_lt] at h
  have e : (0 : Int32).toInt = 0 := rfl
  have r := rng32 x
  refine ⟨x.toInt.toNat, by omega, by omega, ?_⟩
  apply Int32.toInt_inj.mp
  rw [ofNat_toInt (by omega)]
  omega
theorem lt25 {i : Nat} (h : i < 25) : ¬ Int32.ofNat i < 0 ∧ Int32.ofNat i < (25 : Int32) := ⟨nneg (by omega), (ofNat_lt (n := 25) (by omega) (by decide)).mpr h⟩
theorem getM (xs : List Int32) {i : Nat} (h : i < 2 ^ 31) : (xs.map Value.int).getD (Int32.ofNat i).toNatClampNeg (.int 0) = .int (xs.getD i 0) := by
  rw [clampN h]
  simp only [List.getD_eq_getElem?_getD, List.getElem?_map]
  cases xs[i]? <;> rfl
theorem lit_ok_ : ((∀ c ∈ ("" : String).toList, c.toNat < 256) ∧ ("" : String).toList.map (fun c => Value.int (Jvm.Lit.byteI c.toNat.toUInt16)) = []) ∧ 4 * ("" : String).toList.length ≤ 0 := by decide +kernel
theorem lit_ok_fileName : ((∀ c ∈ ("fileName" : String).toList, c.toNat < 256) ∧ ("fileName" : String).toList.map (fun c => Value.int (Jvm.Lit.byteI c.toNat.toUInt16)) = [.int (102), .int (105), .int (108), .int (101), .int (78), .int (97), .int (109), .int (101)]) ∧ 4 * ("fileName" : String).toList.length ≤ 32 := by decide +kernel
theorem lit_ok_reason : ((∀ c ∈ ("reason" : String).toList, c.toNat < 256) ∧ ("reason" : String).toList.map (fun c => Value.int (Jvm.Lit.byteI c.toNat.toUInt16)) = [.int (114), .int (101), .int (97), .int (115), .int (111), .int (110)]) ∧ 4 * ("reason" : String).toList.length ≤ 24 := by decide +kernel
theorem lit_ok__3a_20 : ((∀ c ∈ (": " : String).toList, c.toNat < 256) ∧ (": " : String).toList.map (fun c => Value.int (Jvm.Lit.byteI c.toNat.toUInt16)) = [.int (58), .int (32)]) ∧ 4 * (": " : String).toList.length ≤ 8 := by decide +kernel
theorem lit_ok__2c_20line_20 : ((∀ c ∈ (", line " : String).toList, c.toNat < 256) ∧ (", line " : String).toList.map (fun c => Value.int (Jvm.Lit.byteI c.toNat.toUInt16)) = [.int (44), .int (32), .int (108), .int (105), .int (110), .int (101), .int (32)]) ∧ 4 * (", line " : String).toList.length ≤ 28 := by decide +kernel
theorem d_jdk_42_m149_0 : decode jdk_42_method_149_code 0 = .ok (.aload_n 0, 1) := by decide +kernel
theorem d_jdk_42_m149_1 : decode jdk_42_method_149_code 1 = .ok (.invokespecial 1, 3) := by decide +kernel
theorem d_jdk_42_m149_4 : decode jdk_42_method_149_code 4 = .ok (.iload_n 3, 1) := by decide +kernel
theorem d_jdk_42_m149_5 : decode jdk_42_method_149_code 5 = .ok (.ifCond .ne 22, 3) := by decide +kernel
theorem d_jdk_42_m149_8 : decode jdk_42_method_149_code 8 = .ok (.aload_n 0, 1) := by decide +kernel
theorem d_jdk_42_m149_9 : decode jdk_42_method_149_code 9 = .ok (.ldc 7, 2) := by decide +kernel
theorem d_jdk_42_m149_11 : decode jdk_42_method_149_code 11 = .ok (.getfield 9, 3) := by decide +kernel
theorem d_jdk_42_m149_14 : decode jdk_42_method_149_code 14 = .ok (.putfield 9, 3) := by decide +kernel
theorem d_jdk_42_m149_17 : decode jdk_42_method_149_code 17 = .ok (.aload_n 0, 1) := by decide +kernel
theorem d_jdk_42_m149_18 : decode jdk_42_method_149_code 18 = .ok (.ldc 7, 2) := by decide +kernel
theorem d_jdk_42_m149_20 : decode jdk_42_method_149_code 20 = .ok (.getfield 15, 3) := by decide +kernel
theorem d_jdk_42_m149_23 : decode jdk_42_method_149_code 23 = .ok (.putfield 15, 3) := by decide +kernel
theorem d_jdk_42_m149_26 : decode jdk_42_method_149_code 26 = .ok (.return_, 1) := by decide +kernel
theorem d_jdk_42_m149_27 : decode jdk_42_method_149_code 27 = .ok (.getstatic 38, 3) := by decide +kernel
theorem d_jdk_42_m149_30 : decode jdk_42_method_149_code 30 = .ok (.ifCond .eq 28, 3) := by decide +kernel
theorem d_jdk_42_m149_33 : decode jdk_42_method_149_code 33 = .ok (.aload_n 1, 1) := by decide +kernel
theorem d_jdk_42_m149_34 : decode jdk_42_method_149_code 34 = .ok (.iload_n 2, 1) := by decide +kernel
theorem d_jdk_42_m149_35 : decode jdk_42_method_149_code 35 = .ok (.iload_n 3, 1) := by decide +kernel
theorem d_jdk_42_m149_36 : decode jdk_42_method_149_code 36 = .ok (.invokestatic 177, 3) := by decide +kernel
theorem d_jdk_42_m149_39 : decode jdk_42_method_149_code 39 = .ok (.astore 5, 2) := by decide +kernel
theorem d_jdk_42_m149_41 : decode jdk_42_method_149_code 41 = .ok (.aload_n 0, 1) := by decide +kernel
theorem d_jdk_42_m149_42 : decode jdk_42_method_149_code 42 = .ok (.aload 5, 2) := by decide +kernel
theorem d_jdk_42_m149_44 : decode jdk_42_method_149_code 44 = .ok (.iload_n 3, 1) := by decide +kernel
theorem d_jdk_42_m149_45 : decode jdk_42_method_149_code 45 = .ok (.invokestatic 47, 3) := by decide +kernel
theorem d_jdk_42_m149_48 : decode jdk_42_method_149_code 48 = .ok (.putfield 15, 3) := by decide +kernel
theorem d_jdk_42_m149_51 : decode jdk_42_method_149_code 51 = .ok (.aload_n 0, 1) := by decide +kernel
theorem d_jdk_42_m149_52 : decode jdk_42_method_149_code 52 = .ok (.aload 5, 2) := by decide +kernel
theorem d_jdk_42_m149_54 : decode jdk_42_method_149_code 54 = .ok (.putfield 9, 3) := by decide +kernel
theorem d_jdk_42_m149_57 : decode jdk_42_method_149_code 57 = .ok (.return_, 1) := by decide +kernel
theorem d_jdk_42_m149_58 : decode jdk_42_method_149_code 58 = .ok (.aload_n 0, 1) := by decide +kernel
theorem d_jdk_42_m149_59 : decode jdk_42_method_149_code 59 = .ok (.iconst 1, 1) := by decide +kernel
theorem d_jdk_42_m149_60 : decode jdk_42_method_149_code 60 = .ok (.putfield 15, 3) := by decide +kernel
theorem d_jdk_42_m149_63 : decode jdk_42_method_149_code 63 = .ok (.aload_n 0, 1) := by decide +kernel
theorem d_jdk_42_m149_64 : decode jdk_42_method_149_code 64 = .ok (.aload_n 1, 1) := by decide +kernel
theorem d_jdk_42_m149_65 : decode jdk_42_method_149_code 65 = .ok (.iload_n 2, 1) := by decide +kernel
theorem d_jdk_42_m149_66 : decode jdk_42_method_149_code 66 = .ok (.iload_n 3, 1) := by decide +kernel
theorem d_jdk_42_m149_67 : decode jdk_42_method_149_code 67 = .ok (.invokestatic 180, 3) := by decide +kernel
theorem d_jdk_42_m149_70 : decode jdk_42_method_149_code 70 = .ok (.putfield 9, 3) := by decide +kernel
theorem d_jdk_42_m149_73 : decode jdk_42_method_149_code 73 = .ok (.return_, 1) := by decide +kernel
set_option maxRecDepth 65536 in
set_option maxHeartbeats 40000000 in
theorem cEmp4 {l : Launch} {Z : State} {a0 : Array Value} (W : Wd Z a0) {EL : List (String × Nat)} {vm : Vm} {h : Heap} {a b : Addr} {v0 c0 : Value} (hm : ("java/lang/String", 7) ∈ EL) (E : Exa Z h a "java/lang/String") (F1 : Fld Z h a "java/lang/String" "value" "[B" (v0)) (F2 : Fld Z h a "java/lang/String" "coder" "B" (c0)) (Sa : Safe Z EL vm h a) (hz : Z.heap.size ≤ a) :
    Ctr false l Z a0 EL (⟨"java/lang/String", "<init>", "([CIILjava/lang/Void;)V"⟩ : MethodName) jdk_42_method_149_code 6 none ({ frames := 1, cells := 4, slots := 8, locals := 12 } : Room) #[.ref a, .ref b, .int (0 : Int32), .int (0 : Int32), .null] vm h (fun v vm' h' => v = none ∧ Keep h h' [a] ∧ Str Z h' a []) := by
  refine Ctr.of_go (L0 := #[.val (.ref a), .val (.ref b), .val (.int (0 : Int32)), .val (.int (0 : Int32)), .val (.null), .unset]) (by first | exact plainFor_of_name (by first | (simp [plainName, overriddenIn]; done) | decide +kernel) | decide +kernel) (fun m => by first | (simp [entryFrame, mkF, argsToLocals, Value.category, maxLocals]; done) | rfl) (fun p e s m below meth c vmi chi => ?_)
  refine Go.aload_n 1 d_jdk_42_m149_0 rfl rfl rfl ?_
  refine Go.initObject 0 4 d_jdk_42_m149_1 rfl (W.1 15 rfl) (W.1 16 rfl) (W.1 17 rfl) rfl (nl rfl) (nl rfl) (nl rfl) ?_
  refine Go.iload_n 5 d_jdk_42_m149_4 rfl rfl ?_
  refine Go.ifne 27 8 d_jdk_42_m149_5 (by decide) rfl rfl (fun q1 => absurd rfl q1) (fun q1 => ?_)
  refine Go.aload_n 9 d_jdk_42_m149_8 rfl rfl rfl ?_
  refine Go.ldcS (text := "") (vs := []) (z := (0 : Int32)) 0 11 d_jdk_42_m149_9 rfl rfl (W.1 18 rfl) (W.sub (by decide +kernel)) hm lit_ok_.1 (by decide) (by decide) lit_ok_.2 (by decide) (nl rfl) (nl rfl) (fun y1 b2 k2 vm2 h2 E2 A2 C2 V2 B2 N2 c2 => ?_)
  have T2 : Str Z h2 y1 [] := ⟨b2, k2, A2, C2, V2, B2, by decide, by decide⟩
  refine Go.getfield 14 d_jdk_42_m149_11 rfl (W.1 24 rfl) V2 ?_
  have f3 := F1.ext E2
  have f4 := E.ext E2
  have f5 := CHr.safe (CHr.trans chi c2) E.lt Sa
  have L5 := Nat.lt_of_lt_of_le E.lt (CHr.trans chi c2).2.1
  refine Go.putfield 17 d_jdk_42_m149_14 rfl (W.1 24 rfl) f3 f4 (Or.inr ⟨(W.1 20 rfl), rfl, rfl⟩) (W.1 5 rfl) (ty := (.array .byte)) (by decide) rfl rfl f5 hz (fun h6 X6 S6 c6 => ?_)
  have Ea := f4.wr X6
  have G1 := f3.same X6
  have F2a := (F2.ext E2).other X6 (Or.inr (slot_ne (a0 := a0) (C := "java/lang/String") (Or.inr (W.1 21 rfl)) (Or.inr (W.1 20 rfl)) (by decide) (t := .byte) (t' := (.array .byte)) (by decide) (by decide)))
  have K1 := Arv.other B2 X6 (Ne.symm (N2 _ f5).2)
  have ba := (N2 _ f5).2
  refine Go.aload_n 18 d_jdk_42_m149_17 rfl rfl rfl ?_
  refine Go.ldcS (text := "") (vs := []) (z := (0 : Int32)) 0 20 d_jdk_42_m149_18 rfl rfl (W.1 18 rfl) (W.sub (by decide +kernel)) hm lit_ok_.1 (by decide) (by decide) lit_ok_.2 (by decide) (nl rfl) (nl rfl) (fun y2 b7 k7 vm7 h7 E7 A7 C7 V7 B7 N7 c7 => ?_)
  have T7 : Str Z h7 y2 [] := ⟨b7, k7, A7, C7, V7, B7, by decide, by decide⟩
  refine Go.getfield 23 d_jdk_42_m149_20 rfl (W.1 25 rfl) C7 ?_
  have f8 := CHr.safe c7 Ea.lt S6
  have L8 := Nat.lt_of_lt_of_le Ea.lt c7.2.1
  refine Go.putfield 26 d_jdk_42_m149_23 rfl (W.1 25 rfl) (F2a.ext E7) (Ea.ext E7) (Or.inr ⟨(W.1 21 rfl), rfl, rfl⟩) (W.1 5 rfl) (ty := .byte) (by decide) rfl rfl f8 hz (fun h9 X9 S9 c9 => ?_)
  exact Go.return_ d_jdk_42_m149_26 rfl (nl rfl) (nl rfl) (fun vm' ch => ⟨rfl, (((Keep.ofExt E2 [a]).wr X6 (Or.inl (by simp))).ext E7).wr X9 (Or.inl (by simp)), ⟨_, _, (Ea.ext E7).wr X9, (F2a.ext E7).same X9, (G1.ext E7).other X9 (Or.inr (slot_ne (a0 := a0) (C := "java/lang/String") (Or.inr (W.1 20 rfl)) (Or.inr (W.1 21 rfl)) (by decide) (t := (.array .byte)) (t' := .byte) (by decide) (by decide))), Arv.other (K1.ext E7) X9 (Ne.symm ba), by decide, fun _ q => nomatch q⟩⟩)
theorem d_jdk_42_m3_0 : decode jdk_42_method_3_code 0 = .ok (.aload_n 0, 1) := by decide +kernel
theorem d_jdk_42_m3_1 : decode jdk_42_method_3_code 1 = .ok (.aload_n 1, 1) := by decide +kernel
theorem d_jdk_42_m3_2 : decode jdk_42_method_3_code 2 = .ok (.iconst 0, 1) := by decide +kernel
theorem d_jdk_42_m3_3 : decode jdk_42_method_3_code 3 = .ok (.aload_n 1, 1) := by decide +kernel
theorem d_jdk_42_m3_4 : decode jdk_42_method_3_code 4 = .ok (.arraylength, 1) := by decide +kernel
theorem d_jdk_42_m3_5 : decode jdk_42_method_3_code 5 = .ok (.aconst_null, 1) := by decide +kernel
theorem d_jdk_42_m3_6 : decode jdk_42_method_3_code 6 = .ok (.invokespecial 27, 3) := by decide +kernel
theorem d_jdk_42_m3_9 : decode jdk_42_method_3_code 9 = .ok (.return_, 1) := by decide +kernel
set_option maxRecDepth 65536 in
set_option maxHeartbeats 40000000 in
theorem cEmp1 {l : Launch} {Z : State} {a0 : Array Value} (W : Wd Z a0) {EL : List (String × Nat)} {vm : Vm} {h : Heap} {a b : Addr} {v0 c0 dv : Value} {kC : ClassId} {vs : List Value} (hm : ("java/lang/String", 7) ∈ EL) (E : Exa Z h a "java/lang/String") (F1 : Fld Z h a "java/lang/String" "value" "[B" (v0)) (F2 : Fld Z h a "java/lang/String" "coder" "B" (c0)) (A : Arv Z h b kC .char (0 : Int32) vs dv) (Sa : Safe Z EL vm h a) (hz : Z.heap.size ≤ a) :
    Ctr false l Z a0 EL (⟨"java/lang/String", "<init>", "([C)V"⟩ : MethodName) jdk_42_method_3_code 2 none ({ frames := 2, cells := 4, slots := 8, locals := 29 } : Room) #[.ref a, .ref b] vm h (fun v vm' h' => v = none ∧ Keep h h' [a] ∧ Str Z h' a []) := by
  refine Ctr.of_go (L0 := #[.val (.ref a), .val (.ref b)]) (by first | exact plainFor_of_name (by first | (simp [plainName, overriddenIn]; done) | decide +kernel) | decide +kernel) (fun m => by first | (simp [entryFrame, mkF, argsToLocals, Value.category, maxLocals]; done) | rfl) (fun p e s m below meth c vmi chi => ?_)
  refine Go.aload_n 1 d_jdk_42_m3_0 rfl rfl rfl ?_
  refine Go.aload_n 2 d_jdk_42_m3_1 rfl rfl rfl ?_
  refine Go.iconst (0) 3 d_jdk_42_m3_2 rfl rfl ?_
  refine Go.aload_n 4 d_jdk_42_m3_3 rfl rfl rfl ?_
  refine Go.arraylength 5 d_jdk_42_m3_4 rfl A ?_
  refine Go.aconst_null 6 d_jdk_42_m3_5 rfl ?_
  refine Go.invokespecial (rest := []) 0 a [.ref b, .int (0 : Int32), .int (0 : Int32), .null] 9 d_jdk_42_m3_6 rfl rfl (W.1 11 rfl) (W.1 12 rfl) (W.1 6 rfl) (W.1 14 rfl) (by decide) (cEmp4 W hm E F1 F2 (chi.safe E.lt Sa) hz) (by decide +kernel : parseMethodDescriptor "([CIILjava/lang/Void;)V" = some ⟨[(.array .char), .int, .int, (.object "java/lang/Void")], none⟩) rfl rfl rfl (nl rfl) (nl rfl) (nl rfl) (nl rfl) (nl rfl) (fun v1 vm1 h1 ⟨rv, K, T⟩ c1 => ?_)
  subst rv
  exact Go.return_ d_jdk_42_m3_9 rfl (nl rfl) (nl rfl) (fun vm' ch => ⟨rfl, K, T⟩)
theorem d_jdk_31_m11_0 : decode jdk_31_method_11_code 0 = .ok (.aload_n 0, 1) := by decide +kernel
theorem d_jdk_31_m11_1 : decode jdk_31_method_11_code 1 = .ok (.ifnonnull 12, 3) := by decide +kernel
theorem d_jdk_31_m11_4 : decode jdk_31_method_11_code 4 = .ok (.new 84, 3) := by decide +kernel
theorem d_jdk_31_m11_7 : decode jdk_31_method_11_code 7 = .ok (.dup, 1) := by decide +kernel
theorem d_jdk_31_m11_8 : decode jdk_31_method_11_code 8 = .ok (.aload_n 1, 1) := by decide +kernel
theorem d_jdk_31_m11_9 : decode jdk_31_method_11_code 9 = .ok (.invokespecial 87, 3) := by decide +kernel
theorem d_jdk_31_m11_12 : decode jdk_31_method_11_code 12 = .ok (.athrow, 1) := by decide +kernel
theorem d_jdk_31_m11_13 : decode jdk_31_method_11_code 13 = .ok (.aload_n 0, 1) := by decide +kernel
theorem d_jdk_31_m11_14 : decode jdk_31_method_11_code 14 = .ok (.areturn, 1) := by decide +kernel
set_option maxRecDepth 65536 in
set_option maxHeartbeats 40000000 in
theorem cReq {l : Launch} {Z : State} {a0 : Array Value} (W : Wd Z a0) {EL : List (String × Nat)} {vm : Vm} {h : Heap} {nw : Bool} {a b : Addr} :
    Ctr nw l Z a0 EL (⟨"java/util/Objects", "requireNonNull", "(Ljava/lang/Object;Ljava/lang/String;)Ljava/lang/Object;"⟩ : MethodName) jdk_31_method_11_code 2 (some (.object "java/lang/Object")) ({ frames := 0, cells := 0, slots := 0, locals := 0 } : Room) #[.ref a, .ref b] vm h (fun v vm' h' => v = some (.ref a) ∧ h' = h) := by
  refine Ctr.of_go (L0 := #[.val (.ref a), .val (.ref b)]) (by first | exact plainFor_of_name (by first | (simp [plainName, overriddenIn]; done) | decide +kernel) | decide +kernel) (fun m => by first | (simp [entryFrame, mkF, argsToLocals, Value.category, maxLocals]; done) | rfl) (fun p e s m below meth c vmi chi => ?_)
  refine Go.aload_n 1 d_jdk_31_m11_0 rfl rfl rfl ?_
  refine Go.ifnonnull_y 13 d_jdk_31_m11_1 (by decide) rfl ?_
  refine Go.aload_n 14 d_jdk_31_m11_13 rfl rfl rfl ?_
  exact Go.areturn d_jdk_31_m11_14 rfl rfl rfl (nl rfl) (nl rfl) (fun vm' ch => ⟨rfl, rfl⟩)
theorem d_jdk_29_m69_0 : decode jdk_29_method_69_code 0 = .ok (.iload_n 0, 1) := by decide +kernel
theorem d_jdk_29_m69_1 : decode jdk_29_method_69_code 1 = .ok (.iload_n 1, 1) := by decide +kernel
theorem d_jdk_29_m69_2 : decode jdk_29_method_69_code 2 = .ok (.if_icmp .gt 7, 3) := by decide +kernel
theorem d_jdk_29_m69_5 : decode jdk_29_method_69_code 5 = .ok (.iload_n 0, 1) := by decide +kernel
theorem d_jdk_29_m69_6 : decode jdk_29_method_69_code 6 = .ok (.goto 4, 3) := by decide +kernel
theorem d_jdk_29_m69_9 : decode jdk_29_method_69_code 9 = .ok (.iload_n 1, 1) := by decide +kernel
theorem d_jdk_29_m69_10 : decode jdk_29_method_69_code 10 = .ok (.ireturn, 1) := by decide +kernel
set_option maxRecDepth 65536 in
set_option maxHeartbeats 40000000 in
theorem cMin {l : Launch} {Z : State} {a0 : Array Value} (W : Wd Z a0) {EL : List (String × Nat)} {vm : Vm} {h : Heap} {x_ y_ r_ : Int32} (hr : (if y_ < x_ then y_ else x_) = r_) :
    Ctr false l Z a0 EL (⟨"java/lang/Math", "min", "(II)I"⟩ : MethodName) jdk_29_method_69_code 2 (some .int) ({ frames := 0, cells := 0, slots := 0, locals := 0 } : Room) #[.int x_, .int y_] vm h (fun v vm' h' => v = some (.int r_) ∧ h' = h) := by
  refine Ctr.of_go (L0 := #[.val (.int x_), .val (.int y_)]) (by first | exact plainFor_of_name (by first | (simp [plainName, overriddenIn]; done) | decide +kernel) | decide +kernel) (fun m => by first | (simp [entryFrame, mkF, argsToLocals, Value.category, maxLocals]; done) | rfl) (fun p e s m below meth c vmi chi => ?_)
  refine Go.iload_n 1 d_jdk_29_m69_0 rfl rfl ?_
  refine Go.iload_n 2 d_jdk_29_m69_1 rfl rfl ?_
  refine Go.if_icmpgt 9 5 d_jdk_29_m69_2 (by decide) rfl rfl (fun q => ?_) (fun q => ?_)
  · refine Go.iload_n 10 d_jdk_29_m69_9 rfl rfl ?_
    exact Go.ireturn d_jdk_29_m69_10 rfl rfl (by simp) (nl rfl) (nl rfl) (fun vm' ch => ⟨by rw [← hr, if_pos q], rfl⟩)
  · refine Go.iload_n 6 d_jdk_29_m69_5 rfl rfl ?_
    refine Go.goto 10 d_jdk_29_m69_6 (by decide) rfl ?_
    exact Go.ireturn d_jdk_29_m69_10 rfl rfl (by simp) (nl rfl) (nl rfl) (fun vm' ch => ⟨by rw [← hr, if_neg q], rfl⟩)
theorem d_jdk_29_m65_0 : decode jdk_29_method_65_code 0 = .ok (.iload_n 0, 1) := by decide +kernel
theorem d_jdk_29_m65_1 : decode jdk_29_method_65_code 1 = .ok (.iload_n 1, 1) := by decide +kernel
theorem d_jdk_29_m65_2 : decode jdk_29_method_65_code 2 = .ok (.if_icmp .lt 7, 3) := by decide +kernel
theorem d_jdk_29_m65_5 : decode jdk_29_method_65_code 5 = .ok (.iload_n 0, 1) := by decide +kernel
theorem d_jdk_29_m65_6 : decode jdk_29_method_65_code 6 = .ok (.goto 4, 3) := by decide +kernel
theorem d_jdk_29_m65_9 : decode jdk_29_method_65_code 9 = .ok (.iload_n 1, 1) := by decide +kernel
theorem d_jdk_29_m65_10 : decode jdk_29_method_65_code 10 = .ok (.ireturn, 1) := by decide +kernel
set_option maxRecDepth 65536 in
set_option maxHeartbeats 40000000 in
theorem cMax {l : Launch} {Z : State} {a0 : Array Value} (W : Wd Z a0) {EL : List (String × Nat)} {vm : Vm} {h : Heap} {x_ y_ : Int32} :
    Ctr false l Z a0 EL (⟨"java/lang/Math", "max", "(II)I"⟩ : MethodName) jdk_29_method_65_code 2 (some .int) ({ frames := 0, cells := 0, slots := 0, locals := 0 } : Room) #[.int x_, .int y_] vm h (fun v vm' h' => v = some (.int (if x_ < y_ then y_ else x_)) ∧ h' = h) := by
  refine Ctr.of_go (L0 := #[.val (.int x_), .val (.int y_)]) (by first | exact plainFor_of_name (by first | (simp [plainName, overriddenIn]; done) | decide +kernel) | decide +kernel) (fun m => by first | (simp [entryFrame, mkF, argsToLocals, Value.category, maxLocals]; done) | rfl) (fun p e s m below meth c vmi chi => ?_)
  refine Go.iload_n 1 d_jdk_29_m65_0 rfl rfl ?_
  refine Go.iload_n 2 d_jdk_29_m65_1 rfl rfl ?_
  refine Go.if_icmplt 9 5 d_jdk_29_m65_2 (by decide) rfl rfl (fun q => ?_) (fun q => ?_)
  · refine Go.iload_n 10 d_jdk_29_m65_9 rfl rfl ?_
    exact Go.ireturn d_jdk_29_m65_10 rfl rfl (by simp) (nl rfl) (nl rfl) (fun vm' ch => ⟨by rw [if_pos q], rfl⟩)
  · refine Go.iload_n 6 d_jdk_29_m65_5 rfl rfl ?_
    refine Go.goto 10 d_jdk_29_m65_6 (by decide) rfl ?_
    exact Go.ireturn d_jdk_29_m65_10 rfl rfl (by simp) (nl rfl) (nl rfl) (fun vm' ch => ⟨by rw [if_neg q], rfl⟩)
theorem d_jdk_68_m2_0 : decode jdk_68_method_2_code 0 = .ok (.aload_n 0, 1) := by decide +kernel
theorem d_jdk_68_m2_1 : decode jdk_68_method_2_code 1 = .ok (.invokespecial 3, 3) := by decide +kernel
theorem d_jdk_68_m2_4 : decode jdk_68_method_2_code 4 = .ok (.getstatic 18, 3) := by decide +kernel
theorem d_jdk_68_m2_7 : decode jdk_68_method_2_code 7 = .ok (.ifCond .eq 18, 3) := by decide +kernel
theorem d_jdk_68_m2_10 : decode jdk_68_method_2_code 10 = .ok (.aload_n 0, 1) := by decide +kernel
theorem d_jdk_68_m2_11 : decode jdk_68_method_2_code 11 = .ok (.iload_n 1, 1) := by decide +kernel
theorem d_jdk_68_m2_12 : decode jdk_68_method_2_code 12 = .ok (.newarray .byte, 2) := by decide +kernel
theorem d_jdk_68_m2_14 : decode jdk_68_method_2_code 14 = .ok (.putfield 15, 3) := by decide +kernel
theorem d_jdk_68_m2_17 : decode jdk_68_method_2_code 17 = .ok (.aload_n 0, 1) := by decide +kernel
theorem d_jdk_68_m2_18 : decode jdk_68_method_2_code 18 = .ok (.iconst 0, 1) := by decide +kernel
theorem d_jdk_68_m2_19 : decode jdk_68_method_2_code 19 = .ok (.putfield 22, 3) := by decide +kernel
theorem d_jdk_68_m2_22 : decode jdk_68_method_2_code 22 = .ok (.goto 16, 3) := by decide +kernel
theorem d_jdk_68_m2_25 : decode jdk_68_method_2_code 25 = .ok (.aload_n 0, 1) := by decide +kernel
theorem d_jdk_68_m2_26 : decode jdk_68_method_2_code 26 = .ok (.iload_n 1, 1) := by decide +kernel
theorem d_jdk_68_m2_27 : decode jdk_68_method_2_code 27 = .ok (.invokestatic 26, 3) := by decide +kernel
theorem d_jdk_68_m2_30 : decode jdk_68_method_2_code 30 = .ok (.putfield 15, 3) := by decide +kernel
theorem d_jdk_68_m2_33 : decode jdk_68_method_2_code 33 = .ok (.aload_n 0, 1) := by decide +kernel
theorem d_jdk_68_m2_34 : decode jdk_68_method_2_code 34 = .ok (.iconst 1, 1) := by decide +kernel
theorem d_jdk_68_m2_35 : decode jdk_68_method_2_code 35 = .ok (.putfield 22, 3) := by decide +kernel
theorem d_jdk_68_m2_38 : decode jdk_68_method_2_code 38 = .ok (.return_, 1) := by decide +kernel
set_option maxRecDepth 65536 in
set_option maxHeartbeats 40000000 in
theorem cSbA {l : Launch} {Z : State} {a0 : Array Value} (W : Wd Z a0) {EL : List (String × Nat)} {vm : Vm} {h : Heap} {b : Addr} {v0 c0 : Value} (E : Exa Z h b "java/lang/StringBuilder") (F1 : Fld Z h b "java/lang/AbstractStringBuilder" "value" "[B" (v0)) (F2 : Fld Z h b "java/lang/AbstractStringBuilder" "coder" "B" (c0)) (F3 : Fld Z h b "java/lang/AbstractStringBuilder" "count" "I" (.int 0)) (Sa : Safe Z EL vm h b) (hz : Z.heap.size ≤ b) :
    Ctr false l Z a0 EL (⟨"java/lang/AbstractStringBuilder", "<init>", "(I)V"⟩ : MethodName) jdk_68_method_2_code 2 none ({ frames := 1, cells := 1, slots := 16, locals := 12 } : Room) #[.ref b, .int (16 : Int32)] vm h (fun v vm' h' => v = none ∧ Keep h h' [b] ∧ ∃ d kd, Bld Z h' b d kd 16 [] ∧ h.size ≤ d ∧ Safe Z EL vm' h' d) := by
  refine Ctr.of_go (L0 := #[.val (.ref b), .val (.int (16 : Int32))]) (by first | exact plainFor_of_name (by first | (simp [plainName, overriddenIn]; done) | decide +kernel) | decide +kernel) (fun m => by first | (simp [entryFrame, mkF, argsToLocals, Value.category, maxLocals]; done) | rfl) (fun p e s m below meth c vmi chi => ?_)
  refine Go.aload_n 1 d_jdk_68_m2_0 rfl rfl rfl ?_
  refine Go.initObject 0 4 d_jdk_68_m2_1 rfl (W.1 75 rfl) (W.1 16 rfl) (W.1 17 rfl) rfl (nl rfl) (nl rfl) (nl rfl) ?_
  refine Go.know fun hE1 _ _ => ?_
  obtain ⟨zc1, Cz1, hc1⟩ := W.2.1
  refine Go.getstatic 7 d_jdk_68_m2_4 rfl (W.1 76 rfl) (Cz1.ext hE1) ?_
  refine Go.ifeq 25 10 d_jdk_68_m2_7 (by decide) rfl rfl (fun q1 => absurd q1 hc1) (fun q1 => ?_)
  refine Go.aload_n 11 d_jdk_68_m2_10 rfl rfl rfl ?_
  refine Go.iload_n 12 d_jdk_68_m2_11 rfl rfl ?_
  refine Go.newarrayE (aty := .byte) (z := (Int32.ofNat 16)) (ad := "[B") (by decide +kernel) 16 14 d_jdk_68_m2_12 rfl (W.1 19 rfl) (by decide) (by decide) (by decide) (nl rfl) (nl rfl) (fun d1 h2 e2 E2 ⟨k2, B2, Y2⟩ S2 z2 c2 => ?_)
  have f3 := F1.ext E2
  have f4 := E.ext E2
  have f5 := CHr.safe (CHr.trans chi c2) E.lt Sa
  have L5 := Nat.lt_of_lt_of_le E.lt (CHr.trans chi c2).2.1
  refine Go.putfield 17 d_jdk_68_m2_14 rfl (W.1 77 rfl) f3 f4 (Or.inl (W.1 78 rfl)) (W.1 64 rfl) (ty := (.array .byte)) (by decide) rfl rfl f5 hz (fun h6 X6 S6 c6 => ?_)
  have nd : d1 ≠ b := fun q => absurd (q ▸ e2 : b = h.size) (Nat.ne_of_lt E.lt)
  have Ea := f4.wr X6
  have G1 := f3.same X6
  have G2 := (F2.ext E2).other X6 (Or.inr (slot_ne (a0 := a0) (C := "java/lang/StringBuilder") (Or.inl (W.1 80 rfl)) (Or.inl (W.1 78 rfl)) (by decide) (t := .byte) (t' := (.array .byte)) (by decide) (by decide)))
  have G3 := (F3.ext E2).other X6 (Or.inr (slot_ne (a0 := a0) (C := "java/lang/StringBuilder") (Or.inl (W.1 103 rfl)) (Or.inl (W.1 78 rfl)) (by decide) (t := .int) (t' := (.array .byte)) (by decide) (by decide)))
  have A1 := Arv.other B2 X6 nd
  have Y1 := Y2.wr X6
  refine Go.aload_n 18 d_jdk_68_m2_17 rfl rfl rfl ?_
  refine Go.iconst (0) 19 d_jdk_68_m2_18 rfl rfl ?_
  refine Go.putfield 22 d_jdk_68_m2_19 rfl (W.1 79 rfl) G2 Ea (Or.inl (W.1 80 rfl)) (W.1 64 rfl) (ty := .byte) (by decide) rfl rfl S6 hz (fun h7 X7 S7 c7 => ?_)
  refine Go.goto 38 d_jdk_68_m2_22 (by decide) rfl ?_
  have A2 := Arv.other A1 X7 nd
  have f8 := CHr.safe (CHr.trans c6 c7) B2.lt S2
  have L8 := Nat.lt_of_lt_of_le B2.lt (CHr.trans c6 c7).2.1
  exact Go.return_ d_jdk_68_m2_38 rfl (nl rfl) (nl rfl) (fun vm' ch => ⟨rfl, ((Keep.ofExt E2 [b]).wr X6 (Or.inl (by simp))).wr X7 (Or.inl (by simp)), d1, k2, ⟨Ea.wr X7, G2.same X7, G1.other X7 (Or.inr (slot_ne (a0 := a0) (C := "java/lang/StringBuilder") (Or.inl (W.1 78 rfl)) (Or.inl (W.1 80 rfl)) (by decide) (t := (.array .byte)) (t' := .byte) (by decide) (by decide))), G3.other X7 (Or.inr (slot_ne (a0 := a0) (C := "java/lang/StringBuilder") (Or.inl (W.1 103 rfl)) (Or.inl (W.1 80 rfl)) (by decide) (t := .int) (t' := .byte) (by decide) (by decide))), A2, ⟨Y1.wr X7, Or.inl rfl⟩, by decide, fun _ q => nomatch q⟩, Nat.le_of_eq e2.symm, ch.safe A2.lt f8⟩)
theorem d_jdk_67_m1_0 : decode jdk_67_method_1_code 0 = .ok (.aload_n 0, 1) := by decide +kernel
theorem d_jdk_67_m1_1 : decode jdk_67_method_1_code 1 = .ok (.bipush 16, 2) := by decide +kernel
theorem d_jdk_67_m1_3 : decode jdk_67_method_1_code 3 = .ok (.invokespecial 1, 3) := by decide +kernel
theorem d_jdk_67_m1_6 : decode jdk_67_method_1_code 6 = .ok (.return_, 1) := by decide +kernel
set_option maxRecDepth 65536 in
set_option maxHeartbeats 40000000 in
theorem cSb0 {l : Launch} {Z : State} {a0 : Array Value} (W : Wd Z a0) {EL : List (String × Nat)} {vm : Vm} {h : Heap} {b : Addr} {v0 c0 : Value} (E : Exa Z h b "java/lang/StringBuilder") (F1 : Fld Z h b "java/lang/AbstractStringBuilder" "value" "[B" (v0)) (F2 : Fld Z h b "java/lang/AbstractStringBuilder" "coder" "B" (c0)) (F3 : Fld Z h b "java/lang/AbstractStringBuilder" "count" "I" (.int 0)) (Sa : Safe Z EL vm h b) (hz : Z.heap.size ≤ b) :
    Ctr false l Z a0 EL (⟨"java/lang/StringBuilder", "<init>", "()V"⟩ : MethodName) jdk_67_method_1_code 1 none ({ frames := 2, cells := 1, slots := 16, locals := 25 } : Room) #[.ref b] vm h (fun v vm' h' => v = none ∧ Keep h h' [b] ∧ ∃ d kd, Bld Z h' b d kd 16 [] ∧ h.size ≤ d ∧ Safe Z EL vm' h' d) := by
  refine Ctr.of_go (L0 := #[.val (.ref b)]) (by first | exact plainFor_of_name (by first | (simp [plainName, overriddenIn]; done) | decide +kernel) | decide +kernel) (fun m => by first | (simp [entryFrame, mkF, argsToLocals, Value.category, maxLocals]; done) | rfl) (fun p e s m below meth c vmi chi => ?_)
  refine Go.aload_n 1 d_jdk_67_m1_0 rfl rfl rfl ?_
  refine Go.bipush (16) 3 d_jdk_67_m1_1 rfl rfl ?_
  refine Go.invokespecial (rest := []) 0 b [.int (16 : Int32)] 6 d_jdk_67_m1_3 rfl rfl (W.1 69 rfl) (W.1 70 rfl) (W.1 73 rfl) (W.1 74 rfl) (by decide) (cSbA W E F1 F2 F3 (chi.safe E.lt Sa) hz) (by decide +kernel : parseMethodDescriptor "(I)V" = some ⟨[.int], none⟩) rfl rfl rfl (nl rfl) (nl rfl) (nl rfl) (nl rfl) (nl rfl) (fun v1 vm1 h1 ⟨rv, K, d, kd, B, hd, Sd⟩ c1 => ?_)
  subst rv
  exact Go.return_ d_jdk_67_m1_6 rfl (nl rfl) (nl rfl) (fun vm' ch => ⟨rfl, K, d, kd, B, hd, ch.safe B.ar.lt Sd⟩)
theorem d_jdk_65_m121_0 : decode jdk_65_method_121_code 0 = .ok (.iload_n 1, 1) := by decide +kernel
theorem d_jdk_65_m121_1 : decode jdk_65_method_121_code 1 = .ok (.aload_n 0, 1) := by decide +kernel
theorem d_jdk_65_m121_2 : decode jdk_65_method_121_code 2 = .ok (.arraylength, 1) := by decide +kernel
theorem d_jdk_65_m121_3 : decode jdk_65_method_121_code 3 = .ok (.if_icmp .ne 11, 3) := by decide +kernel
theorem d_jdk_65_m121_6 : decode jdk_65_method_121_code 6 = .ok (.aload_n 0, 1) := by decide +kernel
theorem d_jdk_65_m121_7 : decode jdk_65_method_121_code 7 = .ok (.invokevirtual 310, 3) := by decide +kernel
theorem d_jdk_65_m121_10 : decode jdk_65_method_121_code 10 = .ok (.checkcast 311, 3) := by decide +kernel
theorem d_jdk_65_m121_13 : decode jdk_65_method_121_code 13 = .ok (.areturn, 1) := by decide +kernel
theorem d_jdk_65_m121_14 : decode jdk_65_method_121_code 14 = .ok (.iload_n 1, 1) := by decide +kernel
theorem d_jdk_65_m121_15 : decode jdk_65_method_121_code 15 = .ok (.newarray .byte, 2) := by decide +kernel
theorem d_jdk_65_m121_17 : decode jdk_65_method_121_code 17 = .ok (.astore_n 2, 1) := by decide +kernel
theorem d_jdk_65_m121_18 : decode jdk_65_method_121_code 18 = .ok (.aload_n 0, 1) := by decide +kernel
theorem d_jdk_65_m121_19 : decode jdk_65_method_121_code 19 = .ok (.iconst 0, 1) := by decide +kernel
theorem d_jdk_65_m121_20 : decode jdk_65_method_121_code 20 = .ok (.aload_n 2, 1) := by decide +kernel
theorem d_jdk_65_m121_21 : decode jdk_65_method_121_code 21 = .ok (.iconst 0, 1) := by decide +kernel
theorem d_jdk_65_m121_22 : decode jdk_65_method_121_code 22 = .ok (.aload_n 0, 1) := by decide +kernel
theorem d_jdk_65_m121_23 : decode jdk_65_method_121_code 23 = .ok (.arraylength, 1) := by decide +kernel
theorem d_jdk_65_m121_24 : decode jdk_65_method_121_code 24 = .ok (.iload_n 1, 1) := by decide +kernel
theorem d_jdk_65_m121_25 : decode jdk_65_method_121_code 25 = .ok (.invokestatic 304, 3) := by decide +kernel
theorem d_jdk_65_m121_28 : decode jdk_65_method_121_code 28 = .ok (.invokestatic 150, 3) := by decide +kernel
theorem d_jdk_65_m121_31 : decode jdk_65_method_121_code 31 = .ok (.aload_n 2, 1) := by decide +kernel
theorem d_jdk_65_m121_32 : decode jdk_65_method_121_code 32 = .ok (.areturn, 1) := by decide +kernel
set_option maxRecDepth 65536 in
set_option maxHeartbeats 40000000 in
theorem cCpy {l : Launch} {Z : State} {a0 : Array Value} (W : Wd Z a0) {EL : List (String × Nat)} {vm : Vm} {h : Heap} {d : Addr} {kd : ClassId} {vs : List Value} (A : Arv Z h d kd .byte (Int32.ofNat 16) vs (.int 0)) (hl : vs.length ≤ 16) :
    Ctr false l Z a0 EL (⟨"java/util/Arrays", "copyOf", "([BI)[B"⟩ : MethodName) jdk_65_method_121_code 3 (some (.array .byte)) ({ frames := 1, cells := 1, slots := 34, locals := 18 } : Room) #[.ref d, .int (34 : Int32)] vm h (fun v vm' h' => ∃ r kr, v = some (.ref r) ∧ Ext h h' ∧ Arv Z h' r kr .byte (Int32.ofNat 34) vs (.int 0) ∧ Exa Z h' r "[B" ∧ h.size ≤ r ∧ Safe Z EL vm' h' r) := by
  refine Ctr.of_go (L0 := #[.val (.ref d), .val (.int (34 : Int32)), .unset]) (by first | exact plainFor_of_name (by first | (simp [plainName, overriddenIn]; done) | decide +kernel) | decide +kernel) (fun m => by first | (simp [entryFrame, mkF, argsToLocals, Value.category, maxLocals]; done) | rfl) (fun p e s m below meth c vmi chi => ?_)
  refine Go.iload_n 1 d_jdk_65_m121_0 rfl rfl ?_
  refine Go.aload_n 2 d_jdk_65_m121_1 rfl rfl rfl ?_
  refine Go.arraylength 3 d_jdk_65_m121_2 rfl A ?_
  refine Go.if_icmpne 14 6 d_jdk_65_m121_3 (by decide) rfl rfl (fun q1 => ?_) (fun q1 => absurd q1 (by decide))
  refine Go.iload_n 15 d_jdk_65_m121_14 rfl rfl ?_
  refine Go.newarrayE (aty := .byte) (z := (Int32.ofNat 34)) (ad := "[B") (by decide +kernel) 34 17 d_jdk_65_m121_15 rfl (W.1 19 rfl) (by decide) (by decide) (by decide) (nl rfl) (nl rfl) (fun r1 h2 e2 E2 ⟨k2, B2, Y2⟩ S2 z2 c2 => ?_)
  refine Go.astore_n #[.val (.ref d), .val (.int (34 : Int32)), .val (.ref r1)] 18 d_jdk_65_m121_17 rfl rfl rfl ?_
  refine Go.aload_n 19 d_jdk_65_m121_18 rfl rfl rfl ?_
  refine Go.iconst (0) 20 d_jdk_65_m121_19 rfl rfl ?_
  refine Go.aload_n 21 d_jdk_65_m121_20 rfl rfl rfl ?_
  refine Go.iconst (0) 22 d_jdk_65_m121_21 rfl rfl ?_
  refine Go.aload_n 23 d_jdk_65_m121_22 rfl rfl rfl ?_
  have f3 := A.ext E2
  refine Go.arraylength 24 d_jdk_65_m121_23 rfl f3 ?_
  refine Go.iload_n 25 d_jdk_65_m121_24 rfl rfl ?_
  refine Go.invokestatic (rest := [.int (0 : Int32), .ref r1, .int (0 : Int32), .ref d]) 4 [.int (Int32.ofNat 16), .int (34 : Int32)] 28 d_jdk_65_m121_25 rfl (W.1 188 rfl) (W.1 189 rfl) (W.1 190 rfl) (W.1 191 rfl) (by decide) (cMin W (r_ := Int32.ofNat 16) (by decide)) (by decide +kernel : parseMethodDescriptor "(II)I" = some ⟨[.int, .int], (some .int)⟩) rfl rfl rfl (nl rfl) (nl rfl) (nl rfl) (nl rfl) (nl rfl) (fun v4 vm4 h4 ⟨rv, hh⟩ c4 => ?_)
  subst rv; replace hh := hh.symm; subst hh
  have f5 := CHr.safe c4 B2.lt S2
  have L5 := Nat.lt_of_lt_of_le B2.lt c4.2.1
  refine Go.acopy 0 0 16 vs 31 d_jdk_65_m121_28 rfl (W.1 192 rfl) (W.1 128 rfl) (W.1 126 rfl) (W.1 127 rfl) f3 B2 (by decide) (by decide) (cp_get hl) rfl rfl (nl rfl) (nl rfl) f5 z2 (fun hc9 K9 A9 S9 cc9 => ?_)
  refine Go.aload_n 32 d_jdk_65_m121_31 rfl rfl rfl ?_
  exact Go.areturn d_jdk_65_m121_32 rfl rfl rfl (nl rfl) (nl rfl) (fun vm' ch => ⟨r1, k2, rfl, Ext.kp1 E2 K9 e2, A9, Y2.keep K9, Nat.le_of_eq e2.symm, ch.safe A9.lt S9⟩)
theorem d_jdk_48_m27_0 : decode jdk_48_method_27_code 0 = .ok (.iload_n 0, 1) := by decide +kernel
theorem d_jdk_48_m27_1 : decode jdk_48_method_27_code 1 = .ok (.iload_n 1, 1) := by decide +kernel
theorem d_jdk_48_m27_2 : decode jdk_48_method_27_code 2 = .ok (.iload_n 2, 1) := by decide +kernel
theorem d_jdk_48_m27_3 : decode jdk_48_method_27_code 3 = .ok (.invokestatic 194, 3) := by decide +kernel
theorem d_jdk_48_m27_6 : decode jdk_48_method_27_code 6 = .ok (.iadd, 1) := by decide +kernel
theorem d_jdk_48_m27_7 : decode jdk_48_method_27_code 7 = .ok (.istore_n 3, 1) := by decide +kernel
theorem d_jdk_48_m27_8 : decode jdk_48_method_27_code 8 = .ok (.iconst 0, 1) := by decide +kernel
theorem d_jdk_48_m27_9 : decode jdk_48_method_27_code 9 = .ok (.iload_n 3, 1) := by decide +kernel
theorem d_jdk_48_m27_10 : decode jdk_48_method_27_code 10 = .ok (.if_icmp .ge 11, 3) := by decide +kernel
theorem d_jdk_48_m27_13 : decode jdk_48_method_27_code 13 = .ok (.iload_n 3, 1) := by decide +kernel
theorem d_jdk_48_m27_14 : decode jdk_48_method_27_code 14 = .ok (.ldc 200, 2) := by decide +kernel
theorem d_jdk_48_m27_16 : decode jdk_48_method_27_code 16 = .ok (.if_icmp .gt 5, 3) := by decide +kernel
theorem d_jdk_48_m27_19 : decode jdk_48_method_27_code 19 = .ok (.iload_n 3, 1) := by decide +kernel
theorem d_jdk_48_m27_20 : decode jdk_48_method_27_code 20 = .ok (.ireturn, 1) := by decide +kernel
theorem d_jdk_48_m27_21 : decode jdk_48_method_27_code 21 = .ok (.iload_n 0, 1) := by decide +kernel
theorem d_jdk_48_m27_22 : decode jdk_48_method_27_code 22 = .ok (.iload_n 1, 1) := by decide +kernel
theorem d_jdk_48_m27_23 : decode jdk_48_method_27_code 23 = .ok (.invokestatic 201, 3) := by decide +kernel
theorem d_jdk_48_m27_26 : decode jdk_48_method_27_code 26 = .ok (.ireturn, 1) := by decide +kernel
set_option maxRecDepth 65536 in
set_option maxHeartbeats 40000000 in
theorem cNL {l : Launch} {Z : State} {a0 : Array Value} (W : Wd Z a0) {EL : List (String × Nat)} {vm : Vm} {h : Heap} {g_ : Int32} (hm : Int32.ofNat 16 + (if g_ < (18 : Int32) then (18 : Int32) else g_) = 34) :
    Ctr false l Z a0 EL (⟨"jdk/internal/util/ArraysSupport", "newLength", "(III)I"⟩ : MethodName) jdk_48_method_27_code 4 (some .int) ({ frames := 1, cells := 0, slots := 0, locals := 14 } : Room) #[.int (Int32.ofNat 16), .int g_, .int (18 : Int32)] vm h (fun v vm' h' => v = some (.int 34) ∧ h' = h) := by
  refine Ctr.of_go (L0 := #[.val (.int (Int32.ofNat 16)), .val (.int g_), .val (.int (18 : Int32)), .unset]) (by first | exact plainFor_of_name (by first | (simp [plainName, overriddenIn]; done) | decide +kernel) | decide +kernel) (fun m => by first | (simp [entryFrame, mkF, argsToLocals, Value.category, maxLocals]; done) | rfl) (fun p e s m below meth c vmi chi => ?_)
  refine Go.iload_n 1 d_jdk_48_m27_0 rfl rfl ?_
  refine Go.iload_n 2 d_jdk_48_m27_1 rfl rfl ?_
  refine Go.iload_n 3 d_jdk_48_m27_2 rfl rfl ?_
  refine Go.invokestatic (rest := [.int (Int32.ofNat 16)]) 1 [.int g_, .int (18 : Int32)] 6 d_jdk_48_m27_3 rfl (W.1 244 rfl) (W.1 245 rfl) (W.1 190 rfl) (W.1 246 rfl) (by decide) (cMax W ) (by decide +kernel : parseMethodDescriptor "(II)I" = some ⟨[.int, .int], (some .int)⟩) rfl rfl rfl (nl rfl) (nl rfl) (nl rfl) (nl rfl) (nl rfl) (fun v1 vm1 h1 ⟨rv, hh⟩ c1 => ?_)
  subst rv; replace hh := hh.symm; subst hh
  refine Go.iadd (34 : Int32) 7 d_jdk_48_m27_6 rfl hm ?_
  refine Go.istore_n #[.val (.int (Int32.ofNat 16)), .val (.int g_), .val (.int (18 : Int32)), .val (.int (34 : Int32))] 8 d_jdk_48_m27_7 rfl rfl ?_
  refine Go.iconst (0) 9 d_jdk_48_m27_8 rfl rfl ?_
  refine Go.iload_n 10 d_jdk_48_m27_9 rfl rfl ?_
  refine Go.if_icmpge 21 13 d_jdk_48_m27_10 (by decide) rfl rfl (fun q2 => absurd (by decide) q2) (fun q2 => ?_)
  refine Go.iload_n 14 d_jdk_48_m27_13 rfl rfl ?_
  refine Go.ldcI (W.1 247 rfl) 16 d_jdk_48_m27_14 rfl ?_
  refine Go.if_icmpgt 21 19 d_jdk_48_m27_16 (by decide) rfl rfl (fun q3 => absurd q3 (by decide)) (fun q3 => ?_)
  refine Go.iload_n 20 d_jdk_48_m27_19 rfl rfl ?_
  exact Go.ireturn d_jdk_48_m27_20 rfl rfl (by simp) (nl rfl) (nl rfl) (fun vm' ch => ⟨rfl, rfl⟩)
theorem d_jdk_68_m10_0 : decode jdk_68_method_10_code 0 = .ok (.aload_n 0, 1) := by decide +kernel
theorem d_jdk_68_m10_1 : decode jdk_68_method_10_code 1 = .ok (.getfield 15, 3) := by decide +kernel
theorem d_jdk_68_m10_4 : decode jdk_68_method_10_code 4 = .ok (.arraylength, 1) := by decide +kernel
theorem d_jdk_68_m10_5 : decode jdk_68_method_10_code 5 = .ok (.istore_n 2, 1) := by decide +kernel
theorem d_jdk_68_m10_6 : decode jdk_68_method_10_code 6 = .ok (.iload_n 1, 1) := by decide +kernel
theorem d_jdk_68_m10_7 : decode jdk_68_method_10_code 7 = .ok (.aload_n 0, 1) := by decide +kernel
theorem d_jdk_68_m10_8 : decode jdk_68_method_10_code 8 = .ok (.getfield 22, 3) := by decide +kernel
theorem d_jdk_68_m10_11 : decode jdk_68_method_10_code 11 = .ok (.ishl, 1) := by decide +kernel
theorem d_jdk_68_m10_12 : decode jdk_68_method_10_code 12 = .ok (.istore_n 3, 1) := by decide +kernel
theorem d_jdk_68_m10_13 : decode jdk_68_method_10_code 13 = .ok (.iload_n 3, 1) := by decide +kernel
theorem d_jdk_68_m10_14 : decode jdk_68_method_10_code 14 = .ok (.iload_n 2, 1) := by decide +kernel
theorem d_jdk_68_m10_15 : decode jdk_68_method_10_code 15 = .ok (.isub, 1) := by decide +kernel
theorem d_jdk_68_m10_16 : decode jdk_68_method_10_code 16 = .ok (.istore 4, 2) := by decide +kernel
theorem d_jdk_68_m10_18 : decode jdk_68_method_10_code 18 = .ok (.iload_n 2, 1) := by decide +kernel
theorem d_jdk_68_m10_19 : decode jdk_68_method_10_code 19 = .ok (.iload 4, 2) := by decide +kernel
theorem d_jdk_68_m10_21 : decode jdk_68_method_10_code 21 = .ok (.iload_n 2, 1) := by decide +kernel
theorem d_jdk_68_m10_22 : decode jdk_68_method_10_code 22 = .ok (.iconst 2, 1) := by decide +kernel
theorem d_jdk_68_m10_23 : decode jdk_68_method_10_code 23 = .ok (.aload_n 0, 1) := by decide +kernel
theorem d_jdk_68_m10_24 : decode jdk_68_method_10_code 24 = .ok (.getfield 22, 3) := by decide +kernel
theorem d_jdk_68_m10_27 : decode jdk_68_method_10_code 27 = .ok (.ishl, 1) := by decide +kernel
theorem d_jdk_68_m10_28 : decode jdk_68_method_10_code 28 = .ok (.iadd, 1) := by decide +kernel
theorem d_jdk_68_m10_29 : decode jdk_68_method_10_code 29 = .ok (.invokestatic 114, 3) := by decide +kernel
theorem d_jdk_68_m10_32 : decode jdk_68_method_10_code 32 = .ok (.istore 5, 2) := by decide +kernel
theorem d_jdk_68_m10_34 : decode jdk_68_method_10_code 34 = .ok (.iload 5, 2) := by decide +kernel
theorem d_jdk_68_m10_36 : decode jdk_68_method_10_code 36 = .ok (.ldc 39, 2) := by decide +kernel
theorem d_jdk_68_m10_38 : decode jdk_68_method_10_code 38 = .ok (.if_icmp .ne 13, 3) := by decide +kernel
theorem d_jdk_68_m10_41 : decode jdk_68_method_10_code 41 = .ok (.new 120, 3) := by decide +kernel
theorem d_jdk_68_m10_44 : decode jdk_68_method_10_code 44 = .ok (.dup, 1) := by decide +kernel
theorem d_jdk_68_m10_45 : decode jdk_68_method_10_code 45 = .ok (.ldc 122, 2) := by decide +kernel
theorem d_jdk_68_m10_47 : decode jdk_68_method_10_code 47 = .ok (.invokespecial 124, 3) := by decide +kernel
theorem d_jdk_68_m10_50 : decode jdk_68_method_10_code 50 = .ok (.athrow, 1) := by decide +kernel
theorem d_jdk_68_m10_51 : decode jdk_68_method_10_code 51 = .ok (.iload 5, 2) := by decide +kernel
theorem d_jdk_68_m10_53 : decode jdk_68_method_10_code 53 = .ok (.aload_n 0, 1) := by decide +kernel
theorem d_jdk_68_m10_54 : decode jdk_68_method_10_code 54 = .ok (.getfield 22, 3) := by decide +kernel
theorem d_jdk_68_m10_57 : decode jdk_68_method_10_code 57 = .ok (.ishr, 1) := by decide +kernel
theorem d_jdk_68_m10_58 : decode jdk_68_method_10_code 58 = .ok (.ireturn, 1) := by decide +kernel
set_option maxRecDepth 65536 in
set_option maxHeartbeats 40000000 in
theorem cNC {l : Launch} {Z : State} {a0 : Array Value} (W : Wd Z a0) {EL : List (String × Nat)} {vm : Vm} {h : Heap} {n_ : Nat} (h1 : 16 < n_) (h2 : n_ < 35) {b d : Addr} {kd : ClassId} {ds : List Int32} (B : Bld Z h b d kd 16 ds) :
    Ctr false l Z a0 EL (⟨"java/lang/AbstractStringBuilder", "newCapacity", "(I)I"⟩ : MethodName) jdk_68_method_10_code 6 (some .int) ({ frames := 2, cells := 0, slots := 0, locals := 29 } : Room) #[.ref b, .int (Int32.ofNat n_)] vm h (fun v vm' h' => v = some (.int 34) ∧ h' = h) := by
  refine Ctr.of_go (L0 := #[.val (.ref b), .val (.int (Int32.ofNat n_)), .unset, .unset, .unset, .unset]) (by first | exact plainFor_of_name (by first | (simp [plainName, overriddenIn]; done) | decide +kernel) | decide +kernel) (fun m => by first | (simp [entryFrame, mkF, argsToLocals, Value.category, maxLocals]; done) | rfl) (fun p e s m below meth c vmi chi => ?_)
  refine Go.aload_n 1 d_jdk_68_m10_0 rfl rfl rfl ?_
  refine Go.getfield 4 d_jdk_68_m10_1 rfl (W.1 77 rfl) B.va ?_
  refine Go.arraylength 5 d_jdk_68_m10_4 rfl B.ar ?_
  refine Go.istore_n #[.val (.ref b), .val (.int (Int32.ofNat n_)), .val (.int (Int32.ofNat 16)), .unset, .unset, .unset] 6 d_jdk_68_m10_5 rfl rfl ?_
  refine Go.iload_n 7 d_jdk_68_m10_6 rfl rfl ?_
  refine Go.aload_n 8 d_jdk_68_m10_7 rfl rfl rfl ?_
  refine Go.getfield 11 d_jdk_68_m10_8 rfl (W.1 79 rfl) B.co ?_
  refine Go.ishl (Int32.ofNat n_) 12 d_jdk_68_m10_11 rfl (shl0 _) ?_
  refine Go.istore_n #[.val (.ref b), .val (.int (Int32.ofNat n_)), .val (.int (Int32.ofNat 16)), .val (.int (Int32.ofNat n_)), .unset, .unset] 13 d_jdk_68_m10_12 rfl rfl ?_
  refine Go.iload_n 14 d_jdk_68_m10_13 rfl rfl ?_
  refine Go.iload_n 15 d_jdk_68_m10_14 rfl rfl ?_
  refine Go.isub ((Int32.ofNat n_) - (Int32.ofNat 16)) 16 d_jdk_68_m10_15 rfl rfl ?_
  refine Go.istore #[.val (.ref b), .val (.int (Int32.ofNat n_)), .val (.int (Int32.ofNat 16)), .val (.int (Int32.ofNat n_)), .val (.int ((Int32.ofNat n_) - (Int32.ofNat 16))), .unset] 18 d_jdk_68_m10_16 rfl rfl ?_
  refine Go.iload_n 19 d_jdk_68_m10_18 rfl rfl ?_
  refine Go.iload 21 d_jdk_68_m10_19 rfl rfl ?_
  refine Go.iload_n 22 d_jdk_68_m10_21 rfl rfl ?_
  refine Go.iconst (2) 23 d_jdk_68_m10_22 rfl rfl ?_
  refine Go.aload_n 24 d_jdk_68_m10_23 rfl rfl rfl ?_
  refine Go.getfield 27 d_jdk_68_m10_24 rfl (W.1 79 rfl) B.co ?_
  refine Go.ishl (2 : Int32) 28 d_jdk_68_m10_27 rfl (by decide) ?_
  refine Go.iadd (18 : Int32) 29 d_jdk_68_m10_28 rfl (by decide) ?_
  refine Go.invokestatic (rest := []) 0 [.int (Int32.ofNat 16), .int ((Int32.ofNat n_) - (Int32.ofNat 16)), .int (18 : Int32)] 32 d_jdk_68_m10_29 rfl (W.1 240 rfl) (W.1 241 rfl) (W.1 242 rfl) (W.1 243 rfl) (by decide) (cNL W (grow16 ⟨n_, h2⟩ h1).2) (by decide +kernel : parseMethodDescriptor "(III)I" = some ⟨[.int, .int, .int], (some .int)⟩) rfl rfl rfl (nl rfl) (nl rfl) (nl rfl) (nl rfl) (nl rfl) (fun v1 vm1 h1 ⟨rv, hh⟩ c1 => ?_)
  subst rv; replace hh := hh.symm; subst hh
  refine Go.istore #[.val (.ref b), .val (.int (Int32.ofNat n_)), .val (.int (Int32.ofNat 16)), .val (.int (Int32.ofNat n_)), .val (.int ((Int32.ofNat n_) - (Int32.ofNat 16))), .val (.int (34 : Int32))] 34 d_jdk_68_m10_32 rfl rfl ?_
  refine Go.iload 36 d_jdk_68_m10_34 rfl rfl ?_
  refine Go.ldcI (W.1 248 rfl) 38 d_jdk_68_m10_36 rfl ?_
  refine Go.if_icmpne 51 41 d_jdk_68_m10_38 (by decide) rfl rfl (fun q2 => ?_) (fun q2 => absurd q2 (by decide))
  refine Go.iload 53 d_jdk_68_m10_51 rfl rfl ?_
  refine Go.aload_n 54 d_jdk_68_m10_53 rfl rfl rfl ?_
  refine Go.getfield 57 d_jdk_68_m10_54 rfl (W.1 79 rfl) B.co ?_
  refine Go.ishr (34 : Int32) 58 d_jdk_68_m10_57 rfl (by decide) ?_
  exact Go.ireturn d_jdk_68_m10_58 rfl rfl (by simp) (nl rfl) (nl rfl) (fun vm' ch => ⟨rfl, rfl⟩)
theorem d_jdk_68_m9_0 : decode jdk_68_method_9_code 0 = .ok (.aload_n 0, 1) := by decide +kernel
theorem d_jdk_68_m9_1 : decode jdk_68_method_9_code 1 = .ok (.getfield 15, 3) := by decide +kernel
theorem d_jdk_68_m9_4 : decode jdk_68_method_9_code 4 = .ok (.arraylength, 1) := by decide +kernel
theorem d_jdk_68_m9_5 : decode jdk_68_method_9_code 5 = .ok (.aload_n 0, 1) := by decide +kernel
theorem d_jdk_68_m9_6 : decode jdk_68_method_9_code 6 = .ok (.getfield 22, 3) := by decide +kernel
theorem d_jdk_68_m9_9 : decode jdk_68_method_9_code 9 = .ok (.ishr, 1) := by decide +kernel
theorem d_jdk_68_m9_10 : decode jdk_68_method_9_code 10 = .ok (.istore_n 2, 1) := by decide +kernel
theorem d_jdk_68_m9_11 : decode jdk_68_method_9_code 11 = .ok (.iload_n 1, 1) := by decide +kernel
theorem d_jdk_68_m9_12 : decode jdk_68_method_9_code 12 = .ok (.iload_n 2, 1) := by decide +kernel
theorem d_jdk_68_m9_13 : decode jdk_68_method_9_code 13 = .ok (.isub, 1) := by decide +kernel
theorem d_jdk_68_m9_14 : decode jdk_68_method_9_code 14 = .ok (.ifCond .le 24, 3) := by decide +kernel
theorem d_jdk_68_m9_17 : decode jdk_68_method_9_code 17 = .ok (.aload_n 0, 1) := by decide +kernel
theorem d_jdk_68_m9_18 : decode jdk_68_method_9_code 18 = .ok (.aload_n 0, 1) := by decide +kernel
theorem d_jdk_68_m9_19 : decode jdk_68_method_9_code 19 = .ok (.getfield 15, 3) := by decide +kernel
theorem d_jdk_68_m9_22 : decode jdk_68_method_9_code 22 = .ok (.aload_n 0, 1) := by decide +kernel
theorem d_jdk_68_m9_23 : decode jdk_68_method_9_code 23 = .ok (.iload_n 1, 1) := by decide +kernel
theorem d_jdk_68_m9_24 : decode jdk_68_method_9_code 24 = .ok (.invokevirtual 104, 3) := by decide +kernel
theorem d_jdk_68_m9_27 : decode jdk_68_method_9_code 27 = .ok (.aload_n 0, 1) := by decide +kernel
theorem d_jdk_68_m9_28 : decode jdk_68_method_9_code 28 = .ok (.getfield 22, 3) := by decide +kernel
theorem d_jdk_68_m9_31 : decode jdk_68_method_9_code 31 = .ok (.ishl, 1) := by decide +kernel
theorem d_jdk_68_m9_32 : decode jdk_68_method_9_code 32 = .ok (.invokestatic 108, 3) := by decide +kernel
theorem d_jdk_68_m9_35 : decode jdk_68_method_9_code 35 = .ok (.putfield 15, 3) := by decide +kernel
theorem d_jdk_68_m9_38 : decode jdk_68_method_9_code 38 = .ok (.return_, 1) := by decide +kernel
set_option maxRecDepth 65536 in
set_option maxHeartbeats 40000000 in
theorem cEns {l : Launch} {Z : State} {a0 : Array Value} (W : Wd Z a0) {EL : List (String × Nat)} {vm : Vm} {h : Heap} {n_ : Nat} (hn : n_ ≤ 34) {b d : Addr} {kd : ClassId} {cap : Nat} {ds : List Int32} (B : Bld Z h b d kd cap ds) (Sb : Safe Z EL vm h b) (zb : Z.heap.size ≤ b) (Sd : Safe Z EL vm h d) (hz : Z.heap.size ≤ d) (nd : d ≠ b) :
    Ctr false l Z a0 EL (⟨"java/lang/AbstractStringBuilder", "ensureCapacityInternal", "(I)V"⟩ : MethodName) jdk_68_method_9_code 3 none ({ frames := 3, cells := 1, slots := 34, locals := 48 } : Room) #[.ref b, .int (Int32.ofNat n_)] vm h (fun v vm' h' => v = none ∧ Keep h h' [b] ∧ ∃ d' kd' cap', n_ ≤ cap' ∧ Bld Z h' b d' kd' cap' ds ∧ (d' = d ∨ h.size ≤ d') ∧ Safe Z EL vm' h' d') := by
  refine Ctr.of_go (L0 := #[.val (.ref b), .val (.int (Int32.ofNat n_)), .unset]) (by first | exact plainFor_of_name (by first | (simp [plainName, overriddenIn]; done) | decide +kernel) | decide +kernel) (fun m => by first | (simp [entryFrame, mkF, argsToLocals, Value.category, maxLocals]; done) | rfl) (fun p e s m below meth c vmi chi => ?_)
  rcases B.cp with rfl | rfl
  · by_cases hq : n_ ≤ 16
    · refine Go.aload_n 1 d_jdk_68_m9_0 rfl rfl rfl ?_
      refine Go.getfield 4 d_jdk_68_m9_1 rfl (W.1 77 rfl) B.va ?_
      refine Go.arraylength 5 d_jdk_68_m9_4 rfl B.ar ?_
      refine Go.aload_n 6 d_jdk_68_m9_5 rfl rfl rfl ?_
      refine Go.getfield 9 d_jdk_68_m9_6 rfl (W.1 79 rfl) B.co ?_
      refine Go.ishr (Int32.ofNat 16) 10 d_jdk_68_m9_9 rfl (by decide) ?_
      refine Go.istore_n #[.val (.ref b), .val (.int (Int32.ofNat n_)), .val (.int (Int32.ofNat 16))] 11 d_jdk_68_m9_10 rfl rfl ?_
      refine Go.iload_n 12 d_jdk_68_m9_11 rfl rfl ?_
      refine Go.iload_n 13 d_jdk_68_m9_12 rfl rfl ?_
      refine Go.isub ((Int32.ofNat n_) - (Int32.ofNat 16)) 14 d_jdk_68_m9_13 rfl rfl ?_
      refine Go.ifle 38 17 d_jdk_68_m9_14 (by decide) rfl rfl (fun q1 => ?_) (fun q1 => absurd q1 (ensN ⟨n_, by omega⟩))
      have f2 := CHr.safe chi B.ar.lt Sd
      have L2 := Nat.lt_of_lt_of_le B.ar.lt chi.2.1
      exact Go.return_ d_jdk_68_m9_38 rfl (nl rfl) (nl rfl) (fun vm' ch => ⟨rfl, Keep.refl h [b], d, kd, 16, hq, B, Or.inl rfl, ch.safe B.ar.lt f2⟩)
    · refine Go.aload_n 1 d_jdk_68_m9_0 rfl rfl rfl ?_
      refine Go.getfield 4 d_jdk_68_m9_1 rfl (W.1 77 rfl) B.va ?_
      refine Go.arraylength 5 d_jdk_68_m9_4 rfl B.ar ?_
      refine Go.aload_n 6 d_jdk_68_m9_5 rfl rfl rfl ?_
      refine Go.getfield 9 d_jdk_68_m9_6 rfl (W.1 79 rfl) B.co ?_
      refine Go.ishr (Int32.ofNat 16) 10 d_jdk_68_m9_9 rfl (by decide) ?_
      refine Go.istore_n #[.val (.ref b), .val (.int (Int32.ofNat n_)), .val (.int (Int32.ofNat 16))] 11 d_jdk_68_m9_10 rfl rfl ?_
      refine Go.iload_n 12 d_jdk_68_m9_11 rfl rfl ?_
      refine Go.iload_n 13 d_jdk_68_m9_12 rfl rfl ?_
      refine Go.isub ((Int32.ofNat n_) - (Int32.ofNat 16)) 14 d_jdk_68_m9_13 rfl rfl ?_
      refine Go.ifle 38 17 d_jdk_68_m9_14 (by decide) rfl rfl (fun q3 => absurd (grow16 ⟨n_, by omega⟩ (by show 16 < n_; omega)).1 q3) (fun q3 => ?_)
      refine Go.aload_n 18 d_jdk_68_m9_17 rfl rfl rfl ?_
      refine Go.aload_n 19 d_jdk_68_m9_18 rfl rfl rfl ?_
      refine Go.getfield 22 d_jdk_68_m9_19 rfl (W.1 77 rfl) B.va ?_
      refine Go.aload_n 23 d_jdk_68_m9_22 rfl rfl rfl ?_
      refine Go.iload_n 24 d_jdk_68_m9_23 rfl rfl ?_
      refine Go.invokevirtual (rest := [.ref d, .ref b]) 2 b [.int (Int32.ofNat n_)] 27 d_jdk_68_m9_24 rfl B.e (W.1 235 rfl) (declares_of (W.1 236 rfl) (W.1 239 rfl)) (fun s hs => notFace_of_selects (args := #[]) (mvT hs (W.1 238 rfl))) (W.1 238 rfl) (W.1 236 rfl) (W.1 73 rfl) (W.1 239 rfl) (by decide) (cNC W (by omega) (by omega) B) (by decide +kernel : parseMethodDescriptor "(I)I" = some ⟨[.int], (some .int)⟩) rfl rfl rfl (nl rfl) (nl rfl) (nl rfl) (nl rfl) (nl rfl) (fun v4 vm4 h4 ⟨rv, hh⟩ c4 => ?_)
      subst rv; replace hh := hh.symm; subst hh
      refine Go.aload_n 28 d_jdk_68_m9_27 rfl rfl rfl ?_
      refine Go.getfield 31 d_jdk_68_m9_28 rfl (W.1 79 rfl) B.co ?_
      refine Go.ishl (34 : Int32) 32 d_jdk_68_m9_31 rfl (by decide) ?_
      refine Go.invokestatic (rest := [.ref b]) 1 [.ref d, .int (34 : Int32)] 35 d_jdk_68_m9_32 rfl (W.1 249 rfl) (W.1 250 rfl) (W.1 180 rfl) (W.1 251 rfl) (by decide) (cCpy W B.ar (by simp only [List.length_map]; exact B.le)) (by decide +kernel : parseMethodDescriptor "([BI)[B" = some ⟨[(.array .byte), .int], (some (.array .byte))⟩) rfl rfl rfl (nl rfl) (nl rfl) (nl rfl) (nl rfl) (nl rfl) (fun v5 vm5 h5 ⟨r, kr, rv, E, A, Y, hr, Sr⟩ c5 => ?_)
      subst rv
      have f6 := CHr.safe (CHr.trans chi (CHr.trans c4 c5)) B.e.lt Sb
      have L6 := Nat.lt_of_lt_of_le B.e.lt (CHr.trans chi (CHr.trans c4 c5)).2.1
      refine Go.putfield 38 d_jdk_68_m9_35 rfl (W.1 77 rfl) (B.va.ext E) (B.e.ext E) (Or.inl (W.1 78 rfl)) (W.1 64 rfl) (ty := (.array .byte)) (by decide) rfl rfl f6 zb (fun h7 X7 S7 c7 => ?_)
      have nr : r ≠ b := (ne_of_new B.e.lt hr).symm
      have A1 := Arv.other A X7 nr
      have f8 := CHr.safe c7 A.lt Sr
      have L8 := Nat.lt_of_lt_of_le A.lt c7.2.1
      exact Go.return_ d_jdk_68_m9_38 rfl (nl rfl) (nl rfl) (fun vm' ch => ⟨rfl, (Keep.ofExt E [b]).wr X7 (Or.inl (by simp)), r, kr, 34, hn, ⟨(B.e.ext E).wr X7, (B.co.ext E).other X7 (Or.inr (slot_ne (a0 := a0) (C := "java/lang/StringBuilder") (Or.inl (W.1 80 rfl)) (Or.inl (W.1 78 rfl)) (by decide) (t := .byte) (t' := (.array .byte)) (by decide) (by decide))), (B.va.ext E).same X7, (B.ct.ext E).other X7 (Or.inr (slot_ne (a0 := a0) (C := "java/lang/StringBuilder") (Or.inl (W.1 103 rfl)) (Or.inl (W.1 78 rfl)) (by decide) (t := .int) (t' := (.array .byte)) (by decide) (by decide))), A1, ⟨Y.wr X7, Or.inr rfl⟩, Nat.le_trans B.le (by decide), B.ch⟩, Or.inr hr, ch.safe A1.lt f8⟩)
  · refine Go.aload_n 1 d_jdk_68_m9_0 rfl rfl rfl ?_
    refine Go.getfield 4 d_jdk_68_m9_1 rfl (W.1 77 rfl) B.va ?_
    refine Go.arraylength 5 d_jdk_68_m9_4 rfl B.ar ?_
    refine Go.aload_n 6 d_jdk_68_m9_5 rfl rfl rfl ?_
    refine Go.getfield 9 d_jdk_68_m9_6 rfl (W.1 79 rfl) B.co ?_
    refine Go.ishr (Int32.ofNat 34) 10 d_jdk_68_m9_9 rfl (by decide) ?_
    refine Go.istore_n #[.val (.ref b), .val (.int (Int32.ofNat n_)), .val (.int (Int32.ofNat 34))] 11 d_jdk_68_m9_10 rfl rfl ?_
    refine Go.iload_n 12 d_jdk_68_m9_11 rfl rfl ?_
    refine Go.iload_n 13 d_jdk_68_m9_12 rfl rfl ?_
    refine Go.isub ((Int32.ofNat n_) - (Int32.ofNat 34)) 14 d_jdk_68_m9_13 rfl rfl ?_
    refine Go.ifle 38 17 d_jdk_68_m9_14 (by decide) rfl rfl (fun q9 => ?_) (fun q9 => absurd q9 (ensM ⟨n_, by omega⟩))
    have f10 := CHr.safe chi B.ar.lt Sd
    have L10 := Nat.lt_of_lt_of_le B.ar.lt chi.2.1
    exact Go.return_ d_jdk_68_m9_38 rfl (nl rfl) (nl rfl) (fun vm' ch => ⟨rfl, Keep.refl h [b], d, kd, 34, hn, B, Or.inl rfl, ch.safe B.ar.lt f10⟩)
theorem d_jdk_68_m68_0 : decode jdk_68_method_68_code 0 = .ok (.getstatic 18, 3) := by decide +kernel
theorem d_jdk_68_m68_3 : decode jdk_68_method_68_code 3 = .ok (.ifCond .eq 14, 3) := by decide +kernel
theorem d_jdk_68_m68_6 : decode jdk_68_method_68_code 6 = .ok (.aload_n 0, 1) := by decide +kernel
theorem d_jdk_68_m68_7 : decode jdk_68_method_68_code 7 = .ok (.getfield 22, 3) := by decide +kernel
theorem d_jdk_68_m68_10 : decode jdk_68_method_68_code 10 = .ok (.ifCond .ne 7, 3) := by decide +kernel
theorem d_jdk_68_m68_13 : decode jdk_68_method_68_code 13 = .ok (.iconst 1, 1) := by decide +kernel
theorem d_jdk_68_m68_14 : decode jdk_68_method_68_code 14 = .ok (.goto 4, 3) := by decide +kernel
theorem d_jdk_68_m68_17 : decode jdk_68_method_68_code 17 = .ok (.iconst 0, 1) := by decide +kernel
theorem d_jdk_68_m68_18 : decode jdk_68_method_68_code 18 = .ok (.ireturn, 1) := by decide +kernel
set_option maxRecDepth 65536 in
set_option maxHeartbeats 40000000 in
theorem cIsL {l : Launch} {Z : State} {a0 : Array Value} (W : Wd Z a0) {EL : List (String × Nat)} {vm : Vm} {h : Heap} {b d : Addr} {kd : ClassId} {cap : Nat} {ds : List Int32} (B : Bld Z h b d kd cap ds) :
    Ctr false l Z a0 EL (⟨"java/lang/AbstractStringBuilder", "isLatin1", "()Z"⟩ : MethodName) jdk_68_method_68_code 1 (some .boolean) ({ frames := 0, cells := 0, slots := 0, locals := 0 } : Room) #[.ref b] vm h (fun v vm' h' => v = some (.int 1) ∧ h' = h) := by
  refine Ctr.of_go (L0 := #[.val (.ref b)]) (by first | exact plainFor_of_name (by first | (simp [plainName, overriddenIn]; done) | decide +kernel) | decide +kernel) (fun m => by first | (simp [entryFrame, mkF, argsToLocals, Value.category, maxLocals]; done) | rfl) (fun p e s m below meth c vmi chi => ?_)
  refine Go.know fun hE1 _ _ => ?_
  obtain ⟨zc1, Cz1, hc1⟩ := W.2.1
  refine Go.getstatic 3 d_jdk_68_m68_0 rfl (W.1 76 rfl) (Cz1.ext hE1) ?_
  refine Go.ifeq 17 6 d_jdk_68_m68_3 (by decide) rfl rfl (fun q1 => absurd q1 hc1) (fun q1 => ?_)
  refine Go.aload_n 7 d_jdk_68_m68_6 rfl rfl rfl ?_
  refine Go.getfield 10 d_jdk_68_m68_7 rfl (W.1 79 rfl) B.co ?_
  refine Go.ifne 17 13 d_jdk_68_m68_10 (by decide) rfl rfl (fun q2 => absurd rfl q2) (fun q2 => ?_)
  refine Go.iconst (1) 14 d_jdk_68_m68_13 rfl rfl ?_
  refine Go.goto 18 d_jdk_68_m68_14 (by decide) rfl ?_
  exact Go.ireturn d_jdk_68_m68_18 rfl rfl (by simp) (nl rfl) (nl rfl) (fun vm' ch => ⟨rfl, rfl⟩)
theorem d_jdk_42_m152_0 : decode jdk_42_method_152_code 0 = .ok (.getstatic 38, 3) := by decide +kernel
theorem d_jdk_42_m152_3 : decode jdk_42_method_152_code 3 = .ok (.ifCond .eq 10, 3) := by decide +kernel
theorem d_jdk_42_m152_6 : decode jdk_42_method_152_code 6 = .ok (.aload_n 0, 1) := by decide +kernel
theorem d_jdk_42_m152_7 : decode jdk_42_method_152_code 7 = .ok (.getfield 15, 3) := by decide +kernel
theorem d_jdk_42_m152_10 : decode jdk_42_method_152_code 10 = .ok (.goto 4, 3) := by decide +kernel
theorem d_jdk_42_m152_13 : decode jdk_42_method_152_code 13 = .ok (.iconst 1, 1) := by decide +kernel
theorem d_jdk_42_m152_14 : decode jdk_42_method_152_code 14 = .ok (.ireturn, 1) := by decide +kernel
set_option maxRecDepth 65536 in
set_option maxHeartbeats 40000000 in
theorem cCod {l : Launch} {Z : State} {a0 : Array Value} (W : Wd Z a0) {EL : List (String × Nat)} {vm : Vm} {h : Heap} {a : Addr} {cs : List Int32} (T : Str Z h a cs) :
    Ctr false l Z a0 EL (⟨"java/lang/String", "coder", "()B"⟩ : MethodName) jdk_42_method_152_code 1 (some .byte) ({ frames := 0, cells := 0, slots := 0, locals := 0 } : Room) #[.ref a] vm h (fun v vm' h' => v = some (.int 0) ∧ h' = h) := by
  refine Ctr.of_go (L0 := #[.val (.ref a)]) (by first | exact plainFor_of_name (by first | (simp [plainName, overriddenIn]; done) | decide +kernel) | decide +kernel) (fun m => by first | (simp [entryFrame, mkF, argsToLocals, Value.category, maxLocals]; done) | rfl) (fun p e s m below meth c vmi chi => ?_)
  obtain ⟨b_, kb_, t1, t2, t3, t4, t5, t6⟩ := T
  refine Go.know fun hE1 _ _ => ?_
  obtain ⟨zc1, Cz1, hc1⟩ := W.2.1
  refine Go.getstatic 3 d_jdk_42_m152_0 rfl (W.1 101 rfl) (Cz1.ext hE1) ?_
  refine Go.ifeq 13 6 d_jdk_42_m152_3 (by decide) rfl rfl (fun q1 => absurd q1 hc1) (fun q1 => ?_)
  refine Go.aload_n 7 d_jdk_42_m152_6 rfl rfl rfl ?_
  refine Go.getfield 10 d_jdk_42_m152_7 rfl (W.1 25 rfl) t2 ?_
  refine Go.goto 14 d_jdk_42_m152_10 (by decide) rfl ?_
  exact Go.ireturn d_jdk_42_m152_14 rfl rfl (by simp) (nl rfl) (nl rfl) (fun vm' ch => ⟨rfl, rfl⟩)
theorem d_jdk_68_m71_0 : decode jdk_68_method_71_code 0 = .ok (.getstatic 18, 3) := by decide +kernel
theorem d_jdk_68_m71_3 : decode jdk_68_method_71_code 3 = .ok (.ifCond .eq 18, 3) := by decide +kernel
theorem d_jdk_68_m71_6 : decode jdk_68_method_71_code 6 = .ok (.aload_n 0, 1) := by decide +kernel
theorem d_jdk_68_m71_7 : decode jdk_68_method_71_code 7 = .ok (.getfield 22, 3) := by decide +kernel
theorem d_jdk_68_m71_10 : decode jdk_68_method_71_code 10 = .ok (.aload_n 1, 1) := by decide +kernel
theorem d_jdk_68_m71_11 : decode jdk_68_method_71_code 11 = .ok (.invokevirtual 40, 3) := by decide +kernel
theorem d_jdk_68_m71_14 : decode jdk_68_method_71_code 14 = .ok (.if_icmp .eq 7, 3) := by decide +kernel
theorem d_jdk_68_m71_17 : decode jdk_68_method_71_code 17 = .ok (.aload_n 0, 1) := by decide +kernel
theorem d_jdk_68_m71_18 : decode jdk_68_method_71_code 18 = .ok (.invokevirtual 195, 3) := by decide +kernel
theorem d_jdk_68_m71_21 : decode jdk_68_method_71_code 21 = .ok (.return_, 1) := by decide +kernel
set_option maxRecDepth 65536 in
set_option maxHeartbeats 40000000 in
theorem cInf {l : Launch} {Z : State} {a0 : Array Value} (W : Wd Z a0) {EL : List (String × Nat)} {vm : Vm} {h : Heap} {a : Addr} {cs : List Int32} (T : Str Z h a cs) {b d : Addr} {kd : ClassId} {cap : Nat} {ds : List Int32} (B : Bld Z h b d kd cap ds) :
    Ctr false l Z a0 EL (⟨"java/lang/AbstractStringBuilder", "inflateIfNeededFor", "(Ljava/lang/String;)V"⟩ : MethodName) jdk_68_method_71_code 2 none ({ frames := 1, cells := 0, slots := 0, locals := 13 } : Room) #[.ref b, .ref a] vm h (fun v vm' h' => v = none ∧ h' = h) := by
  refine Ctr.of_go (L0 := #[.val (.ref b), .val (.ref a)]) (by first | exact plainFor_of_name (by first | (simp [plainName, overriddenIn]; done) | decide +kernel) | decide +kernel) (fun m => by first | (simp [entryFrame, mkF, argsToLocals, Value.category, maxLocals]; done) | rfl) (fun p e s m below meth c vmi chi => ?_)
  refine Go.know fun hE1 _ _ => ?_
  obtain ⟨zc1, Cz1, hc1⟩ := W.2.1
  refine Go.getstatic 3 d_jdk_68_m71_0 rfl (W.1 76 rfl) (Cz1.ext hE1) ?_
  refine Go.ifeq 21 6 d_jdk_68_m71_3 (by decide) rfl rfl (fun q1 => absurd q1 hc1) (fun q1 => ?_)
  refine Go.aload_n 7 d_jdk_68_m71_6 rfl rfl rfl ?_
  refine Go.getfield 10 d_jdk_68_m71_7 rfl (W.1 79 rfl) B.co ?_
  refine Go.aload_n 11 d_jdk_68_m71_10 rfl rfl rfl ?_
  refine Go.invokevirtual (rest := [.int (0 : Int32)]) 1 a [] 14 d_jdk_68_m71_11 rfl T.exa (W.1 119 rfl) (W.1 97 rfl) (fun s hs => notFace_of_selects (args := #[]) (mvT hs (W.1 99 rfl))) (W.1 99 rfl) (W.1 98 rfl) (W.1 6 rfl) (W.1 100 rfl) (by decide) (cCod W T) (by decide +kernel : parseMethodDescriptor "()B" = some ⟨[], (some .byte)⟩) rfl rfl rfl (nl rfl) (nl rfl) (nl rfl) (nl rfl) (nl rfl) (fun v2 vm2 h2 ⟨rv, hh⟩ c2 => ?_)
  subst rv; replace hh := hh.symm; subst hh
  refine Go.if_icmpeq 21 17 d_jdk_68_m71_14 (by decide) rfl rfl (fun q3 => ?_) (fun q3 => absurd rfl q3)
  exact Go.return_ d_jdk_68_m71_21 rfl (nl rfl) (nl rfl) (fun vm' ch => ⟨rfl, rfl⟩)
theorem d_jdk_42_m147_0 : decode jdk_42_method_147_code 0 = .ok (.aload_n 0, 1) := by decide +kernel
theorem d_jdk_42_m147_1 : decode jdk_42_method_147_code 1 = .ok (.invokevirtual 335, 3) := by decide +kernel
theorem d_jdk_42_m147_4 : decode jdk_42_method_147_code 4 = .ok (.iload_n 3, 1) := by decide +kernel
theorem d_jdk_42_m147_5 : decode jdk_42_method_147_code 5 = .ok (.if_icmp .ne 23, 3) := by decide +kernel
theorem d_jdk_42_m147_8 : decode jdk_42_method_147_code 8 = .ok (.aload_n 0, 1) := by decide +kernel
theorem d_jdk_42_m147_9 : decode jdk_42_method_147_code 9 = .ok (.getfield 9, 3) := by decide +kernel
theorem d_jdk_42_m147_12 : decode jdk_42_method_147_code 12 = .ok (.iconst 0, 1) := by decide +kernel
theorem d_jdk_42_m147_13 : decode jdk_42_method_147_code 13 = .ok (.aload_n 1, 1) := by decide +kernel
theorem d_jdk_42_m147_14 : decode jdk_42_method_147_code 14 = .ok (.iload_n 2, 1) := by decide +kernel
theorem d_jdk_42_m147_15 : decode jdk_42_method_147_code 15 = .ok (.iload_n 3, 1) := by decide +kernel
theorem d_jdk_42_m147_16 : decode jdk_42_method_147_code 16 = .ok (.ishl, 1) := by decide +kernel
theorem d_jdk_42_m147_17 : decode jdk_42_method_147_code 17 = .ok (.aload_n 0, 1) := by decide +kernel
theorem d_jdk_42_m147_18 : decode jdk_42_method_147_code 18 = .ok (.getfield 9, 3) := by decide +kernel
theorem d_jdk_42_m147_21 : decode jdk_42_method_147_code 21 = .ok (.arraylength, 1) := by decide +kernel
theorem d_jdk_42_m147_22 : decode jdk_42_method_147_code 22 = .ok (.invokestatic 212, 3) := by decide +kernel
theorem d_jdk_42_m147_25 : decode jdk_42_method_147_code 25 = .ok (.goto 18, 3) := by decide +kernel
theorem d_jdk_42_m147_28 : decode jdk_42_method_147_code 28 = .ok (.aload_n 0, 1) := by decide +kernel
theorem d_jdk_42_m147_29 : decode jdk_42_method_147_code 29 = .ok (.getfield 9, 3) := by decide +kernel
theorem d_jdk_42_m147_32 : decode jdk_42_method_147_code 32 = .ok (.iconst 0, 1) := by decide +kernel
theorem d_jdk_42_m147_33 : decode jdk_42_method_147_code 33 = .ok (.aload_n 1, 1) := by decide +kernel
theorem d_jdk_42_m147_34 : decode jdk_42_method_147_code 34 = .ok (.iload_n 2, 1) := by decide +kernel
theorem d_jdk_42_m147_35 : decode jdk_42_method_147_code 35 = .ok (.aload_n 0, 1) := by decide +kernel
theorem d_jdk_42_m147_36 : decode jdk_42_method_147_code 36 = .ok (.getfield 9, 3) := by decide +kernel
theorem d_jdk_42_m147_39 : decode jdk_42_method_147_code 39 = .ok (.arraylength, 1) := by decide +kernel
theorem d_jdk_42_m147_40 : decode jdk_42_method_147_code 40 = .ok (.invokestatic 106, 3) := by decide +kernel
theorem d_jdk_42_m147_43 : decode jdk_42_method_147_code 43 = .ok (.return_, 1) := by decide +kernel
set_option maxRecDepth 65536 in
set_option maxHeartbeats 40000000 in
theorem cGB {l : Launch} {Z : State} {a0 : Array Value} (W : Wd Z a0) {EL : List (String × Nat)} {vm : Vm} {h : Heap} {a d : Addr} {kd : ClassId} {cap : Nat} {ds cs : List Int32} (T : Str Z h a cs) (A : Arv Z h d kd .byte (Int32.ofNat cap) ((ds.map fun (c : Int32) => c.toInt8.toInt32).map Value.int) (.int 0)) (hl : ds.length + cs.length ≤ cap) (hc : cap ≤ 34) (Sd : Safe Z EL vm h d) (hz : Z.heap.size ≤ d) :
    Ctr false l Z a0 EL (⟨"java/lang/String", "getBytes", "([BIB)V"⟩ : MethodName) jdk_42_method_147_code 4 none ({ frames := 1, cells := 0, slots := 0, locals := 18 } : Room) #[.ref a, .ref d, .int (Int32.ofNat ds.length), .int (0 : Int32)] vm h (fun v vm' h' => v = none ∧ Keep h h' [d] ∧ Arv Z h' d kd .byte (Int32.ofNat cap) (((ds ++ cs).map fun (c : Int32) => c.toInt8.toInt32).map Value.int) (.int 0)) := by
  refine Ctr.of_go (L0 := #[.val (.ref a), .val (.ref d), .val (.int (Int32.ofNat ds.length)), .val (.int (0 : Int32))]) (by first | exact plainFor_of_name (by first | (simp [plainName, overriddenIn]; done) | decide +kernel) | decide +kernel) (fun m => by first | (simp [entryFrame, mkF, argsToLocals, Value.category, maxLocals]; done) | rfl) (fun p e s m below meth c vmi chi => ?_)
  refine Go.aload_n 1 d_jdk_42_m147_0 rfl rfl rfl ?_
  refine Go.invokevirtual (rest := []) 0 a [] 4 d_jdk_42_m147_1 rfl T.exa (W.1 96 rfl) (W.1 97 rfl) (fun s hs => notFace_of_selects (args := #[]) (mvT hs (W.1 99 rfl))) (W.1 99 rfl) (W.1 98 rfl) (W.1 6 rfl) (W.1 100 rfl) (by decide) (cCod W T) (by decide +kernel : parseMethodDescriptor "()B" = some ⟨[], (some .byte)⟩) rfl rfl rfl (nl rfl) (nl rfl) (nl rfl) (nl rfl) (nl rfl) (fun v1 vm1 h1 ⟨rv, hh⟩ c1 => ?_)
  subst rv; replace hh := hh.symm; subst hh
  refine Go.iload_n 5 d_jdk_42_m147_4 rfl rfl ?_
  refine Go.if_icmpne 28 8 d_jdk_42_m147_5 (by decide) rfl rfl (fun q2 => absurd rfl q2) (fun q2 => ?_)
  refine Go.aload_n 9 d_jdk_42_m147_8 rfl rfl rfl ?_
  obtain ⟨b_, kb_, t1, t2, t3, t4, t5, t6⟩ := T
  refine Go.getfield 12 d_jdk_42_m147_9 rfl (W.1 24 rfl) t3 ?_
  refine Go.iconst (0) 13 d_jdk_42_m147_12 rfl rfl ?_
  refine Go.aload_n 14 d_jdk_42_m147_13 rfl rfl rfl ?_
  refine Go.iload_n 15 d_jdk_42_m147_14 rfl rfl ?_
  refine Go.iload_n 16 d_jdk_42_m147_15 rfl rfl ?_
  refine Go.ishl (Int32.ofNat ds.length) 17 d_jdk_42_m147_16 rfl (shl0 _) ?_
  refine Go.aload_n 18 d_jdk_42_m147_17 rfl rfl rfl ?_
  refine Go.getfield 21 d_jdk_42_m147_18 rfl (W.1 24 rfl) t3 ?_
  refine Go.arraylength 22 d_jdk_42_m147_21 rfl t4 ?_
  have f3 := CHr.safe (CHr.trans chi c1) A.lt Sd
  have L3 := Nat.lt_of_lt_of_le A.lt (CHr.trans chi c1).2.1
  refine Go.acopy 0 ds.length cs.length (((ds ++ cs).map fun (c : Int32) => c.toInt8.toInt32).map Value.int) 25 d_jdk_42_m147_22 rfl (W.1 125 rfl) (W.1 128 rfl) (W.1 126 rfl) (W.1 127 rfl) t4 A (by rw [clampN (by omega)]; omega) (by rw [clampN (by omega)]; omega) (fun i _ => app_get ds cs i) rfl rfl (nl rfl) (nl rfl) f3 hz (fun hc9 K9 A9 S9 cc9 => ?_)
  refine Go.goto 43 d_jdk_42_m147_25 (by decide) rfl ?_
  exact Go.return_ d_jdk_42_m147_43 rfl (nl rfl) (nl rfl) (fun vm' ch => ⟨rfl, K9, A9⟩)
theorem d_jdk_68_m73_0 : decode jdk_68_method_73_code 0 = .ok (.aload_n 0, 1) := by decide +kernel
theorem d_jdk_68_m73_1 : decode jdk_68_method_73_code 1 = .ok (.aload_n 2, 1) := by decide +kernel
theorem d_jdk_68_m73_2 : decode jdk_68_method_73_code 2 = .ok (.invokevirtual 397, 3) := by decide +kernel
theorem d_jdk_68_m73_5 : decode jdk_68_method_73_code 5 = .ok (.aload_n 2, 1) := by decide +kernel
theorem d_jdk_68_m73_6 : decode jdk_68_method_73_code 6 = .ok (.aload_n 0, 1) := by decide +kernel
theorem d_jdk_68_m73_7 : decode jdk_68_method_73_code 7 = .ok (.getfield 15, 3) := by decide +kernel
theorem d_jdk_68_m73_10 : decode jdk_68_method_73_code 10 = .ok (.iload_n 1, 1) := by decide +kernel
theorem d_jdk_68_m73_11 : decode jdk_68_method_73_code 11 = .ok (.aload_n 0, 1) := by decide +kernel
theorem d_jdk_68_m73_12 : decode jdk_68_method_73_code 12 = .ok (.getfield 22, 3) := by decide +kernel
theorem d_jdk_68_m73_15 : decode jdk_68_method_73_code 15 = .ok (.invokevirtual 399, 3) := by decide +kernel
theorem d_jdk_68_m73_18 : decode jdk_68_method_73_code 18 = .ok (.return_, 1) := by decide +kernel
set_option maxRecDepth 65536 in
set_option maxHeartbeats 40000000 in
theorem cPut {l : Launch} {Z : State} {a0 : Array Value} (W : Wd Z a0) {EL : List (String × Nat)} {vm : Vm} {h : Heap} {a : Addr} {cs : List Int32} (T : Str Z h a cs) {b d : Addr} {kd : ClassId} {cap : Nat} {ds : List Int32} (B : Bld Z h b d kd cap ds) (hl : ds.length + cs.length ≤ cap) (Sd : Safe Z EL vm h d) (hz : Z.heap.size ≤ d) :
    Ctr false l Z a0 EL (⟨"java/lang/AbstractStringBuilder", "putStringAt", "(ILjava/lang/String;)V"⟩ : MethodName) jdk_68_method_73_code 3 none ({ frames := 2, cells := 0, slots := 0, locals := 33 } : Room) #[.ref b, .int (Int32.ofNat ds.length), .ref a] vm h (fun v vm' h' => v = none ∧ Keep h h' [d] ∧ Arv Z h' d kd .byte (Int32.ofNat cap) (((ds ++ cs).map fun (c : Int32) => c.toInt8.toInt32).map Value.int) (.int 0)) := by
  refine Ctr.of_go (L0 := #[.val (.ref b), .val (.int (Int32.ofNat ds.length)), .val (.ref a)]) (by first | exact plainFor_of_name (by first | (simp [plainName, overriddenIn]; done) | decide +kernel) | decide +kernel) (fun m => by first | (simp [entryFrame, mkF, argsToLocals, Value.category, maxLocals]; done) | rfl) (fun p e s m below meth c vmi chi => ?_)
  refine Go.aload_n 1 d_jdk_68_m73_0 rfl rfl rfl ?_
  refine Go.aload_n 2 d_jdk_68_m73_1 rfl rfl rfl ?_
  refine Go.invokevirtual (rest := []) 0 b [.ref a] 5 d_jdk_68_m73_2 rfl B.e (W.1 114 rfl) (declares_of (W.1 115 rfl) (W.1 118 rfl)) (fun s hs => notFace_of_selects (args := #[]) (mvT hs (W.1 117 rfl))) (W.1 117 rfl) (W.1 115 rfl) (W.1 73 rfl) (W.1 118 rfl) (by decide) (cInf W T B) (by decide +kernel : parseMethodDescriptor "(Ljava/lang/String;)V" = some ⟨[(.object "java/lang/String")], none⟩) rfl rfl rfl (nl rfl) (nl rfl) (nl rfl) (nl rfl) (nl rfl) (fun v1 vm1 h1 ⟨rv, hh⟩ c1 => ?_)
  subst rv; replace hh := hh.symm; subst hh
  refine Go.aload_n 6 d_jdk_68_m73_5 rfl rfl rfl ?_
  refine Go.aload_n 7 d_jdk_68_m73_6 rfl rfl rfl ?_
  refine Go.getfield 10 d_jdk_68_m73_7 rfl (W.1 77 rfl) B.va ?_
  refine Go.iload_n 11 d_jdk_68_m73_10 rfl rfl ?_
  refine Go.aload_n 12 d_jdk_68_m73_11 rfl rfl rfl ?_
  refine Go.getfield 15 d_jdk_68_m73_12 rfl (W.1 79 rfl) B.co ?_
  have f2 := CHr.safe (CHr.trans chi c1) B.ar.lt Sd
  have L2 := Nat.lt_of_lt_of_le B.ar.lt (CHr.trans chi c1).2.1
  refine Go.invokevirtual (rest := []) 0 a [.ref d, .int (Int32.ofNat ds.length), .int (0 : Int32)] 18 d_jdk_68_m73_15 rfl T.exa (W.1 120 rfl) (W.1 121 rfl) (fun s hs => notFace_of_selects (args := #[]) (mvT hs (W.1 123 rfl))) (W.1 123 rfl) (W.1 122 rfl) (W.1 6 rfl) (W.1 124 rfl) (by decide) (cGB W T B.ar hl B.c34 f2 hz) (by decide +kernel : parseMethodDescriptor "([BIB)V" = some ⟨[(.array .byte), .int, .byte], none⟩) rfl rfl rfl (nl rfl) (nl rfl) (nl rfl) (nl rfl) (nl rfl) (fun v3 vm3 h3 ⟨rv, K, A⟩ c3 => ?_)
  subst rv
  exact Go.return_ d_jdk_68_m73_18 rfl (nl rfl) (nl rfl) (fun vm' ch => ⟨rfl, K, A⟩)
theorem d_jdk_68_m22_0 : decode jdk_68_method_22_code 0 = .ok (.aload_n 1, 1) := by decide +kernel
theorem d_jdk_68_m22_1 : decode jdk_68_method_22_code 1 = .ok (.ifnonnull 8, 3) := by decide +kernel
theorem d_jdk_68_m22_4 : decode jdk_68_method_22_code 4 = .ok (.aload_n 0, 1) := by decide +kernel
theorem d_jdk_68_m22_5 : decode jdk_68_method_22_code 5 = .ok (.invokevirtual 204, 3) := by decide +kernel
theorem d_jdk_68_m22_8 : decode jdk_68_method_22_code 8 = .ok (.areturn, 1) := by decide +kernel
theorem d_jdk_68_m22_9 : decode jdk_68_method_22_code 9 = .ok (.aload_n 1, 1) := by decide +kernel
theorem d_jdk_68_m22_10 : decode jdk_68_method_22_code 10 = .ok (.invokevirtual 32, 3) := by decide +kernel
theorem d_jdk_68_m22_13 : decode jdk_68_method_22_code 13 = .ok (.istore_n 2, 1) := by decide +kernel
theorem d_jdk_68_m22_14 : decode jdk_68_method_22_code 14 = .ok (.aload_n 0, 1) := by decide +kernel
theorem d_jdk_68_m22_15 : decode jdk_68_method_22_code 15 = .ok (.aload_n 0, 1) := by decide +kernel
theorem d_jdk_68_m22_16 : decode jdk_68_method_22_code 16 = .ok (.getfield 79, 3) := by decide +kernel
theorem d_jdk_68_m22_19 : decode jdk_68_method_22_code 19 = .ok (.iload_n 2, 1) := by decide +kernel
theorem d_jdk_68_m22_20 : decode jdk_68_method_22_code 20 = .ok (.iadd, 1) := by decide +kernel
theorem d_jdk_68_m22_21 : decode jdk_68_method_22_code 21 = .ok (.invokevirtual 100, 3) := by decide +kernel
theorem d_jdk_68_m22_24 : decode jdk_68_method_22_code 24 = .ok (.aload_n 0, 1) := by decide +kernel
theorem d_jdk_68_m22_25 : decode jdk_68_method_22_code 25 = .ok (.aload_n 0, 1) := by decide +kernel
theorem d_jdk_68_m22_26 : decode jdk_68_method_22_code 26 = .ok (.getfield 79, 3) := by decide +kernel
theorem d_jdk_68_m22_29 : decode jdk_68_method_22_code 29 = .ok (.aload_n 1, 1) := by decide +kernel
theorem d_jdk_68_m22_30 : decode jdk_68_method_22_code 30 = .ok (.invokevirtual 208, 3) := by decide +kernel
theorem d_jdk_68_m22_33 : decode jdk_68_method_22_code 33 = .ok (.aload_n 0, 1) := by decide +kernel
theorem d_jdk_68_m22_34 : decode jdk_68_method_22_code 34 = .ok (.dup, 1) := by decide +kernel
theorem d_jdk_68_m22_35 : decode jdk_68_method_22_code 35 = .ok (.getfield 79, 3) := by decide +kernel
theorem d_jdk_68_m22_38 : decode jdk_68_method_22_code 38 = .ok (.iload_n 2, 1) := by decide +kernel
theorem d_jdk_68_m22_39 : decode jdk_68_method_22_code 39 = .ok (.iadd, 1) := by decide +kernel
theorem d_jdk_68_m22_40 : decode jdk_68_method_22_code 40 = .ok (.putfield 79, 3) := by decide +kernel
theorem d_jdk_68_m22_43 : decode jdk_68_method_22_code 43 = .ok (.aload_n 0, 1) := by decide +kernel
theorem d_jdk_68_m22_44 : decode jdk_68_method_22_code 44 = .ok (.areturn, 1) := by decide +kernel
set_option maxRecDepth 65536 in
set_option maxHeartbeats 40000000 in
theorem cApp {l : Launch} {Z : State} {a0 : Array Value} (W : Wd Z a0) {EL : List (String × Nat)} {vm : Vm} {h : Heap} {a : Addr} {cs : List Int32} (T : Str Z h a cs) {b d : Addr} {kd : ClassId} {cap : Nat} {ds : List Int32} (B : Bld Z h b d kd cap ds) (hl : ds.length + cs.length ≤ 34) (Sb : Safe Z EL vm h b) (zb : Z.heap.size ≤ b) (Sd : Safe Z EL vm h d) (hz : Z.heap.size ≤ d) (nd : d ≠ b) :
    Ctr false l Z a0 EL (⟨"java/lang/AbstractStringBuilder", "append", "(Ljava/lang/String;)Ljava/lang/AbstractStringBuilder;"⟩ : MethodName) jdk_68_method_22_code 3 (some (.object "java/lang/AbstractStringBuilder")) ({ frames := 4, cells := 1, slots := 34, locals := 62 } : Room) #[.ref b, .ref a] vm h (fun v vm' h' => ∃ d' kd' cap', v = some (.ref b) ∧ Keep h h' [b, d] ∧ Bld Z h' b d' kd' cap' (ds ++ cs) ∧ (d' = d ∨ h.size ≤ d') ∧ Safe Z EL vm' h' d') := by
  refine Ctr.of_go (L0 := #[.val (.ref b), .val (.ref a), .unset]) (by first | exact plainFor_of_name (by first | (simp [plainName, overriddenIn]; done) | decide +kernel) | decide +kernel) (fun m => by first | (simp [entryFrame, mkF, argsToLocals, Value.category, maxLocals]; done) | rfl) (fun p e s m below meth c vmi chi => ?_)
  refine Go.aload_n 1 d_jdk_68_m22_0 rfl rfl rfl ?_
  refine Go.ifnonnull_y 9 d_jdk_68_m22_1 (by decide) rfl ?_
  refine Go.aload_n 10 d_jdk_68_m22_9 rfl rfl rfl ?_
  refine goStrLen W 0 13 d_jdk_68_m22_10 rfl (W.1 91 rfl) T rfl rfl (nl rfl) (nl rfl) (nl rfl) (nl rfl) (nl rfl) ?_
  refine Go.istore_n #[.val (.ref b), .val (.ref a), .val (.int (Int32.ofNat cs.length))] 14 d_jdk_68_m22_13 rfl rfl ?_
  refine Go.aload_n 15 d_jdk_68_m22_14 rfl rfl rfl ?_
  refine Go.aload_n 16 d_jdk_68_m22_15 rfl rfl rfl ?_
  refine Go.getfield 19 d_jdk_68_m22_16 rfl (W.1 102 rfl) B.ct ?_
  refine Go.iload_n 20 d_jdk_68_m22_19 rfl rfl ?_
  refine Go.iadd (Int32.ofNat (ds.length + cs.length)) 21 d_jdk_68_m22_20 rfl (ofNat_add' _ _) ?_
  have f1 := CHr.safe chi B.e.lt Sb
  have L1 := Nat.lt_of_lt_of_le B.e.lt chi.2.1
  have f2 := CHr.safe chi B.ar.lt Sd
  have L2 := Nat.lt_of_lt_of_le B.ar.lt chi.2.1
  refine Go.invokevirtual (rest := []) 0 b [.int (Int32.ofNat (ds.length + cs.length))] 24 d_jdk_68_m22_21 rfl B.e (W.1 104 rfl) (declares_of (W.1 105 rfl) (W.1 108 rfl)) (fun s hs => notFace_of_selects (args := #[]) (mvT hs (W.1 107 rfl))) (W.1 107 rfl) (W.1 105 rfl) (W.1 73 rfl) (W.1 108 rfl) (by decide) (cEns W (n_ := ds.length + cs.length) hl B f1 zb f2 hz nd) (by decide +kernel : parseMethodDescriptor "(I)V" = some ⟨[.int], none⟩) rfl rfl rfl (nl rfl) (nl rfl) (nl rfl) (nl rfl) (nl rfl) (fun v3 vm3 h3 ⟨rv, K0, d1, kd1, cap1, hn1, B1, o1, S1_⟩ c3 => ?_)
  subst rv
  have hz1 : Z.heap.size ≤ d1 := o1.elim (fun q => by rw [q]; exact hz) (fun q => Nat.le_trans zb (Nat.le_trans (Nat.le_of_lt B.e.lt) q))
  have nd1 : d1 ≠ b := o1.elim (fun q => by rw [q]; exact nd) (fun q => (ne_of_new B.e.lt q).symm)
  have T1 := T.keepE K0 B.e (by decide) (W.1 64 rfl)
  refine Go.aload_n 25 d_jdk_68_m22_24 rfl rfl rfl ?_
  refine Go.aload_n 26 d_jdk_68_m22_25 rfl rfl rfl ?_
  refine Go.getfield 29 d_jdk_68_m22_26 rfl (W.1 102 rfl) B1.ct ?_
  refine Go.aload_n 30 d_jdk_68_m22_29 rfl rfl rfl ?_
  refine Go.invokevirtual (rest := []) 0 b [.int (Int32.ofNat ds.length), .ref a] 33 d_jdk_68_m22_30 rfl B1.e (W.1 109 rfl) (declares_of (W.1 110 rfl) (W.1 113 rfl)) (fun s hs => notFace_of_selects (args := #[]) (mvT hs (W.1 112 rfl))) (W.1 112 rfl) (W.1 110 rfl) (W.1 73 rfl) (W.1 113 rfl) (by decide) (cPut W T1 B1 hn1 S1_ hz1) (by decide +kernel : parseMethodDescriptor "(ILjava/lang/String;)V" = some ⟨[.int, (.object "java/lang/String")], none⟩) rfl rfl rfl (nl rfl) (nl rfl) (nl rfl) (nl rfl) (nl rfl) (fun v4 vm4 h4 ⟨rv, K, A⟩ c4 => ?_)
  subst rv
  have nb : b ∉ [d1] := fun q => nd1 (List.mem_singleton.mp q).symm
  have b1 := B1.e.keep K
  have b2 := B1.co.keep K nb
  have b3 := B1.va.keep K nb
  have b4 := B1.ct.keep K nb
  have b5 := B1.ex.keep K
  refine Go.aload_n 34 d_jdk_68_m22_33 rfl rfl rfl ?_
  refine Go.dup 35 d_jdk_68_m22_34 rfl rfl ?_
  refine Go.getfield 38 d_jdk_68_m22_35 rfl (W.1 102 rfl) b4 ?_
  refine Go.iload_n 39 d_jdk_68_m22_38 rfl rfl ?_
  refine Go.iadd (Int32.ofNat (ds.length + cs.length)) 40 d_jdk_68_m22_39 rfl (ofNat_add' _ _) ?_
  have f5 := CHr.safe (CHr.trans c3 c4) L1 f1
  have L5 := Nat.lt_of_lt_of_le L1 (CHr.trans c3 c4).2.1
  refine Go.putfield 43 d_jdk_68_m22_40 rfl (W.1 102 rfl) b4 b1 (Or.inl (W.1 103 rfl)) (W.1 64 rfl) (ty := .int) (by decide) rfl rfl f5 zb (fun h6 X6 S6 c6 => ?_)
  have f7 := CHr.safe (CHr.trans c4 c6) B1.ar.lt S1_
  have L7 := Nat.lt_of_lt_of_le B1.ar.lt (CHr.trans c4 c6).2.1
  refine Go.aload_n 44 d_jdk_68_m22_43 rfl rfl rfl ?_
  have len : (ds ++ cs).length = ds.length + cs.length := List.length_append
  have K9 : Keep h h6 [b, d] := (((Keep.refl h [b, d]).trans K0 (fun x q => Or.inl (by cases List.mem_singleton.mp q; simp))).trans K (fun x q => by cases List.mem_singleton.mp q; exact o1.elim (fun q => Or.inl (by rw [q]; simp)) Or.inr)).wr X6 (Or.inl (by simp))
  exact Go.areturn d_jdk_68_m22_44 rfl rfl rfl (nl rfl) (nl rfl) (fun vm' ch => ⟨d1, kd1, cap1, rfl, K9, ⟨b1.wr X6, b2.other X6 (Or.inr (slot_ne (a0 := a0) (C := "java/lang/StringBuilder") (Or.inl (W.1 80 rfl)) (Or.inl (W.1 103 rfl)) (by decide) (t := .byte) (t' := .int) (by decide) (by decide))), b3.other X6 (Or.inr (slot_ne (a0 := a0) (C := "java/lang/StringBuilder") (Or.inl (W.1 78 rfl)) (Or.inl (W.1 103 rfl)) (by decide) (t := (.array .byte)) (t' := .int) (by decide) (by decide))), by rw [len]; exact b4.same X6, Arv.other A X6 nd1, ⟨b5.wr X6, B1.cp⟩, by rw [len]; exact hn1, fun c hc => (List.mem_append.mp hc).elim (B1.ch c) (strChars T c)⟩, o1, ch.safe (Arv.other A X6 nd1).lt f7⟩)
theorem d_jdk_67_m7_0 : decode jdk_67_method_7_code 0 = .ok (.aload_n 0, 1) := by decide +kernel
theorem d_jdk_67_m7_1 : decode jdk_67_method_7_code 1 = .ok (.aload_n 1, 1) := by decide +kernel
theorem d_jdk_67_m7_2 : decode jdk_67_method_7_code 2 = .ok (.invokespecial 29, 3) := by decide +kernel
theorem d_jdk_67_m7_5 : decode jdk_67_method_7_code 5 = .ok (.pop, 1) := by decide +kernel
theorem d_jdk_67_m7_6 : decode jdk_67_method_7_code 6 = .ok (.aload_n 0, 1) := by decide +kernel
theorem d_jdk_67_m7_7 : decode jdk_67_method_7_code 7 = .ok (.areturn, 1) := by decide +kernel
set_option maxRecDepth 65536 in
set_option maxHeartbeats 40000000 in
theorem cAppS {l : Launch} {Z : State} {a0 : Array Value} (W : Wd Z a0) {EL : List (String × Nat)} {vm : Vm} {h : Heap} {a : Addr} {cs : List Int32} (T : Str Z h a cs) {b d : Addr} {kd : ClassId} {cap : Nat} {ds : List Int32} (B : Bld Z h b d kd cap ds) (hl : ds.length + cs.length ≤ 34) (Sb : Safe Z EL vm h b) (zb : Z.heap.size ≤ b) (Sd : Safe Z EL vm h d) (hz : Z.heap.size ≤ d) (nd : d ≠ b) :
    Ctr false l Z a0 EL (⟨"java/lang/StringBuilder", "append", "(Ljava/lang/String;)Ljava/lang/StringBuilder;"⟩ : MethodName) jdk_67_method_7_code 2 (some (.object "java/lang/StringBuilder")) ({ frames := 5, cells := 1, slots := 34, locals := 76 } : Room) #[.ref b, .ref a] vm h (fun v vm' h' => ∃ d' kd' cap', v = some (.ref b) ∧ Keep h h' [b, d] ∧ Bld Z h' b d' kd' cap' (ds ++ cs) ∧ (d' = d ∨ h.size ≤ d') ∧ Safe Z EL vm' h' d') := by
  refine Ctr.of_go (L0 := #[.val (.ref b), .val (.ref a)]) (by first | exact plainFor_of_name (by first | (simp [plainName, overriddenIn]; done) | decide +kernel) | decide +kernel) (fun m => by first | (simp [entryFrame, mkF, argsToLocals, Value.category, maxLocals]; done) | rfl) (fun p e s m below meth c vmi chi => ?_)
  refine Go.aload_n 1 d_jdk_67_m7_0 rfl rfl rfl ?_
  refine Go.aload_n 2 d_jdk_67_m7_1 rfl rfl rfl ?_
  refine Go.super (rest := []) 0 b [.ref a] 5 d_jdk_67_m7_2 rfl (by decide) (W.1 86 rfl) (same_of (W.1 87 rfl) (W.1 167 rfl) rfl (by decide)) (W.1 87 rfl) (W.1 88 rfl) (W.1 73 rfl) (W.1 90 rfl) (Ins.of_exa B.e (W.1 72 rfl)) (cApp W T B hl (chi.safe B.e.lt Sb) zb (chi.safe B.ar.lt Sd) hz nd) (by decide +kernel : parseMethodDescriptor "(Ljava/lang/String;)Ljava/lang/AbstractStringBuilder;" = some ⟨[(.object "java/lang/String")], (some (.object "java/lang/AbstractStringBuilder"))⟩) rfl rfl rfl (nl rfl) (nl rfl) (nl rfl) (nl rfl) (nl rfl) (fun v1 vm1 h1 ⟨d1, kd1, cap1, rv, K, B1, o1, S1_⟩ c1 => ?_)
  subst rv
  refine Go.pop 6 d_jdk_67_m7_5 rfl rfl ?_
  refine Go.aload_n 7 d_jdk_67_m7_6 rfl rfl rfl ?_
  exact Go.areturn d_jdk_67_m7_7 rfl rfl rfl (nl rfl) (nl rfl) (fun vm' ch => ⟨d1, kd1, cap1, rfl, K, B1, o1, ch.safe B1.ar.lt S1_⟩)
theorem d_jdk_33_m13_0 : decode jdk_33_method_13_code 0 = .ok (.iconst 1, 1) := by decide +kernel
theorem d_jdk_33_m13_1 : decode jdk_33_method_13_code 1 = .ok (.istore_n 1, 1) := by decide +kernel
theorem d_jdk_33_m13_2 : decode jdk_33_method_13_code 2 = .ok (.iload_n 0, 1) := by decide +kernel
theorem d_jdk_33_m13_3 : decode jdk_33_method_13_code 3 = .ok (.ifCond .lt 8, 3) := by decide +kernel
theorem d_jdk_33_m13_6 : decode jdk_33_method_13_code 6 = .ok (.iconst 0, 1) := by decide +kernel
theorem d_jdk_33_m13_7 : decode jdk_33_method_13_code 7 = .ok (.istore_n 1, 1) := by decide +kernel
theorem d_jdk_33_m13_8 : decode jdk_33_method_13_code 8 = .ok (.iload_n 0, 1) := by decide +kernel
theorem d_jdk_33_m13_9 : decode jdk_33_method_13_code 9 = .ok (.ineg, 1) := by decide +kernel
theorem d_jdk_33_m13_10 : decode jdk_33_method_13_code 10 = .ok (.istore_n 0, 1) := by decide +kernel
theorem d_jdk_33_m13_11 : decode jdk_33_method_13_code 11 = .ok (.bipush (-10), 2) := by decide +kernel
theorem d_jdk_33_m13_13 : decode jdk_33_method_13_code 13 = .ok (.istore_n 2, 1) := by decide +kernel
theorem d_jdk_33_m13_14 : decode jdk_33_method_13_code 14 = .ok (.iconst 1, 1) := by decide +kernel
theorem d_jdk_33_m13_15 : decode jdk_33_method_13_code 15 = .ok (.istore_n 3, 1) := by decide +kernel
theorem d_jdk_33_m13_16 : decode jdk_33_method_13_code 16 = .ok (.iload_n 3, 1) := by decide +kernel
theorem d_jdk_33_m13_17 : decode jdk_33_method_13_code 17 = .ok (.bipush 10, 2) := by decide +kernel
theorem d_jdk_33_m13_19 : decode jdk_33_method_13_code 19 = .ok (.if_icmp .ge 23, 3) := by decide +kernel
theorem d_jdk_33_m13_22 : decode jdk_33_method_13_code 22 = .ok (.iload_n 0, 1) := by decide +kernel
theorem d_jdk_33_m13_23 : decode jdk_33_method_13_code 23 = .ok (.iload_n 2, 1) := by decide +kernel
theorem d_jdk_33_m13_24 : decode jdk_33_method_13_code 24 = .ok (.if_icmp .le 7, 3) := by decide +kernel
theorem d_jdk_33_m13_27 : decode jdk_33_method_13_code 27 = .ok (.iload_n 3, 1) := by decide +kernel
theorem d_jdk_33_m13_28 : decode jdk_33_method_13_code 28 = .ok (.iload_n 1, 1) := by decide +kernel
theorem d_jdk_33_m13_29 : decode jdk_33_method_13_code 29 = .ok (.iadd, 1) := by decide +kernel
theorem d_jdk_33_m13_30 : decode jdk_33_method_13_code 30 = .ok (.ireturn, 1) := by decide +kernel
theorem d_jdk_33_m13_31 : decode jdk_33_method_13_code 31 = .ok (.bipush 10, 2) := by decide +kernel
theorem d_jdk_33_m13_33 : decode jdk_33_method_13_code 33 = .ok (.iload_n 2, 1) := by decide +kernel
theorem d_jdk_33_m13_34 : decode jdk_33_method_13_code 34 = .ok (.imul, 1) := by decide +kernel
theorem d_jdk_33_m13_35 : decode jdk_33_method_13_code 35 = .ok (.istore_n 2, 1) := by decide +kernel
theorem d_jdk_33_m13_36 : decode jdk_33_method_13_code 36 = .ok (.iinc 3 1, 3) := by decide +kernel
theorem d_jdk_33_m13_39 : decode jdk_33_method_13_code 39 = .ok (.goto (-23), 3) := by decide +kernel
theorem d_jdk_33_m13_42 : decode jdk_33_method_13_code 42 = .ok (.bipush 10, 2) := by decide +kernel
theorem d_jdk_33_m13_44 : decode jdk_33_method_13_code 44 = .ok (.iload_n 1, 1) := by decide +kernel
theorem d_jdk_33_m13_45 : decode jdk_33_method_13_code 45 = .ok (.iadd, 1) := by decide +kernel
theorem d_jdk_33_m13_46 : decode jdk_33_method_13_code 46 = .ok (.ireturn, 1) := by decide +kernel
set_option maxRecDepth 65536 in
set_option maxHeartbeats 40000000 in
theorem cSS {l : Launch} {Z : State} {a0 : Array Value} (W : Wd Z a0) {EL : List (String × Nat)} {vm : Vm} {h : Heap} {x_ : Int32} {n_ s_ : Nat} (hx : x_ = Int32.ofNat n_) (hn : n_ < 2 ^ 31) (hs : Nd s_ n_) :
    Ctr false l Z a0 EL (⟨"java/lang/Integer", "stringSize", "(I)I"⟩ : MethodName) jdk_33_method_13_code 4 (some .int) ({ frames := 0, cells := 0, slots := 0, locals := 0 } : Room) #[.int x_] vm h (fun v vm' h' => v = some (.int (Int32.ofNat s_)) ∧ h' = h) := by
  refine Ctr.of_go (L0 := #[.val (.int x_), .unset, .unset, .unset]) (by first | exact plainFor_of_name (by first | (simp [plainName, overriddenIn]; done) | decide +kernel) | decide +kernel) (fun m => by first | (simp [entryFrame, mkF, argsToLocals, Value.category, maxLocals]; done) | rfl) (fun p e s m below meth c vmi chi => ?_)
  subst hx
  refine Go.iconst (1) 1 d_jdk_33_m13_0 rfl rfl ?_
  refine Go.istore_n #[.val (.int (Int32.ofNat n_)), .val (.int (1 : Int32)), .unset, .unset] 2 d_jdk_33_m13_1 rfl rfl ?_
  refine Go.iload_n 3 d_jdk_33_m13_2 rfl rfl ?_
  refine Go.iflt 11 6 d_jdk_33_m13_3 (by decide) rfl rfl (fun q1 => absurd q1 (nneg hn)) (fun q1 => ?_)
  refine Go.iconst (0) 7 d_jdk_33_m13_6 rfl rfl ?_
  refine Go.istore_n #[.val (.int (Int32.ofNat n_)), .val (.int (0 : Int32)), .unset, .unset] 8 d_jdk_33_m13_7 rfl rfl ?_
  refine Go.iload_n 9 d_jdk_33_m13_8 rfl rfl ?_
  refine Go.ineg (-(Int32.ofNat n_)) 10 d_jdk_33_m13_9 rfl rfl ?_
  refine Go.istore_n #[.val (.int (-(Int32.ofNat n_))), .val (.int (0 : Int32)), .unset, .unset] 11 d_jdk_33_m13_10 rfl rfl ?_
  refine Go.bipush (-10) 13 d_jdk_33_m13_11 rfl rfl ?_
  refine Go.istore_n #[.val (.int (-(Int32.ofNat n_))), .val (.int (0 : Int32)), .val (.int (-10 : Int32)), .unset] 14 d_jdk_33_m13_13 rfl rfl ?_
  refine Go.iconst (1) 15 d_jdk_33_m13_14 rfl rfl ?_
  refine Go.istore_n #[.val (.int (-(Int32.ofNat n_))), .val (.int (0 : Int32)), .val (.int (-10 : Int32)), .val (.int (1 : Int32))] 16 d_jdk_33_m13_15 rfl rfl ?_
  refine Go.iload_n 17 d_jdk_33_m13_16 rfl rfl ?_
  refine Go.bipush (10) 19 d_jdk_33_m13_17 rfl rfl ?_
  refine Go.if_icmpge 42 22 d_jdk_33_m13_19 (by decide) rfl rfl (fun q2 => absurd q2 (by decide)) (fun q2 => ?_)
  refine Go.iload_n 23 d_jdk_33_m13_22 rfl rfl ?_
  refine Go.iload_n 24 d_jdk_33_m13_23 rfl rfl ?_
  refine Go.if_icmple 31 27 d_jdk_33_m13_24 (by decide) rfl rfl (fun g1 => ?_) (fun g1 => ?_)
  · refine Go.bipush (10) 33 d_jdk_33_m13_31 rfl rfl ?_
    refine Go.iload_n 34 d_jdk_33_m13_33 rfl rfl ?_
    refine Go.imul (-100 : Int32) 35 d_jdk_33_m13_34 rfl (by decide) ?_
    refine Go.istore_n #[.val (.int (-(Int32.ofNat n_))), .val (.int (0 : Int32)), .val (.int (-100 : Int32)), .val (.int (1 : Int32))] 36 d_jdk_33_m13_35 rfl rfl ?_
    refine Go.iinc (2 : Int32) #[.val (.int (-(Int32.ofNat n_))), .val (.int (0 : Int32)), .val (.int (-100 : Int32)), .val (.int (2 : Int32))] 39 d_jdk_33_m13_36 rfl rfl rfl rfl ?_
    refine Go.goto 16 d_jdk_33_m13_39 (by decide) rfl ?_
    refine Go.iload_n 17 d_jdk_33_m13_16 rfl rfl ?_
    refine Go.bipush (10) 19 d_jdk_33_m13_17 rfl rfl ?_
    refine Go.if_icmpge 42 22 d_jdk_33_m13_19 (by decide) rfl rfl (fun q3 => absurd q3 (by decide)) (fun q3 => ?_)
    refine Go.iload_n 23 d_jdk_33_m13_22 rfl rfl ?_
    refine Go.iload_n 24 d_jdk_33_m13_23 rfl rfl ?_
    refine Go.if_icmple 31 27 d_jdk_33_m13_24 (by decide) rfl rfl (fun g2 => ?_) (fun g2 => ?_)
    · refine Go.bipush (10) 33 d_jdk_33_m13_31 rfl rfl ?_
      refine Go.iload_n 34 d_jdk_33_m13_33 rfl rfl ?_
      refine Go.imul (-1000 : Int32) 35 d_jdk_33_m13_34 rfl (by decide) ?_
      refine Go.istore_n #[.val (.int (-(Int32.ofNat n_))), .val (.int (0 : Int32)), .val (.int (-1000 : Int32)), .val (.int (2 : Int32))] 36 d_jdk_33_m13_35 rfl rfl ?_
      refine Go.iinc (3 : Int32) #[.val (.int (-(Int32.ofNat n_))), .val (.int (0 : Int32)), .val (.int (-1000 : Int32)), .val (.int (3 : Int32))] 39 d_jdk_33_m13_36 rfl rfl rfl rfl ?_
      refine Go.goto 16 d_jdk_33_m13_39 (by decide) rfl ?_
      refine Go.iload_n 17 d_jdk_33_m13_16 rfl rfl ?_
      refine Go.bipush (10) 19 d_jdk_33_m13_17 rfl rfl ?_
      refine Go.if_icmpge 42 22 d_jdk_33_m13_19 (by decide) rfl rfl (fun q4 => absurd q4 (by decide)) (fun q4 => ?_)
      refine Go.iload_n 23 d_jdk_33_m13_22 rfl rfl ?_
      refine Go.iload_n 24 d_jdk_33_m13_23 rfl rfl ?_
      refine Go.if_icmple 31 27 d_jdk_33_m13_24 (by decide) rfl rfl (fun g3 => ?_) (fun g3 => ?_)
      · refine Go.bipush (10) 33 d_jdk_33_m13_31 rfl rfl ?_
        refine Go.iload_n 34 d_jdk_33_m13_33 rfl rfl ?_
        refine Go.imul (-10000 : Int32) 35 d_jdk_33_m13_34 rfl (by decide) ?_
        refine Go.istore_n #[.val (.int (-(Int32.ofNat n_))), .val (.int (0 : Int32)), .val (.int (-10000 : Int32)), .val (.int (3 : Int32))] 36 d_jdk_33_m13_35 rfl rfl ?_
        refine Go.iinc (4 : Int32) #[.val (.int (-(Int32.ofNat n_))), .val (.int (0 : Int32)), .val (.int (-10000 : Int32)), .val (.int (4 : Int32))] 39 d_jdk_33_m13_36 rfl rfl rfl rfl ?_
        refine Go.goto 16 d_jdk_33_m13_39 (by decide) rfl ?_
        refine Go.iload_n 17 d_jdk_33_m13_16 rfl rfl ?_
        refine Go.bipush (10) 19 d_jdk_33_m13_17 rfl rfl ?_
        refine Go.if_icmpge 42 22 d_jdk_33_m13_19 (by decide) rfl rfl (fun q5 => absurd q5 (by decide)) (fun q5 => ?_)
        refine Go.iload_n 23 d_jdk_33_m13_22 rfl rfl ?_
        refine Go.iload_n 24 d_jdk_33_m13_23 rfl rfl ?_
        refine Go.if_icmple 31 27 d_jdk_33_m13_24 (by decide) rfl rfl (fun g4 => ?_) (fun g4 => ?_)
        · refine Go.bipush (10) 33 d_jdk_33_m13_31 rfl rfl ?_
          refine Go.iload_n 34 d_jdk_33_m13_33 rfl rfl ?_
          refine Go.imul (-100000 : Int32) 35 d_jdk_33_m13_34 rfl (by decide) ?_
          refine Go.istore_n #[.val (.int (-(Int32.ofNat n_))), .val (.int (0 : Int32)), .val (.int (-100000 : Int32)), .val (.int (4 : Int32))] 36 d_jdk_33_m13_35 rfl rfl ?_
          refine Go.iinc (5 : Int32) #[.val (.int (-(Int32.ofNat n_))), .val (.int (0 : Int32)), .val (.int (-100000 : Int32)), .val (.int (5 : Int32))] 39 d_jdk_33_m13_36 rfl rfl rfl rfl ?_
          refine Go.goto 16 d_jdk_33_m13_39 (by decide) rfl ?_
          refine Go.iload_n 17 d_jdk_33_m13_16 rfl rfl ?_
          refine Go.bipush (10) 19 d_jdk_33_m13_17 rfl rfl ?_
          refine Go.if_icmpge 42 22 d_jdk_33_m13_19 (by decide) rfl rfl (fun q6 => absurd q6 (by decide)) (fun q6 => ?_)
          refine Go.iload_n 23 d_jdk_33_m13_22 rfl rfl ?_
          refine Go.iload_n 24 d_jdk_33_m13_23 rfl rfl ?_
          refine Go.if_icmple 31 27 d_jdk_33_m13_24 (by decide) rfl rfl (fun g5 => ?_) (fun g5 => ?_)
          · refine Go.bipush (10) 33 d_jdk_33_m13_31 rfl rfl ?_
            refine Go.iload_n 34 d_jdk_33_m13_33 rfl rfl ?_
            refine Go.imul (-1000000 : Int32) 35 d_jdk_33_m13_34 rfl (by decide) ?_
            refine Go.istore_n #[.val (.int (-(Int32.ofNat n_))), .val (.int (0 : Int32)), .val (.int (-1000000 : Int32)), .val (.int (5 : Int32))] 36 d_jdk_33_m13_35 rfl rfl ?_
            refine Go.iinc (6 : Int32) #[.val (.int (-(Int32.ofNat n_))), .val (.int (0 : Int32)), .val (.int (-1000000 : Int32)), .val (.int (6 : Int32))] 39 d_jdk_33_m13_36 rfl rfl rfl rfl ?_
            refine Go.goto 16 d_jdk_33_m13_39 (by decide) rfl ?_
            refine Go.iload_n 17 d_jdk_33_m13_16 rfl rfl ?_
            refine Go.bipush (10) 19 d_jdk_33_m13_17 rfl rfl ?_
            refine Go.if_icmpge 42 22 d_jdk_33_m13_19 (by decide) rfl rfl (fun q7 => absurd q7 (by decide)) (fun q7 => ?_)
            refine Go.iload_n 23 d_jdk_33_m13_22 rfl rfl ?_
            refine Go.iload_n 24 d_jdk_33_m13_23 rfl rfl ?_
            refine Go.if_icmple 31 27 d_jdk_33_m13_24 (by decide) rfl rfl (fun g6 => ?_) (fun g6 => ?_)
            · refine Go.bipush (10) 33 d_jdk_33_m13_31 rfl rfl ?_
              refine Go.iload_n 34 d_jdk_33_m13_33 rfl rfl ?_
              refine Go.imul (-10000000 : Int32) 35 d_jdk_33_m13_34 rfl (by decide) ?_
              refine Go.istore_n #[.val (.int (-(Int32.ofNat n_))), .val (.int (0 : Int32)), .val (.int (-10000000 : Int32)), .val (.int (6 : Int32))] 36 d_jdk_33_m13_35 rfl rfl ?_
              refine Go.iinc (7 : Int32) #[.val (.int (-(Int32.ofNat n_))), .val (.int (0 : Int32)), .val (.int (-10000000 : Int32)), .val (.int (7 : Int32))] 39 d_jdk_33_m13_36 rfl rfl rfl rfl ?_
              refine Go.goto 16 d_jdk_33_m13_39 (by decide) rfl ?_
              refine Go.iload_n 17 d_jdk_33_m13_16 rfl rfl ?_
              refine Go.bipush (10) 19 d_jdk_33_m13_17 rfl rfl ?_
              refine Go.if_icmpge 42 22 d_jdk_33_m13_19 (by decide) rfl rfl (fun q8 => absurd q8 (by decide)) (fun q8 => ?_)
              refine Go.iload_n 23 d_jdk_33_m13_22 rfl rfl ?_
              refine Go.iload_n 24 d_jdk_33_m13_23 rfl rfl ?_
              refine Go.if_icmple 31 27 d_jdk_33_m13_24 (by decide) rfl rfl (fun g7 => ?_) (fun g7 => ?_)
              · refine Go.bipush (10) 33 d_jdk_33_m13_31 rfl rfl ?_
                refine Go.iload_n 34 d_jdk_33_m13_33 rfl rfl ?_
                refine Go.imul (-100000000 : Int32) 35 d_jdk_33_m13_34 rfl (by decide) ?_
                refine Go.istore_n #[.val (.int (-(Int32.ofNat n_))), .val (.int (0 : Int32)), .val (.int (-100000000 : Int32)), .val (.int (7 : Int32))] 36 d_jdk_33_m13_35 rfl rfl ?_
                refine Go.iinc (8 : Int32) #[.val (.int (-(Int32.ofNat n_))), .val (.int (0 : Int32)), .val (.int (-100000000 : Int32)), .val (.int (8 : Int32))] 39 d_jdk_33_m13_36 rfl rfl rfl rfl ?_
                refine Go.goto 16 d_jdk_33_m13_39 (by decide) rfl ?_
                refine Go.iload_n 17 d_jdk_33_m13_16 rfl rfl ?_
                refine Go.bipush (10) 19 d_jdk_33_m13_17 rfl rfl ?_
                refine Go.if_icmpge 42 22 d_jdk_33_m13_19 (by decide) rfl rfl (fun q9 => absurd q9 (by decide)) (fun q9 => ?_)
                refine Go.iload_n 23 d_jdk_33_m13_22 rfl rfl ?_
                refine Go.iload_n 24 d_jdk_33_m13_23 rfl rfl ?_
                refine Go.if_icmple 31 27 d_jdk_33_m13_24 (by decide) rfl rfl (fun g8 => ?_) (fun g8 => ?_)
                · refine Go.bipush (10) 33 d_jdk_33_m13_31 rfl rfl ?_
                  refine Go.iload_n 34 d_jdk_33_m13_33 rfl rfl ?_
                  refine Go.imul (-1000000000 : Int32) 35 d_jdk_33_m13_34 rfl (by decide) ?_
                  refine Go.istore_n #[.val (.int (-(Int32.ofNat n_))), .val (.int (0 : Int32)), .val (.int (-1000000000 : Int32)), .val (.int (8 : Int32))] 36 d_jdk_33_m13_35 rfl rfl ?_
                  refine Go.iinc (9 : Int32) #[.val (.int (-(Int32.ofNat n_))), .val (.int (0 : Int32)), .val (.int (-1000000000 : Int32)), .val (.int (9 : Int32))] 39 d_jdk_33_m13_36 rfl rfl rfl rfl ?_
                  refine Go.goto 16 d_jdk_33_m13_39 (by decide) rfl ?_
                  refine Go.iload_n 17 d_jdk_33_m13_16 rfl rfl ?_
                  refine Go.bipush (10) 19 d_jdk_33_m13_17 rfl rfl ?_
                  refine Go.if_icmpge 42 22 d_jdk_33_m13_19 (by decide) rfl rfl (fun q10 => absurd q10 (by decide)) (fun q10 => ?_)
                  refine Go.iload_n 23 d_jdk_33_m13_22 rfl rfl ?_
                  refine Go.iload_n 24 d_jdk_33_m13_23 rfl rfl ?_
                  refine Go.if_icmple 31 27 d_jdk_33_m13_24 (by decide) rfl rfl (fun g9 => ?_) (fun g9 => ?_)
                  · refine Go.bipush (10) 33 d_jdk_33_m13_31 rfl rfl ?_
                    refine Go.iload_n 34 d_jdk_33_m13_33 rfl rfl ?_
                    refine Go.imul ((10 : Int32) * (-1000000000 : Int32)) 35 d_jdk_33_m13_34 rfl rfl ?_
                    refine Go.istore_n #[.val (.int (-(Int32.ofNat n_))), .val (.int (0 : Int32)), .val (.int ((10 : Int32) * (-1000000000 : Int32))), .val (.int (9 : Int32))] 36 d_jdk_33_m13_35 rfl rfl ?_
                    refine Go.iinc (10 : Int32) #[.val (.int (-(Int32.ofNat n_))), .val (.int (0 : Int32)), .val (.int ((10 : Int32) * (-1000000000 : Int32))), .val (.int (10 : Int32))] 39 d_jdk_33_m13_36 rfl rfl rfl rfl ?_
                    refine Go.goto 16 d_jdk_33_m13_39 (by decide) rfl ?_
                    refine Go.iload_n 17 d_jdk_33_m13_16 rfl rfl ?_
                    refine Go.bipush (10) 19 d_jdk_33_m13_17 rfl rfl ?_
                    refine Go.if_icmpge 42 22 d_jdk_33_m13_19 (by decide) rfl rfl (fun q11 => ?_) (fun q11 => absurd q11 (by decide))
                    refine Go.bipush (10) 44 d_jdk_33_m13_42 rfl rfl ?_
                    refine Go.iload_n 45 d_jdk_33_m13_44 rfl rfl ?_
                    refine Go.iadd (10 : Int32) 46 d_jdk_33_m13_45 rfl (by decide) ?_
                    have R : s_ = 10 := hs.uniq (hi := 10000000000) (lo := 1000000000) (Nat.lt_trans hn (by decide)) (Nat.le_of_not_lt fun z => g9 ((negc hn (p := 1000000000) (by decide)).mpr z)) (by decide) (by decide) (by decide)
                    subst R
                    exact Go.ireturn d_jdk_33_m13_46 rfl rfl (by simp) (nl rfl) (nl rfl) (fun vm' ch => ⟨rfl, rfl⟩)
                  · refine Go.iload_n 28 d_jdk_33_m13_27 rfl rfl ?_
                    refine Go.iload_n 29 d_jdk_33_m13_28 rfl rfl ?_
                    refine Go.iadd (9 : Int32) 30 d_jdk_33_m13_29 rfl (by decide) ?_
                    have R : s_ = 9 := hs.uniq (hi := 1000000000) (lo := 100000000) ((negc hn (p := 1000000000) (by decide)).mp g9) (Nat.le_of_not_lt fun z => g8 ((negc hn (p := 100000000) (by decide)).mpr z)) (by decide) (by decide) (by decide)
                    subst R
                    exact Go.ireturn d_jdk_33_m13_30 rfl rfl (by simp) (nl rfl) (nl rfl) (fun vm' ch => ⟨rfl, rfl⟩)
                · refine Go.iload_n 28 d_jdk_33_m13_27 rfl rfl ?_
                  refine Go.iload_n 29 d_jdk_33_m13_28 rfl rfl ?_
                  refine Go.iadd (8 : Int32) 30 d_jdk_33_m13_29 rfl (by decide) ?_
                  have R : s_ = 8 := hs.uniq (hi := 100000000) (lo := 10000000) ((negc hn (p := 100000000) (by decide)).mp g8) (Nat.le_of_not_lt fun z => g7 ((negc hn (p := 10000000) (by decide)).mpr z)) (by decide) (by decide) (by decide)
                  subst R
                  exact Go.ireturn d_jdk_33_m13_30 rfl rfl (by simp) (nl rfl) (nl rfl) (fun vm' ch => ⟨rfl, rfl⟩)
              · refine Go.iload_n 28 d_jdk_33_m13_27 rfl rfl ?_
                refine Go.iload_n 29 d_jdk_33_m13_28 rfl rfl ?_
                refine Go.iadd (7 : Int32) 30 d_jdk_33_m13_29 rfl (by decide) ?_
                have R : s_ = 7 := hs.uniq (hi := 10000000) (lo := 1000000) ((negc hn (p := 10000000) (by decide)).mp g7) (Nat.le_of_not_lt fun z => g6 ((negc hn (p := 1000000) (by decide)).mpr z)) (by decide) (by decide) (by decide)
                subst R
                exact Go.ireturn d_jdk_33_m13_30 rfl rfl (by simp) (nl rfl) (nl rfl) (fun vm' ch => ⟨rfl, rfl⟩)
            · refine Go.iload_n 28 d_jdk_33_m13_27 rfl rfl ?_
              refine Go.iload_n 29 d_jdk_33_m13_28 rfl rfl ?_
              refine Go.iadd (6 : Int32) 30 d_jdk_33_m13_29 rfl (by decide) ?_
              have R : s_ = 6 := hs.uniq (hi := 1000000) (lo := 100000) ((negc hn (p := 1000000) (by decide)).mp g6) (Nat.le_of_not_lt fun z => g5 ((negc hn (p := 100000) (by decide)).mpr z)) (by decide) (by decide) (by decide)
              subst R
              exact Go.ireturn d_jdk_33_m13_30 rfl rfl (by simp) (nl rfl) (nl rfl) (fun vm' ch => ⟨rfl, rfl⟩)
          · refine Go.iload_n 28 d_jdk_33_m13_27 rfl rfl ?_
            refine Go.iload_n 29 d_jdk_33_m13_28 rfl rfl ?_
            refine Go.iadd (5 : Int32) 30 d_jdk_33_m13_29 rfl (by decide) ?_
            have R : s_ = 5 := hs.uniq (hi := 100000) (lo := 10000) ((negc hn (p := 100000) (by decide)).mp g5) (Nat.le_of_not_lt fun z => g4 ((negc hn (p := 10000) (by decide)).mpr z)) (by decide) (by decide) (by decide)
            subst R
            exact Go.ireturn d_jdk_33_m13_30 rfl rfl (by simp) (nl rfl) (nl rfl) (fun vm' ch => ⟨rfl, rfl⟩)
        · refine Go.iload_n 28 d_jdk_33_m13_27 rfl rfl ?_
          refine Go.iload_n 29 d_jdk_33_m13_28 rfl rfl ?_
          refine Go.iadd (4 : Int32) 30 d_jdk_33_m13_29 rfl (by decide) ?_
          have R : s_ = 4 := hs.uniq (hi := 10000) (lo := 1000) ((negc hn (p := 10000) (by decide)).mp g4) (Nat.le_of_not_lt fun z => g3 ((negc hn (p := 1000) (by decide)).mpr z)) (by decide) (by decide) (by decide)
          subst R
          exact Go.ireturn d_jdk_33_m13_30 rfl rfl (by simp) (nl rfl) (nl rfl) (fun vm' ch => ⟨rfl, rfl⟩)
      · refine Go.iload_n 28 d_jdk_33_m13_27 rfl rfl ?_
        refine Go.iload_n 29 d_jdk_33_m13_28 rfl rfl ?_
        refine Go.iadd (3 : Int32) 30 d_jdk_33_m13_29 rfl (by decide) ?_
        have R : s_ = 3 := hs.uniq (hi := 1000) (lo := 100) ((negc hn (p := 1000) (by decide)).mp g3) (Nat.le_of_not_lt fun z => g2 ((negc hn (p := 100) (by decide)).mpr z)) (by decide) (by decide) (by decide)
        subst R
        exact Go.ireturn d_jdk_33_m13_30 rfl rfl (by simp) (nl rfl) (nl rfl) (fun vm' ch => ⟨rfl, rfl⟩)
    · refine Go.iload_n 28 d_jdk_33_m13_27 rfl rfl ?_
      refine Go.iload_n 29 d_jdk_33_m13_28 rfl rfl ?_
      refine Go.iadd (2 : Int32) 30 d_jdk_33_m13_29 rfl (by decide) ?_
      have R : s_ = 2 := hs.uniq (hi := 100) (lo := 10) ((negc hn (p := 100) (by decide)).mp g2) (Nat.le_of_not_lt fun z => g1 ((negc hn (p := 10) (by decide)).mpr z)) (by decide) (by decide) (by decide)
      subst R
      exact Go.ireturn d_jdk_33_m13_30 rfl rfl (by simp) (nl rfl) (nl rfl) (fun vm' ch => ⟨rfl, rfl⟩)
  · refine Go.iload_n 28 d_jdk_33_m13_27 rfl rfl ?_
    refine Go.iload_n 29 d_jdk_33_m13_28 rfl rfl ?_
    refine Go.iadd (1 : Int32) 30 d_jdk_33_m13_29 rfl (by decide) ?_
    have R : s_ = 1 := hs.uniq (hi := 10) (lo := 1) ((negc hn (p := 10) (by decide)).mp g1) hs.pos (by decide) (by decide) (by decide)
    subst R
    exact Go.ireturn d_jdk_33_m13_30 rfl rfl (by simp) (nl rfl) (nl rfl) (fun vm' ch => ⟨rfl, rfl⟩)
theorem d_jdk_33_m12_0 : decode jdk_33_method_12_code 0 = .ok (.iload_n 1, 1) := by decide +kernel
theorem d_jdk_33_m12_1 : decode jdk_33_method_12_code 1 = .ok (.istore 5, 2) := by decide +kernel
theorem d_jdk_33_m12_3 : decode jdk_33_method_12_code 3 = .ok (.iload_n 0, 1) := by decide +kernel
theorem d_jdk_33_m12_4 : decode jdk_33_method_12_code 4 = .ok (.ifCond .ge 7, 3) := by decide +kernel
theorem d_jdk_33_m12_7 : decode jdk_33_method_12_code 7 = .ok (.iconst 1, 1) := by decide +kernel
theorem d_jdk_33_m12_8 : decode jdk_33_method_12_code 8 = .ok (.goto 4, 3) := by decide +kernel
theorem d_jdk_33_m12_11 : decode jdk_33_method_12_code 11 = .ok (.iconst 0, 1) := by decide +kernel
theorem d_jdk_33_m12_12 : decode jdk_33_method_12_code 12 = .ok (.istore 6, 2) := by decide +kernel
theorem d_jdk_33_m12_14 : decode jdk_33_method_12_code 14 = .ok (.iload 6, 2) := by decide +kernel
theorem d_jdk_33_m12_16 : decode jdk_33_method_12_code 16 = .ok (.ifCond .ne 6, 3) := by decide +kernel
theorem d_jdk_33_m12_19 : decode jdk_33_method_12_code 19 = .ok (.iload_n 0, 1) := by decide +kernel
theorem d_jdk_33_m12_20 : decode jdk_33_method_12_code 20 = .ok (.ineg, 1) := by decide +kernel
theorem d_jdk_33_m12_21 : decode jdk_33_method_12_code 21 = .ok (.istore_n 0, 1) := by decide +kernel
theorem d_jdk_33_m12_22 : decode jdk_33_method_12_code 22 = .ok (.iload_n 0, 1) := by decide +kernel
theorem d_jdk_33_m12_23 : decode jdk_33_method_12_code 23 = .ok (.bipush (-100), 2) := by decide +kernel
theorem d_jdk_33_m12_25 : decode jdk_33_method_12_code 25 = .ok (.if_icmp .gt 47, 3) := by decide +kernel
theorem d_jdk_33_m12_28 : decode jdk_33_method_12_code 28 = .ok (.iload_n 0, 1) := by decide +kernel
theorem d_jdk_33_m12_29 : decode jdk_33_method_12_code 29 = .ok (.bipush 100, 2) := by decide +kernel
theorem d_jdk_33_m12_31 : decode jdk_33_method_12_code 31 = .ok (.idiv, 1) := by decide +kernel
theorem d_jdk_33_m12_32 : decode jdk_33_method_12_code 32 = .ok (.istore_n 3, 1) := by decide +kernel
theorem d_jdk_33_m12_33 : decode jdk_33_method_12_code 33 = .ok (.iload_n 3, 1) := by decide +kernel
theorem d_jdk_33_m12_34 : decode jdk_33_method_12_code 34 = .ok (.bipush 100, 2) := by decide +kernel
theorem d_jdk_33_m12_36 : decode jdk_33_method_12_code 36 = .ok (.imul, 1) := by decide +kernel
theorem d_jdk_33_m12_37 : decode jdk_33_method_12_code 37 = .ok (.iload_n 0, 1) := by decide +kernel
theorem d_jdk_33_m12_38 : decode jdk_33_method_12_code 38 = .ok (.isub, 1) := by decide +kernel
theorem d_jdk_33_m12_39 : decode jdk_33_method_12_code 39 = .ok (.istore 4, 2) := by decide +kernel
theorem d_jdk_33_m12_41 : decode jdk_33_method_12_code 41 = .ok (.iload_n 3, 1) := by decide +kernel
theorem d_jdk_33_m12_42 : decode jdk_33_method_12_code 42 = .ok (.istore_n 0, 1) := by decide +kernel
theorem d_jdk_33_m12_43 : decode jdk_33_method_12_code 43 = .ok (.aload_n 2, 1) := by decide +kernel
theorem d_jdk_33_m12_44 : decode jdk_33_method_12_code 44 = .ok (.iinc 5 (-1), 3) := by decide +kernel
theorem d_jdk_33_m12_47 : decode jdk_33_method_12_code 47 = .ok (.iload 5, 2) := by decide +kernel
theorem d_jdk_33_m12_49 : decode jdk_33_method_12_code 49 = .ok (.getstatic 83, 3) := by decide +kernel
theorem d_jdk_33_m12_52 : decode jdk_33_method_12_code 52 = .ok (.iload 4, 2) := by decide +kernel
theorem d_jdk_33_m12_54 : decode jdk_33_method_12_code 54 = .ok (.baload, 1) := by decide +kernel
theorem d_jdk_33_m12_55 : decode jdk_33_method_12_code 55 = .ok (.bastore, 1) := by decide +kernel
theorem d_jdk_33_m12_56 : decode jdk_33_method_12_code 56 = .ok (.aload_n 2, 1) := by decide +kernel
theorem d_jdk_33_m12_57 : decode jdk_33_method_12_code 57 = .ok (.iinc 5 (-1), 3) := by decide +kernel
theorem d_jdk_33_m12_60 : decode jdk_33_method_12_code 60 = .ok (.iload 5, 2) := by decide +kernel
theorem d_jdk_33_m12_62 : decode jdk_33_method_12_code 62 = .ok (.getstatic 87, 3) := by decide +kernel
theorem d_jdk_33_m12_65 : decode jdk_33_method_12_code 65 = .ok (.iload 4, 2) := by decide +kernel
theorem d_jdk_33_m12_67 : decode jdk_33_method_12_code 67 = .ok (.baload, 1) := by decide +kernel
theorem d_jdk_33_m12_68 : decode jdk_33_method_12_code 68 = .ok (.bastore, 1) := by decide +kernel
theorem d_jdk_33_m12_69 : decode jdk_33_method_12_code 69 = .ok (.goto (-47), 3) := by decide +kernel
theorem d_jdk_33_m12_72 : decode jdk_33_method_12_code 72 = .ok (.aload_n 2, 1) := by decide +kernel
theorem d_jdk_33_m12_73 : decode jdk_33_method_12_code 73 = .ok (.iinc 5 (-1), 3) := by decide +kernel
theorem d_jdk_33_m12_76 : decode jdk_33_method_12_code 76 = .ok (.iload 5, 2) := by decide +kernel
theorem d_jdk_33_m12_78 : decode jdk_33_method_12_code 78 = .ok (.getstatic 83, 3) := by decide +kernel
theorem d_jdk_33_m12_81 : decode jdk_33_method_12_code 81 = .ok (.iload_n 0, 1) := by decide +kernel
theorem d_jdk_33_m12_82 : decode jdk_33_method_12_code 82 = .ok (.ineg, 1) := by decide +kernel
theorem d_jdk_33_m12_83 : decode jdk_33_method_12_code 83 = .ok (.baload, 1) := by decide +kernel
theorem d_jdk_33_m12_84 : decode jdk_33_method_12_code 84 = .ok (.bastore, 1) := by decide +kernel
theorem d_jdk_33_m12_85 : decode jdk_33_method_12_code 85 = .ok (.iload_n 0, 1) := by decide +kernel
theorem d_jdk_33_m12_86 : decode jdk_33_method_12_code 86 = .ok (.bipush (-9), 2) := by decide +kernel
theorem d_jdk_33_m12_88 : decode jdk_33_method_12_code 88 = .ok (.if_icmp .ge 16, 3) := by decide +kernel
theorem d_jdk_33_m12_91 : decode jdk_33_method_12_code 91 = .ok (.aload_n 2, 1) := by decide +kernel
theorem d_jdk_33_m12_92 : decode jdk_33_method_12_code 92 = .ok (.iinc 5 (-1), 3) := by decide +kernel
theorem d_jdk_33_m12_95 : decode jdk_33_method_12_code 95 = .ok (.iload 5, 2) := by decide +kernel
theorem d_jdk_33_m12_97 : decode jdk_33_method_12_code 97 = .ok (.getstatic 87, 3) := by decide +kernel
theorem d_jdk_33_m12_100 : decode jdk_33_method_12_code 100 = .ok (.iload_n 0, 1) := by decide +kernel
theorem d_jdk_33_m12_101 : decode jdk_33_method_12_code 101 = .ok (.ineg, 1) := by decide +kernel
theorem d_jdk_33_m12_102 : decode jdk_33_method_12_code 102 = .ok (.baload, 1) := by decide +kernel
theorem d_jdk_33_m12_103 : decode jdk_33_method_12_code 103 = .ok (.bastore, 1) := by decide +kernel
theorem d_jdk_33_m12_104 : decode jdk_33_method_12_code 104 = .ok (.iload 6, 2) := by decide +kernel
theorem d_jdk_33_m12_106 : decode jdk_33_method_12_code 106 = .ok (.ifCond .eq 12, 3) := by decide +kernel
theorem d_jdk_33_m12_109 : decode jdk_33_method_12_code 109 = .ok (.aload_n 2, 1) := by decide +kernel
theorem d_jdk_33_m12_110 : decode jdk_33_method_12_code 110 = .ok (.iinc 5 (-1), 3) := by decide +kernel
theorem d_jdk_33_m12_113 : decode jdk_33_method_12_code 113 = .ok (.iload 5, 2) := by decide +kernel
theorem d_jdk_33_m12_115 : decode jdk_33_method_12_code 115 = .ok (.bipush 45, 2) := by decide +kernel
theorem d_jdk_33_m12_117 : decode jdk_33_method_12_code 117 = .ok (.bastore, 1) := by decide +kernel
theorem d_jdk_33_m12_118 : decode jdk_33_method_12_code 118 = .ok (.iload 5, 2) := by decide +kernel
theorem d_jdk_33_m12_120 : decode jdk_33_method_12_code 120 = .ok (.ireturn, 1) := by decide +kernel
set_option maxRecDepth 65536 in
set_option maxHeartbeats 40000000 in
theorem cGC {l : Launch} {Z : State} {a0 : Array Value} (W : Wd Z a0) {EL : List (String × Nat)} {vm : Vm} {h : Heap} {x_ : Int32} {n_ s_ : Nat} (hx : x_ = Int32.ofNat n_) (hn : n_ < 2 ^ 31) (hs : Nd s_ n_) {o1 o2 : Addr} (D : Dg Z o1 o2) {cap : Nat} {d : Addr} {kd : ClassId} {ds : List Int32} (A : Arv Z h d kd .byte (Int32.ofNat cap) ((ds.map fun (c : Int32) => c.toInt8.toInt32).map Value.int) (.int 0)) (hl : ds.length + s_ ≤ cap) (hc : cap ≤ 34) (Sd : Safe Z EL vm h d) (hz : Z.heap.size ≤ d) :
    Ctr false l Z a0 EL (⟨"java/lang/Integer", "getChars", "(II[B)I"⟩ : MethodName) jdk_33_method_12_code 7 (some .int) ({ frames := 0, cells := 0, slots := 0, locals := 0 } : Room) #[.int x_, .int (Int32.ofNat (ds.length + s_)), .ref d] vm h (fun v vm' h' => ∃ w_, v = some (.int w_) ∧ Keep h h' [d] ∧ Arv Z h' d kd .byte (Int32.ofNat cap) (((ds ++ dgL s_ n_).map fun (c : Int32) => c.toInt8.toInt32).map Value.int) (.int 0)) := by
  refine Ctr.of_go (L0 := #[.val (.int x_), .val (.int (Int32.ofNat (ds.length + s_))), .val (.ref d), .unset, .unset, .unset, .unset]) (by first | exact plainFor_of_name (by first | (simp [plainName, overriddenIn]; done) | decide +kernel) | decide +kernel) (fun m => by first | (simp [entryFrame, mkF, argsToLocals, Value.category, maxLocals]; done) | rfl) (fun p e s m below meth c vmi chi => ?_)
  subst hx
  obtain ⟨dO, ⟨kO, AO⟩, dT, kT, AT⟩ := D
  refine Go.iload_n 1 d_jdk_33_m12_0 rfl rfl ?_
  refine Go.istore #[.val (.int (Int32.ofNat n_)), .val (.int (Int32.ofNat (ds.length + s_))), .val (.ref d), .unset, .unset, .val (.int (Int32.ofNat (ds.length + s_))), .unset] 3 d_jdk_33_m12_1 rfl rfl ?_
  refine Go.iload_n 4 d_jdk_33_m12_3 rfl rfl ?_
  refine Go.ifge 11 7 d_jdk_33_m12_4 (by decide) rfl rfl (fun q1 => ?_) (fun q1 => absurd q1 (nneg hn))
  refine Go.iconst (0) 12 d_jdk_33_m12_11 rfl rfl ?_
  refine Go.istore #[.val (.int (Int32.ofNat n_)), .val (.int (Int32.ofNat (ds.length + s_))), .val (.ref d), .unset, .unset, .val (.int (Int32.ofNat (ds.length + s_))), .val (.int (0 : Int32))] 14 d_jdk_33_m12_12 rfl rfl ?_
  refine Go.iload 16 d_jdk_33_m12_14 rfl rfl ?_
  refine Go.ifne 22 19 d_jdk_33_m12_16 (by decide) rfl rfl (fun q2 => absurd rfl q2) (fun q2 => ?_)
  refine Go.iload_n 20 d_jdk_33_m12_19 rfl rfl ?_
  refine Go.ineg (-(Int32.ofNat n_)) 21 d_jdk_33_m12_20 rfl rfl ?_
  refine Go.istore_n #[.val (.int (-(Int32.ofNat n_))), .val (.int (Int32.ofNat (ds.length + s_))), .val (.ref d), .unset, .unset, .val (.int (Int32.ofNat (ds.length + s_))), .val (.int (0 : Int32))] 22 d_jdk_33_m12_21 rfl rfl ?_
  have J : ∀ (t_ y_ : Nat) (suf : List Int32) (hJ : Heap) (l3 l4 : Slot), (l3 = .unset ∨ ∃ w : Value, l3 = .val w ∧ w.category = 1) → (l4 = .unset ∨ ∃ w : Value, l4 = .val w ∧ w.category = 1) → Nd t_ y_ → y_ < 2 ^ 31 → ds.length + t_ ≤ cap → dgL t_ y_ ++ suf = dgL s_ n_ → Keep h hJ [d] → Arv Z hJ d kd .byte (Int32.ofNat cap) (((ds ++ List.replicate t_ 0 ++ suf).map fun (c : Int32) => c.toInt8.toInt32).map Value.int) (.int 0) → Safe Z EL vmi hJ d → Go false p l e ({ frames := 0, cells := 0, slots := 0, locals := 0 } : Room) s m #[.int (Int32.ofNat n_), .int (Int32.ofNat (ds.length + s_)), .ref d] below meth c jdk_33_method_12_code 7 "getChars" (some .int) Z a0 EL "java/lang/Integer" (fun v vm' h' => ∃ w_, v = some (.int w_) ∧ Keep h h' [d] ∧ Arv Z h' d kd .byte (Int32.ofNat cap) (((ds ++ dgL s_ n_).map fun (c : Int32) => c.toInt8.toInt32).map Value.int) (.int 0)) vmi hJ 0 0 22 #[.val (.int (-(Int32.ofNat y_))), .val (.int (Int32.ofNat (ds.length + s_))), .val (.ref d), l3, l4, .val (.int (Int32.ofNat (ds.length + t_))), .val (.int (0 : Int32))] [] := by
    intro t_
    induction t_ using Nat.strongRecOn with
    | ind t_ ih =>
      intro y_ suf hJ l3 l4 o3 o4 nd hy hs he K A Sd
      by_cases hq : y_ < 100
      · rcases nd.small hq with ⟨h10, rfl⟩ | ⟨h10, rfl⟩
        · refine Go.iload_n 23 d_jdk_33_m12_22 rfl rfl ?_
          refine Go.bipush (-100) 25 d_jdk_33_m12_23 rfl rfl ?_
          refine Go.if_icmpgt 72 28 d_jdk_33_m12_25 (by decide) rfl rfl (fun q101 => ?_) (fun q101 => absurd ((negc hy (p := 100) (by decide)).mpr hq) q101)
          refine Go.aload_n 73 d_jdk_33_m12_72 rfl rfl rfl ?_
          refine Go.iinc (Int32.ofNat (ds.length + 0)) #[.val (.int (-(Int32.ofNat y_))), .val (.int (Int32.ofNat (ds.length + s_))), .val (.ref d), l3, l4, .val (.int (Int32.ofNat (ds.length + 0))), .val (.int (0 : Int32))] 76 d_jdk_33_m12_73 rfl rfl (decN (by omega) (by omega)) rfl ?_
          refine Go.iload 78 d_jdk_33_m12_76 rfl rfl ?_
          refine Go.know fun hE102 _ _ => ?_
          refine Go.getstatic 81 d_jdk_33_m12_78 rfl (W.1 151 rfl) (dO.ext hE102) ?_
          refine Go.iload_n 82 d_jdk_33_m12_81 rfl rfl ?_
          refine Go.ineg (Int32.ofNat y_) 83 d_jdk_33_m12_82 rfl (nnN hy) ?_
          refine Go.baload (.int (Int32.ofNat (48 + y_ % 10))) 84 d_jdk_33_m12_83 rfl (AO.ext hE102) (lt100 hq) (onesAt hq) ?_
          refine Go.bastore (ds.length + 0) (((Int32.ofNat (48 + y_ % 10))).toInt8.toInt32) (((ds ++ List.replicate 0 0 ++ ((Int32.ofNat (48 + y_ % 10)) :: suf)).map fun (c : Int32) => c.toInt8.toInt32).map Value.int) 85 d_jdk_33_m12_84 rfl A (posOk (by omega) hc) (clampN (by omega)) (fill_lt ds suf 0) rfl (set_fill ds suf 0 (Int32.ofNat (48 + y_ % 10))) Sd hz (fun hb103 K103 A103 S103 c103 => ?_)
          have KK103 := K.trans K103 (fun x q => Or.inl q)
          refine Go.iload_n 86 d_jdk_33_m12_85 rfl rfl ?_
          refine Go.bipush (-9) 88 d_jdk_33_m12_86 rfl rfl ?_
          refine Go.if_icmpge 104 91 d_jdk_33_m12_88 (by decide) rfl rfl (fun q104 => ?_) (fun q104 => absurd ((negc (n := 9) (p := y_) (by decide) hy).mp q104) (by omega))
          refine Go.iload 106 d_jdk_33_m12_104 rfl rfl ?_
          refine Go.ifeq 118 109 d_jdk_33_m12_106 (by decide) rfl rfl (fun q105 => ?_) (fun q105 => absurd rfl q105)
          refine Go.iload 120 d_jdk_33_m12_118 rfl rfl ?_
          have fin : ds ++ List.replicate 0 0 ++ ((Int32.ofNat (48 + y_ % 10)) :: suf) = ds ++ dgL s_ n_ := by rw [← he]; simp [dgL]
          have AF := A103
          rw [fin] at AF
          exact Go.ireturn d_jdk_33_m12_120 rfl rfl (by simp) (nl rfl) (nl rfl) (fun vm' ch => ⟨_, rfl, KK103, AF⟩)
        · refine Go.iload_n 23 d_jdk_33_m12_22 rfl rfl ?_
          refine Go.bipush (-100) 25 d_jdk_33_m12_23 rfl rfl ?_
          refine Go.if_icmpgt 72 28 d_jdk_33_m12_25 (by decide) rfl rfl (fun q106 => ?_) (fun q106 => absurd ((negc hy (p := 100) (by decide)).mpr hq) q106)
          refine Go.aload_n 73 d_jdk_33_m12_72 rfl rfl rfl ?_
          refine Go.iinc (Int32.ofNat (ds.length + 1)) #[.val (.int (-(Int32.ofNat y_))), .val (.int (Int32.ofNat (ds.length + s_))), .val (.ref d), l3, l4, .val (.int (Int32.ofNat (ds.length + 1))), .val (.int (0 : Int32))] 76 d_jdk_33_m12_73 rfl rfl (decN (by omega) (by omega)) rfl ?_
          refine Go.iload 78 d_jdk_33_m12_76 rfl rfl ?_
          refine Go.know fun hE107 _ _ => ?_
          refine Go.getstatic 81 d_jdk_33_m12_78 rfl (W.1 151 rfl) (dO.ext hE107) ?_
          refine Go.iload_n 82 d_jdk_33_m12_81 rfl rfl ?_
          refine Go.ineg (Int32.ofNat y_) 83 d_jdk_33_m12_82 rfl (nnN hy) ?_
          refine Go.baload (.int (Int32.ofNat (48 + y_ % 10))) 84 d_jdk_33_m12_83 rfl (AO.ext hE107) (lt100 hq) (onesAt hq) ?_
          refine Go.bastore (ds.length + 1) (((Int32.ofNat (48 + y_ % 10))).toInt8.toInt32) (((ds ++ List.replicate 1 0 ++ ((Int32.ofNat (48 + y_ % 10)) :: suf)).map fun (c : Int32) => c.toInt8.toInt32).map Value.int) 85 d_jdk_33_m12_84 rfl A (posOk (by omega) hc) (clampN (by omega)) (fill_lt ds suf 1) rfl (set_fill ds suf 1 (Int32.ofNat (48 + y_ % 10))) Sd hz (fun hb108 K108 A108 S108 c108 => ?_)
          have KK108 := K.trans K108 (fun x q => Or.inl q)
          refine Go.iload_n 86 d_jdk_33_m12_85 rfl rfl ?_
          refine Go.bipush (-9) 88 d_jdk_33_m12_86 rfl rfl ?_
          refine Go.if_icmpge 104 91 d_jdk_33_m12_88 (by decide) rfl rfl (fun q109 => absurd ((negc (n := 9) (p := y_) (by decide) hy).mpr (by omega)) q109) (fun q109 => ?_)
          refine Go.aload_n 92 d_jdk_33_m12_91 rfl rfl rfl ?_
          refine Go.iinc (Int32.ofNat (ds.length + 0)) #[.val (.int (-(Int32.ofNat y_))), .val (.int (Int32.ofNat (ds.length + s_))), .val (.ref d), l3, l4, .val (.int (Int32.ofNat (ds.length + 0))), .val (.int (0 : Int32))] 95 d_jdk_33_m12_92 rfl rfl (decN (by omega) (by omega)) rfl ?_
          refine Go.iload 97 d_jdk_33_m12_95 rfl rfl ?_
          refine Go.know fun hE110 _ _ => ?_
          refine Go.getstatic 100 d_jdk_33_m12_97 rfl (W.1 223 rfl) (dT.ext hE110) ?_
          refine Go.iload_n 101 d_jdk_33_m12_100 rfl rfl ?_
          refine Go.ineg (Int32.ofNat y_) 102 d_jdk_33_m12_101 rfl (nnN hy) ?_
          refine Go.baload (.int (Int32.ofNat (48 + y_ / 10 % 10))) 103 d_jdk_33_m12_102 rfl (AT.ext hE110) (lt100 hq) (tensAt hq) ?_
          refine Go.bastore (ds.length + 0) (((Int32.ofNat (48 + y_ / 10 % 10))).toInt8.toInt32) (((ds ++ List.replicate 0 0 ++ ((Int32.ofNat (48 + y_ / 10 % 10)) :: ((Int32.ofNat (48 + y_ % 10)) :: suf))).map fun (c : Int32) => c.toInt8.toInt32).map Value.int) 104 d_jdk_33_m12_103 rfl A108 (posOk (by omega) hc) (clampN (by omega)) (fill_lt ds ((Int32.ofNat (48 + y_ % 10)) :: suf) 0) rfl (set_fill ds ((Int32.ofNat (48 + y_ % 10)) :: suf) 0 (Int32.ofNat (48 + y_ / 10 % 10))) S108 hz (fun hb111 K111 A111 S111 c111 => ?_)
          have KK111 := KK108.trans K111 (fun x q => Or.inl q)
          refine Go.iload 106 d_jdk_33_m12_104 rfl rfl ?_
          refine Go.ifeq 118 109 d_jdk_33_m12_106 (by decide) rfl rfl (fun q112 => ?_) (fun q112 => absurd rfl q112)
          refine Go.iload 120 d_jdk_33_m12_118 rfl rfl ?_
          have fin : ds ++ List.replicate 0 0 ++ ((Int32.ofNat (48 + y_ / 10 % 10)) :: ((Int32.ofNat (48 + y_ % 10)) :: suf)) = ds ++ dgL s_ n_ := by rw [← he]; simp [dgL]
          have AF := A111
          rw [fin] at AF
          exact Go.ireturn d_jdk_33_m12_120 rfl rfl (by simp) (nl rfl) (nl rfl) (fun vm' ch => ⟨_, rfl, KK111, AF⟩)
      · obtain ⟨t1, rfl, nd1⟩ := nd.big hq
        refine Go.iload_n 23 d_jdk_33_m12_22 rfl rfl ?_
        refine Go.bipush (-100) 25 d_jdk_33_m12_23 rfl rfl ?_
        refine Go.if_icmpgt 72 28 d_jdk_33_m12_25 (by decide) rfl rfl (fun q113 => absurd ((negc hy (p := 100) (by decide)).mp q113) hq) (fun q113 => ?_)
        refine Go.iload_n 29 d_jdk_33_m12_28 rfl rfl ?_
        refine Go.bipush (100) 31 d_jdk_33_m12_29 rfl rfl ?_
        refine Go.idiv (-(Int32.ofNat (y_ / 100))) 32 d_jdk_33_m12_31 rfl (by decide) (div100 hy nd.pos) ?_
        refine Go.istore_n #[.val (.int (-(Int32.ofNat y_))), .val (.int (Int32.ofNat (ds.length + s_))), .val (.ref d), .val (.int (-(Int32.ofNat (y_ / 100)))), l4, .val (.int (Int32.ofNat (ds.length + (t1 + 2)))), .val (.int (0 : Int32))] 33 d_jdk_33_m12_32 rfl (XS.store1 rfl o3 rfl) ?_
        refine Go.iload_n 34 d_jdk_33_m12_33 rfl rfl ?_
        refine Go.bipush (100) 36 d_jdk_33_m12_34 rfl rfl ?_
        refine Go.imul ((-(Int32.ofNat (y_ / 100))) * (100 : Int32)) 37 d_jdk_33_m12_36 rfl rfl ?_
        refine Go.iload_n 38 d_jdk_33_m12_37 rfl rfl ?_
        refine Go.isub (Int32.ofNat (y_ % 100)) 39 d_jdk_33_m12_38 rfl (rem100 hy nd.pos) ?_
        refine Go.istore #[.val (.int (-(Int32.ofNat y_))), .val (.int (Int32.ofNat (ds.length + s_))), .val (.ref d), .val (.int (-(Int32.ofNat (y_ / 100)))), .val (.int (Int32.ofNat (y_ % 100))), .val (.int (Int32.ofNat (ds.length + (t1 + 2)))), .val (.int (0 : Int32))] 41 d_jdk_33_m12_39 rfl (XS.store1 rfl o4 rfl) ?_
        refine Go.iload_n 42 d_jdk_33_m12_41 rfl rfl ?_
        refine Go.istore_n #[.val (.int (-(Int32.ofNat (y_ / 100)))), .val (.int (Int32.ofNat (ds.length + s_))), .val (.ref d), .val (.int (-(Int32.ofNat (y_ / 100)))), .val (.int (Int32.ofNat (y_ % 100))), .val (.int (Int32.ofNat (ds.length + (t1 + 2)))), .val (.int (0 : Int32))] 43 d_jdk_33_m12_42 rfl rfl ?_
        refine Go.aload_n 44 d_jdk_33_m12_43 rfl rfl rfl ?_
        refine Go.iinc (Int32.ofNat (ds.length + (t1 + 1))) #[.val (.int (-(Int32.ofNat (y_ / 100)))), .val (.int (Int32.ofNat (ds.length + s_))), .val (.ref d), .val (.int (-(Int32.ofNat (y_ / 100)))), .val (.int (Int32.ofNat (y_ % 100))), .val (.int (Int32.ofNat (ds.length + (t1 + 1)))), .val (.int (0 : Int32))] 47 d_jdk_33_m12_44 rfl rfl (decN (by omega) (by omega)) rfl ?_
        refine Go.iload 49 d_jdk_33_m12_47 rfl rfl ?_
        refine Go.know fun hE114 _ _ => ?_
        refine Go.getstatic 52 d_jdk_33_m12_49 rfl (W.1 151 rfl) (dO.ext hE114) ?_
        refine Go.iload 54 d_jdk_33_m12_52 rfl rfl ?_
        refine Go.baload (.int (Int32.ofNat (48 + y_ % 10))) 55 d_jdk_33_m12_54 rfl (AO.ext hE114) (lt100 (Nat.mod_lt _ (by decide))) (onesR y_) ?_
        refine Go.bastore (ds.length + (t1 + 1)) (((Int32.ofNat (48 + y_ % 10))).toInt8.toInt32) (((ds ++ List.replicate (t1 + 1) 0 ++ ((Int32.ofNat (48 + y_ % 10)) :: suf)).map fun (c : Int32) => c.toInt8.toInt32).map Value.int) 56 d_jdk_33_m12_55 rfl A (posOk (by omega) hc) (clampN (by omega)) (fill_lt ds suf (t1 + 1)) rfl (set_fill ds suf (t1 + 1) (Int32.ofNat (48 + y_ % 10))) Sd hz (fun hb115 K115 A115 S115 c115 => ?_)
        have KK115 := K.trans K115 (fun x q => Or.inl q)
        refine Go.aload_n 57 d_jdk_33_m12_56 rfl rfl rfl ?_
        refine Go.iinc (Int32.ofNat (ds.length + t1)) #[.val (.int (-(Int32.ofNat (y_ / 100)))), .val (.int (Int32.ofNat (ds.length + s_))), .val (.ref d), .val (.int (-(Int32.ofNat (y_ / 100)))), .val (.int (Int32.ofNat (y_ % 100))), .val (.int (Int32.ofNat (ds.length + t1))), .val (.int (0 : Int32))] 60 d_jdk_33_m12_57 rfl rfl (decN (by omega) (by omega)) rfl ?_
        refine Go.iload 62 d_jdk_33_m12_60 rfl rfl ?_
        refine Go.know fun hE116 _ _ => ?_
        refine Go.getstatic 65 d_jdk_33_m12_62 rfl (W.1 223 rfl) (dT.ext hE116) ?_
        refine Go.iload 67 d_jdk_33_m12_65 rfl rfl ?_
        refine Go.baload (.int (Int32.ofNat (48 + y_ / 10 % 10))) 68 d_jdk_33_m12_67 rfl (AT.ext hE116) (lt100 (Nat.mod_lt _ (by decide))) (tensR y_) ?_
        refine Go.bastore (ds.length + t1) (((Int32.ofNat (48 + y_ / 10 % 10))).toInt8.toInt32) (((ds ++ List.replicate t1 0 ++ ((Int32.ofNat (48 + y_ / 10 % 10)) :: ((Int32.ofNat (48 + y_ % 10)) :: suf))).map fun (c : Int32) => c.toInt8.toInt32).map Value.int) 69 d_jdk_33_m12_68 rfl A115 (posOk (by omega) hc) (clampN (by omega)) (fill_lt ds ((Int32.ofNat (48 + y_ % 10)) :: suf) t1) rfl (set_fill ds ((Int32.ofNat (48 + y_ % 10)) :: suf) t1 (Int32.ofNat (48 + y_ / 10 % 10))) S115 hz (fun hb117 K117 A117 S117 c117 => ?_)
        have KK117 := KK115.trans K117 (fun x q => Or.inl q)
        refine Go.goto 22 d_jdk_33_m12_69 (by decide) rfl ?_
        refine ih t1 (by omega) (y_ / 100) ((Int32.ofNat (48 + y_ / 10 % 10)) :: ((Int32.ofNat (48 + y_ % 10)) :: suf)) hb117 _ _ (Or.inr ⟨_, rfl, rfl⟩) (Or.inr ⟨_, rfl, rfl⟩) nd1 (by omega) (by omega) ?_ KK117 A117 S117
        rw [← he, show y_ / 100 = y_ / 10 / 10 from by omega]
        simp [dgL]
  exact J s_ n_ [] h _ _ (Or.inl rfl) (Or.inl rfl) hs hn hl (by simp) (Keep.refl h [d]) (A.pad (fill0 ds s_)) (chi.safe A.lt Sd)
theorem d_jdk_68_m32_0 : decode jdk_68_method_32_code 0 = .ok (.aload_n 0, 1) := by decide +kernel
theorem d_jdk_68_m32_1 : decode jdk_68_method_32_code 1 = .ok (.getfield 79, 3) := by decide +kernel
theorem d_jdk_68_m32_4 : decode jdk_68_method_32_code 4 = .ok (.istore_n 2, 1) := by decide +kernel
theorem d_jdk_68_m32_5 : decode jdk_68_method_32_code 5 = .ok (.iload_n 2, 1) := by decide +kernel
theorem d_jdk_68_m32_6 : decode jdk_68_method_32_code 6 = .ok (.iload_n 1, 1) := by decide +kernel
theorem d_jdk_68_m32_7 : decode jdk_68_method_32_code 7 = .ok (.invokestatic 245, 3) := by decide +kernel
theorem d_jdk_68_m32_10 : decode jdk_68_method_32_code 10 = .ok (.iadd, 1) := by decide +kernel
theorem d_jdk_68_m32_11 : decode jdk_68_method_32_code 11 = .ok (.istore_n 3, 1) := by decide +kernel
theorem d_jdk_68_m32_12 : decode jdk_68_method_32_code 12 = .ok (.aload_n 0, 1) := by decide +kernel
theorem d_jdk_68_m32_13 : decode jdk_68_method_32_code 13 = .ok (.iload_n 3, 1) := by decide +kernel
theorem d_jdk_68_m32_14 : decode jdk_68_method_32_code 14 = .ok (.invokevirtual 100, 3) := by decide +kernel
theorem d_jdk_68_m32_17 : decode jdk_68_method_32_code 17 = .ok (.aload_n 0, 1) := by decide +kernel
theorem d_jdk_68_m32_18 : decode jdk_68_method_32_code 18 = .ok (.invokevirtual 83, 3) := by decide +kernel
theorem d_jdk_68_m32_21 : decode jdk_68_method_32_code 21 = .ok (.ifCond .eq 16, 3) := by decide +kernel
theorem d_jdk_68_m32_24 : decode jdk_68_method_32_code 24 = .ok (.iload_n 1, 1) := by decide +kernel
theorem d_jdk_68_m32_25 : decode jdk_68_method_32_code 25 = .ok (.iload_n 3, 1) := by decide +kernel
theorem d_jdk_68_m32_26 : decode jdk_68_method_32_code 26 = .ok (.aload_n 0, 1) := by decide +kernel
theorem d_jdk_68_m32_27 : decode jdk_68_method_32_code 27 = .ok (.getfield 15, 3) := by decide +kernel
theorem d_jdk_68_m32_30 : decode jdk_68_method_32_code 30 = .ok (.invokestatic 248, 3) := by decide +kernel
theorem d_jdk_68_m32_33 : decode jdk_68_method_32_code 33 = .ok (.pop, 1) := by decide +kernel
theorem d_jdk_68_m32_34 : decode jdk_68_method_32_code 34 = .ok (.goto 14, 3) := by decide +kernel
theorem d_jdk_68_m32_37 : decode jdk_68_method_32_code 37 = .ok (.iload_n 1, 1) := by decide +kernel
theorem d_jdk_68_m32_38 : decode jdk_68_method_32_code 38 = .ok (.iload_n 2, 1) := by decide +kernel
theorem d_jdk_68_m32_39 : decode jdk_68_method_32_code 39 = .ok (.iload_n 3, 1) := by decide +kernel
theorem d_jdk_68_m32_40 : decode jdk_68_method_32_code 40 = .ok (.aload_n 0, 1) := by decide +kernel
theorem d_jdk_68_m32_41 : decode jdk_68_method_32_code 41 = .ok (.getfield 15, 3) := by decide +kernel
theorem d_jdk_68_m32_44 : decode jdk_68_method_32_code 44 = .ok (.invokestatic 251, 3) := by decide +kernel
theorem d_jdk_68_m32_47 : decode jdk_68_method_32_code 47 = .ok (.pop, 1) := by decide +kernel
theorem d_jdk_68_m32_48 : decode jdk_68_method_32_code 48 = .ok (.aload_n 0, 1) := by decide +kernel
theorem d_jdk_68_m32_49 : decode jdk_68_method_32_code 49 = .ok (.iload_n 3, 1) := by decide +kernel
theorem d_jdk_68_m32_50 : decode jdk_68_method_32_code 50 = .ok (.putfield 79, 3) := by decide +kernel
theorem d_jdk_68_m32_53 : decode jdk_68_method_32_code 53 = .ok (.aload_n 0, 1) := by decide +kernel
theorem d_jdk_68_m32_54 : decode jdk_68_method_32_code 54 = .ok (.areturn, 1) := by decide +kernel
set_option maxRecDepth 65536 in
set_option maxHeartbeats 40000000 in
theorem cAppI {l : Launch} {Z : State} {a0 : Array Value} (W : Wd Z a0) {EL : List (String × Nat)} {vm : Vm} {h : Heap} {x_ : Int32} {n_ s_ : Nat} (hx : x_ = Int32.ofNat n_) (hn : n_ < 2 ^ 31) (hs : Nd s_ n_) {o1 o2 : Addr} (D : Dg Z o1 o2) {b d : Addr} {kd : ClassId} {cap : Nat} {ds : List Int32} (B : Bld Z h b d kd cap ds) (hl : ds.length + s_ ≤ 34) (Sb : Safe Z EL vm h b) (zb : Z.heap.size ≤ b) (Sd : Safe Z EL vm h d) (hz : Z.heap.size ≤ d) (nd : d ≠ b) :
    Ctr false l Z a0 EL (⟨"java/lang/AbstractStringBuilder", "append", "(I)Ljava/lang/AbstractStringBuilder;"⟩ : MethodName) jdk_68_method_32_code 4 (some (.object "java/lang/AbstractStringBuilder")) ({ frames := 4, cells := 1, slots := 34, locals := 62 } : Room) #[.ref b, .int x_] vm h (fun v vm' h' => ∃ d' kd' cap', v = some (.ref b) ∧ Keep h h' [b, d] ∧ Bld Z h' b d' kd' cap' (ds ++ dgL s_ n_) ∧ (d' = d ∨ h.size ≤ d') ∧ Safe Z EL vm' h' d') := by
  refine Ctr.of_go (L0 := #[.val (.ref b), .val (.int x_), .unset, .unset]) (by first | exact plainFor_of_name (by first | (simp [plainName, overriddenIn]; done) | decide +kernel) | decide +kernel) (fun m => by first | (simp [entryFrame, mkF, argsToLocals, Value.category, maxLocals]; done) | rfl) (fun p e s m below meth c vmi chi => ?_)
  refine Go.aload_n 1 d_jdk_68_m32_0 rfl rfl rfl ?_
  refine Go.getfield 4 d_jdk_68_m32_1 rfl (W.1 102 rfl) B.ct ?_
  refine Go.istore_n #[.val (.ref b), .val (.int x_), .val (.int (Int32.ofNat ds.length)), .unset] 5 d_jdk_68_m32_4 rfl rfl ?_
  refine Go.iload_n 6 d_jdk_68_m32_5 rfl rfl ?_
  refine Go.iload_n 7 d_jdk_68_m32_6 rfl rfl ?_
  refine Go.invokestatic (rest := [.int (Int32.ofNat ds.length)]) 1 [.int x_] 10 d_jdk_68_m32_7 rfl (W.1 139 rfl) (W.1 140 rfl) (W.1 141 rfl) (W.1 142 rfl) (by decide) (cSS W hx hn hs) (by decide +kernel : parseMethodDescriptor "(I)I" = some ⟨[.int], (some .int)⟩) rfl rfl rfl (nl rfl) (nl rfl) (nl rfl) (nl rfl) (nl rfl) (fun v1 vm1 h1 ⟨rv, hh⟩ c1 => ?_)
  subst rv; replace hh := hh.symm; subst hh
  refine Go.iadd (Int32.ofNat (ds.length + s_)) 11 d_jdk_68_m32_10 rfl (ofNat_add' _ _) ?_
  refine Go.istore_n #[.val (.ref b), .val (.int x_), .val (.int (Int32.ofNat ds.length)), .val (.int (Int32.ofNat (ds.length + s_)))] 12 d_jdk_68_m32_11 rfl rfl ?_
  refine Go.aload_n 13 d_jdk_68_m32_12 rfl rfl rfl ?_
  refine Go.iload_n 14 d_jdk_68_m32_13 rfl rfl ?_
  have f2 := CHr.safe (CHr.trans chi c1) B.e.lt Sb
  have L2 := Nat.lt_of_lt_of_le B.e.lt (CHr.trans chi c1).2.1
  have f3 := CHr.safe (CHr.trans chi c1) B.ar.lt Sd
  have L3 := Nat.lt_of_lt_of_le B.ar.lt (CHr.trans chi c1).2.1
  refine Go.invokevirtual (rest := []) 0 b [.int (Int32.ofNat (ds.length + s_))] 17 d_jdk_68_m32_14 rfl B.e (W.1 104 rfl) (declares_of (W.1 105 rfl) (W.1 108 rfl)) (fun s hs => notFace_of_selects (args := #[]) (mvT hs (W.1 107 rfl))) (W.1 107 rfl) (W.1 105 rfl) (W.1 73 rfl) (W.1 108 rfl) (by decide) (cEns W (n_ := ds.length + s_) hl B f2 zb f3 hz nd) (by decide +kernel : parseMethodDescriptor "(I)V" = some ⟨[.int], none⟩) rfl rfl rfl (nl rfl) (nl rfl) (nl rfl) (nl rfl) (nl rfl) (fun v4 vm4 h4 ⟨rv, K0, d1, kd1, cap1, hn1, B1, o1_, S1_⟩ c4 => ?_)
  have o1 := o1_
  subst rv
  have hz1 : Z.heap.size ≤ d1 := o1.elim (fun q => by rw [q]; exact hz) (fun q => Nat.le_trans zb (Nat.le_trans (Nat.le_of_lt B.e.lt) q))
  have nd1 : d1 ≠ b := o1.elim (fun q => by rw [q]; exact nd) (fun q => (ne_of_new B.e.lt q).symm)
  refine Go.aload_n 18 d_jdk_68_m32_17 rfl rfl rfl ?_
  refine Go.invokevirtual (rest := []) 0 b [] 21 d_jdk_68_m32_18 rfl B1.e (W.1 143 rfl) (W.1 144 rfl) (fun s hs => notFace_of_selects (args := #[]) (mvT hs (W.1 146 rfl))) (W.1 146 rfl) (W.1 145 rfl) (W.1 73 rfl) (W.1 147 rfl) (by decide) (cIsL W B1) (by decide +kernel : parseMethodDescriptor "()Z" = some ⟨[], (some .boolean)⟩) rfl rfl rfl (nl rfl) (nl rfl) (nl rfl) (nl rfl) (nl rfl) (fun v5 vm5 h5 ⟨rv, hh⟩ c5 => ?_)
  subst rv; replace hh := hh.symm; subst hh
  refine Go.ifeq 37 24 d_jdk_68_m32_21 (by decide) rfl rfl (fun q6 => absurd q6 (by decide)) (fun q6 => ?_)
  refine Go.iload_n 25 d_jdk_68_m32_24 rfl rfl ?_
  refine Go.iload_n 26 d_jdk_68_m32_25 rfl rfl ?_
  refine Go.aload_n 27 d_jdk_68_m32_26 rfl rfl rfl ?_
  refine Go.getfield 30 d_jdk_68_m32_27 rfl (W.1 77 rfl) B1.va ?_
  have f7 := CHr.safe c5 B1.ar.lt S1_
  have L7 := Nat.lt_of_lt_of_le B1.ar.lt c5.2.1
  refine Go.invokestatic (rest := []) 0 [.int x_, .int (Int32.ofNat (ds.length + s_)), .ref d1] 33 d_jdk_68_m32_30 rfl (W.1 148 rfl) (W.1 149 rfl) (W.1 141 rfl) (W.1 150 rfl) (by decide) (cGC W hx hn hs D B1.ar hn1 B1.c34 f7 hz1) (by decide +kernel : parseMethodDescriptor "(II[B)I" = some ⟨[.int, .int, (.array .byte)], (some .int)⟩) rfl rfl rfl (nl rfl) (nl rfl) (nl rfl) (nl rfl) (nl rfl) (fun v8 vm8 h8 ⟨w_, rv, K, A⟩ c8 => ?_)
  subst rv
  have nb : b ∉ [d1] := fun q => nd1 (List.mem_singleton.mp q).symm
  have b1 := B1.e.keep K
  have b2 := B1.co.keep K nb
  have b3 := B1.va.keep K nb
  have b4 := B1.ct.keep K nb
  have b5 := B1.ex.keep K
  refine Go.pop 34 d_jdk_68_m32_33 rfl rfl ?_
  refine Go.goto 48 d_jdk_68_m32_34 (by decide) rfl ?_
  refine Go.aload_n 49 d_jdk_68_m32_48 rfl rfl rfl ?_
  refine Go.iload_n 50 d_jdk_68_m32_49 rfl rfl ?_
  have f9 := CHr.safe (CHr.trans c4 (CHr.trans c5 c8)) L2 f2
  have L9 := Nat.lt_of_lt_of_le L2 (CHr.trans c4 (CHr.trans c5 c8)).2.1
  refine Go.putfield 53 d_jdk_68_m32_50 rfl (W.1 102 rfl) b4 b1 (Or.inl (W.1 103 rfl)) (W.1 64 rfl) (ty := .int) (by decide) rfl rfl f9 zb (fun h10 X10 S10 c10 => ?_)
  have f11 := CHr.safe (CHr.trans c8 c10) L7 f7
  have L11 := Nat.lt_of_lt_of_le L7 (CHr.trans c8 c10).2.1
  refine Go.aload_n 54 d_jdk_68_m32_53 rfl rfl rfl ?_
  have len : (ds ++ dgL s_ n_).length = ds.length + s_ := by rw [List.length_append, dgL_len]
  have K9 : Keep h h10 [b, d] := (((Keep.refl h [b, d]).trans K0 (fun x q => Or.inl (by cases List.mem_singleton.mp q; simp))).trans K (fun x q => by cases List.mem_singleton.mp q; exact o1.elim (fun q => Or.inl (by rw [q]; simp)) Or.inr)).wr X10 (Or.inl (by simp))
  exact Go.areturn d_jdk_68_m32_54 rfl rfl rfl (nl rfl) (nl rfl) (fun vm' ch => ⟨d1, kd1, cap1, rfl, K9, ⟨b1.wr X10, b2.other X10 (Or.inr (slot_ne (a0 := a0) (C := "java/lang/StringBuilder") (Or.inl (W.1 80 rfl)) (Or.inl (W.1 103 rfl)) (by decide) (t := .byte) (t' := .int) (by decide) (by decide))), b3.other X10 (Or.inr (slot_ne (a0 := a0) (C := "java/lang/StringBuilder") (Or.inl (W.1 78 rfl)) (Or.inl (W.1 103 rfl)) (by decide) (t := (.array .byte)) (t' := .int) (by decide) (by decide))), by rw [len]; exact b4.same X10, Arv.other A X10 nd1, ⟨b5.wr X10, B1.cp⟩, by rw [len]; exact hn1, fun c hc => (List.mem_append.mp hc).elim (B1.ch c) (dgL_ch s_ n_ c)⟩, o1, ch.safe (Arv.other A X10 nd1).lt f11⟩)
theorem d_jdk_67_m15_0 : decode jdk_67_method_15_code 0 = .ok (.aload_n 0, 1) := by decide +kernel
theorem d_jdk_67_m15_1 : decode jdk_67_method_15_code 1 = .ok (.iload_n 1, 1) := by decide +kernel
theorem d_jdk_67_m15_2 : decode jdk_67_method_15_code 2 = .ok (.invokespecial 53, 3) := by decide +kernel
theorem d_jdk_67_m15_5 : decode jdk_67_method_15_code 5 = .ok (.pop, 1) := by decide +kernel
theorem d_jdk_67_m15_6 : decode jdk_67_method_15_code 6 = .ok (.aload_n 0, 1) := by decide +kernel
theorem d_jdk_67_m15_7 : decode jdk_67_method_15_code 7 = .ok (.areturn, 1) := by decide +kernel
set_option maxRecDepth 65536 in
set_option maxHeartbeats 40000000 in
theorem cAppIS {l : Launch} {Z : State} {a0 : Array Value} (W : Wd Z a0) {EL : List (String × Nat)} {vm : Vm} {h : Heap} {x_ : Int32} {n_ s_ : Nat} (hx : x_ = Int32.ofNat n_) (hn : n_ < 2 ^ 31) (hs : Nd s_ n_) {o1 o2 : Addr} (D : Dg Z o1 o2) {b d : Addr} {kd : ClassId} {cap : Nat} {ds : List Int32} (B : Bld Z h b d kd cap ds) (hl : ds.length + s_ ≤ 34) (Sb : Safe Z EL vm h b) (zb : Z.heap.size ≤ b) (Sd : Safe Z EL vm h d) (hz : Z.heap.size ≤ d) (nd : d ≠ b) :
    Ctr false l Z a0 EL (⟨"java/lang/StringBuilder", "append", "(I)Ljava/lang/StringBuilder;"⟩ : MethodName) jdk_67_method_15_code 2 (some (.object "java/lang/StringBuilder")) ({ frames := 5, cells := 1, slots := 34, locals := 77 } : Room) #[.ref b, .int x_] vm h (fun v vm' h' => ∃ d' kd' cap', v = some (.ref b) ∧ Keep h h' [b, d] ∧ Bld Z h' b d' kd' cap' (ds ++ dgL s_ n_) ∧ (d' = d ∨ h.size ≤ d') ∧ Safe Z EL vm' h' d') := by
  refine Ctr.of_go (L0 := #[.val (.ref b), .val (.int x_)]) (by first | exact plainFor_of_name (by first | (simp [plainName, overriddenIn]; done) | decide +kernel) | decide +kernel) (fun m => by first | (simp [entryFrame, mkF, argsToLocals, Value.category, maxLocals]; done) | rfl) (fun p e s m below meth c vmi chi => ?_)
  refine Go.aload_n 1 d_jdk_67_m15_0 rfl rfl rfl ?_
  refine Go.iload_n 2 d_jdk_67_m15_1 rfl rfl ?_
  refine Go.super (rest := []) 0 b [.int x_] 5 d_jdk_67_m15_2 rfl (by decide) (W.1 135 rfl) (same_of (W.1 136 rfl) (W.1 167 rfl) rfl (by decide)) (W.1 136 rfl) (W.1 88 rfl) (W.1 73 rfl) (W.1 138 rfl) (Ins.of_exa B.e (W.1 72 rfl)) (cAppI W hx hn hs D B hl (chi.safe B.e.lt Sb) zb (chi.safe B.ar.lt Sd) hz nd) (by decide +kernel : parseMethodDescriptor "(I)Ljava/lang/AbstractStringBuilder;" = some ⟨[.int], (some (.object "java/lang/AbstractStringBuilder"))⟩) rfl rfl rfl (nl rfl) (nl rfl) (nl rfl) (nl rfl) (nl rfl) (fun v1 vm1 h1 ⟨d1, kd1, cap1, rv, K, B1, o1_, S1_⟩ c1 => ?_)
  subst rv
  refine Go.pop 6 d_jdk_67_m15_5 rfl rfl ?_
  refine Go.aload_n 7 d_jdk_67_m15_6 rfl rfl rfl ?_
  exact Go.areturn d_jdk_67_m15_7 rfl rfl rfl (nl rfl) (nl rfl) (fun vm' ch => ⟨d1, kd1, cap1, rfl, K, B1, o1_, ch.safe B1.ar.lt S1_⟩)
theorem d_jdk_68_m64_0 : decode jdk_68_method_64_code 0 = .ok (.aload_n 0, 1) := by decide +kernel
theorem d_jdk_68_m64_1 : decode jdk_68_method_64_code 1 = .ok (.getfield 15, 3) := by decide +kernel
theorem d_jdk_68_m64_4 : decode jdk_68_method_64_code 4 = .ok (.areturn, 1) := by decide +kernel
set_option maxRecDepth 65536 in
set_option maxHeartbeats 40000000 in
theorem cGV {l : Launch} {Z : State} {a0 : Array Value} (W : Wd Z a0) {EL : List (String × Nat)} {vm : Vm} {h : Heap} {b d : Addr} {kd : ClassId} {cap : Nat} {cs : List Int32} (B : Bld Z h b d kd cap cs) :
    Ctr false l Z a0 EL (⟨"java/lang/AbstractStringBuilder", "getValue", "()[B"⟩ : MethodName) jdk_68_method_64_code 1 (some (.array .byte)) ({ frames := 0, cells := 0, slots := 0, locals := 0 } : Room) #[.ref b] vm h (fun v vm' h' => v = some (.ref d) ∧ h' = h) := by
  refine Ctr.of_go (L0 := #[.val (.ref b)]) (by first | exact plainFor_of_name (by first | (simp [plainName, overriddenIn]; done) | decide +kernel) | decide +kernel) (fun m => by first | (simp [entryFrame, mkF, argsToLocals, Value.category, maxLocals]; done) | rfl) (fun p e s m below meth c vmi chi => ?_)
  refine Go.aload_n 1 d_jdk_68_m64_0 rfl rfl rfl ?_
  refine Go.getfield 4 d_jdk_68_m64_1 rfl (W.1 77 rfl) B.va ?_
  exact Go.areturn d_jdk_68_m64_4 rfl rfl rfl (nl rfl) (nl rfl) (fun vm' ch => ⟨rfl, rfl⟩)
theorem d_jdk_68_m6_0 : decode jdk_68_method_6_code 0 = .ok (.aload_n 0, 1) := by decide +kernel
theorem d_jdk_68_m6_1 : decode jdk_68_method_6_code 1 = .ok (.getfield 79, 3) := by decide +kernel
theorem d_jdk_68_m6_4 : decode jdk_68_method_6_code 4 = .ok (.ireturn, 1) := by decide +kernel
set_option maxRecDepth 65536 in
set_option maxHeartbeats 40000000 in
theorem cLn {l : Launch} {Z : State} {a0 : Array Value} (W : Wd Z a0) {EL : List (String × Nat)} {vm : Vm} {h : Heap} {b d : Addr} {kd : ClassId} {cap : Nat} {cs : List Int32} (B : Bld Z h b d kd cap cs) :
    Ctr false l Z a0 EL (⟨"java/lang/AbstractStringBuilder", "length", "()I"⟩ : MethodName) jdk_68_method_6_code 1 (some .int) ({ frames := 0, cells := 0, slots := 0, locals := 0 } : Room) #[.ref b] vm h (fun v vm' h' => v = some (.int (Int32.ofNat cs.length)) ∧ h' = h) := by
  refine Ctr.of_go (L0 := #[.val (.ref b)]) (by first | exact plainFor_of_name (by first | (simp [plainName, overriddenIn]; done) | decide +kernel) | decide +kernel) (fun m => by first | (simp [entryFrame, mkF, argsToLocals, Value.category, maxLocals]; done) | rfl) (fun p e s m below meth c vmi chi => ?_)
  refine Go.aload_n 1 d_jdk_68_m6_0 rfl rfl rfl ?_
  refine Go.getfield 4 d_jdk_68_m6_1 rfl (W.1 102 rfl) B.ct ?_
  exact Go.ireturn d_jdk_68_m6_4 rfl rfl (by simp) (nl rfl) (nl rfl) (fun vm' ch => ⟨rfl, rfl⟩)
theorem d_jdk_67_m93_0 : decode jdk_67_method_93_code 0 = .ok (.aload_n 0, 1) := by decide +kernel
theorem d_jdk_67_m93_1 : decode jdk_67_method_93_code 1 = .ok (.invokespecial 343, 3) := by decide +kernel
theorem d_jdk_67_m93_4 : decode jdk_67_method_93_code 4 = .ok (.ireturn, 1) := by decide +kernel
set_option maxRecDepth 65536 in
set_option maxHeartbeats 40000000 in
theorem cLnS {l : Launch} {Z : State} {a0 : Array Value} (W : Wd Z a0) {EL : List (String × Nat)} {vm : Vm} {h : Heap} {b d : Addr} {kd : ClassId} {cap : Nat} {cs : List Int32} (B : Bld Z h b d kd cap cs) :
    Ctr false l Z a0 EL (⟨"java/lang/StringBuilder", "length", "()I"⟩ : MethodName) jdk_67_method_93_code 1 (some .int) ({ frames := 1, cells := 0, slots := 0, locals := 12 } : Room) #[.ref b] vm h (fun v vm' h' => v = some (.int (Int32.ofNat cs.length)) ∧ h' = h) := by
  refine Ctr.of_go (L0 := #[.val (.ref b)]) (by first | exact plainFor_of_name (by first | (simp [plainName, overriddenIn]; done) | decide +kernel) | decide +kernel) (fun m => by first | (simp [entryFrame, mkF, argsToLocals, Value.category, maxLocals]; done) | rfl) (fun p e s m below meth c vmi chi => ?_)
  refine Go.aload_n 1 d_jdk_67_m93_0 rfl rfl rfl ?_
  refine Go.super (rest := []) 0 b [] 4 d_jdk_67_m93_1 rfl (by decide) (W.1 175 rfl) (same_of (W.1 171 rfl) (W.1 167 rfl) rfl (by decide)) (W.1 171 rfl) (W.1 88 rfl) (W.1 73 rfl) (W.1 176 rfl) (Ins.of_exa B.e (W.1 72 rfl)) (cLn W B) (by decide +kernel : parseMethodDescriptor "()I" = some ⟨[], (some .int)⟩) rfl rfl rfl (nl rfl) (nl rfl) (nl rfl) (nl rfl) (nl rfl) (fun v1 vm1 h1 ⟨rv, hh⟩ c1 => ?_)
  subst rv; replace hh := hh.symm; subst hh
  exact Go.ireturn d_jdk_67_m93_4 rfl rfl (by simp) (nl rfl) (nl rfl) (fun vm' ch => ⟨rfl, rfl⟩)
theorem d_jdk_65_m131_0 : decode jdk_65_method_131_code 0 = .ok (.iload_n 1, 1) := by decide +kernel
theorem d_jdk_65_m131_1 : decode jdk_65_method_131_code 1 = .ok (.iload_n 0, 1) := by decide +kernel
theorem d_jdk_65_m131_2 : decode jdk_65_method_131_code 2 = .ok (.if_icmp .ge 35, 3) := by decide +kernel
theorem d_jdk_65_m131_5 : decode jdk_65_method_131_code 5 = .ok (.new 43, 3) := by decide +kernel
theorem d_jdk_65_m131_8 : decode jdk_65_method_131_code 8 = .ok (.dup, 1) := by decide +kernel
theorem d_jdk_65_m131_9 : decode jdk_65_method_131_code 9 = .ok (.new 45, 3) := by decide +kernel
theorem d_jdk_65_m131_12 : decode jdk_65_method_131_code 12 = .ok (.dup, 1) := by decide +kernel
theorem d_jdk_65_m131_13 : decode jdk_65_method_131_code 13 = .ok (.invokespecial 47, 3) := by decide +kernel
theorem d_jdk_65_m131_16 : decode jdk_65_method_131_code 16 = .ok (.iload_n 0, 1) := by decide +kernel
theorem d_jdk_65_m131_17 : decode jdk_65_method_131_code 17 = .ok (.invokevirtual 54, 3) := by decide +kernel
theorem d_jdk_65_m131_20 : decode jdk_65_method_131_code 20 = .ok (.ldc_w 337, 3) := by decide +kernel
theorem d_jdk_65_m131_23 : decode jdk_65_method_131_code 23 = .ok (.invokevirtual 50, 3) := by decide +kernel
theorem d_jdk_65_m131_26 : decode jdk_65_method_131_code 26 = .ok (.iload_n 1, 1) := by decide +kernel
theorem d_jdk_65_m131_27 : decode jdk_65_method_131_code 27 = .ok (.invokevirtual 54, 3) := by decide +kernel
theorem d_jdk_65_m131_30 : decode jdk_65_method_131_code 30 = .ok (.invokevirtual 61, 3) := by decide +kernel
theorem d_jdk_65_m131_33 : decode jdk_65_method_131_code 33 = .ok (.invokespecial 65, 3) := by decide +kernel
theorem d_jdk_65_m131_36 : decode jdk_65_method_131_code 36 = .ok (.athrow, 1) := by decide +kernel
theorem d_jdk_65_m131_37 : decode jdk_65_method_131_code 37 = .ok (.return_, 1) := by decide +kernel
set_option maxRecDepth 65536 in
set_option maxHeartbeats 40000000 in
theorem cChk {l : Launch} {Z : State} {a0 : Array Value} (W : Wd Z a0) {EL : List (String × Nat)} {vm : Vm} {h : Heap} {x_ : Int32} (q : ¬ x_ < 0) :
    Ctr false l Z a0 EL (⟨"java/util/Arrays", "checkLength", "(II)V"⟩ : MethodName) jdk_65_method_131_code 2 none ({ frames := 0, cells := 0, slots := 0, locals := 0 } : Room) #[.int (0 : Int32), .int x_] vm h (fun v vm' h' => v = none ∧ h' = h) := by
  refine Ctr.of_go (L0 := #[.val (.int (0 : Int32)), .val (.int x_)]) (by first | exact plainFor_of_name (by first | (simp [plainName, overriddenIn]; done) | decide +kernel) | decide +kernel) (fun m => by first | (simp [entryFrame, mkF, argsToLocals, Value.category, maxLocals]; done) | rfl) (fun p e s m below meth c vmi chi => ?_)
  refine Go.iload_n 1 d_jdk_65_m131_0 rfl rfl ?_
  refine Go.iload_n 2 d_jdk_65_m131_1 rfl rfl ?_
  refine Go.if_icmpge 37 5 d_jdk_65_m131_2 (by decide) rfl rfl (fun q9 => ?_) (fun q9 => absurd q9 q)
  exact Go.return_ d_jdk_65_m131_37 rfl (nl rfl) (nl rfl) (fun vm' ch => ⟨rfl, rfl⟩)
theorem d_jdk_65_m133_0 : decode jdk_65_method_133_code 0 = .ok (.iload_n 1, 1) := by decide +kernel
theorem d_jdk_65_m133_1 : decode jdk_65_method_133_code 1 = .ok (.iload_n 2, 1) := by decide +kernel
theorem d_jdk_65_m133_2 : decode jdk_65_method_133_code 2 = .ok (.invokestatic 343, 3) := by decide +kernel
theorem d_jdk_65_m133_5 : decode jdk_65_method_133_code 5 = .ok (.iload_n 2, 1) := by decide +kernel
theorem d_jdk_65_m133_6 : decode jdk_65_method_133_code 6 = .ok (.iload_n 1, 1) := by decide +kernel
theorem d_jdk_65_m133_7 : decode jdk_65_method_133_code 7 = .ok (.isub, 1) := by decide +kernel
theorem d_jdk_65_m133_8 : decode jdk_65_method_133_code 8 = .ok (.istore_n 3, 1) := by decide +kernel
theorem d_jdk_65_m133_9 : decode jdk_65_method_133_code 9 = .ok (.iload_n 3, 1) := by decide +kernel
theorem d_jdk_65_m133_10 : decode jdk_65_method_133_code 10 = .ok (.newarray .byte, 2) := by decide +kernel
theorem d_jdk_65_m133_12 : decode jdk_65_method_133_code 12 = .ok (.astore 4, 2) := by decide +kernel
theorem d_jdk_65_m133_14 : decode jdk_65_method_133_code 14 = .ok (.aload_n 0, 1) := by decide +kernel
theorem d_jdk_65_m133_15 : decode jdk_65_method_133_code 15 = .ok (.iload_n 1, 1) := by decide +kernel
theorem d_jdk_65_m133_16 : decode jdk_65_method_133_code 16 = .ok (.aload 4, 2) := by decide +kernel
theorem d_jdk_65_m133_18 : decode jdk_65_method_133_code 18 = .ok (.iconst 0, 1) := by decide +kernel
theorem d_jdk_65_m133_19 : decode jdk_65_method_133_code 19 = .ok (.aload_n 0, 1) := by decide +kernel
theorem d_jdk_65_m133_20 : decode jdk_65_method_133_code 20 = .ok (.arraylength, 1) := by decide +kernel
theorem d_jdk_65_m133_21 : decode jdk_65_method_133_code 21 = .ok (.iload_n 1, 1) := by decide +kernel
theorem d_jdk_65_m133_22 : decode jdk_65_method_133_code 22 = .ok (.isub, 1) := by decide +kernel
theorem d_jdk_65_m133_23 : decode jdk_65_method_133_code 23 = .ok (.iload_n 3, 1) := by decide +kernel
theorem d_jdk_65_m133_24 : decode jdk_65_method_133_code 24 = .ok (.invokestatic 304, 3) := by decide +kernel
theorem d_jdk_65_m133_27 : decode jdk_65_method_133_code 27 = .ok (.invokestatic 150, 3) := by decide +kernel
theorem d_jdk_65_m133_30 : decode jdk_65_method_133_code 30 = .ok (.aload 4, 2) := by decide +kernel
theorem d_jdk_65_m133_32 : decode jdk_65_method_133_code 32 = .ok (.areturn, 1) := by decide +kernel
set_option maxRecDepth 65536 in
set_option maxHeartbeats 40000000 in
theorem cCRB {l : Launch} {Z : State} {a0 : Array Value} (W : Wd Z a0) {EL : List (String × Nat)} {vm : Vm} {h : Heap} {d : Addr} {kd : ClassId} {n_ cap : Nat} {vs : List Value} (hn : n_ < cap) (hc : cap ≤ 34) (A : Arv Z h d kd .byte (Int32.ofNat cap) vs (.int 0)) :
    Ctr false l Z a0 EL (⟨"java/util/Arrays", "copyOfRangeByte", "([BII)[B"⟩ : MethodName) jdk_65_method_133_code 5 (some (.array .byte)) ({ frames := 1, cells := 1, slots := 34, locals := 18 } : Room) #[.ref d, .int (0 : Int32), .int (Int32.ofNat n_)] vm h (fun v vm' h' => ∃ r kr, v = some (.ref r) ∧ Ext h h' ∧ Arv Z h' r kr .byte (Int32.ofNat n_) vs (.int 0) ∧ h.size ≤ r) := by
  refine Ctr.of_go (L0 := #[.val (.ref d), .val (.int (0 : Int32)), .val (.int (Int32.ofNat n_)), .unset, .unset]) (by first | exact plainFor_of_name (by first | (simp [plainName, overriddenIn]; done) | decide +kernel) | decide +kernel) (fun m => by first | (simp [entryFrame, mkF, argsToLocals, Value.category, maxLocals]; done) | rfl) (fun p e s m below meth c vmi chi => ?_)
  refine Go.iload_n 1 d_jdk_65_m133_0 rfl rfl ?_
  refine Go.iload_n 2 d_jdk_65_m133_1 rfl rfl ?_
  refine Go.invokestatic (rest := []) 0 [.int (0 : Int32), .int (Int32.ofNat n_)] 5 d_jdk_65_m133_2 rfl (W.1 185 rfl) (W.1 186 rfl) (W.1 180 rfl) (W.1 187 rfl) (by decide) (cChk W (nneg (by omega))) (by decide +kernel : parseMethodDescriptor "(II)V" = some ⟨[.int, .int], none⟩) rfl rfl rfl (nl rfl) (nl rfl) (nl rfl) (nl rfl) (nl rfl) (fun v1 vm1 h1 ⟨rv, hh⟩ c1 => ?_)
  subst rv; replace hh := hh.symm; subst hh
  refine Go.iload_n 6 d_jdk_65_m133_5 rfl rfl ?_
  refine Go.iload_n 7 d_jdk_65_m133_6 rfl rfl ?_
  refine Go.isub (Int32.ofNat n_) 8 d_jdk_65_m133_7 rfl (Int32.sub_zero _) ?_
  refine Go.istore_n #[.val (.ref d), .val (.int (0 : Int32)), .val (.int (Int32.ofNat n_)), .val (.int (Int32.ofNat n_)), .unset] 9 d_jdk_65_m133_8 rfl rfl ?_
  refine Go.iload_n 10 d_jdk_65_m133_9 rfl rfl ?_
  refine Go.newarrayE (aty := .byte) (z := (Int32.ofNat n_)) (ad := "[B") (by decide +kernel) 34 12 d_jdk_65_m133_10 rfl (W.1 19 rfl) (nneg (by omega)) (by rw [clampN (by omega)]; omega) (by decide) (nl rfl) (nl rfl) (fun r1 h2 e2 E2 ⟨k2, B2, Y2⟩ S2 z2 c2 => ?_)
  refine Go.astore #[.val (.ref d), .val (.int (0 : Int32)), .val (.int (Int32.ofNat n_)), .val (.int (Int32.ofNat n_)), .val (.ref r1)] 14 d_jdk_65_m133_12 rfl rfl rfl ?_
  refine Go.aload_n 15 d_jdk_65_m133_14 rfl rfl rfl ?_
  refine Go.iload_n 16 d_jdk_65_m133_15 rfl rfl ?_
  refine Go.aload 18 d_jdk_65_m133_16 rfl rfl rfl ?_
  refine Go.iconst (0) 19 d_jdk_65_m133_18 rfl rfl ?_
  refine Go.aload_n 20 d_jdk_65_m133_19 rfl rfl rfl ?_
  have f3 := A.ext E2
  refine Go.arraylength 21 d_jdk_65_m133_20 rfl f3 ?_
  refine Go.iload_n 22 d_jdk_65_m133_21 rfl rfl ?_
  refine Go.isub (Int32.ofNat cap) 23 d_jdk_65_m133_22 rfl (Int32.sub_zero _) ?_
  refine Go.iload_n 24 d_jdk_65_m133_23 rfl rfl ?_
  refine Go.invokestatic (rest := [.int (0 : Int32), .ref r1, .int (0 : Int32), .ref d]) 4 [.int (Int32.ofNat cap), .int (Int32.ofNat n_)] 27 d_jdk_65_m133_24 rfl (W.1 188 rfl) (W.1 189 rfl) (W.1 190 rfl) (W.1 191 rfl) (by decide) (cMin W (r_ := Int32.ofNat n_) (if_pos ((ofNat_lt (by omega) (by omega)).mpr hn))) (by decide +kernel : parseMethodDescriptor "(II)I" = some ⟨[.int, .int], (some .int)⟩) rfl rfl rfl (nl rfl) (nl rfl) (nl rfl) (nl rfl) (nl rfl) (fun v4 vm4 h4 ⟨rv, hh⟩ c4 => ?_)
  subst rv; replace hh := hh.symm; subst hh
  have f5 := CHr.safe c4 B2.lt S2
  have L5 := Nat.lt_of_lt_of_le B2.lt c4.2.1
  refine Go.acopy 0 0 n_ vs 30 d_jdk_65_m133_27 rfl (W.1 192 rfl) (W.1 128 rfl) (W.1 126 rfl) (W.1 127 rfl) f3 B2 (by rw [clampN (by omega)]; omega) (by rw [clampN (by omega)]; omega) (cr_get (by omega)) rfl rfl (nl rfl) (nl rfl) f5 z2 (fun hc9 K9 A9 S9 cc9 => ?_)
  refine Go.aload 32 d_jdk_65_m133_30 rfl rfl rfl ?_
  exact Go.areturn d_jdk_65_m133_32 rfl rfl rfl (nl rfl) (nl rfl) (fun vm' ch => ⟨r1, k2, rfl, Ext.kp1 E2 K9 e2, A9, Nat.le_of_eq e2.symm⟩)
theorem d_jdk_65_m132_0 : decode jdk_65_method_132_code 0 = .ok (.iload_n 1, 1) := by decide +kernel
theorem d_jdk_65_m132_1 : decode jdk_65_method_132_code 1 = .ok (.ifCond .ne 9, 3) := by decide +kernel
theorem d_jdk_65_m132_4 : decode jdk_65_method_132_code 4 = .ok (.iload_n 2, 1) := by decide +kernel
theorem d_jdk_65_m132_5 : decode jdk_65_method_132_code 5 = .ok (.aload_n 0, 1) := by decide +kernel
theorem d_jdk_65_m132_6 : decode jdk_65_method_132_code 6 = .ok (.arraylength, 1) := by decide +kernel
theorem d_jdk_65_m132_7 : decode jdk_65_method_132_code 7 = .ok (.if_icmp .eq 10, 3) := by decide +kernel
theorem d_jdk_65_m132_10 : decode jdk_65_method_132_code 10 = .ok (.aload_n 0, 1) := by decide +kernel
theorem d_jdk_65_m132_11 : decode jdk_65_method_132_code 11 = .ok (.iload_n 1, 1) := by decide +kernel
theorem d_jdk_65_m132_12 : decode jdk_65_method_132_code 12 = .ok (.iload_n 2, 1) := by decide +kernel
theorem d_jdk_65_m132_13 : decode jdk_65_method_132_code 13 = .ok (.invokestatic 339, 3) := by decide +kernel
theorem d_jdk_65_m132_16 : decode jdk_65_method_132_code 16 = .ok (.areturn, 1) := by decide +kernel
theorem d_jdk_65_m132_17 : decode jdk_65_method_132_code 17 = .ok (.aload_n 0, 1) := by decide +kernel
theorem d_jdk_65_m132_18 : decode jdk_65_method_132_code 18 = .ok (.invokevirtual 310, 3) := by decide +kernel
theorem d_jdk_65_m132_21 : decode jdk_65_method_132_code 21 = .ok (.checkcast 311, 3) := by decide +kernel
theorem d_jdk_65_m132_24 : decode jdk_65_method_132_code 24 = .ok (.areturn, 1) := by decide +kernel
set_option maxRecDepth 65536 in
set_option maxHeartbeats 40000000 in
theorem cCR {l : Launch} {Z : State} {a0 : Array Value} (W : Wd Z a0) {EL : List (String × Nat)} {vm : Vm} {h : Heap} {d : Addr} {kd : ClassId} {n_ cap : Nat} {vs : List Value} (hn : n_ ≤ cap) (hc : cap ≤ 34) (A : Arv Z h d kd .byte (Int32.ofNat cap) vs (.int 0)) (Y : Exa Z h d "[B") :
    Ctr false l Z a0 EL (⟨"java/util/Arrays", "copyOfRange", "([BII)[B"⟩ : MethodName) jdk_65_method_132_code 3 (some (.array .byte)) ({ frames := 2, cells := 1, slots := 34, locals := 34 } : Room) #[.ref d, .int (0 : Int32), .int (Int32.ofNat n_)] vm h (fun v vm' h' => ∃ r kr, v = some (.ref r) ∧ Ext h h' ∧ Arv Z h' r kr .byte (Int32.ofNat n_) vs (.int 0) ∧ h.size ≤ r) := by
  refine Ctr.of_go (L0 := #[.val (.ref d), .val (.int (0 : Int32)), .val (.int (Int32.ofNat n_))]) (by first | exact plainFor_of_name (by first | (simp [plainName, overriddenIn]; done) | decide +kernel) | decide +kernel) (fun m => by first | (simp [entryFrame, mkF, argsToLocals, Value.category, maxLocals]; done) | rfl) (fun p e s m below meth c vmi chi => ?_)
  refine Go.iload_n 1 d_jdk_65_m132_0 rfl rfl ?_
  refine Go.ifne 10 4 d_jdk_65_m132_1 (by decide) rfl rfl (fun q1 => absurd rfl q1) (fun q1 => ?_)
  refine Go.iload_n 5 d_jdk_65_m132_4 rfl rfl ?_
  refine Go.aload_n 6 d_jdk_65_m132_5 rfl rfl rfl ?_
  refine Go.arraylength 7 d_jdk_65_m132_6 rfl A ?_
  by_cases hq : n_ = cap
  · refine Go.if_icmpeq 17 10 d_jdk_65_m132_7 (by decide) rfl rfl (fun q2 => ?_) (fun q2 => absurd (congrArg Int32.ofNat hq) q2)
    refine Go.aload_n 18 d_jdk_65_m132_17 rfl rfl rfl ?_
    refine Go.clone (ad := "[B") 0 34 21 d_jdk_65_m132_18 rfl (W.1 252 rfl) (W.1 253 rfl) (W.1 257 rfl) (W.1 255 rfl) (W.1 256 rfl) (W.1 258 rfl) A Y rfl rfl (nl rfl) (nl rfl) (nl rfl) (by rw [clampN (by omega)]; exact hc) (nl rfl) (nl rfl) (fun r1 hk ek Ek ⟨Ak, Yk⟩ Sk zk ck => ?_)
    refine Go.castY 24 d_jdk_65_m132_21 rfl (W.1 259 rfl) (Ins.self Yk) ?_
    exact Go.areturn d_jdk_65_m132_24 rfl rfl rfl (nl rfl) (nl rfl) (fun vm' ch => ⟨r1, kd, rfl, Ek, by rw [hq]; exact Ak, Nat.le_of_eq ek.symm⟩)
  · refine Go.if_icmpeq 17 10 d_jdk_65_m132_7 (by decide) rfl rfl (fun q3 => absurd ((ofNat_inj (by omega) (by omega)).mp q3) hq) (fun q3 => ?_)
    refine Go.aload_n 11 d_jdk_65_m132_10 rfl rfl rfl ?_
    refine Go.iload_n 12 d_jdk_65_m132_11 rfl rfl ?_
    refine Go.iload_n 13 d_jdk_65_m132_12 rfl rfl ?_
    refine Go.invokestatic (rest := []) 0 [.ref d, .int (0 : Int32), .int (Int32.ofNat n_)] 16 d_jdk_65_m132_13 rfl (W.1 182 rfl) (W.1 183 rfl) (W.1 180 rfl) (W.1 184 rfl) (by decide) (cCRB W (by omega) hc A) (by decide +kernel : parseMethodDescriptor "([BII)[B" = some ⟨[(.array .byte), .int, .int], (some (.array .byte))⟩) rfl rfl rfl (nl rfl) (nl rfl) (nl rfl) (nl rfl) (nl rfl) (fun v4 vm4 h4 ⟨r, kr, rv, E, A1, hr⟩ c4 => ?_)
    subst rv
    exact Go.areturn d_jdk_65_m132_16 rfl rfl rfl (nl rfl) (nl rfl) (fun vm' ch => ⟨r, kr, rfl, E, A1, hr⟩)
theorem d_jdk_42_m150_0 : decode jdk_42_method_150_code 0 = .ok (.aload_n 0, 1) := by decide +kernel
theorem d_jdk_42_m150_1 : decode jdk_42_method_150_code 1 = .ok (.invokespecial 1, 3) := by decide +kernel
theorem d_jdk_42_m150_4 : decode jdk_42_method_150_code 4 = .ok (.aload_n 1, 1) := by decide +kernel
theorem d_jdk_42_m150_5 : decode jdk_42_method_150_code 5 = .ok (.invokevirtual 552, 3) := by decide +kernel
theorem d_jdk_42_m150_8 : decode jdk_42_method_150_code 8 = .ok (.astore_n 3, 1) := by decide +kernel
theorem d_jdk_42_m150_9 : decode jdk_42_method_150_code 9 = .ok (.aload_n 1, 1) := by decide +kernel
theorem d_jdk_42_m150_10 : decode jdk_42_method_150_code 10 = .ok (.invokevirtual 549, 3) := by decide +kernel
theorem d_jdk_42_m150_13 : decode jdk_42_method_150_code 13 = .ok (.istore 4, 2) := by decide +kernel
theorem d_jdk_42_m150_15 : decode jdk_42_method_150_code 15 = .ok (.aload_n 1, 1) := by decide +kernel
theorem d_jdk_42_m150_16 : decode jdk_42_method_150_code 16 = .ok (.invokevirtual 1047, 3) := by decide +kernel
theorem d_jdk_42_m150_19 : decode jdk_42_method_150_code 19 = .ok (.ifCond .eq 22, 3) := by decide +kernel
theorem d_jdk_42_m150_22 : decode jdk_42_method_150_code 22 = .ok (.aload_n 0, 1) := by decide +kernel
theorem d_jdk_42_m150_23 : decode jdk_42_method_150_code 23 = .ok (.iconst 0, 1) := by decide +kernel
theorem d_jdk_42_m150_24 : decode jdk_42_method_150_code 24 = .ok (.putfield 15, 3) := by decide +kernel
theorem d_jdk_42_m150_27 : decode jdk_42_method_150_code 27 = .ok (.aload_n 0, 1) := by decide +kernel
theorem d_jdk_42_m150_28 : decode jdk_42_method_150_code 28 = .ok (.aload_n 3, 1) := by decide +kernel
theorem d_jdk_42_m150_29 : decode jdk_42_method_150_code 29 = .ok (.iconst 0, 1) := by decide +kernel
theorem d_jdk_42_m150_30 : decode jdk_42_method_150_code 30 = .ok (.iload 4, 2) := by decide +kernel
theorem d_jdk_42_m150_32 : decode jdk_42_method_150_code 32 = .ok (.invokestatic 54, 3) := by decide +kernel
theorem d_jdk_42_m150_35 : decode jdk_42_method_150_code 35 = .ok (.putfield 9, 3) := by decide +kernel
theorem d_jdk_42_m150_38 : decode jdk_42_method_150_code 38 = .ok (.goto 59, 3) := by decide +kernel
theorem d_jdk_42_m150_41 : decode jdk_42_method_150_code 41 = .ok (.getstatic 38, 3) := by decide +kernel
theorem d_jdk_42_m150_44 : decode jdk_42_method_150_code 44 = .ok (.ifCond .eq 35, 3) := by decide +kernel
theorem d_jdk_42_m150_47 : decode jdk_42_method_150_code 47 = .ok (.aload_n 1, 1) := by decide +kernel
theorem d_jdk_42_m150_48 : decode jdk_42_method_150_code 48 = .ok (.getfield 1048, 3) := by decide +kernel
theorem d_jdk_42_m150_51 : decode jdk_42_method_150_code 51 = .ok (.ifCond .eq 28, 3) := by decide +kernel
theorem d_jdk_42_m150_54 : decode jdk_42_method_150_code 54 = .ok (.aload_n 0, 1) := by decide +kernel
theorem d_jdk_42_m150_55 : decode jdk_42_method_150_code 55 = .ok (.aload_n 3, 1) := by decide +kernel
theorem d_jdk_42_m150_56 : decode jdk_42_method_150_code 56 = .ok (.iconst 0, 1) := by decide +kernel
theorem d_jdk_42_m150_57 : decode jdk_42_method_150_code 57 = .ok (.iload 4, 2) := by decide +kernel
theorem d_jdk_42_m150_59 : decode jdk_42_method_150_code 59 = .ok (.invokestatic 1051, 3) := by decide +kernel
theorem d_jdk_42_m150_62 : decode jdk_42_method_150_code 62 = .ok (.putfield 9, 3) := by decide +kernel
theorem d_jdk_42_m150_65 : decode jdk_42_method_150_code 65 = .ok (.aload_n 0, 1) := by decide +kernel
theorem d_jdk_42_m150_66 : decode jdk_42_method_150_code 66 = .ok (.aload_n 0, 1) := by decide +kernel
theorem d_jdk_42_m150_67 : decode jdk_42_method_150_code 67 = .ok (.getfield 9, 3) := by decide +kernel
theorem d_jdk_42_m150_70 : decode jdk_42_method_150_code 70 = .ok (.iload 4, 2) := by decide +kernel
theorem d_jdk_42_m150_72 : decode jdk_42_method_150_code 72 = .ok (.invokestatic 47, 3) := by decide +kernel
theorem d_jdk_42_m150_75 : decode jdk_42_method_150_code 75 = .ok (.putfield 15, 3) := by decide +kernel
theorem d_jdk_42_m150_78 : decode jdk_42_method_150_code 78 = .ok (.return_, 1) := by decide +kernel
theorem d_jdk_42_m150_79 : decode jdk_42_method_150_code 79 = .ok (.aload_n 0, 1) := by decide +kernel
theorem d_jdk_42_m150_80 : decode jdk_42_method_150_code 80 = .ok (.iconst 1, 1) := by decide +kernel
theorem d_jdk_42_m150_81 : decode jdk_42_method_150_code 81 = .ok (.putfield 15, 3) := by decide +kernel
theorem d_jdk_42_m150_84 : decode jdk_42_method_150_code 84 = .ok (.aload_n 0, 1) := by decide +kernel
theorem d_jdk_42_m150_85 : decode jdk_42_method_150_code 85 = .ok (.aload_n 3, 1) := by decide +kernel
theorem d_jdk_42_m150_86 : decode jdk_42_method_150_code 86 = .ok (.iconst 0, 1) := by decide +kernel
theorem d_jdk_42_m150_87 : decode jdk_42_method_150_code 87 = .ok (.iload 4, 2) := by decide +kernel
theorem d_jdk_42_m150_89 : decode jdk_42_method_150_code 89 = .ok (.iconst 1, 1) := by decide +kernel
theorem d_jdk_42_m150_90 : decode jdk_42_method_150_code 90 = .ok (.ishl, 1) := by decide +kernel
theorem d_jdk_42_m150_91 : decode jdk_42_method_150_code 91 = .ok (.invokestatic 54, 3) := by decide +kernel
theorem d_jdk_42_m150_94 : decode jdk_42_method_150_code 94 = .ok (.putfield 9, 3) := by decide +kernel
theorem d_jdk_42_m150_97 : decode jdk_42_method_150_code 97 = .ok (.return_, 1) := by decide +kernel
set_option maxRecDepth 65536 in
set_option maxHeartbeats 40000000 in
theorem cSI2 {l : Launch} {Z : State} {a0 : Array Value} (W : Wd Z a0) {EL : List (String × Nat)} {vm : Vm} {h : Heap} {a : Addr} {v0 c0 : Value} (E : Exa Z h a "java/lang/String") (F1 : Fld Z h a "java/lang/String" "value" "[B" (v0)) (F2 : Fld Z h a "java/lang/String" "coder" "B" (c0)) (Sa : Safe Z EL vm h a) (hz : Z.heap.size ≤ a) {b d : Addr} {kd : ClassId} {cap : Nat} {cs : List Int32} (B : Bld Z h b d kd cap cs) (na : d ≠ a) :
    Ctr false l Z a0 EL (⟨"java/lang/String", "<init>", "(Ljava/lang/AbstractStringBuilder;Ljava/lang/Void;)V"⟩ : MethodName) jdk_42_method_150_code 5 none ({ frames := 3, cells := 1, slots := 34, locals := 49 } : Room) #[.ref a, .ref b, .null] vm h (fun v vm' h' => v = none ∧ Keep h h' [a] ∧ Str Z h' a cs) := by
  refine Ctr.of_go (L0 := #[.val (.ref a), .val (.ref b), .val (.null), .unset, .unset]) (by first | exact plainFor_of_name (by first | (simp [plainName, overriddenIn]; done) | decide +kernel) | decide +kernel) (fun m => by first | (simp [entryFrame, mkF, argsToLocals, Value.category, maxLocals]; done) | rfl) (fun p e s m below meth c vmi chi => ?_)
  refine Go.aload_n 1 d_jdk_42_m150_0 rfl rfl rfl ?_
  refine Go.initObject 0 4 d_jdk_42_m150_1 rfl (W.1 15 rfl) (W.1 16 rfl) (W.1 17 rfl) rfl (nl rfl) (nl rfl) (nl rfl) ?_
  refine Go.aload_n 5 d_jdk_42_m150_4 rfl rfl rfl ?_
  refine Go.invokevirtual (rest := []) 0 b [] 8 d_jdk_42_m150_5 rfl B.e (W.1 164 rfl) (W.1 165 rfl) (fun s hs => notFace_of_selects (args := #[]) (mvT hs (W.1 167 rfl))) (W.1 167 rfl) (W.1 166 rfl) (W.1 73 rfl) (W.1 168 rfl) (by decide) (cGV W B) (by decide +kernel : parseMethodDescriptor "()[B" = some ⟨[], (some (.array .byte))⟩) rfl rfl rfl (nl rfl) (nl rfl) (nl rfl) (nl rfl) (nl rfl) (fun v1 vm1 h1 ⟨rv, hh⟩ c1 => ?_)
  subst rv; replace hh := hh.symm; subst hh
  refine Go.astore_n #[.val (.ref a), .val (.ref b), .val (.null), .val (.ref d), .unset] 9 d_jdk_42_m150_8 rfl rfl rfl ?_
  refine Go.aload_n 10 d_jdk_42_m150_9 rfl rfl rfl ?_
  refine Go.invokevirtual (rest := []) 0 b [] 13 d_jdk_42_m150_10 rfl B.e (W.1 169 rfl) (W.1 170 rfl) (fun s hs => notFaceC (args := #[]) (x := ⟨"java/lang/AbstractStringBuilder", "length", "()I"⟩) (mvT hs (W.1 167 rfl)) rfl) (W.1 172 rfl) (W.1 173 rfl) (W.1 65 rfl) (W.1 174 rfl) (by decide) (cLnS W B) (by decide +kernel : parseMethodDescriptor "()I" = some ⟨[], (some .int)⟩) rfl rfl rfl (nl rfl) (nl rfl) (nl rfl) (nl rfl) (nl rfl) (fun v2 vm2 h2 ⟨rv, hh⟩ c2 => ?_)
  subst rv; replace hh := hh.symm; subst hh
  refine Go.istore #[.val (.ref a), .val (.ref b), .val (.null), .val (.ref d), .val (.int (Int32.ofNat cs.length))] 15 d_jdk_42_m150_13 rfl rfl ?_
  refine Go.aload_n 16 d_jdk_42_m150_15 rfl rfl rfl ?_
  refine Go.invokevirtual (rest := []) 0 b [] 19 d_jdk_42_m150_16 rfl B.e (W.1 177 rfl) (W.1 144 rfl) (fun s hs => notFace_of_selects (args := #[]) (mvT hs (W.1 146 rfl))) (W.1 146 rfl) (W.1 145 rfl) (W.1 73 rfl) (W.1 147 rfl) (by decide) (cIsL W B) (by decide +kernel : parseMethodDescriptor "()Z" = some ⟨[], (some .boolean)⟩) rfl rfl rfl (nl rfl) (nl rfl) (nl rfl) (nl rfl) (nl rfl) (fun v3 vm3 h3 ⟨rv, hh⟩ c3 => ?_)
  subst rv; replace hh := hh.symm; subst hh
  refine Go.ifeq 41 22 d_jdk_42_m150_19 (by decide) rfl rfl (fun q4 => absurd q4 (by decide)) (fun q4 => ?_)
  refine Go.aload_n 23 d_jdk_42_m150_22 rfl rfl rfl ?_
  refine Go.iconst (0) 24 d_jdk_42_m150_23 rfl rfl ?_
  have f5 := CHr.safe (CHr.trans chi (CHr.trans c1 (CHr.trans c2 c3))) E.lt Sa
  have L5 := Nat.lt_of_lt_of_le E.lt (CHr.trans chi (CHr.trans c1 (CHr.trans c2 c3))).2.1
  refine Go.putfield 27 d_jdk_42_m150_24 rfl (W.1 25 rfl) F2 E (Or.inr ⟨(W.1 21 rfl), rfl, rfl⟩) (W.1 5 rfl) (ty := .byte) (by decide) rfl rfl f5 hz (fun h6 X6 S6 c6 => ?_)
  have Ea := E.wr X6
  have G2 := F2.same X6
  have G1 := F1.other X6 (Or.inr (slot_ne (a0 := a0) (C := "java/lang/String") (Or.inr (W.1 20 rfl)) (Or.inr (W.1 21 rfl)) (by decide) (t := (.array .byte)) (t' := .byte) (by decide) (by decide)))
  have A1 := Arv.other B.ar X6 na
  refine Go.aload_n 28 d_jdk_42_m150_27 rfl rfl rfl ?_
  refine Go.aload_n 29 d_jdk_42_m150_28 rfl rfl rfl ?_
  refine Go.iconst (0) 30 d_jdk_42_m150_29 rfl rfl ?_
  refine Go.iload 32 d_jdk_42_m150_30 rfl rfl ?_
  refine Go.invokestatic (rest := [.ref a]) 1 [.ref d, .int (0 : Int32), .int (Int32.ofNat cs.length)] 35 d_jdk_42_m150_32 rfl (W.1 178 rfl) (W.1 179 rfl) (W.1 180 rfl) (W.1 181 rfl) (by decide) (cCR W B.le B.c34 A1 (B.ex.wr X6)) (by decide +kernel : parseMethodDescriptor "([BII)[B" = some ⟨[(.array .byte), .int, .int], (some (.array .byte))⟩) rfl rfl rfl (nl rfl) (nl rfl) (nl rfl) (nl rfl) (nl rfl) (fun v7 vm7 h7 ⟨r, kr, rv, E1, A2, hr⟩ c7 => ?_)
  subst rv
  have f8 := CHr.safe c7 Ea.lt S6
  have L8 := Nat.lt_of_lt_of_le Ea.lt c7.2.1
  refine Go.putfield 38 d_jdk_42_m150_35 rfl (W.1 24 rfl) (G1.ext E1) (Ea.ext E1) (Or.inr ⟨(W.1 20 rfl), rfl, rfl⟩) (W.1 5 rfl) (ty := (.array .byte)) (by decide) rfl rfl f8 hz (fun h9 X9 S9 c9 => ?_)
  refine Go.goto 97 d_jdk_42_m150_38 (by decide) rfl ?_
  have nr : r ≠ a := fun q => absurd Ea.lt (by rw [← q]; exact Nat.not_lt.mpr hr)
  exact Go.return_ d_jdk_42_m150_97 rfl (nl rfl) (nl rfl) (fun vm' ch => ⟨rfl, ((Keep.of_wr X6).ext E1).wr X9 (Or.inl (by simp)), r, kr, (Ea.ext E1).wr X9, (G2.ext E1).other X9 (Or.inr (slot_ne (a0 := a0) (C := "java/lang/String") (Or.inr (W.1 21 rfl)) (Or.inr (W.1 20 rfl)) (by decide) (t := .byte) (t' := (.array .byte)) (by decide) (by decide))), (G1.ext E1).same X9, Arv.other A2 X9 nr, (by have := B.le; have := B.c34; omega), B.ch⟩)
theorem d_jdk_42_m53_0 : decode jdk_42_method_53_code 0 = .ok (.aload_n 0, 1) := by decide +kernel
theorem d_jdk_42_m53_1 : decode jdk_42_method_53_code 1 = .ok (.aload_n 1, 1) := by decide +kernel
theorem d_jdk_42_m53_2 : decode jdk_42_method_53_code 2 = .ok (.aconst_null, 1) := by decide +kernel
theorem d_jdk_42_m53_3 : decode jdk_42_method_53_code 3 = .ok (.invokespecial 489, 3) := by decide +kernel
theorem d_jdk_42_m53_6 : decode jdk_42_method_53_code 6 = .ok (.return_, 1) := by decide +kernel
set_option maxRecDepth 65536 in
set_option maxHeartbeats 40000000 in
theorem cSI1 {l : Launch} {Z : State} {a0 : Array Value} (W : Wd Z a0) {EL : List (String × Nat)} {vm : Vm} {h : Heap} {a : Addr} {v0 c0 : Value} (E : Exa Z h a "java/lang/String") (F1 : Fld Z h a "java/lang/String" "value" "[B" (v0)) (F2 : Fld Z h a "java/lang/String" "coder" "B" (c0)) (Sa : Safe Z EL vm h a) (hz : Z.heap.size ≤ a) {b d : Addr} {kd : ClassId} {cap : Nat} {cs : List Int32} (B : Bld Z h b d kd cap cs) (na : d ≠ a) :
    Ctr false l Z a0 EL (⟨"java/lang/String", "<init>", "(Ljava/lang/StringBuilder;)V"⟩ : MethodName) jdk_42_method_53_code 2 none ({ frames := 4, cells := 1, slots := 34, locals := 65 } : Room) #[.ref a, .ref b] vm h (fun v vm' h' => v = none ∧ Keep h h' [a] ∧ Str Z h' a cs) := by
  refine Ctr.of_go (L0 := #[.val (.ref a), .val (.ref b)]) (by first | exact plainFor_of_name (by first | (simp [plainName, overriddenIn]; done) | decide +kernel) | decide +kernel) (fun m => by first | (simp [entryFrame, mkF, argsToLocals, Value.category, maxLocals]; done) | rfl) (fun p e s m below meth c vmi chi => ?_)
  refine Go.aload_n 1 d_jdk_42_m53_0 rfl rfl rfl ?_
  refine Go.aload_n 2 d_jdk_42_m53_1 rfl rfl rfl ?_
  refine Go.aconst_null 3 d_jdk_42_m53_2 rfl ?_
  refine Go.invokespecial (rest := []) 0 a [.ref b, .null] 6 d_jdk_42_m53_3 rfl rfl (W.1 161 rfl) (W.1 162 rfl) (W.1 6 rfl) (W.1 163 rfl) (by decide) (cSI2 W E F1 F2 (chi.safe E.lt Sa) hz B na) (by decide +kernel : parseMethodDescriptor "(Ljava/lang/AbstractStringBuilder;Ljava/lang/Void;)V" = some ⟨[(.object "java/lang/AbstractStringBuilder"), (.object "java/lang/Void")], none⟩) rfl rfl rfl (nl rfl) (nl rfl) (nl rfl) (nl rfl) (nl rfl) (fun v1 vm1 h1 ⟨rv, K, T⟩ c1 => ?_)
  subst rv
  exact Go.return_ d_jdk_42_m53_6 rfl (nl rfl) (nl rfl) (fun vm' ch => ⟨rfl, K, T⟩)
theorem d_jdk_67_m42_0 : decode jdk_67_method_42_code 0 = .ok (.new 18, 3) := by decide +kernel
theorem d_jdk_67_m42_3 : decode jdk_67_method_42_code 3 = .ok (.dup, 1) := by decide +kernel
theorem d_jdk_67_m42_4 : decode jdk_67_method_42_code 4 = .ok (.aload_n 0, 1) := by decide +kernel
theorem d_jdk_67_m42_5 : decode jdk_67_method_42_code 5 = .ok (.invokespecial 137, 3) := by decide +kernel
theorem d_jdk_67_m42_8 : decode jdk_67_method_42_code 8 = .ok (.areturn, 1) := by decide +kernel
set_option maxRecDepth 65536 in
set_option maxHeartbeats 40000000 in
theorem cTS {l : Launch} {Z : State} {a0 : Array Value} (W : Wd Z a0) {EL : List (String × Nat)} {vm : Vm} {h : Heap} {b d : Addr} {kd : ClassId} {cap : Nat} {cs : List Int32} (B : Bld Z h b d kd cap cs) :
    Ctr false l Z a0 EL (⟨"java/lang/StringBuilder", "toString", "()Ljava/lang/String;"⟩ : MethodName) jdk_67_method_42_code 1 (some (.object "java/lang/String")) ({ frames := 5, cells := 2, slots := 38, locals := 79 } : Room) #[.ref b] vm h (fun v vm' h' => ∃ a, v = some (.ref a) ∧ Ext h h' ∧ Str Z h' a cs) := by
  refine Ctr.of_go (L0 := #[.val (.ref b)]) (by first | exact plainFor_of_name (by first | (simp [plainName, overriddenIn]; done) | decide +kernel) | decide +kernel) (fun m => by first | (simp [entryFrame, mkF, argsToLocals, Value.category, maxLocals]; done) | rfl) (fun p e s m below meth c vmi chi => ?_)
  refine Go.new 3 d_jdk_67_m42_0 rfl (W.1 157 rfl) (W.1 5 rfl) (W.1 6 rfl) (nl rfl) (nl rfl) (fun x1 h1 e1 E1 ⟨A1, D1⟩ S1 z1 c1 => ?_)
  refine Go.dup 4 d_jdk_67_m42_3 rfl rfl ?_
  refine Go.aload_n 5 d_jdk_67_m42_4 rfl rfl rfl ?_
  have f2 := D1 (Or.inr (W.1 20 rfl)) (ty := (.array .byte)) (by decide)
  have f3 := D1 (Or.inr (W.1 21 rfl)) (ty := .byte) (by decide)
  have na : d ≠ x1 := fun q => absurd B.ar.lt (by rw [q, e1]; exact Nat.lt_irrefl _)
  have f4 := B.ext E1
  refine Go.invokespecial (rest := [.ref x1]) 1 x1 [.ref b] 8 d_jdk_67_m42_5 rfl rfl (W.1 158 rfl) (W.1 159 rfl) (W.1 6 rfl) (W.1 160 rfl) (by decide) (cSI1 W A1 f2 f3 S1 z1 f4 na) (by decide +kernel : parseMethodDescriptor "(Ljava/lang/StringBuilder;)V" = some ⟨[(.object "java/lang/StringBuilder")], none⟩) rfl rfl rfl (nl rfl) (nl rfl) (nl rfl) (nl rfl) (nl rfl) (fun v5 vm5 h5 ⟨rv, K, T⟩ c5 => ?_)
  subst rv
  exact Go.areturn d_jdk_67_m42_8 rfl rfl rfl (nl rfl) (nl rfl) (fun vm' ch => ⟨x1, rfl, Ext.kp1 E1 K e1, T⟩)
theorem d_m3_0 : decode method_3_code 0 = .ok (.iload_n 0, 1) := by decide +kernel
theorem d_m3_1 : decode method_3_code 1 = .ok (.ifCond .ne 14, 3) := by decide +kernel
theorem d_m3_4 : decode method_3_code 4 = .ok (.new 31, 3) := by decide +kernel
theorem d_m3_7 : decode method_3_code 7 = .ok (.dup, 1) := by decide +kernel
theorem d_m3_8 : decode method_3_code 8 = .ok (.iconst 0, 1) := by decide +kernel
theorem d_m3_9 : decode method_3_code 9 = .ok (.newarray .char, 2) := by decide +kernel
theorem d_m3_11 : decode method_3_code 11 = .ok (.invokespecial 40, 3) := by decide +kernel
theorem d_m3_14 : decode method_3_code 14 = .ok (.areturn, 1) := by decide +kernel
theorem d_m3_15 : decode method_3_code 15 = .ok (.iload_n 0, 1) := by decide +kernel
theorem d_m3_16 : decode method_3_code 16 = .ok (.iconst 1, 1) := by decide +kernel
theorem d_m3_17 : decode method_3_code 17 = .ok (.if_icmp .ne 18, 3) := by decide +kernel
theorem d_m3_20 : decode method_3_code 20 = .ok (.new 31, 3) := by decide +kernel
theorem d_m3_23 : decode method_3_code 23 = .ok (.dup, 1) := by decide +kernel
theorem d_m3_24 : decode method_3_code 24 = .ok (.iconst 1, 1) := by decide +kernel
theorem d_m3_25 : decode method_3_code 25 = .ok (.newarray .char, 2) := by decide +kernel
theorem d_m3_27 : decode method_3_code 27 = .ok (.dup, 1) := by decide +kernel
theorem d_m3_28 : decode method_3_code 28 = .ok (.iconst 0, 1) := by decide +kernel
theorem d_m3_29 : decode method_3_code 29 = .ok (.iload_n 1, 1) := by decide +kernel
theorem d_m3_30 : decode method_3_code 30 = .ok (.castore, 1) := by decide +kernel
theorem d_m3_31 : decode method_3_code 31 = .ok (.invokespecial 40, 3) := by decide +kernel
theorem d_m3_34 : decode method_3_code 34 = .ok (.areturn, 1) := by decide +kernel
theorem d_m3_35 : decode method_3_code 35 = .ok (.iload_n 0, 1) := by decide +kernel
theorem d_m3_36 : decode method_3_code 36 = .ok (.iconst 2, 1) := by decide +kernel
theorem d_m3_37 : decode method_3_code 37 = .ok (.if_icmp .ne 22, 3) := by decide +kernel
theorem d_m3_40 : decode method_3_code 40 = .ok (.new 31, 3) := by decide +kernel
theorem d_m3_43 : decode method_3_code 43 = .ok (.dup, 1) := by decide +kernel
theorem d_m3_44 : decode method_3_code 44 = .ok (.iconst 2, 1) := by decide +kernel
theorem d_m3_45 : decode method_3_code 45 = .ok (.newarray .char, 2) := by decide +kernel
theorem d_m3_47 : decode method_3_code 47 = .ok (.dup, 1) := by decide +kernel
theorem d_m3_48 : decode method_3_code 48 = .ok (.iconst 0, 1) := by decide +kernel
theorem d_m3_49 : decode method_3_code 49 = .ok (.iload_n 1, 1) := by decide +kernel
theorem d_m3_50 : decode method_3_code 50 = .ok (.castore, 1) := by decide +kernel
theorem d_m3_51 : decode method_3_code 51 = .ok (.dup, 1) := by decide +kernel
theorem d_m3_52 : decode method_3_code 52 = .ok (.iconst 1, 1) := by decide +kernel
theorem d_m3_53 : decode method_3_code 53 = .ok (.iload_n 2, 1) := by decide +kernel
theorem d_m3_54 : decode method_3_code 54 = .ok (.castore, 1) := by decide +kernel
theorem d_m3_55 : decode method_3_code 55 = .ok (.invokespecial 40, 3) := by decide +kernel
theorem d_m3_58 : decode method_3_code 58 = .ok (.areturn, 1) := by decide +kernel
theorem d_m3_59 : decode method_3_code 59 = .ok (.new 31, 3) := by decide +kernel
theorem d_m3_62 : decode method_3_code 62 = .ok (.dup, 1) := by decide +kernel
theorem d_m3_63 : decode method_3_code 63 = .ok (.iconst 3, 1) := by decide +kernel
theorem d_m3_64 : decode method_3_code 64 = .ok (.newarray .char, 2) := by decide +kernel
theorem d_m3_66 : decode method_3_code 66 = .ok (.dup, 1) := by decide +kernel
theorem d_m3_67 : decode method_3_code 67 = .ok (.iconst 0, 1) := by decide +kernel
theorem d_m3_68 : decode method_3_code 68 = .ok (.iload_n 1, 1) := by decide +kernel
theorem d_m3_69 : decode method_3_code 69 = .ok (.castore, 1) := by decide +kernel
theorem d_m3_70 : decode method_3_code 70 = .ok (.dup, 1) := by decide +kernel
theorem d_m3_71 : decode method_3_code 71 = .ok (.iconst 1, 1) := by decide +kernel
theorem d_m3_72 : decode method_3_code 72 = .ok (.iload_n 2, 1) := by decide +kernel
theorem d_m3_73 : decode method_3_code 73 = .ok (.castore, 1) := by decide +kernel
theorem d_m3_74 : decode method_3_code 74 = .ok (.dup, 1) := by decide +kernel
theorem d_m3_75 : decode method_3_code 75 = .ok (.iconst 2, 1) := by decide +kernel
theorem d_m3_76 : decode method_3_code 76 = .ok (.iload_n 3, 1) := by decide +kernel
theorem d_m3_77 : decode method_3_code 77 = .ok (.castore, 1) := by decide +kernel
theorem d_m3_78 : decode method_3_code 78 = .ok (.invokespecial 40, 3) := by decide +kernel
theorem d_m3_81 : decode method_3_code 81 = .ok (.areturn, 1) := by decide +kernel
set_option maxRecDepth 65536 in
set_option maxHeartbeats 40000000 in
theorem cMk {l : Launch} {Z : State} {a0 : Array Value} (W : Wd Z a0) {EL : List (String × Nat)} {vm : Vm} {h : Heap} {l_ x0 x1 x2 : Int32} (hm : ("java/lang/String", 7) ∈ EL) (b0 : ¬ x0 < 0 ∧ ¬ (255 : Int32) < x0) (b1_ : ¬ x1 < 0 ∧ ¬ (255 : Int32) < x1) (b2 : ¬ x2 < 0 ∧ ¬ (255 : Int32) < x2) :
    Ctr false l Z a0 EL (⟨"com/example/guide/guide/io/FlowProblemToStringPinLaw", "mk", "(ICCC)Ljava/lang/String;"⟩ : MethodName) method_3_code 4 (some (.object "java/lang/String")) ({ frames := 4, cells := 6, slots := 12, locals := 66 } : Room) #[.int l_, .int x0, .int x1, .int x2] vm h (fun v vm' h' => ∃ a, v = some (.ref a) ∧ Ext h h' ∧ Str Z h' a (mkV l_ x0 x1 x2)) := by
  refine Ctr.of_go (L0 := #[.val (.int l_), .val (.int x0), .val (.int x1), .val (.int x2)]) (by first | exact plainFor_of_name (by first | (simp [plainName, overriddenIn]; done) | decide +kernel) | decide +kernel) (fun m => by first | (simp [entryFrame, mkF, argsToLocals, Value.category, maxLocals]; done) | rfl) (fun p e s m below meth c vmi chi => ?_)
  refine Go.iload_n 1 d_m3_0 rfl rfl ?_
  refine Go.ifne 15 4 d_m3_1 (by decide) rfl rfl (fun q0 => ?_) (fun q0 => ?_)
  · refine Go.iload_n 16 d_m3_15 rfl rfl ?_
    refine Go.iconst (1) 17 d_m3_16 rfl rfl ?_
    refine Go.if_icmpne 35 20 d_m3_17 (by decide) rfl rfl (fun q1 => ?_) (fun q1 => ?_)
    · refine Go.iload_n 36 d_m3_35 rfl rfl ?_
      refine Go.iconst (2) 37 d_m3_36 rfl rfl ?_
      refine Go.if_icmpne 59 40 d_m3_37 (by decide) rfl rfl (fun q2 => ?_) (fun q2 => ?_)
      · refine Go.new 62 d_m3_59 rfl (W.1 4 rfl) (W.1 5 rfl) (W.1 6 rfl) (nl rfl) (nl rfl) (fun s1 h1 e1 E1 ⟨A1, D1⟩ S1 z1 c1 => ?_)
        refine Go.dup 63 d_m3_62 rfl rfl ?_
        refine Go.iconst (3) 64 d_m3_63 rfl rfl ?_
        refine Go.newarray 3 66 d_m3_64 rfl (W.1 7 rfl) (by decide) (by decide) (by decide) (nl rfl) (nl rfl) (fun a1 h2 e2 E2 ⟨k2, B2⟩ S2 z2 c2 => ?_)
        have A2 : Arv Z h2 a1 k2 .char (3 : Int32) [.int 0, .int 0, .int 0] (.int 0) := B2.pad (pad_rep [] (.int 0) 3)
        refine Go.dup 67 d_m3_66 rfl rfl ?_
        refine Go.iconst (0) 68 d_m3_67 rfl rfl ?_
        refine Go.iload_n 69 d_m3_68 rfl rfl ?_
        refine Go.castore 0 x0 [.int x0, .int 0, .int 0] 70 d_m3_69 rfl A2 (by decide) rfl (nl rfl) (narC b0) rfl S2 z2 (fun h3 K3 A3 S3 c3 => ?_)
        have E3 := Ext.kp1 E2 K3 e2
        refine Go.dup 71 d_m3_70 rfl rfl ?_
        refine Go.iconst (1) 72 d_m3_71 rfl rfl ?_
        refine Go.iload_n 73 d_m3_72 rfl rfl ?_
        refine Go.castore 1 x1 [.int x0, .int x1, .int 0] 74 d_m3_73 rfl A3 (by decide) rfl (nl rfl) (narC b1_) rfl S3 z2 (fun h4 K4 A4 S4 c4 => ?_)
        have E4 := Ext.kp1 E3 K4 e2
        refine Go.dup 75 d_m3_74 rfl rfl ?_
        refine Go.iconst (2) 76 d_m3_75 rfl rfl ?_
        refine Go.iload_n 77 d_m3_76 rfl rfl ?_
        refine Go.castore 2 x2 [.int x0, .int x1, .int x2] 78 d_m3_77 rfl A4 (by decide) rfl (nl rfl) (narC b2) rfl S4 z2 (fun h5 K5 A5 S5 c5 => ?_)
        have E5 := Ext.kp1 E4 K5 e2
        have f7 := D1 (Or.inr (W.1 20 rfl)) (ty := (.array .byte)) (by decide)
        have f8 := D1 (Or.inr (W.1 21 rfl)) (ty := .byte) (by decide)
        have f9 := A1.ext E5
        have f10 := f7.ext E5
        have f11 := f8.ext E5
        have f12 := CHr.safe (CHr.trans c2 (CHr.trans c3 (CHr.trans c4 c5))) A1.lt S1
        have L12 := Nat.lt_of_lt_of_le A1.lt (CHr.trans c2 (CHr.trans c3 (CHr.trans c4 c5))).2.1
        refine goStrNew W 1 [x0, x1, x2] 81 d_m3_78 rfl (W.1 8 rfl) f9 f10 f11 A5 rfl (nl rfl) (nl rfl) (by intro c hc; simp only [List.mem_cons, List.not_mem_nil, or_false] at hc; rcases hc with rfl | rfl | rfl <;> assumption) rfl rfl (nl rfl) (nl rfl) (nl rfl) (nl rfl) (nl rfl) f12 z1 (fun h6 K6 T6 c6 => ?_)
        have E6 := Ext.kp1 (Ext.tr E1 E5) K6 e1
        have R : mkV l_ x0 x1 x2 = [x0, x1, x2] := by unfold mkV; rw [if_neg q0, if_neg q1, if_neg q2]
        exact Go.areturn d_m3_81 rfl rfl rfl (nl rfl) (nl rfl) (fun vm' ch => ⟨_, rfl, E6, R ▸ T6⟩)
      · refine Go.new 43 d_m3_40 rfl (W.1 4 rfl) (W.1 5 rfl) (W.1 6 rfl) (nl rfl) (nl rfl) (fun s1 h13 e13 E13 ⟨A13, D13⟩ S13 z13 c13 => ?_)
        refine Go.dup 44 d_m3_43 rfl rfl ?_
        refine Go.iconst (2) 45 d_m3_44 rfl rfl ?_
        refine Go.newarray 2 47 d_m3_45 rfl (W.1 7 rfl) (by decide) (by decide) (by decide) (nl rfl) (nl rfl) (fun a1 h14 e14 E14 ⟨k14, B14⟩ S14 z14 c14 => ?_)
        have A14 : Arv Z h14 a1 k14 .char (2 : Int32) [.int 0, .int 0] (.int 0) := B14.pad (pad_rep [] (.int 0) 2)
        refine Go.dup 48 d_m3_47 rfl rfl ?_
        refine Go.iconst (0) 49 d_m3_48 rfl rfl ?_
        refine Go.iload_n 50 d_m3_49 rfl rfl ?_
        refine Go.castore 0 x0 [.int x0, .int 0] 51 d_m3_50 rfl A14 (by decide) rfl (nl rfl) (narC b0) rfl S14 z14 (fun h15 K15 A15 S15 c15 => ?_)
        have E15 := Ext.kp1 E14 K15 e14
        refine Go.dup 52 d_m3_51 rfl rfl ?_
        refine Go.iconst (1) 53 d_m3_52 rfl rfl ?_
        refine Go.iload_n 54 d_m3_53 rfl rfl ?_
        refine Go.castore 1 x1 [.int x0, .int x1] 55 d_m3_54 rfl A15 (by decide) rfl (nl rfl) (narC b1_) rfl S15 z14 (fun h16 K16 A16 S16 c16 => ?_)
        have E16 := Ext.kp1 E15 K16 e14
        have f18 := D13 (Or.inr (W.1 20 rfl)) (ty := (.array .byte)) (by decide)
        have f19 := D13 (Or.inr (W.1 21 rfl)) (ty := .byte) (by decide)
        have f20 := A13.ext E16
        have f21 := f18.ext E16
        have f22 := f19.ext E16
        have f23 := CHr.safe (CHr.trans c14 (CHr.trans c15 c16)) A13.lt S13
        have L23 := Nat.lt_of_lt_of_le A13.lt (CHr.trans c14 (CHr.trans c15 c16)).2.1
        refine goStrNew W 1 [x0, x1] 58 d_m3_55 rfl (W.1 8 rfl) f20 f21 f22 A16 rfl (nl rfl) (nl rfl) (by intro c hc; simp only [List.mem_cons, List.not_mem_nil, or_false] at hc; rcases hc with rfl | rfl <;> assumption) rfl rfl (nl rfl) (nl rfl) (nl rfl) (nl rfl) (nl rfl) f23 z13 (fun h17 K17 T17 c17 => ?_)
        have E17 := Ext.kp1 (Ext.tr E13 E16) K17 e13
        have R : mkV l_ x0 x1 x2 = [x0, x1] := by unfold mkV; rw [if_neg q0, if_neg q1, if_pos q2]
        exact Go.areturn d_m3_58 rfl rfl rfl (nl rfl) (nl rfl) (fun vm' ch => ⟨_, rfl, E17, R ▸ T17⟩)
    · refine Go.new 23 d_m3_20 rfl (W.1 4 rfl) (W.1 5 rfl) (W.1 6 rfl) (nl rfl) (nl rfl) (fun s1 h24 e24 E24 ⟨A24, D24⟩ S24 z24 c24 => ?_)
      refine Go.dup 24 d_m3_23 rfl rfl ?_
      refine Go.iconst (1) 25 d_m3_24 rfl rfl ?_
      refine Go.newarray 1 27 d_m3_25 rfl (W.1 7 rfl) (by decide) (by decide) (by decide) (nl rfl) (nl rfl) (fun a1 h25 e25 E25 ⟨k25, B25⟩ S25 z25 c25 => ?_)
      have A25 : Arv Z h25 a1 k25 .char (1 : Int32) [.int 0] (.int 0) := B25.pad (pad_rep [] (.int 0) 1)
      refine Go.dup 28 d_m3_27 rfl rfl ?_
      refine Go.iconst (0) 29 d_m3_28 rfl rfl ?_
      refine Go.iload_n 30 d_m3_29 rfl rfl ?_
      refine Go.castore 0 x0 [.int x0] 31 d_m3_30 rfl A25 (by decide) rfl (nl rfl) (narC b0) rfl S25 z25 (fun h26 K26 A26 S26 c26 => ?_)
      have E26 := Ext.kp1 E25 K26 e25
      have f28 := D24 (Or.inr (W.1 20 rfl)) (ty := (.array .byte)) (by decide)
      have f29 := D24 (Or.inr (W.1 21 rfl)) (ty := .byte) (by decide)
      have f30 := A24.ext E26
      have f31 := f28.ext E26
      have f32 := f29.ext E26
      have f33 := CHr.safe (CHr.trans c25 c26) A24.lt S24
      have L33 := Nat.lt_of_lt_of_le A24.lt (CHr.trans c25 c26).2.1
      refine goStrNew W 1 [x0] 34 d_m3_31 rfl (W.1 8 rfl) f30 f31 f32 A26 rfl (nl rfl) (nl rfl) (by intro c hc; simp only [List.mem_cons, List.not_mem_nil, or_false] at hc; rcases hc with rfl <;> assumption) rfl rfl (nl rfl) (nl rfl) (nl rfl) (nl rfl) (nl rfl) f33 z24 (fun h27 K27 T27 c27 => ?_)
      have E27 := Ext.kp1 (Ext.tr E24 E26) K27 e24
      have R : mkV l_ x0 x1 x2 = [x0] := by unfold mkV; rw [if_neg q0, if_pos q1]
      exact Go.areturn d_m3_34 rfl rfl rfl (nl rfl) (nl rfl) (fun vm' ch => ⟨_, rfl, E27, R ▸ T27⟩)
  · refine Go.new 7 d_m3_4 rfl (W.1 4 rfl) (W.1 5 rfl) (W.1 6 rfl) (nl rfl) (nl rfl) (fun s1 h34 e34 E34 ⟨A34, D34⟩ S34 z34 c34 => ?_)
    refine Go.dup 8 d_m3_7 rfl rfl ?_
    refine Go.iconst (0) 9 d_m3_8 rfl rfl ?_
    refine Go.newarray 0 11 d_m3_9 rfl (W.1 7 rfl) (by decide) (by decide) (by decide) (nl rfl) (nl rfl) (fun a1 h35 e35 E35 ⟨k35, B35⟩ S35 z35 c35 => ?_)
    have A35 : Arv Z h35 a1 k35 .char (0 : Int32) [] (.int 0) := B35.pad (pad_rep [] (.int 0) 0)
    have f36 := D34 (Or.inr (W.1 20 rfl)) (ty := (.array .byte)) (by decide)
    have f37 := D34 (Or.inr (W.1 21 rfl)) (ty := .byte) (by decide)
    have f38 := A34.ext E35
    have f39 := f36.ext E35
    have f40 := f37.ext E35
    have f41 := CHr.safe c35 A34.lt S34
    have L41 := Nat.lt_of_lt_of_le A34.lt c35.2.1
    refine Go.invokespecial (rest := [.ref s1]) 1 s1 [.ref a1] 14 d_m3_11 rfl rfl (W.1 8 rfl) (W.1 9 rfl) (W.1 6 rfl) (W.1 10 rfl) (by decide) (cEmp1 W hm f38 f39 f40 A35 f41 z34) (by decide +kernel : parseMethodDescriptor "([C)V" = some ⟨[(.array .char)], none⟩) rfl rfl rfl (nl rfl) (nl rfl) (nl rfl) (nl rfl) (nl rfl) (fun v42 vm42 h42 ⟨rv, K42, T42⟩ c42 => ?_)
    subst rv
    have E42 := Ext.kp1 (Ext.tr E34 E35) K42 e34
    have R : mkV l_ x0 x1 x2 = [] := by unfold mkV; rw [if_pos q0]
    exact Go.areturn d_m3_14 rfl rfl rfl (nl rfl) (nl rfl) (fun vm' ch => ⟨_, rfl, E42, R ▸ T42⟩)
theorem d_prog_30_m1_0 : decode prog_30_method_1_code 0 = .ok (.aload_n 0, 1) := by decide +kernel
theorem d_prog_30_m1_1 : decode prog_30_method_1_code 1 = .ok (.invokespecial 1, 3) := by decide +kernel
theorem d_prog_30_m1_4 : decode prog_30_method_1_code 4 = .ok (.aload_n 0, 1) := by decide +kernel
theorem d_prog_30_m1_5 : decode prog_30_method_1_code 5 = .ok (.aload_n 1, 1) := by decide +kernel
theorem d_prog_30_m1_6 : decode prog_30_method_1_code 6 = .ok (.ldc 7, 2) := by decide +kernel
theorem d_prog_30_m1_8 : decode prog_30_method_1_code 8 = .ok (.invokestatic 9, 3) := by decide +kernel
theorem d_prog_30_m1_11 : decode prog_30_method_1_code 11 = .ok (.checkcast 15, 3) := by decide +kernel
theorem d_prog_30_m1_14 : decode prog_30_method_1_code 14 = .ok (.putfield 17, 3) := by decide +kernel
theorem d_prog_30_m1_17 : decode prog_30_method_1_code 17 = .ok (.aload_n 0, 1) := by decide +kernel
theorem d_prog_30_m1_18 : decode prog_30_method_1_code 18 = .ok (.iload_n 2, 1) := by decide +kernel
theorem d_prog_30_m1_19 : decode prog_30_method_1_code 19 = .ok (.putfield 22, 3) := by decide +kernel
theorem d_prog_30_m1_22 : decode prog_30_method_1_code 22 = .ok (.aload_n 0, 1) := by decide +kernel
theorem d_prog_30_m1_23 : decode prog_30_method_1_code 23 = .ok (.aload_n 3, 1) := by decide +kernel
theorem d_prog_30_m1_24 : decode prog_30_method_1_code 24 = .ok (.ldc 26, 2) := by decide +kernel
theorem d_prog_30_m1_26 : decode prog_30_method_1_code 26 = .ok (.invokestatic 9, 3) := by decide +kernel
theorem d_prog_30_m1_29 : decode prog_30_method_1_code 29 = .ok (.checkcast 15, 3) := by decide +kernel
theorem d_prog_30_m1_32 : decode prog_30_method_1_code 32 = .ok (.putfield 28, 3) := by decide +kernel
theorem d_prog_30_m1_35 : decode prog_30_method_1_code 35 = .ok (.return_, 1) := by decide +kernel
set_option maxRecDepth 65536 in
set_option maxHeartbeats 40000000 in
theorem cFpInit {l : Launch} {Z : State} {a0 : Array Value} (W : Wd Z a0) {EL : List (String × Nat)} {vm : Vm} {h : Heap} {a s0 s2 : Addr} {ln : Int32} {d0 d2 : List Int32} (hm : ("com/example/guide/guide/io/FlowProblem", 7) ∈ EL ∧ ("com/example/guide/guide/io/FlowProblem", 26) ∈ EL) (E : Exa Z h a "com/example/guide/guide/io/FlowProblem") (F0 : Fld Z h a "com/example/guide/guide/io/FlowProblem" "fileName" "Ljava/lang/String;" (.null)) (F1 : Fld Z h a "com/example/guide/guide/io/FlowProblem" "line" "I" (.int 0)) (F2 : Fld Z h a "com/example/guide/guide/io/FlowProblem" "reason" "Ljava/lang/String;" (.null)) (Ta0 : Str Z h s0 d0) (Ta2 : Str Z h s2 d2) (Sa : Safe Z EL vm h a) (hz : Z.heap.size ≤ a) :
    Ctr false l Z a0 EL (⟨"com/example/guide/guide/io/FlowProblem", "<init>", "(Ljava/lang/String;ILjava/lang/String;)V"⟩ : MethodName) prog_30_method_1_code 4 none ({ frames := 1, cells := 4, slots := 64, locals := 14 } : Room) #[.ref a, .ref s0, .int ln, .ref s2] vm h (fun v vm' h' => v = none ∧ Keep h h' [a] ∧ Exa Z h' a "com/example/guide/guide/io/FlowProblem" ∧ Fld Z h' a "com/example/guide/guide/io/FlowProblem" "fileName" "Ljava/lang/String;" (.ref s0) ∧ Fld Z h' a "com/example/guide/guide/io/FlowProblem" "line" "I" (.int ln) ∧ Fld Z h' a "com/example/guide/guide/io/FlowProblem" "reason" "Ljava/lang/String;" (.ref s2)) := by
  refine Ctr.of_go (L0 := #[.val (.ref a), .val (.ref s0), .val (.int ln), .val (.ref s2)]) (by first | exact plainFor_of_name (by first | (simp [plainName, overriddenIn]; done) | decide +kernel) | decide +kernel) (fun m => by first | (simp [entryFrame, mkF, argsToLocals, Value.category, maxLocals]; done) | rfl) (fun p e s m below meth c vmi chi => ?_)
  refine Go.aload_n 1 d_prog_30_m1_0 rfl rfl rfl ?_
  refine Go.initObject 0 4 d_prog_30_m1_1 rfl (W.1 32 rfl) (W.1 16 rfl) (W.1 17 rfl) rfl (nl rfl) (nl rfl) (nl rfl) ?_
  refine Go.aload_n 5 d_prog_30_m1_4 rfl rfl rfl ?_
  refine Go.aload_n 6 d_prog_30_m1_5 rfl rfl rfl ?_
  refine Go.ldcS (text := "fileName") (vs := [.int (102), .int (105), .int (108), .int (101), .int (78), .int (97), .int (109), .int (101)]) (z := (8 : Int32)) 32 8 d_prog_30_m1_6 rfl rfl (W.1 33 rfl) (W.sub (by decide +kernel)) hm.1 lit_ok_fileName.1 (by decide) (by decide) lit_ok_fileName.2 (by decide) (nl rfl) (nl rfl) (fun y0 b1 k1 vm1 h1 E1 A1 C1 V1 B1 N1 c1 => ?_)
  have T1 : Str Z h1 y0 [102, 105, 108, 101, 78, 97, 109, 101] := ⟨b1, k1, A1, C1, V1, B1, by decide, by decide⟩
  refine Go.invokestatic (rest := [.ref a]) 1 [.ref s0, .ref y0] 11 d_prog_30_m1_8 rfl (W.1 34 rfl) (W.1 35 rfl) (W.1 36 rfl) (W.1 37 rfl) (by decide) (cReq W ) (by decide +kernel : parseMethodDescriptor "(Ljava/lang/Object;Ljava/lang/String;)Ljava/lang/Object;" = some ⟨[(.object "java/lang/Object"), (.object "java/lang/String")], (some (.object "java/lang/Object"))⟩) rfl rfl rfl (nl rfl) (nl rfl) (nl rfl) (nl rfl) (nl rfl) (fun v2 vm2 h2 ⟨rv, hh⟩ c2 => ?_)
  subst rv; replace hh := hh.symm; subst hh
  have f3 := Ta0.ext E1
  refine Go.castY 14 d_prog_30_m1_11 rfl (W.1 38 rfl) (Ins.self f3.exa) ?_
  have f4 := E.ext E1
  have f5 := F0.ext E1
  have f6 := F1.ext E1
  have f7 := F2.ext E1
  have f8 := CHr.safe (CHr.trans chi (CHr.trans c1 c2)) E.lt Sa
  have L8 := Nat.lt_of_lt_of_le E.lt (CHr.trans chi (CHr.trans c1 c2)).2.1
  have f9 := Ta2.ext E1
  refine Go.putfield 17 d_prog_30_m1_14 rfl (W.1 39 rfl) f5 f4 (Or.inr ⟨(W.1 40 rfl), rfl, rfl⟩) (W.1 27 rfl) (ty := (.object "java/lang/String")) (by decide) rfl rfl f8 hz (fun h10 X10 S10 c10 => ?_)
  have Ea0 := f4.wr X10
  have G0_0 := f5.same X10
  have G1_0 := f6.other X10 (Or.inr (slot_ne (a0 := a0) (C := "com/example/guide/guide/io/FlowProblem") (Or.inr (W.1 42 rfl)) (Or.inr (W.1 40 rfl)) (by decide) (t := .int) (t' := (.object "java/lang/String")) (by decide) (by decide)))
  have G2_0 := f7.other X10 (Or.inr (slot_ne (a0 := a0) (C := "com/example/guide/guide/io/FlowProblem") (Or.inr (W.1 45 rfl)) (Or.inr (W.1 40 rfl)) (by decide) (t := (.object "java/lang/String")) (t' := (.object "java/lang/String")) (by decide) (by decide)))
  have U0 := f9.wrE X10 f4 (by decide) (W.1 27 rfl)
  refine Go.aload_n 18 d_prog_30_m1_17 rfl rfl rfl ?_
  refine Go.iload_n 19 d_prog_30_m1_18 rfl rfl ?_
  refine Go.putfield 22 d_prog_30_m1_19 rfl (W.1 41 rfl) G1_0 Ea0 (Or.inr ⟨(W.1 42 rfl), rfl, rfl⟩) (W.1 27 rfl) (ty := .int) (by decide) rfl rfl S10 hz (fun h11 X11 S11 c11 => ?_)
  have Ea1 := Ea0.wr X11
  have G0_1 := G0_0.other X11 (Or.inr (slot_ne (a0 := a0) (C := "com/example/guide/guide/io/FlowProblem") (Or.inr (W.1 40 rfl)) (Or.inr (W.1 42 rfl)) (by decide) (t := (.object "java/lang/String")) (t' := .int) (by decide) (by decide)))
  have G1_1 := G1_0.same X11
  have G2_1 := G2_0.other X11 (Or.inr (slot_ne (a0 := a0) (C := "com/example/guide/guide/io/FlowProblem") (Or.inr (W.1 45 rfl)) (Or.inr (W.1 42 rfl)) (by decide) (t := (.object "java/lang/String")) (t' := .int) (by decide) (by decide)))
  have U1 := U0.wrE X11 Ea0 (by decide) (W.1 27 rfl)
  refine Go.aload_n 23 d_prog_30_m1_22 rfl rfl rfl ?_
  refine Go.aload_n 24 d_prog_30_m1_23 rfl rfl rfl ?_
  refine Go.ldcS (text := "reason") (vs := [.int (114), .int (101), .int (97), .int (115), .int (111), .int (110)]) (z := (6 : Int32)) 24 26 d_prog_30_m1_24 rfl rfl (W.1 43 rfl) (W.sub (by decide +kernel)) hm.2 lit_ok_reason.1 (by decide) (by decide) lit_ok_reason.2 (by decide) (nl rfl) (nl rfl) (fun y2 b12 k12 vm12 h12 E12 A12 C12 V12 B12 N12 c12 => ?_)
  have T12 : Str Z h12 y2 [114, 101, 97, 115, 111, 110] := ⟨b12, k12, A12, C12, V12, B12, by decide, by decide⟩
  refine Go.invokestatic (rest := [.ref a]) 1 [.ref s2, .ref y2] 29 d_prog_30_m1_26 rfl (W.1 34 rfl) (W.1 35 rfl) (W.1 36 rfl) (W.1 37 rfl) (by decide) (cReq W ) (by decide +kernel : parseMethodDescriptor "(Ljava/lang/Object;Ljava/lang/String;)Ljava/lang/Object;" = some ⟨[(.object "java/lang/Object"), (.object "java/lang/String")], (some (.object "java/lang/Object"))⟩) rfl rfl rfl (nl rfl) (nl rfl) (nl rfl) (nl rfl) (nl rfl) (fun v13 vm13 h13 ⟨rv, hh⟩ c13 => ?_)
  subst rv; replace hh := hh.symm; subst hh
  have f14 := U1.ext E12
  refine Go.castY 32 d_prog_30_m1_29 rfl (W.1 38 rfl) (Ins.self f14.exa) ?_
  have f15 := Ea1.ext E12
  have f16 := G0_1.ext E12
  have f17 := G1_1.ext E12
  have f18 := G2_1.ext E12
  have f19 := CHr.safe (CHr.trans c12 c13) Ea1.lt S11
  have L19 := Nat.lt_of_lt_of_le Ea1.lt (CHr.trans c12 c13).2.1
  refine Go.putfield 35 d_prog_30_m1_32 rfl (W.1 44 rfl) f18 f15 (Or.inr ⟨(W.1 45 rfl), rfl, rfl⟩) (W.1 27 rfl) (ty := (.object "java/lang/String")) (by decide) rfl rfl f19 hz (fun h20 X20 S20 c20 => ?_)
  have Ea2 := f15.wr X20
  have G0_2 := f16.other X20 (Or.inr (slot_ne (a0 := a0) (C := "com/example/guide/guide/io/FlowProblem") (Or.inr (W.1 40 rfl)) (Or.inr (W.1 45 rfl)) (by decide) (t := (.object "java/lang/String")) (t' := (.object "java/lang/String")) (by decide) (by decide)))
  have G1_2 := f17.other X20 (Or.inr (slot_ne (a0 := a0) (C := "com/example/guide/guide/io/FlowProblem") (Or.inr (W.1 42 rfl)) (Or.inr (W.1 45 rfl)) (by decide) (t := .int) (t' := (.object "java/lang/String")) (by decide) (by decide)))
  have G2_2 := f18.same X20
  exact Go.return_ d_prog_30_m1_35 rfl (nl rfl) (nl rfl) (fun vm' ch => ⟨rfl, ((((((Keep.refl h [a]).ext E1).wr X10 (Or.inl (by simp))).wr X11 (Or.inl (by simp))).ext E12).wr X20 (Or.inl (by simp))), Ea2, G0_2, G1_2, G2_2⟩)
theorem d_m4_0 : decode method_4_code 0 = .ok (.iload_n 0, 1) := by decide +kernel
theorem d_m4_1 : decode method_4_code 1 = .ok (.ldc 43, 2) := by decide +kernel
theorem d_m4_3 : decode method_4_code 3 = .ok (.if_icmp .lt 6, 3) := by decide +kernel
theorem d_m4_6 : decode method_4_code 6 = .ok (.bipush 10, 2) := by decide +kernel
theorem d_m4_8 : decode method_4_code 8 = .ok (.ireturn, 1) := by decide +kernel
theorem d_m4_9 : decode method_4_code 9 = .ok (.iload_n 0, 1) := by decide +kernel
theorem d_m4_10 : decode method_4_code 10 = .ok (.ldc 44, 2) := by decide +kernel
theorem d_m4_12 : decode method_4_code 12 = .ok (.if_icmp .lt 6, 3) := by decide +kernel
theorem d_m4_15 : decode method_4_code 15 = .ok (.bipush 9, 2) := by decide +kernel
theorem d_m4_17 : decode method_4_code 17 = .ok (.ireturn, 1) := by decide +kernel
theorem d_m4_18 : decode method_4_code 18 = .ok (.iload_n 0, 1) := by decide +kernel
theorem d_m4_19 : decode method_4_code 19 = .ok (.ldc 45, 2) := by decide +kernel
theorem d_m4_21 : decode method_4_code 21 = .ok (.if_icmp .lt 6, 3) := by decide +kernel
theorem d_m4_24 : decode method_4_code 24 = .ok (.bipush 8, 2) := by decide +kernel
theorem d_m4_26 : decode method_4_code 26 = .ok (.ireturn, 1) := by decide +kernel
theorem d_m4_27 : decode method_4_code 27 = .ok (.iload_n 0, 1) := by decide +kernel
theorem d_m4_28 : decode method_4_code 28 = .ok (.ldc 46, 2) := by decide +kernel
theorem d_m4_30 : decode method_4_code 30 = .ok (.if_icmp .lt 6, 3) := by decide +kernel
theorem d_m4_33 : decode method_4_code 33 = .ok (.bipush 7, 2) := by decide +kernel
theorem d_m4_35 : decode method_4_code 35 = .ok (.ireturn, 1) := by decide +kernel
theorem d_m4_36 : decode method_4_code 36 = .ok (.iload_n 0, 1) := by decide +kernel
theorem d_m4_37 : decode method_4_code 37 = .ok (.ldc 47, 2) := by decide +kernel
theorem d_m4_39 : decode method_4_code 39 = .ok (.if_icmp .lt 6, 3) := by decide +kernel
theorem d_m4_42 : decode method_4_code 42 = .ok (.bipush 6, 2) := by decide +kernel
theorem d_m4_44 : decode method_4_code 44 = .ok (.ireturn, 1) := by decide +kernel
theorem d_m4_45 : decode method_4_code 45 = .ok (.iload_n 0, 1) := by decide +kernel
theorem d_m4_46 : decode method_4_code 46 = .ok (.sipush 10000, 3) := by decide +kernel
theorem d_m4_49 : decode method_4_code 49 = .ok (.if_icmp .lt 5, 3) := by decide +kernel
theorem d_m4_52 : decode method_4_code 52 = .ok (.iconst 5, 1) := by decide +kernel
theorem d_m4_53 : decode method_4_code 53 = .ok (.ireturn, 1) := by decide +kernel
theorem d_m4_54 : decode method_4_code 54 = .ok (.iload_n 0, 1) := by decide +kernel
theorem d_m4_55 : decode method_4_code 55 = .ok (.sipush 1000, 3) := by decide +kernel
theorem d_m4_58 : decode method_4_code 58 = .ok (.if_icmp .lt 5, 3) := by decide +kernel
theorem d_m4_61 : decode method_4_code 61 = .ok (.iconst 4, 1) := by decide +kernel
theorem d_m4_62 : decode method_4_code 62 = .ok (.ireturn, 1) := by decide +kernel
theorem d_m4_63 : decode method_4_code 63 = .ok (.iload_n 0, 1) := by decide +kernel
theorem d_m4_64 : decode method_4_code 64 = .ok (.bipush 100, 2) := by decide +kernel
theorem d_m4_66 : decode method_4_code 66 = .ok (.if_icmp .lt 5, 3) := by decide +kernel
theorem d_m4_69 : decode method_4_code 69 = .ok (.iconst 3, 1) := by decide +kernel
theorem d_m4_70 : decode method_4_code 70 = .ok (.ireturn, 1) := by decide +kernel
theorem d_m4_71 : decode method_4_code 71 = .ok (.iload_n 0, 1) := by decide +kernel
theorem d_m4_72 : decode method_4_code 72 = .ok (.bipush 10, 2) := by decide +kernel
theorem d_m4_74 : decode method_4_code 74 = .ok (.if_icmp .lt 5, 3) := by decide +kernel
theorem d_m4_77 : decode method_4_code 77 = .ok (.iconst 2, 1) := by decide +kernel
theorem d_m4_78 : decode method_4_code 78 = .ok (.ireturn, 1) := by decide +kernel
theorem d_m4_79 : decode method_4_code 79 = .ok (.iconst 1, 1) := by decide +kernel
theorem d_m4_80 : decode method_4_code 80 = .ok (.ireturn, 1) := by decide +kernel
set_option maxRecDepth 65536 in
set_option maxHeartbeats 40000000 in
theorem cDigits {l : Launch} {Z : State} {a0 : Array Value} (W : Wd Z a0) {EL : List (String × Nat)} {vm : Vm} {h : Heap} {x_ : Int32} {n_ s_ : Nat} (hx : x_ = Int32.ofNat n_) (hn : n_ < 2 ^ 31) (hs : Nd s_ n_) :
    Ctr false l Z a0 EL (⟨"com/example/guide/guide/io/FlowProblemToStringPinLaw", "digits", "(I)I"⟩ : MethodName) method_4_code 1 (some .int) ({ frames := 0, cells := 0, slots := 0, locals := 0 } : Room) #[.int x_] vm h (fun v vm' h' => v = some (.int (Int32.ofNat s_)) ∧ h' = h) := by
  refine Ctr.of_go (L0 := #[.val (.int x_)]) (by first | exact plainFor_of_name (by first | (simp [plainName, overriddenIn]; done) | decide +kernel) | decide +kernel) (fun m => by first | (simp [entryFrame, mkF, argsToLocals, Value.category, maxLocals]; done) | rfl) (fun p e s m below meth c vmi chi => ?_)
  subst hx
  refine Go.iload_n 1 d_m4_0 rfl rfl ?_
  refine Go.ldcI (W.1 49 rfl) 3 d_m4_1 rfl ?_
  refine Go.if_icmplt 9 6 d_m4_3 (by decide) rfl rfl (fun g9 => ?_) (fun g9 => ?_)
  · refine Go.iload_n 10 d_m4_9 rfl rfl ?_
    refine Go.ldcI (W.1 50 rfl) 12 d_m4_10 rfl ?_
    refine Go.if_icmplt 18 15 d_m4_12 (by decide) rfl rfl (fun g8 => ?_) (fun g8 => ?_)
    · refine Go.iload_n 19 d_m4_18 rfl rfl ?_
      refine Go.ldcI (W.1 51 rfl) 21 d_m4_19 rfl ?_
      refine Go.if_icmplt 27 24 d_m4_21 (by decide) rfl rfl (fun g7 => ?_) (fun g7 => ?_)
      · refine Go.iload_n 28 d_m4_27 rfl rfl ?_
        refine Go.ldcI (W.1 52 rfl) 30 d_m4_28 rfl ?_
        refine Go.if_icmplt 36 33 d_m4_30 (by decide) rfl rfl (fun g6 => ?_) (fun g6 => ?_)
        · refine Go.iload_n 37 d_m4_36 rfl rfl ?_
          refine Go.ldcI (W.1 53 rfl) 39 d_m4_37 rfl ?_
          refine Go.if_icmplt 45 42 d_m4_39 (by decide) rfl rfl (fun g5 => ?_) (fun g5 => ?_)
          · refine Go.iload_n 46 d_m4_45 rfl rfl ?_
            refine Go.sipush (10000) 49 d_m4_46 rfl rfl ?_
            refine Go.if_icmplt 54 52 d_m4_49 (by decide) rfl rfl (fun g4 => ?_) (fun g4 => ?_)
            · refine Go.iload_n 55 d_m4_54 rfl rfl ?_
              refine Go.sipush (1000) 58 d_m4_55 rfl rfl ?_
              refine Go.if_icmplt 63 61 d_m4_58 (by decide) rfl rfl (fun g3 => ?_) (fun g3 => ?_)
              · refine Go.iload_n 64 d_m4_63 rfl rfl ?_
                refine Go.bipush (100) 66 d_m4_64 rfl rfl ?_
                refine Go.if_icmplt 71 69 d_m4_66 (by decide) rfl rfl (fun g2 => ?_) (fun g2 => ?_)
                · refine Go.iload_n 72 d_m4_71 rfl rfl ?_
                  refine Go.bipush (10) 74 d_m4_72 rfl rfl ?_
                  refine Go.if_icmplt 79 77 d_m4_74 (by decide) rfl rfl (fun g1 => ?_) (fun g1 => ?_)
                  · refine Go.iconst (1) 80 d_m4_79 rfl rfl ?_
                    have R : s_ = 1 := hs.uniq (hi := 10) (lo := 1) ((ofNat_lt hn (n := 10) (by decide)).mp g1) hs.pos (by decide) (by decide) (by decide)
                    subst R
                    exact Go.ireturn d_m4_80 rfl rfl (by simp) (nl rfl) (nl rfl) (fun vm' ch => ⟨rfl, rfl⟩)
                  · refine Go.iconst (2) 78 d_m4_77 rfl rfl ?_
                    have R : s_ = 2 := hs.uniq (hi := 100) (lo := 10) ((ofNat_lt hn (n := 100) (by decide)).mp g2) (Nat.le_of_not_lt fun z => g1 ((ofNat_lt hn (n := 10) (by decide)).mpr z)) (by decide) (by decide) (by decide)
                    subst R
                    exact Go.ireturn d_m4_78 rfl rfl (by simp) (nl rfl) (nl rfl) (fun vm' ch => ⟨rfl, rfl⟩)
                · refine Go.iconst (3) 70 d_m4_69 rfl rfl ?_
                  have R : s_ = 3 := hs.uniq (hi := 1000) (lo := 100) ((ofNat_lt hn (n := 1000) (by decide)).mp g3) (Nat.le_of_not_lt fun z => g2 ((ofNat_lt hn (n := 100) (by decide)).mpr z)) (by decide) (by decide) (by decide)
                  subst R
                  exact Go.ireturn d_m4_70 rfl rfl (by simp) (nl rfl) (nl rfl) (fun vm' ch => ⟨rfl, rfl⟩)
              · refine Go.iconst (4) 62 d_m4_61 rfl rfl ?_
                have R : s_ = 4 := hs.uniq (hi := 10000) (lo := 1000) ((ofNat_lt hn (n := 10000) (by decide)).mp g4) (Nat.le_of_not_lt fun z => g3 ((ofNat_lt hn (n := 1000) (by decide)).mpr z)) (by decide) (by decide) (by decide)
                subst R
                exact Go.ireturn d_m4_62 rfl rfl (by simp) (nl rfl) (nl rfl) (fun vm' ch => ⟨rfl, rfl⟩)
            · refine Go.iconst (5) 53 d_m4_52 rfl rfl ?_
              have R : s_ = 5 := hs.uniq (hi := 100000) (lo := 10000) ((ofNat_lt hn (n := 100000) (by decide)).mp g5) (Nat.le_of_not_lt fun z => g4 ((ofNat_lt hn (n := 10000) (by decide)).mpr z)) (by decide) (by decide) (by decide)
              subst R
              exact Go.ireturn d_m4_53 rfl rfl (by simp) (nl rfl) (nl rfl) (fun vm' ch => ⟨rfl, rfl⟩)
          · refine Go.bipush (6) 44 d_m4_42 rfl rfl ?_
            have R : s_ = 6 := hs.uniq (hi := 1000000) (lo := 100000) ((ofNat_lt hn (n := 1000000) (by decide)).mp g6) (Nat.le_of_not_lt fun z => g5 ((ofNat_lt hn (n := 100000) (by decide)).mpr z)) (by decide) (by decide) (by decide)
            subst R
            exact Go.ireturn d_m4_44 rfl rfl (by simp) (nl rfl) (nl rfl) (fun vm' ch => ⟨rfl, rfl⟩)
        · refine Go.bipush (7) 35 d_m4_33 rfl rfl ?_
          have R : s_ = 7 := hs.uniq (hi := 10000000) (lo := 1000000) ((ofNat_lt hn (n := 10000000) (by decide)).mp g7) (Nat.le_of_not_lt fun z => g6 ((ofNat_lt hn (n := 1000000) (by decide)).mpr z)) (by decide) (by decide) (by decide)
          subst R
          exact Go.ireturn d_m4_35 rfl rfl (by simp) (nl rfl) (nl rfl) (fun vm' ch => ⟨rfl, rfl⟩)
      · refine Go.bipush (8) 26 d_m4_24 rfl rfl ?_
        have R : s_ = 8 := hs.uniq (hi := 100000000) (lo := 10000000) ((ofNat_lt hn (n := 100000000) (by decide)).mp g8) (Nat.le_of_not_lt fun z => g7 ((ofNat_lt hn (n := 10000000) (by decide)).mpr z)) (by decide) (by decide) (by decide)
        subst R
        exact Go.ireturn d_m4_26 rfl rfl (by simp) (nl rfl) (nl rfl) (fun vm' ch => ⟨rfl, rfl⟩)
    · refine Go.bipush (9) 17 d_m4_15 rfl rfl ?_
      have R : s_ = 9 := hs.uniq (hi := 1000000000) (lo := 100000000) ((ofNat_lt hn (n := 1000000000) (by decide)).mp g9) (Nat.le_of_not_lt fun z => g8 ((ofNat_lt hn (n := 100000000) (by decide)).mpr z)) (by decide) (by decide) (by decide)
      subst R
      exact Go.ireturn d_m4_17 rfl rfl (by simp) (nl rfl) (nl rfl) (fun vm' ch => ⟨rfl, rfl⟩)
  · refine Go.bipush (10) 8 d_m4_6 rfl rfl ?_
    have R : s_ = 10 := hs.uniq (hi := 10000000000) (lo := 1000000000) (Nat.lt_trans hn (by decide)) (Nat.le_of_not_lt fun z => g9 ((ofNat_lt hn (n := 1000000000) (by decide)).mpr z)) (by decide) (by decide) (by decide)
    subst R
    exact Go.ireturn d_m4_8 rfl rfl (by simp) (nl rfl) (nl rfl) (fun vm' ch => ⟨rfl, rfl⟩)
theorem d_m5_0 : decode method_5_code 0 = .ok (.bipush 10, 2) := by decide +kernel
theorem d_m5_2 : decode method_5_code 2 = .ok (.newarray .int, 2) := by decide +kernel
theorem d_m5_4 : decode method_5_code 4 = .ok (.dup, 1) := by decide +kernel
theorem d_m5_5 : decode method_5_code 5 = .ok (.iconst 0, 1) := by decide +kernel
theorem d_m5_6 : decode method_5_code 6 = .ok (.iconst 1, 1) := by decide +kernel
theorem d_m5_7 : decode method_5_code 7 = .ok (.iastore, 1) := by decide +kernel
theorem d_m5_8 : decode method_5_code 8 = .ok (.dup, 1) := by decide +kernel
theorem d_m5_9 : decode method_5_code 9 = .ok (.iconst 1, 1) := by decide +kernel
theorem d_m5_10 : decode method_5_code 10 = .ok (.bipush 10, 2) := by decide +kernel
theorem d_m5_12 : decode method_5_code 12 = .ok (.iastore, 1) := by decide +kernel
theorem d_m5_13 : decode method_5_code 13 = .ok (.dup, 1) := by decide +kernel
theorem d_m5_14 : decode method_5_code 14 = .ok (.iconst 2, 1) := by decide +kernel
theorem d_m5_15 : decode method_5_code 15 = .ok (.bipush 100, 2) := by decide +kernel
theorem d_m5_17 : decode method_5_code 17 = .ok (.iastore, 1) := by decide +kernel
theorem d_m5_18 : decode method_5_code 18 = .ok (.dup, 1) := by decide +kernel
theorem d_m5_19 : decode method_5_code 19 = .ok (.iconst 3, 1) := by decide +kernel
theorem d_m5_20 : decode method_5_code 20 = .ok (.sipush 1000, 3) := by decide +kernel
theorem d_m5_23 : decode method_5_code 23 = .ok (.iastore, 1) := by decide +kernel
theorem d_m5_24 : decode method_5_code 24 = .ok (.dup, 1) := by decide +kernel
theorem d_m5_25 : decode method_5_code 25 = .ok (.iconst 4, 1) := by decide +kernel
theorem d_m5_26 : decode method_5_code 26 = .ok (.sipush 10000, 3) := by decide +kernel
theorem d_m5_29 : decode method_5_code 29 = .ok (.iastore, 1) := by decide +kernel
theorem d_m5_30 : decode method_5_code 30 = .ok (.dup, 1) := by decide +kernel
theorem d_m5_31 : decode method_5_code 31 = .ok (.iconst 5, 1) := by decide +kernel
theorem d_m5_32 : decode method_5_code 32 = .ok (.ldc 47, 2) := by decide +kernel
theorem d_m5_34 : decode method_5_code 34 = .ok (.iastore, 1) := by decide +kernel
theorem d_m5_35 : decode method_5_code 35 = .ok (.dup, 1) := by decide +kernel
theorem d_m5_36 : decode method_5_code 36 = .ok (.bipush 6, 2) := by decide +kernel
theorem d_m5_38 : decode method_5_code 38 = .ok (.ldc 46, 2) := by decide +kernel
theorem d_m5_40 : decode method_5_code 40 = .ok (.iastore, 1) := by decide +kernel
theorem d_m5_41 : decode method_5_code 41 = .ok (.dup, 1) := by decide +kernel
theorem d_m5_42 : decode method_5_code 42 = .ok (.bipush 7, 2) := by decide +kernel
theorem d_m5_44 : decode method_5_code 44 = .ok (.ldc 45, 2) := by decide +kernel
theorem d_m5_46 : decode method_5_code 46 = .ok (.iastore, 1) := by decide +kernel
theorem d_m5_47 : decode method_5_code 47 = .ok (.dup, 1) := by decide +kernel
theorem d_m5_48 : decode method_5_code 48 = .ok (.bipush 8, 2) := by decide +kernel
theorem d_m5_50 : decode method_5_code 50 = .ok (.ldc 44, 2) := by decide +kernel
theorem d_m5_52 : decode method_5_code 52 = .ok (.iastore, 1) := by decide +kernel
theorem d_m5_53 : decode method_5_code 53 = .ok (.dup, 1) := by decide +kernel
theorem d_m5_54 : decode method_5_code 54 = .ok (.bipush 9, 2) := by decide +kernel
theorem d_m5_56 : decode method_5_code 56 = .ok (.ldc 43, 2) := by decide +kernel
theorem d_m5_58 : decode method_5_code 58 = .ok (.iastore, 1) := by decide +kernel
theorem d_m5_59 : decode method_5_code 59 = .ok (.astore_n 2, 1) := by decide +kernel
theorem d_m5_60 : decode method_5_code 60 = .ok (.bipush 48, 2) := by decide +kernel
theorem d_m5_62 : decode method_5_code 62 = .ok (.iload_n 0, 1) := by decide +kernel
theorem d_m5_63 : decode method_5_code 63 = .ok (.aload_n 2, 1) := by decide +kernel
theorem d_m5_64 : decode method_5_code 64 = .ok (.iload_n 1, 1) := by decide +kernel
theorem d_m5_65 : decode method_5_code 65 = .ok (.iaload, 1) := by decide +kernel
theorem d_m5_66 : decode method_5_code 66 = .ok (.idiv, 1) := by decide +kernel
theorem d_m5_67 : decode method_5_code 67 = .ok (.bipush 10, 2) := by decide +kernel
theorem d_m5_69 : decode method_5_code 69 = .ok (.irem, 1) := by decide +kernel
theorem d_m5_70 : decode method_5_code 70 = .ok (.iadd, 1) := by decide +kernel
theorem d_m5_71 : decode method_5_code 71 = .ok (.i2c, 1) := by decide +kernel
theorem d_m5_72 : decode method_5_code 72 = .ok (.ireturn, 1) := by decide +kernel
set_option maxRecDepth 65536 in
set_option maxHeartbeats 40000000 in
theorem cDig {l : Launch} {Z : State} {a0 : Array Value} (W : Wd Z a0) {EL : List (String × Nat)} {vm : Vm} {h : Heap} {x_ p_ : Int32} {n_ t_ : Nat} (hx : x_ = Int32.ofNat n_) (hn : n_ < 2 ^ 31) (hp : ¬ p_ < 0 ∧ p_ < (10 : Int32)) (ht : ([.int (1 : Int32), .int (10 : Int32), .int (100 : Int32), .int (1000 : Int32), .int (10000 : Int32), .int (100000 : Int32), .int (1000000 : Int32), .int (10000000 : Int32), .int (100000000 : Int32), .int (1000000000 : Int32)] : List Value).getD p_.toNatClampNeg (.int 0) = .int (Int32.ofNat t_)) (h0 : 0 < t_ ∧ t_ < 2 ^ 31) :
    Ctr false l Z a0 EL (⟨"com/example/guide/guide/io/FlowProblemToStringPinLaw", "dig", "(II)C"⟩ : MethodName) method_5_code 3 (some .char) ({ frames := 0, cells := 1, slots := 10, locals := 0 } : Room) #[.int x_, .int p_] vm h (fun v vm' h' => v = some (.int (Int32.ofNat (48 + n_ / t_ % 10))) ∧ Ext h h') := by
  refine Ctr.of_go (L0 := #[.val (.int x_), .val (.int p_), .unset]) (by first | exact plainFor_of_name (by first | (simp [plainName, overriddenIn]; done) | decide +kernel) | decide +kernel) (fun m => by first | (simp [entryFrame, mkF, argsToLocals, Value.category, maxLocals]; done) | rfl) (fun p e s m below meth c vmi chi => ?_)
  subst hx
  refine Go.bipush (10) 2 d_m5_0 rfl rfl ?_
  refine Go.newarray 10 4 d_m5_2 rfl (W.1 57 rfl) (by decide) (by decide) (by decide) (nl rfl) (nl rfl) (fun t1 h1 e1 E1 ⟨k1, B1⟩ S1 z1 c1 => ?_)
  have A1 : Arv Z h1 t1 k1 .int (10 : Int32) [.int (0 : Int32), .int (0 : Int32), .int (0 : Int32), .int (0 : Int32), .int (0 : Int32), .int (0 : Int32), .int (0 : Int32), .int (0 : Int32), .int (0 : Int32), .int (0 : Int32)] (.int 0) := B1.pad (pad_rep [] (.int 0) 10)
  refine Go.dup 5 d_m5_4 rfl rfl ?_
  refine Go.iconst (0) 6 d_m5_5 rfl rfl ?_
  refine Go.iconst (1) 7 d_m5_6 rfl rfl ?_
  refine Go.iastore 0 (1 : Int32) [.int (1 : Int32), .int (0 : Int32), .int (0 : Int32), .int (0 : Int32), .int (0 : Int32), .int (0 : Int32), .int (0 : Int32), .int (0 : Int32), .int (0 : Int32), .int (0 : Int32)] 8 d_m5_7 rfl A1 (by decide) rfl (nl rfl) rfl rfl S1 z1 (fun h2 K2 A2 S2 c2 => ?_)
  have E2 := Ext.kp1 E1 K2 e1
  refine Go.dup 9 d_m5_8 rfl rfl ?_
  refine Go.iconst (1) 10 d_m5_9 rfl rfl ?_
  refine Go.bipush (10) 12 d_m5_10 rfl rfl ?_
  refine Go.iastore 1 (10 : Int32) [.int (1 : Int32), .int (10 : Int32), .int (0 : Int32), .int (0 : Int32), .int (0 : Int32), .int (0 : Int32), .int (0 : Int32), .int (0 : Int32), .int (0 : Int32), .int (0 : Int32)] 13 d_m5_12 rfl A2 (by decide) rfl (nl rfl) rfl rfl S2 z1 (fun h3 K3 A3 S3 c3 => ?_)
  have E3 := Ext.kp1 E2 K3 e1
  refine Go.dup 14 d_m5_13 rfl rfl ?_
  refine Go.iconst (2) 15 d_m5_14 rfl rfl ?_
  refine Go.bipush (100) 17 d_m5_15 rfl rfl ?_
  refine Go.iastore 2 (100 : Int32) [.int (1 : Int32), .int (10 : Int32), .int (100 : Int32), .int (0 : Int32), .int (0 : Int32), .int (0 : Int32), .int (0 : Int32), .int (0 : Int32), .int (0 : Int32), .int (0 : Int32)] 18 d_m5_17 rfl A3 (by decide) rfl (nl rfl) rfl rfl S3 z1 (fun h4 K4 A4 S4 c4 => ?_)
  have E4 := Ext.kp1 E3 K4 e1
  refine Go.dup 19 d_m5_18 rfl rfl ?_
  refine Go.iconst (3) 20 d_m5_19 rfl rfl ?_
  refine Go.sipush (1000) 23 d_m5_20 rfl rfl ?_
  refine Go.iastore 3 (1000 : Int32) [.int (1 : Int32), .int (10 : Int32), .int (100 : Int32), .int (1000 : Int32), .int (0 : Int32), .int (0 : Int32), .int (0 : Int32), .int (0 : Int32), .int (0 : Int32), .int (0 : Int32)] 24 d_m5_23 rfl A4 (by decide) rfl (nl rfl) rfl rfl S4 z1 (fun h5 K5 A5 S5 c5 => ?_)
  have E5 := Ext.kp1 E4 K5 e1
  refine Go.dup 25 d_m5_24 rfl rfl ?_
  refine Go.iconst (4) 26 d_m5_25 rfl rfl ?_
  refine Go.sipush (10000) 29 d_m5_26 rfl rfl ?_
  refine Go.iastore 4 (10000 : Int32) [.int (1 : Int32), .int (10 : Int32), .int (100 : Int32), .int (1000 : Int32), .int (10000 : Int32), .int (0 : Int32), .int (0 : Int32), .int (0 : Int32), .int (0 : Int32), .int (0 : Int32)] 30 d_m5_29 rfl A5 (by decide) rfl (nl rfl) rfl rfl S5 z1 (fun h6 K6 A6 S6 c6 => ?_)
  have E6 := Ext.kp1 E5 K6 e1
  refine Go.dup 31 d_m5_30 rfl rfl ?_
  refine Go.iconst (5) 32 d_m5_31 rfl rfl ?_
  refine Go.ldcI (W.1 53 rfl) 34 d_m5_32 rfl ?_
  refine Go.iastore 5 (100000 : Int32) [.int (1 : Int32), .int (10 : Int32), .int (100 : Int32), .int (1000 : Int32), .int (10000 : Int32), .int (100000 : Int32), .int (0 : Int32), .int (0 : Int32), .int (0 : Int32), .int (0 : Int32)] 35 d_m5_34 rfl A6 (by decide) rfl (nl rfl) rfl rfl S6 z1 (fun h7 K7 A7 S7 c7 => ?_)
  have E7 := Ext.kp1 E6 K7 e1
  refine Go.dup 36 d_m5_35 rfl rfl ?_
  refine Go.bipush (6) 38 d_m5_36 rfl rfl ?_
  refine Go.ldcI (W.1 52 rfl) 40 d_m5_38 rfl ?_
  refine Go.iastore 6 (1000000 : Int32) [.int (1 : Int32), .int (10 : Int32), .int (100 : Int32), .int (1000 : Int32), .int (10000 : Int32), .int (100000 : Int32), .int (1000000 : Int32), .int (0 : Int32), .int (0 : Int32), .int (0 : Int32)] 41 d_m5_40 rfl A7 (by decide) rfl (nl rfl) rfl rfl S7 z1 (fun h8 K8 A8 S8 c8 => ?_)
  have E8 := Ext.kp1 E7 K8 e1
  refine Go.dup 42 d_m5_41 rfl rfl ?_
  refine Go.bipush (7) 44 d_m5_42 rfl rfl ?_
  refine Go.ldcI (W.1 51 rfl) 46 d_m5_44 rfl ?_
  refine Go.iastore 7 (10000000 : Int32) [.int (1 : Int32), .int (10 : Int32), .int (100 : Int32), .int (1000 : Int32), .int (10000 : Int32), .int (100000 : Int32), .int (1000000 : Int32), .int (10000000 : Int32), .int (0 : Int32), .int (0 : Int32)] 47 d_m5_46 rfl A8 (by decide) rfl (nl rfl) rfl rfl S8 z1 (fun h9 K9 A9 S9 c9 => ?_)
  have E9 := Ext.kp1 E8 K9 e1
  refine Go.dup 48 d_m5_47 rfl rfl ?_
  refine Go.bipush (8) 50 d_m5_48 rfl rfl ?_
  refine Go.ldcI (W.1 50 rfl) 52 d_m5_50 rfl ?_
  refine Go.iastore 8 (100000000 : Int32) [.int (1 : Int32), .int (10 : Int32), .int (100 : Int32), .int (1000 : Int32), .int (10000 : Int32), .int (100000 : Int32), .int (1000000 : Int32), .int (10000000 : Int32), .int (100000000 : Int32), .int (0 : Int32)] 53 d_m5_52 rfl A9 (by decide) rfl (nl rfl) rfl rfl S9 z1 (fun h10 K10 A10 S10 c10 => ?_)
  have E10 := Ext.kp1 E9 K10 e1
  refine Go.dup 54 d_m5_53 rfl rfl ?_
  refine Go.bipush (9) 56 d_m5_54 rfl rfl ?_
  refine Go.ldcI (W.1 49 rfl) 58 d_m5_56 rfl ?_
  refine Go.iastore 9 (1000000000 : Int32) [.int (1 : Int32), .int (10 : Int32), .int (100 : Int32), .int (1000 : Int32), .int (10000 : Int32), .int (100000 : Int32), .int (1000000 : Int32), .int (10000000 : Int32), .int (100000000 : Int32), .int (1000000000 : Int32)] 59 d_m5_58 rfl A10 (by decide) rfl (nl rfl) rfl rfl S10 z1 (fun h11 K11 A11 S11 c11 => ?_)
  have E11 := Ext.kp1 E10 K11 e1
  refine Go.astore_n #[.val (.int (Int32.ofNat n_)), .val (.int p_), .val (.ref t1)] 60 d_m5_59 rfl rfl rfl ?_
  refine Go.bipush (48) 62 d_m5_60 rfl rfl ?_
  refine Go.iload_n 63 d_m5_62 rfl rfl ?_
  refine Go.aload_n 64 d_m5_63 rfl rfl rfl ?_
  refine Go.iload_n 65 d_m5_64 rfl rfl ?_
  refine Go.iaload (.int (Int32.ofNat t_)) 66 d_m5_65 rfl A11 hp ht ?_
  refine Go.idiv (Int32.ofNat (n_ / t_)) 67 d_m5_66 rfl (neN h0) (divN hn h0) ?_
  refine Go.bipush (10) 69 d_m5_67 rfl rfl ?_
  refine Go.irem (Int32.ofNat (n_ / t_ % 10)) 70 d_m5_69 rfl (by decide) ((irem_eq_mod _ _).trans (mod10N (Nat.lt_of_le_of_lt (Nat.div_le_self _ _) hn))) ?_
  refine Go.iadd (Int32.ofNat (48 + n_ / t_ % 10)) 71 d_m5_70 rfl (add48 _) ?_
  refine Go.i2c (Int32.ofNat (48 + n_ / t_ % 10)) 72 d_m5_71 rfl (narC (dg48 _)) ?_
  exact Go.ireturn d_m5_72 rfl (narCv (dg48 _)) (by simp) (nl rfl) (nl rfl) (fun vm' ch => ⟨rfl, E11⟩)
theorem d_prog_30_m5_0 : decode prog_30_method_5_code 0 = .ok (.new 30, 3) := by decide +kernel
theorem d_prog_30_m5_3 : decode prog_30_method_5_code 3 = .ok (.dup, 1) := by decide +kernel
theorem d_prog_30_m5_4 : decode prog_30_method_5_code 4 = .ok (.invokespecial 32, 3) := by decide +kernel
theorem d_prog_30_m5_7 : decode prog_30_method_5_code 7 = .ok (.aload_n 0, 1) := by decide +kernel
theorem d_prog_30_m5_8 : decode prog_30_method_5_code 8 = .ok (.getfield 17, 3) := by decide +kernel
theorem d_prog_30_m5_11 : decode prog_30_method_5_code 11 = .ok (.invokevirtual 33, 3) := by decide +kernel
theorem d_prog_30_m5_14 : decode prog_30_method_5_code 14 = .ok (.aload_n 0, 1) := by decide +kernel
theorem d_prog_30_m5_15 : decode prog_30_method_5_code 15 = .ok (.getfield 22, 3) := by decide +kernel
theorem d_prog_30_m5_18 : decode prog_30_method_5_code 18 = .ok (.ifCond .le 28, 3) := by decide +kernel
theorem d_prog_30_m5_21 : decode prog_30_method_5_code 21 = .ok (.new 30, 3) := by decide +kernel
theorem d_prog_30_m5_24 : decode prog_30_method_5_code 24 = .ok (.dup, 1) := by decide +kernel
theorem d_prog_30_m5_25 : decode prog_30_method_5_code 25 = .ok (.invokespecial 32, 3) := by decide +kernel
theorem d_prog_30_m5_28 : decode prog_30_method_5_code 28 = .ok (.ldc 37, 2) := by decide +kernel
theorem d_prog_30_m5_30 : decode prog_30_method_5_code 30 = .ok (.invokevirtual 33, 3) := by decide +kernel
theorem d_prog_30_m5_33 : decode prog_30_method_5_code 33 = .ok (.aload_n 0, 1) := by decide +kernel
theorem d_prog_30_m5_34 : decode prog_30_method_5_code 34 = .ok (.getfield 22, 3) := by decide +kernel
theorem d_prog_30_m5_37 : decode prog_30_method_5_code 37 = .ok (.invokevirtual 39, 3) := by decide +kernel
theorem d_prog_30_m5_40 : decode prog_30_method_5_code 40 = .ok (.invokevirtual 42, 3) := by decide +kernel
theorem d_prog_30_m5_43 : decode prog_30_method_5_code 43 = .ok (.goto 5, 3) := by decide +kernel
theorem d_prog_30_m5_46 : decode prog_30_method_5_code 46 = .ok (.ldc 46, 2) := by decide +kernel
theorem d_prog_30_m5_48 : decode prog_30_method_5_code 48 = .ok (.invokevirtual 33, 3) := by decide +kernel
theorem d_prog_30_m5_51 : decode prog_30_method_5_code 51 = .ok (.ldc 48, 2) := by decide +kernel
theorem d_prog_30_m5_53 : decode prog_30_method_5_code 53 = .ok (.invokevirtual 33, 3) := by decide +kernel
theorem d_prog_30_m5_56 : decode prog_30_method_5_code 56 = .ok (.aload_n 0, 1) := by decide +kernel
theorem d_prog_30_m5_57 : decode prog_30_method_5_code 57 = .ok (.getfield 28, 3) := by decide +kernel
theorem d_prog_30_m5_60 : decode prog_30_method_5_code 60 = .ok (.invokevirtual 33, 3) := by decide +kernel
theorem d_prog_30_m5_63 : decode prog_30_method_5_code 63 = .ok (.invokevirtual 42, 3) := by decide +kernel
theorem d_prog_30_m5_66 : decode prog_30_method_5_code 66 = .ok (.areturn, 1) := by decide +kernel
set_option maxRecDepth 65536 in
set_option maxHeartbeats 40000000 in
theorem cPT {l : Launch} {Z : State} {a0 : Array Value} (W : Wd Z a0) {EL : List (String × Nat)} {vm : Vm} {h : Heap} {a s0 s2 o1 o2 : Addr} {ln : Int32} {d0 d2 t_ : List Int32} (hm : ("com/example/guide/guide/io/FlowProblem", 37) ∈ EL ∧ ("com/example/guide/guide/io/FlowProblem", 46) ∈ EL ∧ ("com/example/guide/guide/io/FlowProblem", 48) ∈ EL) (D : Dg Z o1 o2) (P : Exa Z h a "com/example/guide/guide/io/FlowProblem" ∧ Fld Z h a "com/example/guide/guide/io/FlowProblem" "fileName" "Ljava/lang/String;" (.ref s0) ∧ Fld Z h a "com/example/guide/guide/io/FlowProblem" "line" "I" (.int ln) ∧ Fld Z h a "com/example/guide/guide/io/FlowProblem" "reason" "Ljava/lang/String;" (.ref s2)) (Ta0 : Str Z h s0 d0) (Ta2 : Str Z h s2 d2) (hL : LT ln t_) (h0 : d0.length ≤ 3) (h2 : d2.length ≤ 3) :
    Ctr false l Z a0 EL (⟨"com/example/guide/guide/io/FlowProblem", "toString", "()Ljava/lang/String;"⟩ : MethodName) prog_30_method_5_code 1 (some (.object "java/lang/String")) ({ frames := 6, cells := 18, slots := 364, locals := 92 } : Room) #[.ref a] vm h (fun v vm' h' => ∃ z, v = some (.ref z) ∧ Ext h h' ∧ Str Z h' z (((d0 ++ t_) ++ [58, 32]) ++ d2)) := by
  refine Ctr.of_go (L0 := #[.val (.ref a)]) (by first | exact plainFor_of_name (by first | (simp [plainName, overriddenIn]; done) | decide +kernel) | decide +kernel) (fun m => by first | (simp [entryFrame, mkF, argsToLocals, Value.category, maxLocals]; done) | rfl) (fun p e s m below meth c vmi chi => ?_)
  rcases hL with ⟨hz0, rfl⟩ | ⟨hz0, s_, n_, rfl, hn, hs, rfl⟩
  · refine Go.new 3 d_prog_30_m5_0 rfl (W.1 63 rfl) (W.1 64 rfl) (W.1 65 rfl) (nl rfl) (nl rfl) (fun b h1 e1 E1 ⟨A1, D1⟩ S1 z1 c1 => ?_)
    refine Go.dup 4 d_prog_30_m5_3 rfl rfl ?_
    have f2 := D1 (Or.inl (W.1 78 rfl)) (ty := (.array .byte)) (by decide)
    have f3 := D1 (Or.inl (W.1 80 rfl)) (ty := .byte) (by decide)
    have f4 := D1 (Or.inl (W.1 103 rfl)) (ty := .int) (by decide)
    refine Go.invokespecial (rest := [.ref b]) 1 b [] 7 d_prog_30_m5_4 rfl rfl (W.1 66 rfl) (W.1 67 rfl) (W.1 65 rfl) (W.1 68 rfl) (by decide) (cSb0 W A1 f2 f3 f4 S1 z1) (by decide +kernel : parseMethodDescriptor "()V" = some ⟨[], none⟩) rfl rfl rfl (nl rfl) (nl rfl) (nl rfl) (nl rfl) (nl rfl) (fun v65 vm65 h65 ⟨rv, K54, d54, kd54, B54, hd54, Sd54⟩ c65 => ?_)
    subst rv
    have EE54 := Ext.kp1 E1 K54 e1
    have hb54 : h.size ≤ b := Nat.le_of_eq e1.symm
    have hl54 : h.size ≤ d54 := Nat.le_trans hb54 (Nat.le_trans (Nat.le_of_lt A1.lt) hd54)
    have zd54 : Z.heap.size ≤ d54 := Nat.le_trans z1 (Nat.le_trans (Nat.le_of_lt A1.lt) hd54)
    have nd54 : d54 ≠ b := (ne_of_new A1.lt hd54).symm
    refine Go.aload_n 8 d_prog_30_m5_7 rfl rfl rfl ?_
    have f66 := P.2.1.ext EE54
    refine Go.getfield 11 d_prog_30_m5_8 rfl (W.1 39 rfl) f66 ?_
    have f67 := Ta0.ext EE54
    have f68 := CHr.safe c65 A1.lt S1
    have L68 := Nat.lt_of_lt_of_le A1.lt c65.2.1
    refine Go.invokevirtual (rest := []) 0 b [.ref s0] 14 d_prog_30_m5_11 rfl B54.e (W.1 81 rfl) (W.1 82 rfl) (fun s hs => notFace_of_selects (args := #[]) (mvT hs (W.1 84 rfl))) (W.1 84 rfl) (W.1 83 rfl) (W.1 65 rfl) (W.1 85 rfl) (by decide) (cAppS W f67 B54 (by simp only [List.length_append, List.length_cons, List.length_nil, dgL_len]; omega) f68 z1 Sd54 zd54 nd54) (by decide +kernel : parseMethodDescriptor "(Ljava/lang/String;)Ljava/lang/StringBuilder;" = some ⟨[(.object "java/lang/String")], (some (.object "java/lang/StringBuilder"))⟩) rfl rfl rfl (nl rfl) (nl rfl) (nl rfl) (nl rfl) (nl rfl) (fun v129 vm129 h129 ⟨d118, kd118, cap118, rv, K118, B118, o118, Sd118⟩ c129 => ?_)
    subst rv
    have EE118 := Ext.kp2 EE54 K118 hb54 hl54
    have hl118 : h.size ≤ d118 := o118.elim (fun q => by rw [q]; exact hl54) (fun q => Nat.le_trans EE54.1 q)
    have zd118 : Z.heap.size ≤ d118 := o118.elim (fun q => by rw [q]; exact zd54) (fun q => Nat.le_trans z1 (Nat.le_trans (Nat.le_of_lt B54.e.lt) q))
    have nd118 : d118 ≠ b := o118.elim (fun q => by rw [q]; exact nd54) (fun q => (ne_of_new B54.e.lt q).symm)
    refine Go.aload_n 15 d_prog_30_m5_14 rfl rfl rfl ?_
    have f130 := P.2.2.1.ext EE118
    refine Go.getfield 18 d_prog_30_m5_15 rfl (W.1 41 rfl) f130 ?_
    refine Go.ifle 46 21 d_prog_30_m5_18 (by decide) rfl rfl (fun q131 => ?_) (fun q131 => absurd q131 hz0)
    refine Go.ldcS (text := "") (vs := []) (z := (0 : Int32)) 0 48 d_prog_30_m5_46 rfl rfl (W.1 234 rfl) (W.sub (by decide +kernel)) hm.2.1 lit_ok_.1 (by decide) (by decide) lit_ok_.2 (by decide) (nl rfl) (nl rfl) (fun y0 b132 k132 vm132 h132 E132 A132 C132 V132 B132 N132 c132 => ?_)
    have T132 : Str Z h132 y0 [] := ⟨b132, k132, A132, C132, V132, B132, by decide, by decide⟩
    have f133 := B118.ext E132
    have f134 := CHr.safe (CHr.trans c129 c132) L68 f68
    have L134 := Nat.lt_of_lt_of_le L68 (CHr.trans c129 c132).2.1
    have f135 := CHr.safe c132 B118.ar.lt Sd118
    have L135 := Nat.lt_of_lt_of_le B118.ar.lt c132.2.1
    refine Go.invokevirtual (rest := []) 0 b [.ref y0] 51 d_prog_30_m5_48 rfl f133.e (W.1 81 rfl) (W.1 82 rfl) (fun s hs => notFace_of_selects (args := #[]) (mvT hs (W.1 84 rfl))) (W.1 84 rfl) (W.1 83 rfl) (W.1 65 rfl) (W.1 85 rfl) (by decide) (cAppS W T132 f133 (by simp only [List.length_append, List.length_cons, List.length_nil, dgL_len]; omega) f134 z1 f135 zd118 nd118) (by decide +kernel : parseMethodDescriptor "(Ljava/lang/String;)Ljava/lang/StringBuilder;" = some ⟨[(.object "java/lang/String")], (some (.object "java/lang/StringBuilder"))⟩) rfl rfl rfl (nl rfl) (nl rfl) (nl rfl) (nl rfl) (nl rfl) (fun v196 vm196 h196 ⟨d185, kd185, cap185, rv, K185, B185, o185, Sd185⟩ c196 => ?_)
    subst rv
    have EE185 := Ext.kp2 (Ext.tr EE118 E132) K185 hb54 hl118
    have hl185 : h.size ≤ d185 := o185.elim (fun q => by rw [q]; exact hl118) (fun q => Nat.le_trans (Ext.tr EE118 E132).1 q)
    have zd185 : Z.heap.size ≤ d185 := o185.elim (fun q => by rw [q]; exact zd118) (fun q => Nat.le_trans z1 (Nat.le_trans (Nat.le_of_lt f133.e.lt) q))
    have nd185 : d185 ≠ b := o185.elim (fun q => by rw [q]; exact nd118) (fun q => (ne_of_new f133.e.lt q).symm)
    refine Go.ldcS (text := ": ") (vs := [.int (58), .int (32)]) (z := (2 : Int32)) 8 53 d_prog_30_m5_51 rfl rfl (W.1 193 rfl) (W.sub (by decide +kernel)) hm.2.2 lit_ok__3a_20.1 (by decide) (by decide) lit_ok__3a_20.2 (by decide) (nl rfl) (nl rfl) (fun y2 b197 k197 vm197 h197 E197 A197 C197 V197 B197 N197 c197 => ?_)
    have T197 : Str Z h197 y2 [58, 32] := ⟨b197, k197, A197, C197, V197, B197, by decide, by decide⟩
    have f198 := B185.ext E197
    have f199 := CHr.safe (CHr.trans c196 c197) L134 f134
    have L199 := Nat.lt_of_lt_of_le L134 (CHr.trans c196 c197).2.1
    have f200 := CHr.safe c197 B185.ar.lt Sd185
    have L200 := Nat.lt_of_lt_of_le B185.ar.lt c197.2.1
    refine Go.invokevirtual (rest := []) 0 b [.ref y2] 56 d_prog_30_m5_53 rfl f198.e (W.1 81 rfl) (W.1 82 rfl) (fun s hs => notFace_of_selects (args := #[]) (mvT hs (W.1 84 rfl))) (W.1 84 rfl) (W.1 83 rfl) (W.1 65 rfl) (W.1 85 rfl) (by decide) (cAppS W T197 f198 (by simp only [List.length_append, List.length_cons, List.length_nil, dgL_len]; omega) f199 z1 f200 zd185 nd185) (by decide +kernel : parseMethodDescriptor "(Ljava/lang/String;)Ljava/lang/StringBuilder;" = some ⟨[(.object "java/lang/String")], (some (.object "java/lang/StringBuilder"))⟩) rfl rfl rfl (nl rfl) (nl rfl) (nl rfl) (nl rfl) (nl rfl) (fun v261 vm261 h261 ⟨d250, kd250, cap250, rv, K250, B250, o250, Sd250⟩ c261 => ?_)
    subst rv
    have EE250 := Ext.kp2 (Ext.tr EE185 E197) K250 hb54 hl185
    have hl250 : h.size ≤ d250 := o250.elim (fun q => by rw [q]; exact hl185) (fun q => Nat.le_trans (Ext.tr EE185 E197).1 q)
    have zd250 : Z.heap.size ≤ d250 := o250.elim (fun q => by rw [q]; exact zd185) (fun q => Nat.le_trans z1 (Nat.le_trans (Nat.le_of_lt f198.e.lt) q))
    have nd250 : d250 ≠ b := o250.elim (fun q => by rw [q]; exact nd185) (fun q => (ne_of_new f198.e.lt q).symm)
    refine Go.aload_n 57 d_prog_30_m5_56 rfl rfl rfl ?_
    have f262 := P.2.2.2.ext EE250
    refine Go.getfield 60 d_prog_30_m5_57 rfl (W.1 44 rfl) f262 ?_
    have f263 := Ta2.ext EE250
    have f264 := CHr.safe c261 L199 f199
    have L264 := Nat.lt_of_lt_of_le L199 c261.2.1
    refine Go.invokevirtual (rest := []) 0 b [.ref s2] 63 d_prog_30_m5_60 rfl B250.e (W.1 81 rfl) (W.1 82 rfl) (fun s hs => notFace_of_selects (args := #[]) (mvT hs (W.1 84 rfl))) (W.1 84 rfl) (W.1 83 rfl) (W.1 65 rfl) (W.1 85 rfl) (by decide) (cAppS W f263 B250 (by simp only [List.length_append, List.length_cons, List.length_nil, dgL_len]; omega) f264 z1 Sd250 zd250 nd250) (by decide +kernel : parseMethodDescriptor "(Ljava/lang/String;)Ljava/lang/StringBuilder;" = some ⟨[(.object "java/lang/String")], (some (.object "java/lang/StringBuilder"))⟩) rfl rfl rfl (nl rfl) (nl rfl) (nl rfl) (nl rfl) (nl rfl) (fun v325 vm325 h325 ⟨d314, kd314, cap314, rv, K314, B314, o314, Sd314⟩ c325 => ?_)
    subst rv
    have EE314 := Ext.kp2 EE250 K314 hb54 hl250
    have hl314 : h.size ≤ d314 := o314.elim (fun q => by rw [q]; exact hl250) (fun q => Nat.le_trans EE250.1 q)
    have zd314 : Z.heap.size ≤ d314 := o314.elim (fun q => by rw [q]; exact zd250) (fun q => Nat.le_trans z1 (Nat.le_trans (Nat.le_of_lt B250.e.lt) q))
    have nd314 : d314 ≠ b := o314.elim (fun q => by rw [q]; exact nd250) (fun q => (ne_of_new B250.e.lt q).symm)
    refine Go.invokevirtual (rest := []) 0 b [] 66 d_prog_30_m5_63 rfl B314.e (W.1 152 rfl) (W.1 153 rfl) (fun s hs => notFace_of_selects (args := #[]) (mvT hs (W.1 155 rfl))) (W.1 155 rfl) (W.1 154 rfl) (W.1 65 rfl) (W.1 156 rfl) (by decide) (cTS W B314) (by decide +kernel : parseMethodDescriptor "()Ljava/lang/String;" = some ⟨[], (some (.object "java/lang/String"))⟩) rfl rfl rfl (nl rfl) (nl rfl) (nl rfl) (nl rfl) (nl rfl) (fun v386 vm386 h386 ⟨zz, rv, E375, T375⟩ c386 => ?_)
    subst rv
    exact Go.areturn d_prog_30_m5_66 rfl rfl rfl (nl rfl) (nl rfl) (fun vm' ch => ⟨zz, rfl, (Ext.tr EE314 E375), T375⟩)
  · have h10 := hs.le10 hn
    refine Go.new 3 d_prog_30_m5_0 rfl (W.1 63 rfl) (W.1 64 rfl) (W.1 65 rfl) (nl rfl) (nl rfl) (fun b h387 e387 E387 ⟨A387, D387⟩ S387 z387 c387 => ?_)
    refine Go.dup 4 d_prog_30_m5_3 rfl rfl ?_
    have f388 := D387 (Or.inl (W.1 78 rfl)) (ty := (.array .byte)) (by decide)
    have f389 := D387 (Or.inl (W.1 80 rfl)) (ty := .byte) (by decide)
    have f390 := D387 (Or.inl (W.1 103 rfl)) (ty := .int) (by decide)
    refine Go.invokespecial (rest := [.ref b]) 1 b [] 7 d_prog_30_m5_4 rfl rfl (W.1 66 rfl) (W.1 67 rfl) (W.1 65 rfl) (W.1 68 rfl) (by decide) (cSb0 W A387 f388 f389 f390 S387 z387) (by decide +kernel : parseMethodDescriptor "()V" = some ⟨[], none⟩) rfl rfl rfl (nl rfl) (nl rfl) (nl rfl) (nl rfl) (nl rfl) (fun v451 vm451 h451 ⟨rv, K440, d440, kd440, B440, hd440, Sd440⟩ c451 => ?_)
    subst rv
    have EE440 := Ext.kp1 E387 K440 e387
    have hb440 : h.size ≤ b := Nat.le_of_eq e387.symm
    have hl440 : h.size ≤ d440 := Nat.le_trans hb440 (Nat.le_trans (Nat.le_of_lt A387.lt) hd440)
    have zd440 : Z.heap.size ≤ d440 := Nat.le_trans z387 (Nat.le_trans (Nat.le_of_lt A387.lt) hd440)
    have nd440 : d440 ≠ b := (ne_of_new A387.lt hd440).symm
    refine Go.aload_n 8 d_prog_30_m5_7 rfl rfl rfl ?_
    have f452 := P.2.1.ext EE440
    refine Go.getfield 11 d_prog_30_m5_8 rfl (W.1 39 rfl) f452 ?_
    have f453 := Ta0.ext EE440
    have f454 := CHr.safe c451 A387.lt S387
    have L454 := Nat.lt_of_lt_of_le A387.lt c451.2.1
    refine Go.invokevirtual (rest := []) 0 b [.ref s0] 14 d_prog_30_m5_11 rfl B440.e (W.1 81 rfl) (W.1 82 rfl) (fun s hs => notFace_of_selects (args := #[]) (mvT hs (W.1 84 rfl))) (W.1 84 rfl) (W.1 83 rfl) (W.1 65 rfl) (W.1 85 rfl) (by decide) (cAppS W f453 B440 (by simp only [List.length_append, List.length_cons, List.length_nil, dgL_len]; omega) f454 z387 Sd440 zd440 nd440) (by decide +kernel : parseMethodDescriptor "(Ljava/lang/String;)Ljava/lang/StringBuilder;" = some ⟨[(.object "java/lang/String")], (some (.object "java/lang/StringBuilder"))⟩) rfl rfl rfl (nl rfl) (nl rfl) (nl rfl) (nl rfl) (nl rfl) (fun v515 vm515 h515 ⟨d504, kd504, cap504, rv, K504, B504, o504, Sd504⟩ c515 => ?_)
    subst rv
    have EE504 := Ext.kp2 EE440 K504 hb440 hl440
    have hl504 : h.size ≤ d504 := o504.elim (fun q => by rw [q]; exact hl440) (fun q => Nat.le_trans EE440.1 q)
    have zd504 : Z.heap.size ≤ d504 := o504.elim (fun q => by rw [q]; exact zd440) (fun q => Nat.le_trans z387 (Nat.le_trans (Nat.le_of_lt B440.e.lt) q))
    have nd504 : d504 ≠ b := o504.elim (fun q => by rw [q]; exact nd440) (fun q => (ne_of_new B440.e.lt q).symm)
    refine Go.aload_n 15 d_prog_30_m5_14 rfl rfl rfl ?_
    have f516 := P.2.2.1.ext EE504
    refine Go.getfield 18 d_prog_30_m5_15 rfl (W.1 41 rfl) f516 ?_
    refine Go.ifle 46 21 d_prog_30_m5_18 (by decide) rfl rfl (fun q517 => absurd hz0 q517) (fun q517 => ?_)
    refine Go.new 24 d_prog_30_m5_21 rfl (W.1 63 rfl) (W.1 64 rfl) (W.1 65 rfl) (nl rfl) (nl rfl) (fun bb h518 e518 E518 ⟨A518, D518⟩ S518 z518 c518 => ?_)
    refine Go.dup 25 d_prog_30_m5_24 rfl rfl ?_
    have f519 := D518 (Or.inl (W.1 78 rfl)) (ty := (.array .byte)) (by decide)
    have f520 := D518 (Or.inl (W.1 80 rfl)) (ty := .byte) (by decide)
    have f521 := D518 (Or.inl (W.1 103 rfl)) (ty := .int) (by decide)
    refine Go.invokespecial (rest := [.ref bb, .ref b]) 2 bb [] 28 d_prog_30_m5_25 rfl rfl (W.1 66 rfl) (W.1 67 rfl) (W.1 65 rfl) (W.1 68 rfl) (by decide) (cSb0 W A518 f519 f520 f521 S518 z518) (by decide +kernel : parseMethodDescriptor "()V" = some ⟨[], none⟩) rfl rfl rfl (nl rfl) (nl rfl) (nl rfl) (nl rfl) (nl rfl) (fun v582 vm582 h582 ⟨rv, K571, d571, kd571, B571, hd571, Sd571⟩ c582 => ?_)
    subst rv
    have EE571 := Ext.kp1 E518 K571 e518
    have hb571 : h515.size ≤ bb := Nat.le_of_eq e518.symm
    have hl571 : h515.size ≤ d571 := Nat.le_trans hb571 (Nat.le_trans (Nat.le_of_lt A518.lt) hd571)
    have zd571 : Z.heap.size ≤ d571 := Nat.le_trans z518 (Nat.le_trans (Nat.le_of_lt A518.lt) hd571)
    have nd571 : d571 ≠ bb := (ne_of_new A518.lt hd571).symm
    refine Go.ldcS (text := ", line ") (vs := [.int (44), .int (32), .int (108), .int (105), .int (110), .int (101), .int (32)]) (z := (7 : Int32)) 28 30 d_prog_30_m5_28 rfl rfl (W.1 129 rfl) (W.sub (by decide +kernel)) hm.1 lit_ok__2c_20line_20.1 (by decide) (by decide) lit_ok__2c_20line_20.2 (by decide) (nl rfl) (nl rfl) (fun y1 b583 k583 vm583 h583 E583 A583 C583 V583 B583 N583 c583 => ?_)
    have T583 : Str Z h583 y1 [44, 32, 108, 105, 110, 101, 32] := ⟨b583, k583, A583, C583, V583, B583, by decide, by decide⟩
    have f584 := B571.ext E583
    have f585 := CHr.safe (CHr.trans c582 c583) A518.lt S518
    have L585 := Nat.lt_of_lt_of_le A518.lt (CHr.trans c582 c583).2.1
    have f586 := CHr.safe c583 B571.ar.lt Sd571
    have L586 := Nat.lt_of_lt_of_le B571.ar.lt c583.2.1
    refine Go.invokevirtual (rest := [.ref b]) 1 bb [.ref y1] 33 d_prog_30_m5_30 rfl f584.e (W.1 81 rfl) (W.1 82 rfl) (fun s hs => notFace_of_selects (args := #[]) (mvT hs (W.1 84 rfl))) (W.1 84 rfl) (W.1 83 rfl) (W.1 65 rfl) (W.1 85 rfl) (by decide) (cAppS W T583 f584 (by simp only [List.length_append, List.length_cons, List.length_nil, dgL_len]; omega) f585 z518 f586 zd571 nd571) (by decide +kernel : parseMethodDescriptor "(Ljava/lang/String;)Ljava/lang/StringBuilder;" = some ⟨[(.object "java/lang/String")], (some (.object "java/lang/StringBuilder"))⟩) rfl rfl rfl (nl rfl) (nl rfl) (nl rfl) (nl rfl) (nl rfl) (fun v647 vm647 h647 ⟨d636, kd636, cap636, rv, K636, B636, o636, Sd636⟩ c647 => ?_)
    subst rv
    have EE636 := Ext.kp2 (Ext.tr EE571 E583) K636 hb571 hl571
    have hl636 : h515.size ≤ d636 := o636.elim (fun q => by rw [q]; exact hl571) (fun q => Nat.le_trans (Ext.tr EE571 E583).1 q)
    have zd636 : Z.heap.size ≤ d636 := o636.elim (fun q => by rw [q]; exact zd571) (fun q => Nat.le_trans z518 (Nat.le_trans (Nat.le_of_lt f584.e.lt) q))
    have nd636 : d636 ≠ bb := o636.elim (fun q => by rw [q]; exact nd571) (fun q => (ne_of_new f584.e.lt q).symm)
    refine Go.aload_n 34 d_prog_30_m5_33 rfl rfl rfl ?_
    have f648 := f516.ext EE636
    refine Go.getfield 37 d_prog_30_m5_34 rfl (W.1 41 rfl) f648 ?_
    have f649 := CHr.safe c647 L585 f585
    have L649 := Nat.lt_of_lt_of_le L585 c647.2.1
    refine Go.invokevirtual (rest := [.ref b]) 1 bb [.int (Int32.ofNat n_)] 40 d_prog_30_m5_37 rfl B636.e (W.1 130 rfl) (W.1 131 rfl) (fun s hs => notFace_of_selects (args := #[]) (mvT hs (W.1 133 rfl))) (W.1 133 rfl) (W.1 132 rfl) (W.1 65 rfl) (W.1 134 rfl) (by decide) (cAppIS W rfl hn hs D B636 (by simp only [List.length_append, List.length_cons, List.length_nil, dgL_len]; omega) f649 z518 Sd636 zd636 nd636) (by decide +kernel : parseMethodDescriptor "(I)Ljava/lang/StringBuilder;" = some ⟨[.int], (some (.object "java/lang/StringBuilder"))⟩) rfl rfl rfl (nl rfl) (nl rfl) (nl rfl) (nl rfl) (nl rfl) (fun v710 vm710 h710 ⟨d699, kd699, cap699, rv, K699, B699, o699, Sd699⟩ c710 => ?_)
    subst rv
    have EE699 := Ext.kp2 EE636 K699 hb571 hl636
    have hl699 : h515.size ≤ d699 := o699.elim (fun q => by rw [q]; exact hl636) (fun q => Nat.le_trans EE636.1 q)
    have zd699 : Z.heap.size ≤ d699 := o699.elim (fun q => by rw [q]; exact zd636) (fun q => Nat.le_trans z518 (Nat.le_trans (Nat.le_of_lt B636.e.lt) q))
    have nd699 : d699 ≠ bb := o699.elim (fun q => by rw [q]; exact nd636) (fun q => (ne_of_new B636.e.lt q).symm)
    refine Go.invokevirtual (rest := [.ref b]) 1 bb [] 43 d_prog_30_m5_40 rfl B699.e (W.1 152 rfl) (W.1 153 rfl) (fun s hs => notFace_of_selects (args := #[]) (mvT hs (W.1 155 rfl))) (W.1 155 rfl) (W.1 154 rfl) (W.1 65 rfl) (W.1 156 rfl) (by decide) (cTS W B699) (by decide +kernel : parseMethodDescriptor "()Ljava/lang/String;" = some ⟨[], (some (.object "java/lang/String"))⟩) rfl rfl rfl (nl rfl) (nl rfl) (nl rfl) (nl rfl) (nl rfl) (fun v771 vm771 h771 ⟨zl, rv, E760, T760⟩ c771 => ?_)
    subst rv
    refine Go.goto 48 d_prog_30_m5_43 (by decide) rfl ?_
    have f772 := B504.ext (Ext.tr EE699 E760)
    have f773 := CHr.safe (CHr.trans c515 (CHr.trans c518 (CHr.trans c582 (CHr.trans c583 (CHr.trans c647 (CHr.trans c710 c771)))))) L454 f454
    have L773 := Nat.lt_of_lt_of_le L454 (CHr.trans c515 (CHr.trans c518 (CHr.trans c582 (CHr.trans c583 (CHr.trans c647 (CHr.trans c710 c771)))))).2.1
    have f774 := CHr.safe (CHr.trans c518 (CHr.trans c582 (CHr.trans c583 (CHr.trans c647 (CHr.trans c710 c771))))) B504.ar.lt Sd504
    have L774 := Nat.lt_of_lt_of_le B504.ar.lt (CHr.trans c518 (CHr.trans c582 (CHr.trans c583 (CHr.trans c647 (CHr.trans c710 c771))))).2.1
    refine Go.invokevirtual (rest := []) 0 b [.ref zl] 51 d_prog_30_m5_48 rfl f772.e (W.1 81 rfl) (W.1 82 rfl) (fun s hs => notFace_of_selects (args := #[]) (mvT hs (W.1 84 rfl))) (W.1 84 rfl) (W.1 83 rfl) (W.1 65 rfl) (W.1 85 rfl) (by decide) (cAppS W T760 f772 (by simp only [List.length_append, List.length_cons, List.length_nil, dgL_len]; omega) f773 z387 f774 zd504 nd504) (by decide +kernel : parseMethodDescriptor "(Ljava/lang/String;)Ljava/lang/StringBuilder;" = some ⟨[(.object "java/lang/String")], (some (.object "java/lang/StringBuilder"))⟩) rfl rfl rfl (nl rfl) (nl rfl) (nl rfl) (nl rfl) (nl rfl) (fun v835 vm835 h835 ⟨d824, kd824, cap824, rv, K824, B824, o824, Sd824⟩ c835 => ?_)
    subst rv
    have EE824 := Ext.kp2 (Ext.tr EE504 (Ext.tr EE699 E760)) K824 hb440 hl504
    have hl824 : h.size ≤ d824 := o824.elim (fun q => by rw [q]; exact hl504) (fun q => Nat.le_trans (Ext.tr EE504 (Ext.tr EE699 E760)).1 q)
    have zd824 : Z.heap.size ≤ d824 := o824.elim (fun q => by rw [q]; exact zd504) (fun q => Nat.le_trans z387 (Nat.le_trans (Nat.le_of_lt f772.e.lt) q))
    have nd824 : d824 ≠ b := o824.elim (fun q => by rw [q]; exact nd504) (fun q => (ne_of_new f772.e.lt q).symm)
    refine Go.ldcS (text := ": ") (vs := [.int (58), .int (32)]) (z := (2 : Int32)) 8 53 d_prog_30_m5_51 rfl rfl (W.1 193 rfl) (W.sub (by decide +kernel)) hm.2.2 lit_ok__3a_20.1 (by decide) (by decide) lit_ok__3a_20.2 (by decide) (nl rfl) (nl rfl) (fun y2 b836 k836 vm836 h836 E836 A836 C836 V836 B836 N836 c836 => ?_)
    have T836 : Str Z h836 y2 [58, 32] := ⟨b836, k836, A836, C836, V836, B836, by decide, by decide⟩
    have f837 := B824.ext E836
    have f838 := CHr.safe (CHr.trans c835 c836) L773 f773
    have L838 := Nat.lt_of_lt_of_le L773 (CHr.trans c835 c836).2.1
    have f839 := CHr.safe c836 B824.ar.lt Sd824
    have L839 := Nat.lt_of_lt_of_le B824.ar.lt c836.2.1
    refine Go.invokevirtual (rest := []) 0 b [.ref y2] 56 d_prog_30_m5_53 rfl f837.e (W.1 81 rfl) (W.1 82 rfl) (fun s hs => notFace_of_selects (args := #[]) (mvT hs (W.1 84 rfl))) (W.1 84 rfl) (W.1 83 rfl) (W.1 65 rfl) (W.1 85 rfl) (by decide) (cAppS W T836 f837 (by simp only [List.length_append, List.length_cons, List.length_nil, dgL_len]; omega) f838 z387 f839 zd824 nd824) (by decide +kernel : parseMethodDescriptor "(Ljava/lang/String;)Ljava/lang/StringBuilder;" = some ⟨[(.object "java/lang/String")], (some (.object "java/lang/StringBuilder"))⟩) rfl rfl rfl (nl rfl) (nl rfl) (nl rfl) (nl rfl) (nl rfl) (fun v900 vm900 h900 ⟨d889, kd889, cap889, rv, K889, B889, o889, Sd889⟩ c900 => ?_)
    subst rv
    have EE889 := Ext.kp2 (Ext.tr EE824 E836) K889 hb440 hl824
    have hl889 : h.size ≤ d889 := o889.elim (fun q => by rw [q]; exact hl824) (fun q => Nat.le_trans (Ext.tr EE824 E836).1 q)
    have zd889 : Z.heap.size ≤ d889 := o889.elim (fun q => by rw [q]; exact zd824) (fun q => Nat.le_trans z387 (Nat.le_trans (Nat.le_of_lt f837.e.lt) q))
    have nd889 : d889 ≠ b := o889.elim (fun q => by rw [q]; exact nd824) (fun q => (ne_of_new f837.e.lt q).symm)
    refine Go.aload_n 57 d_prog_30_m5_56 rfl rfl rfl ?_
    have f901 := P.2.2.2.ext EE889
    refine Go.getfield 60 d_prog_30_m5_57 rfl (W.1 44 rfl) f901 ?_
    have f902 := Ta2.ext EE889
    have f903 := CHr.safe c900 L838 f838
    have L903 := Nat.lt_of_lt_of_le L838 c900.2.1
    refine Go.invokevirtual (rest := []) 0 b [.ref s2] 63 d_prog_30_m5_60 rfl B889.e (W.1 81 rfl) (W.1 82 rfl) (fun s hs => notFace_of_selects (args := #[]) (mvT hs (W.1 84 rfl))) (W.1 84 rfl) (W.1 83 rfl) (W.1 65 rfl) (W.1 85 rfl) (by decide) (cAppS W f902 B889 (by simp only [List.length_append, List.length_cons, List.length_nil, dgL_len]; omega) f903 z387 Sd889 zd889 nd889) (by decide +kernel : parseMethodDescriptor "(Ljava/lang/String;)Ljava/lang/StringBuilder;" = some ⟨[(.object "java/lang/String")], (some (.object "java/lang/StringBuilder"))⟩) rfl rfl rfl (nl rfl) (nl rfl) (nl rfl) (nl rfl) (nl rfl) (fun v964 vm964 h964 ⟨d953, kd953, cap953, rv, K953, B953, o953, Sd953⟩ c964 => ?_)
    subst rv
    have EE953 := Ext.kp2 EE889 K953 hb440 hl889
    have hl953 : h.size ≤ d953 := o953.elim (fun q => by rw [q]; exact hl889) (fun q => Nat.le_trans EE889.1 q)
    have zd953 : Z.heap.size ≤ d953 := o953.elim (fun q => by rw [q]; exact zd889) (fun q => Nat.le_trans z387 (Nat.le_trans (Nat.le_of_lt B889.e.lt) q))
    have nd953 : d953 ≠ b := o953.elim (fun q => by rw [q]; exact nd889) (fun q => (ne_of_new B889.e.lt q).symm)
    refine Go.invokevirtual (rest := []) 0 b [] 66 d_prog_30_m5_63 rfl B953.e (W.1 152 rfl) (W.1 153 rfl) (fun s hs => notFace_of_selects (args := #[]) (mvT hs (W.1 155 rfl))) (W.1 155 rfl) (W.1 154 rfl) (W.1 65 rfl) (W.1 156 rfl) (by decide) (cTS W B953) (by decide +kernel : parseMethodDescriptor "()Ljava/lang/String;" = some ⟨[], (some (.object "java/lang/String"))⟩) rfl rfl rfl (nl rfl) (nl rfl) (nl rfl) (nl rfl) (nl rfl) (fun v1025 vm1025 h1025 ⟨zz, rv, E1014, T1014⟩ c1025 => ?_)
    subst rv
    exact Go.areturn d_prog_30_m5_66 rfl rfl rfl (nl rfl) (nl rfl) (fun vm' ch => ⟨zz, rfl, (Ext.tr EE953 E1014), T1014⟩)
theorem d_m6_0 : decode method_6_code 0 = .ok (.iload_n 3, 1) := by decide +kernel
theorem d_m6_1 : decode method_6_code 1 = .ok (.iload_n 2, 1) := by decide +kernel
theorem d_m6_2 : decode method_6_code 2 = .ok (.if_icmp .ge 14, 3) := by decide +kernel
theorem d_m6_5 : decode method_6_code 5 = .ok (.aload_n 0, 1) := by decide +kernel
theorem d_m6_6 : decode method_6_code 6 = .ok (.iload_n 3, 1) := by decide +kernel
theorem d_m6_7 : decode method_6_code 7 = .ok (.invokevirtual 48, 3) := by decide +kernel
theorem d_m6_10 : decode method_6_code 10 = .ok (.aload_n 1, 1) := by decide +kernel
theorem d_m6_11 : decode method_6_code 11 = .ok (.iload_n 3, 1) := by decide +kernel
theorem d_m6_12 : decode method_6_code 12 = .ok (.caload, 1) := by decide +kernel
theorem d_m6_13 : decode method_6_code 13 = .ok (.if_icmp .ne 7, 3) := by decide +kernel
theorem d_m6_16 : decode method_6_code 16 = .ok (.iconst 1, 1) := by decide +kernel
theorem d_m6_17 : decode method_6_code 17 = .ok (.goto 4, 3) := by decide +kernel
theorem d_m6_20 : decode method_6_code 20 = .ok (.iconst 0, 1) := by decide +kernel
theorem d_m6_21 : decode method_6_code 21 = .ok (.ireturn, 1) := by decide +kernel
set_option maxRecDepth 65536 in
set_option maxHeartbeats 40000000 in
theorem cAt {l : Launch} {Z : State} {a0 : Array Value} (W : Wd Z a0) {EL : List (String × Nat)} {vm : Vm} {h : Heap} {i_ : Nat} (hi : i_ < 25) {s_ e_ : Addr} {ke : ClassId} {xs : List Int32} (hx : xs.length ≤ 25) (T : Str Z h s_ xs) (A : Arv Z h e_ ke .char (25 : Int32) (xs.map Value.int) (.int 0)) :
    Ctr false l Z a0 EL (⟨"com/example/guide/guide/io/FlowProblemToStringPinLaw", "at", "(Ljava/lang/String;[CII)Z"⟩ : MethodName) method_6_code 4 (some .boolean) ({ frames := 4, cells := 0, slots := 0, locals := 53 } : Room) #[.ref s_, .ref e_, .int (Int32.ofNat xs.length), .int (Int32.ofNat i_)] vm h (fun v vm' h' => v = some (.int 1) ∧ h' = h) := by
  refine Ctr.of_go (L0 := #[.val (.ref s_), .val (.ref e_), .val (.int (Int32.ofNat xs.length)), .val (.int (Int32.ofNat i_))]) (by first | exact plainFor_of_name (by first | (simp [plainName, overriddenIn]; done) | decide +kernel) | decide +kernel) (fun m => by first | (simp [entryFrame, mkF, argsToLocals, Value.category, maxLocals]; done) | rfl) (fun p e s m below meth c vmi chi => ?_)
  refine Go.iload_n 1 d_m6_0 rfl rfl ?_
  refine Go.iload_n 2 d_m6_1 rfl rfl ?_
  refine Go.if_icmpge 16 5 d_m6_2 (by decide) rfl rfl (fun ql => ?_) (fun ql => ?_)
  · refine Go.iconst (1) 17 d_m6_16 rfl rfl ?_
    refine Go.goto 21 d_m6_17 (by decide) rfl ?_
    exact Go.ireturn d_m6_21 rfl rfl (by simp) (nl rfl) (nl rfl) (fun vm' ch => ⟨rfl, rfl⟩)
  · have hl : i_ < xs.length := (ofNat_lt (by omega) (by omega)).mp ql
    refine Go.aload_n 6 d_m6_5 rfl rfl rfl ?_
    refine Go.iload_n 7 d_m6_6 rfl rfl ?_
    refine goStrAt W 0 i_ (xs.getD i_ 0) 10 d_m6_7 rfl (W.1 201 rfl) T hl rfl rfl rfl rfl (nl rfl) (nl rfl) (nl rfl) (nl rfl) (nl rfl) ?_
    refine Go.aload_n 11 d_m6_10 rfl rfl rfl ?_
    refine Go.iload_n 12 d_m6_11 rfl rfl ?_
    refine Go.caload (.int (xs.getD i_ 0)) 13 d_m6_12 rfl A (lt25 hi) (getM xs (by omega)) ?_
    refine Go.if_icmpne 20 16 d_m6_13 (by decide) rfl rfl (fun q1 => absurd rfl q1) (fun q1 => ?_)
    refine Go.iconst (1) 17 d_m6_16 rfl rfl ?_
    refine Go.goto 21 d_m6_17 (by decide) rfl ?_
    exact Go.ireturn d_m6_21 rfl rfl (by simp) (nl rfl) (nl rfl) (fun vm' ch => ⟨rfl, rfl⟩)
theorem d_m7_0 : decode method_7_code 0 = .ok (.aload_n 0, 1) := by decide +kernel
theorem d_m7_1 : decode method_7_code 1 = .ok (.aload_n 1, 1) := by decide +kernel
theorem d_m7_2 : decode method_7_code 2 = .ok (.iload_n 2, 1) := by decide +kernel
theorem d_m7_3 : decode method_7_code 3 = .ok (.iload_n 3, 1) := by decide +kernel
theorem d_m7_4 : decode method_7_code 4 = .ok (.invokestatic 52, 3) := by decide +kernel
theorem d_m7_7 : decode method_7_code 7 = .ok (.ifCond .eq 55, 3) := by decide +kernel
theorem d_m7_10 : decode method_7_code 10 = .ok (.aload_n 0, 1) := by decide +kernel
theorem d_m7_11 : decode method_7_code 11 = .ok (.aload_n 1, 1) := by decide +kernel
theorem d_m7_12 : decode method_7_code 12 = .ok (.iload_n 2, 1) := by decide +kernel
theorem d_m7_13 : decode method_7_code 13 = .ok (.iload_n 3, 1) := by decide +kernel
theorem d_m7_14 : decode method_7_code 14 = .ok (.iconst 1, 1) := by decide +kernel
theorem d_m7_15 : decode method_7_code 15 = .ok (.iadd, 1) := by decide +kernel
theorem d_m7_16 : decode method_7_code 16 = .ok (.invokestatic 52, 3) := by decide +kernel
theorem d_m7_19 : decode method_7_code 19 = .ok (.ifCond .eq 43, 3) := by decide +kernel
theorem d_m7_22 : decode method_7_code 22 = .ok (.aload_n 0, 1) := by decide +kernel
theorem d_m7_23 : decode method_7_code 23 = .ok (.aload_n 1, 1) := by decide +kernel
theorem d_m7_24 : decode method_7_code 24 = .ok (.iload_n 2, 1) := by decide +kernel
theorem d_m7_25 : decode method_7_code 25 = .ok (.iload_n 3, 1) := by decide +kernel
theorem d_m7_26 : decode method_7_code 26 = .ok (.iconst 2, 1) := by decide +kernel
theorem d_m7_27 : decode method_7_code 27 = .ok (.iadd, 1) := by decide +kernel
theorem d_m7_28 : decode method_7_code 28 = .ok (.invokestatic 52, 3) := by decide +kernel
theorem d_m7_31 : decode method_7_code 31 = .ok (.ifCond .eq 31, 3) := by decide +kernel
theorem d_m7_34 : decode method_7_code 34 = .ok (.aload_n 0, 1) := by decide +kernel
theorem d_m7_35 : decode method_7_code 35 = .ok (.aload_n 1, 1) := by decide +kernel
theorem d_m7_36 : decode method_7_code 36 = .ok (.iload_n 2, 1) := by decide +kernel
theorem d_m7_37 : decode method_7_code 37 = .ok (.iload_n 3, 1) := by decide +kernel
theorem d_m7_38 : decode method_7_code 38 = .ok (.iconst 3, 1) := by decide +kernel
theorem d_m7_39 : decode method_7_code 39 = .ok (.iadd, 1) := by decide +kernel
theorem d_m7_40 : decode method_7_code 40 = .ok (.invokestatic 52, 3) := by decide +kernel
theorem d_m7_43 : decode method_7_code 43 = .ok (.ifCond .eq 19, 3) := by decide +kernel
theorem d_m7_46 : decode method_7_code 46 = .ok (.aload_n 0, 1) := by decide +kernel
theorem d_m7_47 : decode method_7_code 47 = .ok (.aload_n 1, 1) := by decide +kernel
theorem d_m7_48 : decode method_7_code 48 = .ok (.iload_n 2, 1) := by decide +kernel
theorem d_m7_49 : decode method_7_code 49 = .ok (.iload_n 3, 1) := by decide +kernel
theorem d_m7_50 : decode method_7_code 50 = .ok (.iconst 4, 1) := by decide +kernel
theorem d_m7_51 : decode method_7_code 51 = .ok (.iadd, 1) := by decide +kernel
theorem d_m7_52 : decode method_7_code 52 = .ok (.invokestatic 52, 3) := by decide +kernel
theorem d_m7_55 : decode method_7_code 55 = .ok (.ifCond .eq 7, 3) := by decide +kernel
theorem d_m7_58 : decode method_7_code 58 = .ok (.iconst 1, 1) := by decide +kernel
theorem d_m7_59 : decode method_7_code 59 = .ok (.goto 4, 3) := by decide +kernel
theorem d_m7_62 : decode method_7_code 62 = .ok (.iconst 0, 1) := by decide +kernel
theorem d_m7_63 : decode method_7_code 63 = .ok (.ireturn, 1) := by decide +kernel
set_option maxRecDepth 65536 in
set_option maxHeartbeats 40000000 in
theorem cFive {l : Launch} {Z : State} {a0 : Array Value} (W : Wd Z a0) {EL : List (String × Nat)} {vm : Vm} {h : Heap} {b_ : Nat} (hb : b_ + 4 < 25) {s_ e_ : Addr} {ke : ClassId} {xs : List Int32} (hx : xs.length ≤ 25) (T : Str Z h s_ xs) (A : Arv Z h e_ ke .char (25 : Int32) (xs.map Value.int) (.int 0)) :
    Ctr false l Z a0 EL (⟨"com/example/guide/guide/io/FlowProblemToStringPinLaw", "five", "(Ljava/lang/String;[CII)Z"⟩ : MethodName) method_7_code 4 (some .boolean) ({ frames := 5, cells := 0, slots := 0, locals := 68 } : Room) #[.ref s_, .ref e_, .int (Int32.ofNat xs.length), .int (Int32.ofNat b_)] vm h (fun v vm' h' => v = some (.int 1) ∧ h' = h) := by
  refine Ctr.of_go (L0 := #[.val (.ref s_), .val (.ref e_), .val (.int (Int32.ofNat xs.length)), .val (.int (Int32.ofNat b_))]) (by first | exact plainFor_of_name (by first | (simp [plainName, overriddenIn]; done) | decide +kernel) | decide +kernel) (fun m => by first | (simp [entryFrame, mkF, argsToLocals, Value.category, maxLocals]; done) | rfl) (fun p e s m below meth c vmi chi => ?_)
  refine Go.aload_n 1 d_m7_0 rfl rfl rfl ?_
  refine Go.aload_n 2 d_m7_1 rfl rfl rfl ?_
  refine Go.iload_n 3 d_m7_2 rfl rfl ?_
  refine Go.iload_n 4 d_m7_3 rfl rfl ?_
  refine Go.invokestatic (rest := []) 0 [.ref s_, .ref e_, .int (Int32.ofNat xs.length), .int (Int32.ofNat b_)] 7 d_m7_4 rfl (W.1 198 rfl) (W.1 199 rfl) (W.1 2 rfl) (W.1 200 rfl) (by decide) (cAt W (i_ := b_ + 0) (by omega) hx T A) (by decide +kernel : parseMethodDescriptor "(Ljava/lang/String;[CII)Z" = some ⟨[(.object "java/lang/String"), (.array .char), .int, .int], (some .boolean)⟩) rfl rfl rfl (nl rfl) (nl rfl) (nl rfl) (nl rfl) (nl rfl) (fun v1 vm1 h1 ⟨rv, hh⟩ c1 => ?_)
  subst rv; replace hh := hh.symm; subst hh
  refine Go.ifeq 62 10 d_m7_7 (by decide) rfl rfl (fun q2 => absurd q2 (by decide)) (fun q2 => ?_)
  refine Go.aload_n 11 d_m7_10 rfl rfl rfl ?_
  refine Go.aload_n 12 d_m7_11 rfl rfl rfl ?_
  refine Go.iload_n 13 d_m7_12 rfl rfl ?_
  refine Go.iload_n 14 d_m7_13 rfl rfl ?_
  refine Go.iconst (1) 15 d_m7_14 rfl rfl ?_
  refine Go.iadd (Int32.ofNat (b_ + 1)) 16 d_m7_15 rfl (ofNat_add' b_ 1) ?_
  refine Go.invokestatic (rest := []) 0 [.ref s_, .ref e_, .int (Int32.ofNat xs.length), .int (Int32.ofNat (b_ + 1))] 19 d_m7_16 rfl (W.1 198 rfl) (W.1 199 rfl) (W.1 2 rfl) (W.1 200 rfl) (by decide) (cAt W (i_ := b_ + 1) (by omega) hx T A) (by decide +kernel : parseMethodDescriptor "(Ljava/lang/String;[CII)Z" = some ⟨[(.object "java/lang/String"), (.array .char), .int, .int], (some .boolean)⟩) rfl rfl rfl (nl rfl) (nl rfl) (nl rfl) (nl rfl) (nl rfl) (fun v3 vm3 h3 ⟨rv, hh⟩ c3 => ?_)
  subst rv; replace hh := hh.symm; subst hh
  refine Go.ifeq 62 22 d_m7_19 (by decide) rfl rfl (fun q4 => absurd q4 (by decide)) (fun q4 => ?_)
  refine Go.aload_n 23 d_m7_22 rfl rfl rfl ?_
  refine Go.aload_n 24 d_m7_23 rfl rfl rfl ?_
  refine Go.iload_n 25 d_m7_24 rfl rfl ?_
  refine Go.iload_n 26 d_m7_25 rfl rfl ?_
  refine Go.iconst (2) 27 d_m7_26 rfl rfl ?_
  refine Go.iadd (Int32.ofNat (b_ + 2)) 28 d_m7_27 rfl (ofNat_add' b_ 2) ?_
  refine Go.invokestatic (rest := []) 0 [.ref s_, .ref e_, .int (Int32.ofNat xs.length), .int (Int32.ofNat (b_ + 2))] 31 d_m7_28 rfl (W.1 198 rfl) (W.1 199 rfl) (W.1 2 rfl) (W.1 200 rfl) (by decide) (cAt W (i_ := b_ + 2) (by omega) hx T A) (by decide +kernel : parseMethodDescriptor "(Ljava/lang/String;[CII)Z" = some ⟨[(.object "java/lang/String"), (.array .char), .int, .int], (some .boolean)⟩) rfl rfl rfl (nl rfl) (nl rfl) (nl rfl) (nl rfl) (nl rfl) (fun v5 vm5 h5 ⟨rv, hh⟩ c5 => ?_)
  subst rv; replace hh := hh.symm; subst hh
  refine Go.ifeq 62 34 d_m7_31 (by decide) rfl rfl (fun q6 => absurd q6 (by decide)) (fun q6 => ?_)
  refine Go.aload_n 35 d_m7_34 rfl rfl rfl ?_
  refine Go.aload_n 36 d_m7_35 rfl rfl rfl ?_
  refine Go.iload_n 37 d_m7_36 rfl rfl ?_
  refine Go.iload_n 38 d_m7_37 rfl rfl ?_
  refine Go.iconst (3) 39 d_m7_38 rfl rfl ?_
  refine Go.iadd (Int32.ofNat (b_ + 3)) 40 d_m7_39 rfl (ofNat_add' b_ 3) ?_
  refine Go.invokestatic (rest := []) 0 [.ref s_, .ref e_, .int (Int32.ofNat xs.length), .int (Int32.ofNat (b_ + 3))] 43 d_m7_40 rfl (W.1 198 rfl) (W.1 199 rfl) (W.1 2 rfl) (W.1 200 rfl) (by decide) (cAt W (i_ := b_ + 3) (by omega) hx T A) (by decide +kernel : parseMethodDescriptor "(Ljava/lang/String;[CII)Z" = some ⟨[(.object "java/lang/String"), (.array .char), .int, .int], (some .boolean)⟩) rfl rfl rfl (nl rfl) (nl rfl) (nl rfl) (nl rfl) (nl rfl) (fun v7 vm7 h7 ⟨rv, hh⟩ c7 => ?_)
  subst rv; replace hh := hh.symm; subst hh
  refine Go.ifeq 62 46 d_m7_43 (by decide) rfl rfl (fun q8 => absurd q8 (by decide)) (fun q8 => ?_)
  refine Go.aload_n 47 d_m7_46 rfl rfl rfl ?_
  refine Go.aload_n 48 d_m7_47 rfl rfl rfl ?_
  refine Go.iload_n 49 d_m7_48 rfl rfl ?_
  refine Go.iload_n 50 d_m7_49 rfl rfl ?_
  refine Go.iconst (4) 51 d_m7_50 rfl rfl ?_
  refine Go.iadd (Int32.ofNat (b_ + 4)) 52 d_m7_51 rfl (ofNat_add' b_ 4) ?_
  refine Go.invokestatic (rest := []) 0 [.ref s_, .ref e_, .int (Int32.ofNat xs.length), .int (Int32.ofNat (b_ + 4))] 55 d_m7_52 rfl (W.1 198 rfl) (W.1 199 rfl) (W.1 2 rfl) (W.1 200 rfl) (by decide) (cAt W (i_ := b_ + 4) (by omega) hx T A) (by decide +kernel : parseMethodDescriptor "(Ljava/lang/String;[CII)Z" = some ⟨[(.object "java/lang/String"), (.array .char), .int, .int], (some .boolean)⟩) rfl rfl rfl (nl rfl) (nl rfl) (nl rfl) (nl rfl) (nl rfl) (fun v9 vm9 h9 ⟨rv, hh⟩ c9 => ?_)
  subst rv; replace hh := hh.symm; subst hh
  refine Go.ifeq 62 58 d_m7_55 (by decide) rfl rfl (fun q10 => absurd q10 (by decide)) (fun q10 => ?_)
  refine Go.iconst (1) 59 d_m7_58 rfl rfl ?_
  refine Go.goto 63 d_m7_59 (by decide) rfl ?_
  exact Go.ireturn d_m7_63 rfl rfl (by simp) (nl rfl) (nl rfl) (fun vm' ch => ⟨rfl, rfl⟩)
set_option maxRecDepth 65536 in
set_option maxHeartbeats 40000000 in
theorem cLaw {l : Launch} {Z : State} {a0 : Array Value} (W : Wd Z a0)  {vm : Vm} {h : Heap} {fa la ra : Int32} {o1 o2 : Addr} (D : Dg Z o1 o2) :
    Ctr false l Z a0 consts_1 x code maxLocals ret room_1 #[.int fa, .int la, .int ra] vm h (fun v vm' h' => v = some (.int 1)) := by
  refine Ctr.of_go (L0 := #[.val (.int fa), .val (.int la), .val (.int ra), .unset, .unset, .unset, .unset, .unset, .unset, .unset, .unset, .unset, .unset, .unset, .unset, .unset, .unset]) (by first | exact plainFor_of_name (by first | (simp [plainName, overriddenIn]; done) | decide +kernel) | decide +kernel) (fun m => by first | (simp [entryFrame, mkF, argsToLocals, Value.category, maxLocals]; done) | rfl) (fun p e s m below meth c vmi chi => ?_)
  refine Go.iload_n 1 at_0 rfl rfl ?_
  refine Go.bipush (24) 3 at_1 rfl rfl ?_
  refine Go.iushr (XT.ushr fa (24 : Int32)) 4 at_3 rfl rfl ?_
  refine Go.iconst (3) 5 at_4 rfl rfl ?_
  refine Go.iand ((XT.ushr fa (24 : Int32)) &&& (3 : Int32)) 6 at_5 rfl rfl ?_
  refine Go.istore_n #[.val (.int fa), .val (.int la), .val (.int ra), .val (.int ((XT.ushr fa (24 : Int32)) &&& (3 : Int32))), .unset, .unset, .unset, .unset, .unset, .unset, .unset, .unset, .unset, .unset, .unset, .unset, .unset] 7 at_6 rfl rfl ?_
  refine Go.iload_n 8 at_7 rfl rfl ?_
  refine Go.bipush (24) 10 at_8 rfl rfl ?_
  refine Go.iushr (XT.ushr ra (24 : Int32)) 11 at_10 rfl rfl ?_
  refine Go.iconst (3) 12 at_11 rfl rfl ?_
  refine Go.iand ((XT.ushr ra (24 : Int32)) &&& (3 : Int32)) 13 at_12 rfl rfl ?_
  refine Go.istore #[.val (.int fa), .val (.int la), .val (.int ra), .val (.int ((XT.ushr fa (24 : Int32)) &&& (3 : Int32))), .val (.int ((XT.ushr ra (24 : Int32)) &&& (3 : Int32))), .unset, .unset, .unset, .unset, .unset, .unset, .unset, .unset, .unset, .unset, .unset, .unset] 15 at_13 rfl rfl ?_
  refine Go.iload_n 16 at_15 rfl rfl ?_
  refine Go.sipush (255) 19 at_16 rfl rfl ?_
  refine Go.iand (fa &&& (255 : Int32)) 20 at_19 rfl rfl ?_
  refine Go.i2c (fa &&& (255 : Int32)) 21 at_20 rfl (i2c_mask _) ?_
  refine Go.istore #[.val (.int fa), .val (.int la), .val (.int ra), .val (.int ((XT.ushr fa (24 : Int32)) &&& (3 : Int32))), .val (.int ((XT.ushr ra (24 : Int32)) &&& (3 : Int32))), .val (.int (fa &&& (255 : Int32))), .unset, .unset, .unset, .unset, .unset, .unset, .unset, .unset, .unset, .unset, .unset] 23 at_21 rfl rfl ?_
  refine Go.iload_n 24 at_23 rfl rfl ?_
  refine Go.bipush (8) 26 at_24 rfl rfl ?_
  refine Go.iushr (XT.ushr fa (8 : Int32)) 27 at_26 rfl rfl ?_
  refine Go.sipush (255) 30 at_27 rfl rfl ?_
  refine Go.iand ((XT.ushr fa (8 : Int32)) &&& (255 : Int32)) 31 at_30 rfl rfl ?_
  refine Go.i2c ((XT.ushr fa (8 : Int32)) &&& (255 : Int32)) 32 at_31 rfl (i2c_mask _) ?_
  refine Go.istore #[.val (.int fa), .val (.int la), .val (.int ra), .val (.int ((XT.ushr fa (24 : Int32)) &&& (3 : Int32))), .val (.int ((XT.ushr ra (24 : Int32)) &&& (3 : Int32))), .val (.int (fa &&& (255 : Int32))), .val (.int ((XT.ushr fa (8 : Int32)) &&& (255 : Int32))), .unset, .unset, .unset, .unset, .unset, .unset, .unset, .unset, .unset, .unset] 34 at_32 rfl rfl ?_
  refine Go.iload_n 35 at_34 rfl rfl ?_
  refine Go.bipush (16) 37 at_35 rfl rfl ?_
  refine Go.iushr (XT.ushr fa (16 : Int32)) 38 at_37 rfl rfl ?_
  refine Go.sipush (255) 41 at_38 rfl rfl ?_
  refine Go.iand ((XT.ushr fa (16 : Int32)) &&& (255 : Int32)) 42 at_41 rfl rfl ?_
  refine Go.i2c ((XT.ushr fa (16 : Int32)) &&& (255 : Int32)) 43 at_42 rfl (i2c_mask _) ?_
  refine Go.istore #[.val (.int fa), .val (.int la), .val (.int ra), .val (.int ((XT.ushr fa (24 : Int32)) &&& (3 : Int32))), .val (.int ((XT.ushr ra (24 : Int32)) &&& (3 : Int32))), .val (.int (fa &&& (255 : Int32))), .val (.int ((XT.ushr fa (8 : Int32)) &&& (255 : Int32))), .val (.int ((XT.ushr fa (16 : Int32)) &&& (255 : Int32))), .unset, .unset, .unset, .unset, .unset, .unset, .unset, .unset, .unset] 45 at_43 rfl rfl ?_
  refine Go.iload_n 46 at_45 rfl rfl ?_
  refine Go.sipush (255) 49 at_46 rfl rfl ?_
  refine Go.iand (ra &&& (255 : Int32)) 50 at_49 rfl rfl ?_
  refine Go.i2c (ra &&& (255 : Int32)) 51 at_50 rfl (i2c_mask _) ?_
  refine Go.istore #[.val (.int fa), .val (.int la), .val (.int ra), .val (.int ((XT.ushr fa (24 : Int32)) &&& (3 : Int32))), .val (.int ((XT.ushr ra (24 : Int32)) &&& (3 : Int32))), .val (.int (fa &&& (255 : Int32))), .val (.int ((XT.ushr fa (8 : Int32)) &&& (255 : Int32))), .val (.int ((XT.ushr fa (16 : Int32)) &&& (255 : Int32))), .val (.int (ra &&& (255 : Int32))), .unset, .unset, .unset, .unset, .unset, .unset, .unset, .unset] 53 at_51 rfl rfl ?_
  refine Go.iload_n 54 at_53 rfl rfl ?_
  refine Go.bipush (8) 56 at_54 rfl rfl ?_
  refine Go.iushr (XT.ushr ra (8 : Int32)) 57 at_56 rfl rfl ?_
  refine Go.sipush (255) 60 at_57 rfl rfl ?_
  refine Go.iand ((XT.ushr ra (8 : Int32)) &&& (255 : Int32)) 61 at_60 rfl rfl ?_
  refine Go.i2c ((XT.ushr ra (8 : Int32)) &&& (255 : Int32)) 62 at_61 rfl (i2c_mask _) ?_
  refine Go.istore #[.val (.int fa), .val (.int la), .val (.int ra), .val (.int ((XT.ushr fa (24 : Int32)) &&& (3 : Int32))), .val (.int ((XT.ushr ra (24 : Int32)) &&& (3 : Int32))), .val (.int (fa &&& (255 : Int32))), .val (.int ((XT.ushr fa (8 : Int32)) &&& (255 : Int32))), .val (.int ((XT.ushr fa (16 : Int32)) &&& (255 : Int32))), .val (.int (ra &&& (255 : Int32))), .val (.int ((XT.ushr ra (8 : Int32)) &&& (255 : Int32))), .unset, .unset, .unset, .unset, .unset, .unset, .unset] 64 at_62 rfl rfl ?_
  refine Go.iload_n 65 at_64 rfl rfl ?_
  refine Go.bipush (16) 67 at_65 rfl rfl ?_
  refine Go.iushr (XT.ushr ra (16 : Int32)) 68 at_67 rfl rfl ?_
  refine Go.sipush (255) 71 at_68 rfl rfl ?_
  refine Go.iand ((XT.ushr ra (16 : Int32)) &&& (255 : Int32)) 72 at_71 rfl rfl ?_
  refine Go.i2c ((XT.ushr ra (16 : Int32)) &&& (255 : Int32)) 73 at_72 rfl (i2c_mask _) ?_
  refine Go.istore #[.val (.int fa), .val (.int la), .val (.int ra), .val (.int ((XT.ushr fa (24 : Int32)) &&& (3 : Int32))), .val (.int ((XT.ushr ra (24 : Int32)) &&& (3 : Int32))), .val (.int (fa &&& (255 : Int32))), .val (.int ((XT.ushr fa (8 : Int32)) &&& (255 : Int32))), .val (.int ((XT.ushr fa (16 : Int32)) &&& (255 : Int32))), .val (.int (ra &&& (255 : Int32))), .val (.int ((XT.ushr ra (8 : Int32)) &&& (255 : Int32))), .val (.int ((XT.ushr ra (16 : Int32)) &&& (255 : Int32))), .unset, .unset, .unset, .unset, .unset, .unset] 75 at_73 rfl rfl ?_
  refine Go.iload_n 76 at_75 rfl rfl ?_
  refine Go.iload 78 at_76 rfl rfl ?_
  refine Go.iload 80 at_78 rfl rfl ?_
  refine Go.iload 82 at_80 rfl rfl ?_
  refine Go.invokestatic (rest := []) 0 [.int ((XT.ushr fa (24 : Int32)) &&& (3 : Int32)), .int (fa &&& (255 : Int32)), .int ((XT.ushr fa (8 : Int32)) &&& (255 : Int32)), .int ((XT.ushr fa (16 : Int32)) &&& (255 : Int32))] 85 at_82 rfl (W.1 0 rfl) (W.1 1 rfl) (W.1 2 rfl) (W.1 3 rfl) (by decide) (cMk W (by decide : ("java/lang/String", 7) ∈ consts_1) (and255 _) (and255 _) (and255 _)) (by decide +kernel : parseMethodDescriptor "(ICCC)Ljava/lang/String;" = some ⟨[.int, .char, .char, .char], (some (.object "java/lang/String"))⟩) rfl rfl rfl (nl rfl) (nl rfl) (nl rfl) (nl rfl) (nl rfl) (fun v1 vm1 h1 ⟨u1, rv, E1_, T1_⟩ c1 => ?_)
  subst rv
  refine Go.astore #[.val (.int fa), .val (.int la), .val (.int ra), .val (.int ((XT.ushr fa (24 : Int32)) &&& (3 : Int32))), .val (.int ((XT.ushr ra (24 : Int32)) &&& (3 : Int32))), .val (.int (fa &&& (255 : Int32))), .val (.int ((XT.ushr fa (8 : Int32)) &&& (255 : Int32))), .val (.int ((XT.ushr fa (16 : Int32)) &&& (255 : Int32))), .val (.int (ra &&& (255 : Int32))), .val (.int ((XT.ushr ra (8 : Int32)) &&& (255 : Int32))), .val (.int ((XT.ushr ra (16 : Int32)) &&& (255 : Int32))), .val (.ref u1), .unset, .unset, .unset, .unset, .unset] 87 at_85 rfl rfl rfl ?_
  refine Go.iload 89 at_87 rfl rfl ?_
  refine Go.iload 91 at_89 rfl rfl ?_
  refine Go.iload 93 at_91 rfl rfl ?_
  refine Go.iload 95 at_93 rfl rfl ?_
  refine Go.invokestatic (rest := []) 0 [.int ((XT.ushr ra (24 : Int32)) &&& (3 : Int32)), .int (ra &&& (255 : Int32)), .int ((XT.ushr ra (8 : Int32)) &&& (255 : Int32)), .int ((XT.ushr ra (16 : Int32)) &&& (255 : Int32))] 98 at_95 rfl (W.1 0 rfl) (W.1 1 rfl) (W.1 2 rfl) (W.1 3 rfl) (by decide) (cMk W (by decide : ("java/lang/String", 7) ∈ consts_1) (and255 _) (and255 _) (and255 _)) (by decide +kernel : parseMethodDescriptor "(ICCC)Ljava/lang/String;" = some ⟨[.int, .char, .char, .char], (some (.object "java/lang/String"))⟩) rfl rfl rfl (nl rfl) (nl rfl) (nl rfl) (nl rfl) (nl rfl) (fun v2 vm2 h2 ⟨u2, rv, E2_, T2_⟩ c2 => ?_)
  subst rv
  refine Go.astore #[.val (.int fa), .val (.int la), .val (.int ra), .val (.int ((XT.ushr fa (24 : Int32)) &&& (3 : Int32))), .val (.int ((XT.ushr ra (24 : Int32)) &&& (3 : Int32))), .val (.int (fa &&& (255 : Int32))), .val (.int ((XT.ushr fa (8 : Int32)) &&& (255 : Int32))), .val (.int ((XT.ushr fa (16 : Int32)) &&& (255 : Int32))), .val (.int (ra &&& (255 : Int32))), .val (.int ((XT.ushr ra (8 : Int32)) &&& (255 : Int32))), .val (.int ((XT.ushr ra (16 : Int32)) &&& (255 : Int32))), .val (.ref u1), .val (.ref u2), .unset, .unset, .unset, .unset] 100 at_98 rfl rfl rfl ?_
  refine Go.new 103 at_100 rfl (W.1 26 rfl) (W.1 27 rfl) (W.1 28 rfl) (nl rfl) (nl rfl) (fun pp h3 e3 E3 ⟨A3, D3⟩ S3 z3 c3 => ?_)
  refine Go.dup 104 at_103 rfl rfl ?_
  refine Go.aload 106 at_104 rfl rfl rfl ?_
  refine Go.iload_n 107 at_106 rfl rfl ?_
  refine Go.aload 109 at_107 rfl rfl rfl ?_
  have f4 := D3 (Or.inr (W.1 40 rfl)) (ty := (.object "java/lang/String")) (by decide)
  have f5 := D3 (Or.inr (W.1 42 rfl)) (ty := .int) (by decide)
  have f6 := D3 (Or.inr (W.1 45 rfl)) (ty := (.object "java/lang/String")) (by decide)
  have f7 := T1_.ext (Ext.tr E2_ E3)
  have f8 := T2_.ext E3
  refine Go.invokespecial (rest := [.ref pp]) 1 pp [.ref u1, .int la, .ref u2] 112 at_109 rfl rfl (W.1 29 rfl) (W.1 30 rfl) (W.1 28 rfl) (W.1 31 rfl) (by decide) (cFpInit W ⟨(by decide : ("com/example/guide/guide/io/FlowProblem", 7) ∈ consts_1), (by decide : ("com/example/guide/guide/io/FlowProblem", 26) ∈ consts_1)⟩ A3 f4 f5 f6 f7 f8 S3 z3) (by decide +kernel : parseMethodDescriptor "(Ljava/lang/String;ILjava/lang/String;)V" = some ⟨[(.object "java/lang/String"), .int, (.object "java/lang/String")], none⟩) rfl rfl rfl (nl rfl) (nl rfl) (nl rfl) (nl rfl) (nl rfl) (fun v9 vm9 h9 ⟨rv, K3_, P3_⟩ c9 => ?_)
  subst rv
  have E3_ := Ext.kp1 E3 K3_ e3
  refine Go.astore #[.val (.int fa), .val (.int la), .val (.int ra), .val (.int ((XT.ushr fa (24 : Int32)) &&& (3 : Int32))), .val (.int ((XT.ushr ra (24 : Int32)) &&& (3 : Int32))), .val (.int (fa &&& (255 : Int32))), .val (.int ((XT.ushr fa (8 : Int32)) &&& (255 : Int32))), .val (.int ((XT.ushr fa (16 : Int32)) &&& (255 : Int32))), .val (.int (ra &&& (255 : Int32))), .val (.int ((XT.ushr ra (8 : Int32)) &&& (255 : Int32))), .val (.int ((XT.ushr ra (16 : Int32)) &&& (255 : Int32))), .val (.ref u1), .val (.ref u2), .val (.ref pp), .unset, .unset, .unset] 114 at_112 rfl rfl rfl ?_
  refine Go.bipush (25) 116 at_114 rfl rfl ?_
  refine Go.newarray 25 118 at_116 rfl (W.1 7 rfl) (by decide) (by decide) (by decide) (nl rfl) (nl rfl) (fun e_ h10 e10 E10 ⟨ke, B10⟩ S10 z10 c10 => ?_)
  have A0_ : Arv Z h10 e_ ke .char (25 : Int32) (([] : List Int32).map Value.int) (.int 0) := B10
  refine Go.astore #[.val (.int fa), .val (.int la), .val (.int ra), .val (.int ((XT.ushr fa (24 : Int32)) &&& (3 : Int32))), .val (.int ((XT.ushr ra (24 : Int32)) &&& (3 : Int32))), .val (.int (fa &&& (255 : Int32))), .val (.int ((XT.ushr fa (8 : Int32)) &&& (255 : Int32))), .val (.int ((XT.ushr fa (16 : Int32)) &&& (255 : Int32))), .val (.int (ra &&& (255 : Int32))), .val (.int ((XT.ushr ra (8 : Int32)) &&& (255 : Int32))), .val (.int ((XT.ushr ra (16 : Int32)) &&& (255 : Int32))), .val (.ref u1), .val (.ref u2), .val (.ref pp), .val (.ref e_), .unset, .unset] 120 at_118 rfl rfl rfl ?_
  refine Go.iconst (0) 121 at_120 rfl rfl ?_
  refine Go.istore #[.val (.int fa), .val (.int la), .val (.int ra), .val (.int ((XT.ushr fa (24 : Int32)) &&& (3 : Int32))), .val (.int ((XT.ushr ra (24 : Int32)) &&& (3 : Int32))), .val (.int (fa &&& (255 : Int32))), .val (.int ((XT.ushr fa (8 : Int32)) &&& (255 : Int32))), .val (.int ((XT.ushr fa (16 : Int32)) &&& (255 : Int32))), .val (.int (ra &&& (255 : Int32))), .val (.int ((XT.ushr ra (8 : Int32)) &&& (255 : Int32))), .val (.int ((XT.ushr ra (16 : Int32)) &&& (255 : Int32))), .val (.ref u1), .val (.ref u2), .val (.ref pp), .val (.ref e_), .val (.int (Int32.ofNat ([] : List Int32).length)), .unset] 123 at_121 rfl rfl ?_
  have n1 : (mkV ((XT.ushr fa (24 : Int32)) &&& (3 : Int32)) (fa &&& (255 : Int32)) ((XT.ushr fa (8 : Int32)) &&& (255 : Int32)) ((XT.ushr fa (16 : Int32)) &&& (255 : Int32))).length ≤ 3 := mk3 _ _ _ _
  have n2 : (mkV ((XT.ushr ra (24 : Int32)) &&& (3 : Int32)) (ra &&& (255 : Int32)) ((XT.ushr ra (8 : Int32)) &&& (255 : Int32)) ((XT.ushr ra (16 : Int32)) &&& (255 : Int32))).length ≤ 3 := mk3 _ _ _ _
  have J506 : ∀ (xs t_ : List Int32) (vmJ : Vm) (hJ : Heap) (l16 : Slot), (l16 = .unset ∨ ∃ w : Value, l16 = .val w ∧ w.category = 1) → xs = ((mkV ((XT.ushr fa (24 : Int32)) &&& (3 : Int32)) (fa &&& (255 : Int32)) ((XT.ushr fa (8 : Int32)) &&& (255 : Int32)) ((XT.ushr fa (16 : Int32)) &&& (255 : Int32))) ++ t_ ++ [58, 32]) ++ (mkV ((XT.ushr ra (24 : Int32)) &&& (3 : Int32)) (ra &&& (255 : Int32)) ((XT.ushr ra (8 : Int32)) &&& (255 : Int32)) ((XT.ushr ra (16 : Int32)) &&& (255 : Int32))) → LT la t_ → Ext h9 hJ → Arv Z hJ e_ ke .char (25 : Int32) (xs.map Value.int) (.int 0) → Safe Z consts_1 vmJ hJ e_ → Go false p l e room_1 s m #[.int fa, .int la, .int ra] below meth c code maxLocals "law" ret Z a0 consts_1 "com/example/guide/guide/io/FlowProblemToStringPinLaw" (fun v vm' h' => v = some (.int 1)) vmJ hJ 28 216 506 #[.val (.int fa), .val (.int la), .val (.int ra), .val (.int ((XT.ushr fa (24 : Int32)) &&& (3 : Int32))), .val (.int ((XT.ushr ra (24 : Int32)) &&& (3 : Int32))), .val (.int (fa &&& (255 : Int32))), .val (.int ((XT.ushr fa (8 : Int32)) &&& (255 : Int32))), .val (.int ((XT.ushr fa (16 : Int32)) &&& (255 : Int32))), .val (.int (ra &&& (255 : Int32))), .val (.int ((XT.ushr ra (8 : Int32)) &&& (255 : Int32))), .val (.int ((XT.ushr ra (16 : Int32)) &&& (255 : Int32))), .val (.ref u1), .val (.ref u2), .val (.ref pp), .val (.ref e_), .val (.int (Int32.ofNat xs.length)), l16] [] := by
    intro xs t_ vmJ hJ l16 o16 hX hL EJ AJ SJ
    have nt := hL.len
    have hx : xs.length ≤ 25 := by rw [hX]; simp only [List.length_append, List.length_cons, List.length_nil]; omega
    refine Go.aload 508 at_506 rfl rfl rfl ?_
    have f11 := P3_.1.ext EJ
    have f12 := P3_.2.1.ext EJ
    have f13 := P3_.2.2.1.ext EJ
    have f14 := P3_.2.2.2.ext EJ
    have f15 := T1_.ext (Ext.tr E2_ (Ext.tr E3_ EJ))
    have f16 := T2_.ext (Ext.tr E3_ EJ)
    refine Go.invokevirtual (rest := []) 0 pp [] 511 at_508 rfl f11 (W.1 58 rfl) (W.1 59 rfl) (fun s hs => notFace_of_selects (args := #[]) (mvT hs (W.1 61 rfl))) (W.1 61 rfl) (W.1 60 rfl) (W.1 28 rfl) (W.1 62 rfl) (by decide) (cPT W ⟨(by decide : ("com/example/guide/guide/io/FlowProblem", 37) ∈ consts_1), (by decide : ("com/example/guide/guide/io/FlowProblem", 46) ∈ consts_1), (by decide : ("com/example/guide/guide/io/FlowProblem", 48) ∈ consts_1)⟩ D ⟨f11, f12, f13, f14⟩ f15 f16 hL n1 n2) (by decide +kernel : parseMethodDescriptor "()Ljava/lang/String;" = some ⟨[], (some (.object "java/lang/String"))⟩) rfl rfl rfl (nl rfl) (nl rfl) (nl rfl) (nl rfl) (nl rfl) (fun v17 vm17 h17 ⟨zs, rv, E9_, T9_⟩ c17 => ?_)
    subst rv
    have T5 : Str Z h17 zs xs := by rw [hX]; exact T9_
    refine Go.astore #[.val (.int fa), .val (.int la), .val (.int ra), .val (.int ((XT.ushr fa (24 : Int32)) &&& (3 : Int32))), .val (.int ((XT.ushr ra (24 : Int32)) &&& (3 : Int32))), .val (.int (fa &&& (255 : Int32))), .val (.int ((XT.ushr fa (8 : Int32)) &&& (255 : Int32))), .val (.int ((XT.ushr fa (16 : Int32)) &&& (255 : Int32))), .val (.int (ra &&& (255 : Int32))), .val (.int ((XT.ushr ra (8 : Int32)) &&& (255 : Int32))), .val (.int ((XT.ushr ra (16 : Int32)) &&& (255 : Int32))), .val (.ref u1), .val (.ref u2), .val (.ref pp), .val (.ref e_), .val (.int (Int32.ofNat xs.length)), .val (.ref zs)] 513 at_511 rfl rfl (XS.store1 rfl o16 rfl) ?_
    refine Go.aload 515 at_513 rfl rfl rfl ?_
    refine Go.ifnull_n 518 at_515 rfl ?_
    refine Go.aload 520 at_518 rfl rfl rfl ?_
    refine goStrLen W 0 523 at_520 rfl (W.1 194 rfl) T5 rfl rfl (nl rfl) (nl rfl) (nl rfl) (nl rfl) (nl rfl) ?_
    refine Go.iload 525 at_523 rfl rfl ?_
    refine Go.if_icmpeq 530 528 at_525 (by decide) rfl rfl (fun q18 => ?_) (fun q18 => absurd rfl q18)
    have f19 := AJ.ext E9_
    refine Go.aload 532 at_530 rfl rfl rfl ?_
    refine Go.aload 534 at_532 rfl rfl rfl ?_
    refine Go.iload 536 at_534 rfl rfl ?_
    refine Go.iconst (0) 537 at_536 rfl rfl ?_
    refine Go.invokestatic (rest := []) 0 [.ref zs, .ref e_, .int (Int32.ofNat xs.length), .int (0 : Int32)] 540 at_537 rfl (W.1 195 rfl) (W.1 196 rfl) (W.1 2 rfl) (W.1 197 rfl) (by decide) (cFive W (b_ := 0) (by decide) hx T5 f19) (by decide +kernel : parseMethodDescriptor "(Ljava/lang/String;[CII)Z" = some ⟨[(.object "java/lang/String"), (.array .char), .int, .int], (some .boolean)⟩) rfl rfl rfl (nl rfl) (nl rfl) (nl rfl) (nl rfl) (nl rfl) (fun v20 vm20 h20 ⟨rv, hh⟩ c20 => ?_)
    subst rv; replace hh := hh.symm; subst hh
    refine Go.ifeq 602 543 at_540 (by decide) rfl rfl (fun q21 => absurd q21 (by decide)) (fun q21 => ?_)
    refine Go.aload 545 at_543 rfl rfl rfl ?_
    refine Go.aload 547 at_545 rfl rfl rfl ?_
    refine Go.iload 549 at_547 rfl rfl ?_
    refine Go.iconst (5) 550 at_549 rfl rfl ?_
    refine Go.invokestatic (rest := []) 0 [.ref zs, .ref e_, .int (Int32.ofNat xs.length), .int (5 : Int32)] 553 at_550 rfl (W.1 195 rfl) (W.1 196 rfl) (W.1 2 rfl) (W.1 197 rfl) (by decide) (cFive W (b_ := 5) (by decide) hx T5 f19) (by decide +kernel : parseMethodDescriptor "(Ljava/lang/String;[CII)Z" = some ⟨[(.object "java/lang/String"), (.array .char), .int, .int], (some .boolean)⟩) rfl rfl rfl (nl rfl) (nl rfl) (nl rfl) (nl rfl) (nl rfl) (fun v22 vm22 h22 ⟨rv, hh⟩ c22 => ?_)
    subst rv; replace hh := hh.symm; subst hh
    refine Go.ifeq 602 556 at_553 (by decide) rfl rfl (fun q23 => absurd q23 (by decide)) (fun q23 => ?_)
    refine Go.aload 558 at_556 rfl rfl rfl ?_
    refine Go.aload 560 at_558 rfl rfl rfl ?_
    refine Go.iload 562 at_560 rfl rfl ?_
    refine Go.bipush (10) 564 at_562 rfl rfl ?_
    refine Go.invokestatic (rest := []) 0 [.ref zs, .ref e_, .int (Int32.ofNat xs.length), .int (10 : Int32)] 567 at_564 rfl (W.1 195 rfl) (W.1 196 rfl) (W.1 2 rfl) (W.1 197 rfl) (by decide) (cFive W (b_ := 10) (by decide) hx T5 f19) (by decide +kernel : parseMethodDescriptor "(Ljava/lang/String;[CII)Z" = some ⟨[(.object "java/lang/String"), (.array .char), .int, .int], (some .boolean)⟩) rfl rfl rfl (nl rfl) (nl rfl) (nl rfl) (nl rfl) (nl rfl) (fun v24 vm24 h24 ⟨rv, hh⟩ c24 => ?_)
    subst rv; replace hh := hh.symm; subst hh
    refine Go.ifeq 602 570 at_567 (by decide) rfl rfl (fun q25 => absurd q25 (by decide)) (fun q25 => ?_)
    refine Go.aload 572 at_570 rfl rfl rfl ?_
    refine Go.aload 574 at_572 rfl rfl rfl ?_
    refine Go.iload 576 at_574 rfl rfl ?_
    refine Go.bipush (15) 578 at_576 rfl rfl ?_
    refine Go.invokestatic (rest := []) 0 [.ref zs, .ref e_, .int (Int32.ofNat xs.length), .int (15 : Int32)] 581 at_578 rfl (W.1 195 rfl) (W.1 196 rfl) (W.1 2 rfl) (W.1 197 rfl) (by decide) (cFive W (b_ := 15) (by decide) hx T5 f19) (by decide +kernel : parseMethodDescriptor "(Ljava/lang/String;[CII)Z" = some ⟨[(.object "java/lang/String"), (.array .char), .int, .int], (some .boolean)⟩) rfl rfl rfl (nl rfl) (nl rfl) (nl rfl) (nl rfl) (nl rfl) (fun v26 vm26 h26 ⟨rv, hh⟩ c26 => ?_)
    subst rv; replace hh := hh.symm; subst hh
    refine Go.ifeq 602 584 at_581 (by decide) rfl rfl (fun q27 => absurd q27 (by decide)) (fun q27 => ?_)
    refine Go.aload 586 at_584 rfl rfl rfl ?_
    refine Go.aload 588 at_586 rfl rfl rfl ?_
    refine Go.iload 590 at_588 rfl rfl ?_
    refine Go.bipush (20) 592 at_590 rfl rfl ?_
    refine Go.invokestatic (rest := []) 0 [.ref zs, .ref e_, .int (Int32.ofNat xs.length), .int (20 : Int32)] 595 at_592 rfl (W.1 195 rfl) (W.1 196 rfl) (W.1 2 rfl) (W.1 197 rfl) (by decide) (cFive W (b_ := 20) (by decide) hx T5 f19) (by decide +kernel : parseMethodDescriptor "(Ljava/lang/String;[CII)Z" = some ⟨[(.object "java/lang/String"), (.array .char), .int, .int], (some .boolean)⟩) rfl rfl rfl (nl rfl) (nl rfl) (nl rfl) (nl rfl) (nl rfl) (fun v28 vm28 h28 ⟨rv, hh⟩ c28 => ?_)
    subst rv; replace hh := hh.symm; subst hh
    refine Go.ifeq 602 598 at_595 (by decide) rfl rfl (fun q29 => absurd q29 (by decide)) (fun q29 => ?_)
    refine Go.iconst (1) 599 at_598 rfl rfl ?_
    refine Go.goto 603 at_599 (by decide) rfl ?_
    exact Go.ireturn at_603 rfl rfl (by simp) (nl rfl) (nl rfl) (fun vm' ch => rfl)
  have J439 : ∀ (xs t_ : List Int32) (vmJ : Vm) (hJ : Heap) (l16 : Slot), (l16 = .unset ∨ ∃ w : Value, l16 = .val w ∧ w.category = 1) → xs = (mkV ((XT.ushr fa (24 : Int32)) &&& (3 : Int32)) (fa &&& (255 : Int32)) ((XT.ushr fa (8 : Int32)) &&& (255 : Int32)) ((XT.ushr fa (16 : Int32)) &&& (255 : Int32))) ++ t_ → LT la t_ → Ext h9 hJ → Arv Z hJ e_ ke .char (25 : Int32) (xs.map Value.int) (.int 0) → Safe Z consts_1 vmJ hJ e_ → Go false p l e room_1 s m #[.int fa, .int la, .int ra] below meth c code maxLocals "law" ret Z a0 consts_1 "com/example/guide/guide/io/FlowProblemToStringPinLaw" (fun v vm' h' => v = some (.int 1)) vmJ hJ 28 216 439 #[.val (.int fa), .val (.int la), .val (.int ra), .val (.int ((XT.ushr fa (24 : Int32)) &&& (3 : Int32))), .val (.int ((XT.ushr ra (24 : Int32)) &&& (3 : Int32))), .val (.int (fa &&& (255 : Int32))), .val (.int ((XT.ushr fa (8 : Int32)) &&& (255 : Int32))), .val (.int ((XT.ushr fa (16 : Int32)) &&& (255 : Int32))), .val (.int (ra &&& (255 : Int32))), .val (.int ((XT.ushr ra (8 : Int32)) &&& (255 : Int32))), .val (.int ((XT.ushr ra (16 : Int32)) &&& (255 : Int32))), .val (.ref u1), .val (.ref u2), .val (.ref pp), .val (.ref e_), .val (.int (Int32.ofNat xs.length)), l16] [] := by
    intro xs t_ vmJ hJ l16 o16 hX hL EJ AJ SJ
    subst hX
    have nt := hL.len
    refine Go.aload 441 at_439 rfl rfl rfl ?_
    refine Go.iload 443 at_441 rfl rfl ?_
    refine Go.bipush (58) 445 at_443 rfl rfl ?_
    refine Go.pushC ((mkV ((XT.ushr fa (24 : Int32)) &&& (3 : Int32)) (fa &&& (255 : Int32)) ((XT.ushr fa (8 : Int32)) &&& (255 : Int32)) ((XT.ushr fa (16 : Int32)) &&& (255 : Int32))) ++ t_) 25 446 at_445 rfl AJ rfl rfl (by first | omega | (simp only [List.length_append, List.length_cons, List.length_nil]; omega)) (narC (by decide)) SJ z10 (fun h30 K30 A30 S30 c30 => ?_)
    have E30 := Ext.kp1 EJ K30 e10
    refine Go.iinc (Int32.ofNat (((mkV ((XT.ushr fa (24 : Int32)) &&& (3 : Int32)) (fa &&& (255 : Int32)) ((XT.ushr fa (8 : Int32)) &&& (255 : Int32)) ((XT.ushr fa (16 : Int32)) &&& (255 : Int32))) ++ t_) ++ [(58 : Int32)]).length) #[.val (.int fa), .val (.int la), .val (.int ra), .val (.int ((XT.ushr fa (24 : Int32)) &&& (3 : Int32))), .val (.int ((XT.ushr ra (24 : Int32)) &&& (3 : Int32))), .val (.int (fa &&& (255 : Int32))), .val (.int ((XT.ushr fa (8 : Int32)) &&& (255 : Int32))), .val (.int ((XT.ushr fa (16 : Int32)) &&& (255 : Int32))), .val (.int (ra &&& (255 : Int32))), .val (.int ((XT.ushr ra (8 : Int32)) &&& (255 : Int32))), .val (.int ((XT.ushr ra (16 : Int32)) &&& (255 : Int32))), .val (.ref u1), .val (.ref u2), .val (.ref pp), .val (.ref e_), .val (.int (Int32.ofNat (((mkV ((XT.ushr fa (24 : Int32)) &&& (3 : Int32)) (fa &&& (255 : Int32)) ((XT.ushr fa (8 : Int32)) &&& (255 : Int32)) ((XT.ushr fa (16 : Int32)) &&& (255 : Int32))) ++ t_) ++ [(58 : Int32)]).length)), l16] 449 at_446 rfl rfl incL rfl ?_
    refine Go.aload 451 at_449 rfl rfl rfl ?_
    refine Go.iload 453 at_451 rfl rfl ?_
    refine Go.bipush (32) 455 at_453 rfl rfl ?_
    refine Go.pushC (((mkV ((XT.ushr fa (24 : Int32)) &&& (3 : Int32)) (fa &&& (255 : Int32)) ((XT.ushr fa (8 : Int32)) &&& (255 : Int32)) ((XT.ushr fa (16 : Int32)) &&& (255 : Int32))) ++ t_) ++ [(58 : Int32)]) 25 456 at_455 rfl A30 rfl rfl (by first | omega | (simp only [List.length_append, List.length_cons, List.length_nil]; omega)) (narC (by decide)) S30 z10 (fun h31 K31 A31 S31 c31 => ?_)
    have E31 := Ext.kp1 E30 K31 e10
    refine Go.iinc (Int32.ofNat ((((mkV ((XT.ushr fa (24 : Int32)) &&& (3 : Int32)) (fa &&& (255 : Int32)) ((XT.ushr fa (8 : Int32)) &&& (255 : Int32)) ((XT.ushr fa (16 : Int32)) &&& (255 : Int32))) ++ t_) ++ [(58 : Int32)]) ++ [(32 : Int32)]).length) #[.val (.int fa), .val (.int la), .val (.int ra), .val (.int ((XT.ushr fa (24 : Int32)) &&& (3 : Int32))), .val (.int ((XT.ushr ra (24 : Int32)) &&& (3 : Int32))), .val (.int (fa &&& (255 : Int32))), .val (.int ((XT.ushr fa (8 : Int32)) &&& (255 : Int32))), .val (.int ((XT.ushr fa (16 : Int32)) &&& (255 : Int32))), .val (.int (ra &&& (255 : Int32))), .val (.int ((XT.ushr ra (8 : Int32)) &&& (255 : Int32))), .val (.int ((XT.ushr ra (16 : Int32)) &&& (255 : Int32))), .val (.ref u1), .val (.ref u2), .val (.ref pp), .val (.ref e_), .val (.int (Int32.ofNat ((((mkV ((XT.ushr fa (24 : Int32)) &&& (3 : Int32)) (fa &&& (255 : Int32)) ((XT.ushr fa (8 : Int32)) &&& (255 : Int32)) ((XT.ushr fa (16 : Int32)) &&& (255 : Int32))) ++ t_) ++ [(58 : Int32)]) ++ [(32 : Int32)]).length)), l16] 459 at_456 rfl rfl incL rfl ?_
    rcases and3 (XT.ushr ra (24 : Int32)) with hr | hr | hr | hr
    · refine Go.iload 461 at_459 rfl rfl ?_
      refine Go.ifle 474 464 at_461 (by decide) rfl rfl (fun q32 => ?_) (fun q32 => (by rw [hr] at q32; exact absurd q32 (by decide)))
      refine Go.iload 476 at_474 rfl rfl ?_
      refine Go.iconst (1) 477 at_476 rfl rfl ?_
      refine Go.if_icmple 490 480 at_477 (by decide) rfl rfl (fun q33 => ?_) (fun q33 => (by rw [hr] at q33; exact absurd q33 (by decide)))
      refine Go.iload 492 at_490 rfl rfl ?_
      refine Go.iconst (2) 493 at_492 rfl rfl ?_
      refine Go.if_icmple 506 496 at_493 (by decide) rfl rfl (fun q34 => ?_) (fun q34 => (by rw [hr] at q34; exact absurd q34 (by decide)))
      refine Go.mono (k' := 28) (n' := 216) (nl rfl) (nl rfl) ?_
      have R : (mkV ((XT.ushr ra (24 : Int32)) &&& (3 : Int32)) (ra &&& (255 : Int32)) ((XT.ushr ra (8 : Int32)) &&& (255 : Int32)) ((XT.ushr ra (16 : Int32)) &&& (255 : Int32))) = [] := by unfold mkV; rw [hr] <;> rfl
      exact J506 _ t_ _ _ _ o16 (by rw [R]; simp) hL E31 A31 S31
    · refine Go.iload 461 at_459 rfl rfl ?_
      refine Go.ifle 474 464 at_461 (by decide) rfl rfl (fun q35 => (by rw [hr] at q35; exact absurd q35 (by decide))) (fun q35 => ?_)
      refine Go.aload 466 at_464 rfl rfl rfl ?_
      refine Go.iload 468 at_466 rfl rfl ?_
      refine Go.iload 470 at_468 rfl rfl ?_
      refine Go.pushC ((((mkV ((XT.ushr fa (24 : Int32)) &&& (3 : Int32)) (fa &&& (255 : Int32)) ((XT.ushr fa (8 : Int32)) &&& (255 : Int32)) ((XT.ushr fa (16 : Int32)) &&& (255 : Int32))) ++ t_) ++ [(58 : Int32)]) ++ [(32 : Int32)]) 25 471 at_470 rfl A31 rfl rfl (by first | omega | (simp only [List.length_append, List.length_cons, List.length_nil]; omega)) (narC (and255 _)) S31 z10 (fun h36 K36 A36 S36 c36 => ?_)
      have E36 := Ext.kp1 E31 K36 e10
      refine Go.iinc (Int32.ofNat (((((mkV ((XT.ushr fa (24 : Int32)) &&& (3 : Int32)) (fa &&& (255 : Int32)) ((XT.ushr fa (8 : Int32)) &&& (255 : Int32)) ((XT.ushr fa (16 : Int32)) &&& (255 : Int32))) ++ t_) ++ [(58 : Int32)]) ++ [(32 : Int32)]) ++ [(ra &&& (255 : Int32))]).length) #[.val (.int fa), .val (.int la), .val (.int ra), .val (.int ((XT.ushr fa (24 : Int32)) &&& (3 : Int32))), .val (.int ((XT.ushr ra (24 : Int32)) &&& (3 : Int32))), .val (.int (fa &&& (255 : Int32))), .val (.int ((XT.ushr fa (8 : Int32)) &&& (255 : Int32))), .val (.int ((XT.ushr fa (16 : Int32)) &&& (255 : Int32))), .val (.int (ra &&& (255 : Int32))), .val (.int ((XT.ushr ra (8 : Int32)) &&& (255 : Int32))), .val (.int ((XT.ushr ra (16 : Int32)) &&& (255 : Int32))), .val (.ref u1), .val (.ref u2), .val (.ref pp), .val (.ref e_), .val (.int (Int32.ofNat (((((mkV ((XT.ushr fa (24 : Int32)) &&& (3 : Int32)) (fa &&& (255 : Int32)) ((XT.ushr fa (8 : Int32)) &&& (255 : Int32)) ((XT.ushr fa (16 : Int32)) &&& (255 : Int32))) ++ t_) ++ [(58 : Int32)]) ++ [(32 : Int32)]) ++ [(ra &&& (255 : Int32))]).length)), l16] 474 at_471 rfl rfl incL rfl ?_
      refine Go.iload 476 at_474 rfl rfl ?_
      refine Go.iconst (1) 477 at_476 rfl rfl ?_
      refine Go.if_icmple 490 480 at_477 (by decide) rfl rfl (fun q37 => ?_) (fun q37 => (by rw [hr] at q37; exact absurd q37 (by decide)))
      refine Go.iload 492 at_490 rfl rfl ?_
      refine Go.iconst (2) 493 at_492 rfl rfl ?_
      refine Go.if_icmple 506 496 at_493 (by decide) rfl rfl (fun q38 => ?_) (fun q38 => (by rw [hr] at q38; exact absurd q38 (by decide)))
      refine Go.mono (k' := 28) (n' := 216) (nl rfl) (nl rfl) ?_
      have R : (mkV ((XT.ushr ra (24 : Int32)) &&& (3 : Int32)) (ra &&& (255 : Int32)) ((XT.ushr ra (8 : Int32)) &&& (255 : Int32)) ((XT.ushr ra (16 : Int32)) &&& (255 : Int32))) = [(ra &&& (255 : Int32))] := by unfold mkV; rw [hr] <;> rfl
      exact J506 _ t_ _ _ _ o16 (by rw [R]; simp) hL E36 A36 S36
    · refine Go.iload 461 at_459 rfl rfl ?_
      refine Go.ifle 474 464 at_461 (by decide) rfl rfl (fun q39 => (by rw [hr] at q39; exact absurd q39 (by decide))) (fun q39 => ?_)
      refine Go.aload 466 at_464 rfl rfl rfl ?_
      refine Go.iload 468 at_466 rfl rfl ?_
      refine Go.iload 470 at_468 rfl rfl ?_
      refine Go.pushC ((((mkV ((XT.ushr fa (24 : Int32)) &&& (3 : Int32)) (fa &&& (255 : Int32)) ((XT.ushr fa (8 : Int32)) &&& (255 : Int32)) ((XT.ushr fa (16 : Int32)) &&& (255 : Int32))) ++ t_) ++ [(58 : Int32)]) ++ [(32 : Int32)]) 25 471 at_470 rfl A31 rfl rfl (by first | omega | (simp only [List.length_append, List.length_cons, List.length_nil]; omega)) (narC (and255 _)) S31 z10 (fun h40 K40 A40 S40 c40 => ?_)
      have E40 := Ext.kp1 E31 K40 e10
      refine Go.iinc (Int32.ofNat (((((mkV ((XT.ushr fa (24 : Int32)) &&& (3 : Int32)) (fa &&& (255 : Int32)) ((XT.ushr fa (8 : Int32)) &&& (255 : Int32)) ((XT.ushr fa (16 : Int32)) &&& (255 : Int32))) ++ t_) ++ [(58 : Int32)]) ++ [(32 : Int32)]) ++ [(ra &&& (255 : Int32))]).length) #[.val (.int fa), .val (.int la), .val (.int ra), .val (.int ((XT.ushr fa (24 : Int32)) &&& (3 : Int32))), .val (.int ((XT.ushr ra (24 : Int32)) &&& (3 : Int32))), .val (.int (fa &&& (255 : Int32))), .val (.int ((XT.ushr fa (8 : Int32)) &&& (255 : Int32))), .val (.int ((XT.ushr fa (16 : Int32)) &&& (255 : Int32))), .val (.int (ra &&& (255 : Int32))), .val (.int ((XT.ushr ra (8 : Int32)) &&& (255 : Int32))), .val (.int ((XT.ushr ra (16 : Int32)) &&& (255 : Int32))), .val (.ref u1), .val (.ref u2), .val (.ref pp), .val (.ref e_), .val (.int (Int32.ofNat (((((mkV ((XT.ushr fa (24 : Int32)) &&& (3 : Int32)) (fa &&& (255 : Int32)) ((XT.ushr fa (8 : Int32)) &&& (255 : Int32)) ((XT.ushr fa (16 : Int32)) &&& (255 : Int32))) ++ t_) ++ [(58 : Int32)]) ++ [(32 : Int32)]) ++ [(ra &&& (255 : Int32))]).length)), l16] 474 at_471 rfl rfl incL rfl ?_
      refine Go.iload 476 at_474 rfl rfl ?_
      refine Go.iconst (1) 477 at_476 rfl rfl ?_
      refine Go.if_icmple 490 480 at_477 (by decide) rfl rfl (fun q41 => (by rw [hr] at q41; exact absurd q41 (by decide))) (fun q41 => ?_)
      refine Go.aload 482 at_480 rfl rfl rfl ?_
      refine Go.iload 484 at_482 rfl rfl ?_
      refine Go.iload 486 at_484 rfl rfl ?_
      refine Go.pushC (((((mkV ((XT.ushr fa (24 : Int32)) &&& (3 : Int32)) (fa &&& (255 : Int32)) ((XT.ushr fa (8 : Int32)) &&& (255 : Int32)) ((XT.ushr fa (16 : Int32)) &&& (255 : Int32))) ++ t_) ++ [(58 : Int32)]) ++ [(32 : Int32)]) ++ [(ra &&& (255 : Int32))]) 25 487 at_486 rfl A40 rfl rfl (by first | omega | (simp only [List.length_append, List.length_cons, List.length_nil]; omega)) (narC (and255 _)) S40 z10 (fun h42 K42 A42 S42 c42 => ?_)
      have E42 := Ext.kp1 E40 K42 e10
      refine Go.iinc (Int32.ofNat ((((((mkV ((XT.ushr fa (24 : Int32)) &&& (3 : Int32)) (fa &&& (255 : Int32)) ((XT.ushr fa (8 : Int32)) &&& (255 : Int32)) ((XT.ushr fa (16 : Int32)) &&& (255 : Int32))) ++ t_) ++ [(58 : Int32)]) ++ [(32 : Int32)]) ++ [(ra &&& (255 : Int32))]) ++ [((XT.ushr ra (8 : Int32)) &&& (255 : Int32))]).length) #[.val (.int fa), .val (.int la), .val (.int ra), .val (.int ((XT.ushr fa (24 : Int32)) &&& (3 : Int32))), .val (.int ((XT.ushr ra (24 : Int32)) &&& (3 : Int32))), .val (.int (fa &&& (255 : Int32))), .val (.int ((XT.ushr fa (8 : Int32)) &&& (255 : Int32))), .val (.int ((XT.ushr fa (16 : Int32)) &&& (255 : Int32))), .val (.int (ra &&& (255 : Int32))), .val (.int ((XT.ushr ra (8 : Int32)) &&& (255 : Int32))), .val (.int ((XT.ushr ra (16 : Int32)) &&& (255 : Int32))), .val (.ref u1), .val (.ref u2), .val (.ref pp), .val (.ref e_), .val (.int (Int32.ofNat ((((((mkV ((XT.ushr fa (24 : Int32)) &&& (3 : Int32)) (fa &&& (255 : Int32)) ((XT.ushr fa (8 : Int32)) &&& (255 : Int32)) ((XT.ushr fa (16 : Int32)) &&& (255 : Int32))) ++ t_) ++ [(58 : Int32)]) ++ [(32 : Int32)]) ++ [(ra &&& (255 : Int32))]) ++ [((XT.ushr ra (8 : Int32)) &&& (255 : Int32))]).length)), l16] 490 at_487 rfl rfl incL rfl ?_
      refine Go.iload 492 at_490 rfl rfl ?_
      refine Go.iconst (2) 493 at_492 rfl rfl ?_
      refine Go.if_icmple 506 496 at_493 (by decide) rfl rfl (fun q43 => ?_) (fun q43 => (by rw [hr] at q43; exact absurd q43 (by decide)))
      refine Go.mono (k' := 28) (n' := 216) (nl rfl) (nl rfl) ?_
      have R : (mkV ((XT.ushr ra (24 : Int32)) &&& (3 : Int32)) (ra &&& (255 : Int32)) ((XT.ushr ra (8 : Int32)) &&& (255 : Int32)) ((XT.ushr ra (16 : Int32)) &&& (255 : Int32))) = [(ra &&& (255 : Int32)), ((XT.ushr ra (8 : Int32)) &&& (255 : Int32))] := by unfold mkV; rw [hr] <;> rfl
      exact J506 _ t_ _ _ _ o16 (by rw [R]; simp) hL E42 A42 S42
    · refine Go.iload 461 at_459 rfl rfl ?_
      refine Go.ifle 474 464 at_461 (by decide) rfl rfl (fun q44 => (by rw [hr] at q44; exact absurd q44 (by decide))) (fun q44 => ?_)
      refine Go.aload 466 at_464 rfl rfl rfl ?_
      refine Go.iload 468 at_466 rfl rfl ?_
      refine Go.iload 470 at_468 rfl rfl ?_
      refine Go.pushC ((((mkV ((XT.ushr fa (24 : Int32)) &&& (3 : Int32)) (fa &&& (255 : Int32)) ((XT.ushr fa (8 : Int32)) &&& (255 : Int32)) ((XT.ushr fa (16 : Int32)) &&& (255 : Int32))) ++ t_) ++ [(58 : Int32)]) ++ [(32 : Int32)]) 25 471 at_470 rfl A31 rfl rfl (by first | omega | (simp only [List.length_append, List.length_cons, List.length_nil]; omega)) (narC (and255 _)) S31 z10 (fun h45 K45 A45 S45 c45 => ?_)
      have E45 := Ext.kp1 E31 K45 e10
      refine Go.iinc (Int32.ofNat (((((mkV ((XT.ushr fa (24 : Int32)) &&& (3 : Int32)) (fa &&& (255 : Int32)) ((XT.ushr fa (8 : Int32)) &&& (255 : Int32)) ((XT.ushr fa (16 : Int32)) &&& (255 : Int32))) ++ t_) ++ [(58 : Int32)]) ++ [(32 : Int32)]) ++ [(ra &&& (255 : Int32))]).length) #[.val (.int fa), .val (.int la), .val (.int ra), .val (.int ((XT.ushr fa (24 : Int32)) &&& (3 : Int32))), .val (.int ((XT.ushr ra (24 : Int32)) &&& (3 : Int32))), .val (.int (fa &&& (255 : Int32))), .val (.int ((XT.ushr fa (8 : Int32)) &&& (255 : Int32))), .val (.int ((XT.ushr fa (16 : Int32)) &&& (255 : Int32))), .val (.int (ra &&& (255 : Int32))), .val (.int ((XT.ushr ra (8 : Int32)) &&& (255 : Int32))), .val (.int ((XT.ushr ra (16 : Int32)) &&& (255 : Int32))), .val (.ref u1), .val (.ref u2), .val (.ref pp), .val (.ref e_), .val (.int (Int32.ofNat (((((mkV ((XT.ushr fa (24 : Int32)) &&& (3 : Int32)) (fa &&& (255 : Int32)) ((XT.ushr fa (8 : Int32)) &&& (255 : Int32)) ((XT.ushr fa (16 : Int32)) &&& (255 : Int32))) ++ t_) ++ [(58 : Int32)]) ++ [(32 : Int32)]) ++ [(ra &&& (255 : Int32))]).length)), l16] 474 at_471 rfl rfl incL rfl ?_
      refine Go.iload 476 at_474 rfl rfl ?_
      refine Go.iconst (1) 477 at_476 rfl rfl ?_
      refine Go.if_icmple 490 480 at_477 (by decide) rfl rfl (fun q46 => (by rw [hr] at q46; exact absurd q46 (by decide))) (fun q46 => ?_)
      refine Go.aload 482 at_480 rfl rfl rfl ?_
      refine Go.iload 484 at_482 rfl rfl ?_
      refine Go.iload 486 at_484 rfl rfl ?_
      refine Go.pushC (((((mkV ((XT.ushr fa (24 : Int32)) &&& (3 : Int32)) (fa &&& (255 : Int32)) ((XT.ushr fa (8 : Int32)) &&& (255 : Int32)) ((XT.ushr fa (16 : Int32)) &&& (255 : Int32))) ++ t_) ++ [(58 : Int32)]) ++ [(32 : Int32)]) ++ [(ra &&& (255 : Int32))]) 25 487 at_486 rfl A45 rfl rfl (by first | omega | (simp only [List.length_append, List.length_cons, List.length_nil]; omega)) (narC (and255 _)) S45 z10 (fun h47 K47 A47 S47 c47 => ?_)
      have E47 := Ext.kp1 E45 K47 e10
      refine Go.iinc (Int32.ofNat ((((((mkV ((XT.ushr fa (24 : Int32)) &&& (3 : Int32)) (fa &&& (255 : Int32)) ((XT.ushr fa (8 : Int32)) &&& (255 : Int32)) ((XT.ushr fa (16 : Int32)) &&& (255 : Int32))) ++ t_) ++ [(58 : Int32)]) ++ [(32 : Int32)]) ++ [(ra &&& (255 : Int32))]) ++ [((XT.ushr ra (8 : Int32)) &&& (255 : Int32))]).length) #[.val (.int fa), .val (.int la), .val (.int ra), .val (.int ((XT.ushr fa (24 : Int32)) &&& (3 : Int32))), .val (.int ((XT.ushr ra (24 : Int32)) &&& (3 : Int32))), .val (.int (fa &&& (255 : Int32))), .val (.int ((XT.ushr fa (8 : Int32)) &&& (255 : Int32))), .val (.int ((XT.ushr fa (16 : Int32)) &&& (255 : Int32))), .val (.int (ra &&& (255 : Int32))), .val (.int ((XT.ushr ra (8 : Int32)) &&& (255 : Int32))), .val (.int ((XT.ushr ra (16 : Int32)) &&& (255 : Int32))), .val (.ref u1), .val (.ref u2), .val (.ref pp), .val (.ref e_), .val (.int (Int32.ofNat ((((((mkV ((XT.ushr fa (24 : Int32)) &&& (3 : Int32)) (fa &&& (255 : Int32)) ((XT.ushr fa (8 : Int32)) &&& (255 : Int32)) ((XT.ushr fa (16 : Int32)) &&& (255 : Int32))) ++ t_) ++ [(58 : Int32)]) ++ [(32 : Int32)]) ++ [(ra &&& (255 : Int32))]) ++ [((XT.ushr ra (8 : Int32)) &&& (255 : Int32))]).length)), l16] 490 at_487 rfl rfl incL rfl ?_
      refine Go.iload 492 at_490 rfl rfl ?_
      refine Go.iconst (2) 493 at_492 rfl rfl ?_
      refine Go.if_icmple 506 496 at_493 (by decide) rfl rfl (fun q48 => (by rw [hr] at q48; exact absurd q48 (by decide))) (fun q48 => ?_)
      refine Go.aload 498 at_496 rfl rfl rfl ?_
      refine Go.iload 500 at_498 rfl rfl ?_
      refine Go.iload 502 at_500 rfl rfl ?_
      refine Go.pushC ((((((mkV ((XT.ushr fa (24 : Int32)) &&& (3 : Int32)) (fa &&& (255 : Int32)) ((XT.ushr fa (8 : Int32)) &&& (255 : Int32)) ((XT.ushr fa (16 : Int32)) &&& (255 : Int32))) ++ t_) ++ [(58 : Int32)]) ++ [(32 : Int32)]) ++ [(ra &&& (255 : Int32))]) ++ [((XT.ushr ra (8 : Int32)) &&& (255 : Int32))]) 25 503 at_502 rfl A47 rfl rfl (by first | omega | (simp only [List.length_append, List.length_cons, List.length_nil]; omega)) (narC (and255 _)) S47 z10 (fun h49 K49 A49 S49 c49 => ?_)
      have E49 := Ext.kp1 E47 K49 e10
      refine Go.iinc (Int32.ofNat (((((((mkV ((XT.ushr fa (24 : Int32)) &&& (3 : Int32)) (fa &&& (255 : Int32)) ((XT.ushr fa (8 : Int32)) &&& (255 : Int32)) ((XT.ushr fa (16 : Int32)) &&& (255 : Int32))) ++ t_) ++ [(58 : Int32)]) ++ [(32 : Int32)]) ++ [(ra &&& (255 : Int32))]) ++ [((XT.ushr ra (8 : Int32)) &&& (255 : Int32))]) ++ [((XT.ushr ra (16 : Int32)) &&& (255 : Int32))]).length) #[.val (.int fa), .val (.int la), .val (.int ra), .val (.int ((XT.ushr fa (24 : Int32)) &&& (3 : Int32))), .val (.int ((XT.ushr ra (24 : Int32)) &&& (3 : Int32))), .val (.int (fa &&& (255 : Int32))), .val (.int ((XT.ushr fa (8 : Int32)) &&& (255 : Int32))), .val (.int ((XT.ushr fa (16 : Int32)) &&& (255 : Int32))), .val (.int (ra &&& (255 : Int32))), .val (.int ((XT.ushr ra (8 : Int32)) &&& (255 : Int32))), .val (.int ((XT.ushr ra (16 : Int32)) &&& (255 : Int32))), .val (.ref u1), .val (.ref u2), .val (.ref pp), .val (.ref e_), .val (.int (Int32.ofNat (((((((mkV ((XT.ushr fa (24 : Int32)) &&& (3 : Int32)) (fa &&& (255 : Int32)) ((XT.ushr fa (8 : Int32)) &&& (255 : Int32)) ((XT.ushr fa (16 : Int32)) &&& (255 : Int32))) ++ t_) ++ [(58 : Int32)]) ++ [(32 : Int32)]) ++ [(ra &&& (255 : Int32))]) ++ [((XT.ushr ra (8 : Int32)) &&& (255 : Int32))]) ++ [((XT.ushr ra (16 : Int32)) &&& (255 : Int32))]).length)), l16] 506 at_503 rfl rfl incL rfl ?_
      refine Go.mono (k' := 28) (n' := 216) (nl rfl) (nl rfl) ?_
      have R : (mkV ((XT.ushr ra (24 : Int32)) &&& (3 : Int32)) (ra &&& (255 : Int32)) ((XT.ushr ra (8 : Int32)) &&& (255 : Int32)) ((XT.ushr ra (16 : Int32)) &&& (255 : Int32))) = [(ra &&& (255 : Int32)), ((XT.ushr ra (8 : Int32)) &&& (255 : Int32)), ((XT.ushr ra (16 : Int32)) &&& (255 : Int32))] := by unfold mkV; rw [hr] <;> rfl
      exact J506 _ t_ _ _ _ o16 (by rw [R]; simp) hL E49 A49 S49
  have J167 : ∀ (xs : List Int32) (vmJ : Vm) (hJ : Heap), xs = (mkV ((XT.ushr fa (24 : Int32)) &&& (3 : Int32)) (fa &&& (255 : Int32)) ((XT.ushr fa (8 : Int32)) &&& (255 : Int32)) ((XT.ushr fa (16 : Int32)) &&& (255 : Int32))) → Ext h9 hJ → Arv Z hJ e_ ke .char (25 : Int32) (xs.map Value.int) (.int 0) → Safe Z consts_1 vmJ hJ e_ → Go false p l e room_1 s m #[.int fa, .int la, .int ra] below meth c code maxLocals "law" ret Z a0 consts_1 "com/example/guide/guide/io/FlowProblemToStringPinLaw" (fun v vm' h' => v = some (.int 1)) vmJ hJ 18 116 167 #[.val (.int fa), .val (.int la), .val (.int ra), .val (.int ((XT.ushr fa (24 : Int32)) &&& (3 : Int32))), .val (.int ((XT.ushr ra (24 : Int32)) &&& (3 : Int32))), .val (.int (fa &&& (255 : Int32))), .val (.int ((XT.ushr fa (8 : Int32)) &&& (255 : Int32))), .val (.int ((XT.ushr fa (16 : Int32)) &&& (255 : Int32))), .val (.int (ra &&& (255 : Int32))), .val (.int ((XT.ushr ra (8 : Int32)) &&& (255 : Int32))), .val (.int ((XT.ushr ra (16 : Int32)) &&& (255 : Int32))), .val (.ref u1), .val (.ref u2), .val (.ref pp), .val (.ref e_), .val (.int (Int32.ofNat xs.length)), .unset] [] := by
    intro xs vmJ hJ hX EJ AJ SJ
    subst hX
    refine Go.iload_n 168 at_167 rfl rfl ?_
    refine Go.ifle 439 171 at_168 (by decide) rfl rfl (fun q => ?_) (fun q => ?_)
    · refine Go.mono (k' := 28) (n' := 216) (nl rfl) (nl rfl) ?_
      exact J439 _ [] _ _ _ (Or.inl rfl) (List.append_nil _).symm (Or.inl ⟨q, rfl⟩) EJ AJ SJ
    · obtain ⟨n_, hn, hn0, hla⟩ := posN q
      obtain ⟨s_, hs⟩ := Nd.ex hn0 hn
      have h10 := hs.le10 hn
      refine Go.aload 173 at_171 rfl rfl rfl ?_
      refine Go.iload 175 at_173 rfl rfl ?_
      refine Go.bipush (44) 177 at_175 rfl rfl ?_
      refine Go.pushC (mkV ((XT.ushr fa (24 : Int32)) &&& (3 : Int32)) (fa &&& (255 : Int32)) ((XT.ushr fa (8 : Int32)) &&& (255 : Int32)) ((XT.ushr fa (16 : Int32)) &&& (255 : Int32))) 25 178 at_177 rfl AJ rfl rfl (by first | omega | (simp only [List.length_append, List.length_cons, List.length_nil]; omega)) (narC (by decide)) SJ z10 (fun h50 K50 A50 S50 c50 => ?_)
      have E50 := Ext.kp1 EJ K50 e10
      refine Go.iinc (Int32.ofNat ((mkV ((XT.ushr fa (24 : Int32)) &&& (3 : Int32)) (fa &&& (255 : Int32)) ((XT.ushr fa (8 : Int32)) &&& (255 : Int32)) ((XT.ushr fa (16 : Int32)) &&& (255 : Int32))) ++ [(44 : Int32)]).length) #[.val (.int fa), .val (.int la), .val (.int ra), .val (.int ((XT.ushr fa (24 : Int32)) &&& (3 : Int32))), .val (.int ((XT.ushr ra (24 : Int32)) &&& (3 : Int32))), .val (.int (fa &&& (255 : Int32))), .val (.int ((XT.ushr fa (8 : Int32)) &&& (255 : Int32))), .val (.int ((XT.ushr fa (16 : Int32)) &&& (255 : Int32))), .val (.int (ra &&& (255 : Int32))), .val (.int ((XT.ushr ra (8 : Int32)) &&& (255 : Int32))), .val (.int ((XT.ushr ra (16 : Int32)) &&& (255 : Int32))), .val (.ref u1), .val (.ref u2), .val (.ref pp), .val (.ref e_), .val (.int (Int32.ofNat ((mkV ((XT.ushr fa (24 : Int32)) &&& (3 : Int32)) (fa &&& (255 : Int32)) ((XT.ushr fa (8 : Int32)) &&& (255 : Int32)) ((XT.ushr fa (16 : Int32)) &&& (255 : Int32))) ++ [(44 : Int32)]).length)), .unset] 181 at_178 rfl rfl incL rfl ?_
      refine Go.aload 183 at_181 rfl rfl rfl ?_
      refine Go.iload 185 at_183 rfl rfl ?_
      refine Go.bipush (32) 187 at_185 rfl rfl ?_
      refine Go.pushC ((mkV ((XT.ushr fa (24 : Int32)) &&& (3 : Int32)) (fa &&& (255 : Int32)) ((XT.ushr fa (8 : Int32)) &&& (255 : Int32)) ((XT.ushr fa (16 : Int32)) &&& (255 : Int32))) ++ [(44 : Int32)]) 25 188 at_187 rfl A50 rfl rfl (by first | omega | (simp only [List.length_append, List.length_cons, List.length_nil]; omega)) (narC (by decide)) S50 z10 (fun h51 K51 A51 S51 c51 => ?_)
      have E51 := Ext.kp1 E50 K51 e10
      refine Go.iinc (Int32.ofNat (((mkV ((XT.ushr fa (24 : Int32)) &&& (3 : Int32)) (fa &&& (255 : Int32)) ((XT.ushr fa (8 : Int32)) &&& (255 : Int32)) ((XT.ushr fa (16 : Int32)) &&& (255 : Int32))) ++ [(44 : Int32)]) ++ [(32 : Int32)]).length) #[.val (.int fa), .val (.int la), .val (.int ra), .val (.int ((XT.ushr fa (24 : Int32)) &&& (3 : Int32))), .val (.int ((XT.ushr ra (24 : Int32)) &&& (3 : Int32))), .val (.int (fa &&& (255 : Int32))), .val (.int ((XT.ushr fa (8 : Int32)) &&& (255 : Int32))), .val (.int ((XT.ushr fa (16 : Int32)) &&& (255 : Int32))), .val (.int (ra &&& (255 : Int32))), .val (.int ((XT.ushr ra (8 : Int32)) &&& (255 : Int32))), .val (.int ((XT.ushr ra (16 : Int32)) &&& (255 : Int32))), .val (.ref u1), .val (.ref u2), .val (.ref pp), .val (.ref e_), .val (.int (Int32.ofNat (((mkV ((XT.ushr fa (24 : Int32)) &&& (3 : Int32)) (fa &&& (255 : Int32)) ((XT.ushr fa (8 : Int32)) &&& (255 : Int32)) ((XT.ushr fa (16 : Int32)) &&& (255 : Int32))) ++ [(44 : Int32)]) ++ [(32 : Int32)]).length)), .unset] 191 at_188 rfl rfl incL rfl ?_
      refine Go.aload 193 at_191 rfl rfl rfl ?_
      refine Go.iload 195 at_193 rfl rfl ?_
      refine Go.bipush (108) 197 at_195 rfl rfl ?_
      refine Go.pushC (((mkV ((XT.ushr fa (24 : Int32)) &&& (3 : Int32)) (fa &&& (255 : Int32)) ((XT.ushr fa (8 : Int32)) &&& (255 : Int32)) ((XT.ushr fa (16 : Int32)) &&& (255 : Int32))) ++ [(44 : Int32)]) ++ [(32 : Int32)]) 25 198 at_197 rfl A51 rfl rfl (by first | omega | (simp only [List.length_append, List.length_cons, List.length_nil]; omega)) (narC (by decide)) S51 z10 (fun h52 K52 A52 S52 c52 => ?_)
      have E52 := Ext.kp1 E51 K52 e10
      refine Go.iinc (Int32.ofNat ((((mkV ((XT.ushr fa (24 : Int32)) &&& (3 : Int32)) (fa &&& (255 : Int32)) ((XT.ushr fa (8 : Int32)) &&& (255 : Int32)) ((XT.ushr fa (16 : Int32)) &&& (255 : Int32))) ++ [(44 : Int32)]) ++ [(32 : Int32)]) ++ [(108 : Int32)]).length) #[.val (.int fa), .val (.int la), .val (.int ra), .val (.int ((XT.ushr fa (24 : Int32)) &&& (3 : Int32))), .val (.int ((XT.ushr ra (24 : Int32)) &&& (3 : Int32))), .val (.int (fa &&& (255 : Int32))), .val (.int ((XT.ushr fa (8 : Int32)) &&& (255 : Int32))), .val (.int ((XT.ushr fa (16 : Int32)) &&& (255 : Int32))), .val (.int (ra &&& (255 : Int32))), .val (.int ((XT.ushr ra (8 : Int32)) &&& (255 : Int32))), .val (.int ((XT.ushr ra (16 : Int32)) &&& (255 : Int32))), .val (.ref u1), .val (.ref u2), .val (.ref pp), .val (.ref e_), .val (.int (Int32.ofNat ((((mkV ((XT.ushr fa (24 : Int32)) &&& (3 : Int32)) (fa &&& (255 : Int32)) ((XT.ushr fa (8 : Int32)) &&& (255 : Int32)) ((XT.ushr fa (16 : Int32)) &&& (255 : Int32))) ++ [(44 : Int32)]) ++ [(32 : Int32)]) ++ [(108 : Int32)]).length)), .unset] 201 at_198 rfl rfl incL rfl ?_
      refine Go.aload 203 at_201 rfl rfl rfl ?_
      refine Go.iload 205 at_203 rfl rfl ?_
      refine Go.bipush (105) 207 at_205 rfl rfl ?_
      refine Go.pushC ((((mkV ((XT.ushr fa (24 : Int32)) &&& (3 : Int32)) (fa &&& (255 : Int32)) ((XT.ushr fa (8 : Int32)) &&& (255 : Int32)) ((XT.ushr fa (16 : Int32)) &&& (255 : Int32))) ++ [(44 : Int32)]) ++ [(32 : Int32)]) ++ [(108 : Int32)]) 25 208 at_207 rfl A52 rfl rfl (by first | omega | (simp only [List.length_append, List.length_cons, List.length_nil]; omega)) (narC (by decide)) S52 z10 (fun h53 K53 A53 S53 c53 => ?_)
      have E53 := Ext.kp1 E52 K53 e10
      refine Go.iinc (Int32.ofNat (((((mkV ((XT.ushr fa (24 : Int32)) &&& (3 : Int32)) (fa &&& (255 : Int32)) ((XT.ushr fa (8 : Int32)) &&& (255 : Int32)) ((XT.ushr fa (16 : Int32)) &&& (255 : Int32))) ++ [(44 : Int32)]) ++ [(32 : Int32)]) ++ [(108 : Int32)]) ++ [(105 : Int32)]).length) #[.val (.int fa), .val (.int la), .val (.int ra), .val (.int ((XT.ushr fa (24 : Int32)) &&& (3 : Int32))), .val (.int ((XT.ushr ra (24 : Int32)) &&& (3 : Int32))), .val (.int (fa &&& (255 : Int32))), .val (.int ((XT.ushr fa (8 : Int32)) &&& (255 : Int32))), .val (.int ((XT.ushr fa (16 : Int32)) &&& (255 : Int32))), .val (.int (ra &&& (255 : Int32))), .val (.int ((XT.ushr ra (8 : Int32)) &&& (255 : Int32))), .val (.int ((XT.ushr ra (16 : Int32)) &&& (255 : Int32))), .val (.ref u1), .val (.ref u2), .val (.ref pp), .val (.ref e_), .val (.int (Int32.ofNat (((((mkV ((XT.ushr fa (24 : Int32)) &&& (3 : Int32)) (fa &&& (255 : Int32)) ((XT.ushr fa (8 : Int32)) &&& (255 : Int32)) ((XT.ushr fa (16 : Int32)) &&& (255 : Int32))) ++ [(44 : Int32)]) ++ [(32 : Int32)]) ++ [(108 : Int32)]) ++ [(105 : Int32)]).length)), .unset] 211 at_208 rfl rfl incL rfl ?_
      refine Go.aload 213 at_211 rfl rfl rfl ?_
      refine Go.iload 215 at_213 rfl rfl ?_
      refine Go.bipush (110) 217 at_215 rfl rfl ?_
      refine Go.pushC (((((mkV ((XT.ushr fa (24 : Int32)) &&& (3 : Int32)) (fa &&& (255 : Int32)) ((XT.ushr fa (8 : Int32)) &&& (255 : Int32)) ((XT.ushr fa (16 : Int32)) &&& (255 : Int32))) ++ [(44 : Int32)]) ++ [(32 : Int32)]) ++ [(108 : Int32)]) ++ [(105 : Int32)]) 25 218 at_217 rfl A53 rfl rfl (by first | omega | (simp only [List.length_append, List.length_cons, List.length_nil]; omega)) (narC (by decide)) S53 z10 (fun h54 K54 A54 S54 c54 => ?_)
      have E54 := Ext.kp1 E53 K54 e10
      refine Go.iinc (Int32.ofNat ((((((mkV ((XT.ushr fa (24 : Int32)) &&& (3 : Int32)) (fa &&& (255 : Int32)) ((XT.ushr fa (8 : Int32)) &&& (255 : Int32)) ((XT.ushr fa (16 : Int32)) &&& (255 : Int32))) ++ [(44 : Int32)]) ++ [(32 : Int32)]) ++ [(108 : Int32)]) ++ [(105 : Int32)]) ++ [(110 : Int32)]).length) #[.val (.int fa), .val (.int la), .val (.int ra), .val (.int ((XT.ushr fa (24 : Int32)) &&& (3 : Int32))), .val (.int ((XT.ushr ra (24 : Int32)) &&& (3 : Int32))), .val (.int (fa &&& (255 : Int32))), .val (.int ((XT.ushr fa (8 : Int32)) &&& (255 : Int32))), .val (.int ((XT.ushr fa (16 : Int32)) &&& (255 : Int32))), .val (.int (ra &&& (255 : Int32))), .val (.int ((XT.ushr ra (8 : Int32)) &&& (255 : Int32))), .val (.int ((XT.ushr ra (16 : Int32)) &&& (255 : Int32))), .val (.ref u1), .val (.ref u2), .val (.ref pp), .val (.ref e_), .val (.int (Int32.ofNat ((((((mkV ((XT.ushr fa (24 : Int32)) &&& (3 : Int32)) (fa &&& (255 : Int32)) ((XT.ushr fa (8 : Int32)) &&& (255 : Int32)) ((XT.ushr fa (16 : Int32)) &&& (255 : Int32))) ++ [(44 : Int32)]) ++ [(32 : Int32)]) ++ [(108 : Int32)]) ++ [(105 : Int32)]) ++ [(110 : Int32)]).length)), .unset] 221 at_218 rfl rfl incL rfl ?_
      refine Go.aload 223 at_221 rfl rfl rfl ?_
      refine Go.iload 225 at_223 rfl rfl ?_
      refine Go.bipush (101) 227 at_225 rfl rfl ?_
      refine Go.pushC ((((((mkV ((XT.ushr fa (24 : Int32)) &&& (3 : Int32)) (fa &&& (255 : Int32)) ((XT.ushr fa (8 : Int32)) &&& (255 : Int32)) ((XT.ushr fa (16 : Int32)) &&& (255 : Int32))) ++ [(44 : Int32)]) ++ [(32 : Int32)]) ++ [(108 : Int32)]) ++ [(105 : Int32)]) ++ [(110 : Int32)]) 25 228 at_227 rfl A54 rfl rfl (by first | omega | (simp only [List.length_append, List.length_cons, List.length_nil]; omega)) (narC (by decide)) S54 z10 (fun h55 K55 A55 S55 c55 => ?_)
      have E55 := Ext.kp1 E54 K55 e10
      refine Go.iinc (Int32.ofNat (((((((mkV ((XT.ushr fa (24 : Int32)) &&& (3 : Int32)) (fa &&& (255 : Int32)) ((XT.ushr fa (8 : Int32)) &&& (255 : Int32)) ((XT.ushr fa (16 : Int32)) &&& (255 : Int32))) ++ [(44 : Int32)]) ++ [(32 : Int32)]) ++ [(108 : Int32)]) ++ [(105 : Int32)]) ++ [(110 : Int32)]) ++ [(101 : Int32)]).length) #[.val (.int fa), .val (.int la), .val (.int ra), .val (.int ((XT.ushr fa (24 : Int32)) &&& (3 : Int32))), .val (.int ((XT.ushr ra (24 : Int32)) &&& (3 : Int32))), .val (.int (fa &&& (255 : Int32))), .val (.int ((XT.ushr fa (8 : Int32)) &&& (255 : Int32))), .val (.int ((XT.ushr fa (16 : Int32)) &&& (255 : Int32))), .val (.int (ra &&& (255 : Int32))), .val (.int ((XT.ushr ra (8 : Int32)) &&& (255 : Int32))), .val (.int ((XT.ushr ra (16 : Int32)) &&& (255 : Int32))), .val (.ref u1), .val (.ref u2), .val (.ref pp), .val (.ref e_), .val (.int (Int32.ofNat (((((((mkV ((XT.ushr fa (24 : Int32)) &&& (3 : Int32)) (fa &&& (255 : Int32)) ((XT.ushr fa (8 : Int32)) &&& (255 : Int32)) ((XT.ushr fa (16 : Int32)) &&& (255 : Int32))) ++ [(44 : Int32)]) ++ [(32 : Int32)]) ++ [(108 : Int32)]) ++ [(105 : Int32)]) ++ [(110 : Int32)]) ++ [(101 : Int32)]).length)), .unset] 231 at_228 rfl rfl incL rfl ?_
      refine Go.aload 233 at_231 rfl rfl rfl ?_
      refine Go.iload 235 at_233 rfl rfl ?_
      refine Go.bipush (32) 237 at_235 rfl rfl ?_
      refine Go.pushC (((((((mkV ((XT.ushr fa (24 : Int32)) &&& (3 : Int32)) (fa &&& (255 : Int32)) ((XT.ushr fa (8 : Int32)) &&& (255 : Int32)) ((XT.ushr fa (16 : Int32)) &&& (255 : Int32))) ++ [(44 : Int32)]) ++ [(32 : Int32)]) ++ [(108 : Int32)]) ++ [(105 : Int32)]) ++ [(110 : Int32)]) ++ [(101 : Int32)]) 25 238 at_237 rfl A55 rfl rfl (by first | omega | (simp only [List.length_append, List.length_cons, List.length_nil]; omega)) (narC (by decide)) S55 z10 (fun h56 K56 A56 S56 c56 => ?_)
      have E56 := Ext.kp1 E55 K56 e10
      refine Go.iinc (Int32.ofNat ((((((((mkV ((XT.ushr fa (24 : Int32)) &&& (3 : Int32)) (fa &&& (255 : Int32)) ((XT.ushr fa (8 : Int32)) &&& (255 : Int32)) ((XT.ushr fa (16 : Int32)) &&& (255 : Int32))) ++ [(44 : Int32)]) ++ [(32 : Int32)]) ++ [(108 : Int32)]) ++ [(105 : Int32)]) ++ [(110 : Int32)]) ++ [(101 : Int32)]) ++ [(32 : Int32)]).length) #[.val (.int fa), .val (.int la), .val (.int ra), .val (.int ((XT.ushr fa (24 : Int32)) &&& (3 : Int32))), .val (.int ((XT.ushr ra (24 : Int32)) &&& (3 : Int32))), .val (.int (fa &&& (255 : Int32))), .val (.int ((XT.ushr fa (8 : Int32)) &&& (255 : Int32))), .val (.int ((XT.ushr fa (16 : Int32)) &&& (255 : Int32))), .val (.int (ra &&& (255 : Int32))), .val (.int ((XT.ushr ra (8 : Int32)) &&& (255 : Int32))), .val (.int ((XT.ushr ra (16 : Int32)) &&& (255 : Int32))), .val (.ref u1), .val (.ref u2), .val (.ref pp), .val (.ref e_), .val (.int (Int32.ofNat ((((((((mkV ((XT.ushr fa (24 : Int32)) &&& (3 : Int32)) (fa &&& (255 : Int32)) ((XT.ushr fa (8 : Int32)) &&& (255 : Int32)) ((XT.ushr fa (16 : Int32)) &&& (255 : Int32))) ++ [(44 : Int32)]) ++ [(32 : Int32)]) ++ [(108 : Int32)]) ++ [(105 : Int32)]) ++ [(110 : Int32)]) ++ [(101 : Int32)]) ++ [(32 : Int32)]).length)), .unset] 241 at_238 rfl rfl incL rfl ?_
      refine Go.iload_n 242 at_241 rfl rfl ?_
      refine Go.invokestatic (rest := []) 0 [.int la] 245 at_242 rfl (W.1 46 rfl) (W.1 47 rfl) (W.1 2 rfl) (W.1 48 rfl) (by decide) (cDigits W hla hn hs) (by decide +kernel : parseMethodDescriptor "(I)I" = some ⟨[.int], (some .int)⟩) rfl rfl rfl (nl rfl) (nl rfl) (nl rfl) (nl rfl) (nl rfl) (fun v57 vm57 h57 ⟨rv, hh⟩ c57 => ?_)
      subst rv; replace hh := hh.symm; subst hh
      refine Go.istore #[.val (.int fa), .val (.int la), .val (.int ra), .val (.int ((XT.ushr fa (24 : Int32)) &&& (3 : Int32))), .val (.int ((XT.ushr ra (24 : Int32)) &&& (3 : Int32))), .val (.int (fa &&& (255 : Int32))), .val (.int ((XT.ushr fa (8 : Int32)) &&& (255 : Int32))), .val (.int ((XT.ushr fa (16 : Int32)) &&& (255 : Int32))), .val (.int (ra &&& (255 : Int32))), .val (.int ((XT.ushr ra (8 : Int32)) &&& (255 : Int32))), .val (.int ((XT.ushr ra (16 : Int32)) &&& (255 : Int32))), .val (.ref u1), .val (.ref u2), .val (.ref pp), .val (.ref e_), .val (.int (Int32.ofNat ((((((((mkV ((XT.ushr fa (24 : Int32)) &&& (3 : Int32)) (fa &&& (255 : Int32)) ((XT.ushr fa (8 : Int32)) &&& (255 : Int32)) ((XT.ushr fa (16 : Int32)) &&& (255 : Int32))) ++ [(44 : Int32)]) ++ [(32 : Int32)]) ++ [(108 : Int32)]) ++ [(105 : Int32)]) ++ [(110 : Int32)]) ++ [(101 : Int32)]) ++ [(32 : Int32)]).length)), .val (.int (Int32.ofNat s_))] 247 at_245 rfl rfl ?_
      have hs1 := hs.1
      have hcs : s_ = 1 ∨ s_ = 2 ∨ s_ = 3 ∨ s_ = 4 ∨ s_ = 5 ∨ s_ = 6 ∨ s_ = 7 ∨ s_ = 8 ∨ s_ = 9 ∨ s_ = 10 := by omega
      rcases hcs with rfl | rfl | rfl | rfl | rfl | rfl | rfl | rfl | rfl | rfl
      · refine Go.iload 249 at_247 rfl rfl ?_
        refine Go.bipush (9) 251 at_249 rfl rfl ?_
        refine Go.if_icmple 268 254 at_251 (by decide) rfl rfl (fun q58 => ?_) (fun q58 => absurd q58 (by decide))
        refine Go.iload 270 at_268 rfl rfl ?_
        refine Go.bipush (8) 272 at_270 rfl rfl ?_
        refine Go.if_icmple 289 275 at_272 (by decide) rfl rfl (fun q59 => ?_) (fun q59 => absurd q59 (by decide))
        refine Go.iload 291 at_289 rfl rfl ?_
        refine Go.bipush (7) 293 at_291 rfl rfl ?_
        refine Go.if_icmple 310 296 at_293 (by decide) rfl rfl (fun q60 => ?_) (fun q60 => absurd q60 (by decide))
        refine Go.iload 312 at_310 rfl rfl ?_
        refine Go.bipush (6) 314 at_312 rfl rfl ?_
        refine Go.if_icmple 331 317 at_314 (by decide) rfl rfl (fun q61 => ?_) (fun q61 => absurd q61 (by decide))
        refine Go.iload 333 at_331 rfl rfl ?_
        refine Go.iconst (5) 334 at_333 rfl rfl ?_
        refine Go.if_icmple 350 337 at_334 (by decide) rfl rfl (fun q62 => ?_) (fun q62 => absurd q62 (by decide))
        refine Go.iload 352 at_350 rfl rfl ?_
        refine Go.iconst (4) 353 at_352 rfl rfl ?_
        refine Go.if_icmple 369 356 at_353 (by decide) rfl rfl (fun q63 => ?_) (fun q63 => absurd q63 (by decide))
        refine Go.iload 371 at_369 rfl rfl ?_
        refine Go.iconst (3) 372 at_371 rfl rfl ?_
        refine Go.if_icmple 388 375 at_372 (by decide) rfl rfl (fun q64 => ?_) (fun q64 => absurd q64 (by decide))
        refine Go.iload 390 at_388 rfl rfl ?_
        refine Go.iconst (2) 391 at_390 rfl rfl ?_
        refine Go.if_icmple 407 394 at_391 (by decide) rfl rfl (fun q65 => ?_) (fun q65 => absurd q65 (by decide))
        refine Go.iload 409 at_407 rfl rfl ?_
        refine Go.iconst (1) 410 at_409 rfl rfl ?_
        refine Go.if_icmple 426 413 at_410 (by decide) rfl rfl (fun q66 => ?_) (fun q66 => absurd q66 (by decide))
        refine Go.aload 428 at_426 rfl rfl rfl ?_
        refine Go.iload 430 at_428 rfl rfl ?_
        refine Go.iload_n 431 at_430 rfl rfl ?_
        refine Go.iconst (0) 432 at_431 rfl rfl ?_
        refine Go.invokestatic (rest := [.int (Int32.ofNat ((((((((mkV ((XT.ushr fa (24 : Int32)) &&& (3 : Int32)) (fa &&& (255 : Int32)) ((XT.ushr fa (8 : Int32)) &&& (255 : Int32)) ((XT.ushr fa (16 : Int32)) &&& (255 : Int32))) ++ [(44 : Int32)]) ++ [(32 : Int32)]) ++ [(108 : Int32)]) ++ [(105 : Int32)]) ++ [(110 : Int32)]) ++ [(101 : Int32)]) ++ [(32 : Int32)]).length), .ref e_]) 2 [.int la, .int (0 : Int32)] 435 at_432 rfl (W.1 54 rfl) (W.1 55 rfl) (W.1 2 rfl) (W.1 56 rfl) (by decide) (cDig W (t_ := 1) hla hn (by decide) rfl (by decide)) (by decide +kernel : parseMethodDescriptor "(II)C" = some ⟨[.int, .int], (some .char)⟩) rfl rfl rfl (nl rfl) (nl rfl) (nl rfl) (nl rfl) (nl rfl) (fun v127 vm127 h127 ⟨rv, Ed116⟩ c127 => ?_)
        subst rv
        have f128 := A56.ext Ed116
        have f129 := CHr.safe (CHr.trans c57 c127) A56.lt S56
        have L129 := Nat.lt_of_lt_of_le A56.lt (CHr.trans c57 c127).2.1
        refine Go.pushC ((((((((mkV ((XT.ushr fa (24 : Int32)) &&& (3 : Int32)) (fa &&& (255 : Int32)) ((XT.ushr fa (8 : Int32)) &&& (255 : Int32)) ((XT.ushr fa (16 : Int32)) &&& (255 : Int32))) ++ [(44 : Int32)]) ++ [(32 : Int32)]) ++ [(108 : Int32)]) ++ [(105 : Int32)]) ++ [(110 : Int32)]) ++ [(101 : Int32)]) ++ [(32 : Int32)]) 25 436 at_435 rfl f128 rfl rfl (by first | omega | (simp only [List.length_append, List.length_cons, List.length_nil]; omega)) (narC (dg48 _)) f129 z10 (fun h130 K130 A130 S130 c130 => ?_)
        have E130 := Ext.kp1 (Ext.tr E56 Ed116) K130 e10
        refine Go.iinc (Int32.ofNat (((((((((mkV ((XT.ushr fa (24 : Int32)) &&& (3 : Int32)) (fa &&& (255 : Int32)) ((XT.ushr fa (8 : Int32)) &&& (255 : Int32)) ((XT.ushr fa (16 : Int32)) &&& (255 : Int32))) ++ [(44 : Int32)]) ++ [(32 : Int32)]) ++ [(108 : Int32)]) ++ [(105 : Int32)]) ++ [(110 : Int32)]) ++ [(101 : Int32)]) ++ [(32 : Int32)]) ++ [(Int32.ofNat (48 + n_ / 1 % 10))]).length) #[.val (.int fa), .val (.int la), .val (.int ra), .val (.int ((XT.ushr fa (24 : Int32)) &&& (3 : Int32))), .val (.int ((XT.ushr ra (24 : Int32)) &&& (3 : Int32))), .val (.int (fa &&& (255 : Int32))), .val (.int ((XT.ushr fa (8 : Int32)) &&& (255 : Int32))), .val (.int ((XT.ushr fa (16 : Int32)) &&& (255 : Int32))), .val (.int (ra &&& (255 : Int32))), .val (.int ((XT.ushr ra (8 : Int32)) &&& (255 : Int32))), .val (.int ((XT.ushr ra (16 : Int32)) &&& (255 : Int32))), .val (.ref u1), .val (.ref u2), .val (.ref pp), .val (.ref e_), .val (.int (Int32.ofNat (((((((((mkV ((XT.ushr fa (24 : Int32)) &&& (3 : Int32)) (fa &&& (255 : Int32)) ((XT.ushr fa (8 : Int32)) &&& (255 : Int32)) ((XT.ushr fa (16 : Int32)) &&& (255 : Int32))) ++ [(44 : Int32)]) ++ [(32 : Int32)]) ++ [(108 : Int32)]) ++ [(105 : Int32)]) ++ [(110 : Int32)]) ++ [(101 : Int32)]) ++ [(32 : Int32)]) ++ [(Int32.ofNat (48 + n_ / 1 % 10))]).length)), .val (.int (Int32.ofNat 1))] 439 at_436 rfl rfl incL rfl ?_
        refine Go.mono (k' := 28) (n' := 216) (nl rfl) (nl rfl) ?_
        exact J439 _ ([44, 32, 108, 105, 110, 101, 32] ++ dgL 1 n_) _ _ _ (Or.inr ⟨_, rfl, rfl⟩) (by simp [dgL, Nat.div_div_eq_div_mul]) (Or.inr ⟨q, 1, n_, hla, hn, hs, rfl⟩) E130 A130 S130
      · refine Go.iload 249 at_247 rfl rfl ?_
        refine Go.bipush (9) 251 at_249 rfl rfl ?_
        refine Go.if_icmple 268 254 at_251 (by decide) rfl rfl (fun q131 => ?_) (fun q131 => absurd q131 (by decide))
        refine Go.iload 270 at_268 rfl rfl ?_
        refine Go.bipush (8) 272 at_270 rfl rfl ?_
        refine Go.if_icmple 289 275 at_272 (by decide) rfl rfl (fun q132 => ?_) (fun q132 => absurd q132 (by decide))
        refine Go.iload 291 at_289 rfl rfl ?_
        refine Go.bipush (7) 293 at_291 rfl rfl ?_
        refine Go.if_icmple 310 296 at_293 (by decide) rfl rfl (fun q133 => ?_) (fun q133 => absurd q133 (by decide))
        refine Go.iload 312 at_310 rfl rfl ?_
        refine Go.bipush (6) 314 at_312 rfl rfl ?_
        refine Go.if_icmple 331 317 at_314 (by decide) rfl rfl (fun q134 => ?_) (fun q134 => absurd q134 (by decide))
        refine Go.iload 333 at_331 rfl rfl ?_
        refine Go.iconst (5) 334 at_333 rfl rfl ?_
        refine Go.if_icmple 350 337 at_334 (by decide) rfl rfl (fun q135 => ?_) (fun q135 => absurd q135 (by decide))
        refine Go.iload 352 at_350 rfl rfl ?_
        refine Go.iconst (4) 353 at_352 rfl rfl ?_
        refine Go.if_icmple 369 356 at_353 (by decide) rfl rfl (fun q136 => ?_) (fun q136 => absurd q136 (by decide))
        refine Go.iload 371 at_369 rfl rfl ?_
        refine Go.iconst (3) 372 at_371 rfl rfl ?_
        refine Go.if_icmple 388 375 at_372 (by decide) rfl rfl (fun q137 => ?_) (fun q137 => absurd q137 (by decide))
        refine Go.iload 390 at_388 rfl rfl ?_
        refine Go.iconst (2) 391 at_390 rfl rfl ?_
        refine Go.if_icmple 407 394 at_391 (by decide) rfl rfl (fun q138 => ?_) (fun q138 => absurd q138 (by decide))
        refine Go.iload 409 at_407 rfl rfl ?_
        refine Go.iconst (1) 410 at_409 rfl rfl ?_
        refine Go.if_icmple 426 413 at_410 (by decide) rfl rfl (fun q139 => absurd (by decide) q139) (fun q139 => ?_)
        refine Go.aload 415 at_413 rfl rfl rfl ?_
        refine Go.iload 417 at_415 rfl rfl ?_
        refine Go.iload_n 418 at_417 rfl rfl ?_
        refine Go.iconst (1) 419 at_418 rfl rfl ?_
        refine Go.invokestatic (rest := [.int (Int32.ofNat ((((((((mkV ((XT.ushr fa (24 : Int32)) &&& (3 : Int32)) (fa &&& (255 : Int32)) ((XT.ushr fa (8 : Int32)) &&& (255 : Int32)) ((XT.ushr fa (16 : Int32)) &&& (255 : Int32))) ++ [(44 : Int32)]) ++ [(32 : Int32)]) ++ [(108 : Int32)]) ++ [(105 : Int32)]) ++ [(110 : Int32)]) ++ [(101 : Int32)]) ++ [(32 : Int32)]).length), .ref e_]) 2 [.int la, .int (1 : Int32)] 422 at_419 rfl (W.1 54 rfl) (W.1 55 rfl) (W.1 2 rfl) (W.1 56 rfl) (by decide) (cDig W (t_ := 10) hla hn (by decide) rfl (by decide)) (by decide +kernel : parseMethodDescriptor "(II)C" = some ⟨[.int, .int], (some .char)⟩) rfl rfl rfl (nl rfl) (nl rfl) (nl rfl) (nl rfl) (nl rfl) (fun v200 vm200 h200 ⟨rv, Ed189⟩ c200 => ?_)
        subst rv
        have f201 := A56.ext Ed189
        have f202 := CHr.safe (CHr.trans c57 c200) A56.lt S56
        have L202 := Nat.lt_of_lt_of_le A56.lt (CHr.trans c57 c200).2.1
        refine Go.pushC ((((((((mkV ((XT.ushr fa (24 : Int32)) &&& (3 : Int32)) (fa &&& (255 : Int32)) ((XT.ushr fa (8 : Int32)) &&& (255 : Int32)) ((XT.ushr fa (16 : Int32)) &&& (255 : Int32))) ++ [(44 : Int32)]) ++ [(32 : Int32)]) ++ [(108 : Int32)]) ++ [(105 : Int32)]) ++ [(110 : Int32)]) ++ [(101 : Int32)]) ++ [(32 : Int32)]) 25 423 at_422 rfl f201 rfl rfl (by first | omega | (simp only [List.length_append, List.length_cons, List.length_nil]; omega)) (narC (dg48 _)) f202 z10 (fun h203 K203 A203 S203 c203 => ?_)
        have E203 := Ext.kp1 (Ext.tr E56 Ed189) K203 e10
        refine Go.iinc (Int32.ofNat (((((((((mkV ((XT.ushr fa (24 : Int32)) &&& (3 : Int32)) (fa &&& (255 : Int32)) ((XT.ushr fa (8 : Int32)) &&& (255 : Int32)) ((XT.ushr fa (16 : Int32)) &&& (255 : Int32))) ++ [(44 : Int32)]) ++ [(32 : Int32)]) ++ [(108 : Int32)]) ++ [(105 : Int32)]) ++ [(110 : Int32)]) ++ [(101 : Int32)]) ++ [(32 : Int32)]) ++ [(Int32.ofNat (48 + n_ / 10 % 10))]).length) #[.val (.int fa), .val (.int la), .val (.int ra), .val (.int ((XT.ushr fa (24 : Int32)) &&& (3 : Int32))), .val (.int ((XT.ushr ra (24 : Int32)) &&& (3 : Int32))), .val (.int (fa &&& (255 : Int32))), .val (.int ((XT.ushr fa (8 : Int32)) &&& (255 : Int32))), .val (.int ((XT.ushr fa (16 : Int32)) &&& (255 : Int32))), .val (.int (ra &&& (255 : Int32))), .val (.int ((XT.ushr ra (8 : Int32)) &&& (255 : Int32))), .val (.int ((XT.ushr ra (16 : Int32)) &&& (255 : Int32))), .val (.ref u1), .val (.ref u2), .val (.ref pp), .val (.ref e_), .val (.int (Int32.ofNat (((((((((mkV ((XT.ushr fa (24 : Int32)) &&& (3 : Int32)) (fa &&& (255 : Int32)) ((XT.ushr fa (8 : Int32)) &&& (255 : Int32)) ((XT.ushr fa (16 : Int32)) &&& (255 : Int32))) ++ [(44 : Int32)]) ++ [(32 : Int32)]) ++ [(108 : Int32)]) ++ [(105 : Int32)]) ++ [(110 : Int32)]) ++ [(101 : Int32)]) ++ [(32 : Int32)]) ++ [(Int32.ofNat (48 + n_ / 10 % 10))]).length)), .val (.int (Int32.ofNat 2))] 426 at_423 rfl rfl incL rfl ?_
        refine Go.aload 428 at_426 rfl rfl rfl ?_
        refine Go.iload 430 at_428 rfl rfl ?_
        refine Go.iload_n 431 at_430 rfl rfl ?_
        refine Go.iconst (0) 432 at_431 rfl rfl ?_
        refine Go.invokestatic (rest := [.int (Int32.ofNat (((((((((mkV ((XT.ushr fa (24 : Int32)) &&& (3 : Int32)) (fa &&& (255 : Int32)) ((XT.ushr fa (8 : Int32)) &&& (255 : Int32)) ((XT.ushr fa (16 : Int32)) &&& (255 : Int32))) ++ [(44 : Int32)]) ++ [(32 : Int32)]) ++ [(108 : Int32)]) ++ [(105 : Int32)]) ++ [(110 : Int32)]) ++ [(101 : Int32)]) ++ [(32 : Int32)]) ++ [(Int32.ofNat (48 + n_ / 10 % 10))]).length), .ref e_]) 2 [.int la, .int (0 : Int32)] 435 at_432 rfl (W.1 54 rfl) (W.1 55 rfl) (W.1 2 rfl) (W.1 56 rfl) (by decide) (cDig W (t_ := 1) hla hn (by decide) rfl (by decide)) (by decide +kernel : parseMethodDescriptor "(II)C" = some ⟨[.int, .int], (some .char)⟩) rfl rfl rfl (nl rfl) (nl rfl) (nl rfl) (nl rfl) (nl rfl) (fun v264 vm264 h264 ⟨rv, Ed253⟩ c264 => ?_)
        subst rv
        have f265 := A203.ext Ed253
        have f266 := CHr.safe c264 A203.lt S203
        have L266 := Nat.lt_of_lt_of_le A203.lt c264.2.1
        refine Go.pushC (((((((((mkV ((XT.ushr fa (24 : Int32)) &&& (3 : Int32)) (fa &&& (255 : Int32)) ((XT.ushr fa (8 : Int32)) &&& (255 : Int32)) ((XT.ushr fa (16 : Int32)) &&& (255 : Int32))) ++ [(44 : Int32)]) ++ [(32 : Int32)]) ++ [(108 : Int32)]) ++ [(105 : Int32)]) ++ [(110 : Int32)]) ++ [(101 : Int32)]) ++ [(32 : Int32)]) ++ [(Int32.ofNat (48 + n_ / 10 % 10))]) 25 436 at_435 rfl f265 rfl rfl (by first | omega | (simp only [List.length_append, List.length_cons, List.length_nil]; omega)) (narC (dg48 _)) f266 z10 (fun h267 K267 A267 S267 c267 => ?_)
        have E267 := Ext.kp1 (Ext.tr E203 Ed253) K267 e10
        refine Go.iinc (Int32.ofNat ((((((((((mkV ((XT.ushr fa (24 : Int32)) &&& (3 : Int32)) (fa &&& (255 : Int32)) ((XT.ushr fa (8 : Int32)) &&& (255 : Int32)) ((XT.ushr fa (16 : Int32)) &&& (255 : Int32))) ++ [(44 : Int32)]) ++ [(32 : Int32)]) ++ [(108 : Int32)]) ++ [(105 : Int32)]) ++ [(110 : Int32)]) ++ [(101 : Int32)]) ++ [(32 : Int32)]) ++ [(Int32.ofNat (48 + n_ / 10 % 10))]) ++ [(Int32.ofNat (48 + n_ / 1 % 10))]).length) #[.val (.int fa), .val (.int la), .val (.int ra), .val (.int ((XT.ushr fa (24 : Int32)) &&& (3 : Int32))), .val (.int ((XT.ushr ra (24 : Int32)) &&& (3 : Int32))), .val (.int (fa &&& (255 : Int32))), .val (.int ((XT.ushr fa (8 : Int32)) &&& (255 : Int32))), .val (.int ((XT.ushr fa (16 : Int32)) &&& (255 : Int32))), .val (.int (ra &&& (255 : Int32))), .val (.int ((XT.ushr ra (8 : Int32)) &&& (255 : Int32))), .val (.int ((XT.ushr ra (16 : Int32)) &&& (255 : Int32))), .val (.ref u1), .val (.ref u2), .val (.ref pp), .val (.ref e_), .val (.int (Int32.ofNat ((((((((((mkV ((XT.ushr fa (24 : Int32)) &&& (3 : Int32)) (fa &&& (255 : Int32)) ((XT.ushr fa (8 : Int32)) &&& (255 : Int32)) ((XT.ushr fa (16 : Int32)) &&& (255 : Int32))) ++ [(44 : Int32)]) ++ [(32 : Int32)]) ++ [(108 : Int32)]) ++ [(105 : Int32)]) ++ [(110 : Int32)]) ++ [(101 : Int32)]) ++ [(32 : Int32)]) ++ [(Int32.ofNat (48 + n_ / 10 % 10))]) ++ [(Int32.ofNat (48 + n_ / 1 % 10))]).length)), .val (.int (Int32.ofNat 2))] 439 at_436 rfl rfl incL rfl ?_
        refine Go.mono (k' := 28) (n' := 216) (nl rfl) (nl rfl) ?_
        exact J439 _ ([44, 32, 108, 105, 110, 101, 32] ++ dgL 2 n_) _ _ _ (Or.inr ⟨_, rfl, rfl⟩) (by simp [dgL, Nat.div_div_eq_div_mul]) (Or.inr ⟨q, 2, n_, hla, hn, hs, rfl⟩) E267 A267 S267
      · refine Go.iload 249 at_247 rfl rfl ?_
        refine Go.bipush (9) 251 at_249 rfl rfl ?_
        refine Go.if_icmple 268 254 at_251 (by decide) rfl rfl (fun q268 => ?_) (fun q268 => absurd q268 (by decide))
        refine Go.iload 270 at_268 rfl rfl ?_
        refine Go.bipush (8) 272 at_270 rfl rfl ?_
        refine Go.if_icmple 289 275 at_272 (by decide) rfl rfl (fun q269 => ?_) (fun q269 => absurd q269 (by decide))
        refine Go.iload 291 at_289 rfl rfl ?_
        refine Go.bipush (7) 293 at_291 rfl rfl ?_
        refine Go.if_icmple 310 296 at_293 (by decide) rfl rfl (fun q270 => ?_) (fun q270 => absurd q270 (by decide))
        refine Go.iload 312 at_310 rfl rfl ?_
        refine Go.bipush (6) 314 at_312 rfl rfl ?_
        refine Go.if_icmple 331 317 at_314 (by decide) rfl rfl (fun q271 => ?_) (fun q271 => absurd q271 (by decide))
        refine Go.iload 333 at_331 rfl rfl ?_
        refine Go.iconst (5) 334 at_333 rfl rfl ?_
        refine Go.if_icmple 350 337 at_334 (by decide) rfl rfl (fun q272 => ?_) (fun q272 => absurd q272 (by decide))
        refine Go.iload 352 at_350 rfl rfl ?_
        refine Go.iconst (4) 353 at_352 rfl rfl ?_
        refine Go.if_icmple 369 356 at_353 (by decide) rfl rfl (fun q273 => ?_) (fun q273 => absurd q273 (by decide))
        refine Go.iload 371 at_369 rfl rfl ?_
        refine Go.iconst (3) 372 at_371 rfl rfl ?_
        refine Go.if_icmple 388 375 at_372 (by decide) rfl rfl (fun q274 => ?_) (fun q274 => absurd q274 (by decide))
        refine Go.iload 390 at_388 rfl rfl ?_
        refine Go.iconst (2) 391 at_390 rfl rfl ?_
        refine Go.if_icmple 407 394 at_391 (by decide) rfl rfl (fun q275 => absurd (by decide) q275) (fun q275 => ?_)
        refine Go.aload 396 at_394 rfl rfl rfl ?_
        refine Go.iload 398 at_396 rfl rfl ?_
        refine Go.iload_n 399 at_398 rfl rfl ?_
        refine Go.iconst (2) 400 at_399 rfl rfl ?_
        refine Go.invokestatic (rest := [.int (Int32.ofNat ((((((((mkV ((XT.ushr fa (24 : Int32)) &&& (3 : Int32)) (fa &&& (255 : Int32)) ((XT.ushr fa (8 : Int32)) &&& (255 : Int32)) ((XT.ushr fa (16 : Int32)) &&& (255 : Int32))) ++ [(44 : Int32)]) ++ [(32 : Int32)]) ++ [(108 : Int32)]) ++ [(105 : Int32)]) ++ [(110 : Int32)]) ++ [(101 : Int32)]) ++ [(32 : Int32)]).length), .ref e_]) 2 [.int la, .int (2 : Int32)] 403 at_400 rfl (W.1 54 rfl) (W.1 55 rfl) (W.1 2 rfl) (W.1 56 rfl) (by decide) (cDig W (t_ := 100) hla hn (by decide) rfl (by decide)) (by decide +kernel : parseMethodDescriptor "(II)C" = some ⟨[.int, .int], (some .char)⟩) rfl rfl rfl (nl rfl) (nl rfl) (nl rfl) (nl rfl) (nl rfl) (fun v336 vm336 h336 ⟨rv, Ed325⟩ c336 => ?_)
        subst rv
        have f337 := A56.ext Ed325
        have f338 := CHr.safe (CHr.trans c57 c336) A56.lt S56
        have L338 := Nat.lt_of_lt_of_le A56.lt (CHr.trans c57 c336).2.1
        refine Go.pushC ((((((((mkV ((XT.ushr fa (24 : Int32)) &&& (3 : Int32)) (fa &&& (255 : Int32)) ((XT.ushr fa (8 : Int32)) &&& (255 : Int32)) ((XT.ushr fa (16 : Int32)) &&& (255 : Int32))) ++ [(44 : Int32)]) ++ [(32 : Int32)]) ++ [(108 : Int32)]) ++ [(105 : Int32)]) ++ [(110 : Int32)]) ++ [(101 : Int32)]) ++ [(32 : Int32)]) 25 404 at_403 rfl f337 rfl rfl (by first | omega | (simp only [List.length_append, List.length_cons, List.length_nil]; omega)) (narC (dg48 _)) f338 z10 (fun h339 K339 A339 S339 c339 => ?_)
        have E339 := Ext.kp1 (Ext.tr E56 Ed325) K339 e10
        refine Go.iinc (Int32.ofNat (((((((((mkV ((XT.ushr fa (24 : Int32)) &&& (3 : Int32)) (fa &&& (255 : Int32)) ((XT.ushr fa (8 : Int32)) &&& (255 : Int32)) ((XT.ushr fa (16 : Int32)) &&& (255 : Int32))) ++ [(44 : Int32)]) ++ [(32 : Int32)]) ++ [(108 : Int32)]) ++ [(105 : Int32)]) ++ [(110 : Int32)]) ++ [(101 : Int32)]) ++ [(32 : Int32)]) ++ [(Int32.ofNat (48 + n_ / 100 % 10))]).length) #[.val (.int fa), .val (.int la), .val (.int ra), .val (.int ((XT.ushr fa (24 : Int32)) &&& (3 : Int32))), .val (.int ((XT.ushr ra (24 : Int32)) &&& (3 : Int32))), .val (.int (fa &&& (255 : Int32))), .val (.int ((XT.ushr fa (8 : Int32)) &&& (255 : Int32))), .val (.int ((XT.ushr fa (16 : Int32)) &&& (255 : Int32))), .val (.int (ra &&& (255 : Int32))), .val (.int ((XT.ushr ra (8 : Int32)) &&& (255 : Int32))), .val (.int ((XT.ushr ra (16 : Int32)) &&& (255 : Int32))), .val (.ref u1), .val (.ref u2), .val (.ref pp), .val (.ref e_), .val (.int (Int32.ofNat (((((((((mkV ((XT.ushr fa (24 : Int32)) &&& (3 : Int32)) (fa &&& (255 : Int32)) ((XT.ushr fa (8 : Int32)) &&& (255 : Int32)) ((XT.ushr fa (16 : Int32)) &&& (255 : Int32))) ++ [(44 : Int32)]) ++ [(32 : Int32)]) ++ [(108 : Int32)]) ++ [(105 : Int32)]) ++ [(110 : Int32)]) ++ [(101 : Int32)]) ++ [(32 : Int32)]) ++ [(Int32.ofNat (48 + n_ / 100 % 10))]).length)), .val (.int (Int32.ofNat 3))] 407 at_404 rfl rfl incL rfl ?_
        refine Go.iload 409 at_407 rfl rfl ?_
        refine Go.iconst (1) 410 at_409 rfl rfl ?_
        refine Go.if_icmple 426 413 at_410 (by decide) rfl rfl (fun q340 => absurd (by decide) q340) (fun q340 => ?_)
        refine Go.aload 415 at_413 rfl rfl rfl ?_
        refine Go.iload 417 at_415 rfl rfl ?_
        refine Go.iload_n 418 at_417 rfl rfl ?_
        refine Go.iconst (1) 419 at_418 rfl rfl ?_
        refine Go.invokestatic (rest := [.int (Int32.ofNat (((((((((mkV ((XT.ushr fa (24 : Int32)) &&& (3 : Int32)) (fa &&& (255 : Int32)) ((XT.ushr fa (8 : Int32)) &&& (255 : Int32)) ((XT.ushr fa (16 : Int32)) &&& (255 : Int32))) ++ [(44 : Int32)]) ++ [(32 : Int32)]) ++ [(108 : Int32)]) ++ [(105 : Int32)]) ++ [(110 : Int32)]) ++ [(101 : Int32)]) ++ [(32 : Int32)]) ++ [(Int32.ofNat (48 + n_ / 100 % 10))]).length), .ref e_]) 2 [.int la, .int (1 : Int32)] 422 at_419 rfl (W.1 54 rfl) (W.1 55 rfl) (W.1 2 rfl) (W.1 56 rfl) (by decide) (cDig W (t_ := 10) hla hn (by decide) rfl (by decide)) (by decide +kernel : parseMethodDescriptor "(II)C" = some ⟨[.int, .int], (some .char)⟩) rfl rfl rfl (nl rfl) (nl rfl) (nl rfl) (nl rfl) (nl rfl) (fun v401 vm401 h401 ⟨rv, Ed390⟩ c401 => ?_)
        subst rv
        have f402 := A339.ext Ed390
        have f403 := CHr.safe c401 A339.lt S339
        have L403 := Nat.lt_of_lt_of_le A339.lt c401.2.1
        refine Go.pushC (((((((((mkV ((XT.ushr fa (24 : Int32)) &&& (3 : Int32)) (fa &&& (255 : Int32)) ((XT.ushr fa (8 : Int32)) &&& (255 : Int32)) ((XT.ushr fa (16 : Int32)) &&& (255 : Int32))) ++ [(44 : Int32)]) ++ [(32 : Int32)]) ++ [(108 : Int32)]) ++ [(105 : Int32)]) ++ [(110 : Int32)]) ++ [(101 : Int32)]) ++ [(32 : Int32)]) ++ [(Int32.ofNat (48 + n_ / 100 % 10))]) 25 423 at_422 rfl f402 rfl rfl (by first | omega | (simp only [List.length_append, List.length_cons, List.length_nil]; omega)) (narC (dg48 _)) f403 z10 (fun h404 K404 A404 S404 c404 => ?_)
        have E404 := Ext.kp1 (Ext.tr E339 Ed390) K404 e10
        refine Go.iinc (Int32.ofNat ((((((((((mkV ((XT.ushr fa (24 : Int32)) &&& (3 : Int32)) (fa &&& (255 : Int32)) ((XT.ushr fa (8 : Int32)) &&& (255 : Int32)) ((XT.ushr fa (16 : Int32)) &&& (255 : Int32))) ++ [(44 : Int32)]) ++ [(32 : Int32)]) ++ [(108 : Int32)]) ++ [(105 : Int32)]) ++ [(110 : Int32)]) ++ [(101 : Int32)]) ++ [(32 : Int32)]) ++ [(Int32.ofNat (48 + n_ / 100 % 10))]) ++ [(Int32.ofNat (48 + n_ / 10 % 10))]).length) #[.val (.int fa), .val (.int la), .val (.int ra), .val (.int ((XT.ushr fa (24 : Int32)) &&& (3 : Int32))), .val (.int ((XT.ushr ra (24 : Int32)) &&& (3 : Int32))), .val (.int (fa &&& (255 : Int32))), .val (.int ((XT.ushr fa (8 : Int32)) &&& (255 : Int32))), .val (.int ((XT.ushr fa (16 : Int32)) &&& (255 : Int32))), .val (.int (ra &&& (255 : Int32))), .val (.int ((XT.ushr ra (8 : Int32)) &&& (255 : Int32))), .val (.int ((XT.ushr ra (16 : Int32)) &&& (255 : Int32))), .val (.ref u1), .val (.ref u2), .val (.ref pp), .val (.ref e_), .val (.int (Int32.ofNat ((((((((((mkV ((XT.ushr fa (24 : Int32)) &&& (3 : Int32)) (fa &&& (255 : Int32)) ((XT.ushr fa (8 : Int32)) &&& (255 : Int32)) ((XT.ushr fa (16 : Int32)) &&& (255 : Int32))) ++ [(44 : Int32)]) ++ [(32 : Int32)]) ++ [(108 : Int32)]) ++ [(105 : Int32)]) ++ [(110 : Int32)]) ++ [(101 : Int32)]) ++ [(32 : Int32)]) ++ [(Int32.ofNat (48 + n_ / 100 % 10))]) ++ [(Int32.ofNat (48 + n_ / 10 % 10))]).length)), .val (.int (Int32.ofNat 3))] 426 at_423 rfl rfl incL rfl ?_
        refine Go.aload 428 at_426 rfl rfl rfl ?_
        refine Go.iload 430 at_428 rfl rfl ?_
        refine Go.iload_n 431 at_430 rfl rfl ?_
        refine Go.iconst (0) 432 at_431 rfl rfl ?_
        refine Go.invokestatic (rest := [.int (Int32.ofNat ((((((((((mkV ((XT.ushr fa (24 : Int32)) &&& (3 : Int32)) (fa &&& (255 : Int32)) ((XT.ushr fa (8 : Int32)) &&& (255 : Int32)) ((XT.ushr fa (16 : Int32)) &&& (255 : Int32))) ++ [(44 : Int32)]) ++ [(32 : Int32)]) ++ [(108 : Int32)]) ++ [(105 : Int32)]) ++ [(110 : Int32)]) ++ [(101 : Int32)]) ++ [(32 : Int32)]) ++ [(Int32.ofNat (48 + n_ / 100 % 10))]) ++ [(Int32.ofNat (48 + n_ / 10 % 10))]).length), .ref e_]) 2 [.int la, .int (0 : Int32)] 435 at_432 rfl (W.1 54 rfl) (W.1 55 rfl) (W.1 2 rfl) (W.1 56 rfl) (by decide) (cDig W (t_ := 1) hla hn (by decide) rfl (by decide)) (by decide +kernel : parseMethodDescriptor "(II)C" = some ⟨[.int, .int], (some .char)⟩) rfl rfl rfl (nl rfl) (nl rfl) (nl rfl) (nl rfl) (nl rfl) (fun v465 vm465 h465 ⟨rv, Ed454⟩ c465 => ?_)
        subst rv
        have f466 := A404.ext Ed454
        have f467 := CHr.safe c465 A404.lt S404
        have L467 := Nat.lt_of_lt_of_le A404.lt c465.2.1
        refine Go.pushC ((((((((((mkV ((XT.ushr fa (24 : Int32)) &&& (3 : Int32)) (fa &&& (255 : Int32)) ((XT.ushr fa (8 : Int32)) &&& (255 : Int32)) ((XT.ushr fa (16 : Int32)) &&& (255 : Int32))) ++ [(44 : Int32)]) ++ [(32 : Int32)]) ++ [(108 : Int32)]) ++ [(105 : Int32)]) ++ [(110 : Int32)]) ++ [(101 : Int32)]) ++ [(32 : Int32)]) ++ [(Int32.ofNat (48 + n_ / 100 % 10))]) ++ [(Int32.ofNat (48 + n_ / 10 % 10))]) 25 436 at_435 rfl f466 rfl rfl (by first | omega | (simp only [List.length_append, List.length_cons, List.length_nil]; omega)) (narC (dg48 _)) f467 z10 (fun h468 K468 A468 S468 c468 => ?_)
        have E468 := Ext.kp1 (Ext.tr E404 Ed454) K468 e10
        refine Go.iinc (Int32.ofNat (((((((((((mkV ((XT.ushr fa (24 : Int32)) &&& (3 : Int32)) (fa &&& (255 : Int32)) ((XT.ushr fa (8 : Int32)) &&& (255 : Int32)) ((XT.ushr fa (16 : Int32)) &&& (255 : Int32))) ++ [(44 : Int32)]) ++ [(32 : Int32)]) ++ [(108 : Int32)]) ++ [(105 : Int32)]) ++ [(110 : Int32)]) ++ [(101 : Int32)]) ++ [(32 : Int32)]) ++ [(Int32.ofNat (48 + n_ / 100 % 10))]) ++ [(Int32.ofNat (48 + n_ / 10 % 10))]) ++ [(Int32.ofNat (48 + n_ / 1 % 10))]).length) #[.val (.int fa), .val (.int la), .val (.int ra), .val (.int ((XT.ushr fa (24 : Int32)) &&& (3 : Int32))), .val (.int ((XT.ushr ra (24 : Int32)) &&& (3 : Int32))), .val (.int (fa &&& (255 : Int32))), .val (.int ((XT.ushr fa (8 : Int32)) &&& (255 : Int32))), .val (.int ((XT.ushr fa (16 : Int32)) &&& (255 : Int32))), .val (.int (ra &&& (255 : Int32))), .val (.int ((XT.ushr ra (8 : Int32)) &&& (255 : Int32))), .val (.int ((XT.ushr ra (16 : Int32)) &&& (255 : Int32))), .val (.ref u1), .val (.ref u2), .val (.ref pp), .val (.ref e_), .val (.int (Int32.ofNat (((((((((((mkV ((XT.ushr fa (24 : Int32)) &&& (3 : Int32)) (fa &&& (255 : Int32)) ((XT.ushr fa (8 : Int32)) &&& (255 : Int32)) ((XT.ushr fa (16 : Int32)) &&& (255 : Int32))) ++ [(44 : Int32)]) ++ [(32 : Int32)]) ++ [(108 : Int32)]) ++ [(105 : Int32)]) ++ [(110 : Int32)]) ++ [(101 : Int32)]) ++ [(32 : Int32)]) ++ [(Int32.ofNat (48 + n_ / 100 % 10))]) ++ [(Int32.ofNat (48 + n_ / 10 % 10))]) ++ [(Int32.ofNat (48 + n_ / 1 % 10))]).length)), .val (.int (Int32.ofNat 3))] 439 at_436 rfl rfl incL rfl ?_
        refine Go.mono (k' := 28) (n' := 216) (nl rfl) (nl rfl) ?_
        exact J439 _ ([44, 32, 108, 105, 110, 101, 32] ++ dgL 3 n_) _ _ _ (Or.inr ⟨_, rfl, rfl⟩) (by simp [dgL, Nat.div_div_eq_div_mul]) (Or.inr ⟨q, 3, n_, hla, hn, hs, rfl⟩) E468 A468 S468
      · refine Go.iload 249 at_247 rfl rfl ?_
        refine Go.bipush (9) 251 at_249 rfl rfl ?_
        refine Go.if_icmple 268 254 at_251 (by decide) rfl rfl (fun q469 => ?_) (fun q469 => absurd q469 (by decide))
        refine Go.iload 270 at_268 rfl rfl ?_
        refine Go.bipush (8) 272 at_270 rfl rfl ?_
        refine Go.if_icmple 289 275 at_272 (by decide) rfl rfl (fun q470 => ?_) (fun q470 => absurd q470 (by decide))
        refine Go.iload 291 at_289 rfl rfl ?_
        refine Go.bipush (7) 293 at_291 rfl rfl ?_
        refine Go.if_icmple 310 296 at_293 (by decide) rfl rfl (fun q471 => ?_) (fun q471 => absurd q471 (by decide))
        refine Go.iload 312 at_310 rfl rfl ?_
        refine Go.bipush (6) 314 at_312 rfl rfl ?_
        refine Go.if_icmple 331 317 at_314 (by decide) rfl rfl (fun q472 => ?_) (fun q472 => absurd q472 (by decide))
        refine Go.iload 333 at_331 rfl rfl ?_
        refine Go.iconst (5) 334 at_333 rfl rfl ?_
        refine Go.if_icmple 350 337 at_334 (by decide) rfl rfl (fun q473 => ?_) (fun q473 => absurd q473 (by decide))
        refine Go.iload 352 at_350 rfl rfl ?_
        refine Go.iconst (4) 353 at_352 rfl rfl ?_
        refine Go.if_icmple 369 356 at_353 (by decide) rfl rfl (fun q474 => ?_) (fun q474 => absurd q474 (by decide))
        refine Go.iload 371 at_369 rfl rfl ?_
        refine Go.iconst (3) 372 at_371 rfl rfl ?_
        refine Go.if_icmple 388 375 at_372 (by decide) rfl rfl (fun q475 => absurd (by decide) q475) (fun q475 => ?_)
        refine Go.aload 377 at_375 rfl rfl rfl ?_
        refine Go.iload 379 at_377 rfl rfl ?_
        refine Go.iload_n 380 at_379 rfl rfl ?_
        refine Go.iconst (3) 381 at_380 rfl rfl ?_
        refine Go.invokestatic (rest := [.int (Int32.ofNat ((((((((mkV ((XT.ushr fa (24 : Int32)) &&& (3 : Int32)) (fa &&& (255 : Int32)) ((XT.ushr fa (8 : Int32)) &&& (255 : Int32)) ((XT.ushr fa (16 : Int32)) &&& (255 : Int32))) ++ [(44 : Int32)]) ++ [(32 : Int32)]) ++ [(108 : Int32)]) ++ [(105 : Int32)]) ++ [(110 : Int32)]) ++ [(101 : Int32)]) ++ [(32 : Int32)]).length), .ref e_]) 2 [.int la, .int (3 : Int32)] 384 at_381 rfl (W.1 54 rfl) (W.1 55 rfl) (W.1 2 rfl) (W.1 56 rfl) (by decide) (cDig W (t_ := 1000) hla hn (by decide) rfl (by decide)) (by decide +kernel : parseMethodDescriptor "(II)C" = some ⟨[.int, .int], (some .char)⟩) rfl rfl rfl (nl rfl) (nl rfl) (nl rfl) (nl rfl) (nl rfl) (fun v536 vm536 h536 ⟨rv, Ed525⟩ c536 => ?_)
        subst rv
        have f537 := A56.ext Ed525
        have f538 := CHr.safe (CHr.trans c57 c536) A56.lt S56
        have L538 := Nat.lt_of_lt_of_le A56.lt (CHr.trans c57 c536).2.1
        refine Go.pushC ((((((((mkV ((XT.ushr fa (24 : Int32)) &&& (3 : Int32)) (fa &&& (255 : Int32)) ((XT.ushr fa (8 : Int32)) &&& (255 : Int32)) ((XT.ushr fa (16 : Int32)) &&& (255 : Int32))) ++ [(44 : Int32)]) ++ [(32 : Int32)]) ++ [(108 : Int32)]) ++ [(105 : Int32)]) ++ [(110 : Int32)]) ++ [(101 : Int32)]) ++ [(32 : Int32)]) 25 385 at_384 rfl f537 rfl rfl (by first | omega | (simp only [List.length_append, List.length_cons, List.length_nil]; omega)) (narC (dg48 _)) f538 z10 (fun h539 K539 A539 S539 c539 => ?_)
        have E539 := Ext.kp1 (Ext.tr E56 Ed525) K539 e10
        refine Go.iinc (Int32.ofNat (((((((((mkV ((XT.ushr fa (24 : Int32)) &&& (3 : Int32)) (fa &&& (255 : Int32)) ((XT.ushr fa (8 : Int32)) &&& (255 : Int32)) ((XT.ushr fa (16 : Int32)) &&& (255 : Int32))) ++ [(44 : Int32)]) ++ [(32 : Int32)]) ++ [(108 : Int32)]) ++ [(105 : Int32)]) ++ [(110 : Int32)]) ++ [(101 : Int32)]) ++ [(32 : Int32)]) ++ [(Int32.ofNat (48 + n_ / 1000 % 10))]).length) #[.val (.int fa), .val (.int la), .val (.int ra), .val (.int ((XT.ushr fa (24 : Int32)) &&& (3 : Int32))), .val (.int ((XT.ushr ra (24 : Int32)) &&& (3 : Int32))), .val (.int (fa &&& (255 : Int32))), .val (.int ((XT.ushr fa (8 : Int32)) &&& (255 : Int32))), .val (.int ((XT.ushr fa (16 : Int32)) &&& (255 : Int32))), .val (.int (ra &&& (255 : Int32))), .val (.int ((XT.ushr ra (8 : Int32)) &&& (255 : Int32))), .val (.int ((XT.ushr ra (16 : Int32)) &&& (255 : Int32))), .val (.ref u1), .val (.ref u2), .val (.ref pp), .val (.ref e_), .val (.int (Int32.ofNat (((((((((mkV ((XT.ushr fa (24 : Int32)) &&& (3 : Int32)) (fa &&& (255 : Int32)) ((XT.ushr fa (8 : Int32)) &&& (255 : Int32)) ((XT.ushr fa (16 : Int32)) &&& (255 : Int32))) ++ [(44 : Int32)]) ++ [(32 : Int32)]) ++ [(108 : Int32)]) ++ [(105 : Int32)]) ++ [(110 : Int32)]) ++ [(101 : Int32)]) ++ [(32 : Int32)]) ++ [(Int32.ofNat (48 + n_ / 1000 % 10))]).length)), .val (.int (Int32.ofNat 4))] 388 at_385 rfl rfl incL rfl ?_
        refine Go.iload 390 at_388 rfl rfl ?_
        refine Go.iconst (2) 391 at_390 rfl rfl ?_
        refine Go.if_icmple 407 394 at_391 (by decide) rfl rfl (fun q540 => absurd (by decide) q540) (fun q540 => ?_)
        refine Go.aload 396 at_394 rfl rfl rfl ?_
        refine Go.iload 398 at_396 rfl rfl ?_
        refine Go.iload_n 399 at_398 rfl rfl ?_
        refine Go.iconst (2) 400 at_399 rfl rfl ?_
        refine Go.invokestatic (rest := [.int (Int32.ofNat (((((((((mkV ((XT.ushr fa (24 : Int32)) &&& (3 : Int32)) (fa &&& (255 : Int32)) ((XT.ushr fa (8 : Int32)) &&& (255 : Int32)) ((XT.ushr fa (16 : Int32)) &&& (255 : Int32))) ++ [(44 : Int32)]) ++ [(32 : Int32)]) ++ [(108 : Int32)]) ++ [(105 : Int32)]) ++ [(110 : Int32)]) ++ [(101 : Int32)]) ++ [(32 : Int32)]) ++ [(Int32.ofNat (48 + n_ / 1000 % 10))]).length), .ref e_]) 2 [.int la, .int (2 : Int32)] 403 at_400 rfl (W.1 54 rfl) (W.1 55 rfl) (W.1 2 rfl) (W.1 56 rfl) (by decide) (cDig W (t_ := 100) hla hn (by decide) rfl (by decide)) (by decide +kernel : parseMethodDescriptor "(II)C" = some ⟨[.int, .int], (some .char)⟩) rfl rfl rfl (nl rfl) (nl rfl) (nl rfl) (nl rfl) (nl rfl) (fun v601 vm601 h601 ⟨rv, Ed590⟩ c601 => ?_)
        subst rv
        have f602 := A539.ext Ed590
        have f603 := CHr.safe c601 A539.lt S539
        have L603 := Nat.lt_of_lt_of_le A539.lt c601.2.1
        refine Go.pushC (((((((((mkV ((XT.ushr fa (24 : Int32)) &&& (3 : Int32)) (fa &&& (255 : Int32)) ((XT.ushr fa (8 : Int32)) &&& (255 : Int32)) ((XT.ushr fa (16 : Int32)) &&& (255 : Int32))) ++ [(44 : Int32)]) ++ [(32 : Int32)]) ++ [(108 : Int32)]) ++ [(105 : Int32)]) ++ [(110 : Int32)]) ++ [(101 : Int32)]) ++ [(32 : Int32)]) ++ [(Int32.ofNat (48 + n_ / 1000 % 10))]) 25 404 at_403 rfl f602 rfl rfl (by first | omega | (simp only [List.length_append, List.length_cons, List.length_nil]; omega)) (narC (dg48 _)) f603 z10 (fun h604 K604 A604 S604 c604 => ?_)
        have E604 := Ext.kp1 (Ext.tr E539 Ed590) K604 e10
        refine Go.iinc (Int32.ofNat ((((((((((mkV ((XT.ushr fa (24 : Int32)) &&& (3 : Int32)) (fa &&& (255 : Int32)) ((XT.ushr fa (8 : Int32)) &&& (255 : Int32)) ((XT.ushr fa (16 : Int32)) &&& (255 : Int32))) ++ [(44 : Int32)]) ++ [(32 : Int32)]) ++ [(108 : Int32)]) ++ [(105 : Int32)]) ++ [(110 : Int32)]) ++ [(101 : Int32)]) ++ [(32 : Int32)]) ++ [(Int32.ofNat (48 + n_ / 1000 % 10))]) ++ [(Int32.ofNat (48 + n_ / 100 % 10))]).length) #[.val (.int fa), .val (.int la), .val (.int ra), .val (.int ((XT.ushr fa (24 : Int32)) &&& (3 : Int32))), .val (.int ((XT.ushr ra (24 : Int32)) &&& (3 : Int32))), .val (.int (fa &&& (255 : Int32))), .val (.int ((XT.ushr fa (8 : Int32)) &&& (255 : Int32))), .val (.int ((XT.ushr fa (16 : Int32)) &&& (255 : Int32))), .val (.int (ra &&& (255 : Int32))), .val (.int ((XT.ushr ra (8 : Int32)) &&& (255 : Int32))), .val (.int ((XT.ushr ra (16 : Int32)) &&& (255 : Int32))), .val (.ref u1), .val (.ref u2), .val (.ref pp), .val (.ref e_), .val (.int (Int32.ofNat ((((((((((mkV ((XT.ushr fa (24 : Int32)) &&& (3 : Int32)) (fa &&& (255 : Int32)) ((XT.ushr fa (8 : Int32)) &&& (255 : Int32)) ((XT.ushr fa (16 : Int32)) &&& (255 : Int32))) ++ [(44 : Int32)]) ++ [(32 : Int32)]) ++ [(108 : Int32)]) ++ [(105 : Int32)]) ++ [(110 : Int32)]) ++ [(101 : Int32)]) ++ [(32 : Int32)]) ++ [(Int32.ofNat (48 + n_ / 1000 % 10))]) ++ [(Int32.ofNat (48 + n_ / 100 % 10))]).length)), .val (.int (Int32.ofNat 4))] 407 at_404 rfl rfl incL rfl ?_
        refine Go.iload 409 at_407 rfl rfl ?_
        refine Go.iconst (1) 410 at_409 rfl rfl ?_
        refine Go.if_icmple 426 413 at_410 (by decide) rfl rfl (fun q605 => absurd (by decide) q605) (fun q605 => ?_)
        refine Go.aload 415 at_413 rfl rfl rfl ?_
        refine Go.iload 417 at_415 rfl rfl ?_
        refine Go.iload_n 418 at_417 rfl rfl ?_
        refine Go.iconst (1) 419 at_418 rfl rfl ?_
        refine Go.invokestatic (rest := [.int (Int32.ofNat ((((((((((mkV ((XT.ushr fa (24 : Int32)) &&& (3 : Int32)) (fa &&& (255 : Int32)) ((XT.ushr fa (8 : Int32)) &&& (255 : Int32)) ((XT.ushr fa (16 : Int32)) &&& (255 : Int32))) ++ [(44 : Int32)]) ++ [(32 : Int32)]) ++ [(108 : Int32)]) ++ [(105 : Int32)]) ++ [(110 : Int32)]) ++ [(101 : Int32)]) ++ [(32 : Int32)]) ++ [(Int32.ofNat (48 + n_ / 1000 % 10))]) ++ [(Int32.ofNat (48 + n_ / 100 % 10))]).length), .ref e_]) 2 [.int la, .int (1 : Int32)] 422 at_419 rfl (W.1 54 rfl) (W.1 55 rfl) (W.1 2 rfl) (W.1 56 rfl) (by decide) (cDig W (t_ := 10) hla hn (by decide) rfl (by decide)) (by decide +kernel : parseMethodDescriptor "(II)C" = some ⟨[.int, .int], (some .char)⟩) rfl rfl rfl (nl rfl) (nl rfl) (nl rfl) (nl rfl) (nl rfl) (fun v666 vm666 h666 ⟨rv, Ed655⟩ c666 => ?_)
        subst rv
        have f667 := A604.ext Ed655
        have f668 := CHr.safe c666 A604.lt S604
        have L668 := Nat.lt_of_lt_of_le A604.lt c666.2.1
        refine Go.pushC ((((((((((mkV ((XT.ushr fa (24 : Int32)) &&& (3 : Int32)) (fa &&& (255 : Int32)) ((XT.ushr fa (8 : Int32)) &&& (255 : Int32)) ((XT.ushr fa (16 : Int32)) &&& (255 : Int32))) ++ [(44 : Int32)]) ++ [(32 : Int32)]) ++ [(108 : Int32)]) ++ [(105 : Int32)]) ++ [(110 : Int32)]) ++ [(101 : Int32)]) ++ [(32 : Int32)]) ++ [(Int32.ofNat (48 + n_ / 1000 % 10))]) ++ [(Int32.ofNat (48 + n_ / 100 % 10))]) 25 423 at_422 rfl f667 rfl rfl (by first | omega | (simp only [List.length_append, List.length_cons, List.length_nil]; omega)) (narC (dg48 _)) f668 z10 (fun h669 K669 A669 S669 c669 => ?_)
        have E669 := Ext.kp1 (Ext.tr E604 Ed655) K669 e10
        refine Go.iinc (Int32.ofNat (((((((((((mkV ((XT.ushr fa (24 : Int32)) &&& (3 : Int32)) (fa &&& (255 : Int32)) ((XT.ushr fa (8 : Int32)) &&& (255 : Int32)) ((XT.ushr fa (16 : Int32)) &&& (255 : Int32))) ++ [(44 : Int32)]) ++ [(32 : Int32)]) ++ [(108 : Int32)]) ++ [(105 : Int32)]) ++ [(110 : Int32)]) ++ [(101 : Int32)]) ++ [(32 : Int32)]) ++ [(Int32.ofNat (48 + n_ / 1000 % 10))]) ++ [(Int32.ofNat (48 + n_ / 100 % 10))]) ++ [(Int32.ofNat (48 + n_ / 10 % 10))]).length) #[.val (.int fa), .val (.int la), .val (.int ra), .val (.int ((XT.ushr fa (24 : Int32)) &&& (3 : Int32))), .val (.int ((XT.ushr ra (24 : Int32)) &&& (3 : Int32))), .val (.int (fa &&& (255 : Int32))), .val (.int ((XT.ushr fa (8 : Int32)) &&& (255 : Int32))), .val (.int ((XT.ushr fa (16 : Int32)) &&& (255 : Int32))), .val (.int (ra &&& (255 : Int32))), .val (.int ((XT.ushr ra (8 : Int32)) &&& (255 : Int32))), .val (.int ((XT.ushr ra (16 : Int32)) &&& (255 : Int32))), .val (.ref u1), .val (.ref u2), .val (.ref pp), .val (.ref e_), .val (.int (Int32.ofNat (((((((((((mkV ((XT.ushr fa (24 : Int32)) &&& (3 : Int32)) (fa &&& (255 : Int32)) ((XT.ushr fa (8 : Int32)) &&& (255 : Int32)) ((XT.ushr fa (16 : Int32)) &&& (255 : Int32))) ++ [(44 : Int32)]) ++ [(32 : Int32)]) ++ [(108 : Int32)]) ++ [(105 : Int32)]) ++ [(110 : Int32)]) ++ [(101 : Int32)]) ++ [(32 : Int32)]) ++ [(Int32.ofNat (48 + n_ / 1000 % 10))]) ++ [(Int32.ofNat (48 + n_ / 100 % 10))]) ++ [(Int32.ofNat (48 + n_ / 10 % 10))]).length)), .val (.int (Int32.ofNat 4))] 426 at_423 rfl rfl incL rfl ?_
        refine Go.aload 428 at_426 rfl rfl rfl ?_
        refine Go.iload 430 at_428 rfl rfl ?_
        refine Go.iload_n 431 at_430 rfl rfl ?_
        refine Go.iconst (0) 432 at_431 rfl rfl ?_
        refine Go.invokestatic (rest := [.int (Int32.ofNat (((((((((((mkV ((XT.ushr fa (24 : Int32)) &&& (3 : Int32)) (fa &&& (255 : Int32)) ((XT.ushr fa (8 : Int32)) &&& (255 : Int32)) ((XT.ushr fa (16 : Int32)) &&& (255 : Int32))) ++ [(44 : Int32)]) ++ [(32 : Int32)]) ++ [(108 : Int32)]) ++ [(105 : Int32)]) ++ [(110 : Int32)]) ++ [(101 : Int32)]) ++ [(32 : Int32)]) ++ [(Int32.ofNat (48 + n_ / 1000 % 10))]) ++ [(Int32.ofNat (48 + n_ / 100 % 10))]) ++ [(Int32.ofNat (48 + n_ / 10 % 10))]).length), .ref e_]) 2 [.int la, .int (0 : Int32)] 435 at_432 rfl (W.1 54 rfl) (W.1 55 rfl) (W.1 2 rfl) (W.1 56 rfl) (by decide) (cDig W (t_ := 1) hla hn (by decide) rfl (by decide)) (by decide +kernel : parseMethodDescriptor "(II)C" = some ⟨[.int, .int], (some .char)⟩) rfl rfl rfl (nl rfl) (nl rfl) (nl rfl) (nl rfl) (nl rfl) (fun v730 vm730 h730 ⟨rv, Ed719⟩ c730 => ?_)
        subst rv
        have f731 := A669.ext Ed719
        have f732 := CHr.safe c730 A669.lt S669
        have L732 := Nat.lt_of_lt_of_le A669.lt c730.2.1
        refine Go.pushC (((((((((((mkV ((XT.ushr fa (24 : Int32)) &&& (3 : Int32)) (fa &&& (255 : Int32)) ((XT.ushr fa (8 : Int32)) &&& (255 : Int32)) ((XT.ushr fa (16 : Int32)) &&& (255 : Int32))) ++ [(44 : Int32)]) ++ [(32 : Int32)]) ++ [(108 : Int32)]) ++ [(105 : Int32)]) ++ [(110 : Int32)]) ++ [(101 : Int32)]) ++ [(32 : Int32)]) ++ [(Int32.ofNat (48 + n_ / 1000 % 10))]) ++ [(Int32.ofNat (48 + n_ / 100 % 10))]) ++ [(Int32.ofNat (48 + n_ / 10 % 10))]) 25 436 at_435 rfl f731 rfl rfl (by first | omega | (simp only [List.length_append, List.length_cons, List.length_nil]; omega)) (narC (dg48 _)) f732 z10 (fun h733 K733 A733 S733 c733 => ?_)
        have E733 := Ext.kp1 (Ext.tr E669 Ed719) K733 e10
        refine Go.iinc (Int32.ofNat ((((((((((((mkV ((XT.ushr fa (24 : Int32)) &&& (3 : Int32)) (fa &&& (255 : Int32)) ((XT.ushr fa (8 : Int32)) &&& (255 : Int32)) ((XT.ushr fa (16 : Int32)) &&& (255 : Int32))) ++ [(44 : Int32)]) ++ [(32 : Int32)]) ++ [(108 : Int32)]) ++ [(105 : Int32)]) ++ [(110 : Int32)]) ++ [(101 : Int32)]) ++ [(32 : Int32)]) ++ [(Int32.ofNat (48 + n_ / 1000 % 10))]) ++ [(Int32.ofNat (48 + n_ / 100 % 10))]) ++ [(Int32.ofNat (48 + n_ / 10 % 10))]) ++ [(Int32.ofNat (48 + n_ / 1 % 10))]).length) #[.val (.int fa), .val (.int la), .val (.int ra), .val (.int ((XT.ushr fa (24 : Int32)) &&& (3 : Int32))), .val (.int ((XT.ushr ra (24 : Int32)) &&& (3 : Int32))), .val (.int (fa &&& (255 : Int32))), .val (.int ((XT.ushr fa (8 : Int32)) &&& (255 : Int32))), .val (.int ((XT.ushr fa (16 : Int32)) &&& (255 : Int32))), .val (.int (ra &&& (255 : Int32))), .val (.int ((XT.ushr ra (8 : Int32)) &&& (255 : Int32))), .val (.int ((XT.ushr ra (16 : Int32)) &&& (255 : Int32))), .val (.ref u1), .val (.ref u2), .val (.ref pp), .val (.ref e_), .val (.int (Int32.ofNat ((((((((((((mkV ((XT.ushr fa (24 : Int32)) &&& (3 : Int32)) (fa &&& (255 : Int32)) ((XT.ushr fa (8 : Int32)) &&& (255 : Int32)) ((XT.ushr fa (16 : Int32)) &&& (255 : Int32))) ++ [(44 : Int32)]) ++ [(32 : Int32)]) ++ [(108 : Int32)]) ++ [(105 : Int32)]) ++ [(110 : Int32)]) ++ [(101 : Int32)]) ++ [(32 : Int32)]) ++ [(Int32.ofNat (48 + n_ / 1000 % 10))]) ++ [(Int32.ofNat (48 + n_ / 100 % 10))]) ++ [(Int32.ofNat (48 + n_ / 10 % 10))]) ++ [(Int32.ofNat (48 + n_ / 1 % 10))]).length)), .val (.int (Int32.ofNat 4))] 439 at_436 rfl rfl incL rfl ?_
        refine Go.mono (k' := 28) (n' := 216) (nl rfl) (nl rfl) ?_
        exact J439 _ ([44, 32, 108, 105, 110, 101, 32] ++ dgL 4 n_) _ _ _ (Or.inr ⟨_, rfl, rfl⟩) (by simp [dgL, Nat.div_div_eq_div_mul]) (Or.inr ⟨q, 4, n_, hla, hn, hs, rfl⟩) E733 A733 S733
      · refine Go.iload 249 at_247 rfl rfl ?_
        refine Go.bipush (9) 251 at_249 rfl rfl ?_
        refine Go.if_icmple 268 254 at_251 (by decide) rfl rfl (fun q734 => ?_) (fun q734 => absurd q734 (by decide))
        refine Go.iload 270 at_268 rfl rfl ?_
        refine Go.bipush (8) 272 at_270 rfl rfl ?_
        refine Go.if_icmple 289 275 at_272 (by decide) rfl rfl (fun q735 => ?_) (fun q735 => absurd q735 (by decide))
        refine Go.iload 291 at_289 rfl rfl ?_
        refine Go.bipush (7) 293 at_291 rfl rfl ?_
        refine Go.if_icmple 310 296 at_293 (by decide) rfl rfl (fun q736 => ?_) (fun q736 => absurd q736 (by decide))
        refine Go.iload 312 at_310 rfl rfl ?_
        refine Go.bipush (6) 314 at_312 rfl rfl ?_
        refine Go.if_icmple 331 317 at_314 (by decide) rfl rfl (fun q737 => ?_) (fun q737 => absurd q737 (by decide))
        refine Go.iload 333 at_331 rfl rfl ?_
        refine Go.iconst (5) 334 at_333 rfl rfl ?_
        refine Go.if_icmple 350 337 at_334 (by decide) rfl rfl (fun q738 => ?_) (fun q738 => absurd q738 (by decide))
        refine Go.iload 352 at_350 rfl rfl ?_
        refine Go.iconst (4) 353 at_352 rfl rfl ?_
        refine Go.if_icmple 369 356 at_353 (by decide) rfl rfl (fun q739 => absurd (by decide) q739) (fun q739 => ?_)
        refine Go.aload 358 at_356 rfl rfl rfl ?_
        refine Go.iload 360 at_358 rfl rfl ?_
        refine Go.iload_n 361 at_360 rfl rfl ?_
        refine Go.iconst (4) 362 at_361 rfl rfl ?_
        refine Go.invokestatic (rest := [.int (Int32.ofNat ((((((((mkV ((XT.ushr fa (24 : Int32)) &&& (3 : Int32)) (fa &&& (255 : Int32)) ((XT.ushr fa (8 : Int32)) &&& (255 : Int32)) ((XT.ushr fa (16 : Int32)) &&& (255 : Int32))) ++ [(44 : Int32)]) ++ [(32 : Int32)]) ++ [(108 : Int32)]) ++ [(105 : Int32)]) ++ [(110 : Int32)]) ++ [(101 : Int32)]) ++ [(32 : Int32)]).length), .ref e_]) 2 [.int la, .int (4 : Int32)] 365 at_362 rfl (W.1 54 rfl) (W.1 55 rfl) (W.1 2 rfl) (W.1 56 rfl) (by decide) (cDig W (t_ := 10000) hla hn (by decide) rfl (by decide)) (by decide +kernel : parseMethodDescriptor "(II)C" = some ⟨[.int, .int], (some .char)⟩) rfl rfl rfl (nl rfl) (nl rfl) (nl rfl) (nl rfl) (nl rfl) (fun v800 vm800 h800 ⟨rv, Ed789⟩ c800 => ?_)
        subst rv
        have f801 := A56.ext Ed789
        have f802 := CHr.safe (CHr.trans c57 c800) A56.lt S56
        have L802 := Nat.lt_of_lt_of_le A56.lt (CHr.trans c57 c800).2.1
        refine Go.pushC ((((((((mkV ((XT.ushr fa (24 : Int32)) &&& (3 : Int32)) (fa &&& (255 : Int32)) ((XT.ushr fa (8 : Int32)) &&& (255 : Int32)) ((XT.ushr fa (16 : Int32)) &&& (255 : Int32))) ++ [(44 : Int32)]) ++ [(32 : Int32)]) ++ [(108 : Int32)]) ++ [(105 : Int32)]) ++ [(110 : Int32)]) ++ [(101 : Int32)]) ++ [(32 : Int32)]) 25 366 at_365 rfl f801 rfl rfl (by first | omega | (simp only [List.length_append, List.length_cons, List.length_nil]; omega)) (narC (dg48 _)) f802 z10 (fun h803 K803 A803 S803 c803 => ?_)
        have E803 := Ext.kp1 (Ext.tr E56 Ed789) K803 e10
        refine Go.iinc (Int32.ofNat (((((((((mkV ((XT.ushr fa (24 : Int32)) &&& (3 : Int32)) (fa &&& (255 : Int32)) ((XT.ushr fa (8 : Int32)) &&& (255 : Int32)) ((XT.ushr fa (16 : Int32)) &&& (255 : Int32))) ++ [(44 : Int32)]) ++ [(32 : Int32)]) ++ [(108 : Int32)]) ++ [(105 : Int32)]) ++ [(110 : Int32)]) ++ [(101 : Int32)]) ++ [(32 : Int32)]) ++ [(Int32.ofNat (48 + n_ / 10000 % 10))]).length) #[.val (.int fa), .val (.int la), .val (.int ra), .val (.int ((XT.ushr fa (24 : Int32)) &&& (3 : Int32))), .val (.int ((XT.ushr ra (24 : Int32)) &&& (3 : Int32))), .val (.int (fa &&& (255 : Int32))), .val (.int ((XT.ushr fa (8 : Int32)) &&& (255 : Int32))), .val (.int ((XT.ushr fa (16 : Int32)) &&& (255 : Int32))), .val (.int (ra &&& (255 : Int32))), .val (.int ((XT.ushr ra (8 : Int32)) &&& (255 : Int32))), .val (.int ((XT.ushr ra (16 : Int32)) &&& (255 : Int32))), .val (.ref u1), .val (.ref u2), .val (.ref pp), .val (.ref e_), .val (.int (Int32.ofNat (((((((((mkV ((XT.ushr fa (24 : Int32)) &&& (3 : Int32)) (fa &&& (255 : Int32)) ((XT.ushr fa (8 : Int32)) &&& (255 : Int32)) ((XT.ushr fa (16 : Int32)) &&& (255 : Int32))) ++ [(44 : Int32)]) ++ [(32 : Int32)]) ++ [(108 : Int32)]) ++ [(105 : Int32)]) ++ [(110 : Int32)]) ++ [(101 : Int32)]) ++ [(32 : Int32)]) ++ [(Int32.ofNat (48 + n_ / 10000 % 10))]).length)), .val (.int (Int32.ofNat 5))] 369 at_366 rfl rfl incL rfl ?_
        refine Go.iload 371 at_369 rfl rfl ?_
        refine Go.iconst (3) 372 at_371 rfl rfl ?_
        refine Go.if_icmple 388 375 at_372 (by decide) rfl rfl (fun q804 => absurd (by decide) q804) (fun q804 => ?_)
        refine Go.aload 377 at_375 rfl rfl rfl ?_
        refine Go.iload 379 at_377 rfl rfl ?_
        refine Go.iload_n 380 at_379 rfl rfl ?_
        refine Go.iconst (3) 381 at_380 rfl rfl ?_
        refine Go.invokestatic (rest := [.int (Int32.ofNat (((((((((mkV ((XT.ushr fa (24 : Int32)) &&& (3 : Int32)) (fa &&& (255 : Int32)) ((XT.ushr fa (8 : Int32)) &&& (255 : Int32)) ((XT.ushr fa (16 : Int32)) &&& (255 : Int32))) ++ [(44 : Int32)]) ++ [(32 : Int32)]) ++ [(108 : Int32)]) ++ [(105 : Int32)]) ++ [(110 : Int32)]) ++ [(101 : Int32)]) ++ [(32 : Int32)]) ++ [(Int32.ofNat (48 + n_ / 10000 % 10))]).length), .ref e_]) 2 [.int la, .int (3 : Int32)] 384 at_381 rfl (W.1 54 rfl) (W.1 55 rfl) (W.1 2 rfl) (W.1 56 rfl) (by decide) (cDig W (t_ := 1000) hla hn (by decide) rfl (by decide)) (by decide +kernel : parseMethodDescriptor "(II)C" = some ⟨[.int, .int], (some .char)⟩) rfl rfl rfl (nl rfl) (nl rfl) (nl rfl) (nl rfl) (nl rfl) (fun v865 vm865 h865 ⟨rv, Ed854⟩ c865 => ?_)
        subst rv
        have f866 := A803.ext Ed854
        have f867 := CHr.safe c865 A803.lt S803
        have L867 := Nat.lt_of_lt_of_le A803.lt c865.2.1
        refine Go.pushC (((((((((mkV ((XT.ushr fa (24 : Int32)) &&& (3 : Int32)) (fa &&& (255 : Int32)) ((XT.ushr fa (8 : Int32)) &&& (255 : Int32)) ((XT.ushr fa (16 : Int32)) &&& (255 : Int32))) ++ [(44 : Int32)]) ++ [(32 : Int32)]) ++ [(108 : Int32)]) ++ [(105 : Int32)]) ++ [(110 : Int32)]) ++ [(101 : Int32)]) ++ [(32 : Int32)]) ++ [(Int32.ofNat (48 + n_ / 10000 % 10))]) 25 385 at_384 rfl f866 rfl rfl (by first | omega | (simp only [List.length_append, List.length_cons, List.length_nil]; omega)) (narC (dg48 _)) f867 z10 (fun h868 K868 A868 S868 c868 => ?_)
        have E868 := Ext.kp1 (Ext.tr E803 Ed854) K868 e10
        refine Go.iinc (Int32.ofNat ((((((((((mkV ((XT.ushr fa (24 : Int32)) &&& (3 : Int32)) (fa &&& (255 : Int32)) ((XT.ushr fa (8 : Int32)) &&& (255 : Int32)) ((XT.ushr fa (16 : Int32)) &&& (255 : Int32))) ++ [(44 : Int32)]) ++ [(32 : Int32)]) ++ [(108 : Int32)]) ++ [(105 : Int32)]) ++ [(110 : Int32)]) ++ [(101 : Int32)]) ++ [(32 : Int32)]) ++ [(Int32.ofNat (48 + n_ / 10000 % 10))]) ++ [(Int32.ofNat (48 + n_ / 1000 % 10))]).length) #[.val (.int fa), .val (.int la), .val (.int ra), .val (.int ((XT.ushr fa (24 : Int32)) &&& (3 : Int32))), .val (.int ((XT.ushr ra (24 : Int32)) &&& (3 : Int32))), .val (.int (fa &&& (255 : Int32))), .val (.int ((XT.ushr fa (8 : Int32)) &&& (255 : Int32))), .val (.int ((XT.ushr fa (16 : Int32)) &&& (255 : Int32))), .val (.int (ra &&& (255 : Int32))), .val (.int ((XT.ushr ra (8 : Int32)) &&& (255 : Int32))), .val (.int ((XT.ushr ra (16 : Int32)) &&& (255 : Int32))), .val (.ref u1), .val (.ref u2), .val (.ref pp), .val (.ref e_), .val (.int (Int32.ofNat ((((((((((mkV ((XT.ushr fa (24 : Int32)) &&& (3 : Int32)) (fa &&& (255 : Int32)) ((XT.ushr fa (8 : Int32)) &&& (255 : Int32)) ((XT.ushr fa (16 : Int32)) &&& (255 : Int32))) ++ [(44 : Int32)]) ++ [(32 : Int32)]) ++ [(108 : Int32)]) ++ [(105 : Int32)]) ++ [(110 : Int32)]) ++ [(101 : Int32)]) ++ [(32 : Int32)]) ++ [(Int32.ofNat (48 + n_ / 10000 % 10))]) ++ [(Int32.ofNat (48 + n_ / 1000 % 10))]).length)), .val (.int (Int32.ofNat 5))] 388 at_385 rfl rfl incL rfl ?_
        refine Go.iload 390 at_388 rfl rfl ?_
        refine Go.iconst (2) 391 at_390 rfl rfl ?_
        refine Go.if_icmple 407 394 at_391 (by decide) rfl rfl (fun q869 => absurd (by decide) q869) (fun q869 => ?_)
        refine Go.aload 396 at_394 rfl rfl rfl ?_
        refine Go.iload 398 at_396 rfl rfl ?_
        refine Go.iload_n 399 at_398 rfl rfl ?_
        refine Go.iconst (2) 400 at_399 rfl rfl ?_
        refine Go.invokestatic (rest := [.int (Int32.ofNat ((((((((((mkV ((XT.ushr fa (24 : Int32)) &&& (3 : Int32)) (fa &&& (255 : Int32)) ((XT.ushr fa (8 : Int32)) &&& (255 : Int32)) ((XT.ushr fa (16 : Int32)) &&& (255 : Int32))) ++ [(44 : Int32)]) ++ [(32 : Int32)]) ++ [(108 : Int32)]) ++ [(105 : Int32)]) ++ [(110 : Int32)]) ++ [(101 : Int32)]) ++ [(32 : Int32)]) ++ [(Int32.ofNat (48 + n_ / 10000 % 10))]) ++ [(Int32.ofNat (48 + n_ / 1000 % 10))]).length), .ref e_]) 2 [.int la, .int (2 : Int32)] 403 at_400 rfl (W.1 54 rfl) (W.1 55 rfl) (W.1 2 rfl) (W.1 56 rfl) (by decide) (cDig W (t_ := 100) hla hn (by decide) rfl (by decide)) (by decide +kernel : parseMethodDescriptor "(II)C" = some ⟨[.int, .int], (some .char)⟩) rfl rfl rfl (nl rfl) (nl rfl) (nl rfl) (nl rfl) (nl rfl) (fun v930 vm930 h930 ⟨rv, Ed919⟩ c930 => ?_)
        subst rv
        have f931 := A868.ext Ed919
        have f932 := CHr.safe c930 A868.lt S868
        have L932 := Nat.lt_of_lt_of_le A868.lt c930.2.1
        refine Go.pushC ((((((((((mkV ((XT.ushr fa (24 : Int32)) &&& (3 : Int32)) (fa &&& (255 : Int32)) ((XT.ushr fa (8 : Int32)) &&& (255 : Int32)) ((XT.ushr fa (16 : Int32)) &&& (255 : Int32))) ++ [(44 : Int32)]) ++ [(32 : Int32)]) ++ [(108 : Int32)]) ++ [(105 : Int32)]) ++ [(110 : Int32)]) ++ [(101 : Int32)]) ++ [(32 : Int32)]) ++ [(Int32.ofNat (48 + n_ / 10000 % 10))]) ++ [(Int32.ofNat (48 + n_ / 1000 % 10))]) 25 404 at_403 rfl f931 rfl rfl (by first | omega | (simp only [List.length_append, List.length_cons, List.length_nil]; omega)) (narC (dg48 _)) f932 z10 (fun h933 K933 A933 S933 c933 => ?_)
        have E933 := Ext.kp1 (Ext.tr E868 Ed919) K933 e10
        refine Go.iinc (Int32.ofNat (((((((((((mkV ((XT.ushr fa (24 : Int32)) &&& (3 : Int32)) (fa &&& (255 : Int32)) ((XT.ushr fa (8 : Int32)) &&& (255 : Int32)) ((XT.ushr fa (16 : Int32)) &&& (255 : Int32))) ++ [(44 : Int32)]) ++ [(32 : Int32)]) ++ [(108 : Int32)]) ++ [(105 : Int32)]) ++ [(110 : Int32)]) ++ [(101 : Int32)]) ++ [(32 : Int32)]) ++ [(Int32.ofNat (48 + n_ / 10000 % 10))]) ++ [(Int32.ofNat (48 + n_ / 1000 % 10))]) ++ [(Int32.ofNat (48 + n_ / 100 % 10))]).length) #[.val (.int fa), .val (.int la), .val (.int ra), .val (.int ((XT.ushr fa (24 : Int32)) &&& (3 : Int32))), .val (.int ((XT.ushr ra (24 : Int32)) &&& (3 : Int32))), .val (.int (fa &&& (255 : Int32))), .val (.int ((XT.ushr fa (8 : Int32)) &&& (255 : Int32))), .val (.int ((XT.ushr fa (16 : Int32)) &&& (255 : Int32))), .val (.int (ra &&& (255 : Int32))), .val (.int ((XT.ushr ra (8 : Int32)) &&& (255 : Int32))), .val (.int ((XT.ushr ra (16 : Int32)) &&& (255 : Int32))), .val (.ref u1), .val (.ref u2), .val (.ref pp), .val (.ref e_), .val (.int (Int32.ofNat (((((((((((mkV ((XT.ushr fa (24 : Int32)) &&& (3 : Int32)) (fa &&& (255 : Int32)) ((XT.ushr fa (8 : Int32)) &&& (255 : Int32)) ((XT.ushr fa (16 : Int32)) &&& (255 : Int32))) ++ [(44 : Int32)]) ++ [(32 : Int32)]) ++ [(108 : Int32)]) ++ [(105 : Int32)]) ++ [(110 : Int32)]) ++ [(101 : Int32)]) ++ [(32 : Int32)]) ++ [(Int32.ofNat (48 + n_ / 10000 % 10))]) ++ [(Int32.ofNat (48 + n_ / 1000 % 10))]) ++ [(Int32.ofNat (48 + n_ / 100 % 10))]).length)), .val (.int (Int32.ofNat 5))] 407 at_404 rfl rfl incL rfl ?_
        refine Go.iload 409 at_407 rfl rfl ?_
        refine Go.iconst (1) 410 at_409 rfl rfl ?_
        refine Go.if_icmple 426 413 at_410 (by decide) rfl rfl (fun q934 => absurd (by decide) q934) (fun q934 => ?_)
        refine Go.aload 415 at_413 rfl rfl rfl ?_
        refine Go.iload 417 at_415 rfl rfl ?_
        refine Go.iload_n 418 at_417 rfl rfl ?_
        refine Go.iconst (1) 419 at_418 rfl rfl ?_
        refine Go.invokestatic (rest := [.int (Int32.ofNat (((((((((((mkV ((XT.ushr fa (24 : Int32)) &&& (3 : Int32)) (fa &&& (255 : Int32)) ((XT.ushr fa (8 : Int32)) &&& (255 : Int32)) ((XT.ushr fa (16 : Int32)) &&& (255 : Int32))) ++ [(44 : Int32)]) ++ [(32 : Int32)]) ++ [(108 : Int32)]) ++ [(105 : Int32)]) ++ [(110 : Int32)]) ++ [(101 : Int32)]) ++ [(32 : Int32)]) ++ [(Int32.ofNat (48 + n_ / 10000 % 10))]) ++ [(Int32.ofNat (48 + n_ / 1000 % 10))]) ++ [(Int32.ofNat (48 + n_ / 100 % 10))]).length), .ref e_]) 2 [.int la, .int (1 : Int32)] 422 at_419 rfl (W.1 54 rfl) (W.1 55 rfl) (W.1 2 rfl) (W.1 56 rfl) (by decide) (cDig W (t_ := 10) hla hn (by decide) rfl (by decide)) (by decide +kernel : parseMethodDescriptor "(II)C" = some ⟨[.int, .int], (some .char)⟩) rfl rfl rfl (nl rfl) (nl rfl) (nl rfl) (nl rfl) (nl rfl) (fun v995 vm995 h995 ⟨rv, Ed984⟩ c995 => ?_)
        subst rv
        have f996 := A933.ext Ed984
        have f997 := CHr.safe c995 A933.lt S933
        have L997 := Nat.lt_of_lt_of_le A933.lt c995.2.1
        refine Go.pushC (((((((((((mkV ((XT.ushr fa (24 : Int32)) &&& (3 : Int32)) (fa &&& (255 : Int32)) ((XT.ushr fa (8 : Int32)) &&& (255 : Int32)) ((XT.ushr fa (16 : Int32)) &&& (255 : Int32))) ++ [(44 : Int32)]) ++ [(32 : Int32)]) ++ [(108 : Int32)]) ++ [(105 : Int32)]) ++ [(110 : Int32)]) ++ [(101 : Int32)]) ++ [(32 : Int32)]) ++ [(Int32.ofNat (48 + n_ / 10000 % 10))]) ++ [(Int32.ofNat (48 + n_ / 1000 % 10))]) ++ [(Int32.ofNat (48 + n_ / 100 % 10))]) 25 423 at_422 rfl f996 rfl rfl (by first | omega | (simp only [List.length_append, List.length_cons, List.length_nil]; omega)) (narC (dg48 _)) f997 z10 (fun h998 K998 A998 S998 c998 => ?_)
        have E998 := Ext.kp1 (Ext.tr E933 Ed984) K998 e10
        refine Go.iinc (Int32.ofNat ((((((((((((mkV ((XT.ushr fa (24 : Int32)) &&& (3 : Int32)) (fa &&& (255 : Int32)) ((XT.ushr fa (8 : Int32)) &&& (255 : Int32)) ((XT.ushr fa (16 : Int32)) &&& (255 : Int32))) ++ [(44 : Int32)]) ++ [(32 : Int32)]) ++ [(108 : Int32)]) ++ [(105 : Int32)]) ++ [(110 : Int32)]) ++ [(101 : Int32)]) ++ [(32 : Int32)]) ++ [(Int32.ofNat (48 + n_ / 10000 % 10))]) ++ [(Int32.ofNat (48 + n_ / 1000 % 10))]) ++ [(Int32.ofNat (48 + n_ / 100 % 10))]) ++ [(Int32.ofNat (48 + n_ / 10 % 10))]).length) #[.val (.int fa), .val (.int la), .val (.int ra), .val (.int ((XT.ushr fa (24 : Int32)) &&& (3 : Int32))), .val (.int ((XT.ushr ra (24 : Int32)) &&& (3 : Int32))), .val (.int (fa &&& (255 : Int32))), .val (.int ((XT.ushr fa (8 : Int32)) &&& (255 : Int32))), .val (.int ((XT.ushr fa (16 : Int32)) &&& (255 : Int32))), .val (.int (ra &&& (255 : Int32))), .val (.int ((XT.ushr ra (8 : Int32)) &&& (255 : Int32))), .val (.int ((XT.ushr ra (16 : Int32)) &&& (255 : Int32))), .val (.ref u1), .val (.ref u2), .val (.ref pp), .val (.ref e_), .val (.int (Int32.ofNat ((((((((((((mkV ((XT.ushr fa (24 : Int32)) &&& (3 : Int32)) (fa &&& (255 : Int32)) ((XT.ushr fa (8 : Int32)) &&& (255 : Int32)) ((XT.ushr fa (16 : Int32)) &&& (255 : Int32))) ++ [(44 : Int32)]) ++ [(32 : Int32)]) ++ [(108 : Int32)]) ++ [(105 : Int32)]) ++ [(110 : Int32)]) ++ [(101 : Int32)]) ++ [(32 : Int32)]) ++ [(Int32.ofNat (48 + n_ / 10000 % 10))]) ++ [(Int32.ofNat (48 + n_ / 1000 % 10))]) ++ [(Int32.ofNat (48 + n_ / 100 % 10))]) ++ [(Int32.ofNat (48 + n_ / 10 % 10))]).length)), .val (.int (Int32.ofNat 5))] 426 at_423 rfl rfl incL rfl ?_
        refine Go.aload 428 at_426 rfl rfl rfl ?_
        refine Go.iload 430 at_428 rfl rfl ?_
        refine Go.iload_n 431 at_430 rfl rfl ?_
        refine Go.iconst (0) 432 at_431 rfl rfl ?_
        refine Go.invokestatic (rest := [.int (Int32.ofNat ((((((((((((mkV ((XT.ushr fa (24 : Int32)) &&& (3 : Int32)) (fa &&& (255 : Int32)) ((XT.ushr fa (8 : Int32)) &&& (255 : Int32)) ((XT.ushr fa (16 : Int32)) &&& (255 : Int32))) ++ [(44 : Int32)]) ++ [(32 : Int32)]) ++ [(108 : Int32)]) ++ [(105 : Int32)]) ++ [(110 : Int32)]) ++ [(101 : Int32)]) ++ [(32 : Int32)]) ++ [(Int32.ofNat (48 + n_ / 10000 % 10))]) ++ [(Int32.ofNat (48 + n_ / 1000 % 10))]) ++ [(Int32.ofNat (48 + n_ / 100 % 10))]) ++ [(Int32.ofNat (48 + n_ / 10 % 10))]).length), .ref e_]) 2 [.int la, .int (0 : Int32)] 435 at_432 rfl (W.1 54 rfl) (W.1 55 rfl) (W.1 2 rfl) (W.1 56 rfl) (by decide) (cDig W (t_ := 1) hla hn (by decide) rfl (by decide)) (by decide +kernel : parseMethodDescriptor "(II)C" = some ⟨[.int, .int], (some .char)⟩) rfl rfl rfl (nl rfl) (nl rfl) (nl rfl) (nl rfl) (nl rfl) (fun v1059 vm1059 h1059 ⟨rv, Ed1048⟩ c1059 => ?_)
        subst rv
        have f1060 := A998.ext Ed1048
        have f1061 := CHr.safe c1059 A998.lt S998
        have L1061 := Nat.lt_of_lt_of_le A998.lt c1059.2.1
        refine Go.pushC ((((((((((((mkV ((XT.ushr fa (24 : Int32)) &&& (3 : Int32)) (fa &&& (255 : Int32)) ((XT.ushr fa (8 : Int32)) &&& (255 : Int32)) ((XT.ushr fa (16 : Int32)) &&& (255 : Int32))) ++ [(44 : Int32)]) ++ [(32 : Int32)]) ++ [(108 : Int32)]) ++ [(105 : Int32)]) ++ [(110 : Int32)]) ++ [(101 : Int32)]) ++ [(32 : Int32)]) ++ [(Int32.ofNat (48 + n_ / 10000 % 10))]) ++ [(Int32.ofNat (48 + n_ / 1000 % 10))]) ++ [(Int32.ofNat (48 + n_ / 100 % 10))]) ++ [(Int32.ofNat (48 + n_ / 10 % 10))]) 25 436 at_435 rfl f1060 rfl rfl (by first | omega | (simp only [List.length_append, List.length_cons, List.length_nil]; omega)) (narC (dg48 _)) f1061 z10 (fun h1062 K1062 A1062 S1062 c1062 => ?_)
        have E1062 := Ext.kp1 (Ext.tr E998 Ed1048) K1062 e10
        refine Go.iinc (Int32.ofNat (((((((((((((mkV ((XT.ushr fa (24 : Int32)) &&& (3 : Int32)) (fa &&& (255 : Int32)) ((XT.ushr fa (8 : Int32)) &&& (255 : Int32)) ((XT.ushr fa (16 : Int32)) &&& (255 : Int32))) ++ [(44 : Int32)]) ++ [(32 : Int32)]) ++ [(108 : Int32)]) ++ [(105 : Int32)]) ++ [(110 : Int32)]) ++ [(101 : Int32)]) ++ [(32 : Int32)]) ++ [(Int32.ofNat (48 + n_ / 10000 % 10))]) ++ [(Int32.ofNat (48 + n_ / 1000 % 10))]) ++ [(Int32.ofNat (48 + n_ / 100 % 10))]) ++ [(Int32.ofNat (48 + n_ / 10 % 10))]) ++ [(Int32.ofNat (48 + n_ / 1 % 10))]).length) #[.val (.int fa), .val (.int la), .val (.int ra), .val (.int ((XT.ushr fa (24 : Int32)) &&& (3 : Int32))), .val (.int ((XT.ushr ra (24 : Int32)) &&& (3 : Int32))), .val (.int (fa &&& (255 : Int32))), .val (.int ((XT.ushr fa (8 : Int32)) &&& (255 : Int32))), .val (.int ((XT.ushr fa (16 : Int32)) &&& (255 : Int32))), .val (.int (ra &&& (255 : Int32))), .val (.int ((XT.ushr ra (8 : Int32)) &&& (255 : Int32))), .val (.int ((XT.ushr ra (16 : Int32)) &&& (255 : Int32))), .val (.ref u1), .val (.ref u2), .val (.ref pp), .val (.ref e_), .val (.int (Int32.ofNat (((((((((((((mkV ((XT.ushr fa (24 : Int32)) &&& (3 : Int32)) (fa &&& (255 : Int32)) ((XT.ushr fa (8 : Int32)) &&& (255 : Int32)) ((XT.ushr fa (16 : Int32)) &&& (255 : Int32))) ++ [(44 : Int32)]) ++ [(32 : Int32)]) ++ [(108 : Int32)]) ++ [(105 : Int32)]) ++ [(110 : Int32)]) ++ [(101 : Int32)]) ++ [(32 : Int32)]) ++ [(Int32.ofNat (48 + n_ / 10000 % 10))]) ++ [(Int32.ofNat (48 + n_ / 1000 % 10))]) ++ [(Int32.ofNat (48 + n_ / 100 % 10))]) ++ [(Int32.ofNat (48 + n_ / 10 % 10))]) ++ [(Int32.ofNat (48 + n_ / 1 % 10))]).length)), .val (.int (Int32.ofNat 5))] 439 at_436 rfl rfl incL rfl ?_
        refine Go.mono (k' := 28) (n' := 216) (nl rfl) (nl rfl) ?_
        exact J439 _ ([44, 32, 108, 105, 110, 101, 32] ++ dgL 5 n_) _ _ _ (Or.inr ⟨_, rfl, rfl⟩) (by simp [dgL, Nat.div_div_eq_div_mul]) (Or.inr ⟨q, 5, n_, hla, hn, hs, rfl⟩) E1062 A1062 S1062
      · refine Go.iload 249 at_247 rfl rfl ?_
        refine Go.bipush (9) 251 at_249 rfl rfl ?_
        refine Go.if_icmple 268 254 at_251 (by decide) rfl rfl (fun q1063 => ?_) (fun q1063 => absurd q1063 (by decide))
        refine Go.iload 270 at_268 rfl rfl ?_
        refine Go.bipush (8) 272 at_270 rfl rfl ?_
        refine Go.if_icmple 289 275 at_272 (by decide) rfl rfl (fun q1064 => ?_) (fun q1064 => absurd q1064 (by decide))
        refine Go.iload 291 at_289 rfl rfl ?_
        refine Go.bipush (7) 293 at_291 rfl rfl ?_
        refine Go.if_icmple 310 296 at_293 (by decide) rfl rfl (fun q1065 => ?_) (fun q1065 => absurd q1065 (by decide))
        refine Go.iload 312 at_310 rfl rfl ?_
        refine Go.bipush (6) 314 at_312 rfl rfl ?_
        refine Go.if_icmple 331 317 at_314 (by decide) rfl rfl (fun q1066 => ?_) (fun q1066 => absurd q1066 (by decide))
        refine Go.iload 333 at_331 rfl rfl ?_
        refine Go.iconst (5) 334 at_333 rfl rfl ?_
        refine Go.if_icmple 350 337 at_334 (by decide) rfl rfl (fun q1067 => absurd (by decide) q1067) (fun q1067 => ?_)
        refine Go.aload 339 at_337 rfl rfl rfl ?_
        refine Go.iload 341 at_339 rfl rfl ?_
        refine Go.iload_n 342 at_341 rfl rfl ?_
        refine Go.iconst (5) 343 at_342 rfl rfl ?_
        refine Go.invokestatic (rest := [.int (Int32.ofNat ((((((((mkV ((XT.ushr fa (24 : Int32)) &&& (3 : Int32)) (fa &&& (255 : Int32)) ((XT.ushr fa (8 : Int32)) &&& (255 : Int32)) ((XT.ushr fa (16 : Int32)) &&& (255 : Int32))) ++ [(44 : Int32)]) ++ [(32 : Int32)]) ++ [(108 : Int32)]) ++ [(105 : Int32)]) ++ [(110 : Int32)]) ++ [(101 : Int32)]) ++ [(32 : Int32)]).length), .ref e_]) 2 [.int la, .int (5 : Int32)] 346 at_343 rfl (W.1 54 rfl) (W.1 55 rfl) (W.1 2 rfl) (W.1 56 rfl) (by decide) (cDig W (t_ := 100000) hla hn (by decide) rfl (by decide)) (by decide +kernel : parseMethodDescriptor "(II)C" = some ⟨[.int, .int], (some .char)⟩) rfl rfl rfl (nl rfl) (nl rfl) (nl rfl) (nl rfl) (nl rfl) (fun v1128 vm1128 h1128 ⟨rv, Ed1117⟩ c1128 => ?_)
        subst rv
        have f1129 := A56.ext Ed1117
        have f1130 := CHr.safe (CHr.trans c57 c1128) A56.lt S56
        have L1130 := Nat.lt_of_lt_of_le A56.lt (CHr.trans c57 c1128).2.1
        refine Go.pushC ((((((((mkV ((XT.ushr fa (24 : Int32)) &&& (3 : Int32)) (fa &&& (255 : Int32)) ((XT.ushr fa (8 : Int32)) &&& (255 : Int32)) ((XT.ushr fa (16 : Int32)) &&& (255 : Int32))) ++ [(44 : Int32)]) ++ [(32 : Int32)]) ++ [(108 : Int32)]) ++ [(105 : Int32)]) ++ [(110 : Int32)]) ++ [(101 : Int32)]) ++ [(32 : Int32)]) 25 347 at_346 rfl f1129 rfl rfl (by first | omega | (simp only [List.length_append, List.length_cons, List.length_nil]; omega)) (narC (dg48 _)) f1130 z10 (fun h1131 K1131 A1131 S1131 c1131 => ?_)
        have E1131 := Ext.kp1 (Ext.tr E56 Ed1117) K1131 e10
        refine Go.iinc (Int32.ofNat (((((((((mkV ((XT.ushr fa (24 : Int32)) &&& (3 : Int32)) (fa &&& (255 : Int32)) ((XT.ushr fa (8 : Int32)) &&& (255 : Int32)) ((XT.ushr fa (16 : Int32)) &&& (255 : Int32))) ++ [(44 : Int32)]) ++ [(32 : Int32)]) ++ [(108 : Int32)]) ++ [(105 : Int32)]) ++ [(110 : Int32)]) ++ [(101 : Int32)]) ++ [(32 : Int32)]) ++ [(Int32.ofNat (48 + n_ / 100000 % 10))]).length) #[.val (.int fa), .val (.int la), .val (.int ra), .val (.int ((XT.ushr fa (24 : Int32)) &&& (3 : Int32))), .val (.int ((XT.ushr ra (24 : Int32)) &&& (3 : Int32))), .val (.int (fa &&& (255 : Int32))), .val (.int ((XT.ushr fa (8 : Int32)) &&& (255 : Int32))), .val (.int ((XT.ushr fa (16 : Int32)) &&& (255 : Int32))), .val (.int (ra &&& (255 : Int32))), .val (.int ((XT.ushr ra (8 : Int32)) &&& (255 : Int32))), .val (.int ((XT.ushr ra (16 : Int32)) &&& (255 : Int32))), .val (.ref u1), .val (.ref u2), .val (.ref pp), .val (.ref e_), .val (.int (Int32.ofNat (((((((((mkV ((XT.ushr fa (24 : Int32)) &&& (3 : Int32)) (fa &&& (255 : Int32)) ((XT.ushr fa (8 : Int32)) &&& (255 : Int32)) ((XT.ushr fa (16 : Int32)) &&& (255 : Int32))) ++ [(44 : Int32)]) ++ [(32 : Int32)]) ++ [(108 : Int32)]) ++ [(105 : Int32)]) ++ [(110 : Int32)]) ++ [(101 : Int32)]) ++ [(32 : Int32)]) ++ [(Int32.ofNat (48 + n_ / 100000 % 10))]).length)), .val (.int (Int32.ofNat 6))] 350 at_347 rfl rfl incL rfl ?_
        refine Go.iload 352 at_350 rfl rfl ?_
        refine Go.iconst (4) 353 at_352 rfl rfl ?_
        refine Go.if_icmple 369 356 at_353 (by decide) rfl rfl (fun q1132 => absurd (by decide) q1132) (fun q1132 => ?_)
        refine Go.aload 358 at_356 rfl rfl rfl ?_
        refine Go.iload 360 at_358 rfl rfl ?_
        refine Go.iload_n 361 at_360 rfl rfl ?_
        refine Go.iconst (4) 362 at_361 rfl rfl ?_
        refine Go.invokestatic (rest := [.int (Int32.ofNat (((((((((mkV ((XT.ushr fa (24 : Int32)) &&& (3 : Int32)) (fa &&& (255 : Int32)) ((XT.ushr fa (8 : Int32)) &&& (255 : Int32)) ((XT.ushr fa (16 : Int32)) &&& (255 : Int32))) ++ [(44 : Int32)]) ++ [(32 : Int32)]) ++ [(108 : Int32)]) ++ [(105 : Int32)]) ++ [(110 : Int32)]) ++ [(101 : Int32)]) ++ [(32 : Int32)]) ++ [(Int32.ofNat (48 + n_ / 100000 % 10))]).length), .ref e_]) 2 [.int la, .int (4 : Int32)] 365 at_362 rfl (W.1 54 rfl) (W.1 55 rfl) (W.1 2 rfl) (W.1 56 rfl) (by decide) (cDig W (t_ := 10000) hla hn (by decide) rfl (by decide)) (by decide +kernel : parseMethodDescriptor "(II)C" = some ⟨[.int, .int], (some .char)⟩) rfl rfl rfl (nl rfl) (nl rfl) (nl rfl) (nl rfl) (nl rfl) (fun v1193 vm1193 h1193 ⟨rv, Ed1182⟩ c1193 => ?_)
        subst rv
        have f1194 := A1131.ext Ed1182
        have f1195 := CHr.safe c1193 A1131.lt S1131
        have L1195 := Nat.lt_of_lt_of_le A1131.lt c1193.2.1
        refine Go.pushC (((((((((mkV ((XT.ushr fa (24 : Int32)) &&& (3 : Int32)) (fa &&& (255 : Int32)) ((XT.ushr fa (8 : Int32)) &&& (255 : Int32)) ((XT.ushr fa (16 : Int32)) &&& (255 : Int32))) ++ [(44 : Int32)]) ++ [(32 : Int32)]) ++ [(108 : Int32)]) ++ [(105 : Int32)]) ++ [(110 : Int32)]) ++ [(101 : Int32)]) ++ [(32 : Int32)]) ++ [(Int32.ofNat (48 + n_ / 100000 % 10))]) 25 366 at_365 rfl f1194 rfl rfl (by first | omega | (simp only [List.length_append, List.length_cons, List.length_nil]; omega)) (narC (dg48 _)) f1195 z10 (fun h1196 K1196 A1196 S1196 c1196 => ?_)
        have E1196 := Ext.kp1 (Ext.tr E1131 Ed1182) K1196 e10
        refine Go.iinc (Int32.ofNat ((((((((((mkV ((XT.ushr fa (24 : Int32)) &&& (3 : Int32)) (fa &&& (255 : Int32)) ((XT.ushr fa (8 : Int32)) &&& (255 : Int32)) ((XT.ushr fa (16 : Int32)) &&& (255 : Int32))) ++ [(44 : Int32)]) ++ [(32 : Int32)]) ++ [(108 : Int32)]) ++ [(105 : Int32)]) ++ [(110 : Int32)]) ++ [(101 : Int32)]) ++ [(32 : Int32)]) ++ [(Int32.ofNat (48 + n_ / 100000 % 10))]) ++ [(Int32.ofNat (48 + n_ / 10000 % 10))]).length) #[.val (.int fa), .val (.int la), .val (.int ra), .val (.int ((XT.ushr fa (24 : Int32)) &&& (3 : Int32))), .val (.int ((XT.ushr ra (24 : Int32)) &&& (3 : Int32))), .val (.int (fa &&& (255 : Int32))), .val (.int ((XT.ushr fa (8 : Int32)) &&& (255 : Int32))), .val (.int ((XT.ushr fa (16 : Int32)) &&& (255 : Int32))), .val (.int (ra &&& (255 : Int32))), .val (.int ((XT.ushr ra (8 : Int32)) &&& (255 : Int32))), .val (.int ((XT.ushr ra (16 : Int32)) &&& (255 : Int32))), .val (.ref u1), .val (.ref u2), .val (.ref pp), .val (.ref e_), .val (.int (Int32.ofNat ((((((((((mkV ((XT.ushr fa (24 : Int32)) &&& (3 : Int32)) (fa &&& (255 : Int32)) ((XT.ushr fa (8 : Int32)) &&& (255 : Int32)) ((XT.ushr fa (16 : Int32)) &&& (255 : Int32))) ++ [(44 : Int32)]) ++ [(32 : Int32)]) ++ [(108 : Int32)]) ++ [(105 : Int32)]) ++ [(110 : Int32)]) ++ [(101 : Int32)]) ++ [(32 : Int32)]) ++ [(Int32.ofNat (48 + n_ / 100000 % 10))]) ++ [(Int32.ofNat (48 + n_ / 10000 % 10))]).length)), .val (.int (Int32.ofNat 6))] 369 at_366 rfl rfl incL rfl ?_
        refine Go.iload 371 at_369 rfl rfl ?_
        refine Go.iconst (3) 372 at_371 rfl rfl ?_
        refine Go.if_icmple 388 375 at_372 (by decide) rfl rfl (fun q1197 => absurd (by decide) q1197) (fun q1197 => ?_)
        refine Go.aload 377 at_375 rfl rfl rfl ?_
        refine Go.iload 379 at_377 rfl rfl ?_
        refine Go.iload_n 380 at_379 rfl rfl ?_
        refine Go.iconst (3) 381 at_380 rfl rfl ?_
        refine Go.invokestatic (rest := [.int (Int32.ofNat ((((((((((mkV ((XT.ushr fa (24 : Int32)) &&& (3 : Int32)) (fa &&& (255 : Int32)) ((XT.ushr fa (8 : Int32)) &&& (255 : Int32)) ((XT.ushr fa (16 : Int32)) &&& (255 : Int32))) ++ [(44 : Int32)]) ++ [(32 : Int32)]) ++ [(108 : Int32)]) ++ [(105 : Int32)]) ++ [(110 : Int32)]) ++ [(101 : Int32)]) ++ [(32 : Int32)]) ++ [(Int32.ofNat (48 + n_ / 100000 % 10))]) ++ [(Int32.ofNat (48 + n_ / 10000 % 10))]).length), .ref e_]) 2 [.int la, .int (3 : Int32)] 384 at_381 rfl (W.1 54 rfl) (W.1 55 rfl) (W.1 2 rfl) (W.1 56 rfl) (by decide) (cDig W (t_ := 1000) hla hn (by decide) rfl (by decide)) (by decide +kernel : parseMethodDescriptor "(II)C" = some ⟨[.int, .int], (some .char)⟩) rfl rfl rfl (nl rfl) (nl rfl) (nl rfl) (nl rfl) (nl rfl) (fun v1258 vm1258 h1258 ⟨rv, Ed1247⟩ c1258 => ?_)
        subst rv
        have f1259 := A1196.ext Ed1247
        have f1260 := CHr.safe c1258 A1196.lt S1196
        have L1260 := Nat.lt_of_lt_of_le A1196.lt c1258.2.1
        refine Go.pushC ((((((((((mkV ((XT.ushr fa (24 : Int32)) &&& (3 : Int32)) (fa &&& (255 : Int32)) ((XT.ushr fa (8 : Int32)) &&& (255 : Int32)) ((XT.ushr fa (16 : Int32)) &&& (255 : Int32))) ++ [(44 : Int32)]) ++ [(32 : Int32)]) ++ [(108 : Int32)]) ++ [(105 : Int32)]) ++ [(110 : Int32)]) ++ [(101 : Int32)]) ++ [(32 : Int32)]) ++ [(Int32.ofNat (48 + n_ / 100000 % 10))]) ++ [(Int32.ofNat (48 + n_ / 10000 % 10))]) 25 385 at_384 rfl f1259 rfl rfl (by first | omega | (simp only [List.length_append, List.length_cons, List.length_nil]; omega)) (narC (dg48 _)) f1260 z10 (fun h1261 K1261 A1261 S1261 c1261 => ?_)
        have E1261 := Ext.kp1 (Ext.tr E1196 Ed1247) K1261 e10
        refine Go.iinc (Int32.ofNat (((((((((((mkV ((XT.ushr fa (24 : Int32)) &&& (3 : Int32)) (fa &&& (255 : Int32)) ((XT.ushr fa (8 : Int32)) &&& (255 : Int32)) ((XT.ushr fa (16 : Int32)) &&& (255 : Int32))) ++ [(44 : Int32)]) ++ [(32 : Int32)]) ++ [(108 : Int32)]) ++ [(105 : Int32)]) ++ [(110 : Int32)]) ++ [(101 : Int32)]) ++ [(32 : Int32)]) ++ [(Int32.ofNat (48 + n_ / 100000 % 10))]) ++ [(Int32.ofNat (48 + n_ / 10000 % 10))]) ++ [(Int32.ofNat (48 + n_ / 1000 % 10))]).length) #[.val (.int fa), .val (.int la), .val (.int ra), .val (.int ((XT.ushr fa (24 : Int32)) &&& (3 : Int32))), .val (.int ((XT.ushr ra (24 : Int32)) &&& (3 : Int32))), .val (.int (fa &&& (255 : Int32))), .val (.int ((XT.ushr fa (8 : Int32)) &&& (255 : Int32))), .val (.int ((XT.ushr fa (16 : Int32)) &&& (255 : Int32))), .val (.int (ra &&& (255 : Int32))), .val (.int ((XT.ushr ra (8 : Int32)) &&& (255 : Int32))), .val (.int ((XT.ushr ra (16 : Int32)) &&& (255 : Int32))), .val (.ref u1), .val (.ref u2), .val (.ref pp), .val (.ref e_), .val (.int (Int32.ofNat (((((((((((mkV ((XT.ushr fa (24 : Int32)) &&& (3 : Int32)) (fa &&& (255 : Int32)) ((XT.ushr fa (8 : Int32)) &&& (255 : Int32)) ((XT.ushr fa (16 : Int32)) &&& (255 : Int32))) ++ [(44 : Int32)]) ++ [(32 : Int32)]) ++ [(108 : Int32)]) ++ [(105 : Int32)]) ++ [(110 : Int32)]) ++ [(101 : Int32)]) ++ [(32 : Int32)]) ++ [(Int32.ofNat (48 + n_ / 100000 % 10))]) ++ [(Int32.ofNat (48 + n_ / 10000 % 10))]) ++ [(Int32.ofNat (48 + n_ / 1000 % 10))]).length)), .val (.int (Int32.ofNat 6))] 388 at_385 rfl rfl incL rfl ?_
        refine Go.iload 390 at_388 rfl rfl ?_
        refine Go.iconst (2) 391 at_390 rfl rfl ?_
        refine Go.if_icmple 407 394 at_391 (by decide) rfl rfl (fun q1262 => absurd (by decide) q1262) (fun q1262 => ?_)
        refine Go.aload 396 at_394 rfl rfl rfl ?_
        refine Go.iload 398 at_396 rfl rfl ?_
        refine Go.iload_n 399 at_398 rfl rfl ?_
        refine Go.iconst (2) 400 at_399 rfl rfl ?_
        refine Go.invokestatic (rest := [.int (Int32.ofNat (((((((((((mkV ((XT.ushr fa (24 : Int32)) &&& (3 : Int32)) (fa &&& (255 : Int32)) ((XT.ushr fa (8 : Int32)) &&& (255 : Int32)) ((XT.ushr fa (16 : Int32)) &&& (255 : Int32))) ++ [(44 : Int32)]) ++ [(32 : Int32)]) ++ [(108 : Int32)]) ++ [(105 : Int32)]) ++ [(110 : Int32)]) ++ [(101 : Int32)]) ++ [(32 : Int32)]) ++ [(Int32.ofNat (48 + n_ / 100000 % 10))]) ++ [(Int32.ofNat (48 + n_ / 10000 % 10))]) ++ [(Int32.ofNat (48 + n_ / 1000 % 10))]).length), .ref e_]) 2 [.int la, .int (2 : Int32)] 403 at_400 rfl (W.1 54 rfl) (W.1 55 rfl) (W.1 2 rfl) (W.1 56 rfl) (by decide) (cDig W (t_ := 100) hla hn (by decide) rfl (by decide)) (by decide +kernel : parseMethodDescriptor "(II)C" = some ⟨[.int, .int], (some .char)⟩) rfl rfl rfl (nl rfl) (nl rfl) (nl rfl) (nl rfl) (nl rfl) (fun v1323 vm1323 h1323 ⟨rv, Ed1312⟩ c1323 => ?_)
        subst rv
        have f1324 := A1261.ext Ed1312
        have f1325 := CHr.safe c1323 A1261.lt S1261
        have L1325 := Nat.lt_of_lt_of_le A1261.lt c1323.2.1
        refine Go.pushC (((((((((((mkV ((XT.ushr fa (24 : Int32)) &&& (3 : Int32)) (fa &&& (255 : Int32)) ((XT.ushr fa (8 : Int32)) &&& (255 : Int32)) ((XT.ushr fa (16 : Int32)) &&& (255 : Int32))) ++ [(44 : Int32)]) ++ [(32 : Int32)]) ++ [(108 : Int32)]) ++ [(105 : Int32)]) ++ [(110 : Int32)]) ++ [(101 : Int32)]) ++ [(32 : Int32)]) ++ [(Int32.ofNat (48 + n_ / 100000 % 10))]) ++ [(Int32.ofNat (48 + n_ / 10000 % 10))]) ++ [(Int32.ofNat (48 + n_ / 1000 % 10))]) 25 404 at_403 rfl f1324 rfl rfl (by first | omega | (simp only [List.length_append, List.length_cons, List.length_nil]; omega)) (narC (dg48 _)) f1325 z10 (fun h1326 K1326 A1326 S1326 c1326 => ?_)
        have E1326 := Ext.kp1 (Ext.tr E1261 Ed1312) K1326 e10
        refine Go.iinc (Int32.ofNat ((((((((((((mkV ((XT.ushr fa (24 : Int32)) &&& (3 : Int32)) (fa &&& (255 : Int32)) ((XT.ushr fa (8 : Int32)) &&& (255 : Int32)) ((XT.ushr fa (16 : Int32)) &&& (255 : Int32))) ++ [(44 : Int32)]) ++ [(32 : Int32)]) ++ [(108 : Int32)]) ++ [(105 : Int32)]) ++ [(110 : Int32)]) ++ [(101 : Int32)]) ++ [(32 : Int32)]) ++ [(Int32.ofNat (48 + n_ / 100000 % 10))]) ++ [(Int32.ofNat (48 + n_ / 10000 % 10))]) ++ [(Int32.ofNat (48 + n_ / 1000 % 10))]) ++ [(Int32.ofNat (48 + n_ / 100 % 10))]).length) #[.val (.int fa), .val (.int la), .val (.int ra), .val (.int ((XT.ushr fa (24 : Int32)) &&& (3 : Int32))), .val (.int ((XT.ushr ra (24 : Int32)) &&& (3 : Int32))), .val (.int (fa &&& (255 : Int32))), .val (.int ((XT.ushr fa (8 : Int32)) &&& (255 : Int32))), .val (.int ((XT.ushr fa (16 : Int32)) &&& (255 : Int32))), .val (.int (ra &&& (255 : Int32))), .val (.int ((XT.ushr ra (8 : Int32)) &&& (255 : Int32))), .val (.int ((XT.ushr ra (16 : Int32)) &&& (255 : Int32))), .val (.ref u1), .val (.ref u2), .val (.ref pp), .val (.ref e_), .val (.int (Int32.ofNat ((((((((((((mkV ((XT.ushr fa (24 : Int32)) &&& (3 : Int32)) (fa &&& (255 : Int32)) ((XT.ushr fa (8 : Int32)) &&& (255 : Int32)) ((XT.ushr fa (16 : Int32)) &&& (255 : Int32))) ++ [(44 : Int32)]) ++ [(32 : Int32)]) ++ [(108 : Int32)]) ++ [(105 : Int32)]) ++ [(110 : Int32)]) ++ [(101 : Int32)]) ++ [(32 : Int32)]) ++ [(Int32.ofNat (48 + n_ / 100000 % 10))]) ++ [(Int32.ofNat (48 + n_ / 10000 % 10))]) ++ [(Int32.ofNat (48 + n_ / 1000 % 10))]) ++ [(Int32.ofNat (48 + n_ / 100 % 10))]).length)), .val (.int (Int32.ofNat 6))] 407 at_404 rfl rfl incL rfl ?_
        refine Go.iload 409 at_407 rfl rfl ?_
        refine Go.iconst (1) 410 at_409 rfl rfl ?_
        refine Go.if_icmple 426 413 at_410 (by decide) rfl rfl (fun q1327 => absurd (by decide) q1327) (fun q1327 => ?_)
        refine Go.aload 415 at_413 rfl rfl rfl ?_
        refine Go.iload 417 at_415 rfl rfl ?_
        refine Go.iload_n 418 at_417 rfl rfl ?_
        refine Go.iconst (1) 419 at_418 rfl rfl ?_
        refine Go.invokestatic (rest := [.int (Int32.ofNat ((((((((((((mkV ((XT.ushr fa (24 : Int32)) &&& (3 : Int32)) (fa &&& (255 : Int32)) ((XT.ushr fa (8 : Int32)) &&& (255 : Int32)) ((XT.ushr fa (16 : Int32)) &&& (255 : Int32))) ++ [(44 : Int32)]) ++ [(32 : Int32)]) ++ [(108 : Int32)]) ++ [(105 : Int32)]) ++ [(110 : Int32)]) ++ [(101 : Int32)]) ++ [(32 : Int32)]) ++ [(Int32.ofNat (48 + n_ / 100000 % 10))]) ++ [(Int32.ofNat (48 + n_ / 10000 % 10))]) ++ [(Int32.ofNat (48 + n_ / 1000 % 10))]) ++ [(Int32.ofNat (48 + n_ / 100 % 10))]).length), .ref e_]) 2 [.int la, .int (1 : Int32)] 422 at_419 rfl (W.1 54 rfl) (W.1 55 rfl) (W.1 2 rfl) (W.1 56 rfl) (by decide) (cDig W (t_ := 10) hla hn (by decide) rfl (by decide)) (by decide +kernel : parseMethodDescriptor "(II)C" = some ⟨[.int, .int], (some .char)⟩) rfl rfl rfl (nl rfl) (nl rfl) (nl rfl) (nl rfl) (nl rfl) (fun v1388 vm1388 h1388 ⟨rv, Ed1377⟩ c1388 => ?_)
        subst rv
        have f1389 := A1326.ext Ed1377
        have f1390 := CHr.safe c1388 A1326.lt S1326
        have L1390 := Nat.lt_of_lt_of_le A1326.lt c1388.2.1
        refine Go.pushC ((((((((((((mkV ((XT.ushr fa (24 : Int32)) &&& (3 : Int32)) (fa &&& (255 : Int32)) ((XT.ushr fa (8 : Int32)) &&& (255 : Int32)) ((XT.ushr fa (16 : Int32)) &&& (255 : Int32))) ++ [(44 : Int32)]) ++ [(32 : Int32)]) ++ [(108 : Int32)]) ++ [(105 : Int32)]) ++ [(110 : Int32)]) ++ [(101 : Int32)]) ++ [(32 : Int32)]) ++ [(Int32.ofNat (48 + n_ / 100000 % 10))]) ++ [(Int32.ofNat (48 + n_ / 10000 % 10))]) ++ [(Int32.ofNat (48 + n_ / 1000 % 10))]) ++ [(Int32.ofNat (48 + n_ / 100 % 10))]) 25 423 at_422 rfl f1389 rfl rfl (by first | omega | (simp only [List.length_append, List.length_cons, List.length_nil]; omega)) (narC (dg48 _)) f1390 z10 (fun h1391 K1391 A1391 S1391 c1391 => ?_)
        have E1391 := Ext.kp1 (Ext.tr E1326 Ed1377) K1391 e10
        refine Go.iinc (Int32.ofNat (((((((((((((mkV ((XT.ushr fa (24 : Int32)) &&& (3 : Int32)) (fa &&& (255 : Int32)) ((XT.ushr fa (8 : Int32)) &&& (255 : Int32)) ((XT.ushr fa (16 : Int32)) &&& (255 : Int32))) ++ [(44 : Int32)]) ++ [(32 : Int32)]) ++ [(108 : Int32)]) ++ [(105 : Int32)]) ++ [(110 : Int32)]) ++ [(101 : Int32)]) ++ [(32 : Int32)]) ++ [(Int32.ofNat (48 + n_ / 100000 % 10))]) ++ [(Int32.ofNat (48 + n_ / 10000 % 10))]) ++ [(Int32.ofNat (48 + n_ / 1000 % 10))]) ++ [(Int32.ofNat (48 + n_ / 100 % 10))]) ++ [(Int32.ofNat (48 + n_ / 10 % 10))]).length) #[.val (.int fa), .val (.int la), .val (.int ra), .val (.int ((XT.ushr fa (24 : Int32)) &&& (3 : Int32))), .val (.int ((XT.ushr ra (24 : Int32)) &&& (3 : Int32))), .val (.int (fa &&& (255 : Int32))), .val (.int ((XT.ushr fa (8 : Int32)) &&& (255 : Int32))), .val (.int ((XT.ushr fa (16 : Int32)) &&& (255 : Int32))), .val (.int (ra &&& (255 : Int32))), .val (.int ((XT.ushr ra (8 : Int32)) &&& (255 : Int32))), .val (.int ((XT.ushr ra (16 : Int32)) &&& (255 : Int32))), .val (.ref u1), .val (.ref u2), .val (.ref pp), .val (.ref e_), .val (.int (Int32.ofNat (((((((((((((mkV ((XT.ushr fa (24 : Int32)) &&& (3 : Int32)) (fa &&& (255 : Int32)) ((XT.ushr fa (8 : Int32)) &&& (255 : Int32)) ((XT.ushr fa (16 : Int32)) &&& (255 : Int32))) ++ [(44 : Int32)]) ++ [(32 : Int32)]) ++ [(108 : Int32)]) ++ [(105 : Int32)]) ++ [(110 : Int32)]) ++ [(101 : Int32)]) ++ [(32 : Int32)]) ++ [(Int32.ofNat (48 + n_ / 100000 % 10))]) ++ [(Int32.ofNat (48 + n_ / 10000 % 10))]) ++ [(Int32.ofNat (48 + n_ / 1000 % 10))]) ++ [(Int32.ofNat (48 + n_ / 100 % 10))]) ++ [(Int32.ofNat (48 + n_ / 10 % 10))]).length)), .val (.int (Int32.ofNat 6))] 426 at_423 rfl rfl incL rfl ?_
        refine Go.aload 428 at_426 rfl rfl rfl ?_
        refine Go.iload 430 at_428 rfl rfl ?_
        refine Go.iload_n 431 at_430 rfl rfl ?_
        refine Go.iconst (0) 432 at_431 rfl rfl ?_
        refine Go.invokestatic (rest := [.int (Int32.ofNat (((((((((((((mkV ((XT.ushr fa (24 : Int32)) &&& (3 : Int32)) (fa &&& (255 : Int32)) ((XT.ushr fa (8 : Int32)) &&& (255 : Int32)) ((XT.ushr fa (16 : Int32)) &&& (255 : Int32))) ++ [(44 : Int32)]) ++ [(32 : Int32)]) ++ [(108 : Int32)]) ++ [(105 : Int32)]) ++ [(110 : Int32)]) ++ [(101 : Int32)]) ++ [(32 : Int32)]) ++ [(Int32.ofNat (48 + n_ / 100000 % 10))]) ++ [(Int32.ofNat (48 + n_ / 10000 % 10))]) ++ [(Int32.ofNat (48 + n_ / 1000 % 10))]) ++ [(Int32.ofNat (48 + n_ / 100 % 10))]) ++ [(Int32.ofNat (48 + n_ / 10 % 10))]).length), .ref e_]) 2 [.int la, .int (0 : Int32)] 435 at_432 rfl (W.1 54 rfl) (W.1 55 rfl) (W.1 2 rfl) (W.1 56 rfl) (by decide) (cDig W (t_ := 1) hla hn (by decide) rfl (by decide)) (by decide +kernel : parseMethodDescriptor "(II)C" = some ⟨[.int, .int], (some .char)⟩) rfl rfl rfl (nl rfl) (nl rfl) (nl rfl) (nl rfl) (nl rfl) (fun v1452 vm1452 h1452 ⟨rv, Ed1441⟩ c1452 => ?_)
        subst rv
        have f1453 := A1391.ext Ed1441
        have f1454 := CHr.safe c1452 A1391.lt S1391
        have L1454 := Nat.lt_of_lt_of_le A1391.lt c1452.2.1
        refine Go.pushC (((((((((((((mkV ((XT.ushr fa (24 : Int32)) &&& (3 : Int32)) (fa &&& (255 : Int32)) ((XT.ushr fa (8 : Int32)) &&& (255 : Int32)) ((XT.ushr fa (16 : Int32)) &&& (255 : Int32))) ++ [(44 : Int32)]) ++ [(32 : Int32)]) ++ [(108 : Int32)]) ++ [(105 : Int32)]) ++ [(110 : Int32)]) ++ [(101 : Int32)]) ++ [(32 : Int32)]) ++ [(Int32.ofNat (48 + n_ / 100000 % 10))]) ++ [(Int32.ofNat (48 + n_ / 10000 % 10))]) ++ [(Int32.ofNat (48 + n_ / 1000 % 10))]) ++ [(Int32.ofNat (48 + n_ / 100 % 10))]) ++ [(Int32.ofNat (48 + n_ / 10 % 10))]) 25 436 at_435 rfl f1453 rfl rfl (by first | omega | (simp only [List.length_append, List.length_cons, List.length_nil]; omega)) (narC (dg48 _)) f1454 z10 (fun h1455 K1455 A1455 S1455 c1455 => ?_)
        have E1455 := Ext.kp1 (Ext.tr E1391 Ed1441) K1455 e10
        refine Go.iinc (Int32.ofNat ((((((((((((((mkV ((XT.ushr fa (24 : Int32)) &&& (3 : Int32)) (fa &&& (255 : Int32)) ((XT.ushr fa (8 : Int32)) &&& (255 : Int32)) ((XT.ushr fa (16 : Int32)) &&& (255 : Int32))) ++ [(44 : Int32)]) ++ [(32 : Int32)]) ++ [(108 : Int32)]) ++ [(105 : Int32)]) ++ [(110 : Int32)]) ++ [(101 : Int32)]) ++ [(32 : Int32)]) ++ [(Int32.ofNat (48 + n_ / 100000 % 10))]) ++ [(Int32.ofNat (48 + n_ / 10000 % 10))]) ++ [(Int32.ofNat (48 + n_ / 1000 % 10))]) ++ [(Int32.ofNat (48 + n_ / 100 % 10))]) ++ [(Int32.ofNat (48 + n_ / 10 % 10))]) ++ [(Int32.ofNat (48 + n_ / 1 % 10))]).length) #[.val (.int fa), .val (.int la), .val (.int ra), .val (.int ((XT.ushr fa (24 : Int32)) &&& (3 : Int32))), .val (.int ((XT.ushr ra (24 : Int32)) &&& (3 : Int32))), .val (.int (fa &&& (255 : Int32))), .val (.int ((XT.ushr fa (8 : Int32)) &&& (255 : Int32))), .val (.int ((XT.ushr fa (16 : Int32)) &&& (255 : Int32))), .val (.int (ra &&& (255 : Int32))), .val (.int ((XT.ushr ra (8 : Int32)) &&& (255 : Int32))), .val (.int ((XT.ushr ra (16 : Int32)) &&& (255 : Int32))), .val (.ref u1), .val (.ref u2), .val (.ref pp), .val (.ref e_), .val (.int (Int32.ofNat ((((((((((((((mkV ((XT.ushr fa (24 : Int32)) &&& (3 : Int32)) (fa &&& (255 : Int32)) ((XT.ushr fa (8 : Int32)) &&& (255 : Int32)) ((XT.ushr fa (16 : Int32)) &&& (255 : Int32))) ++ [(44 : Int32)]) ++ [(32 : Int32)]) ++ [(108 : Int32)]) ++ [(105 : Int32)]) ++ [(110 : Int32)]) ++ [(101 : Int32)]) ++ [(32 : Int32)]) ++ [(Int32.ofNat (48 + n_ / 100000 % 10))]) ++ [(Int32.ofNat (48 + n_ / 10000 % 10))]) ++ [(Int32.ofNat (48 + n_ / 1000 % 10))]) ++ [(Int32.ofNat (48 + n_ / 100 % 10))]) ++ [(Int32.ofNat (48 + n_ / 10 % 10))]) ++ [(Int32.ofNat (48 + n_ / 1 % 10))]).length)), .val (.int (Int32.ofNat 6))] 439 at_436 rfl rfl incL rfl ?_
        refine Go.mono (k' := 28) (n' := 216) (nl rfl) (nl rfl) ?_
        exact J439 _ ([44, 32, 108, 105, 110, 101, 32] ++ dgL 6 n_) _ _ _ (Or.inr ⟨_, rfl, rfl⟩) (by simp [dgL, Nat.div_div_eq_div_mul]) (Or.inr ⟨q, 6, n_, hla, hn, hs, rfl⟩) E1455 A1455 S1455
      · refine Go.iload 249 at_247 rfl rfl ?_
        refine Go.bipush (9) 251 at_249 rfl rfl ?_
        refine Go.if_icmple 268 254 at_251 (by decide) rfl rfl (fun q1456 => ?_) (fun q1456 => absurd q1456 (by decide))
        refine Go.iload 270 at_268 rfl rfl ?_
        refine Go.bipush (8) 272 at_270 rfl rfl ?_
        refine Go.if_icmple 289 275 at_272 (by decide) rfl rfl (fun q1457 => ?_) (fun q1457 => absurd q1457 (by decide))
        refine Go.iload 291 at_289 rfl rfl ?_
        refine Go.bipush (7) 293 at_291 rfl rfl ?_
        refine Go.if_icmple 310 296 at_293 (by decide) rfl rfl (fun q1458 => ?_) (fun q1458 => absurd q1458 (by decide))
        refine Go.iload 312 at_310 rfl rfl ?_
        refine Go.bipush (6) 314 at_312 rfl rfl ?_
        refine Go.if_icmple 331 317 at_314 (by decide) rfl rfl (fun q1459 => absurd (by decide) q1459) (fun q1459 => ?_)
        refine Go.aload 319 at_317 rfl rfl rfl ?_
        refine Go.iload 321 at_319 rfl rfl ?_
        refine Go.iload_n 322 at_321 rfl rfl ?_
        refine Go.bipush (6) 324 at_322 rfl rfl ?_
        refine Go.invokestatic (rest := [.int (Int32.ofNat ((((((((mkV ((XT.ushr fa (24 : Int32)) &&& (3 : Int32)) (fa &&& (255 : Int32)) ((XT.ushr fa (8 : Int32)) &&& (255 : Int32)) ((XT.ushr fa (16 : Int32)) &&& (255 : Int32))) ++ [(44 : Int32)]) ++ [(32 : Int32)]) ++ [(108 : Int32)]) ++ [(105 : Int32)]) ++ [(110 : Int32)]) ++ [(101 : Int32)]) ++ [(32 : Int32)]).length), .ref e_]) 2 [.int la, .int (6 : Int32)] 327 at_324 rfl (W.1 54 rfl) (W.1 55 rfl) (W.1 2 rfl) (W.1 56 rfl) (by decide) (cDig W (t_ := 1000000) hla hn (by decide) rfl (by decide)) (by decide +kernel : parseMethodDescriptor "(II)C" = some ⟨[.int, .int], (some .char)⟩) rfl rfl rfl (nl rfl) (nl rfl) (nl rfl) (nl rfl) (nl rfl) (fun v1520 vm1520 h1520 ⟨rv, Ed1509⟩ c1520 => ?_)
        subst rv
        have f1521 := A56.ext Ed1509
        have f1522 := CHr.safe (CHr.trans c57 c1520) A56.lt S56
        have L1522 := Nat.lt_of_lt_of_le A56.lt (CHr.trans c57 c1520).2.1
        refine Go.pushC ((((((((mkV ((XT.ushr fa (24 : Int32)) &&& (3 : Int32)) (fa &&& (255 : Int32)) ((XT.ushr fa (8 : Int32)) &&& (255 : Int32)) ((XT.ushr fa (16 : Int32)) &&& (255 : Int32))) ++ [(44 : Int32)]) ++ [(32 : Int32)]) ++ [(108 : Int32)]) ++ [(105 : Int32)]) ++ [(110 : Int32)]) ++ [(101 : Int32)]) ++ [(32 : Int32)]) 25 328 at_327 rfl f1521 rfl rfl (by first | omega | (simp only [List.length_append, List.length_cons, List.length_nil]; omega)) (narC (dg48 _)) f1522 z10 (fun h1523 K1523 A1523 S1523 c1523 => ?_)
        have E1523 := Ext.kp1 (Ext.tr E56 Ed1509) K1523 e10
        refine Go.iinc (Int32.ofNat (((((((((mkV ((XT.ushr fa (24 : Int32)) &&& (3 : Int32)) (fa &&& (255 : Int32)) ((XT.ushr fa (8 : Int32)) &&& (255 : Int32)) ((XT.ushr fa (16 : Int32)) &&& (255 : Int32))) ++ [(44 : Int32)]) ++ [(32 : Int32)]) ++ [(108 : Int32)]) ++ [(105 : Int32)]) ++ [(110 : Int32)]) ++ [(101 : Int32)]) ++ [(32 : Int32)]) ++ [(Int32.ofNat (48 + n_ / 1000000 % 10))]).length) #[.val (.int fa), .val (.int la), .val (.int ra), .val (.int ((XT.ushr fa (24 : Int32)) &&& (3 : Int32))), .val (.int ((XT.ushr ra (24 : Int32)) &&& (3 : Int32))), .val (.int (fa &&& (255 : Int32))), .val (.int ((XT.ushr fa (8 : Int32)) &&& (255 : Int32))), .val (.int ((XT.ushr fa (16 : Int32)) &&& (255 : Int32))), .val (.int (ra &&& (255 : Int32))), .val (.int ((XT.ushr ra (8 : Int32)) &&& (255 : Int32))), .val (.int ((XT.ushr ra (16 : Int32)) &&& (255 : Int32))), .val (.ref u1), .val (.ref u2), .val (.ref pp), .val (.ref e_), .val (.int (Int32.ofNat (((((((((mkV ((XT.ushr fa (24 : Int32)) &&& (3 : Int32)) (fa &&& (255 : Int32)) ((XT.ushr fa (8 : Int32)) &&& (255 : Int32)) ((XT.ushr fa (16 : Int32)) &&& (255 : Int32))) ++ [(44 : Int32)]) ++ [(32 : Int32)]) ++ [(108 : Int32)]) ++ [(105 : Int32)]) ++ [(110 : Int32)]) ++ [(101 : Int32)]) ++ [(32 : Int32)]) ++ [(Int32.ofNat (48 + n_ / 1000000 % 10))]).length)), .val (.int (Int32.ofNat 7))] 331 at_328 rfl rfl incL rfl ?_
        refine Go.iload 333 at_331 rfl rfl ?_
        refine Go.iconst (5) 334 at_333 rfl rfl ?_
        refine Go.if_icmple 350 337 at_334 (by decide) rfl rfl (fun q1524 => absurd (by decide) q1524) (fun q1524 => ?_)
        refine Go.aload 339 at_337 rfl rfl rfl ?_
        refine Go.iload 341 at_339 rfl rfl ?_
        refine Go.iload_n 342 at_341 rfl rfl ?_
        refine Go.iconst (5) 343 at_342 rfl rfl ?_
        refine Go.invokestatic (rest := [.int (Int32.ofNat (((((((((mkV ((XT.ushr fa (24 : Int32)) &&& (3 : Int32)) (fa &&& (255 : Int32)) ((XT.ushr fa (8 : Int32)) &&& (255 : Int32)) ((XT.ushr fa (16 : Int32)) &&& (255 : Int32))) ++ [(44 : Int32)]) ++ [(32 : Int32)]) ++ [(108 : Int32)]) ++ [(105 : Int32)]) ++ [(110 : Int32)]) ++ [(101 : Int32)]) ++ [(32 : Int32)]) ++ [(Int32.ofNat (48 + n_ / 1000000 % 10))]).length), .ref e_]) 2 [.int la, .int (5 : Int32)] 346 at_343 rfl (W.1 54 rfl) (W.1 55 rfl) (W.1 2 rfl) (W.1 56 rfl) (by decide) (cDig W (t_ := 100000) hla hn (by decide) rfl (by decide)) (by decide +kernel : parseMethodDescriptor "(II)C" = some ⟨[.int, .int], (some .char)⟩) rfl rfl rfl (nl rfl) (nl rfl) (nl rfl) (nl rfl) (nl rfl) (fun v1585 vm1585 h1585 ⟨rv, Ed1574⟩ c1585 => ?_)
        subst rv
        have f1586 := A1523.ext Ed1574
        have f1587 := CHr.safe c1585 A1523.lt S1523
        have L1587 := Nat.lt_of_lt_of_le A1523.lt c1585.2.1
        refine Go.pushC (((((((((mkV ((XT.ushr fa (24 : Int32)) &&& (3 : Int32)) (fa &&& (255 : Int32)) ((XT.ushr fa (8 : Int32)) &&& (255 : Int32)) ((XT.ushr fa (16 : Int32)) &&& (255 : Int32))) ++ [(44 : Int32)]) ++ [(32 : Int32)]) ++ [(108 : Int32)]) ++ [(105 : Int32)]) ++ [(110 : Int32)]) ++ [(101 : Int32)]) ++ [(32 : Int32)]) ++ [(Int32.ofNat (48 + n_ / 1000000 % 10))]) 25 347 at_346 rfl f1586 rfl rfl (by first | omega | (simp only [List.length_append, List.length_cons, List.length_nil]; omega)) (narC (dg48 _)) f1587 z10 (fun h1588 K1588 A1588 S1588 c1588 => ?_)
        have E1588 := Ext.kp1 (Ext.tr E1523 Ed1574) K1588 e10
        refine Go.iinc (Int32.ofNat ((((((((((mkV ((XT.ushr fa (24 : Int32)) &&& (3 : Int32)) (fa &&& (255 : Int32)) ((XT.ushr fa (8 : Int32)) &&& (255 : Int32)) ((XT.ushr fa (16 : Int32)) &&& (255 : Int32))) ++ [(44 : Int32)]) ++ [(32 : Int32)]) ++ [(108 : Int32)]) ++ [(105 : Int32)]) ++ [(110 : Int32)]) ++ [(101 : Int32)]) ++ [(32 : Int32)]) ++ [(Int32.ofNat (48 + n_ / 1000000 % 10))]) ++ [(Int32.ofNat (48 + n_ / 100000 % 10))]).length) #[.val (.int fa), .val (.int la), .val (.int ra), .val (.int ((XT.ushr fa (24 : Int32)) &&& (3 : Int32))), .val (.int ((XT.ushr ra (24 : Int32)) &&& (3 : Int32))), .val (.int (fa &&& (255 : Int32))), .val (.int ((XT.ushr fa (8 : Int32)) &&& (255 : Int32))), .val (.int ((XT.ushr fa (16 : Int32)) &&& (255 : Int32))), .val (.int (ra &&& (255 : Int32))), .val (.int ((XT.ushr ra (8 : Int32)) &&& (255 : Int32))), .val (.int ((XT.ushr ra (16 : Int32)) &&& (255 : Int32))), .val (.ref u1), .val (.ref u2), .val (.ref pp), .val (.ref e_), .val (.int (Int32.ofNat ((((((((((mkV ((XT.ushr fa (24 : Int32)) &&& (3 : Int32)) (fa &&& (255 : Int32)) ((XT.ushr fa (8 : Int32)) &&& (255 : Int32)) ((XT.ushr fa (16 : Int32)) &&& (255 : Int32))) ++ [(44 : Int32)]) ++ [(32 : Int32)]) ++ [(108 : Int32)]) ++ [(105 : Int32)]) ++ [(110 : Int32)]) ++ [(101 : Int32)]) ++ [(32 : Int32)]) ++ [(Int32.ofNat (48 + n_ / 1000000 % 10))]) ++ [(Int32.ofNat (48 + n_ / 100000 % 10))]).length)), .val (.int (Int32.ofNat 7))] 350 at_347 rfl rfl incL rfl ?_
        refine Go.iload 352 at_350 rfl rfl ?_
        refine Go.iconst (4) 353 at_352 rfl rfl ?_
        refine Go.if_icmple 369 356 at_353 (by decide) rfl rfl (fun q1589 => absurd (by decide) q1589) (fun q1589 => ?_)
        refine Go.aload 358 at_356 rfl rfl rfl ?_
        refine Go.iload 360 at_358 rfl rfl ?_
        refine Go.iload_n 361 at_360 rfl rfl ?_
        refine Go.iconst (4) 362 at_361 rfl rfl ?_
        refine Go.invokestatic (rest := [.int (Int32.ofNat ((((((((((mkV ((XT.ushr fa (24 : Int32)) &&& (3 : Int32)) (fa &&& (255 : Int32)) ((XT.ushr fa (8 : Int32)) &&& (255 : Int32)) ((XT.ushr fa (16 : Int32)) &&& (255 : Int32))) ++ [(44 : Int32)]) ++ [(32 : Int32)]) ++ [(108 : Int32)]) ++ [(105 : Int32)]) ++ [(110 : Int32)]) ++ [(101 : Int32)]) ++ [(32 : Int32)]) ++ [(Int32.ofNat (48 + n_ / 1000000 % 10))]) ++ [(Int32.ofNat (48 + n_ / 100000 % 10))]).length), .ref e_]) 2 [.int la, .int (4 : Int32)] 365 at_362 rfl (W.1 54 rfl) (W.1 55 rfl) (W.1 2 rfl) (W.1 56 rfl) (by decide) (cDig W (t_ := 10000) hla hn (by decide) rfl (by decide)) (by decide +kernel : parseMethodDescriptor "(II)C" = some ⟨[.int, .int], (some .char)⟩) rfl rfl rfl (nl rfl) (nl rfl) (nl rfl) (nl rfl) (nl rfl) (fun v1650 vm1650 h1650 ⟨rv, Ed1639⟩ c1650 => ?_)
        subst rv
        have f1651 := A1588.ext Ed1639
        have f1652 := CHr.safe c1650 A1588.lt S1588
        have L1652 := Nat.lt_of_lt_of_le A1588.lt c1650.2.1
        refine Go.pushC ((((((((((mkV ((XT.ushr fa (24 : Int32)) &&& (3 : Int32)) (fa &&& (255 : Int32)) ((XT.ushr fa (8 : Int32)) &&& (255 : Int32)) ((XT.ushr fa (16 : Int32)) &&& (255 : Int32))) ++ [(44 : Int32)]) ++ [(32 : Int32)]) ++ [(108 : Int32)]) ++ [(105 : Int32)]) ++ [(110 : Int32)]) ++ [(101 : Int32)]) ++ [(32 : Int32)]) ++ [(Int32.ofNat (48 + n_ / 1000000 % 10))]) ++ [(Int32.ofNat (48 + n_ / 100000 % 10))]) 25 366 at_365 rfl f1651 rfl rfl (by first | omega | (simp only [List.length_append, List.length_cons, List.length_nil]; omega)) (narC (dg48 _)) f1652 z10 (fun h1653 K1653 A1653 S1653 c1653 => ?_)
        have E1653 := Ext.kp1 (Ext.tr E1588 Ed1639) K1653 e10
        refine Go.iinc (Int32.ofNat (((((((((((mkV ((XT.ushr fa (24 : Int32)) &&& (3 : Int32)) (fa &&& (255 : Int32)) ((XT.ushr fa (8 : Int32)) &&& (255 : Int32)) ((XT.ushr fa (16 : Int32)) &&& (255 : Int32))) ++ [(44 : Int32)]) ++ [(32 : Int32)]) ++ [(108 : Int32)]) ++ [(105 : Int32)]) ++ [(110 : Int32)]) ++ [(101 : Int32)]) ++ [(32 : Int32)]) ++ [(Int32.ofNat (48 + n_ / 1000000 % 10))]) ++ [(Int32.ofNat (48 + n_ / 100000 % 10))]) ++ [(Int32.ofNat (48 + n_ / 10000 % 10))]).length) #[.val (.int fa), .val (.int la), .val (.int ra), .val (.int ((XT.ushr fa (24 : Int32)) &&& (3 : Int32))), .val (.int ((XT.ushr ra (24 : Int32)) &&& (3 : Int32))), .val (.int (fa &&& (255 : Int32))), .val (.int ((XT.ushr fa (8 : Int32)) &&& (255 : Int32))), .val (.int ((XT.ushr fa (16 : Int32)) &&& (255 : Int32))), .val (.int (ra &&& (255 : Int32))), .val (.int ((XT.ushr ra (8 : Int32)) &&& (255 : Int32))), .val (.int ((XT.ushr ra (16 : Int32)) &&& (255 : Int32))), .val (.ref u1), .val (.ref u2), .val (.ref pp), .val (.ref e_), .val (.int (Int32.ofNat (((((((((((mkV ((XT.ushr fa (24 : Int32)) &&& (3 : Int32)) (fa &&& (255 : Int32)) ((XT.ushr fa (8 : Int32)) &&& (255 : Int32)) ((XT.ushr fa (16 : Int32)) &&& (255 : Int32))) ++ [(44 : Int32)]) ++ [(32 : Int32)]) ++ [(108 : Int32)]) ++ [(105 : Int32)]) ++ [(110 : Int32)]) ++ [(101 : Int32)]) ++ [(32 : Int32)]) ++ [(Int32.ofNat (48 + n_ / 1000000 % 10))]) ++ [(Int32.ofNat (48 + n_ / 100000 % 10))]) ++ [(Int32.ofNat (48 + n_ / 10000 % 10))]).length)), .val (.int (Int32.ofNat 7))] 369 at_366 rfl rfl incL rfl ?_
        refine Go.iload 371 at_369 rfl rfl ?_
        refine Go.iconst (3) 372 at_371 rfl rfl ?_
        refine Go.if_icmple 388 375 at_372 (by decide) rfl rfl (fun q1654 => absurd (by decide) q1654) (fun q1654 => ?_)
        refine Go.aload 377 at_375 rfl rfl rfl ?_
        refine Go.iload 379 at_377 rfl rfl ?_
        refine Go.iload_n 380 at_379 rfl rfl ?_
        refine Go.iconst (3) 381 at_380 rfl rfl ?_
        refine Go.invokestatic (rest := [.int (Int32.ofNat (((((((((((mkV ((XT.ushr fa (24 : Int32)) &&& (3 : Int32)) (fa &&& (255 : Int32)) ((XT.ushr fa (8 : Int32)) &&& (255 : Int32)) ((XT.ushr fa (16 : Int32)) &&& (255 : Int32))) ++ [(44 : Int32)]) ++ [(32 : Int32)]) ++ [(108 : Int32)]) ++ [(105 : Int32)]) ++ [(110 : Int32)]) ++ [(101 : Int32)]) ++ [(32 : Int32)]) ++ [(Int32.ofNat (48 + n_ / 1000000 % 10))]) ++ [(Int32.ofNat (48 + n_ / 100000 % 10))]) ++ [(Int32.ofNat (48 + n_ / 10000 % 10))]).length), .ref e_]) 2 [.int la, .int (3 : Int32)] 384 at_381 rfl (W.1 54 rfl) (W.1 55 rfl) (W.1 2 rfl) (W.1 56 rfl) (by decide) (cDig W (t_ := 1000) hla hn (by decide) rfl (by decide)) (by decide +kernel : parseMethodDescriptor "(II)C" = some ⟨[.int, .int], (some .char)⟩) rfl rfl rfl (nl rfl) (nl rfl) (nl rfl) (nl rfl) (nl rfl) (fun v1715 vm1715 h1715 ⟨rv, Ed1704⟩ c1715 => ?_)
        subst rv
        have f1716 := A1653.ext Ed1704
        have f1717 := CHr.safe c1715 A1653.lt S1653
        have L1717 := Nat.lt_of_lt_of_le A1653.lt c1715.2.1
        refine Go.pushC (((((((((((mkV ((XT.ushr fa (24 : Int32)) &&& (3 : Int32)) (fa &&& (255 : Int32)) ((XT.ushr fa (8 : Int32)) &&& (255 : Int32)) ((XT.ushr fa (16 : Int32)) &&& (255 : Int32))) ++ [(44 : Int32)]) ++ [(32 : Int32)]) ++ [(108 : Int32)]) ++ [(105 : Int32)]) ++ [(110 : Int32)]) ++ [(101 : Int32)]) ++ [(32 : Int32)]) ++ [(Int32.ofNat (48 + n_ / 1000000 % 10))]) ++ [(Int32.ofNat (48 + n_ / 100000 % 10))]) ++ [(Int32.ofNat (48 + n_ / 10000 % 10))]) 25 385 at_384 rfl f1716 rfl rfl (by first | omega | (simp only [List.length_append, List.length_cons, List.length_nil]; omega)) (narC (dg48 _)) f1717 z10 (fun h1718 K1718 A1718 S1718 c1718 => ?_)
        have E1718 := Ext.kp1 (Ext.tr E1653 Ed1704) K1718 e10
        refine Go.iinc (Int32.ofNat ((((((((((((mkV ((XT.ushr fa (24 : Int32)) &&& (3 : Int32)) (fa &&& (255 : Int32)) ((XT.ushr fa (8 : Int32)) &&& (255 : Int32)) ((XT.ushr fa (16 : Int32)) &&& (255 : Int32))) ++ [(44 : Int32)]) ++ [(32 : Int32)]) ++ [(108 : Int32)]) ++ [(105 : Int32)]) ++ [(110 : Int32)]) ++ [(101 : Int32)]) ++ [(32 : Int32)]) ++ [(Int32.ofNat (48 + n_ / 1000000 % 10))]) ++ [(Int32.ofNat (48 + n_ / 100000 % 10))]) ++ [(Int32.ofNat (48 + n_ / 10000 % 10))]) ++ [(Int32.ofNat (48 + n_ / 1000 % 10))]).length) #[.val (.int fa), .val (.int la), .val (.int ra), .val (.int ((XT.ushr fa (24 : Int32)) &&& (3 : Int32))), .val (.int ((XT.ushr ra (24 : Int32)) &&& (3 : Int32))), .val (.int (fa &&& (255 : Int32))), .val (.int ((XT.ushr fa (8 : Int32)) &&& (255 : Int32))), .val (.int ((XT.ushr fa (16 : Int32)) &&& (255 : Int32))), .val (.int (ra &&& (255 : Int32))), .val (.int ((XT.ushr ra (8 : Int32)) &&& (255 : Int32))), .val (.int ((XT.ushr ra (16 : Int32)) &&& (255 : Int32))), .val (.ref u1), .val (.ref u2), .val (.ref pp), .val (.ref e_), .val (.int (Int32.ofNat ((((((((((((mkV ((XT.ushr fa (24 : Int32)) &&& (3 : Int32)) (fa &&& (255 : Int32)) ((XT.ushr fa (8 : Int32)) &&& (255 : Int32)) ((XT.ushr fa (16 : Int32)) &&& (255 : Int32))) ++ [(44 : Int32)]) ++ [(32 : Int32)]) ++ [(108 : Int32)]) ++ [(105 : Int32)]) ++ [(110 : Int32)]) ++ [(101 : Int32)]) ++ [(32 : Int32)]) ++ [(Int32.ofNat (48 + n_ / 1000000 % 10))]) ++ [(Int32.ofNat (48 + n_ / 100000 % 10))]) ++ [(Int32.ofNat (48 + n_ / 10000 % 10))]) ++ [(Int32.ofNat (48 + n_ / 1000 % 10))]).length)), .val (.int (Int32.ofNat 7))] 388 at_385 rfl rfl incL rfl ?_
        refine Go.iload 390 at_388 rfl rfl ?_
        refine Go.iconst (2) 391 at_390 rfl rfl ?_
        refine Go.if_icmple 407 394 at_391 (by decide) rfl rfl (fun q1719 => absurd (by decide) q1719) (fun q1719 => ?_)
        refine Go.aload 396 at_394 rfl rfl rfl ?_
        refine Go.iload 398 at_396 rfl rfl ?_
        refine Go.iload_n 399 at_398 rfl rfl ?_
        refine Go.iconst (2) 400 at_399 rfl rfl ?_
        refine Go.invokestatic (rest := [.int (Int32.ofNat ((((((((((((mkV ((XT.ushr fa (24 : Int32)) &&& (3 : Int32)) (fa &&& (255 : Int32)) ((XT.ushr fa (8 : Int32)) &&& (255 : Int32)) ((XT.ushr fa (16 : Int32)) &&& (255 : Int32))) ++ [(44 : Int32)]) ++ [(32 : Int32)]) ++ [(108 : Int32)]) ++ [(105 : Int32)]) ++ [(110 : Int32)]) ++ [(101 : Int32)]) ++ [(32 : Int32)]) ++ [(Int32.ofNat (48 + n_ / 1000000 % 10))]) ++ [(Int32.ofNat (48 + n_ / 100000 % 10))]) ++ [(Int32.ofNat (48 + n_ / 10000 % 10))]) ++ [(Int32.ofNat (48 + n_ / 1000 % 10))]).length), .ref e_]) 2 [.int la, .int (2 : Int32)] 403 at_400 rfl (W.1 54 rfl) (W.1 55 rfl) (W.1 2 rfl) (W.1 56 rfl) (by decide) (cDig W (t_ := 100) hla hn (by decide) rfl (by decide)) (by decide +kernel : parseMethodDescriptor "(II)C" = some ⟨[.int, .int], (some .char)⟩) rfl rfl rfl (nl rfl) (nl rfl) (nl rfl) (nl rfl) (nl rfl) (fun v1780 vm1780 h1780 ⟨rv, Ed1769⟩ c1780 => ?_)
        subst rv
        have f1781 := A1718.ext Ed1769
        have f1782 := CHr.safe c1780 A1718.lt S1718
        have L1782 := Nat.lt_of_lt_of_le A1718.lt c1780.2.1
        refine Go.pushC ((((((((((((mkV ((XT.ushr fa (24 : Int32)) &&& (3 : Int32)) (fa &&& (255 : Int32)) ((XT.ushr fa (8 : Int32)) &&& (255 : Int32)) ((XT.ushr fa (16 : Int32)) &&& (255 : Int32))) ++ [(44 : Int32)]) ++ [(32 : Int32)]) ++ [(108 : Int32)]) ++ [(105 : Int32)]) ++ [(110 : Int32)]) ++ [(101 : Int32)]) ++ [(32 : Int32)]) ++ [(Int32.ofNat (48 + n_ / 1000000 % 10))]) ++ [(Int32.ofNat (48 + n_ / 100000 % 10))]) ++ [(Int32.ofNat (48 + n_ / 10000 % 10))]) ++ [(Int32.ofNat (48 + n_ / 1000 % 10))]) 25 404 at_403 rfl f1781 rfl rfl (by first | omega | (simp only [List.length_append, List.length_cons, List.length_nil]; omega)) (narC (dg48 _)) f1782 z10 (fun h1783 K1783 A1783 S1783 c1783 => ?_)
        have E1783 := Ext.kp1 (Ext.tr E1718 Ed1769) K1783 e10
        refine Go.iinc (Int32.ofNat (((((((((((((mkV ((XT.ushr fa (24 : Int32)) &&& (3 : Int32)) (fa &&& (255 : Int32)) ((XT.ushr fa (8 : Int32)) &&& (255 : Int32)) ((XT.ushr fa (16 : Int32)) &&& (255 : Int32))) ++ [(44 : Int32)]) ++ [(32 : Int32)]) ++ [(108 : Int32)]) ++ [(105 : Int32)]) ++ [(110 : Int32)]) ++ [(101 : Int32)]) ++ [(32 : Int32)]) ++ [(Int32.ofNat (48 + n_ / 1000000 % 10))]) ++ [(Int32.ofNat (48 + n_ / 100000 % 10))]) ++ [(Int32.ofNat (48 + n_ / 10000 % 10))]) ++ [(Int32.ofNat (48 + n_ / 1000 % 10))]) ++ [(Int32.ofNat (48 + n_ / 100 % 10))]).length) #[.val (.int fa), .val (.int la), .val (.int ra), .val (.int ((XT.ushr fa (24 : Int32)) &&& (3 : Int32))), .val (.int ((XT.ushr ra (24 : Int32)) &&& (3 : Int32))), .val (.int (fa &&& (255 : Int32))), .val (.int ((XT.ushr fa (8 : Int32)) &&& (255 : Int32))), .val (.int ((XT.ushr fa (16 : Int32)) &&& (255 : Int32))), .val (.int (ra &&& (255 : Int32))), .val (.int ((XT.ushr ra (8 : Int32)) &&& (255 : Int32))), .val (.int ((XT.ushr ra (16 : Int32)) &&& (255 : Int32))), .val (.ref u1), .val (.ref u2), .val (.ref pp), .val (.ref e_), .val (.int (Int32.ofNat (((((((((((((mkV ((XT.ushr fa (24 : Int32)) &&& (3 : Int32)) (fa &&& (255 : Int32)) ((XT.ushr fa (8 : Int32)) &&& (255 : Int32)) ((XT.ushr fa (16 : Int32)) &&& (255 : Int32))) ++ [(44 : Int32)]) ++ [(32 : Int32)]) ++ [(108 : Int32)]) ++ [(105 : Int32)]) ++ [(110 : Int32)]) ++ [(101 : Int32)]) ++ [(32 : Int32)]) ++ [(Int32.ofNat (48 + n_ / 1000000 % 10))]) ++ [(Int32.ofNat (48 + n_ / 100000 % 10))]) ++ [(Int32.ofNat (48 + n_ / 10000 % 10))]) ++ [(Int32.ofNat (48 + n_ / 1000 % 10))]) ++ [(Int32.ofNat (48 + n_ / 100 % 10))]).length)), .val (.int (Int32.ofNat 7))] 407 at_404 rfl rfl incL rfl ?_
        refine Go.iload 409 at_407 rfl rfl ?_
        refine Go.iconst (1) 410 at_409 rfl rfl ?_
        refine Go.if_icmple 426 413 at_410 (by decide) rfl rfl (fun q1784 => absurd (by decide) q1784) (fun q1784 => ?_)
        refine Go.aload 415 at_413 rfl rfl rfl ?_
        refine Go.iload 417 at_415 rfl rfl ?_
        refine Go.iload_n 418 at_417 rfl rfl ?_
        refine Go.iconst (1) 419 at_418 rfl rfl ?_
        refine Go.invokestatic (rest := [.int (Int32.ofNat (((((((((((((mkV ((XT.ushr fa (24 : Int32)) &&& (3 : Int32)) (fa &&& (255 : Int32)) ((XT.ushr fa (8 : Int32)) &&& (255 : Int32)) ((XT.ushr fa (16 : Int32)) &&& (255 : Int32))) ++ [(44 : Int32)]) ++ [(32 : Int32)]) ++ [(108 : Int32)]) ++ [(105 : Int32)]) ++ [(110 : Int32)]) ++ [(101 : Int32)]) ++ [(32 : Int32)]) ++ [(Int32.ofNat (48 + n_ / 1000000 % 10))]) ++ [(Int32.ofNat (48 + n_ / 100000 % 10))]) ++ [(Int32.ofNat (48 + n_ / 10000 % 10))]) ++ [(Int32.ofNat (48 + n_ / 1000 % 10))]) ++ [(Int32.ofNat (48 + n_ / 100 % 10))]).length), .ref e_]) 2 [.int la, .int (1 : Int32)] 422 at_419 rfl (W.1 54 rfl) (W.1 55 rfl) (W.1 2 rfl) (W.1 56 rfl) (by decide) (cDig W (t_ := 10) hla hn (by decide) rfl (by decide)) (by decide +kernel : parseMethodDescriptor "(II)C" = some ⟨[.int, .int], (some .char)⟩) rfl rfl rfl (nl rfl) (nl rfl) (nl rfl) (nl rfl) (nl rfl) (fun v1845 vm1845 h1845 ⟨rv, Ed1834⟩ c1845 => ?_)
        subst rv
        have f1846 := A1783.ext Ed1834
        have f1847 := CHr.safe c1845 A1783.lt S1783
        have L1847 := Nat.lt_of_lt_of_le A1783.lt c1845.2.1
        refine Go.pushC (((((((((((((mkV ((XT.ushr fa (24 : Int32)) &&& (3 : Int32)) (fa &&& (255 : Int32)) ((XT.ushr fa (8 : Int32)) &&& (255 : Int32)) ((XT.ushr fa (16 : Int32)) &&& (255 : Int32))) ++ [(44 : Int32)]) ++ [(32 : Int32)]) ++ [(108 : Int32)]) ++ [(105 : Int32)]) ++ [(110 : Int32)]) ++ [(101 : Int32)]) ++ [(32 : Int32)]) ++ [(Int32.ofNat (48 + n_ / 1000000 % 10))]) ++ [(Int32.ofNat (48 + n_ / 100000 % 10))]) ++ [(Int32.ofNat (48 + n_ / 10000 % 10))]) ++ [(Int32.ofNat (48 + n_ / 1000 % 10))]) ++ [(Int32.ofNat (48 + n_ / 100 % 10))]) 25 423 at_422 rfl f1846 rfl rfl (by first | omega | (simp only [List.length_append, List.length_cons, List.length_nil]; omega)) (narC (dg48 _)) f1847 z10 (fun h1848 K1848 A1848 S1848 c1848 => ?_)
        have E1848 := Ext.kp1 (Ext.tr E1783 Ed1834) K1848 e10
        refine Go.iinc (Int32.ofNat ((((((((((((((mkV ((XT.ushr fa (24 : Int32)) &&& (3 : Int32)) (fa &&& (255 : Int32)) ((XT.ushr fa (8 : Int32)) &&& (255 : Int32)) ((XT.ushr fa (16 : Int32)) &&& (255 : Int32))) ++ [(44 : Int32)]) ++ [(32 : Int32)]) ++ [(108 : Int32)]) ++ [(105 : Int32)]) ++ [(110 : Int32)]) ++ [(101 : Int32)]) ++ [(32 : Int32)]) ++ [(Int32.ofNat (48 + n_ / 1000000 % 10))]) ++ [(Int32.ofNat (48 + n_ / 100000 % 10))]) ++ [(Int32.ofNat (48 + n_ / 10000 % 10))]) ++ [(Int32.ofNat (48 + n_ / 1000 % 10))]) ++ [(Int32.ofNat (48 + n_ / 100 % 10))]) ++ [(Int32.ofNat (48 + n_ / 10 % 10))]).length) #[.val (.int fa), .val (.int la), .val (.int ra), .val (.int ((XT.ushr fa (24 : Int32)) &&& (3 : Int32))), .val (.int ((XT.ushr ra (24 : Int32)) &&& (3 : Int32))), .val (.int (fa &&& (255 : Int32))), .val (.int ((XT.ushr fa (8 : Int32)) &&& (255 : Int32))), .val (.int ((XT.ushr fa (16 : Int32)) &&& (255 : Int32))), .val (.int (ra &&& (255 : Int32))), .val (.int ((XT.ushr ra (8 : Int32)) &&& (255 : Int32))), .val (.int ((XT.ushr ra (16 : Int32)) &&& (255 : Int32))), .val (.ref u1), .val (.ref u2), .val (.ref pp), .val (.ref e_), .val (.int (Int32.ofNat ((((((((((((((mkV ((XT.ushr fa (24 : Int32)) &&& (3 : Int32)) (fa &&& (255 : Int32)) ((XT.ushr fa (8 : Int32)) &&& (255 : Int32)) ((XT.ushr fa (16 : Int32)) &&& (255 : Int32))) ++ [(44 : Int32)]) ++ [(32 : Int32)]) ++ [(108 : Int32)]) ++ [(105 : Int32)]) ++ [(110 : Int32)]) ++ [(101 : Int32)]) ++ [(32 : Int32)]) ++ [(Int32.ofNat (48 + n_ / 1000000 % 10))]) ++ [(Int32.ofNat (48 + n_ / 100000 % 10))]) ++ [(Int32.ofNat (48 + n_ / 10000 % 10))]) ++ [(Int32.ofNat (48 + n_ / 1000 % 10))]) ++ [(Int32.ofNat (48 + n_ / 100 % 10))]) ++ [(Int32.ofNat (48 + n_ / 10 % 10))]).length)), .val (.int (Int32.ofNat 7))] 426 at_423 rfl rfl incL rfl ?_
        refine Go.aload 428 at_426 rfl rfl rfl ?_
        refine Go.iload 430 at_428 rfl rfl ?_
        refine Go.iload_n 431 at_430 rfl rfl ?_
        refine Go.iconst (0) 432 at_431 rfl rfl ?_
        refine Go.invokestatic (rest := [.int (Int32.ofNat ((((((((((((((mkV ((XT.ushr fa (24 : Int32)) &&& (3 : Int32)) (fa &&& (255 : Int32)) ((XT.ushr fa (8 : Int32)) &&& (255 : Int32)) ((XT.ushr fa (16 : Int32)) &&& (255 : Int32))) ++ [(44 : Int32)]) ++ [(32 : Int32)]) ++ [(108 : Int32)]) ++ [(105 : Int32)]) ++ [(110 : Int32)]) ++ [(101 : Int32)]) ++ [(32 : Int32)]) ++ [(Int32.ofNat (48 + n_ / 1000000 % 10))]) ++ [(Int32.ofNat (48 + n_ / 100000 % 10))]) ++ [(Int32.ofNat (48 + n_ / 10000 % 10))]) ++ [(Int32.ofNat (48 + n_ / 1000 % 10))]) ++ [(Int32.ofNat (48 + n_ / 100 % 10))]) ++ [(Int32.ofNat (48 + n_ / 10 % 10))]).length), .ref e_]) 2 [.int la, .int (0 : Int32)] 435 at_432 rfl (W.1 54 rfl) (W.1 55 rfl) (W.1 2 rfl) (W.1 56 rfl) (by decide) (cDig W (t_ := 1) hla hn (by decide) rfl (by decide)) (by decide +kernel : parseMethodDescriptor "(II)C" = some ⟨[.int, .int], (some .char)⟩) rfl rfl rfl (nl rfl) (nl rfl) (nl rfl) (nl rfl) (nl rfl) (fun v1909 vm1909 h1909 ⟨rv, Ed1898⟩ c1909 => ?_)
        subst rv
        have f1910 := A1848.ext Ed1898
        have f1911 := CHr.safe c1909 A1848.lt S1848
        have L1911 := Nat.lt_of_lt_of_le A1848.lt c1909.2.1
        refine Go.pushC ((((((((((((((mkV ((XT.ushr fa (24 : Int32)) &&& (3 : Int32)) (fa &&& (255 : Int32)) ((XT.ushr fa (8 : Int32)) &&& (255 : Int32)) ((XT.ushr fa (16 : Int32)) &&& (255 : Int32))) ++ [(44 : Int32)]) ++ [(32 : Int32)]) ++ [(108 : Int32)]) ++ [(105 : Int32)]) ++ [(110 : Int32)]) ++ [(101 : Int32)]) ++ [(32 : Int32)]) ++ [(Int32.ofNat (48 + n_ / 1000000 % 10))]) ++ [(Int32.ofNat (48 + n_ / 100000 % 10))]) ++ [(Int32.ofNat (48 + n_ / 10000 % 10))]) ++ [(Int32.ofNat (48 + n_ / 1000 % 10))]) ++ [(Int32.ofNat (48 + n_ / 100 % 10))]) ++ [(Int32.ofNat (48 + n_ / 10 % 10))]) 25 436 at_435 rfl f1910 rfl rfl (by first | omega | (simp only [List.length_append, List.length_cons, List.length_nil]; omega)) (narC (dg48 _)) f1911 z10 (fun h1912 K1912 A1912 S1912 c1912 => ?_)
        have E1912 := Ext.kp1 (Ext.tr E1848 Ed1898) K1912 e10
        refine Go.iinc (Int32.ofNat (((((((((((((((mkV ((XT.ushr fa (24 : Int32)) &&& (3 : Int32)) (fa &&& (255 : Int32)) ((XT.ushr fa (8 : Int32)) &&& (255 : Int32)) ((XT.ushr fa (16 : Int32)) &&& (255 : Int32))) ++ [(44 : Int32)]) ++ [(32 : Int32)]) ++ [(108 : Int32)]) ++ [(105 : Int32)]) ++ [(110 : Int32)]) ++ [(101 : Int32)]) ++ [(32 : Int32)]) ++ [(Int32.ofNat (48 + n_ / 1000000 % 10))]) ++ [(Int32.ofNat (48 + n_ / 100000 % 10))]) ++ [(Int32.ofNat (48 + n_ / 10000 % 10))]) ++ [(Int32.ofNat (48 + n_ / 1000 % 10))]) ++ [(Int32.ofNat (48 + n_ / 100 % 10))]) ++ [(Int32.ofNat (48 + n_ / 10 % 10))]) ++ [(Int32.ofNat (48 + n_ / 1 % 10))]).length) #[.val (.int fa), .val (.int la), .val (.int ra), .val (.int ((XT.ushr fa (24 : Int32)) &&& (3 : Int32))), .val (.int ((XT.ushr ra (24 : Int32)) &&& (3 : Int32))), .val (.int (fa &&& (255 : Int32))), .val (.int ((XT.ushr fa (8 : Int32)) &&& (255 : Int32))), .val (.int ((XT.ushr fa (16 : Int32)) &&& (255 : Int32))), .val (.int (ra &&& (255 : Int32))), .val (.int ((XT.ushr ra (8 : Int32)) &&& (255 : Int32))), .val (.int ((XT.ushr ra (16 : Int32)) &&& (255 : Int32))), .val (.ref u1), .val (.ref u2), .val (.ref pp), .val (.ref e_), .val (.int (Int32.ofNat (((((((((((((((mkV ((XT.ushr fa (24 : Int32)) &&& (3 : Int32)) (fa &&& (255 : Int32)) ((XT.ushr fa (8 : Int32)) &&& (255 : Int32)) ((XT.ushr fa (16 : Int32)) &&& (255 : Int32))) ++ [(44 : Int32)]) ++ [(32 : Int32)]) ++ [(108 : Int32)]) ++ [(105 : Int32)]) ++ [(110 : Int32)]) ++ [(101 : Int32)]) ++ [(32 : Int32)]) ++ [(Int32.ofNat (48 + n_ / 1000000 % 10))]) ++ [(Int32.ofNat (48 + n_ / 100000 % 10))]) ++ [(Int32.ofNat (48 + n_ / 10000 % 10))]) ++ [(Int32.ofNat (48 + n_ / 1000 % 10))]) ++ [(Int32.ofNat (48 + n_ / 100 % 10))]) ++ [(Int32.ofNat (48 + n_ / 10 % 10))]) ++ [(Int32.ofNat (48 + n_ / 1 % 10))]).length)), .val (.int (Int32.ofNat 7))] 439 at_436 rfl rfl incL rfl ?_
        refine Go.mono (k' := 28) (n' := 216) (nl rfl) (nl rfl) ?_
        exact J439 _ ([44, 32, 108, 105, 110, 101, 32] ++ dgL 7 n_) _ _ _ (Or.inr ⟨_, rfl, rfl⟩) (by simp [dgL, Nat.div_div_eq_div_mul]) (Or.inr ⟨q, 7, n_, hla, hn, hs, rfl⟩) E1912 A1912 S1912
      · refine Go.iload 249 at_247 rfl rfl ?_
        refine Go.bipush (9) 251 at_249 rfl rfl ?_
        refine Go.if_icmple 268 254 at_251 (by decide) rfl rfl (fun q1913 => ?_) (fun q1913 => absurd q1913 (by decide))
        refine Go.iload 270 at_268 rfl rfl ?_
        refine Go.bipush (8) 272 at_270 rfl rfl ?_
        refine Go.if_icmple 289 275 at_272 (by decide) rfl rfl (fun q1914 => ?_) (fun q1914 => absurd q1914 (by decide))
        refine Go.iload 291 at_289 rfl rfl ?_
        refine Go.bipush (7) 293 at_291 rfl rfl ?_
        refine Go.if_icmple 310 296 at_293 (by decide) rfl rfl (fun q1915 => absurd (by decide) q1915) (fun q1915 => ?_)
        refine Go.aload 298 at_296 rfl rfl rfl ?_
        refine Go.iload 300 at_298 rfl rfl ?_
        refine Go.iload_n 301 at_300 rfl rfl ?_
        refine Go.bipush (7) 303 at_301 rfl rfl ?_
        refine Go.invokestatic (rest := [.int (Int32.ofNat ((((((((mkV ((XT.ushr fa (24 : Int32)) &&& (3 : Int32)) (fa &&& (255 : Int32)) ((XT.ushr fa (8 : Int32)) &&& (255 : Int32)) ((XT.ushr fa (16 : Int32)) &&& (255 : Int32))) ++ [(44 : Int32)]) ++ [(32 : Int32)]) ++ [(108 : Int32)]) ++ [(105 : Int32)]) ++ [(110 : Int32)]) ++ [(101 : Int32)]) ++ [(32 : Int32)]).length), .ref e_]) 2 [.int la, .int (7 : Int32)] 306 at_303 rfl (W.1 54 rfl) (W.1 55 rfl) (W.1 2 rfl) (W.1 56 rfl) (by decide) (cDig W (t_ := 10000000) hla hn (by decide) rfl (by decide)) (by decide +kernel : parseMethodDescriptor "(II)C" = some ⟨[.int, .int], (some .char)⟩) rfl rfl rfl (nl rfl) (nl rfl) (nl rfl) (nl rfl) (nl rfl) (fun v1976 vm1976 h1976 ⟨rv, Ed1965⟩ c1976 => ?_)
        subst rv
        have f1977 := A56.ext Ed1965
        have f1978 := CHr.safe (CHr.trans c57 c1976) A56.lt S56
        have L1978 := Nat.lt_of_lt_of_le A56.lt (CHr.trans c57 c1976).2.1
        refine Go.pushC ((((((((mkV ((XT.ushr fa (24 : Int32)) &&& (3 : Int32)) (fa &&& (255 : Int32)) ((XT.ushr fa (8 : Int32)) &&& (255 : Int32)) ((XT.ushr fa (16 : Int32)) &&& (255 : Int32))) ++ [(44 : Int32)]) ++ [(32 : Int32)]) ++ [(108 : Int32)]) ++ [(105 : Int32)]) ++ [(110 : Int32)]) ++ [(101 : Int32)]) ++ [(32 : Int32)]) 25 307 at_306 rfl f1977 rfl rfl (by first | omega | (simp only [List.length_append, List.length_cons, List.length_nil]; omega)) (narC (dg48 _)) f1978 z10 (fun h1979 K1979 A1979 S1979 c1979 => ?_)
        have E1979 := Ext.kp1 (Ext.tr E56 Ed1965) K1979 e10
        refine Go.iinc (Int32.ofNat (((((((((mkV ((XT.ushr fa (24 : Int32)) &&& (3 : Int32)) (fa &&& (255 : Int32)) ((XT.ushr fa (8 : Int32)) &&& (255 : Int32)) ((XT.ushr fa (16 : Int32)) &&& (255 : Int32))) ++ [(44 : Int32)]) ++ [(32 : Int32)]) ++ [(108 : Int32)]) ++ [(105 : Int32)]) ++ [(110 : Int32)]) ++ [(101 : Int32)]) ++ [(32 : Int32)]) ++ [(Int32.ofNat (48 + n_ / 10000000 % 10))]).length) #[.val (.int fa), .val (.int la), .val (.int ra), .val (.int ((XT.ushr fa (24 : Int32)) &&& (3 : Int32))), .val (.int ((XT.ushr ra (24 : Int32)) &&& (3 : Int32))), .val (.int (fa &&& (255 : Int32))), .val (.int ((XT.ushr fa (8 : Int32)) &&& (255 : Int32))), .val (.int ((XT.ushr fa (16 : Int32)) &&& (255 : Int32))), .val (.int (ra &&& (255 : Int32))), .val (.int ((XT.ushr ra (8 : Int32)) &&& (255 : Int32))), .val (.int ((XT.ushr ra (16 : Int32)) &&& (255 : Int32))), .val (.ref u1), .val (.ref u2), .val (.ref pp), .val (.ref e_), .val (.int (Int32.ofNat (((((((((mkV ((XT.ushr fa (24 : Int32)) &&& (3 : Int32)) (fa &&& (255 : Int32)) ((XT.ushr fa (8 : Int32)) &&& (255 : Int32)) ((XT.ushr fa (16 : Int32)) &&& (255 : Int32))) ++ [(44 : Int32)]) ++ [(32 : Int32)]) ++ [(108 : Int32)]) ++ [(105 : Int32)]) ++ [(110 : Int32)]) ++ [(101 : Int32)]) ++ [(32 : Int32)]) ++ [(Int32.ofNat (48 + n_ / 10000000 % 10))]).length)), .val (.int (Int32.ofNat 8))] 310 at_307 rfl rfl incL rfl ?_
        refine Go.iload 312 at_310 rfl rfl ?_
        refine Go.bipush (6) 314 at_312 rfl rfl ?_
        refine Go.if_icmple 331 317 at_314 (by decide) rfl rfl (fun q1980 => absurd (by decide) q1980) (fun q1980 => ?_)
        refine Go.aload 319 at_317 rfl rfl rfl ?_
        refine Go.iload 321 at_319 rfl rfl ?_
        refine Go.iload_n 322 at_321 rfl rfl ?_
        refine Go.bipush (6) 324 at_322 rfl rfl ?_
        refine Go.invokestatic (rest := [.int (Int32.ofNat (((((((((mkV ((XT.ushr fa (24 : Int32)) &&& (3 : Int32)) (fa &&& (255 : Int32)) ((XT.ushr fa (8 : Int32)) &&& (255 : Int32)) ((XT.ushr fa (16 : Int32)) &&& (255 : Int32))) ++ [(44 : Int32)]) ++ [(32 : Int32)]) ++ [(108 : Int32)]) ++ [(105 : Int32)]) ++ [(110 : Int32)]) ++ [(101 : Int32)]) ++ [(32 : Int32)]) ++ [(Int32.ofNat (48 + n_ / 10000000 % 10))]).length), .ref e_]) 2 [.int la, .int (6 : Int32)] 327 at_324 rfl (W.1 54 rfl) (W.1 55 rfl) (W.1 2 rfl) (W.1 56 rfl) (by decide) (cDig W (t_ := 1000000) hla hn (by decide) rfl (by decide)) (by decide +kernel : parseMethodDescriptor "(II)C" = some ⟨[.int, .int], (some .char)⟩) rfl rfl rfl (nl rfl) (nl rfl) (nl rfl) (nl rfl) (nl rfl) (fun v2041 vm2041 h2041 ⟨rv, Ed2030⟩ c2041 => ?_)
        subst rv
        have f2042 := A1979.ext Ed2030
        have f2043 := CHr.safe c2041 A1979.lt S1979
        have L2043 := Nat.lt_of_lt_of_le A1979.lt c2041.2.1
        refine Go.pushC (((((((((mkV ((XT.ushr fa (24 : Int32)) &&& (3 : Int32)) (fa &&& (255 : Int32)) ((XT.ushr fa (8 : Int32)) &&& (255 : Int32)) ((XT.ushr fa (16 : Int32)) &&& (255 : Int32))) ++ [(44 : Int32)]) ++ [(32 : Int32)]) ++ [(108 : Int32)]) ++ [(105 : Int32)]) ++ [(110 : Int32)]) ++ [(101 : Int32)]) ++ [(32 : Int32)]) ++ [(Int32.ofNat (48 + n_ / 10000000 % 10))]) 25 328 at_327 rfl f2042 rfl rfl (by first | omega | (simp only [List.length_append, List.length_cons, List.length_nil]; omega)) (narC (dg48 _)) f2043 z10 (fun h2044 K2044 A2044 S2044 c2044 => ?_)
        have E2044 := Ext.kp1 (Ext.tr E1979 Ed2030) K2044 e10
        refine Go.iinc (Int32.ofNat ((((((((((mkV ((XT.ushr fa (24 : Int32)) &&& (3 : Int32)) (fa &&& (255 : Int32)) ((XT.ushr fa (8 : Int32)) &&& (255 : Int32)) ((XT.ushr fa (16 : Int32)) &&& (255 : Int32))) ++ [(44 : Int32)]) ++ [(32 : Int32)]) ++ [(108 : Int32)]) ++ [(105 : Int32)]) ++ [(110 : Int32)]) ++ [(101 : Int32)]) ++ [(32 : Int32)]) ++ [(Int32.ofNat (48 + n_ / 10000000 % 10))]) ++ [(Int32.ofNat (48 + n_ / 1000000 % 10))]).length) #[.val (.int fa), .val (.int la), .val (.int ra), .val (.int ((XT.ushr fa (24 : Int32)) &&& (3 : Int32))), .val (.int ((XT.ushr ra (24 : Int32)) &&& (3 : Int32))), .val (.int (fa &&& (255 : Int32))), .val (.int ((XT.ushr fa (8 : Int32)) &&& (255 : Int32))), .val (.int ((XT.ushr fa (16 : Int32)) &&& (255 : Int32))), .val (.int (ra &&& (255 : Int32))), .val (.int ((XT.ushr ra (8 : Int32)) &&& (255 : Int32))), .val (.int ((XT.ushr ra (16 : Int32)) &&& (255 : Int32))), .val (.ref u1), .val (.ref u2), .val (.ref pp), .val (.ref e_), .val (.int (Int32.ofNat ((((((((((mkV ((XT.ushr fa (24 : Int32)) &&& (3 : Int32)) (fa &&& (255 : Int32)) ((XT.ushr fa (8 : Int32)) &&& (255 : Int32)) ((XT.ushr fa (16 : Int32)) &&& (255 : Int32))) ++ [(44 : Int32)]) ++ [(32 : Int32)]) ++ [(108 : Int32)]) ++ [(105 : Int32)]) ++ [(110 : Int32)]) ++ [(101 : Int32)]) ++ [(32 : Int32)]) ++ [(Int32.ofNat (48 + n_ / 10000000 % 10))]) ++ [(Int32.ofNat (48 + n_ / 1000000 % 10))]).length)), .val (.int (Int32.ofNat 8))] 331 at_328 rfl rfl incL rfl ?_
        refine Go.iload 333 at_331 rfl rfl ?_
        refine Go.iconst (5) 334 at_333 rfl rfl ?_
        refine Go.if_icmple 350 337 at_334 (by decide) rfl rfl (fun q2045 => absurd (by decide) q2045) (fun q2045 => ?_)
        refine Go.aload 339 at_337 rfl rfl rfl ?_
        refine Go.iload 341 at_339 rfl rfl ?_
        refine Go.iload_n 342 at_341 rfl rfl ?_
        refine Go.iconst (5) 343 at_342 rfl rfl ?_
        refine Go.invokestatic (rest := [.int (Int32.ofNat ((((((((((mkV ((XT.ushr fa (24 : Int32)) &&& (3 : Int32)) (fa &&& (255 : Int32)) ((XT.ushr fa (8 : Int32)) &&& (255 : Int32)) ((XT.ushr fa (16 : Int32)) &&& (255 : Int32))) ++ [(44 : Int32)]) ++ [(32 : Int32)]) ++ [(108 : Int32)]) ++ [(105 : Int32)]) ++ [(110 : Int32)]) ++ [(101 : Int32)]) ++ [(32 : Int32)]) ++ [(Int32.ofNat (48 + n_ / 10000000 % 10))]) ++ [(Int32.ofNat (48 + n_ / 1000000 % 10))]).length), .ref e_]) 2 [.int la, .int (5 : Int32)] 346 at_343 rfl (W.1 54 rfl) (W.1 55 rfl) (W.1 2 rfl) (W.1 56 rfl) (by decide) (cDig W (t_ := 100000) hla hn (by decide) rfl (by decide)) (by decide +kernel : parseMethodDescriptor "(II)C" = some ⟨[.int, .int], (some .char)⟩) rfl rfl rfl (nl rfl) (nl rfl) (nl rfl) (nl rfl) (nl rfl) (fun v2106 vm2106 h2106 ⟨rv, Ed2095⟩ c2106 => ?_)
        subst rv
        have f2107 := A2044.ext Ed2095
        have f2108 := CHr.safe c2106 A2044.lt S2044
        have L2108 := Nat.lt_of_lt_of_le A2044.lt c2106.2.1
        refine Go.pushC ((((((((((mkV ((XT.ushr fa (24 : Int32)) &&& (3 : Int32)) (fa &&& (255 : Int32)) ((XT.ushr fa (8 : Int32)) &&& (255 : Int32)) ((XT.ushr fa (16 : Int32)) &&& (255 : Int32))) ++ [(44 : Int32)]) ++ [(32 : Int32)]) ++ [(108 : Int32)]) ++ [(105 : Int32)]) ++ [(110 : Int32)]) ++ [(101 : Int32)]) ++ [(32 : Int32)]) ++ [(Int32.ofNat (48 + n_ / 10000000 % 10))]) ++ [(Int32.ofNat (48 + n_ / 1000000 % 10))]) 25 347 at_346 rfl f2107 rfl rfl (by first | omega | (simp only [List.length_append, List.length_cons, List.length_nil]; omega)) (narC (dg48 _)) f2108 z10 (fun h2109 K2109 A2109 S2109 c2109 => ?_)
        have E2109 := Ext.kp1 (Ext.tr E2044 Ed2095) K2109 e10
        refine Go.iinc (Int32.ofNat (((((((((((mkV ((XT.ushr fa (24 : Int32)) &&& (3 : Int32)) (fa &&& (255 : Int32)) ((XT.ushr fa (8 : Int32)) &&& (255 : Int32)) ((XT.ushr fa (16 : Int32)) &&& (255 : Int32))) ++ [(44 : Int32)]) ++ [(32 : Int32)]) ++ [(108 : Int32)]) ++ [(105 : Int32)]) ++ [(110 : Int32)]) ++ [(101 : Int32)]) ++ [(32 : Int32)]) ++ [(Int32.ofNat (48 + n_ / 10000000 % 10))]) ++ [(Int32.ofNat (48 + n_ / 1000000 % 10))]) ++ [(Int32.ofNat (48 + n_ / 100000 % 10))]).length) #[.val (.int fa), .val (.int la), .val (.int ra), .val (.int ((XT.ushr fa (24 : Int32)) &&& (3 : Int32))), .val (.int ((XT.ushr ra (24 : Int32)) &&& (3 : Int32))), .val (.int (fa &&& (255 : Int32))), .val (.int ((XT.ushr fa (8 : Int32)) &&& (255 : Int32))), .val (.int ((XT.ushr fa (16 : Int32)) &&& (255 : Int32))), .val (.int (ra &&& (255 : Int32))), .val (.int ((XT.ushr ra (8 : Int32)) &&& (255 : Int32))), .val (.int ((XT.ushr ra (16 : Int32)) &&& (255 : Int32))), .val (.ref u1), .val (.ref u2), .val (.ref pp), .val (.ref e_), .val (.int (Int32.ofNat (((((((((((mkV ((XT.ushr fa (24 : Int32)) &&& (3 : Int32)) (fa &&& (255 : Int32)) ((XT.ushr fa (8 : Int32)) &&& (255 : Int32)) ((XT.ushr fa (16 : Int32)) &&& (255 : Int32))) ++ [(44 : Int32)]) ++ [(32 : Int32)]) ++ [(108 : Int32)]) ++ [(105 : Int32)]) ++ [(110 : Int32)]) ++ [(101 : Int32)]) ++ [(32 : Int32)]) ++ [(Int32.ofNat (48 + n_ / 10000000 % 10))]) ++ [(Int32.ofNat (48 + n_ / 1000000 % 10))]) ++ [(Int32.ofNat (48 + n_ / 100000 % 10))]).length)), .val (.int (Int32.ofNat 8))] 350 at_347 rfl rfl incL rfl ?_
        refine Go.iload 352 at_350 rfl rfl ?_
        refine Go.iconst (4) 353 at_352 rfl rfl ?_
        refine Go.if_icmple 369 356 at_353 (by decide) rfl rfl (fun q2110 => absurd (by decide) q2110) (fun q2110 => ?_)
        refine Go.aload 358 at_356 rfl rfl rfl ?_
        refine Go.iload 360 at_358 rfl rfl ?_
        refine Go.iload_n 361 at_360 rfl rfl ?_
        refine Go.iconst (4) 362 at_361 rfl rfl ?_
        refine Go.invokestatic (rest := [.int (Int32.ofNat (((((((((((mkV ((XT.ushr fa (24 : Int32)) &&& (3 : Int32)) (fa &&& (255 : Int32)) ((XT.ushr fa (8 : Int32)) &&& (255 : Int32)) ((XT.ushr fa (16 : Int32)) &&& (255 : Int32))) ++ [(44 : Int32)]) ++ [(32 : Int32)]) ++ [(108 : Int32)]) ++ [(105 : Int32)]) ++ [(110 : Int32)]) ++ [(101 : Int32)]) ++ [(32 : Int32)]) ++ [(Int32.ofNat (48 + n_ / 10000000 % 10))]) ++ [(Int32.ofNat (48 + n_ / 1000000 % 10))]) ++ [(Int32.ofNat (48 + n_ / 100000 % 10))]).length), .ref e_]) 2 [.int la, .int (4 : Int32)] 365 at_362 rfl (W.1 54 rfl) (W.1 55 rfl) (W.1 2 rfl) (W.1 56 rfl) (by decide) (cDig W (t_ := 10000) hla hn (by decide) rfl (by decide)) (by decide +kernel : parseMethodDescriptor "(II)C" = some ⟨[.int, .int], (some .char)⟩) rfl rfl rfl (nl rfl) (nl rfl) (nl rfl) (nl rfl) (nl rfl) (fun v2171 vm2171 h2171 ⟨rv, Ed2160⟩ c2171 => ?_)
        subst rv
        have f2172 := A2109.ext Ed2160
        have f2173 := CHr.safe c2171 A2109.lt S2109
        have L2173 := Nat.lt_of_lt_of_le A2109.lt c2171.2.1
        refine Go.pushC (((((((((((mkV ((XT.ushr fa (24 : Int32)) &&& (3 : Int32)) (fa &&& (255 : Int32)) ((XT.ushr fa (8 : Int32)) &&& (255 : Int32)) ((XT.ushr fa (16 : Int32)) &&& (255 : Int32))) ++ [(44 : Int32)]) ++ [(32 : Int32)]) ++ [(108 : Int32)]) ++ [(105 : Int32)]) ++ [(110 : Int32)]) ++ [(101 : Int32)]) ++ [(32 : Int32)]) ++ [(Int32.ofNat (48 + n_ / 10000000 % 10))]) ++ [(Int32.ofNat (48 + n_ / 1000000 % 10))]) ++ [(Int32.ofNat (48 + n_ / 100000 % 10))]) 25 366 at_365 rfl f2172 rfl rfl (by first | omega | (simp only [List.length_append, List.length_cons, List.length_nil]; omega)) (narC (dg48 _)) f2173 z10 (fun h2174 K2174 A2174 S2174 c2174 => ?_)
        have E2174 := Ext.kp1 (Ext.tr E2109 Ed2160) K2174 e10
        refine Go.iinc (Int32.ofNat ((((((((((((mkV ((XT.ushr fa (24 : Int32)) &&& (3 : Int32)) (fa &&& (255 : Int32)) ((XT.ushr fa (8 : Int32)) &&& (255 : Int32)) ((XT.ushr fa (16 : Int32)) &&& (255 : Int32))) ++ [(44 : Int32)]) ++ [(32 : Int32)]) ++ [(108 : Int32)]) ++ [(105 : Int32)]) ++ [(110 : Int32)]) ++ [(101 : Int32)]) ++ [(32 : Int32)]) ++ [(Int32.ofNat (48 + n_ / 10000000 % 10))]) ++ [(Int32.ofNat (48 + n_ / 1000000 % 10))]) ++ [(Int32.ofNat (48 + n_ / 100000 % 10))]) ++ [(Int32.ofNat (48 + n_ / 10000 % 10))]).length) #[.val (.int fa), .val (.int la), .val (.int ra), .val (.int ((XT.ushr fa (24 : Int32)) &&& (3 : Int32))), .val (.int ((XT.ushr ra (24 : Int32)) &&& (3 : Int32))), .val (.int (fa &&& (255 : Int32))), .val (.int ((XT.ushr fa (8 : Int32)) &&& (255 : Int32))), .val (.int ((XT.ushr fa (16 : Int32)) &&& (255 : Int32))), .val (.int (ra &&& (255 : Int32))), .val (.int ((XT.ushr ra (8 : Int32)) &&& (255 : Int32))), .val (.int ((XT.ushr ra (16 : Int32)) &&& (255 : Int32))), .val (.ref u1), .val (.ref u2), .val (.ref pp), .val (.ref e_), .val (.int (Int32.ofNat ((((((((((((mkV ((XT.ushr fa (24 : Int32)) &&& (3 : Int32)) (fa &&& (255 : Int32)) ((XT.ushr fa (8 : Int32)) &&& (255 : Int32)) ((XT.ushr fa (16 : Int32)) &&& (255 : Int32))) ++ [(44 : Int32)]) ++ [(32 : Int32)]) ++ [(108 : Int32)]) ++ [(105 : Int32)]) ++ [(110 : Int32)]) ++ [(101 : Int32)]) ++ [(32 : Int32)]) ++ [(Int32.ofNat (48 + n_ / 10000000 % 10))]) ++ [(Int32.ofNat (48 + n_ / 1000000 % 10))]) ++ [(Int32.ofNat (48 + n_ / 100000 % 10))]) ++ [(Int32.ofNat (48 + n_ / 10000 % 10))]).length)), .val (.int (Int32.ofNat 8))] 369 at_366 rfl rfl incL rfl ?_
        refine Go.iload 371 at_369 rfl rfl ?_
        refine Go.iconst (3) 372 at_371 rfl rfl ?_
        refine Go.if_icmple 388 375 at_372 (by decide) rfl rfl (fun q2175 => absurd (by decide) q2175) (fun q2175 => ?_)
        refine Go.aload 377 at_375 rfl rfl rfl ?_
        refine Go.iload 379 at_377 rfl rfl ?_
        refine Go.iload_n 380 at_379 rfl rfl ?_
        refine Go.iconst (3) 381 at_380 rfl rfl ?_
        refine Go.invokestatic (rest := [.int (Int32.ofNat ((((((((((((mkV ((XT.ushr fa (24 : Int32)) &&& (3 : Int32)) (fa &&& (255 : Int32)) ((XT.ushr fa (8 : Int32)) &&& (255 : Int32)) ((XT.ushr fa (16 : Int32)) &&& (255 : Int32))) ++ [(44 : Int32)]) ++ [(32 : Int32)]) ++ [(108 : Int32)]) ++ [(105 : Int32)]) ++ [(110 : Int32)]) ++ [(101 : Int32)]) ++ [(32 : Int32)]) ++ [(Int32.ofNat (48 + n_ / 10000000 % 10))]) ++ [(Int32.ofNat (48 + n_ / 1000000 % 10))]) ++ [(Int32.ofNat (48 + n_ / 100000 % 10))]) ++ [(Int32.ofNat (48 + n_ / 10000 % 10))]).length), .ref e_]) 2 [.int la, .int (3 : Int32)] 384 at_381 rfl (W.1 54 rfl) (W.1 55 rfl) (W.1 2 rfl) (W.1 56 rfl) (by decide) (cDig W (t_ := 1000) hla hn (by decide) rfl (by decide)) (by decide +kernel : parseMethodDescriptor "(II)C" = some ⟨[.int, .int], (some .char)⟩) rfl rfl rfl (nl rfl) (nl rfl) (nl rfl) (nl rfl) (nl rfl) (fun v2236 vm2236 h2236 ⟨rv, Ed2225⟩ c2236 => ?_)
        subst rv
        have f2237 := A2174.ext Ed2225
        have f2238 := CHr.safe c2236 A2174.lt S2174
        have L2238 := Nat.lt_of_lt_of_le A2174.lt c2236.2.1
        refine Go.pushC ((((((((((((mkV ((XT.ushr fa (24 : Int32)) &&& (3 : Int32)) (fa &&& (255 : Int32)) ((XT.ushr fa (8 : Int32)) &&& (255 : Int32)) ((XT.ushr fa (16 : Int32)) &&& (255 : Int32))) ++ [(44 : Int32)]) ++ [(32 : Int32)]) ++ [(108 : Int32)]) ++ [(105 : Int32)]) ++ [(110 : Int32)]) ++ [(101 : Int32)]) ++ [(32 : Int32)]) ++ [(Int32.ofNat (48 + n_ / 10000000 % 10))]) ++ [(Int32.ofNat (48 + n_ / 1000000 % 10))]) ++ [(Int32.ofNat (48 + n_ / 100000 % 10))]) ++ [(Int32.ofNat (48 + n_ / 10000 % 10))]) 25 385 at_384 rfl f2237 rfl rfl (by first | omega | (simp only [List.length_append, List.length_cons, List.length_nil]; omega)) (narC (dg48 _)) f2238 z10 (fun h2239 K2239 A2239 S2239 c2239 => ?_)
        have E2239 := Ext.kp1 (Ext.tr E2174 Ed2225) K2239 e10
        refine Go.iinc (Int32.ofNat (((((((((((((mkV ((XT.ushr fa (24 : Int32)) &&& (3 : Int32)) (fa &&& (255 : Int32)) ((XT.ushr fa (8 : Int32)) &&& (255 : Int32)) ((XT.ushr fa (16 : Int32)) &&& (255 : Int32))) ++ [(44 : Int32)]) ++ [(32 : Int32)]) ++ [(108 : Int32)]) ++ [(105 : Int32)]) ++ [(110 : Int32)]) ++ [(101 : Int32)]) ++ [(32 : Int32)]) ++ [(Int32.ofNat (48 + n_ / 10000000 % 10))]) ++ [(Int32.ofNat (48 + n_ / 1000000 % 10))]) ++ [(Int32.ofNat (48 + n_ / 100000 % 10))]) ++ [(Int32.ofNat (48 + n_ / 10000 % 10))]) ++ [(Int32.ofNat (48 + n_ / 1000 % 10))]).length) #[.val (.int fa), .val (.int la), .val (.int ra), .val (.int ((XT.ushr fa (24 : Int32)) &&& (3 : Int32))), .val (.int ((XT.ushr ra (24 : Int32)) &&& (3 : Int32))), .val (.int (fa &&& (255 : Int32))), .val (.int ((XT.ushr fa (8 : Int32)) &&& (255 : Int32))), .val (.int ((XT.ushr fa (16 : Int32)) &&& (255 : Int32))), .val (.int (ra &&& (255 : Int32))), .val (.int ((XT.ushr ra (8 : Int32)) &&& (255 : Int32))), .val (.int ((XT.ushr ra (16 : Int32)) &&& (255 : Int32))), .val (.ref u1), .val (.ref u2), .val (.ref pp), .val (.ref e_), .val (.int (Int32.ofNat (((((((((((((mkV ((XT.ushr fa (24 : Int32)) &&& (3 : Int32)) (fa &&& (255 : Int32)) ((XT.ushr fa (8 : Int32)) &&& (255 : Int32)) ((XT.ushr fa (16 : Int32)) &&& (255 : Int32))) ++ [(44 : Int32)]) ++ [(32 : Int32)]) ++ [(108 : Int32)]) ++ [(105 : Int32)]) ++ [(110 : Int32)]) ++ [(101 : Int32)]) ++ [(32 : Int32)]) ++ [(Int32.ofNat (48 + n_ / 10000000 % 10))]) ++ [(Int32.ofNat (48 + n_ / 1000000 % 10))]) ++ [(Int32.ofNat (48 + n_ / 100000 % 10))]) ++ [(Int32.ofNat (48 + n_ / 10000 % 10))]) ++ [(Int32.ofNat (48 + n_ / 1000 % 10))]).length)), .val (.int (Int32.ofNat 8))] 388 at_385 rfl rfl incL rfl ?_
        refine Go.iload 390 at_388 rfl rfl ?_
        refine Go.iconst (2) 391 at_390 rfl rfl ?_
        refine Go.if_icmple 407 394 at_391 (by decide) rfl rfl (fun q2240 => absurd (by decide) q2240) (fun q2240 => ?_)
        refine Go.aload 396 at_394 rfl rfl rfl ?_
        refine Go.iload 398 at_396 rfl rfl ?_
        refine Go.iload_n 399 at_398 rfl rfl ?_
        refine Go.iconst (2) 400 at_399 rfl rfl ?_
        refine Go.invokestatic (rest := [.int (Int32.ofNat (((((((((((((mkV ((XT.ushr fa (24 : Int32)) &&& (3 : Int32)) (fa &&& (255 : Int32)) ((XT.ushr fa (8 : Int32)) &&& (255 : Int32)) ((XT.ushr fa (16 : Int32)) &&& (255 : Int32))) ++ [(44 : Int32)]) ++ [(32 : Int32)]) ++ [(108 : Int32)]) ++ [(105 : Int32)]) ++ [(110 : Int32)]) ++ [(101 : Int32)]) ++ [(32 : Int32)]) ++ [(Int32.ofNat (48 + n_ / 10000000 % 10))]) ++ [(Int32.ofNat (48 + n_ / 1000000 % 10))]) ++ [(Int32.ofNat (48 + n_ / 100000 % 10))]) ++ [(Int32.ofNat (48 + n_ / 10000 % 10))]) ++ [(Int32.ofNat (48 + n_ / 1000 % 10))]).length), .ref e_]) 2 [.int la, .int (2 : Int32)] 403 at_400 rfl (W.1 54 rfl) (W.1 55 rfl) (W.1 2 rfl) (W.1 56 rfl) (by decide) (cDig W (t_ := 100) hla hn (by decide) rfl (by decide)) (by decide +kernel : parseMethodDescriptor "(II)C" = some ⟨[.int, .int], (some .char)⟩) rfl rfl rfl (nl rfl) (nl rfl) (nl rfl) (nl rfl) (nl rfl) (fun v2301 vm2301 h2301 ⟨rv, Ed2290⟩ c2301 => ?_)
        subst rv
        have f2302 := A2239.ext Ed2290
        have f2303 := CHr.safe c2301 A2239.lt S2239
        have L2303 := Nat.lt_of_lt_of_le A2239.lt c2301.2.1
        refine Go.pushC (((((((((((((mkV ((XT.ushr fa (24 : Int32)) &&& (3 : Int32)) (fa &&& (255 : Int32)) ((XT.ushr fa (8 : Int32)) &&& (255 : Int32)) ((XT.ushr fa (16 : Int32)) &&& (255 : Int32))) ++ [(44 : Int32)]) ++ [(32 : Int32)]) ++ [(108 : Int32)]) ++ [(105 : Int32)]) ++ [(110 : Int32)]) ++ [(101 : Int32)]) ++ [(32 : Int32)]) ++ [(Int32.ofNat (48 + n_ / 10000000 % 10))]) ++ [(Int32.ofNat (48 + n_ / 1000000 % 10))]) ++ [(Int32.ofNat (48 + n_ / 100000 % 10))]) ++ [(Int32.ofNat (48 + n_ / 10000 % 10))]) ++ [(Int32.ofNat (48 + n_ / 1000 % 10))]) 25 404 at_403 rfl f2302 rfl rfl (by first | omega | (simp only [List.length_append, List.length_cons, List.length_nil]; omega)) (narC (dg48 _)) f2303 z10 (fun h2304 K2304 A2304 S2304 c2304 => ?_)
        have E2304 := Ext.kp1 (Ext.tr E2239 Ed2290) K2304 e10
        refine Go.iinc (Int32.ofNat ((((((((((((((mkV ((XT.ushr fa (24 : Int32)) &&& (3 : Int32)) (fa &&& (255 : Int32)) ((XT.ushr fa (8 : Int32)) &&& (255 : Int32)) ((XT.ushr fa (16 : Int32)) &&& (255 : Int32))) ++ [(44 : Int32)]) ++ [(32 : Int32)]) ++ [(108 : Int32)]) ++ [(105 : Int32)]) ++ [(110 : Int32)]) ++ [(101 : Int32)]) ++ [(32 : Int32)]) ++ [(Int32.ofNat (48 + n_ / 10000000 % 10))]) ++ [(Int32.ofNat (48 + n_ / 1000000 % 10))]) ++ [(Int32.ofNat (48 + n_ / 100000 % 10))]) ++ [(Int32.ofNat (48 + n_ / 10000 % 10))]) ++ [(Int32.ofNat (48 + n_ / 1000 % 10))]) ++ [(Int32.ofNat (48 + n_ / 100 % 10))]).length) #[.val (.int fa), .val (.int la), .val (.int ra), .val (.int ((XT.ushr fa (24 : Int32)) &&& (3 : Int32))), .val (.int ((XT.ushr ra (24 : Int32)) &&& (3 : Int32))), .val (.int (fa &&& (255 : Int32))), .val (.int ((XT.ushr fa (8 : Int32)) &&& (255 : Int32))), .val (.int ((XT.ushr fa (16 : Int32)) &&& (255 : Int32))), .val (.int (ra &&& (255 : Int32))), .val (.int ((XT.ushr ra (8 : Int32)) &&& (255 : Int32))), .val (.int ((XT.ushr ra (16 : Int32)) &&& (255 : Int32))), .val (.ref u1), .val (.ref u2), .val (.ref pp), .val (.ref e_), .val (.int (Int32.ofNat ((((((((((((((mkV ((XT.ushr fa (24 : Int32)) &&& (3 : Int32)) (fa &&& (255 : Int32)) ((XT.ushr fa (8 : Int32)) &&& (255 : Int32)) ((XT.ushr fa (16 : Int32)) &&& (255 : Int32))) ++ [(44 : Int32)]) ++ [(32 : Int32)]) ++ [(108 : Int32)]) ++ [(105 : Int32)]) ++ [(110 : Int32)]) ++ [(101 : Int32)]) ++ [(32 : Int32)]) ++ [(Int32.ofNat (48 + n_ / 10000000 % 10))]) ++ [(Int32.ofNat (48 + n_ / 1000000 % 10))]) ++ [(Int32.ofNat (48 + n_ / 100000 % 10))]) ++ [(Int32.ofNat (48 + n_ / 10000 % 10))]) ++ [(Int32.ofNat (48 + n_ / 1000 % 10))]) ++ [(Int32.ofNat (48 + n_ / 100 % 10))]).length)), .val (.int (Int32.ofNat 8))] 407 at_404 rfl rfl incL rfl ?_
        refine Go.iload 409 at_407 rfl rfl ?_
        refine Go.iconst (1) 410 at_409 rfl rfl ?_
        refine Go.if_icmple 426 413 at_410 (by decide) rfl rfl (fun q2305 => absurd (by decide) q2305) (fun q2305 => ?_)
        refine Go.aload 415 at_413 rfl rfl rfl ?_
        refine Go.iload 417 at_415 rfl rfl ?_
        refine Go.iload_n 418 at_417 rfl rfl ?_
        refine Go.iconst (1) 419 at_418 rfl rfl ?_
        refine Go.invokestatic (rest := [.int (Int32.ofNat ((((((((((((((mkV ((XT.ushr fa (24 : Int32)) &&& (3 : Int32)) (fa &&& (255 : Int32)) ((XT.ushr fa (8 : Int32)) &&& (255 : Int32)) ((XT.ushr fa (16 : Int32)) &&& (255 : Int32))) ++ [(44 : Int32)]) ++ [(32 : Int32)]) ++ [(108 : Int32)]) ++ [(105 : Int32)]) ++ [(110 : Int32)]) ++ [(101 : Int32)]) ++ [(32 : Int32)]) ++ [(Int32.ofNat (48 + n_ / 10000000 % 10))]) ++ [(Int32.ofNat (48 + n_ / 1000000 % 10))]) ++ [(Int32.ofNat (48 + n_ / 100000 % 10))]) ++ [(Int32.ofNat (48 + n_ / 10000 % 10))]) ++ [(Int32.ofNat (48 + n_ / 1000 % 10))]) ++ [(Int32.ofNat (48 + n_ / 100 % 10))]).length), .ref e_]) 2 [.int la, .int (1 : Int32)] 422 at_419 rfl (W.1 54 rfl) (W.1 55 rfl) (W.1 2 rfl) (W.1 56 rfl) (by decide) (cDig W (t_ := 10) hla hn (by decide) rfl (by decide)) (by decide +kernel : parseMethodDescriptor "(II)C" = some ⟨[.int, .int], (some .char)⟩) rfl rfl rfl (nl rfl) (nl rfl) (nl rfl) (nl rfl) (nl rfl) (fun v2366 vm2366 h2366 ⟨rv, Ed2355⟩ c2366 => ?_)
        subst rv
        have f2367 := A2304.ext Ed2355
        have f2368 := CHr.safe c2366 A2304.lt S2304
        have L2368 := Nat.lt_of_lt_of_le A2304.lt c2366.2.1
        refine Go.pushC ((((((((((((((mkV ((XT.ushr fa (24 : Int32)) &&& (3 : Int32)) (fa &&& (255 : Int32)) ((XT.ushr fa (8 : Int32)) &&& (255 : Int32)) ((XT.ushr fa (16 : Int32)) &&& (255 : Int32))) ++ [(44 : Int32)]) ++ [(32 : Int32)]) ++ [(108 : Int32)]) ++ [(105 : Int32)]) ++ [(110 : Int32)]) ++ [(101 : Int32)]) ++ [(32 : Int32)]) ++ [(Int32.ofNat (48 + n_ / 10000000 % 10))]) ++ [(Int32.ofNat (48 + n_ / 1000000 % 10))]) ++ [(Int32.ofNat (48 + n_ / 100000 % 10))]) ++ [(Int32.ofNat (48 + n_ / 10000 % 10))]) ++ [(Int32.ofNat (48 + n_ / 1000 % 10))]) ++ [(Int32.ofNat (48 + n_ / 100 % 10))]) 25 423 at_422 rfl f2367 rfl rfl (by first | omega | (simp only [List.length_append, List.length_cons, List.length_nil]; omega)) (narC (dg48 _)) f2368 z10 (fun h2369 K2369 A2369 S2369 c2369 => ?_)
        have E2369 := Ext.kp1 (Ext.tr E2304 Ed2355) K2369 e10
        refine Go.iinc (Int32.ofNat (((((((((((((((mkV ((XT.ushr fa (24 : Int32)) &&& (3 : Int32)) (fa &&& (255 : Int32)) ((XT.ushr fa (8 : Int32)) &&& (255 : Int32)) ((XT.ushr fa (16 : Int32)) &&& (255 : Int32))) ++ [(44 : Int32)]) ++ [(32 : Int32)]) ++ [(108 : Int32)]) ++ [(105 : Int32)]) ++ [(110 : Int32)]) ++ [(101 : Int32)]) ++ [(32 : Int32)]) ++ [(Int32.ofNat (48 + n_ / 10000000 % 10))]) ++ [(Int32.ofNat (48 + n_ / 1000000 % 10))]) ++ [(Int32.ofNat (48 + n_ / 100000 % 10))]) ++ [(Int32.ofNat (48 + n_ / 10000 % 10))]) ++ [(Int32.ofNat (48 + n_ / 1000 % 10))]) ++ [(Int32.ofNat (48 + n_ / 100 % 10))]) ++ [(Int32.ofNat (48 + n_ / 10 % 10))]).length) #[.val (.int fa), .val (.int la), .val (.int ra), .val (.int ((XT.ushr fa (24 : Int32)) &&& (3 : Int32))), .val (.int ((XT.ushr ra (24 : Int32)) &&& (3 : Int32))), .val (.int (fa &&& (255 : Int32))), .val (.int ((XT.ushr fa (8 : Int32)) &&& (255 : Int32))), .val (.int ((XT.ushr fa (16 : Int32)) &&& (255 : Int32))), .val (.int (ra &&& (255 : Int32))), .val (.int ((XT.ushr ra (8 : Int32)) &&& (255 : Int32))), .val (.int ((XT.ushr ra (16 : Int32)) &&& (255 : Int32))), .val (.ref u1), .val (.ref u2), .val (.ref pp), .val (.ref e_), .val (.int (Int32.ofNat (((((((((((((((mkV ((XT.ushr fa (24 : Int32)) &&& (3 : Int32)) (fa &&& (255 : Int32)) ((XT.ushr fa (8 : Int32)) &&& (255 : Int32)) ((XT.ushr fa (16 : Int32)) &&& (255 : Int32))) ++ [(44 : Int32)]) ++ [(32 : Int32)]) ++ [(108 : Int32)]) ++ [(105 : Int32)]) ++ [(110 : Int32)]) ++ [(101 : Int32)]) ++ [(32 : Int32)]) ++ [(Int32.ofNat (48 + n_ / 10000000 % 10))]) ++ [(Int32.ofNat (48 + n_ / 1000000 % 10))]) ++ [(Int32.ofNat (48 + n_ / 100000 % 10))]) ++ [(Int32.ofNat (48 + n_ / 10000 % 10))]) ++ [(Int32.ofNat (48 + n_ / 1000 % 10))]) ++ [(Int32.ofNat (48 + n_ / 100 % 10))]) ++ [(Int32.ofNat (48 + n_ / 10 % 10))]).length)), .val (.int (Int32.ofNat 8))] 426 at_423 rfl rfl incL rfl ?_
        refine Go.aload 428 at_426 rfl rfl rfl ?_
        refine Go.iload 430 at_428 rfl rfl ?_
        refine Go.iload_n 431 at_430 rfl rfl ?_
        refine Go.iconst (0) 432 at_431 rfl rfl ?_
        refine Go.invokestatic (rest := [.int (Int32.ofNat (((((((((((((((mkV ((XT.ushr fa (24 : Int32)) &&& (3 : Int32)) (fa &&& (255 : Int32)) ((XT.ushr fa (8 : Int32)) &&& (255 : Int32)) ((XT.ushr fa (16 : Int32)) &&& (255 : Int32))) ++ [(44 : Int32)]) ++ [(32 : Int32)]) ++ [(108 : Int32)]) ++ [(105 : Int32)]) ++ [(110 : Int32)]) ++ [(101 : Int32)]) ++ [(32 : Int32)]) ++ [(Int32.ofNat (48 + n_ / 10000000 % 10))]) ++ [(Int32.ofNat (48 + n_ / 1000000 % 10))]) ++ [(Int32.ofNat (48 + n_ / 100000 % 10))]) ++ [(Int32.ofNat (48 + n_ / 10000 % 10))]) ++ [(Int32.ofNat (48 + n_ / 1000 % 10))]) ++ [(Int32.ofNat (48 + n_ / 100 % 10))]) ++ [(Int32.ofNat (48 + n_ / 10 % 10))]).length), .ref e_]) 2 [.int la, .int (0 : Int32)] 435 at_432 rfl (W.1 54 rfl) (W.1 55 rfl) (W.1 2 rfl) (W.1 56 rfl) (by decide) (cDig W (t_ := 1) hla hn (by decide) rfl (by decide)) (by decide +kernel : parseMethodDescriptor "(II)C" = some ⟨[.int, .int], (some .char)⟩) rfl rfl rfl (nl rfl) (nl rfl) (nl rfl) (nl rfl) (nl rfl) (fun v2430 vm2430 h2430 ⟨rv, Ed2419⟩ c2430 => ?_)
        subst rv
        have f2431 := A2369.ext Ed2419
        have f2432 := CHr.safe c2430 A2369.lt S2369
        have L2432 := Nat.lt_of_lt_of_le A2369.lt c2430.2.1
        refine Go.pushC (((((((((((((((mkV ((XT.ushr fa (24 : Int32)) &&& (3 : Int32)) (fa &&& (255 : Int32)) ((XT.ushr fa (8 : Int32)) &&& (255 : Int32)) ((XT.ushr fa (16 : Int32)) &&& (255 : Int32))) ++ [(44 : Int32)]) ++ [(32 : Int32)]) ++ [(108 : Int32)]) ++ [(105 : Int32)]) ++ [(110 : Int32)]) ++ [(101 : Int32)]) ++ [(32 : Int32)]) ++ [(Int32.ofNat (48 + n_ / 10000000 % 10))]) ++ [(Int32.ofNat (48 + n_ / 1000000 % 10))]) ++ [(Int32.ofNat (48 + n_ / 100000 % 10))]) ++ [(Int32.ofNat (48 + n_ / 10000 % 10))]) ++ [(Int32.ofNat (48 + n_ / 1000 % 10))]) ++ [(Int32.ofNat (48 + n_ / 100 % 10))]) ++ [(Int32.ofNat (48 + n_ / 10 % 10))]) 25 436 at_435 rfl f2431 rfl rfl (by first | omega | (simp only [List.length_append, List.length_cons, List.length_nil]; omega)) (narC (dg48 _)) f2432 z10 (fun h2433 K2433 A2433 S2433 c2433 => ?_)
        have E2433 := Ext.kp1 (Ext.tr E2369 Ed2419) K2433 e10
        refine Go.iinc (Int32.ofNat ((((((((((((((((mkV ((XT.ushr fa (24 : Int32)) &&& (3 : Int32)) (fa &&& (255 : Int32)) ((XT.ushr fa (8 : Int32)) &&& (255 : Int32)) ((XT.ushr fa (16 : Int32)) &&& (255 : Int32))) ++ [(44 : Int32)]) ++ [(32 : Int32)]) ++ [(108 : Int32)]) ++ [(105 : Int32)]) ++ [(110 : Int32)]) ++ [(101 : Int32)]) ++ [(32 : Int32)]) ++ [(Int32.ofNat (48 + n_ / 10000000 % 10))]) ++ [(Int32.ofNat (48 + n_ / 1000000 % 10))]) ++ [(Int32.ofNat (48 + n_ / 100000 % 10))]) ++ [(Int32.ofNat (48 + n_ / 10000 % 10))]) ++ [(Int32.ofNat (48 + n_ / 1000 % 10))]) ++ [(Int32.ofNat (48 + n_ / 100 % 10))]) ++ [(Int32.ofNat (48 + n_ / 10 % 10))]) ++ [(Int32.ofNat (48 + n_ / 1 % 10))]).length) #[.val (.int fa), .val (.int la), .val (.int ra), .val (.int ((XT.ushr fa (24 : Int32)) &&& (3 : Int32))), .val (.int ((XT.ushr ra (24 : Int32)) &&& (3 : Int32))), .val (.int (fa &&& (255 : Int32))), .val (.int ((XT.ushr fa (8 : Int32)) &&& (255 : Int32))), .val (.int ((XT.ushr fa (16 : Int32)) &&& (255 : Int32))), .val (.int (ra &&& (255 : Int32))), .val (.int ((XT.ushr ra (8 : Int32)) &&& (255 : Int32))), .val (.int ((XT.ushr ra (16 : Int32)) &&& (255 : Int32))), .val (.ref u1), .val (.ref u2), .val (.ref pp), .val (.ref e_), .val (.int (Int32.ofNat ((((((((((((((((mkV ((XT.ushr fa (24 : Int32)) &&& (3 : Int32)) (fa &&& (255 : Int32)) ((XT.ushr fa (8 : Int32)) &&& (255 : Int32)) ((XT.ushr fa (16 : Int32)) &&& (255 : Int32))) ++ [(44 : Int32)]) ++ [(32 : Int32)]) ++ [(108 : Int32)]) ++ [(105 : Int32)]) ++ [(110 : Int32)]) ++ [(101 : Int32)]) ++ [(32 : Int32)]) ++ [(Int32.ofNat (48 + n_ / 10000000 % 10))]) ++ [(Int32.ofNat (48 + n_ / 1000000 % 10))]) ++ [(Int32.ofNat (48 + n_ / 100000 % 10))]) ++ [(Int32.ofNat (48 + n_ / 10000 % 10))]) ++ [(Int32.ofNat (48 + n_ / 1000 % 10))]) ++ [(Int32.ofNat (48 + n_ / 100 % 10))]) ++ [(Int32.ofNat (48 + n_ / 10 % 10))]) ++ [(Int32.ofNat (48 + n_ / 1 % 10))]).length)), .val (.int (Int32.ofNat 8))] 439 at_436 rfl rfl incL rfl ?_
        refine Go.mono (k' := 28) (n' := 216) (nl rfl) (nl rfl) ?_
        exact J439 _ ([44, 32, 108, 105, 110, 101, 32] ++ dgL 8 n_) _ _ _ (Or.inr ⟨_, rfl, rfl⟩) (by simp [dgL, Nat.div_div_eq_div_mul]) (Or.inr ⟨q, 8, n_, hla, hn, hs, rfl⟩) E2433 A2433 S2433
      · refine Go.iload 249 at_247 rfl rfl ?_
        refine Go.bipush (9) 251 at_249 rfl rfl ?_
        refine Go.if_icmple 268 254 at_251 (by decide) rfl rfl (fun q2434 => ?_) (fun q2434 => absurd q2434 (by decide))
        refine Go.iload 270 at_268 rfl rfl ?_
        refine Go.bipush (8) 272 at_270 rfl rfl ?_
        refine Go.if_icmple 289 275 at_272 (by decide) rfl rfl (fun q2435 => absurd (by decide) q2435) (fun q2435 => ?_)
        refine Go.aload 277 at_275 rfl rfl rfl ?_
        refine Go.iload 279 at_277 rfl rfl ?_
        refine Go.iload_n 280 at_279 rfl rfl ?_
        refine Go.bipush (8) 282 at_280 rfl rfl ?_
        refine Go.invokestatic (rest := [.int (Int32.ofNat ((((((((mkV ((XT.ushr fa (24 : Int32)) &&& (3 : Int32)) (fa &&& (255 : Int32)) ((XT.ushr fa (8 : Int32)) &&& (255 : Int32)) ((XT.ushr fa (16 : Int32)) &&& (255 : Int32))) ++ [(44 : Int32)]) ++ [(32 : Int32)]) ++ [(108 : Int32)]) ++ [(105 : Int32)]) ++ [(110 : Int32)]) ++ [(101 : Int32)]) ++ [(32 : Int32)]).length), .ref e_]) 2 [.int la, .int (8 : Int32)] 285 at_282 rfl (W.1 54 rfl) (W.1 55 rfl) (W.1 2 rfl) (W.1 56 rfl) (by decide) (cDig W (t_ := 100000000) hla hn (by decide) rfl (by decide)) (by decide +kernel : parseMethodDescriptor "(II)C" = some ⟨[.int, .int], (some .char)⟩) rfl rfl rfl (nl rfl) (nl rfl) (nl rfl) (nl rfl) (nl rfl) (fun v2496 vm2496 h2496 ⟨rv, Ed2485⟩ c2496 => ?_)
        subst rv
        have f2497 := A56.ext Ed2485
        have f2498 := CHr.safe (CHr.trans c57 c2496) A56.lt S56
        have L2498 := Nat.lt_of_lt_of_le A56.lt (CHr.trans c57 c2496).2.1
        refine Go.pushC ((((((((mkV ((XT.ushr fa (24 : Int32)) &&& (3 : Int32)) (fa &&& (255 : Int32)) ((XT.ushr fa (8 : Int32)) &&& (255 : Int32)) ((XT.ushr fa (16 : Int32)) &&& (255 : Int32))) ++ [(44 : Int32)]) ++ [(32 : Int32)]) ++ [(108 : Int32)]) ++ [(105 : Int32)]) ++ [(110 : Int32)]) ++ [(101 : Int32)]) ++ [(32 : Int32)]) 25 286 at_285 rfl f2497 rfl rfl (by first | omega | (simp only [List.length_append, List.length_cons, List.length_nil]; omega)) (narC (dg48 _)) f2498 z10 (fun h2499 K2499 A2499 S2499 c2499 => ?_)
        have E2499 := Ext.kp1 (Ext.tr E56 Ed2485) K2499 e10
        refine Go.iinc (Int32.ofNat (((((((((mkV ((XT.ushr fa (24 : Int32)) &&& (3 : Int32)) (fa &&& (255 : Int32)) ((XT.ushr fa (8 : Int32)) &&& (255 : Int32)) ((XT.ushr fa (16 : Int32)) &&& (255 : Int32))) ++ [(44 : Int32)]) ++ [(32 : Int32)]) ++ [(108 : Int32)]) ++ [(105 : Int32)]) ++ [(110 : Int32)]) ++ [(101 : Int32)]) ++ [(32 : Int32)]) ++ [(Int32.ofNat (48 + n_ / 100000000 % 10))]).length) #[.val (.int fa), .val (.int la), .val (.int ra), .val (.int ((XT.ushr fa (24 : Int32)) &&& (3 : Int32))), .val (.int ((XT.ushr ra (24 : Int32)) &&& (3 : Int32))), .val (.int (fa &&& (255 : Int32))), .val (.int ((XT.ushr fa (8 : Int32)) &&& (255 : Int32))), .val (.int ((XT.ushr fa (16 : Int32)) &&& (255 : Int32))), .val (.int (ra &&& (255 : Int32))), .val (.int ((XT.ushr ra (8 : Int32)) &&& (255 : Int32))), .val (.int ((XT.ushr ra (16 : Int32)) &&& (255 : Int32))), .val (.ref u1), .val (.ref u2), .val (.ref pp), .val (.ref e_), .val (.int (Int32.ofNat (((((((((mkV ((XT.ushr fa (24 : Int32)) &&& (3 : Int32)) (fa &&& (255 : Int32)) ((XT.ushr fa (8 : Int32)) &&& (255 : Int32)) ((XT.ushr fa (16 : Int32)) &&& (255 : Int32))) ++ [(44 : Int32)]) ++ [(32 : Int32)]) ++ [(108 : Int32)]) ++ [(105 : Int32)]) ++ [(110 : Int32)]) ++ [(101 : Int32)]) ++ [(32 : Int32)]) ++ [(Int32.ofNat (48 + n_ / 100000000 % 10))]).length)), .val (.int (Int32.ofNat 9))] 289 at_286 rfl rfl incL rfl ?_
        refine Go.iload 291 at_289 rfl rfl ?_
        refine Go.bipush (7) 293 at_291 rfl rfl ?_
        refine Go.if_icmple 310 296 at_293 (by decide) rfl rfl (fun q2500 => absurd (by decide) q2500) (fun q2500 => ?_)
        refine Go.aload 298 at_296 rfl rfl rfl ?_
        refine Go.iload 300 at_298 rfl rfl ?_
        refine Go.iload_n 301 at_300 rfl rfl ?_
        refine Go.bipush (7) 303 at_301 rfl rfl ?_
        refine Go.invokestatic (rest := [.int (Int32.ofNat (((((((((mkV ((XT.ushr fa (24 : Int32)) &&& (3 : Int32)) (fa &&& (255 : Int32)) ((XT.ushr fa (8 : Int32)) &&& (255 : Int32)) ((XT.ushr fa (16 : Int32)) &&& (255 : Int32))) ++ [(44 : Int32)]) ++ [(32 : Int32)]) ++ [(108 : Int32)]) ++ [(105 : Int32)]) ++ [(110 : Int32)]) ++ [(101 : Int32)]) ++ [(32 : Int32)]) ++ [(Int32.ofNat (48 + n_ / 100000000 % 10))]).length), .ref e_]) 2 [.int la, .int (7 : Int32)] 306 at_303 rfl (W.1 54 rfl) (W.1 55 rfl) (W.1 2 rfl) (W.1 56 rfl) (by decide) (cDig W (t_ := 10000000) hla hn (by decide) rfl (by decide)) (by decide +kernel : parseMethodDescriptor "(II)C" = some ⟨[.int, .int], (some .char)⟩) rfl rfl rfl (nl rfl) (nl rfl) (nl rfl) (nl rfl) (nl rfl) (fun v2561 vm2561 h2561 ⟨rv, Ed2550⟩ c2561 => ?_)
        subst rv
        have f2562 := A2499.ext Ed2550
        have f2563 := CHr.safe c2561 A2499.lt S2499
        have L2563 := Nat.lt_of_lt_of_le A2499.lt c2561.2.1
        refine Go.pushC (((((((((mkV ((XT.ushr fa (24 : Int32)) &&& (3 : Int32)) (fa &&& (255 : Int32)) ((XT.ushr fa (8 : Int32)) &&& (255 : Int32)) ((XT.ushr fa (16 : Int32)) &&& (255 : Int32))) ++ [(44 : Int32)]) ++ [(32 : Int32)]) ++ [(108 : Int32)]) ++ [(105 : Int32)]) ++ [(110 : Int32)]) ++ [(101 : Int32)]) ++ [(32 : Int32)]) ++ [(Int32.ofNat (48 + n_ / 100000000 % 10))]) 25 307 at_306 rfl f2562 rfl rfl (by first | omega | (simp only [List.length_append, List.length_cons, List.length_nil]; omega)) (narC (dg48 _)) f2563 z10 (fun h2564 K2564 A2564 S2564 c2564 => ?_)
        have E2564 := Ext.kp1 (Ext.tr E2499 Ed2550) K2564 e10
        refine Go.iinc (Int32.ofNat ((((((((((mkV ((XT.ushr fa (24 : Int32)) &&& (3 : Int32)) (fa &&& (255 : Int32)) ((XT.ushr fa (8 : Int32)) &&& (255 : Int32)) ((XT.ushr fa (16 : Int32)) &&& (255 : Int32))) ++ [(44 : Int32)]) ++ [(32 : Int32)]) ++ [(108 : Int32)]) ++ [(105 : Int32)]) ++ [(110 : Int32)]) ++ [(101 : Int32)]) ++ [(32 : Int32)]) ++ [(Int32.ofNat (48 + n_ / 100000000 % 10))]) ++ [(Int32.ofNat (48 + n_ / 10000000 % 10))]).length) #[.val (.int fa), .val (.int la), .val (.int ra), .val (.int ((XT.ushr fa (24 : Int32)) &&& (3 : Int32))), .val (.int ((XT.ushr ra (24 : Int32)) &&& (3 : Int32))), .val (.int (fa &&& (255 : Int32))), .val (.int ((XT.ushr fa (8 : Int32)) &&& (255 : Int32))), .val (.int ((XT.ushr fa (16 : Int32)) &&& (255 : Int32))), .val (.int (ra &&& (255 : Int32))), .val (.int ((XT.ushr ra (8 : Int32)) &&& (255 : Int32))), .val (.int ((XT.ushr ra (16 : Int32)) &&& (255 : Int32))), .val (.ref u1), .val (.ref u2), .val (.ref pp), .val (.ref e_), .val (.int (Int32.ofNat ((((((((((mkV ((XT.ushr fa (24 : Int32)) &&& (3 : Int32)) (fa &&& (255 : Int32)) ((XT.ushr fa (8 : Int32)) &&& (255 : Int32)) ((XT.ushr fa (16 : Int32)) &&& (255 : Int32))) ++ [(44 : Int32)]) ++ [(32 : Int32)]) ++ [(108 : Int32)]) ++ [(105 : Int32)]) ++ [(110 : Int32)]) ++ [(101 : Int32)]) ++ [(32 : Int32)]) ++ [(Int32.ofNat (48 + n_ / 100000000 % 10))]) ++ [(Int32.ofNat (48 + n_ / 10000000 % 10))]).length)), .val (.int (Int32.ofNat 9))] 310 at_307 rfl rfl incL rfl ?_
        refine Go.iload 312 at_310 rfl rfl ?_
        refine Go.bipush (6) 314 at_312 rfl rfl ?_
        refine Go.if_icmple 331 317 at_314 (by decide) rfl rfl (fun q2565 => absurd (by decide) q2565) (fun q2565 => ?_)
        refine Go.aload 319 at_317 rfl rfl rfl ?_
        refine Go.iload 321 at_319 rfl rfl ?_
        refine Go.iload_n 322 at_321 rfl rfl ?_
        refine Go.bipush (6) 324 at_322 rfl rfl ?_
        refine Go.invokestatic (rest := [.int (Int32.ofNat ((((((((((mkV ((XT.ushr fa (24 : Int32)) &&& (3 : Int32)) (fa &&& (255 : Int32)) ((XT.ushr fa (8 : Int32)) &&& (255 : Int32)) ((XT.ushr fa (16 : Int32)) &&& (255 : Int32))) ++ [(44 : Int32)]) ++ [(32 : Int32)]) ++ [(108 : Int32)]) ++ [(105 : Int32)]) ++ [(110 : Int32)]) ++ [(101 : Int32)]) ++ [(32 : Int32)]) ++ [(Int32.ofNat (48 + n_ / 100000000 % 10))]) ++ [(Int32.ofNat (48 + n_ / 10000000 % 10))]).length), .ref e_]) 2 [.int la, .int (6 : Int32)] 327 at_324 rfl (W.1 54 rfl) (W.1 55 rfl) (W.1 2 rfl) (W.1 56 rfl) (by decide) (cDig W (t_ := 1000000) hla hn (by decide) rfl (by decide)) (by decide +kernel : parseMethodDescriptor "(II)C" = some ⟨[.int, .int], (some .char)⟩) rfl rfl rfl (nl rfl) (nl rfl) (nl rfl) (nl rfl) (nl rfl) (fun v2626 vm2626 h2626 ⟨rv, Ed2615⟩ c2626 => ?_)
        subst rv
        have f2627 := A2564.ext Ed2615
        have f2628 := CHr.safe c2626 A2564.lt S2564
        have L2628 := Nat.lt_of_lt_of_le A2564.lt c2626.2.1
        refine Go.pushC ((((((((((mkV ((XT.ushr fa (24 : Int32)) &&& (3 : Int32)) (fa &&& (255 : Int32)) ((XT.ushr fa (8 : Int32)) &&& (255 : Int32)) ((XT.ushr fa (16 : Int32)) &&& (255 : Int32))) ++ [(44 : Int32)]) ++ [(32 : Int32)]) ++ [(108 : Int32)]) ++ [(105 : Int32)]) ++ [(110 : Int32)]) ++ [(101 : Int32)]) ++ [(32 : Int32)]) ++ [(Int32.ofNat (48 + n_ / 100000000 % 10))]) ++ [(Int32.ofNat (48 + n_ / 10000000 % 10))]) 25 328 at_327 rfl f2627 rfl rfl (by first | omega | (simp only [List.length_append, List.length_cons, List.length_nil]; omega)) (narC (dg48 _)) f2628 z10 (fun h2629 K2629 A2629 S2629 c2629 => ?_)
        have E2629 := Ext.kp1 (Ext.tr E2564 Ed2615) K2629 e10
        refine Go.iinc (Int32.ofNat (((((((((((mkV ((XT.ushr fa (24 : Int32)) &&& (3 : Int32)) (fa &&& (255 : Int32)) ((XT.ushr fa (8 : Int32)) &&& (255 : Int32)) ((XT.ushr fa (16 : Int32)) &&& (255 : Int32))) ++ [(44 : Int32)]) ++ [(32 : Int32)]) ++ [(108 : Int32)]) ++ [(105 : Int32)]) ++ [(110 : Int32)]) ++ [(101 : Int32)]) ++ [(32 : Int32)]) ++ [(Int32.ofNat (48 + n_ / 100000000 % 10))]) ++ [(Int32.ofNat (48 + n_ / 10000000 % 10))]) ++ [(Int32.ofNat (48 + n_ / 1000000 % 10))]).length) #[.val (.int fa), .val (.int la), .val (.int ra), .val (.int ((XT.ushr fa (24 : Int32)) &&& (3 : Int32))), .val (.int ((XT.ushr ra (24 : Int32)) &&& (3 : Int32))), .val (.int (fa &&& (255 : Int32))), .val (.int ((XT.ushr fa (8 : Int32)) &&& (255 : Int32))), .val (.int ((XT.ushr fa (16 : Int32)) &&& (255 : Int32))), .val (.int (ra &&& (255 : Int32))), .val (.int ((XT.ushr ra (8 : Int32)) &&& (255 : Int32))), .val (.int ((XT.ushr ra (16 : Int32)) &&& (255 : Int32))), .val (.ref u1), .val (.ref u2), .val (.ref pp), .val (.ref e_), .val (.int (Int32.ofNat (((((((((((mkV ((XT.ushr fa (24 : Int32)) &&& (3 : Int32)) (fa &&& (255 : Int32)) ((XT.ushr fa (8 : Int32)) &&& (255 : Int32)) ((XT.ushr fa (16 : Int32)) &&& (255 : Int32))) ++ [(44 : Int32)]) ++ [(32 : Int32)]) ++ [(108 : Int32)]) ++ [(105 : Int32)]) ++ [(110 : Int32)]) ++ [(101 : Int32)]) ++ [(32 : Int32)]) ++ [(Int32.ofNat (48 + n_ / 100000000 % 10))]) ++ [(Int32.ofNat (48 + n_ / 10000000 % 10))]) ++ [(Int32.ofNat (48 + n_ / 1000000 % 10))]).length)), .val (.int (Int32.ofNat 9))] 331 at_328 rfl rfl incL rfl ?_
        refine Go.iload 333 at_331 rfl rfl ?_
        refine Go.iconst (5) 334 at_333 rfl rfl ?_
        refine Go.if_icmple 350 337 at_334 (by decide) rfl rfl (fun q2630 => absurd (by decide) q2630) (fun q2630 => ?_)
        refine Go.aload 339 at_337 rfl rfl rfl ?_
        refine Go.iload 341 at_339 rfl rfl ?_
        refine Go.iload_n 342 at_341 rfl rfl ?_
        refine Go.iconst (5) 343 at_342 rfl rfl ?_
        refine Go.invokestatic (rest := [.int (Int32.ofNat (((((((((((mkV ((XT.ushr fa (24 : Int32)) &&& (3 : Int32)) (fa &&& (255 : Int32)) ((XT.ushr fa (8 : Int32)) &&& (255 : Int32)) ((XT.ushr fa (16 : Int32)) &&& (255 : Int32))) ++ [(44 : Int32)]) ++ [(32 : Int32)]) ++ [(108 : Int32)]) ++ [(105 : Int32)]) ++ [(110 : Int32)]) ++ [(101 : Int32)]) ++ [(32 : Int32)]) ++ [(Int32.ofNat (48 + n_ / 100000000 % 10))]) ++ [(Int32.ofNat (48 + n_ / 10000000 % 10))]) ++ [(Int32.ofNat (48 + n_ / 1000000 % 10))]).length), .ref e_]) 2 [.int la, .int (5 : Int32)] 346 at_343 rfl (W.1 54 rfl) (W.1 55 rfl) (W.1 2 rfl) (W.1 56 rfl) (by decide) (cDig W (t_ := 100000) hla hn (by decide) rfl (by decide)) (by decide +kernel : parseMethodDescriptor "(II)C" = some ⟨[.int, .int], (some .char)⟩) rfl rfl rfl (nl rfl) (nl rfl) (nl rfl) (nl rfl) (nl rfl) (fun v2691 vm2691 h2691 ⟨rv, Ed2680⟩ c2691 => ?_)
        subst rv
        have f2692 := A2629.ext Ed2680
        have f2693 := CHr.safe c2691 A2629.lt S2629
        have L2693 := Nat.lt_of_lt_of_le A2629.lt c2691.2.1
        refine Go.pushC (((((((((((mkV ((XT.ushr fa (24 : Int32)) &&& (3 : Int32)) (fa &&& (255 : Int32)) ((XT.ushr fa (8 : Int32)) &&& (255 : Int32)) ((XT.ushr fa (16 : Int32)) &&& (255 : Int32))) ++ [(44 : Int32)]) ++ [(32 : Int32)]) ++ [(108 : Int32)]) ++ [(105 : Int32)]) ++ [(110 : Int32)]) ++ [(101 : Int32)]) ++ [(32 : Int32)]) ++ [(Int32.ofNat (48 + n_ / 100000000 % 10))]) ++ [(Int32.ofNat (48 + n_ / 10000000 % 10))]) ++ [(Int32.ofNat (48 + n_ / 1000000 % 10))]) 25 347 at_346 rfl f2692 rfl rfl (by first | omega | (simp only [List.length_append, List.length_cons, List.length_nil]; omega)) (narC (dg48 _)) f2693 z10 (fun h2694 K2694 A2694 S2694 c2694 => ?_)
        have E2694 := Ext.kp1 (Ext.tr E2629 Ed2680) K2694 e10
        refine Go.iinc (Int32.ofNat ((((((((((((mkV ((XT.ushr fa (24 : Int32)) &&& (3 : Int32)) (fa &&& (255 : Int32)) ((XT.ushr fa (8 : Int32)) &&& (255 : Int32)) ((XT.ushr fa (16 : Int32)) &&& (255 : Int32))) ++ [(44 : Int32)]) ++ [(32 : Int32)]) ++ [(108 : Int32)]) ++ [(105 : Int32)]) ++ [(110 : Int32)]) ++ [(101 : Int32)]) ++ [(32 : Int32)]) ++ [(Int32.ofNat (48 + n_ / 100000000 % 10))]) ++ [(Int32.ofNat (48 + n_ / 10000000 % 10))]) ++ [(Int32.ofNat (48 + n_ / 1000000 % 10))]) ++ [(Int32.ofNat (48 + n_ / 100000 % 10))]).length) #[.val (.int fa), .val (.int la), .val (.int ra), .val (.int ((XT.ushr fa (24 : Int32)) &&& (3 : Int32))), .val (.int ((XT.ushr ra (24 : Int32)) &&& (3 : Int32))), .val (.int (fa &&& (255 : Int32))), .val (.int ((XT.ushr fa (8 : Int32)) &&& (255 : Int32))), .val (.int ((XT.ushr fa (16 : Int32)) &&& (255 : Int32))), .val (.int (ra &&& (255 : Int32))), .val (.int ((XT.ushr ra (8 : Int32)) &&& (255 : Int32))), .val (.int ((XT.ushr ra (16 : Int32)) &&& (255 : Int32))), .val (.ref u1), .val (.ref u2), .val (.ref pp), .val (.ref e_), .val (.int (Int32.ofNat ((((((((((((mkV ((XT.ushr fa (24 : Int32)) &&& (3 : Int32)) (fa &&& (255 : Int32)) ((XT.ushr fa (8 : Int32)) &&& (255 : Int32)) ((XT.ushr fa (16 : Int32)) &&& (255 : Int32))) ++ [(44 : Int32)]) ++ [(32 : Int32)]) ++ [(108 : Int32)]) ++ [(105 : Int32)]) ++ [(110 : Int32)]) ++ [(101 : Int32)]) ++ [(32 : Int32)]) ++ [(Int32.ofNat (48 + n_ / 100000000 % 10))]) ++ [(Int32.ofNat (48 + n_ / 10000000 % 10))]) ++ [(Int32.ofNat (48 + n_ / 1000000 % 10))]) ++ [(Int32.ofNat (48 + n_ / 100000 % 10))]).length)), .val (.int (Int32.ofNat 9))] 350 at_347 rfl rfl incL rfl ?_
        refine Go.iload 352 at_350 rfl rfl ?_
        refine Go.iconst (4) 353 at_352 rfl rfl ?_
        refine Go.if_icmple 369 356 at_353 (by decide) rfl rfl (fun q2695 => absurd (by decide) q2695) (fun q2695 => ?_)
        refine Go.aload 358 at_356 rfl rfl rfl ?_
        refine Go.iload 360 at_358 rfl rfl ?_
        refine Go.iload_n 361 at_360 rfl rfl ?_
        refine Go.iconst (4) 362 at_361 rfl rfl ?_
        refine Go.invokestatic (rest := [.int (Int32.ofNat ((((((((((((mkV ((XT.ushr fa (24 : Int32)) &&& (3 : Int32)) (fa &&& (255 : Int32)) ((XT.ushr fa (8 : Int32)) &&& (255 : Int32)) ((XT.ushr fa (16 : Int32)) &&& (255 : Int32))) ++ [(44 : Int32)]) ++ [(32 : Int32)]) ++ [(108 : Int32)]) ++ [(105 : Int32)]) ++ [(110 : Int32)]) ++ [(101 : Int32)]) ++ [(32 : Int32)]) ++ [(Int32.ofNat (48 + n_ / 100000000 % 10))]) ++ [(Int32.ofNat (48 + n_ / 10000000 % 10))]) ++ [(Int32.ofNat (48 + n_ / 1000000 % 10))]) ++ [(Int32.ofNat (48 + n_ / 100000 % 10))]).length), .ref e_]) 2 [.int la, .int (4 : Int32)] 365 at_362 rfl (W.1 54 rfl) (W.1 55 rfl) (W.1 2 rfl) (W.1 56 rfl) (by decide) (cDig W (t_ := 10000) hla hn (by decide) rfl (by decide)) (by decide +kernel : parseMethodDescriptor "(II)C" = some ⟨[.int, .int], (some .char)⟩) rfl rfl rfl (nl rfl) (nl rfl) (nl rfl) (nl rfl) (nl rfl) (fun v2756 vm2756 h2756 ⟨rv, Ed2745⟩ c2756 => ?_)
        subst rv
        have f2757 := A2694.ext Ed2745
        have f2758 := CHr.safe c2756 A2694.lt S2694
        have L2758 := Nat.lt_of_lt_of_le A2694.lt c2756.2.1
        refine Go.pushC ((((((((((((mkV ((XT.ushr fa (24 : Int32)) &&& (3 : Int32)) (fa &&& (255 : Int32)) ((XT.ushr fa (8 : Int32)) &&& (255 : Int32)) ((XT.ushr fa (16 : Int32)) &&& (255 : Int32))) ++ [(44 : Int32)]) ++ [(32 : Int32)]) ++ [(108 : Int32)]) ++ [(105 : Int32)]) ++ [(110 : Int32)]) ++ [(101 : Int32)]) ++ [(32 : Int32)]) ++ [(Int32.ofNat (48 + n_ / 100000000 % 10))]) ++ [(Int32.ofNat (48 + n_ / 10000000 % 10))]) ++ [(Int32.ofNat (48 + n_ / 1000000 % 10))]) ++ [(Int32.ofNat (48 + n_ / 100000 % 10))]) 25 366 at_365 rfl f2757 rfl rfl (by first | omega | (simp only [List.length_append, List.length_cons, List.length_nil]; omega)) (narC (dg48 _)) f2758 z10 (fun h2759 K2759 A2759 S2759 c2759 => ?_)
        have E2759 := Ext.kp1 (Ext.tr E2694 Ed2745) K2759 e10
        refine Go.iinc (Int32.ofNat (((((((((((((mkV ((XT.ushr fa (24 : Int32)) &&& (3 : Int32)) (fa &&& (255 : Int32)) ((XT.ushr fa (8 : Int32)) &&& (255 : Int32)) ((XT.ushr fa (16 : Int32)) &&& (255 : Int32))) ++ [(44 : Int32)]) ++ [(32 : Int32)]) ++ [(108 : Int32)]) ++ [(105 : Int32)]) ++ [(110 : Int32)]) ++ [(101 : Int32)]) ++ [(32 : Int32)]) ++ [(Int32.ofNat (48 + n_ / 100000000 % 10))]) ++ [(Int32.ofNat (48 + n_ / 10000000 % 10))]) ++ [(Int32.ofNat (48 + n_ / 1000000 % 10))]) ++ [(Int32.ofNat (48 + n_ / 100000 % 10))]) ++ [(Int32.ofNat (48 + n_ / 10000 % 10))]).length) #[.val (.int fa), .val (.int la), .val (.int ra), .val (.int ((XT.ushr fa (24 : Int32)) &&& (3 : Int32))), .val (.int ((XT.ushr ra (24 : Int32)) &&& (3 : Int32))), .val (.int (fa &&& (255 : Int32))), .val (.int ((XT.ushr fa (8 : Int32)) &&& (255 : Int32))), .val (.int ((XT.ushr fa (16 : Int32)) &&& (255 : Int32))), .val (.int (ra &&& (255 : Int32))), .val (.int ((XT.ushr ra (8 : Int32)) &&& (255 : Int32))), .val (.int ((XT.ushr ra (16 : Int32)) &&& (255 : Int32))), .val (.ref u1), .val (.ref u2), .val (.ref pp), .val (.ref e_), .val (.int (Int32.ofNat (((((((((((((mkV ((XT.ushr fa (24 : Int32)) &&& (3 : Int32)) (fa &&& (255 : Int32)) ((XT.ushr fa (8 : Int32)) &&& (255 : Int32)) ((XT.ushr fa (16 : Int32)) &&& (255 : Int32))) ++ [(44 : Int32)]) ++ [(32 : Int32)]) ++ [(108 : Int32)]) ++ [(105 : Int32)]) ++ [(110 : Int32)]) ++ [(101 : Int32)]) ++ [(32 : Int32)]) ++ [(Int32.ofNat (48 + n_ / 100000000 % 10))]) ++ [(Int32.ofNat (48 + n_ / 10000000 % 10))]) ++ [(Int32.ofNat (48 + n_ / 1000000 % 10))]) ++ [(Int32.ofNat (48 + n_ / 100000 % 10))]) ++ [(Int32.ofNat (48 + n_ / 10000 % 10))]).length)), .val (.int (Int32.ofNat 9))] 369 at_366 rfl rfl incL rfl ?_
        refine Go.iload 371 at_369 rfl rfl ?_
        refine Go.iconst (3) 372 at_371 rfl rfl ?_
        refine Go.if_icmple 388 375 at_372 (by decide) rfl rfl (fun q2760 => absurd (by decide) q2760) (fun q2760 => ?_)
        refine Go.aload 377 at_375 rfl rfl rfl ?_
        refine Go.iload 379 at_377 rfl rfl ?_
        refine Go.iload_n 380 at_379 rfl rfl ?_
        refine Go.iconst (3) 381 at_380 rfl rfl ?_
        refine Go.invokestatic (rest := [.int (Int32.ofNat (((((((((((((mkV ((XT.ushr fa (24 : Int32)) &&& (3 : Int32)) (fa &&& (255 : Int32)) ((XT.ushr fa (8 : Int32)) &&& (255 : Int32)) ((XT.ushr fa (16 : Int32)) &&& (255 : Int32))) ++ [(44 : Int32)]) ++ [(32 : Int32)]) ++ [(108 : Int32)]) ++ [(105 : Int32)]) ++ [(110 : Int32)]) ++ [(101 : Int32)]) ++ [(32 : Int32)]) ++ [(Int32.ofNat (48 + n_ / 100000000 % 10))]) ++ [(Int32.ofNat (48 + n_ / 10000000 % 10))]) ++ [(Int32.ofNat (48 + n_ / 1000000 % 10))]) ++ [(Int32.ofNat (48 + n_ / 100000 % 10))]) ++ [(Int32.ofNat (48 + n_ / 10000 % 10))]).length), .ref e_]) 2 [.int la, .int (3 : Int32)] 384 at_381 rfl (W.1 54 rfl) (W.1 55 rfl) (W.1 2 rfl) (W.1 56 rfl) (by decide) (cDig W (t_ := 1000) hla hn (by decide) rfl (by decide)) (by decide +kernel : parseMethodDescriptor "(II)C" = some ⟨[.int, .int], (some .char)⟩) rfl rfl rfl (nl rfl) (nl rfl) (nl rfl) (nl rfl) (nl rfl) (fun v2821 vm2821 h2821 ⟨rv, Ed2810⟩ c2821 => ?_)
        subst rv
        have f2822 := A2759.ext Ed2810
        have f2823 := CHr.safe c2821 A2759.lt S2759
        have L2823 := Nat.lt_of_lt_of_le A2759.lt c2821.2.1
        refine Go.pushC (((((((((((((mkV ((XT.ushr fa (24 : Int32)) &&& (3 : Int32)) (fa &&& (255 : Int32)) ((XT.ushr fa (8 : Int32)) &&& (255 : Int32)) ((XT.ushr fa (16 : Int32)) &&& (255 : Int32))) ++ [(44 : Int32)]) ++ [(32 : Int32)]) ++ [(108 : Int32)]) ++ [(105 : Int32)]) ++ [(110 : Int32)]) ++ [(101 : Int32)]) ++ [(32 : Int32)]) ++ [(Int32.ofNat (48 + n_ / 100000000 % 10))]) ++ [(Int32.ofNat (48 + n_ / 10000000 % 10))]) ++ [(Int32.ofNat (48 + n_ / 1000000 % 10))]) ++ [(Int32.ofNat (48 + n_ / 100000 % 10))]) ++ [(Int32.ofNat (48 + n_ / 10000 % 10))]) 25 385 at_384 rfl f2822 rfl rfl (by first | omega | (simp only [List.length_append, List.length_cons, List.length_nil]; omega)) (narC (dg48 _)) f2823 z10 (fun h2824 K2824 A2824 S2824 c2824 => ?_)
        have E2824 := Ext.kp1 (Ext.tr E2759 Ed2810) K2824 e10
        refine Go.iinc (Int32.ofNat ((((((((((((((mkV ((XT.ushr fa (24 : Int32)) &&& (3 : Int32)) (fa &&& (255 : Int32)) ((XT.ushr fa (8 : Int32)) &&& (255 : Int32)) ((XT.ushr fa (16 : Int32)) &&& (255 : Int32))) ++ [(44 : Int32)]) ++ [(32 : Int32)]) ++ [(108 : Int32)]) ++ [(105 : Int32)]) ++ [(110 : Int32)]) ++ [(101 : Int32)]) ++ [(32 : Int32)]) ++ [(Int32.ofNat (48 + n_ / 100000000 % 10))]) ++ [(Int32.ofNat (48 + n_ / 10000000 % 10))]) ++ [(Int32.ofNat (48 + n_ / 1000000 % 10))]) ++ [(Int32.ofNat (48 + n_ / 100000 % 10))]) ++ [(Int32.ofNat (48 + n_ / 10000 % 10))]) ++ [(Int32.ofNat (48 + n_ / 1000 % 10))]).length) #[.val (.int fa), .val (.int la), .val (.int ra), .val (.int ((XT.ushr fa (24 : Int32)) &&& (3 : Int32))), .val (.int ((XT.ushr ra (24 : Int32)) &&& (3 : Int32))), .val (.int (fa &&& (255 : Int32))), .val (.int ((XT.ushr fa (8 : Int32)) &&& (255 : Int32))), .val (.int ((XT.ushr fa (16 : Int32)) &&& (255 : Int32))), .val (.int (ra &&& (255 : Int32))), .val (.int ((XT.ushr ra (8 : Int32)) &&& (255 : Int32))), .val (.int ((XT.ushr ra (16 : Int32)) &&& (255 : Int32))), .val (.ref u1), .val (.ref u2), .val (.ref pp), .val (.ref e_), .val (.int (Int32.ofNat ((((((((((((((mkV ((XT.ushr fa (24 : Int32)) &&& (3 : Int32)) (fa &&& (255 : Int32)) ((XT.ushr fa (8 : Int32)) &&& (255 : Int32)) ((XT.ushr fa (16 : Int32)) &&& (255 : Int32))) ++ [(44 : Int32)]) ++ [(32 : Int32)]) ++ [(108 : Int32)]) ++ [(105 : Int32)]) ++ [(110 : Int32)]) ++ [(101 : Int32)]) ++ [(32 : Int32)]) ++ [(Int32.ofNat (48 + n_ / 100000000 % 10))]) ++ [(Int32.ofNat (48 + n_ / 10000000 % 10))]) ++ [(Int32.ofNat (48 + n_ / 1000000 % 10))]) ++ [(Int32.ofNat (48 + n_ / 100000 % 10))]) ++ [(Int32.ofNat (48 + n_ / 10000 % 10))]) ++ [(Int32.ofNat (48 + n_ / 1000 % 10))]).length)), .val (.int (Int32.ofNat 9))] 388 at_385 rfl rfl incL rfl ?_
        refine Go.iload 390 at_388 rfl rfl ?_
        refine Go.iconst (2) 391 at_390 rfl rfl ?_
        refine Go.if_icmple 407 394 at_391 (by decide) rfl rfl (fun q2825 => absurd (by decide) q2825) (fun q2825 => ?_)
        refine Go.aload 396 at_394 rfl rfl rfl ?_
        refine Go.iload 398 at_396 rfl rfl ?_
        refine Go.iload_n 399 at_398 rfl rfl ?_
        refine Go.iconst (2) 400 at_399 rfl rfl ?_
        refine Go.invokestatic (rest := [.int (Int32.ofNat ((((((((((((((mkV ((XT.ushr fa (24 : Int32)) &&& (3 : Int32)) (fa &&& (255 : Int32)) ((XT.ushr fa (8 : Int32)) &&& (255 : Int32)) ((XT.ushr fa (16 : Int32)) &&& (255 : Int32))) ++ [(44 : Int32)]) ++ [(32 : Int32)]) ++ [(108 : Int32)]) ++ [(105 : Int32)]) ++ [(110 : Int32)]) ++ [(101 : Int32)]) ++ [(32 : Int32)]) ++ [(Int32.ofNat (48 + n_ / 100000000 % 10))]) ++ [(Int32.ofNat (48 + n_ / 10000000 % 10))]) ++ [(Int32.ofNat (48 + n_ / 1000000 % 10))]) ++ [(Int32.ofNat (48 + n_ / 100000 % 10))]) ++ [(Int32.ofNat (48 + n_ / 10000 % 10))]) ++ [(Int32.ofNat (48 + n_ / 1000 % 10))]).length), .ref e_]) 2 [.int la, .int (2 : Int32)] 403 at_400 rfl (W.1 54 rfl) (W.1 55 rfl) (W.1 2 rfl) (W.1 56 rfl) (by decide) (cDig W (t_ := 100) hla hn (by decide) rfl (by decide)) (by decide +kernel : parseMethodDescriptor "(II)C" = some ⟨[.int, .int], (some .char)⟩) rfl rfl rfl (nl rfl) (nl rfl) (nl rfl) (nl rfl) (nl rfl) (fun v2886 vm2886 h2886 ⟨rv, Ed2875⟩ c2886 => ?_)
        subst rv
        have f2887 := A2824.ext Ed2875
        have f2888 := CHr.safe c2886 A2824.lt S2824
        have L2888 := Nat.lt_of_lt_of_le A2824.lt c2886.2.1
        refine Go.pushC ((((((((((((((mkV ((XT.ushr fa (24 : Int32)) &&& (3 : Int32)) (fa &&& (255 : Int32)) ((XT.ushr fa (8 : Int32)) &&& (255 : Int32)) ((XT.ushr fa (16 : Int32)) &&& (255 : Int32))) ++ [(44 : Int32)]) ++ [(32 : Int32)]) ++ [(108 : Int32)]) ++ [(105 : Int32)]) ++ [(110 : Int32)]) ++ [(101 : Int32)]) ++ [(32 : Int32)]) ++ [(Int32.ofNat (48 + n_ / 100000000 % 10))]) ++ [(Int32.ofNat (48 + n_ / 10000000 % 10))]) ++ [(Int32.ofNat (48 + n_ / 1000000 % 10))]) ++ [(Int32.ofNat (48 + n_ / 100000 % 10))]) ++ [(Int32.ofNat (48 + n_ / 10000 % 10))]) ++ [(Int32.ofNat (48 + n_ / 1000 % 10))]) 25 404 at_403 rfl f2887 rfl rfl (by first | omega | (simp only [List.length_append, List.length_cons, List.length_nil]; omega)) (narC (dg48 _)) f2888 z10 (fun h2889 K2889 A2889 S2889 c2889 => ?_)
        have E2889 := Ext.kp1 (Ext.tr E2824 Ed2875) K2889 e10
        refine Go.iinc (Int32.ofNat (((((((((((((((mkV ((XT.ushr fa (24 : Int32)) &&& (3 : Int32)) (fa &&& (255 : Int32)) ((XT.ushr fa (8 : Int32)) &&& (255 : Int32)) ((XT.ushr fa (16 : Int32)) &&& (255 : Int32))) ++ [(44 : Int32)]) ++ [(32 : Int32)]) ++ [(108 : Int32)]) ++ [(105 : Int32)]) ++ [(110 : Int32)]) ++ [(101 : Int32)]) ++ [(32 : Int32)]) ++ [(Int32.ofNat (48 + n_ / 100000000 % 10))]) ++ [(Int32.ofNat (48 + n_ / 10000000 % 10))]) ++ [(Int32.ofNat (48 + n_ / 1000000 % 10))]) ++ [(Int32.ofNat (48 + n_ / 100000 % 10))]) ++ [(Int32.ofNat (48 + n_ / 10000 % 10))]) ++ [(Int32.ofNat (48 + n_ / 1000 % 10))]) ++ [(Int32.ofNat (48 + n_ / 100 % 10))]).length) #[.val (.int fa), .val (.int la), .val (.int ra), .val (.int ((XT.ushr fa (24 : Int32)) &&& (3 : Int32))), .val (.int ((XT.ushr ra (24 : Int32)) &&& (3 : Int32))), .val (.int (fa &&& (255 : Int32))), .val (.int ((XT.ushr fa (8 : Int32)) &&& (255 : Int32))), .val (.int ((XT.ushr fa (16 : Int32)) &&& (255 : Int32))), .val (.int (ra &&& (255 : Int32))), .val (.int ((XT.ushr ra (8 : Int32)) &&& (255 : Int32))), .val (.int ((XT.ushr ra (16 : Int32)) &&& (255 : Int32))), .val (.ref u1), .val (.ref u2), .val (.ref pp), .val (.ref e_), .val (.int (Int32.ofNat (((((((((((((((mkV ((XT.ushr fa (24 : Int32)) &&& (3 : Int32)) (fa &&& (255 : Int32)) ((XT.ushr fa (8 : Int32)) &&& (255 : Int32)) ((XT.ushr fa (16 : Int32)) &&& (255 : Int32))) ++ [(44 : Int32)]) ++ [(32 : Int32)]) ++ [(108 : Int32)]) ++ [(105 : Int32)]) ++ [(110 : Int32)]) ++ [(101 : Int32)]) ++ [(32 : Int32)]) ++ [(Int32.ofNat (48 + n_ / 100000000 % 10))]) ++ [(Int32.ofNat (48 + n_ / 10000000 % 10))]) ++ [(Int32.ofNat (48 + n_ / 1000000 % 10))]) ++ [(Int32.ofNat (48 + n_ / 100000 % 10))]) ++ [(Int32.ofNat (48 + n_ / 10000 % 10))]) ++ [(Int32.ofNat (48 + n_ / 1000 % 10))]) ++ [(Int32.ofNat (48 + n_ / 100 % 10))]).length)), .val (.int (Int32.ofNat 9))] 407 at_404 rfl rfl incL rfl ?_
        refine Go.iload 409 at_407 rfl rfl ?_
        refine Go.iconst (1) 410 at_409 rfl rfl ?_
        refine Go.if_icmple 426 413 at_410 (by decide) rfl rfl (fun q2890 => absurd (by decide) q2890) (fun q2890 => ?_)
        refine Go.aload 415 at_413 rfl rfl rfl ?_
        refine Go.iload 417 at_415 rfl rfl ?_
        refine Go.iload_n 418 at_417 rfl rfl ?_
        refine Go.iconst (1) 419 at_418 rfl rfl ?_
        refine Go.invokestatic (rest := [.int (Int32.ofNat (((((((((((((((mkV ((XT.ushr fa (24 : Int32)) &&& (3 : Int32)) (fa &&& (255 : Int32)) ((XT.ushr fa (8 : Int32)) &&& (255 : Int32)) ((XT.ushr fa (16 : Int32)) &&& (255 : Int32))) ++ [(44 : Int32)]) ++ [(32 : Int32)]) ++ [(108 : Int32)]) ++ [(105 : Int32)]) ++ [(110 : Int32)]) ++ [(101 : Int32)]) ++ [(32 : Int32)]) ++ [(Int32.ofNat (48 + n_ / 100000000 % 10))]) ++ [(Int32.ofNat (48 + n_ / 10000000 % 10))]) ++ [(Int32.ofNat (48 + n_ / 1000000 % 10))]) ++ [(Int32.ofNat (48 + n_ / 100000 % 10))]) ++ [(Int32.ofNat (48 + n_ / 10000 % 10))]) ++ [(Int32.ofNat (48 + n_ / 1000 % 10))]) ++ [(Int32.ofNat (48 + n_ / 100 % 10))]).length), .ref e_]) 2 [.int la, .int (1 : Int32)] 422 at_419 rfl (W.1 54 rfl) (W.1 55 rfl) (W.1 2 rfl) (W.1 56 rfl) (by decide) (cDig W (t_ := 10) hla hn (by decide) rfl (by decide)) (by decide +kernel : parseMethodDescriptor "(II)C" = some ⟨[.int, .int], (some .char)⟩) rfl rfl rfl (nl rfl) (nl rfl) (nl rfl) (nl rfl) (nl rfl) (fun v2951 vm2951 h2951 ⟨rv, Ed2940⟩ c2951 => ?_)
        subst rv
        have f2952 := A2889.ext Ed2940
        have f2953 := CHr.safe c2951 A2889.lt S2889
        have L2953 := Nat.lt_of_lt_of_le A2889.lt c2951.2.1
        refine Go.pushC (((((((((((((((mkV ((XT.ushr fa (24 : Int32)) &&& (3 : Int32)) (fa &&& (255 : Int32)) ((XT.ushr fa (8 : Int32)) &&& (255 : Int32)) ((XT.ushr fa (16 : Int32)) &&& (255 : Int32))) ++ [(44 : Int32)]) ++ [(32 : Int32)]) ++ [(108 : Int32)]) ++ [(105 : Int32)]) ++ [(110 : Int32)]) ++ [(101 : Int32)]) ++ [(32 : Int32)]) ++ [(Int32.ofNat (48 + n_ / 100000000 % 10))]) ++ [(Int32.ofNat (48 + n_ / 10000000 % 10))]) ++ [(Int32.ofNat (48 + n_ / 1000000 % 10))]) ++ [(Int32.ofNat (48 + n_ / 100000 % 10))]) ++ [(Int32.ofNat (48 + n_ / 10000 % 10))]) ++ [(Int32.ofNat (48 + n_ / 1000 % 10))]) ++ [(Int32.ofNat (48 + n_ / 100 % 10))]) 25 423 at_422 rfl f2952 rfl rfl (by first | omega | (simp only [List.length_append, List.length_cons, List.length_nil]; omega)) (narC (dg48 _)) f2953 z10 (fun h2954 K2954 A2954 S2954 c2954 => ?_)
        have E2954 := Ext.kp1 (Ext.tr E2889 Ed2940) K2954 e10
        refine Go.iinc (Int32.ofNat ((((((((((((((((mkV ((XT.ushr fa (24 : Int32)) &&& (3 : Int32)) (fa &&& (255 : Int32)) ((XT.ushr fa (8 : Int32)) &&& (255 : Int32)) ((XT.ushr fa (16 : Int32)) &&& (255 : Int32))) ++ [(44 : Int32)]) ++ [(32 : Int32)]) ++ [(108 : Int32)]) ++ [(105 : Int32)]) ++ [(110 : Int32)]) ++ [(101 : Int32)]) ++ [(32 : Int32)]) ++ [(Int32.ofNat (48 + n_ / 100000000 % 10))]) ++ [(Int32.ofNat (48 + n_ / 10000000 % 10))]) ++ [(Int32.ofNat (48 + n_ / 1000000 % 10))]) ++ [(Int32.ofNat (48 + n_ / 100000 % 10))]) ++ [(Int32.ofNat (48 + n_ / 10000 % 10))]) ++ [(Int32.ofNat (48 + n_ / 1000 % 10))]) ++ [(Int32.ofNat (48 + n_ / 100 % 10))]) ++ [(Int32.ofNat (48 + n_ / 10 % 10))]).length) #[.val (.int fa), .val (.int la), .val (.int ra), .val (.int ((XT.ushr fa (24 : Int32)) &&& (3 : Int32))), .val (.int ((XT.ushr ra (24 : Int32)) &&& (3 : Int32))), .val (.int (fa &&& (255 : Int32))), .val (.int ((XT.ushr fa (8 : Int32)) &&& (255 : Int32))), .val (.int ((XT.ushr fa (16 : Int32)) &&& (255 : Int32))), .val (.int (ra &&& (255 : Int32))), .val (.int ((XT.ushr ra (8 : Int32)) &&& (255 : Int32))), .val (.int ((XT.ushr ra (16 : Int32)) &&& (255 : Int32))), .val (.ref u1), .val (.ref u2), .val (.ref pp), .val (.ref e_), .val (.int (Int32.ofNat ((((((((((((((((mkV ((XT.ushr fa (24 : Int32)) &&& (3 : Int32)) (fa &&& (255 : Int32)) ((XT.ushr fa (8 : Int32)) &&& (255 : Int32)) ((XT.ushr fa (16 : Int32)) &&& (255 : Int32))) ++ [(44 : Int32)]) ++ [(32 : Int32)]) ++ [(108 : Int32)]) ++ [(105 : Int32)]) ++ [(110 : Int32)]) ++ [(101 : Int32)]) ++ [(32 : Int32)]) ++ [(Int32.ofNat (48 + n_ / 100000000 % 10))]) ++ [(Int32.ofNat (48 + n_ / 10000000 % 10))]) ++ [(Int32.ofNat (48 + n_ / 1000000 % 10))]) ++ [(Int32.ofNat (48 + n_ / 100000 % 10))]) ++ [(Int32.ofNat (48 + n_ / 10000 % 10))]) ++ [(Int32.ofNat (48 + n_ / 1000 % 10))]) ++ [(Int32.ofNat (48 + n_ / 100 % 10))]) ++ [(Int32.ofNat (48 + n_ / 10 % 10))]).length)), .val (.int (Int32.ofNat 9))] 426 at_423 rfl rfl incL rfl ?_
        refine Go.aload 428 at_426 rfl rfl rfl ?_
        refine Go.iload 430 at_428 rfl rfl ?_
        refine Go.iload_n 431 at_430 rfl rfl ?_
        refine Go.iconst (0) 432 at_431 rfl rfl ?_
        refine Go.invokestatic (rest := [.int (Int32.ofNat ((((((((((((((((mkV ((XT.ushr fa (24 : Int32)) &&& (3 : Int32)) (fa &&& (255 : Int32)) ((XT.ushr fa (8 : Int32)) &&& (255 : Int32)) ((XT.ushr fa (16 : Int32)) &&& (255 : Int32))) ++ [(44 : Int32)]) ++ [(32 : Int32)]) ++ [(108 : Int32)]) ++ [(105 : Int32)]) ++ [(110 : Int32)]) ++ [(101 : Int32)]) ++ [(32 : Int32)]) ++ [(Int32.ofNat (48 + n_ / 100000000 % 10))]) ++ [(Int32.ofNat (48 + n_ / 10000000 % 10))]) ++ [(Int32.ofNat (48 + n_ / 1000000 % 10))]) ++ [(Int32.ofNat (48 + n_ / 100000 % 10))]) ++ [(Int32.ofNat (48 + n_ / 10000 % 10))]) ++ [(Int32.ofNat (48 + n_ / 1000 % 10))]) ++ [(Int32.ofNat (48 + n_ / 100 % 10))]) ++ [(Int32.ofNat (48 + n_ / 10 % 10))]).length), .ref e_]) 2 [.int la, .int (0 : Int32)] 435 at_432 rfl (W.1 54 rfl) (W.1 55 rfl) (W.1 2 rfl) (W.1 56 rfl) (by decide) (cDig W (t_ := 1) hla hn (by decide) rfl (by decide)) (by decide +kernel : parseMethodDescriptor "(II)C" = some ⟨[.int, .int], (some .char)⟩) rfl rfl rfl (nl rfl) (nl rfl) (nl rfl) (nl rfl) (nl rfl) (fun v3015 vm3015 h3015 ⟨rv, Ed3004⟩ c3015 => ?_)
        subst rv
        have f3016 := A2954.ext Ed3004
        have f3017 := CHr.safe c3015 A2954.lt S2954
        have L3017 := Nat.lt_of_lt_of_le A2954.lt c3015.2.1
        refine Go.pushC ((((((((((((((((mkV ((XT.ushr fa (24 : Int32)) &&& (3 : Int32)) (fa &&& (255 : Int32)) ((XT.ushr fa (8 : Int32)) &&& (255 : Int32)) ((XT.ushr fa (16 : Int32)) &&& (255 : Int32))) ++ [(44 : Int32)]) ++ [(32 : Int32)]) ++ [(108 : Int32)]) ++ [(105 : Int32)]) ++ [(110 : Int32)]) ++ [(101 : Int32)]) ++ [(32 : Int32)]) ++ [(Int32.ofNat (48 + n_ / 100000000 % 10))]) ++ [(Int32.ofNat (48 + n_ / 10000000 % 10))]) ++ [(Int32.ofNat (48 + n_ / 1000000 % 10))]) ++ [(Int32.ofNat (48 + n_ / 100000 % 10))]) ++ [(Int32.ofNat (48 + n_ / 10000 % 10))]) ++ [(Int32.ofNat (48 + n_ / 1000 % 10))]) ++ [(Int32.ofNat (48 + n_ / 100 % 10))]) ++ [(Int32.ofNat (48 + n_ / 10 % 10))]) 25 436 at_435 rfl f3016 rfl rfl (by first | omega | (simp only [List.length_append, List.length_cons, List.length_nil]; omega)) (narC (dg48 _)) f3017 z10 (fun h3018 K3018 A3018 S3018 c3018 => ?_)
        have E3018 := Ext.kp1 (Ext.tr E2954 Ed3004) K3018 e10
        refine Go.iinc (Int32.ofNat (((((((((((((((((mkV ((XT.ushr fa (24 : Int32)) &&& (3 : Int32)) (fa &&& (255 : Int32)) ((XT.ushr fa (8 : Int32)) &&& (255 : Int32)) ((XT.ushr fa (16 : Int32)) &&& (255 : Int32))) ++ [(44 : Int32)]) ++ [(32 : Int32)]) ++ [(108 : Int32)]) ++ [(105 : Int32)]) ++ [(110 : Int32)]) ++ [(101 : Int32)]) ++ [(32 : Int32)]) ++ [(Int32.ofNat (48 + n_ / 100000000 % 10))]) ++ [(Int32.ofNat (48 + n_ / 10000000 % 10))]) ++ [(Int32.ofNat (48 + n_ / 1000000 % 10))]) ++ [(Int32.ofNat (48 + n_ / 100000 % 10))]) ++ [(Int32.ofNat (48 + n_ / 10000 % 10))]) ++ [(Int32.ofNat (48 + n_ / 1000 % 10))]) ++ [(Int32.ofNat (48 + n_ / 100 % 10))]) ++ [(Int32.ofNat (48 + n_ / 10 % 10))]) ++ [(Int32.ofNat (48 + n_ / 1 % 10))]).length) #[.val (.int fa), .val (.int la), .val (.int ra), .val (.int ((XT.ushr fa (24 : Int32)) &&& (3 : Int32))), .val (.int ((XT.ushr ra (24 : Int32)) &&& (3 : Int32))), .val (.int (fa &&& (255 : Int32))), .val (.int ((XT.ushr fa (8 : Int32)) &&& (255 : Int32))), .val (.int ((XT.ushr fa (16 : Int32)) &&& (255 : Int32))), .val (.int (ra &&& (255 : Int32))), .val (.int ((XT.ushr ra (8 : Int32)) &&& (255 : Int32))), .val (.int ((XT.ushr ra (16 : Int32)) &&& (255 : Int32))), .val (.ref u1), .val (.ref u2), .val (.ref pp), .val (.ref e_), .val (.int (Int32.ofNat (((((((((((((((((mkV ((XT.ushr fa (24 : Int32)) &&& (3 : Int32)) (fa &&& (255 : Int32)) ((XT.ushr fa (8 : Int32)) &&& (255 : Int32)) ((XT.ushr fa (16 : Int32)) &&& (255 : Int32))) ++ [(44 : Int32)]) ++ [(32 : Int32)]) ++ [(108 : Int32)]) ++ [(105 : Int32)]) ++ [(110 : Int32)]) ++ [(101 : Int32)]) ++ [(32 : Int32)]) ++ [(Int32.ofNat (48 + n_ / 100000000 % 10))]) ++ [(Int32.ofNat (48 + n_ / 10000000 % 10))]) ++ [(Int32.ofNat (48 + n_ / 1000000 % 10))]) ++ [(Int32.ofNat (48 + n_ / 100000 % 10))]) ++ [(Int32.ofNat (48 + n_ / 10000 % 10))]) ++ [(Int32.ofNat (48 + n_ / 1000 % 10))]) ++ [(Int32.ofNat (48 + n_ / 100 % 10))]) ++ [(Int32.ofNat (48 + n_ / 10 % 10))]) ++ [(Int32.ofNat (48 + n_ / 1 % 10))]).length)), .val (.int (Int32.ofNat 9))] 439 at_436 rfl rfl incL rfl ?_
        refine Go.mono (k' := 28) (n' := 216) (nl rfl) (nl rfl) ?_
        exact J439 _ ([44, 32, 108, 105, 110, 101, 32] ++ dgL 9 n_) _ _ _ (Or.inr ⟨_, rfl, rfl⟩) (by simp [dgL, Nat.div_div_eq_div_mul]) (Or.inr ⟨q, 9, n_, hla, hn, hs, rfl⟩) E3018 A3018 S3018
      · refine Go.iload 249 at_247 rfl rfl ?_
        refine Go.bipush (9) 251 at_249 rfl rfl ?_
        refine Go.if_icmple 268 254 at_251 (by decide) rfl rfl (fun q3019 => absurd (by decide) q3019) (fun q3019 => ?_)
        refine Go.aload 256 at_254 rfl rfl rfl ?_
        refine Go.iload 258 at_256 rfl rfl ?_
        refine Go.iload_n 259 at_258 rfl rfl ?_
        refine Go.bipush (9) 261 at_259 rfl rfl ?_
        refine Go.invokestatic (rest := [.int (Int32.ofNat ((((((((mkV ((XT.ushr fa (24 : Int32)) &&& (3 : Int32)) (fa &&& (255 : Int32)) ((XT.ushr fa (8 : Int32)) &&& (255 : Int32)) ((XT.ushr fa (16 : Int32)) &&& (255 : Int32))) ++ [(44 : Int32)]) ++ [(32 : Int32)]) ++ [(108 : Int32)]) ++ [(105 : Int32)]) ++ [(110 : Int32)]) ++ [(101 : Int32)]) ++ [(32 : Int32)]).length), .ref e_]) 2 [.int la, .int (9 : Int32)] 264 at_261 rfl (W.1 54 rfl) (W.1 55 rfl) (W.1 2 rfl) (W.1 56 rfl) (by decide) (cDig W (t_ := 1000000000) hla hn (by decide) rfl (by decide)) (by decide +kernel : parseMethodDescriptor "(II)C" = some ⟨[.int, .int], (some .char)⟩) rfl rfl rfl (nl rfl) (nl rfl) (nl rfl) (nl rfl) (nl rfl) (fun v3080 vm3080 h3080 ⟨rv, Ed3069⟩ c3080 => ?_)
        subst rv
        have f3081 := A56.ext Ed3069
        have f3082 := CHr.safe (CHr.trans c57 c3080) A56.lt S56
        have L3082 := Nat.lt_of_lt_of_le A56.lt (CHr.trans c57 c3080).2.1
        refine Go.pushC ((((((((mkV ((XT.ushr fa (24 : Int32)) &&& (3 : Int32)) (fa &&& (255 : Int32)) ((XT.ushr fa (8 : Int32)) &&& (255 : Int32)) ((XT.ushr fa (16 : Int32)) &&& (255 : Int32))) ++ [(44 : Int32)]) ++ [(32 : Int32)]) ++ [(108 : Int32)]) ++ [(105 : Int32)]) ++ [(110 : Int32)]) ++ [(101 : Int32)]) ++ [(32 : Int32)]) 25 265 at_264 rfl f3081 rfl rfl (by first | omega | (simp only [List.length_append, List.length_cons, List.length_nil]; omega)) (narC (dg48 _)) f3082 z10 (fun h3083 K3083 A3083 S3083 c3083 => ?_)
        have E3083 := Ext.kp1 (Ext.tr E56 Ed3069) K3083 e10
        refine Go.iinc (Int32.ofNat (((((((((mkV ((XT.ushr fa (24 : Int32)) &&& (3 : Int32)) (fa &&& (255 : Int32)) ((XT.ushr fa (8 : Int32)) &&& (255 : Int32)) ((XT.ushr fa (16 : Int32)) &&& (255 : Int32))) ++ [(44 : Int32)]) ++ [(32 : Int32)]) ++ [(108 : Int32)]) ++ [(105 : Int32)]) ++ [(110 : Int32)]) ++ [(101 : Int32)]) ++ [(32 : Int32)]) ++ [(Int32.ofNat (48 + n_ / 1000000000 % 10))]).length) #[.val (.int fa), .val (.int la), .val (.int ra), .val (.int ((XT.ushr fa (24 : Int32)) &&& (3 : Int32))), .val (.int ((XT.ushr ra (24 : Int32)) &&& (3 : Int32))), .val (.int (fa &&& (255 : Int32))), .val (.int ((XT.ushr fa (8 : Int32)) &&& (255 : Int32))), .val (.int ((XT.ushr fa (16 : Int32)) &&& (255 : Int32))), .val (.int (ra &&& (255 : Int32))), .val (.int ((XT.ushr ra (8 : Int32)) &&& (255 : Int32))), .val (.int ((XT.ushr ra (16 : Int32)) &&& (255 : Int32))), .val (.ref u1), .val (.ref u2), .val (.ref pp), .val (.ref e_), .val (.int (Int32.ofNat (((((((((mkV ((XT.ushr fa (24 : Int32)) &&& (3 : Int32)) (fa &&& (255 : Int32)) ((XT.ushr fa (8 : Int32)) &&& (255 : Int32)) ((XT.ushr fa (16 : Int32)) &&& (255 : Int32))) ++ [(44 : Int32)]) ++ [(32 : Int32)]) ++ [(108 : Int32)]) ++ [(105 : Int32)]) ++ [(110 : Int32)]) ++ [(101 : Int32)]) ++ [(32 : Int32)]) ++ [(Int32.ofNat (48 + n_ / 1000000000 % 10))]).length)), .val (.int (Int32.ofNat 10))] 268 at_265 rfl rfl incL rfl ?_
        refine Go.iload 270 at_268 rfl rfl ?_
        refine Go.bipush (8) 272 at_270 rfl rfl ?_
        refine Go.if_icmple 289 275 at_272 (by decide) rfl rfl (fun q3084 => absurd (by decide) q3084) (fun q3084 => ?_)
        refine Go.aload 277 at_275 rfl rfl rfl ?_
        refine Go.iload 279 at_277 rfl rfl ?_
        refine Go.iload_n 280 at_279 rfl rfl ?_
        refine Go.bipush (8) 282 at_280 rfl rfl ?_
        refine Go.invokestatic (rest := [.int (Int32.ofNat (((((((((mkV ((XT.ushr fa (24 : Int32)) &&& (3 : Int32)) (fa &&& (255 : Int32)) ((XT.ushr fa (8 : Int32)) &&& (255 : Int32)) ((XT.ushr fa (16 : Int32)) &&& (255 : Int32))) ++ [(44 : Int32)]) ++ [(32 : Int32)]) ++ [(108 : Int32)]) ++ [(105 : Int32)]) ++ [(110 : Int32)]) ++ [(101 : Int32)]) ++ [(32 : Int32)]) ++ [(Int32.ofNat (48 + n_ / 1000000000 % 10))]).length), .ref e_]) 2 [.int la, .int (8 : Int32)] 285 at_282 rfl (W.1 54 rfl) (W.1 55 rfl) (W.1 2 rfl) (W.1 56 rfl) (by decide) (cDig W (t_ := 100000000) hla hn (by decide) rfl (by decide)) (by decide +kernel : parseMethodDescriptor "(II)C" = some ⟨[.int, .int], (some .char)⟩) rfl rfl rfl (nl rfl) (nl rfl) (nl rfl) (nl rfl) (nl rfl) (fun v3145 vm3145 h3145 ⟨rv, Ed3134⟩ c3145 => ?_)
        subst rv
        have f3146 := A3083.ext Ed3134
        have f3147 := CHr.safe c3145 A3083.lt S3083
        have L3147 := Nat.lt_of_lt_of_le A3083.lt c3145.2.1
        refine Go.pushC (((((((((mkV ((XT.ushr fa (24 : Int32)) &&& (3 : Int32)) (fa &&& (255 : Int32)) ((XT.ushr fa (8 : Int32)) &&& (255 : Int32)) ((XT.ushr fa (16 : Int32)) &&& (255 : Int32))) ++ [(44 : Int32)]) ++ [(32 : Int32)]) ++ [(108 : Int32)]) ++ [(105 : Int32)]) ++ [(110 : Int32)]) ++ [(101 : Int32)]) ++ [(32 : Int32)]) ++ [(Int32.ofNat (48 + n_ / 1000000000 % 10))]) 25 286 at_285 rfl f3146 rfl rfl (by first | omega | (simp only [List.length_append, List.length_cons, List.length_nil]; omega)) (narC (dg48 _)) f3147 z10 (fun h3148 K3148 A3148 S3148 c3148 => ?_)
        have E3148 := Ext.kp1 (Ext.tr E3083 Ed3134) K3148 e10
        refine Go.iinc (Int32.ofNat ((((((((((mkV ((XT.ushr fa (24 : Int32)) &&& (3 : Int32)) (fa &&& (255 : Int32)) ((XT.ushr fa (8 : Int32)) &&& (255 : Int32)) ((XT.ushr fa (16 : Int32)) &&& (255 : Int32))) ++ [(44 : Int32)]) ++ [(32 : Int32)]) ++ [(108 : Int32)]) ++ [(105 : Int32)]) ++ [(110 : Int32)]) ++ [(101 : Int32)]) ++ [(32 : Int32)]) ++ [(Int32.ofNat (48 + n_ / 1000000000 % 10))]) ++ [(Int32.ofNat (48 + n_ / 100000000 % 10))]).length) #[.val (.int fa), .val (.int la), .val (.int ra), .val (.int ((XT.ushr fa (24 : Int32)) &&& (3 : Int32))), .val (.int ((XT.ushr ra (24 : Int32)) &&& (3 : Int32))), .val (.int (fa &&& (255 : Int32))), .val (.int ((XT.ushr fa (8 : Int32)) &&& (255 : Int32))), .val (.int ((XT.ushr fa (16 : Int32)) &&& (255 : Int32))), .val (.int (ra &&& (255 : Int32))), .val (.int ((XT.ushr ra (8 : Int32)) &&& (255 : Int32))), .val (.int ((XT.ushr ra (16 : Int32)) &&& (255 : Int32))), .val (.ref u1), .val (.ref u2), .val (.ref pp), .val (.ref e_), .val (.int (Int32.ofNat ((((((((((mkV ((XT.ushr fa (24 : Int32)) &&& (3 : Int32)) (fa &&& (255 : Int32)) ((XT.ushr fa (8 : Int32)) &&& (255 : Int32)) ((XT.ushr fa (16 : Int32)) &&& (255 : Int32))) ++ [(44 : Int32)]) ++ [(32 : Int32)]) ++ [(108 : Int32)]) ++ [(105 : Int32)]) ++ [(110 : Int32)]) ++ [(101 : Int32)]) ++ [(32 : Int32)]) ++ [(Int32.ofNat (48 + n_ / 1000000000 % 10))]) ++ [(Int32.ofNat (48 + n_ / 100000000 % 10))]).length)), .val (.int (Int32.ofNat 10))] 289 at_286 rfl rfl incL rfl ?_
        refine Go.iload 291 at_289 rfl rfl ?_
        refine Go.bipush (7) 293 at_291 rfl rfl ?_
        refine Go.if_icmple 310 296 at_293 (by decide) rfl rfl (fun q3149 => absurd (by decide) q3149) (fun q3149 => ?_)
        refine Go.aload 298 at_296 rfl rfl rfl ?_
        refine Go.iload 300 at_298 rfl rfl ?_
        refine Go.iload_n 301 at_300 rfl rfl ?_
        refine Go.bipush (7) 303 at_301 rfl rfl ?_
        refine Go.invokestatic (rest := [.int (Int32.ofNat ((((((((((mkV ((XT.ushr fa (24 : Int32)) &&& (3 : Int32)) (fa &&& (255 : Int32)) ((XT.ushr fa (8 : Int32)) &&& (255 : Int32)) ((XT.ushr fa (16 : Int32)) &&& (255 : Int32))) ++ [(44 : Int32)]) ++ [(32 : Int32)]) ++ [(108 : Int32)]) ++ [(105 : Int32)]) ++ [(110 : Int32)]) ++ [(101 : Int32)]) ++ [(32 : Int32)]) ++ [(Int32.ofNat (48 + n_ / 1000000000 % 10))]) ++ [(Int32.ofNat (48 + n_ / 100000000 % 10))]).length), .ref e_]) 2 [.int la, .int (7 : Int32)] 306 at_303 rfl (W.1 54 rfl) (W.1 55 rfl) (W.1 2 rfl) (W.1 56 rfl) (by decide) (cDig W (t_ := 10000000) hla hn (by decide) rfl (by decide)) (by decide +kernel : parseMethodDescriptor "(II)C" = some ⟨[.int, .int], (some .char)⟩) rfl rfl rfl (nl rfl) (nl rfl) (nl rfl) (nl rfl) (nl rfl) (fun v3210 vm3210 h3210 ⟨rv, Ed3199⟩ c3210 => ?_)
        subst rv
        have f3211 := A3148.ext Ed3199
        have f3212 := CHr.safe c3210 A3148.lt S3148
        have L3212 := Nat.lt_of_lt_of_le A3148.lt c3210.2.1
        refine Go.pushC ((((((((((mkV ((XT.ushr fa (24 : Int32)) &&& (3 : Int32)) (fa &&& (255 : Int32)) ((XT.ushr fa (8 : Int32)) &&& (255 : Int32)) ((XT.ushr fa (16 : Int32)) &&& (255 : Int32))) ++ [(44 : Int32)]) ++ [(32 : Int32)]) ++ [(108 : Int32)]) ++ [(105 : Int32)]) ++ [(110 : Int32)]) ++ [(101 : Int32)]) ++ [(32 : Int32)]) ++ [(Int32.ofNat (48 + n_ / 1000000000 % 10))]) ++ [(Int32.ofNat (48 + n_ / 100000000 % 10))]) 25 307 at_306 rfl f3211 rfl rfl (by first | omega | (simp only [List.length_append, List.length_cons, List.length_nil]; omega)) (narC (dg48 _)) f3212 z10 (fun h3213 K3213 A3213 S3213 c3213 => ?_)
        have E3213 := Ext.kp1 (Ext.tr E3148 Ed3199) K3213 e10
        refine Go.iinc (Int32.ofNat (((((((((((mkV ((XT.ushr fa (24 : Int32)) &&& (3 : Int32)) (fa &&& (255 : Int32)) ((XT.ushr fa (8 : Int32)) &&& (255 : Int32)) ((XT.ushr fa (16 : Int32)) &&& (255 : Int32))) ++ [(44 : Int32)]) ++ [(32 : Int32)]) ++ [(108 : Int32)]) ++ [(105 : Int32)]) ++ [(110 : Int32)]) ++ [(101 : Int32)]) ++ [(32 : Int32)]) ++ [(Int32.ofNat (48 + n_ / 1000000000 % 10))]) ++ [(Int32.ofNat (48 + n_ / 100000000 % 10))]) ++ [(Int32.ofNat (48 + n_ / 10000000 % 10))]).length) #[.val (.int fa), .val (.int la), .val (.int ra), .val (.int ((XT.ushr fa (24 : Int32)) &&& (3 : Int32))), .val (.int ((XT.ushr ra (24 : Int32)) &&& (3 : Int32))), .val (.int (fa &&& (255 : Int32))), .val (.int ((XT.ushr fa (8 : Int32)) &&& (255 : Int32))), .val (.int ((XT.ushr fa (16 : Int32)) &&& (255 : Int32))), .val (.int (ra &&& (255 : Int32))), .val (.int ((XT.ushr ra (8 : Int32)) &&& (255 : Int32))), .val (.int ((XT.ushr ra (16 : Int32)) &&& (255 : Int32))), .val (.ref u1), .val (.ref u2), .val (.ref pp), .val (.ref e_), .val (.int (Int32.ofNat (((((((((((mkV ((XT.ushr fa (24 : Int32)) &&& (3 : Int32)) (fa &&& (255 : Int32)) ((XT.ushr fa (8 : Int32)) &&& (255 : Int32)) ((XT.ushr fa (16 : Int32)) &&& (255 : Int32))) ++ [(44 : Int32)]) ++ [(32 : Int32)]) ++ [(108 : Int32)]) ++ [(105 : Int32)]) ++ [(110 : Int32)]) ++ [(101 : Int32)]) ++ [(32 : Int32)]) ++ [(Int32.ofNat (48 + n_ / 1000000000 % 10))]) ++ [(Int32.ofNat (48 + n_ / 100000000 % 10))]) ++ [(Int32.ofNat (48 + n_ / 10000000 % 10))]).length)), .val (.int (Int32.ofNat 10))] 310 at_307 rfl rfl incL rfl ?_
        refine Go.iload 312 at_310 rfl rfl ?_
        refine Go.bipush (6) 314 at_312 rfl rfl ?_
        refine Go.if_icmple 331 317 at_314 (by decide) rfl rfl (fun q3214 => absurd (by decide) q3214) (fun q3214 => ?_)
        refine Go.aload 319 at_317 rfl rfl rfl ?_
        refine Go.iload 321 at_319 rfl rfl ?_
        refine Go.iload_n 322 at_321 rfl rfl ?_
        refine Go.bipush (6) 324 at_322 rfl rfl ?_
        refine Go.invokestatic (rest := [.int (Int32.ofNat (((((((((((mkV ((XT.ushr fa (24 : Int32)) &&& (3 : Int32)) (fa &&& (255 : Int32)) ((XT.ushr fa (8 : Int32)) &&& (255 : Int32)) ((XT.ushr fa (16 : Int32)) &&& (255 : Int32))) ++ [(44 : Int32)]) ++ [(32 : Int32)]) ++ [(108 : Int32)]) ++ [(105 : Int32)]) ++ [(110 : Int32)]) ++ [(101 : Int32)]) ++ [(32 : Int32)]) ++ [(Int32.ofNat (48 + n_ / 1000000000 % 10))]) ++ [(Int32.ofNat (48 + n_ / 100000000 % 10))]) ++ [(Int32.ofNat (48 + n_ / 10000000 % 10))]).length), .ref e_]) 2 [.int la, .int (6 : Int32)] 327 at_324 rfl (W.1 54 rfl) (W.1 55 rfl) (W.1 2 rfl) (W.1 56 rfl) (by decide) (cDig W (t_ := 1000000) hla hn (by decide) rfl (by decide)) (by decide +kernel : parseMethodDescriptor "(II)C" = some ⟨[.int, .int], (some .char)⟩) rfl rfl rfl (nl rfl) (nl rfl) (nl rfl) (nl rfl) (nl rfl) (fun v3275 vm3275 h3275 ⟨rv, Ed3264⟩ c3275 => ?_)
        subst rv
        have f3276 := A3213.ext Ed3264
        have f3277 := CHr.safe c3275 A3213.lt S3213
        have L3277 := Nat.lt_of_lt_of_le A3213.lt c3275.2.1
        refine Go.pushC (((((((((((mkV ((XT.ushr fa (24 : Int32)) &&& (3 : Int32)) (fa &&& (255 : Int32)) ((XT.ushr fa (8 : Int32)) &&& (255 : Int32)) ((XT.ushr fa (16 : Int32)) &&& (255 : Int32))) ++ [(44 : Int32)]) ++ [(32 : Int32)]) ++ [(108 : Int32)]) ++ [(105 : Int32)]) ++ [(110 : Int32)]) ++ [(101 : Int32)]) ++ [(32 : Int32)]) ++ [(Int32.ofNat (48 + n_ / 1000000000 % 10))]) ++ [(Int32.ofNat (48 + n_ / 100000000 % 10))]) ++ [(Int32.ofNat (48 + n_ / 10000000 % 10))]) 25 328 at_327 rfl f3276 rfl rfl (by first | omega | (simp only [List.length_append, List.length_cons, List.length_nil]; omega)) (narC (dg48 _)) f3277 z10 (fun h3278 K3278 A3278 S3278 c3278 => ?_)
        have E3278 := Ext.kp1 (Ext.tr E3213 Ed3264) K3278 e10
        refine Go.iinc (Int32.ofNat ((((((((((((mkV ((XT.ushr fa (24 : Int32)) &&& (3 : Int32)) (fa &&& (255 : Int32)) ((XT.ushr fa (8 : Int32)) &&& (255 : Int32)) ((XT.ushr fa (16 : Int32)) &&& (255 : Int32))) ++ [(44 : Int32)]) ++ [(32 : Int32)]) ++ [(108 : Int32)]) ++ [(105 : Int32)]) ++ [(110 : Int32)]) ++ [(101 : Int32)]) ++ [(32 : Int32)]) ++ [(Int32.ofNat (48 + n_ / 1000000000 % 10))]) ++ [(Int32.ofNat (48 + n_ / 100000000 % 10))]) ++ [(Int32.ofNat (48 + n_ / 10000000 % 10))]) ++ [(Int32.ofNat (48 + n_ / 1000000 % 10))]).length) #[.val (.int fa), .val (.int la), .val (.int ra), .val (.int ((XT.ushr fa (24 : Int32)) &&& (3 : Int32))), .val (.int ((XT.ushr ra (24 : Int32)) &&& (3 : Int32))), .val (.int (fa &&& (255 : Int32))), .val (.int ((XT.ushr fa (8 : Int32)) &&& (255 : Int32))), .val (.int ((XT.ushr fa (16 : Int32)) &&& (255 : Int32))), .val (.int (ra &&& (255 : Int32))), .val (.int ((XT.ushr ra (8 : Int32)) &&& (255 : Int32))), .val (.int ((XT.ushr ra (16 : Int32)) &&& (255 : Int32))), .val (.ref u1), .val (.ref u2), .val (.ref pp), .val (.ref e_), .val (.int (Int32.ofNat ((((((((((((mkV ((XT.ushr fa (24 : Int32)) &&& (3 : Int32)) (fa &&& (255 : Int32)) ((XT.ushr fa (8 : Int32)) &&& (255 : Int32)) ((XT.ushr fa (16 : Int32)) &&& (255 : Int32))) ++ [(44 : Int32)]) ++ [(32 : Int32)]) ++ [(108 : Int32)]) ++ [(105 : Int32)]) ++ [(110 : Int32)]) ++ [(101 : Int32)]) ++ [(32 : Int32)]) ++ [(Int32.ofNat (48 + n_ / 1000000000 % 10))]) ++ [(Int32.ofNat (48 + n_ / 100000000 % 10))]) ++ [(Int32.ofNat (48 + n_ / 10000000 % 10))]) ++ [(Int32.ofNat (48 + n_ / 1000000 % 10))]).length)), .val (.int (Int32.ofNat 10))] 331 at_328 rfl rfl incL rfl ?_
        refine Go.iload 333 at_331 rfl rfl ?_
        refine Go.iconst (5) 334 at_333 rfl rfl ?_
        refine Go.if_icmple 350 337 at_334 (by decide) rfl rfl (fun q3279 => absurd (by decide) q3279) (fun q3279 => ?_)
        refine Go.aload 339 at_337 rfl rfl rfl ?_
        refine Go.iload 341 at_339 rfl rfl ?_
        refine Go.iload_n 342 at_341 rfl rfl ?_
        refine Go.iconst (5) 343 at_342 rfl rfl ?_
        refine Go.invokestatic (rest := [.int (Int32.ofNat ((((((((((((mkV ((XT.ushr fa (24 : Int32)) &&& (3 : Int32)) (fa &&& (255 : Int32)) ((XT.ushr fa (8 : Int32)) &&& (255 : Int32)) ((XT.ushr fa (16 : Int32)) &&& (255 : Int32))) ++ [(44 : Int32)]) ++ [(32 : Int32)]) ++ [(108 : Int32)]) ++ [(105 : Int32)]) ++ [(110 : Int32)]) ++ [(101 : Int32)]) ++ [(32 : Int32)]) ++ [(Int32.ofNat (48 + n_ / 1000000000 % 10))]) ++ [(Int32.ofNat (48 + n_ / 100000000 % 10))]) ++ [(Int32.ofNat (48 + n_ / 10000000 % 10))]) ++ [(Int32.ofNat (48 + n_ / 1000000 % 10))]).length), .ref e_]) 2 [.int la, .int (5 : Int32)] 346 at_343 rfl (W.1 54 rfl) (W.1 55 rfl) (W.1 2 rfl) (W.1 56 rfl) (by decide) (cDig W (t_ := 100000) hla hn (by decide) rfl (by decide)) (by decide +kernel : parseMethodDescriptor "(II)C" = some ⟨[.int, .int], (some .char)⟩) rfl rfl rfl (nl rfl) (nl rfl) (nl rfl) (nl rfl) (nl rfl) (fun v3340 vm3340 h3340 ⟨rv, Ed3329⟩ c3340 => ?_)
        subst rv
        have f3341 := A3278.ext Ed3329
        have f3342 := CHr.safe c3340 A3278.lt S3278
        have L3342 := Nat.lt_of_lt_of_le A3278.lt c3340.2.1
        refine Go.pushC ((((((((((((mkV ((XT.ushr fa (24 : Int32)) &&& (3 : Int32)) (fa &&& (255 : Int32)) ((XT.ushr fa (8 : Int32)) &&& (255 : Int32)) ((XT.ushr fa (16 : Int32)) &&& (255 : Int32))) ++ [(44 : Int32)]) ++ [(32 : Int32)]) ++ [(108 : Int32)]) ++ [(105 : Int32)]) ++ [(110 : Int32)]) ++ [(101 : Int32)]) ++ [(32 : Int32)]) ++ [(Int32.ofNat (48 + n_ / 1000000000 % 10))]) ++ [(Int32.ofNat (48 + n_ / 100000000 % 10))]) ++ [(Int32.ofNat (48 + n_ / 10000000 % 10))]) ++ [(Int32.ofNat (48 + n_ / 1000000 % 10))]) 25 347 at_346 rfl f3341 rfl rfl (by first | omega | (simp only [List.length_append, List.length_cons, List.length_nil]; omega)) (narC (dg48 _)) f3342 z10 (fun h3343 K3343 A3343 S3343 c3343 => ?_)
        have E3343 := Ext.kp1 (Ext.tr E3278 Ed3329) K3343 e10
        refine Go.iinc (Int32.ofNat (((((((((((((mkV ((XT.ushr fa (24 : Int32)) &&& (3 : Int32)) (fa &&& (255 : Int32)) ((XT.ushr fa (8 : Int32)) &&& (255 : Int32)) ((XT.ushr fa (16 : Int32)) &&& (255 : Int32))) ++ [(44 : Int32)]) ++ [(32 : Int32)]) ++ [(108 : Int32)]) ++ [(105 : Int32)]) ++ [(110 : Int32)]) ++ [(101 : Int32)]) ++ [(32 : Int32)]) ++ [(Int32.ofNat (48 + n_ / 1000000000 % 10))]) ++ [(Int32.ofNat (48 + n_ / 100000000 % 10))]) ++ [(Int32.ofNat (48 + n_ / 10000000 % 10))]) ++ [(Int32.ofNat (48 + n_ / 1000000 % 10))]) ++ [(Int32.ofNat (48 + n_ / 100000 % 10))]).length) #[.val (.int fa), .val (.int la), .val (.int ra), .val (.int ((XT.ushr fa (24 : Int32)) &&& (3 : Int32))), .val (.int ((XT.ushr ra (24 : Int32)) &&& (3 : Int32))), .val (.int (fa &&& (255 : Int32))), .val (.int ((XT.ushr fa (8 : Int32)) &&& (255 : Int32))), .val (.int ((XT.ushr fa (16 : Int32)) &&& (255 : Int32))), .val (.int (ra &&& (255 : Int32))), .val (.int ((XT.ushr ra (8 : Int32)) &&& (255 : Int32))), .val (.int ((XT.ushr ra (16 : Int32)) &&& (255 : Int32))), .val (.ref u1), .val (.ref u2), .val (.ref pp), .val (.ref e_), .val (.int (Int32.ofNat (((((((((((((mkV ((XT.ushr fa (24 : Int32)) &&& (3 : Int32)) (fa &&& (255 : Int32)) ((XT.ushr fa (8 : Int32)) &&& (255 : Int32)) ((XT.ushr fa (16 : Int32)) &&& (255 : Int32))) ++ [(44 : Int32)]) ++ [(32 : Int32)]) ++ [(108 : Int32)]) ++ [(105 : Int32)]) ++ [(110 : Int32)]) ++ [(101 : Int32)]) ++ [(32 : Int32)]) ++ [(Int32.ofNat (48 + n_ / 1000000000 % 10))]) ++ [(Int32.ofNat (48 + n_ / 100000000 % 10))]) ++ [(Int32.ofNat (48 + n_ / 10000000 % 10))]) ++ [(Int32.ofNat (48 + n_ / 1000000 % 10))]) ++ [(Int32.ofNat (48 + n_ / 100000 % 10))]).length)), .val (.int (Int32.ofNat 10))] 350 at_347 rfl rfl incL rfl ?_
        refine Go.iload 352 at_350 rfl rfl ?_
        refine Go.iconst (4) 353 at_352 rfl rfl ?_
        refine Go.if_icmple 369 356 at_353 (by decide) rfl rfl (fun q3344 => absurd (by decide) q3344) (fun q3344 => ?_)
        refine Go.aload 358 at_356 rfl rfl rfl ?_
        refine Go.iload 360 at_358 rfl rfl ?_
        refine Go.iload_n 361 at_360 rfl rfl ?_
        refine Go.iconst (4) 362 at_361 rfl rfl ?_
        refine Go.invokestatic (rest := [.int (Int32.ofNat (((((((((((((mkV ((XT.ushr fa (24 : Int32)) &&& (3 : Int32)) (fa &&& (255 : Int32)) ((XT.ushr fa (8 : Int32)) &&& (255 : Int32)) ((XT.ushr fa (16 : Int32)) &&& (255 : Int32))) ++ [(44 : Int32)]) ++ [(32 : Int32)]) ++ [(108 : Int32)]) ++ [(105 : Int32)]) ++ [(110 : Int32)]) ++ [(101 : Int32)]) ++ [(32 : Int32)]) ++ [(Int32.ofNat (48 + n_ / 1000000000 % 10))]) ++ [(Int32.ofNat (48 + n_ / 100000000 % 10))]) ++ [(Int32.ofNat (48 + n_ / 10000000 % 10))]) ++ [(Int32.ofNat (48 + n_ / 1000000 % 10))]) ++ [(Int32.ofNat (48 + n_ / 100000 % 10))]).length), .ref e_]) 2 [.int la, .int (4 : Int32)] 365 at_362 rfl (W.1 54 rfl) (W.1 55 rfl) (W.1 2 rfl) (W.1 56 rfl) (by decide) (cDig W (t_ := 10000) hla hn (by decide) rfl (by decide)) (by decide +kernel : parseMethodDescriptor "(II)C" = some ⟨[.int, .int], (some .char)⟩) rfl rfl rfl (nl rfl) (nl rfl) (nl rfl) (nl rfl) (nl rfl) (fun v3405 vm3405 h3405 ⟨rv, Ed3394⟩ c3405 => ?_)
        subst rv
        have f3406 := A3343.ext Ed3394
        have f3407 := CHr.safe c3405 A3343.lt S3343
        have L3407 := Nat.lt_of_lt_of_le A3343.lt c3405.2.1
        refine Go.pushC (((((((((((((mkV ((XT.ushr fa (24 : Int32)) &&& (3 : Int32)) (fa &&& (255 : Int32)) ((XT.ushr fa (8 : Int32)) &&& (255 : Int32)) ((XT.ushr fa (16 : Int32)) &&& (255 : Int32))) ++ [(44 : Int32)]) ++ [(32 : Int32)]) ++ [(108 : Int32)]) ++ [(105 : Int32)]) ++ [(110 : Int32)]) ++ [(101 : Int32)]) ++ [(32 : Int32)]) ++ [(Int32.ofNat (48 + n_ / 1000000000 % 10))]) ++ [(Int32.ofNat (48 + n_ / 100000000 % 10))]) ++ [(Int32.ofNat (48 + n_ / 10000000 % 10))]) ++ [(Int32.ofNat (48 + n_ / 1000000 % 10))]) ++ [(Int32.ofNat (48 + n_ / 100000 % 10))]) 25 366 at_365 rfl f3406 rfl rfl (by first | omega | (simp only [List.length_append, List.length_cons, List.length_nil]; omega)) (narC (dg48 _)) f3407 z10 (fun h3408 K3408 A3408 S3408 c3408 => ?_)
        have E3408 := Ext.kp1 (Ext.tr E3343 Ed3394) K3408 e10
        refine Go.iinc (Int32.ofNat ((((((((((((((mkV ((XT.ushr fa (24 : Int32)) &&& (3 : Int32)) (fa &&& (255 : Int32)) ((XT.ushr fa (8 : Int32)) &&& (255 : Int32)) ((XT.ushr fa (16 : Int32)) &&& (255 : Int32))) ++ [(44 : Int32)]) ++ [(32 : Int32)]) ++ [(108 : Int32)]) ++ [(105 : Int32)]) ++ [(110 : Int32)]) ++ [(101 : Int32)]) ++ [(32 : Int32)]) ++ [(Int32.ofNat (48 + n_ / 1000000000 % 10))]) ++ [(Int32.ofNat (48 + n_ / 100000000 % 10))]) ++ [(Int32.ofNat (48 + n_ / 10000000 % 10))]) ++ [(Int32.ofNat (48 + n_ / 1000000 % 10))]) ++ [(Int32.ofNat (48 + n_ / 100000 % 10))]) ++ [(Int32.ofNat (48 + n_ / 10000 % 10))]).length) #[.val (.int fa), .val (.int la), .val (.int ra), .val (.int ((XT.ushr fa (24 : Int32)) &&& (3 : Int32))), .val (.int ((XT.ushr ra (24 : Int32)) &&& (3 : Int32))), .val (.int (fa &&& (255 : Int32))), .val (.int ((XT.ushr fa (8 : Int32)) &&& (255 : Int32))), .val (.int ((XT.ushr fa (16 : Int32)) &&& (255 : Int32))), .val (.int (ra &&& (255 : Int32))), .val (.int ((XT.ushr ra (8 : Int32)) &&& (255 : Int32))), .val (.int ((XT.ushr ra (16 : Int32)) &&& (255 : Int32))), .val (.ref u1), .val (.ref u2), .val (.ref pp), .val (.ref e_), .val (.int (Int32.ofNat ((((((((((((((mkV ((XT.ushr fa (24 : Int32)) &&& (3 : Int32)) (fa &&& (255 : Int32)) ((XT.ushr fa (8 : Int32)) &&& (255 : Int32)) ((XT.ushr fa (16 : Int32)) &&& (255 : Int32))) ++ [(44 : Int32)]) ++ [(32 : Int32)]) ++ [(108 : Int32)]) ++ [(105 : Int32)]) ++ [(110 : Int32)]) ++ [(101 : Int32)]) ++ [(32 : Int32)]) ++ [(Int32.ofNat (48 + n_ / 1000000000 % 10))]) ++ [(Int32.ofNat (48 + n_ / 100000000 % 10))]) ++ [(Int32.ofNat (48 + n_ / 10000000 % 10))]) ++ [(Int32.ofNat (48 + n_ / 1000000 % 10))]) ++ [(Int32.ofNat (48 + n_ / 100000 % 10))]) ++ [(Int32.ofNat (48 + n_ / 10000 % 10))]).length)), .val (.int (Int32.ofNat 10))] 369 at_366 rfl rfl incL rfl ?_
        refine Go.iload 371 at_369 rfl rfl ?_
        refine Go.iconst (3) 372 at_371 rfl rfl ?_
        refine Go.if_icmple 388 375 at_372 (by decide) rfl rfl (fun q3409 => absurd (by decide) q3409) (fun q3409 => ?_)
        refine Go.aload 377 at_375 rfl rfl rfl ?_
        refine Go.iload 379 at_377 rfl rfl ?_
        refine Go.iload_n 380 at_379 rfl rfl ?_
        refine Go.iconst (3) 381 at_380 rfl rfl ?_
        refine Go.invokestatic (rest := [.int (Int32.ofNat ((((((((((((((mkV ((XT.ushr fa (24 : Int32)) &&& (3 : Int32)) (fa &&& (255 : Int32)) ((XT.ushr fa (8 : Int32)) &&& (255 : Int32)) ((XT.ushr fa (16 : Int32)) &&& (255 : Int32))) ++ [(44 : Int32)]) ++ [(32 : Int32)]) ++ [(108 : Int32)]) ++ [(105 : Int32)]) ++ [(110 : Int32)]) ++ [(101 : Int32)]) ++ [(32 : Int32)]) ++ [(Int32.ofNat (48 + n_ / 1000000000 % 10))]) ++ [(Int32.ofNat (48 + n_ / 100000000 % 10))]) ++ [(Int32.ofNat (48 + n_ / 10000000 % 10))]) ++ [(Int32.ofNat (48 + n_ / 1000000 % 10))]) ++ [(Int32.ofNat (48 + n_ / 100000 % 10))]) ++ [(Int32.ofNat (48 + n_ / 10000 % 10))]).length), .ref e_]) 2 [.int la, .int (3 : Int32)] 384 at_381 rfl (W.1 54 rfl) (W.1 55 rfl) (W.1 2 rfl) (W.1 56 rfl) (by decide) (cDig W (t_ := 1000) hla hn (by decide) rfl (by decide)) (by decide +kernel : parseMethodDescriptor "(II)C" = some ⟨[.int, .int], (some .char)⟩) rfl rfl rfl (nl rfl) (nl rfl) (nl rfl) (nl rfl) (nl rfl) (fun v3470 vm3470 h3470 ⟨rv, Ed3459⟩ c3470 => ?_)
        subst rv
        have f3471 := A3408.ext Ed3459
        have f3472 := CHr.safe c3470 A3408.lt S3408
        have L3472 := Nat.lt_of_lt_of_le A3408.lt c3470.2.1
        refine Go.pushC ((((((((((((((mkV ((XT.ushr fa (24 : Int32)) &&& (3 : Int32)) (fa &&& (255 : Int32)) ((XT.ushr fa (8 : Int32)) &&& (255 : Int32)) ((XT.ushr fa (16 : Int32)) &&& (255 : Int32))) ++ [(44 : Int32)]) ++ [(32 : Int32)]) ++ [(108 : Int32)]) ++ [(105 : Int32)]) ++ [(110 : Int32)]) ++ [(101 : Int32)]) ++ [(32 : Int32)]) ++ [(Int32.ofNat (48 + n_ / 1000000000 % 10))]) ++ [(Int32.ofNat (48 + n_ / 100000000 % 10))]) ++ [(Int32.ofNat (48 + n_ / 10000000 % 10))]) ++ [(Int32.ofNat (48 + n_ / 1000000 % 10))]) ++ [(Int32.ofNat (48 + n_ / 100000 % 10))]) ++ [(Int32.ofNat (48 + n_ / 10000 % 10))]) 25 385 at_384 rfl f3471 rfl rfl (by first | omega | (simp only [List.length_append, List.length_cons, List.length_nil]; omega)) (narC (dg48 _)) f3472 z10 (fun h3473 K3473 A3473 S3473 c3473 => ?_)
        have E3473 := Ext.kp1 (Ext.tr E3408 Ed3459) K3473 e10
        refine Go.iinc (Int32.ofNat (((((((((((((((mkV ((XT.ushr fa (24 : Int32)) &&& (3 : Int32)) (fa &&& (255 : Int32)) ((XT.ushr fa (8 : Int32)) &&& (255 : Int32)) ((XT.ushr fa (16 : Int32)) &&& (255 : Int32))) ++ [(44 : Int32)]) ++ [(32 : Int32)]) ++ [(108 : Int32)]) ++ [(105 : Int32)]) ++ [(110 : Int32)]) ++ [(101 : Int32)]) ++ [(32 : Int32)]) ++ [(Int32.ofNat (48 + n_ / 1000000000 % 10))]) ++ [(Int32.ofNat (48 + n_ / 100000000 % 10))]) ++ [(Int32.ofNat (48 + n_ / 10000000 % 10))]) ++ [(Int32.ofNat (48 + n_ / 1000000 % 10))]) ++ [(Int32.ofNat (48 + n_ / 100000 % 10))]) ++ [(Int32.ofNat (48 + n_ / 10000 % 10))]) ++ [(Int32.ofNat (48 + n_ / 1000 % 10))]).length) #[.val (.int fa), .val (.int la), .val (.int ra), .val (.int ((XT.ushr fa (24 : Int32)) &&& (3 : Int32))), .val (.int ((XT.ushr ra (24 : Int32)) &&& (3 : Int32))), .val (.int (fa &&& (255 : Int32))), .val (.int ((XT.ushr fa (8 : Int32)) &&& (255 : Int32))), .val (.int ((XT.ushr fa (16 : Int32)) &&& (255 : Int32))), .val (.int (ra &&& (255 : Int32))), .val (.int ((XT.ushr ra (8 : Int32)) &&& (255 : Int32))), .val (.int ((XT.ushr ra (16 : Int32)) &&& (255 : Int32))), .val (.ref u1), .val (.ref u2), .val (.ref pp), .val (.ref e_), .val (.int (Int32.ofNat (((((((((((((((mkV ((XT.ushr fa (24 : Int32)) &&& (3 : Int32)) (fa &&& (255 : Int32)) ((XT.ushr fa (8 : Int32)) &&& (255 : Int32)) ((XT.ushr fa (16 : Int32)) &&& (255 : Int32))) ++ [(44 : Int32)]) ++ [(32 : Int32)]) ++ [(108 : Int32)]) ++ [(105 : Int32)]) ++ [(110 : Int32)]) ++ [(101 : Int32)]) ++ [(32 : Int32)]) ++ [(Int32.ofNat (48 + n_ / 1000000000 % 10))]) ++ [(Int32.ofNat (48 + n_ / 100000000 % 10))]) ++ [(Int32.ofNat (48 + n_ / 10000000 % 10))]) ++ [(Int32.ofNat (48 + n_ / 1000000 % 10))]) ++ [(Int32.ofNat (48 + n_ / 100000 % 10))]) ++ [(Int32.ofNat (48 + n_ / 10000 % 10))]) ++ [(Int32.ofNat (48 + n_ / 1000 % 10))]).length)), .val (.int (Int32.ofNat 10))] 388 at_385 rfl rfl incL rfl ?_
        refine Go.iload 390 at_388 rfl rfl ?_
        refine Go.iconst (2) 391 at_390 rfl rfl ?_
        refine Go.if_icmple 407 394 at_391 (by decide) rfl rfl (fun q3474 => absurd (by decide) q3474) (fun q3474 => ?_)
        refine Go.aload 396 at_394 rfl rfl rfl ?_
        refine Go.iload 398 at_396 rfl rfl ?_
        refine Go.iload_n 399 at_398 rfl rfl ?_
        refine Go.iconst (2) 400 at_399 rfl rfl ?_
        refine Go.invokestatic (rest := [.int (Int32.ofNat (((((((((((((((mkV ((XT.ushr fa (24 : Int32)) &&& (3 : Int32)) (fa &&& (255 : Int32)) ((XT.ushr fa (8 : Int32)) &&& (255 : Int32)) ((XT.ushr fa (16 : Int32)) &&& (255 : Int32))) ++ [(44 : Int32)]) ++ [(32 : Int32)]) ++ [(108 : Int32)]) ++ [(105 : Int32)]) ++ [(110 : Int32)]) ++ [(101 : Int32)]) ++ [(32 : Int32)]) ++ [(Int32.ofNat (48 + n_ / 1000000000 % 10))]) ++ [(Int32.ofNat (48 + n_ / 100000000 % 10))]) ++ [(Int32.ofNat (48 + n_ / 10000000 % 10))]) ++ [(Int32.ofNat (48 + n_ / 1000000 % 10))]) ++ [(Int32.ofNat (48 + n_ / 100000 % 10))]) ++ [(Int32.ofNat (48 + n_ / 10000 % 10))]) ++ [(Int32.ofNat (48 + n_ / 1000 % 10))]).length), .ref e_]) 2 [.int la, .int (2 : Int32)] 403 at_400 rfl (W.1 54 rfl) (W.1 55 rfl) (W.1 2 rfl) (W.1 56 rfl) (by decide) (cDig W (t_ := 100) hla hn (by decide) rfl (by decide)) (by decide +kernel : parseMethodDescriptor "(II)C" = some ⟨[.int, .int], (some .char)⟩) rfl rfl rfl (nl rfl) (nl rfl) (nl rfl) (nl rfl) (nl rfl) (fun v3535 vm3535 h3535 ⟨rv, Ed3524⟩ c3535 => ?_)
        subst rv
        have f3536 := A3473.ext Ed3524
        have f3537 := CHr.safe c3535 A3473.lt S3473
        have L3537 := Nat.lt_of_lt_of_le A3473.lt c3535.2.1
        refine Go.pushC (((((((((((((((mkV ((XT.ushr fa (24 : Int32)) &&& (3 : Int32)) (fa &&& (255 : Int32)) ((XT.ushr fa (8 : Int32)) &&& (255 : Int32)) ((XT.ushr fa (16 : Int32)) &&& (255 : Int32))) ++ [(44 : Int32)]) ++ [(32 : Int32)]) ++ [(108 : Int32)]) ++ [(105 : Int32)]) ++ [(110 : Int32)]) ++ [(101 : Int32)]) ++ [(32 : Int32)]) ++ [(Int32.ofNat (48 + n_ / 1000000000 % 10))]) ++ [(Int32.ofNat (48 + n_ / 100000000 % 10))]) ++ [(Int32.ofNat (48 + n_ / 10000000 % 10))]) ++ [(Int32.ofNat (48 + n_ / 1000000 % 10))]) ++ [(Int32.ofNat (48 + n_ / 100000 % 10))]) ++ [(Int32.ofNat (48 + n_ / 10000 % 10))]) ++ [(Int32.ofNat (48 + n_ / 1000 % 10))]) 25 404 at_403 rfl f3536 rfl rfl (by first | omega | (simp only [List.length_append, List.length_cons, List.length_nil]; omega)) (narC (dg48 _)) f3537 z10 (fun h3538 K3538 A3538 S3538 c3538 => ?_)
        have E3538 := Ext.kp1 (Ext.tr E3473 Ed3524) K3538 e10
        refine Go.iinc (Int32.ofNat ((((((((((((((((mkV ((XT.ushr fa (24 : Int32)) &&& (3 : Int32)) (fa &&& (255 : Int32)) ((XT.ushr fa (8 : Int32)) &&& (255 : Int32)) ((XT.ushr fa (16 : Int32)) &&& (255 : Int32))) ++ [(44 : Int32)]) ++ [(32 : Int32)]) ++ [(108 : Int32)]) ++ [(105 : Int32)]) ++ [(110 : Int32)]) ++ [(101 : Int32)]) ++ [(32 : Int32)]) ++ [(Int32.ofNat (48 + n_ / 1000000000 % 10))]) ++ [(Int32.ofNat (48 + n_ / 100000000 % 10))]) ++ [(Int32.ofNat (48 + n_ / 10000000 % 10))]) ++ [(Int32.ofNat (48 + n_ / 1000000 % 10))]) ++ [(Int32.ofNat (48 + n_ / 100000 % 10))]) ++ [(Int32.ofNat (48 + n_ / 10000 % 10))]) ++ [(Int32.ofNat (48 + n_ / 1000 % 10))]) ++ [(Int32.ofNat (48 + n_ / 100 % 10))]).length) #[.val (.int fa), .val (.int la), .val (.int ra), .val (.int ((XT.ushr fa (24 : Int32)) &&& (3 : Int32))), .val (.int ((XT.ushr ra (24 : Int32)) &&& (3 : Int32))), .val (.int (fa &&& (255 : Int32))), .val (.int ((XT.ushr fa (8 : Int32)) &&& (255 : Int32))), .val (.int ((XT.ushr fa (16 : Int32)) &&& (255 : Int32))), .val (.int (ra &&& (255 : Int32))), .val (.int ((XT.ushr ra (8 : Int32)) &&& (255 : Int32))), .val (.int ((XT.ushr ra (16 : Int32)) &&& (255 : Int32))), .val (.ref u1), .val (.ref u2), .val (.ref pp), .val (.ref e_), .val (.int (Int32.ofNat ((((((((((((((((mkV ((XT.ushr fa (24 : Int32)) &&& (3 : Int32)) (fa &&& (255 : Int32)) ((XT.ushr fa (8 : Int32)) &&& (255 : Int32)) ((XT.ushr fa (16 : Int32)) &&& (255 : Int32))) ++ [(44 : Int32)]) ++ [(32 : Int32)]) ++ [(108 : Int32)]) ++ [(105 : Int32)]) ++ [(110 : Int32)]) ++ [(101 : Int32)]) ++ [(32 : Int32)]) ++ [(Int32.ofNat (48 + n_ / 1000000000 % 10))]) ++ [(Int32.ofNat (48 + n_ / 100000000 % 10))]) ++ [(Int32.ofNat (48 + n_ / 10000000 % 10))]) ++ [(Int32.ofNat (48 + n_ / 1000000 % 10))]) ++ [(Int32.ofNat (48 + n_ / 100000 % 10))]) ++ [(Int32.ofNat (48 + n_ / 10000 % 10))]) ++ [(Int32.ofNat (48 + n_ / 1000 % 10))]) ++ [(Int32.ofNat (48 + n_ / 100 % 10))]).length)), .val (.int (Int32.ofNat 10))] 407 at_404 rfl rfl incL rfl ?_
        refine Go.iload 409 at_407 rfl rfl ?_
        refine Go.iconst (1) 410 at_409 rfl rfl ?_
        refine Go.if_icmple 426 413 at_410 (by decide) rfl rfl (fun q3539 => absurd (by decide) q3539) (fun q3539 => ?_)
        refine Go.aload 415 at_413 rfl rfl rfl ?_
        refine Go.iload 417 at_415 rfl rfl ?_
        refine Go.iload_n 418 at_417 rfl rfl ?_
        refine Go.iconst (1) 419 at_418 rfl rfl ?_
        refine Go.invokestatic (rest := [.int (Int32.ofNat ((((((((((((((((mkV ((XT.ushr fa (24 : Int32)) &&& (3 : Int32)) (fa &&& (255 : Int32)) ((XT.ushr fa (8 : Int32)) &&& (255 : Int32)) ((XT.ushr fa (16 : Int32)) &&& (255 : Int32))) ++ [(44 : Int32)]) ++ [(32 : Int32)]) ++ [(108 : Int32)]) ++ [(105 : Int32)]) ++ [(110 : Int32)]) ++ [(101 : Int32)]) ++ [(32 : Int32)]) ++ [(Int32.ofNat (48 + n_ / 1000000000 % 10))]) ++ [(Int32.ofNat (48 + n_ / 100000000 % 10))]) ++ [(Int32.ofNat (48 + n_ / 10000000 % 10))]) ++ [(Int32.ofNat (48 + n_ / 1000000 % 10))]) ++ [(Int32.ofNat (48 + n_ / 100000 % 10))]) ++ [(Int32.ofNat (48 + n_ / 10000 % 10))]) ++ [(Int32.ofNat (48 + n_ / 1000 % 10))]) ++ [(Int32.ofNat (48 + n_ / 100 % 10))]).length), .ref e_]) 2 [.int la, .int (1 : Int32)] 422 at_419 rfl (W.1 54 rfl) (W.1 55 rfl) (W.1 2 rfl) (W.1 56 rfl) (by decide) (cDig W (t_ := 10) hla hn (by decide) rfl (by decide)) (by decide +kernel : parseMethodDescriptor "(II)C" = some ⟨[.int, .int], (some .char)⟩) rfl rfl rfl (nl rfl) (nl rfl) (nl rfl) (nl rfl) (nl rfl) (fun v3600 vm3600 h3600 ⟨rv, Ed3589⟩ c3600 => ?_)
        subst rv
        have f3601 := A3538.ext Ed3589
        have f3602 := CHr.safe c3600 A3538.lt S3538
        have L3602 := Nat.lt_of_lt_of_le A3538.lt c3600.2.1
        refine Go.pushC ((((((((((((((((mkV ((XT.ushr fa (24 : Int32)) &&& (3 : Int32)) (fa &&& (255 : Int32)) ((XT.ushr fa (8 : Int32)) &&& (255 : Int32)) ((XT.ushr fa (16 : Int32)) &&& (255 : Int32))) ++ [(44 : Int32)]) ++ [(32 : Int32)]) ++ [(108 : Int32)]) ++ [(105 : Int32)]) ++ [(110 : Int32)]) ++ [(101 : Int32)]) ++ [(32 : Int32)]) ++ [(Int32.ofNat (48 + n_ / 1000000000 % 10))]) ++ [(Int32.ofNat (48 + n_ / 100000000 % 10))]) ++ [(Int32.ofNat (48 + n_ / 10000000 % 10))]) ++ [(Int32.ofNat (48 + n_ / 1000000 % 10))]) ++ [(Int32.ofNat (48 + n_ / 100000 % 10))]) ++ [(Int32.ofNat (48 + n_ / 10000 % 10))]) ++ [(Int32.ofNat (48 + n_ / 1000 % 10))]) ++ [(Int32.ofNat (48 + n_ / 100 % 10))]) 25 423 at_422 rfl f3601 rfl rfl (by first | omega | (simp only [List.length_append, List.length_cons, List.length_nil]; omega)) (narC (dg48 _)) f3602 z10 (fun h3603 K3603 A3603 S3603 c3603 => ?_)
        have E3603 := Ext.kp1 (Ext.tr E3538 Ed3589) K3603 e10
        refine Go.iinc (Int32.ofNat (((((((((((((((((mkV ((XT.ushr fa (24 : Int32)) &&& (3 : Int32)) (fa &&& (255 : Int32)) ((XT.ushr fa (8 : Int32)) &&& (255 : Int32)) ((XT.ushr fa (16 : Int32)) &&& (255 : Int32))) ++ [(44 : Int32)]) ++ [(32 : Int32)]) ++ [(108 : Int32)]) ++ [(105 : Int32)]) ++ [(110 : Int32)]) ++ [(101 : Int32)]) ++ [(32 : Int32)]) ++ [(Int32.ofNat (48 + n_ / 1000000000 % 10))]) ++ [(Int32.ofNat (48 + n_ / 100000000 % 10))]) ++ [(Int32.ofNat (48 + n_ / 10000000 % 10))]) ++ [(Int32.ofNat (48 + n_ / 1000000 % 10))]) ++ [(Int32.ofNat (48 + n_ / 100000 % 10))]) ++ [(Int32.ofNat (48 + n_ / 10000 % 10))]) ++ [(Int32.ofNat (48 + n_ / 1000 % 10))]) ++ [(Int32.ofNat (48 + n_ / 100 % 10))]) ++ [(Int32.ofNat (48 + n_ / 10 % 10))]).length) #[.val (.int fa), .val (.int la), .val (.int ra), .val (.int ((XT.ushr fa (24 : Int32)) &&& (3 : Int32))), .val (.int ((XT.ushr ra (24 : Int32)) &&& (3 : Int32))), .val (.int (fa &&& (255 : Int32))), .val (.int ((XT.ushr fa (8 : Int32)) &&& (255 : Int32))), .val (.int ((XT.ushr fa (16 : Int32)) &&& (255 : Int32))), .val (.int (ra &&& (255 : Int32))), .val (.int ((XT.ushr ra (8 : Int32)) &&& (255 : Int32))), .val (.int ((XT.ushr ra (16 : Int32)) &&& (255 : Int32))), .val (.ref u1), .val (.ref u2), .val (.ref pp), .val (.ref e_), .val (.int (Int32.ofNat (((((((((((((((((mkV ((XT.ushr fa (24 : Int32)) &&& (3 : Int32)) (fa &&& (255 : Int32)) ((XT.ushr fa (8 : Int32)) &&& (255 : Int32)) ((XT.ushr fa (16 : Int32)) &&& (255 : Int32))) ++ [(44 : Int32)]) ++ [(32 : Int32)]) ++ [(108 : Int32)]) ++ [(105 : Int32)]) ++ [(110 : Int32)]) ++ [(101 : Int32)]) ++ [(32 : Int32)]) ++ [(Int32.ofNat (48 + n_ / 1000000000 % 10))]) ++ [(Int32.ofNat (48 + n_ / 100000000 % 10))]) ++ [(Int32.ofNat (48 + n_ / 10000000 % 10))]) ++ [(Int32.ofNat (48 + n_ / 1000000 % 10))]) ++ [(Int32.ofNat (48 + n_ / 100000 % 10))]) ++ [(Int32.ofNat (48 + n_ / 10000 % 10))]) ++ [(Int32.ofNat (48 + n_ / 1000 % 10))]) ++ [(Int32.ofNat (48 + n_ / 100 % 10))]) ++ [(Int32.ofNat (48 + n_ / 10 % 10))]).length)), .val (.int (Int32.ofNat 10))] 426 at_423 rfl rfl incL rfl ?_
        refine Go.aload 428 at_426 rfl rfl rfl ?_
        refine Go.iload 430 at_428 rfl rfl ?_
        refine Go.iload_n 431 at_430 rfl rfl ?_
        refine Go.iconst (0) 432 at_431 rfl rfl ?_
        refine Go.invokestatic (rest := [.int (Int32.ofNat (((((((((((((((((mkV ((XT.ushr fa (24 : Int32)) &&& (3 : Int32)) (fa &&& (255 : Int32)) ((XT.ushr fa (8 : Int32)) &&& (255 : Int32)) ((XT.ushr fa (16 : Int32)) &&& (255 : Int32))) ++ [(44 : Int32)]) ++ [(32 : Int32)]) ++ [(108 : Int32)]) ++ [(105 : Int32)]) ++ [(110 : Int32)]) ++ [(101 : Int32)]) ++ [(32 : Int32)]) ++ [(Int32.ofNat (48 + n_ / 1000000000 % 10))]) ++ [(Int32.ofNat (48 + n_ / 100000000 % 10))]) ++ [(Int32.ofNat (48 + n_ / 10000000 % 10))]) ++ [(Int32.ofNat (48 + n_ / 1000000 % 10))]) ++ [(Int32.ofNat (48 + n_ / 100000 % 10))]) ++ [(Int32.ofNat (48 + n_ / 10000 % 10))]) ++ [(Int32.ofNat (48 + n_ / 1000 % 10))]) ++ [(Int32.ofNat (48 + n_ / 100 % 10))]) ++ [(Int32.ofNat (48 + n_ / 10 % 10))]).length), .ref e_]) 2 [.int la, .int (0 : Int32)] 435 at_432 rfl (W.1 54 rfl) (W.1 55 rfl) (W.1 2 rfl) (W.1 56 rfl) (by decide) (cDig W (t_ := 1) hla hn (by decide) rfl (by decide)) (by decide +kernel : parseMethodDescriptor "(II)C" = some ⟨[.int, .int], (some .char)⟩) rfl rfl rfl (nl rfl) (nl rfl) (nl rfl) (nl rfl) (nl rfl) (fun v3664 vm3664 h3664 ⟨rv, Ed3653⟩ c3664 => ?_)
        subst rv
        have f3665 := A3603.ext Ed3653
        have f3666 := CHr.safe c3664 A3603.lt S3603
        have L3666 := Nat.lt_of_lt_of_le A3603.lt c3664.2.1
        refine Go.pushC (((((((((((((((((mkV ((XT.ushr fa (24 : Int32)) &&& (3 : Int32)) (fa &&& (255 : Int32)) ((XT.ushr fa (8 : Int32)) &&& (255 : Int32)) ((XT.ushr fa (16 : Int32)) &&& (255 : Int32))) ++ [(44 : Int32)]) ++ [(32 : Int32)]) ++ [(108 : Int32)]) ++ [(105 : Int32)]) ++ [(110 : Int32)]) ++ [(101 : Int32)]) ++ [(32 : Int32)]) ++ [(Int32.ofNat (48 + n_ / 1000000000 % 10))]) ++ [(Int32.ofNat (48 + n_ / 100000000 % 10))]) ++ [(Int32.ofNat (48 + n_ / 10000000 % 10))]) ++ [(Int32.ofNat (48 + n_ / 1000000 % 10))]) ++ [(Int32.ofNat (48 + n_ / 100000 % 10))]) ++ [(Int32.ofNat (48 + n_ / 10000 % 10))]) ++ [(Int32.ofNat (48 + n_ / 1000 % 10))]) ++ [(Int32.ofNat (48 + n_ / 100 % 10))]) ++ [(Int32.ofNat (48 + n_ / 10 % 10))]) 25 436 at_435 rfl f3665 rfl rfl (by first | omega | (simp only [List.length_append, List.length_cons, List.length_nil]; omega)) (narC (dg48 _)) f3666 z10 (fun h3667 K3667 A3667 S3667 c3667 => ?_)
        have E3667 := Ext.kp1 (Ext.tr E3603 Ed3653) K3667 e10
        refine Go.iinc (Int32.ofNat ((((((((((((((((((mkV ((XT.ushr fa (24 : Int32)) &&& (3 : Int32)) (fa &&& (255 : Int32)) ((XT.ushr fa (8 : Int32)) &&& (255 : Int32)) ((XT.ushr fa (16 : Int32)) &&& (255 : Int32))) ++ [(44 : Int32)]) ++ [(32 : Int32)]) ++ [(108 : Int32)]) ++ [(105 : Int32)]) ++ [(110 : Int32)]) ++ [(101 : Int32)]) ++ [(32 : Int32)]) ++ [(Int32.ofNat (48 + n_ / 1000000000 % 10))]) ++ [(Int32.ofNat (48 + n_ / 100000000 % 10))]) ++ [(Int32.ofNat (48 + n_ / 10000000 % 10))]) ++ [(Int32.ofNat (48 + n_ / 1000000 % 10))]) ++ [(Int32.ofNat (48 + n_ / 100000 % 10))]) ++ [(Int32.ofNat (48 + n_ / 10000 % 10))]) ++ [(Int32.ofNat (48 + n_ / 1000 % 10))]) ++ [(Int32.ofNat (48 + n_ / 100 % 10))]) ++ [(Int32.ofNat (48 + n_ / 10 % 10))]) ++ [(Int32.ofNat (48 + n_ / 1 % 10))]).length) #[.val (.int fa), .val (.int la), .val (.int ra), .val (.int ((XT.ushr fa (24 : Int32)) &&& (3 : Int32))), .val (.int ((XT.ushr ra (24 : Int32)) &&& (3 : Int32))), .val (.int (fa &&& (255 : Int32))), .val (.int ((XT.ushr fa (8 : Int32)) &&& (255 : Int32))), .val (.int ((XT.ushr fa (16 : Int32)) &&& (255 : Int32))), .val (.int (ra &&& (255 : Int32))), .val (.int ((XT.ushr ra (8 : Int32)) &&& (255 : Int32))), .val (.int ((XT.ushr ra (16 : Int32)) &&& (255 : Int32))), .val (.ref u1), .val (.ref u2), .val (.ref pp), .val (.ref e_), .val (.int (Int32.ofNat ((((((((((((((((((mkV ((XT.ushr fa (24 : Int32)) &&& (3 : Int32)) (fa &&& (255 : Int32)) ((XT.ushr fa (8 : Int32)) &&& (255 : Int32)) ((XT.ushr fa (16 : Int32)) &&& (255 : Int32))) ++ [(44 : Int32)]) ++ [(32 : Int32)]) ++ [(108 : Int32)]) ++ [(105 : Int32)]) ++ [(110 : Int32)]) ++ [(101 : Int32)]) ++ [(32 : Int32)]) ++ [(Int32.ofNat (48 + n_ / 1000000000 % 10))]) ++ [(Int32.ofNat (48 + n_ / 100000000 % 10))]) ++ [(Int32.ofNat (48 + n_ / 10000000 % 10))]) ++ [(Int32.ofNat (48 + n_ / 1000000 % 10))]) ++ [(Int32.ofNat (48 + n_ / 100000 % 10))]) ++ [(Int32.ofNat (48 + n_ / 10000 % 10))]) ++ [(Int32.ofNat (48 + n_ / 1000 % 10))]) ++ [(Int32.ofNat (48 + n_ / 100 % 10))]) ++ [(Int32.ofNat (48 + n_ / 10 % 10))]) ++ [(Int32.ofNat (48 + n_ / 1 % 10))]).length)), .val (.int (Int32.ofNat 10))] 439 at_436 rfl rfl incL rfl ?_
        refine Go.mono (k' := 28) (n' := 216) (nl rfl) (nl rfl) ?_
        exact J439 _ ([44, 32, 108, 105, 110, 101, 32] ++ dgL 10 n_) _ _ _ (Or.inr ⟨_, rfl, rfl⟩) (by simp [dgL, Nat.div_div_eq_div_mul]) (Or.inr ⟨q, 10, n_, hla, hn, hs, rfl⟩) E3667 A3667 S3667
  rcases and3 (XT.ushr fa (24 : Int32)) with hc | hc | hc | hc
  · refine Go.iload_n 124 at_123 rfl rfl ?_
    refine Go.ifle 137 127 at_124 (by decide) rfl rfl (fun q3668 => ?_) (fun q3668 => (by rw [hc] at q3668; exact absurd q3668 (by decide)))
    refine Go.iload_n 138 at_137 rfl rfl ?_
    refine Go.iconst (1) 139 at_138 rfl rfl ?_
    refine Go.if_icmple 152 142 at_139 (by decide) rfl rfl (fun q3669 => ?_) (fun q3669 => (by rw [hc] at q3669; exact absurd q3669 (by decide)))
    refine Go.iload_n 153 at_152 rfl rfl ?_
    refine Go.iconst (2) 154 at_153 rfl rfl ?_
    refine Go.if_icmple 167 157 at_154 (by decide) rfl rfl (fun q3670 => ?_) (fun q3670 => (by rw [hc] at q3670; exact absurd q3670 (by decide)))
    have R : (mkV ((XT.ushr fa (24 : Int32)) &&& (3 : Int32)) (fa &&& (255 : Int32)) ((XT.ushr fa (8 : Int32)) &&& (255 : Int32)) ((XT.ushr fa (16 : Int32)) &&& (255 : Int32))) = [] := by unfold mkV; rw [hc] <;> rfl
    exact J167 _ _ _ (by rw [R] <;> rfl) E10 A0_ S10
  · refine Go.iload_n 124 at_123 rfl rfl ?_
    refine Go.ifle 137 127 at_124 (by decide) rfl rfl (fun q3671 => (by rw [hc] at q3671; exact absurd q3671 (by decide))) (fun q3671 => ?_)
    refine Go.aload 129 at_127 rfl rfl rfl ?_
    refine Go.iload 131 at_129 rfl rfl ?_
    refine Go.iload 133 at_131 rfl rfl ?_
    refine Go.pushC ([] : List Int32) 25 134 at_133 rfl A0_ rfl rfl (by first | omega | (simp only [List.length_append, List.length_cons, List.length_nil]; omega)) (narC (and255 _)) S10 z10 (fun h3672 K3672 A3672 S3672 c3672 => ?_)
    have E3672 := Ext.kp1 E10 K3672 e10
    refine Go.iinc (Int32.ofNat (([] : List Int32) ++ [(fa &&& (255 : Int32))]).length) #[.val (.int fa), .val (.int la), .val (.int ra), .val (.int ((XT.ushr fa (24 : Int32)) &&& (3 : Int32))), .val (.int ((XT.ushr ra (24 : Int32)) &&& (3 : Int32))), .val (.int (fa &&& (255 : Int32))), .val (.int ((XT.ushr fa (8 : Int32)) &&& (255 : Int32))), .val (.int ((XT.ushr fa (16 : Int32)) &&& (255 : Int32))), .val (.int (ra &&& (255 : Int32))), .val (.int ((XT.ushr ra (8 : Int32)) &&& (255 : Int32))), .val (.int ((XT.ushr ra (16 : Int32)) &&& (255 : Int32))), .val (.ref u1), .val (.ref u2), .val (.ref pp), .val (.ref e_), .val (.int (Int32.ofNat (([] : List Int32) ++ [(fa &&& (255 : Int32))]).length)), .unset] 137 at_134 rfl rfl incL rfl ?_
    refine Go.iload_n 138 at_137 rfl rfl ?_
    refine Go.iconst (1) 139 at_138 rfl rfl ?_
    refine Go.if_icmple 152 142 at_139 (by decide) rfl rfl (fun q3673 => ?_) (fun q3673 => (by rw [hc] at q3673; exact absurd q3673 (by decide)))
    refine Go.iload_n 153 at_152 rfl rfl ?_
    refine Go.iconst (2) 154 at_153 rfl rfl ?_
    refine Go.if_icmple 167 157 at_154 (by decide) rfl rfl (fun q3674 => ?_) (fun q3674 => (by rw [hc] at q3674; exact absurd q3674 (by decide)))
    have R : (mkV ((XT.ushr fa (24 : Int32)) &&& (3 : Int32)) (fa &&& (255 : Int32)) ((XT.ushr fa (8 : Int32)) &&& (255 : Int32)) ((XT.ushr fa (16 : Int32)) &&& (255 : Int32))) = [(fa &&& (255 : Int32))] := by unfold mkV; rw [hc] <;> rfl
    exact J167 _ _ _ (by rw [R] <;> rfl) E3672 A3672 S3672
  · refine Go.iload_n 124 at_123 rfl rfl ?_
    refine Go.ifle 137 127 at_124 (by decide) rfl rfl (fun q3675 => (by rw [hc] at q3675; exact absurd q3675 (by decide))) (fun q3675 => ?_)
    refine Go.aload 129 at_127 rfl rfl rfl ?_
    refine Go.iload 131 at_129 rfl rfl ?_
    refine Go.iload 133 at_131 rfl rfl ?_
    refine Go.pushC ([] : List Int32) 25 134 at_133 rfl A0_ rfl rfl (by first | omega | (simp only [List.length_append, List.length_cons, List.length_nil]; omega)) (narC (and255 _)) S10 z10 (fun h3676 K3676 A3676 S3676 c3676 => ?_)
    have E3676 := Ext.kp1 E10 K3676 e10
    refine Go.iinc (Int32.ofNat (([] : List Int32) ++ [(fa &&& (255 : Int32))]).length) #[.val (.int fa), .val (.int la), .val (.int ra), .val (.int ((XT.ushr fa (24 : Int32)) &&& (3 : Int32))), .val (.int ((XT.ushr ra (24 : Int32)) &&& (3 : Int32))), .val (.int (fa &&& (255 : Int32))), .val (.int ((XT.ushr fa (8 : Int32)) &&& (255 : Int32))), .val (.int ((XT.ushr fa (16 : Int32)) &&& (255 : Int32))), .val (.int (ra &&& (255 : Int32))), .val (.int ((XT.ushr ra (8 : Int32)) &&& (255 : Int32))), .val (.int ((XT.ushr ra (16 : Int32)) &&& (255 : Int32))), .val (.ref u1), .val (.ref u2), .val (.ref pp), .val (.ref e_), .val (.int (Int32.ofNat (([] : List Int32) ++ [(fa &&& (255 : Int32))]).length)), .unset] 137 at_134 rfl rfl incL rfl ?_
    refine Go.iload_n 138 at_137 rfl rfl ?_
    refine Go.iconst (1) 139 at_138 rfl rfl ?_
    refine Go.if_icmple 152 142 at_139 (by decide) rfl rfl (fun q3677 => (by rw [hc] at q3677; exact absurd q3677 (by decide))) (fun q3677 => ?_)
    refine Go.aload 144 at_142 rfl rfl rfl ?_
    refine Go.iload 146 at_144 rfl rfl ?_
    refine Go.iload 148 at_146 rfl rfl ?_
    refine Go.pushC (([] : List Int32) ++ [(fa &&& (255 : Int32))]) 25 149 at_148 rfl A3676 rfl rfl (by first | omega | (simp only [List.length_append, List.length_cons, List.length_nil]; omega)) (narC (and255 _)) S3676 z10 (fun h3678 K3678 A3678 S3678 c3678 => ?_)
    have E3678 := Ext.kp1 E3676 K3678 e10
    refine Go.iinc (Int32.ofNat ((([] : List Int32) ++ [(fa &&& (255 : Int32))]) ++ [((XT.ushr fa (8 : Int32)) &&& (255 : Int32))]).length) #[.val (.int fa), .val (.int la), .val (.int ra), .val (.int ((XT.ushr fa (24 : Int32)) &&& (3 : Int32))), .val (.int ((XT.ushr ra (24 : Int32)) &&& (3 : Int32))), .val (.int (fa &&& (255 : Int32))), .val (.int ((XT.ushr fa (8 : Int32)) &&& (255 : Int32))), .val (.int ((XT.ushr fa (16 : Int32)) &&& (255 : Int32))), .val (.int (ra &&& (255 : Int32))), .val (.int ((XT.ushr ra (8 : Int32)) &&& (255 : Int32))), .val (.int ((XT.ushr ra (16 : Int32)) &&& (255 : Int32))), .val (.ref u1), .val (.ref u2), .val (.ref pp), .val (.ref e_), .val (.int (Int32.ofNat ((([] : List Int32) ++ [(fa &&& (255 : Int32))]) ++ [((XT.ushr fa (8 : Int32)) &&& (255 : Int32))]).length)), .unset] 152 at_149 rfl rfl incL rfl ?_
    refine Go.iload_n 153 at_152 rfl rfl ?_
    refine Go.iconst (2) 154 at_153 rfl rfl ?_
    refine Go.if_icmple 167 157 at_154 (by decide) rfl rfl (fun q3679 => ?_) (fun q3679 => (by rw [hc] at q3679; exact absurd q3679 (by decide)))
    have R : (mkV ((XT.ushr fa (24 : Int32)) &&& (3 : Int32)) (fa &&& (255 : Int32)) ((XT.ushr fa (8 : Int32)) &&& (255 : Int32)) ((XT.ushr fa (16 : Int32)) &&& (255 : Int32))) = [(fa &&& (255 : Int32)), ((XT.ushr fa (8 : Int32)) &&& (255 : Int32))] := by unfold mkV; rw [hc] <;> rfl
    exact J167 _ _ _ (by rw [R] <;> rfl) E3678 A3678 S3678
  · refine Go.iload_n 124 at_123 rfl rfl ?_
    refine Go.ifle 137 127 at_124 (by decide) rfl rfl (fun q3680 => (by rw [hc] at q3680; exact absurd q3680 (by decide))) (fun q3680 => ?_)
    refine Go.aload 129 at_127 rfl rfl rfl ?_
    refine Go.iload 131 at_129 rfl rfl ?_
    refine Go.iload 133 at_131 rfl rfl ?_
    refine Go.pushC ([] : List Int32) 25 134 at_133 rfl A0_ rfl rfl (by first | omega | (simp only [List.length_append, List.length_cons, List.length_nil]; omega)) (narC (and255 _)) S10 z10 (fun h3681 K3681 A3681 S3681 c3681 => ?_)
    have E3681 := Ext.kp1 E10 K3681 e10
    refine Go.iinc (Int32.ofNat (([] : List Int32) ++ [(fa &&& (255 : Int32))]).length) #[.val (.int fa), .val (.int la), .val (.int ra), .val (.int ((XT.ushr fa (24 : Int32)) &&& (3 : Int32))), .val (.int ((XT.ushr ra (24 : Int32)) &&& (3 : Int32))), .val (.int (fa &&& (255 : Int32))), .val (.int ((XT.ushr fa (8 : Int32)) &&& (255 : Int32))), .val (.int ((XT.ushr fa (16 : Int32)) &&& (255 : Int32))), .val (.int (ra &&& (255 : Int32))), .val (.int ((XT.ushr ra (8 : Int32)) &&& (255 : Int32))), .val (.int ((XT.ushr ra (16 : Int32)) &&& (255 : Int32))), .val (.ref u1), .val (.ref u2), .val (.ref pp), .val (.ref e_), .val (.int (Int32.ofNat (([] : List Int32) ++ [(fa &&& (255 : Int32))]).length)), .unset] 137 at_134 rfl rfl incL rfl ?_
    refine Go.iload_n 138 at_137 rfl rfl ?_
    refine Go.iconst (1) 139 at_138 rfl rfl ?_
    refine Go.if_icmple 152 142 at_139 (by decide) rfl rfl (fun q3682 => (by rw [hc] at q3682; exact absurd q3682 (by decide))) (fun q3682 => ?_)
    refine Go.aload 144 at_142 rfl rfl rfl ?_
    refine Go.iload 146 at_144 rfl rfl ?_
    refine Go.iload 148 at_146 rfl rfl ?_
    refine Go.pushC (([] : List Int32) ++ [(fa &&& (255 : Int32))]) 25 149 at_148 rfl A3681 rfl rfl (by first | omega | (simp only [List.length_append, List.length_cons, List.length_nil]; omega)) (narC (and255 _)) S3681 z10 (fun h3683 K3683 A3683 S3683 c3683 => ?_)
    have E3683 := Ext.kp1 E3681 K3683 e10
    refine Go.iinc (Int32.ofNat ((([] : List Int32) ++ [(fa &&& (255 : Int32))]) ++ [((XT.ushr fa (8 : Int32)) &&& (255 : Int32))]).length) #[.val (.int fa), .val (.int la), .val (.int ra), .val (.int ((XT.ushr fa (24 : Int32)) &&& (3 : Int32))), .val (.int ((XT.ushr ra (24 : Int32)) &&& (3 : Int32))), .val (.int (fa &&& (255 : Int32))), .val (.int ((XT.ushr fa (8 : Int32)) &&& (255 : Int32))), .val (.int ((XT.ushr fa (16 : Int32)) &&& (255 : Int32))), .val (.int (ra &&& (255 : Int32))), .val (.int ((XT.ushr ra (8 : Int32)) &&& (255 : Int32))), .val (.int ((XT.ushr ra (16 : Int32)) &&& (255 : Int32))), .val (.ref u1), .val (.ref u2), .val (.ref pp), .val (.ref e_), .val (.int (Int32.ofNat ((([] : List Int32) ++ [(fa &&& (255 : Int32))]) ++ [((XT.ushr fa (8 : Int32)) &&& (255 : Int32))]).length)), .unset] 152 at_149 rfl rfl incL rfl ?_
    refine Go.iload_n 153 at_152 rfl rfl ?_
    refine Go.iconst (2) 154 at_153 rfl rfl ?_
    refine Go.if_icmple 167 157 at_154 (by decide) rfl rfl (fun q3684 => (by rw [hc] at q3684; exact absurd q3684 (by decide))) (fun q3684 => ?_)
    refine Go.aload 159 at_157 rfl rfl rfl ?_
    refine Go.iload 161 at_159 rfl rfl ?_
    refine Go.iload 163 at_161 rfl rfl ?_
    refine Go.pushC ((([] : List Int32) ++ [(fa &&& (255 : Int32))]) ++ [((XT.ushr fa (8 : Int32)) &&& (255 : Int32))]) 25 164 at_163 rfl A3683 rfl rfl (by first | omega | (simp only [List.length_append, List.length_cons, List.length_nil]; omega)) (narC (and255 _)) S3683 z10 (fun h3685 K3685 A3685 S3685 c3685 => ?_)
    have E3685 := Ext.kp1 E3683 K3685 e10
    refine Go.iinc (Int32.ofNat (((([] : List Int32) ++ [(fa &&& (255 : Int32))]) ++ [((XT.ushr fa (8 : Int32)) &&& (255 : Int32))]) ++ [((XT.ushr fa (16 : Int32)) &&& (255 : Int32))]).length) #[.val (.int fa), .val (.int la), .val (.int ra), .val (.int ((XT.ushr fa (24 : Int32)) &&& (3 : Int32))), .val (.int ((XT.ushr ra (24 : Int32)) &&& (3 : Int32))), .val (.int (fa &&& (255 : Int32))), .val (.int ((XT.ushr fa (8 : Int32)) &&& (255 : Int32))), .val (.int ((XT.ushr fa (16 : Int32)) &&& (255 : Int32))), .val (.int (ra &&& (255 : Int32))), .val (.int ((XT.ushr ra (8 : Int32)) &&& (255 : Int32))), .val (.int ((XT.ushr ra (16 : Int32)) &&& (255 : Int32))), .val (.ref u1), .val (.ref u2), .val (.ref pp), .val (.ref e_), .val (.int (Int32.ofNat (((([] : List Int32) ++ [(fa &&& (255 : Int32))]) ++ [((XT.ushr fa (8 : Int32)) &&& (255 : Int32))]) ++ [((XT.ushr fa (16 : Int32)) &&& (255 : Int32))]).length)), .unset] 167 at_164 rfl rfl incL rfl ?_
    have R : (mkV ((XT.ushr fa (24 : Int32)) &&& (3 : Int32)) (fa &&& (255 : Int32)) ((XT.ushr fa (8 : Int32)) &&& (255 : Int32)) ((XT.ushr fa (16 : Int32)) &&& (255 : Int32))) = [(fa &&& (255 : Int32)), ((XT.ushr fa (8 : Int32)) &&& (255 : Int32)), ((XT.ushr fa (16 : Int32)) &&& (255 : Int32))] := by unfold mkV; rw [hc] <;> rfl
    exact J167 _ _ _ (by rw [R] <;> rfl) E3685 A3685 S3685
set_option maxRecDepth 65536 in
theorem comes_1 {Post : Tables → Env → Array Value → State → Outcome → State → Prop} (hpost : ∀ tb e args s v u, (limb_1_1.after args s (.returned v) u = true ∧ limb_1_2.after args s (.returned v) u = true ∧ True) → Jvm.D.FramedW s (.returned v) u (Jvm.fieldLocs frame_1_writes args s ++ Jvm.arrayLocs frame_1_arrays args s ++ Jvm.staticLocs frame_1_statics s) 80 6848 → Post tb e args s (.returned v) u) :
    ArmFor flags0 classFile x code maxLocals ret World_1 tables_1 room_1 Calls_1 rest_1 Pre_1 Post := by
  intro l hfl _ _ p e ha hc hk s m args below hf hA hF happ hP
  obtain ⟨hcalls, hrest, hpre⟩ := hP
  obtain ⟨-, -, -, hnamed, -, -, -, hat⟩ := (Spec.applies_iff hf).mp happ
  obtain ⟨hg, hn⟩ := and_e (Cond.before_iff.mp (show (Jvm.Cond.and given_1 narrow_1).before args s = true from hpre))
  obtain ⟨g0, r0⟩ := and_e hg
  obtain ⟨g1, r1⟩ := and_e r0
  obtain ⟨g2, r2⟩ := and_e r1
  obtain ⟨w0, w1, w2, rfl⟩ : ∃ w0 w1 w2 : Value, args = #[w0, w1, w2] := by
    have hs : args.size = 3 := by simpa [Cond.value, given_1] using g0
    obtain ⟨L⟩ := args
    match L, hs with
    | [w0, w1, w2], _ => exact ⟨w0, w1, w2, rfl⟩
  have hw := fun d (hd : d ∈ tables_1) => atoms_spec (ws := Jvm.Cond.code x code maxLocals ret :: tables_1) hat d (List.mem_cons_of_mem _ hd)
  obtain ⟨hsets, hown0⟩ := atoms_of _ (rest_1_c_eq ▸ (show rest_1_c.before _ s = true from hrest))
  obtain ⟨i0, ei0⟩ := is_v g1
  obtain rfl : w0 = (.int i0) := Option.some.inj ei0
  obtain ⟨i1, ei1⟩ := is_v g2
  obtain rfl : w1 = (.int i1) := Option.some.inj ei1
  obtain ⟨i2, ei2⟩ := is_v r2
  obtain rfl : w2 = (.int i2) := Option.some.inj ei2
  have n5 := not_v (Cond.before_iff.mp (hsets _ (List.mem_of_getElem? (i := 2) rfl)))
  obtain ⟨zz, ez⟩ := is_v (Cond.before_iff.mp (hsets _ (List.mem_of_getElem? (i := 1) rfl)))
  have Sz : Sta s s.heap "java/lang/String" "COMPACT_STRINGS" "Z" (.int zz) := Sta.start ez (Or.inl (hsets _ (List.mem_of_getElem? (i := 0) rfl)))
  obtain ⟨vf, ef, rf⟩ := isR_v (Cond.before_iff.mp (hsets _ (List.mem_of_getElem? (i := 8) rfl)))
  have Sf : Sta s s.heap "jdk/internal/util/Preconditions" "SIOOBE_FORMATTER" "Ljava/util/function/BiFunction;" vf := Sta.start ef (Or.inl (hsets _ (List.mem_of_getElem? (i := 7) rfl)))
  have cz : ¬ (zz = (0 : Int32)) := gotF (Cond.eq_ints ez (Term.int_eval (0))) n5
  have W : Wd s #[.int i0, .int i1, .int i2] := ⟨fun k _ q => hw _ (List.mem_of_getElem? q), ⟨zz, Sz, cz⟩, vf, Sf, rf⟩
  obtain ⟨o1, uo1⟩ := exa_v (Cond.before_iff.mp (hsets _ (List.mem_of_getElem? (i := 12) rfl)))
  have do1 : Sta s s.heap "java/lang/Integer" "DigitOnes" "[B" (.ref o1) := Sta.start uo1 (Or.inl (hsets _ (List.mem_of_getElem? (i := 11) rfl)))
  have ao1 := digStart (fun i => Int32.ofNat (48 + i % 10)) (W.1 19 rfl) uo1 (fun _ => uo1) (Cond.before_iff.mp (hsets _ (List.mem_of_getElem? (i := 12) rfl))) (Cond.before_iff.mp (hsets _ (List.mem_of_getElem? (i := 13) rfl))) (Cond.before_iff.mp (hsets _ (List.mem_of_getElem? (i := 14) rfl))) (fun i hi => (addT (Term.int_eval 48) (rem_f rfl (Term.int_eval 10) (by decide))).trans (congrArg (fun z => some (Value.int z)) (onesE ⟨i, hi⟩))) (fun i hi => onesB ⟨i, hi⟩)
  obtain ⟨o2, uo2⟩ := exa_v (Cond.before_iff.mp (hsets _ (List.mem_of_getElem? (i := 17) rfl)))
  have do2 : Sta s s.heap "java/lang/Integer" "DigitTens" "[B" (.ref o2) := Sta.start uo2 (Or.inl (hsets _ (List.mem_of_getElem? (i := 16) rfl)))
  have ao2 := digStart (fun i => Int32.ofNat (48 + i / 10)) (W.1 19 rfl) uo2 (fun _ => uo2) (Cond.before_iff.mp (hsets _ (List.mem_of_getElem? (i := 17) rfl))) (Cond.before_iff.mp (hsets _ (List.mem_of_getElem? (i := 18) rfl))) (Cond.before_iff.mp (hsets _ (List.mem_of_getElem? (i := 19) rfl))) (fun i hi => (addT (Term.int_eval 48) (div_f rfl (Term.int_eval 10) (by decide))).trans (congrArg (fun z => some (Value.int z)) (tensE ⟨i, hi⟩))) (fun i hi => tensB ⟨i, hi⟩)
  have hD : Dg s o1 o2 := ⟨do1, ao1, do2, ao2⟩
  have hEW : EW s #[.int i0, .int i1, .int i2] consts_1 := (EW.cons (W.1 33 rfl) (by decide +kernel) (EW.cons (W.1 43 rfl) (by decide +kernel) (EW.cons (W.1 129 rfl) (by decide +kernel) (EW.cons (W.1 234 rfl) (by decide +kernel) (EW.cons (W.1 193 rfl) (by decide +kernel) (EW.cons (W.1 18 rfl) (by decide +kernel) EW.nil))))))
  have H : CHv s consts_1 s.vm s.heap := CHv.start hEW (fun p hp => hcalls.1 p hp) (hsets _ (List.mem_of_getElem? (i := 2) rfl)) (W.1 19 rfl) (W.1 5 rfl)
  obtain ⟨n, o, h1, h2, h3, v, L, rfl, q1, -, -, N, hq, hnw⟩ := cLaw W (fa := i0) (la := i1) (ra := i2) (l := l) hD tables_1 p e ha hc hk s m _ below hf ((Spec.applies_iff_loose hf).mp happ).1 ⟨rfl, State.Warmed39.refl s, rfl, CHr.refl H, Ext.rfl' _, hEW⟩ trivial
  subst q1
  obtain ⟨a1, a2, a3, a4⟩ := hq
  refine ⟨n, _, h1, h2, h3, hpost _ _ _ _ _ _ ⟨Cond.after_iff.mpr rfl, Cond.after_iff.mpr (eq_i res_at (Term.int_eval (1)) rfl), trivial⟩ ⟨a1, a2, a3, (a4.sift fun y hy => Or.inr (N y hy)).mono (by decide) (by decide)⟩⟩
theorem main_1_1 : Claimed_1_1 := comes_1 fun _ _ _ _ _ _ h hF => ⟨h.1, hF⟩
theorem main_1_2 : Claimed_1_2 := comes_1 fun _ _ _ _ _ _ h hF => ⟨h.2.1, hF⟩
end Jvm.Pilot.@@N@@
namespace Jvm.Pilot.@@N@@
open Jvm Jvm.ClassFile Sem Op Lib Jvm.Free Jvm.Stand Jvm.Pilot.@@N@@.Jvm.D
/-! MADE BY PROGRAM (witnessworld.py) out of the Statement's table words and the real class files: 29 classes; the members and pool entries that the words name. The judged class is class 1, her method 1. -/
namespace start1
open Jvm.ClassFile
def u (s : String) : CpInfo := .utf8 (stringToUtf16 s)
/-- a pool by its gaps: so many unusable entries, then the entry; so many at the end -/
def gap : Nat → List CpInfo → List CpInfo
  | 0, r => r
  | n + 1, r => .unusable :: gap n r
def poolList (es : List (Nat × CpInfo)) (last : Nat) : List CpInfo := es.foldr (fun e r => gap e.1 (e.2 :: r)) (gap last [])
def pool (es : List (Nat × CpInfo)) (last : Nat) : Array CpInfo := ⟨poolList es last⟩
def fileOf (pool : Array CpInfo) (this : Nat) (attrs : Array Attribute := #[]) (ms : Array MethodInfo := #[]) (fl : Nat := 33) (sup : Nat := 0) (ifs : Array Nat := #[]) (fds : Array FieldInfo := #[]) : ClassFile where
  minorVersion := 0
  majorVersion := 65
  constantPool := pool
  accessFlags := fl
  thisClass := this
  superClass := sup
  interfaces := ifs
  fields := fds
  methods := ms
  attributes := attrs
def plain (name : String) (sup : Option ClassId) : Class where
  name := name
  kind := .ordinary
  loader := none
  accessFlags := 33
  super := sup
  interfaces := #[]
  cf := none
  fields := #[]
  methods := #[]
  instanceTypes := #[]
  staticTypes := #[]
  resolved := #[]
  callSites := []
  init := .initialized
  statics := none
  mirror := none

def pool0 : Array CpInfo := pool [(5, u "<init>"), (0, u "()V"), (1, .class_ 10), (1, u "java/lang/Object"), (85, u "clone"), (0, u "()Ljava/lang/Object;")] 26

def k0c0 : Code := { maxStack := 0, maxLocals := 1, code := object_method_1_code, exceptionTable := #[], attributes := #[] }
def k0m0 : Method := { name := "<init>", desc := "()V", sig := { parameters := [], returnType := none }, accessFlags := 1, code := some k0c0 }
def k0m1 : Method := { name := "clone", desc := "()Ljava/lang/Object;", sig := { parameters := [], returnType := some (.object "java/lang/Object") }, accessFlags := 260, code := none }
/-- java/lang/Object -/
def k0 : Class := { plain "java/lang/Object" none with
  accessFlags := 33
  interfaces := #[]
  cf := some (fileOf pool0 8 #[] #[{ accessFlags := 1, nameIndex := 5, descriptorIndex := 6, attributes := #[] }, { accessFlags := 260, nameIndex := 96, descriptorIndex := 97, attributes := #[] }] 33 0 #[] #[])
  fields := #[]
  methods := #[k0m0, k0m1]
  instanceTypes := #[]
  staticTypes := #[]
  resolved := Array.replicate 124 none
  statics := none }

def pool1 : Array CpInfo := pool [(2, .class_ 4), (1, u "java/lang/Object"), (0, u "<init>"), (0, u "()V"), (0, .methodref 8 9), (0, .class_ 10), (0, .nameAndType 11 12), (0, u "com/example/guide/guide/io/FlowProblemToStringPinLaw"), (0, u "mk"), (0, u "(ICCC)Ljava/lang/String;"), (0, .class_ 14), (0, u "com/example/guide/guide/io/FlowProblem"), (0, .methodref 13 16), (0, .nameAndType 5 17), (0, u "(Ljava/lang/String;ILjava/lang/String;)V"), (0, .methodref 8 19), (0, .nameAndType 20 21), (0, u "digits"), (0, u "(I)I"), (0, .methodref 8 23), (0, .nameAndType 24 25), (0, u "dig"), (0, u "(II)C"), (0, .methodref 13 27), (0, .nameAndType 28 29), (0, u "toString"), (0, u "()Ljava/lang/String;"), (0, .methodref 31 32), (0, .class_ 33), (0, .nameAndType 34 35), (0, u "java/lang/String"), (0, u "length"), (0, u "()I"), (0, .methodref 8 37), (0, .nameAndType 38 39), (0, u "five"), (0, u "(Ljava/lang/String;[CII)Z"), (0, .methodref 31 41), (0, .nameAndType 5 42), (0, u "([C)V"), (0, .integer 1000000000), (0, .integer 100000000), (0, .integer 10000000), (0, .integer 1000000), (0, .integer 100000), (0, .methodref 31 49), (0, .nameAndType 50 51), (0, u "charAt"), (0, u "(I)C"), (0, .methodref 8 53), (0, .nameAndType 54 39), (0, u "at"), (2, u "law"), (0, u "(III)Z")] 5

def k1m0 : Method := { name := "<init>", desc := "()V", sig := { parameters := [], returnType := none }, accessFlags := 1, code := none }
def k1c1 : Code := { maxStack := 5, maxLocals := 17, code := code, exceptionTable := #[], attributes := #[] }
def k1m1 : Method := { name := "law", desc := "(III)Z", sig := { parameters := [.int, .int, .int], returnType := some .boolean }, accessFlags := 9, code := some k1c1 }
def k1c2 : Code := { maxStack := 6, maxLocals := 4, code := method_3_code, exceptionTable := #[], attributes := #[] }
def k1m2 : Method := { name := "mk", desc := "(ICCC)Ljava/lang/String;", sig := { parameters := [.int, .char, .char, .char], returnType := some (.object "java/lang/String") }, accessFlags := 10, code := some k1c2 }
def k1c3 : Code := { maxStack := 2, maxLocals := 1, code := method_4_code, exceptionTable := #[], attributes := #[] }
def k1m3 : Method := { name := "digits", desc := "(I)I", sig := { parameters := [.int], returnType := some .int }, accessFlags := 10, code := some k1c3 }
def k1c4 : Code := { maxStack := 4, maxLocals := 3, code := method_5_code, exceptionTable := #[], attributes := #[] }
def k1m4 : Method := { name := "dig", desc := "(II)C", sig := { parameters := [.int, .int], returnType := some .char }, accessFlags := 10, code := some k1c4 }
def k1c5 : Code := { maxStack := 3, maxLocals := 4, code := method_6_code, exceptionTable := #[], attributes := #[] }
def k1m5 : Method := { name := "at", desc := "(Ljava/lang/String;[CII)Z", sig := { parameters := [(.object "java/lang/String"), (.array .char), .int, .int], returnType := some .boolean }, accessFlags := 10, code := some k1c5 }
def k1c6 : Code := { maxStack := 5, maxLocals := 4, code := method_7_code, exceptionTable := #[], attributes := #[] }
def k1m6 : Method := { name := "five", desc := "(Ljava/lang/String;[CII)Z", sig := { parameters := [(.object "java/lang/String"), (.array .char), .int, .int], returnType := some .boolean }, accessFlags := 10, code := some k1c6 }
/-- com/example/guide/guide/io/FlowProblemToStringPinLaw -/
def k1 : Class := { plain "com/example/guide/guide/io/FlowProblemToStringPinLaw" (some 0) with
  accessFlags := 49
  interfaces := #[]
  cf := some (fileOf pool1 8 #[] #[{ accessFlags := 1, nameIndex := 5, descriptorIndex := 6, attributes := #[] }, { accessFlags := 9, nameIndex := 57, descriptorIndex := 58, attributes := #[] }, { accessFlags := 10, nameIndex := 11, descriptorIndex := 12, attributes := #[] }, { accessFlags := 10, nameIndex := 20, descriptorIndex := 21, attributes := #[] }, { accessFlags := 10, nameIndex := 24, descriptorIndex := 25, attributes := #[] }, { accessFlags := 10, nameIndex := 54, descriptorIndex := 39, attributes := #[] }, { accessFlags := 10, nameIndex := 38, descriptorIndex := 39, attributes := #[] }] 49 2 #[] #[])
  fields := #[]
  methods := #[k1m0, k1m1, k1m2, k1m3, k1m4, k1m5, k1m6]
  instanceTypes := #[]
  staticTypes := #[]
  resolved := Array.replicate 64 none
  statics := none }

def pool2 : Array CpInfo := pool [(1, .class_ 2), (0, u "java/io/Serializable"), (0, .class_ 4), (0, u "java/lang/Object")] 2

/-- java/io/Serializable -/
def k2 : Class := { plain "java/io/Serializable" (some 0) with
  accessFlags := 1537
  interfaces := #[]
  cf := some (fileOf pool2 1 #[] #[] 1537 3 #[] #[])
  fields := #[]
  methods := #[]
  instanceTypes := #[]
  staticTypes := #[]
  resolved := Array.replicate 7 none
  statics := none }

def pool3 : Array CpInfo := pool [(1, .class_ 2), (0, u "java/lang/Comparable"), (0, .class_ 4), (0, u "java/lang/Object")] 7

/-- java/lang/Comparable -/
def k3 : Class := { plain "java/lang/Comparable" (some 0) with
  accessFlags := 1537
  interfaces := #[]
  cf := some (fileOf pool3 1 #[] #[] 1537 3 #[] #[])
  fields := #[]
  methods := #[]
  instanceTypes := #[]
  staticTypes := #[]
  resolved := Array.replicate 12 none
  statics := none }

def pool4 : Array CpInfo := pool [(2, .class_ 4), (1, u "java/lang/CharSequence"), (42, .class_ 48), (0, u "java/lang/CharSequence$1CodePointIterator"), (10, .class_ 60), (0, u "java/lang/CharSequence$1CharIterator"), (5, .class_ 67), (0, u "java/lang/Object")] 63

/-- java/lang/CharSequence -/
def k4 : Class := { plain "java/lang/CharSequence" (some 0) with
  accessFlags := 1537
  interfaces := #[]
  cf := some (fileOf pool4 2 #[.nestMembers #[47, 59]] #[] 1537 66 #[] #[])
  fields := #[]
  methods := #[]
  instanceTypes := #[]
  staticTypes := #[]
  resolved := Array.replicate 131 none
  statics := none }

def pool5 : Array CpInfo := pool [(1, .class_ 2), (0, u "java/lang/constant/Constable"), (0, .class_ 4), (0, u "java/lang/Object")] 6

/-- java/lang/constant/Constable -/
def k5 : Class := { plain "java/lang/constant/Constable" (some 0) with
  accessFlags := 1537
  interfaces := #[]
  cf := some (fileOf pool5 1 #[] #[] 1537 3 #[] #[])
  fields := #[]
  methods := #[]
  instanceTypes := #[]
  staticTypes := #[]
  resolved := Array.replicate 11 none
  statics := none }

def pool6 : Array CpInfo := pool [(1, .class_ 2), (0, u "java/lang/constant/ConstantDesc"), (0, .class_ 4), (0, u "java/lang/Object")] 32

/-- java/lang/constant/ConstantDesc -/
def k6 : Class := { plain "java/lang/constant/ConstantDesc" (some 0) with
  accessFlags := 1537
  interfaces := #[]
  cf := some (fileOf pool6 1 #[] #[] 1537 3 #[] #[])
  fields := #[]
  methods := #[]
  instanceTypes := #[]
  staticTypes := #[]
  resolved := Array.replicate 37 none
  statics := none }

def pool7 : Array CpInfo := pool [(1, .methodref 2 3), (0, .class_ 4), (0, .nameAndType 5 6), (0, u "java/lang/Object"), (0, u "<init>"), (0, u "()V"), (0, .string 8), (0, u ""), (0, .fieldref 10 11), (0, .class_ 12), (0, .nameAndType 13 14), (0, u "java/lang/String"), (0, u "value"), (0, u "[B"), (0, .fieldref 10 16), (0, .nameAndType 17 18), (0, u "coder"), (0, u "B"), (2, u "hash"), (0, u "I"), (2, u "hashIsZero"), (0, u "Z"), (0, .methodref 10 28), (0, .nameAndType 5 29), (0, u "([CIILjava/lang/Void;)V"), (8, .fieldref 10 39), (0, .nameAndType 40 26), (0, u "COMPACT_STRINGS"), (1, .class_ 44), (1, u "java/lang/StringUTF16"), (0, u "compress"), (1, .methodref 42 48), (0, .nameAndType 49 50), (0, u "coderFromArrayLen"), (0, u "([BI)B"), (3, .methodref 55 56), (0, .class_ 57), (0, .nameAndType 58 59), (0, u "java/util/Arrays"), (0, u "copyOfRange"), (0, u "([BII)[B"), (47, .class_ 109), (1, u "java/lang/StringLatin1"), (32, u "()Z"), (34, .methodref 42 178), (0, .nameAndType 45 179), (0, u "([CII)[B"), (13, .class_ 195), (1, u "java/lang/System"), (16, .methodref 193 213), (0, .nameAndType 214 215), (0, u "arraycopy"), (0, u "(Ljava/lang/Object;ILjava/lang/Object;II)V"), (118, u "()I"), (0, .methodref 10 336), (0, .nameAndType 17 337), (0, u "()B"), (2, u "()[B"), (22, u "([BI)C"), (27, u "(II)V"), (35, u "(I)C"), (61, .methodref 10 490), (0, .nameAndType 5 491), (0, u "(Ljava/lang/AbstractStringBuilder;Ljava/lang/Void;)V"), (0, .methodref 10 493), (0, .nameAndType 494 142), (0, u "isLatin1"), (0, .methodref 107 496), (0, .nameAndType 497 363), (0, u "charAt"), (3, u "checkIndex"), (4, .nameAndType 507 334), (0, u "length"), (24, u "getBytes"), (16, .methodref 550 506), (0, .class_ 551), (0, u "java/lang/AbstractStringBuilder"), (0, .methodref 550 553), (0, .nameAndType 554 340), (0, u "getValue"), (20, .class_ 576), (0, u "java/lang/CharSequence"), (22, u "CASE_INSENSITIVE_ORDER"), (0, u "Ljava/util/Comparator;"), (220, u "([BIB)V"), (188, u "([C)V"), (36, .methodref 550 493), (5, .fieldref 1054 1055), (0, .class_ 1056), (0, .nameAndType 1057 1058), (0, u "jdk/internal/util/Preconditions"), (0, u "SIOOBE_FORMATTER"), (0, u "Ljava/util/function/BiFunction;"), (0, .methodref 1054 1060), (0, .nameAndType 501 1061), (0, u "(IILjava/util/function/BiFunction;)I"), (39, u "serialPersistentFields"), (0, u "[Ljava/io/ObjectStreamField;"), (0, .class_ 1104), (0, u "java/lang/String$CaseInsensitiveComparator"), (1, .class_ 1107), (0, u "java/io/Serializable"), (0, .class_ 1109), (0, u "java/lang/Comparable"), (0, .class_ 1111), (0, u "java/lang/constant/Constable"), (0, .class_ 1113), (0, u "java/lang/constant/ConstantDesc"), (2, u "serialVersionUID"), (0, u "J"), (3, u "REPL"), (0, u "C"), (2, u "LATIN1"), (1, u "UTF16"), (105, u "(Ljava/lang/StringBuilder;)V")] 217

def k7m0 : Method := { name := "<init>", desc := "()V", sig := { parameters := [], returnType := none }, accessFlags := 1, code := none }
def k7c1 : Code := { maxStack := 5, maxLocals := 2, code := jdk_42_method_3_code, exceptionTable := #[], attributes := #[] }
def k7m1 : Method := { name := "<init>", desc := "([C)V", sig := { parameters := [(.array .char)], returnType := none }, accessFlags := 1, code := some k7c1 }
def k7c2 : Code := { maxStack := 3, maxLocals := 2, code := jdk_42_method_53_code, exceptionTable := #[], attributes := #[] }
def k7m2 : Method := { name := "<init>", desc := "(Ljava/lang/StringBuilder;)V", sig := { parameters := [(.object "java/lang/StringBuilder")], returnType := none }, accessFlags := 1, code := some k7c2 }
def k7c3 : Code := { maxStack := 2, maxLocals := 1, code := jdk_42_method_54_code, exceptionTable := #[], attributes := #[] }
def k7m3 : Method := { name := "length", desc := "()I", sig := { parameters := [], returnType := some .int }, accessFlags := 1, code := some k7c3 }
def k7c4 : Code := { maxStack := 2, maxLocals := 2, code := jdk_42_method_56_code, exceptionTable := #[], attributes := #[] }
def k7m4 : Method := { name := "charAt", desc := "(I)C", sig := { parameters := [.int], returnType := some .char }, accessFlags := 1, code := some k7c4 }
def k7c5 : Code := { maxStack := 5, maxLocals := 4, code := jdk_42_method_147_code, exceptionTable := #[], attributes := #[] }
def k7m5 : Method := { name := "getBytes", desc := "([BIB)V", sig := { parameters := [(.array .byte), .int, .byte], returnType := none }, accessFlags := 0, code := some k7c5 }
def k7c6 : Code := { maxStack := 4, maxLocals := 6, code := jdk_42_method_149_code, exceptionTable := #[], attributes := #[] }
def k7m6 : Method := { name := "<init>", desc := "([CIILjava/lang/Void;)V", sig := { parameters := [(.array .char), .int, .int, (.object "java/lang/Void")], returnType := none }, accessFlags := 2, code := some k7c6 }
def k7c7 : Code := { maxStack := 5, maxLocals := 5, code := jdk_42_method_150_code, exceptionTable := #[], attributes := #[] }
def k7m7 : Method := { name := "<init>", desc := "(Ljava/lang/AbstractStringBuilder;Ljava/lang/Void;)V", sig := { parameters := [(.object "java/lang/AbstractStringBuilder"), (.object "java/lang/Void")], returnType := none }, accessFlags := 0, code := some k7c7 }
def k7c8 : Code := { maxStack := 1, maxLocals := 1, code := jdk_42_method_152_code, exceptionTable := #[], attributes := #[] }
def k7m8 : Method := { name := "coder", desc := "()B", sig := { parameters := [], returnType := some .byte }, accessFlags := 0, code := some k7c8 }
def k7c9 : Code := { maxStack := 1, maxLocals := 1, code := jdk_42_method_154_code, exceptionTable := #[], attributes := #[] }
def k7m9 : Method := { name := "isLatin1", desc := "()Z", sig := { parameters := [], returnType := some .boolean }, accessFlags := 0, code := some k7c9 }
def k7c10 : Code := { maxStack := 3, maxLocals := 2, code := jdk_42_method_155_code, exceptionTable := #[], attributes := #[] }
def k7m10 : Method := { name := "checkIndex", desc := "(II)V", sig := { parameters := [.int, .int], returnType := none }, accessFlags := 8, code := some k7c10 }
/-- java/lang/String -/
def k7 : Class := { plain "java/lang/String" (some 0) with
  accessFlags := 49
  interfaces := #[2, 3, 4, 5, 6]
  cf := some (fileOf pool7 10 #[.nestMembers #[1103]] #[{ accessFlags := 1, nameIndex := 5, descriptorIndex := 6, attributes := #[] }, { accessFlags := 1, nameIndex := 5, descriptorIndex := 1010, attributes := #[] }, { accessFlags := 1, nameIndex := 5, descriptorIndex := 1233, attributes := #[] }, { accessFlags := 1, nameIndex := 507, descriptorIndex := 334, attributes := #[] }, { accessFlags := 1, nameIndex := 497, descriptorIndex := 427, attributes := #[] }, { accessFlags := 0, nameIndex := 532, descriptorIndex := 821, attributes := #[] }, { accessFlags := 2, nameIndex := 5, descriptorIndex := 29, attributes := #[] }, { accessFlags := 0, nameIndex := 5, descriptorIndex := 491, attributes := #[] }, { accessFlags := 0, nameIndex := 17, descriptorIndex := 337, attributes := #[] }, { accessFlags := 0, nameIndex := 494, descriptorIndex := 142, attributes := #[] }, { accessFlags := 8, nameIndex := 501, descriptorIndex := 391, attributes := #[] }] 49 2 #[1106, 1108, 575, 1110, 1112] #[{ accessFlags := 18, nameIndex := 13, descriptorIndex := 14, attributes := #[] }, { accessFlags := 18, nameIndex := 17, descriptorIndex := 18, attributes := #[] }, { accessFlags := 2, nameIndex := 21, descriptorIndex := 22, attributes := #[] }, { accessFlags := 2, nameIndex := 25, descriptorIndex := 26, attributes := #[] }, { accessFlags := 26, nameIndex := 1116, descriptorIndex := 1117, attributes := #[] }, { accessFlags := 24, nameIndex := 40, descriptorIndex := 26, attributes := #[] }, { accessFlags := 26, nameIndex := 1101, descriptorIndex := 1102, attributes := #[] }, { accessFlags := 26, nameIndex := 1121, descriptorIndex := 1122, attributes := #[] }, { accessFlags := 25, nameIndex := 599, descriptorIndex := 600, attributes := #[] }, { accessFlags := 24, nameIndex := 1125, descriptorIndex := 18, attributes := #[] }, { accessFlags := 24, nameIndex := 1127, descriptorIndex := 18, attributes := #[] }])
  fields := #[{ name := "value", type := (.array .byte), accessFlags := 18, slot := 0, constantValue := 0 }, { name := "coder", type := .byte, accessFlags := 18, slot := 1, constantValue := 0 }, { name := "hash", type := .int, accessFlags := 2, slot := 2, constantValue := 0 }, { name := "hashIsZero", type := .boolean, accessFlags := 2, slot := 3, constantValue := 0 }, { name := "serialVersionUID", type := .long, accessFlags := 26, slot := 0, constantValue := 0 }, { name := "COMPACT_STRINGS", type := .boolean, accessFlags := 24, slot := 1, constantValue := 0 }, { name := "serialPersistentFields", type := (.array (.object "java/io/ObjectStreamField")), accessFlags := 26, slot := 2, constantValue := 0 }, { name := "REPL", type := .char, accessFlags := 26, slot := 3, constantValue := 0 }, { name := "CASE_INSENSITIVE_ORDER", type := (.object "java/util/Comparator"), accessFlags := 25, slot := 4, constantValue := 0 }, { name := "LATIN1", type := .byte, accessFlags := 24, slot := 5, constantValue := 0 }, { name := "UTF16", type := .byte, accessFlags := 24, slot := 6, constantValue := 0 }]
  methods := #[k7m0, k7m1, k7m2, k7m3, k7m4, k7m5, k7m6, k7m7, k7m8, k7m9, k7m10]
  instanceTypes := #[(.array .byte), .byte, .int, .boolean]
  staticTypes := #[.long, .boolean, (.array (.object "java/io/ObjectStreamField")), .char, (.object "java/util/Comparator"), .byte, .byte]
  resolved := Array.replicate 1451 none
  statics := some 0 }

def pool8 : Array CpInfo := pool [(1, .methodref 2 3), (0, .class_ 4), (0, .nameAndType 5 6), (0, u "java/lang/Object"), (0, u "<init>"), (0, u "()V"), (0, .string 8), (0, u "fileName"), (0, .methodref 10 11), (0, .class_ 12), (0, .nameAndType 13 14), (0, u "java/util/Objects"), (0, u "requireNonNull"), (0, u "(Ljava/lang/Object;Ljava/lang/String;)Ljava/lang/Object;"), (0, .class_ 16), (0, u "java/lang/String"), (0, .fieldref 18 19), (0, .class_ 20), (0, .nameAndType 8 21), (0, u "com/example/guide/guide/io/FlowProblem"), (0, u "Ljava/lang/String;"), (0, .fieldref 18 23), (0, .nameAndType 24 25), (0, u "line"), (0, u "I"), (0, .string 27), (0, u "reason"), (0, .fieldref 18 29), (0, .nameAndType 27 21), (0, .class_ 31), (0, u "java/lang/StringBuilder"), (0, .methodref 30 3), (0, .methodref 30 34), (0, .nameAndType 35 36), (0, u "append"), (0, u "(Ljava/lang/String;)Ljava/lang/StringBuilder;"), (0, .string 38), (0, u ", line "), (0, .methodref 30 40), (0, .nameAndType 35 41), (0, u "(I)Ljava/lang/StringBuilder;"), (0, .methodref 30 43), (0, .nameAndType 44 45), (0, u "toString"), (0, u "()Ljava/lang/String;"), (0, .string 47), (0, u ""), (0, .string 49), (0, u ": "), (0, .class_ 51), (0, u "java/io/Serializable"), (0, u "serialVersionUID"), (0, u "J"), (3, u "(Ljava/lang/String;ILjava/lang/String;)V")] 9

def k8c0 : Code := { maxStack := 3, maxLocals := 4, code := prog_30_method_1_code, exceptionTable := #[], attributes := #[] }
def k8m0 : Method := { name := "<init>", desc := "(Ljava/lang/String;ILjava/lang/String;)V", sig := { parameters := [(.object "java/lang/String"), .int, (.object "java/lang/String")], returnType := none }, accessFlags := 1, code := some k8c0 }
def k8c1 : Code := { maxStack := 3, maxLocals := 1, code := prog_30_method_5_code, exceptionTable := #[], attributes := #[] }
def k8m1 : Method := { name := "toString", desc := "()Ljava/lang/String;", sig := { parameters := [], returnType := some (.object "java/lang/String") }, accessFlags := 1, code := some k8c1 }
/-- com/example/guide/guide/io/FlowProblem -/
def k8 : Class := { plain "com/example/guide/guide/io/FlowProblem" (some 0) with
  accessFlags := 49
  interfaces := #[2]
  cf := some (fileOf pool8 18 #[] #[{ accessFlags := 1, nameIndex := 5, descriptorIndex := 57, attributes := #[] }, { accessFlags := 1, nameIndex := 44, descriptorIndex := 45, attributes := #[] }] 49 2 #[50] #[{ accessFlags := 26, nameIndex := 52, descriptorIndex := 53, attributes := #[] }, { accessFlags := 18, nameIndex := 8, descriptorIndex := 21, attributes := #[] }, { accessFlags := 18, nameIndex := 24, descriptorIndex := 25, attributes := #[] }, { accessFlags := 18, nameIndex := 27, descriptorIndex := 21, attributes := #[] }])
  fields := #[{ name := "serialVersionUID", type := .long, accessFlags := 26, slot := 0, constantValue := 0 }, { name := "fileName", type := (.object "java/lang/String"), accessFlags := 18, slot := 0, constantValue := 0 }, { name := "line", type := .int, accessFlags := 18, slot := 1, constantValue := 0 }, { name := "reason", type := (.object "java/lang/String"), accessFlags := 18, slot := 2, constantValue := 0 }]
  methods := #[k8m0, k8m1]
  instanceTypes := #[(.object "java/lang/String"), .int, (.object "java/lang/String")]
  staticTypes := #[.long]
  resolved := Array.replicate 67 none
  statics := none }

def pool9 : Array CpInfo := pool [(2, .class_ 4), (1, u "java/lang/Object"), (0, u "<init>"), (0, u "()V"), (35, .class_ 44), (1, u "java/util/Objects"), (0, u "requireNonNull"), (48, u "(Ljava/lang/Object;Ljava/lang/String;)Ljava/lang/Object;")] 89

def k9m0 : Method := { name := "<init>", desc := "()V", sig := { parameters := [], returnType := none }, accessFlags := 2, code := none }
def k9c1 : Code := { maxStack := 3, maxLocals := 2, code := jdk_31_method_11_code, exceptionTable := #[], attributes := #[] }
def k9m1 : Method := { name := "requireNonNull", desc := "(Ljava/lang/Object;Ljava/lang/String;)Ljava/lang/Object;", sig := { parameters := [(.object "java/lang/Object"), (.object "java/lang/String")], returnType := some (.object "java/lang/Object") }, accessFlags := 9, code := some k9c1 }
/-- java/util/Objects -/
def k9 : Class := { plain "java/util/Objects" (some 0) with
  accessFlags := 49
  interfaces := #[]
  cf := some (fileOf pool9 42 #[] #[{ accessFlags := 2, nameIndex := 5, descriptorIndex := 6, attributes := #[] }, { accessFlags := 9, nameIndex := 45, descriptorIndex := 94, attributes := #[] }] 49 2 #[] #[])
  fields := #[]
  methods := #[k9m0, k9m1]
  instanceTypes := #[]
  staticTypes := #[]
  resolved := Array.replicate 184 none
  statics := none }

def pool10 : Array CpInfo := pool [(1, .class_ 2), (0, u "java/lang/Appendable"), (0, .class_ 4), (0, u "java/lang/Object")] 9

/-- java/lang/Appendable -/
def k10 : Class := { plain "java/lang/Appendable" (some 0) with
  accessFlags := 1537
  interfaces := #[]
  cf := some (fileOf pool10 1 #[] #[] 1537 3 #[] #[])
  fields := #[]
  methods := #[]
  instanceTypes := #[]
  staticTypes := #[]
  resolved := Array.replicate 14 none
  statics := none }

def pool11 : Array CpInfo := pool [(1, .class_ 2), (0, u "java/lang/String"), (0, .methodref 4 5), (0, .class_ 6), (0, .nameAndType 7 8), (0, u "java/lang/Object"), (0, u "<init>"), (0, u "()V"), (1, .class_ 12), (1, u "java/lang/AbstractStringBuilder"), (0, u "EMPTYVALUE"), (0, u "[B"), (0, .fieldref 10 16), (0, .nameAndType 17 14), (0, u "value"), (0, .fieldref 1 19), (0, .nameAndType 20 21), (0, u "COMPACT_STRINGS"), (0, u "Z"), (0, .fieldref 10 23), (0, .nameAndType 24 25), (0, u "coder"), (0, u "B"), (6, .methodref 1 33), (0, .nameAndType 34 35), (0, u "length"), (0, u "()I"), (0, .class_ 37), (0, u "java/lang/Integer"), (1, .integer 2147483647), (0, .methodref 1 41), (0, .nameAndType 24 42), (0, u "()B"), (2, u "append"), (0, u "(Ljava/lang/String;)Ljava/lang/AbstractStringBuilder;"), (1, .class_ 49), (0, u "java/lang/CharSequence"), (19, u "(Ljava/lang/String;)V"), (5, u "maybeLatin1"), (3, .fieldref 10 80), (0, .nameAndType 81 82), (0, u "count"), (0, u "I"), (0, .methodref 10 84), (0, .nameAndType 85 86), (0, u "isLatin1"), (0, u "()Z"), (13, .methodref 10 101), (0, .nameAndType 102 103), (0, u "ensureCapacityInternal"), (0, u "(I)V"), (0, .methodref 10 105), (0, .nameAndType 106 107), (0, u "newCapacity"), (0, u "(I)I"), (0, .methodref 109 110), (0, .class_ 111), (0, .nameAndType 112 113), (0, u "java/util/Arrays"), (0, u "copyOf"), (0, u "([BI)[B"), (0, .methodref 115 116), (0, .class_ 117), (0, .nameAndType 118 119), (0, u "jdk/internal/util/ArraysSupport"), (0, u "newLength"), (0, u "(III)I"), (68, u "getChars"), (19, .methodref 10 209), (0, .nameAndType 210 211), (0, u "putStringAt"), (0, u "(ILjava/lang/String;)V"), (5, u "inflateIfNeededFor"), (2, .nameAndType 221 222), (0, u "getBytes"), (0, u "([BIB)V"), (22, .methodref 36 246), (0, .nameAndType 247 107), (0, u "stringSize"), (0, .methodref 36 249), (0, .nameAndType 188 250), (0, u "(II[B)I"), (146, .methodref 10 398), (0, .nameAndType 217 69), (0, .methodref 1 220), (3, u "()[B"), (40, .class_ 445), (0, u "java/lang/Appendable"), (65, u "(I)Ljava/lang/AbstractStringBuilder;"), (40, u "getValue")] 56

def k11m0 : Method := { name := "<init>", desc := "()V", sig := { parameters := [], returnType := none }, accessFlags := 0, code := none }
def k11c1 : Code := { maxStack := 2, maxLocals := 2, code := jdk_68_method_2_code, exceptionTable := #[], attributes := #[] }
def k11m1 : Method := { name := "<init>", desc := "(I)V", sig := { parameters := [.int], returnType := none }, accessFlags := 0, code := some k11c1 }
def k11c2 : Code := { maxStack := 1, maxLocals := 1, code := jdk_68_method_6_code, exceptionTable := #[], attributes := #[] }
def k11m2 : Method := { name := "length", desc := "()I", sig := { parameters := [], returnType := some .int }, accessFlags := 1, code := some k11c2 }
def k11c3 : Code := { maxStack := 4, maxLocals := 3, code := jdk_68_method_9_code, exceptionTable := #[], attributes := #[] }
def k11m3 : Method := { name := "ensureCapacityInternal", desc := "(I)V", sig := { parameters := [.int], returnType := none }, accessFlags := 2, code := some k11c3 }
def k11c4 : Code := { maxStack := 5, maxLocals := 6, code := jdk_68_method_10_code, exceptionTable := #[], attributes := #[] }
def k11m4 : Method := { name := "newCapacity", desc := "(I)I", sig := { parameters := [.int], returnType := some .int }, accessFlags := 2, code := some k11c4 }
def k11c5 : Code := { maxStack := 3, maxLocals := 3, code := jdk_68_method_22_code, exceptionTable := #[], attributes := #[] }
def k11m5 : Method := { name := "append", desc := "(Ljava/lang/String;)Ljava/lang/AbstractStringBuilder;", sig := { parameters := [(.object "java/lang/String")], returnType := some (.object "java/lang/AbstractStringBuilder") }, accessFlags := 1, code := some k11c5 }
def k11c6 : Code := { maxStack := 4, maxLocals := 4, code := jdk_68_method_32_code, exceptionTable := #[], attributes := #[] }
def k11m6 : Method := { name := "append", desc := "(I)Ljava/lang/AbstractStringBuilder;", sig := { parameters := [.int], returnType := some (.object "java/lang/AbstractStringBuilder") }, accessFlags := 1, code := some k11c6 }
def k11c7 : Code := { maxStack := 1, maxLocals := 1, code := jdk_68_method_64_code, exceptionTable := #[], attributes := #[] }
def k11m7 : Method := { name := "getValue", desc := "()[B", sig := { parameters := [], returnType := some (.array .byte) }, accessFlags := 16, code := some k11c7 }
def k11c8 : Code := { maxStack := 1, maxLocals := 1, code := jdk_68_method_68_code, exceptionTable := #[], attributes := #[] }
def k11m8 : Method := { name := "isLatin1", desc := "()Z", sig := { parameters := [], returnType := some .boolean }, accessFlags := 16, code := some k11c8 }
def k11c9 : Code := { maxStack := 2, maxLocals := 2, code := jdk_68_method_71_code, exceptionTable := #[], attributes := #[] }
def k11m9 : Method := { name := "inflateIfNeededFor", desc := "(Ljava/lang/String;)V", sig := { parameters := [(.object "java/lang/String")], returnType := none }, accessFlags := 2, code := some k11c9 }
def k11c10 : Code := { maxStack := 4, maxLocals := 3, code := jdk_68_method_73_code, exceptionTable := #[], attributes := #[] }
def k11m10 : Method := { name := "putStringAt", desc := "(ILjava/lang/String;)V", sig := { parameters := [.int, (.object "java/lang/String")], returnType := none }, accessFlags := 2, code := some k11c10 }
/-- java/lang/AbstractStringBuilder -/
def k11 : Class := { plain "java/lang/AbstractStringBuilder" (some 0) with
  accessFlags := 1056
  interfaces := #[10, 4]
  cf := some (fileOf pool11 10 #[] #[{ accessFlags := 0, nameIndex := 7, descriptorIndex := 8, attributes := #[] }, { accessFlags := 0, nameIndex := 7, descriptorIndex := 103, attributes := #[] }, { accessFlags := 1, nameIndex := 34, descriptorIndex := 35, attributes := #[] }, { accessFlags := 2, nameIndex := 102, descriptorIndex := 103, attributes := #[] }, { accessFlags := 2, nameIndex := 106, descriptorIndex := 107, attributes := #[] }, { accessFlags := 1, nameIndex := 45, descriptorIndex := 46, attributes := #[] }, { accessFlags := 1, nameIndex := 45, descriptorIndex := 511, attributes := #[] }, { accessFlags := 16, nameIndex := 552, descriptorIndex := 403, attributes := #[] }, { accessFlags := 16, nameIndex := 85, descriptorIndex := 86, attributes := #[] }, { accessFlags := 2, nameIndex := 217, descriptorIndex := 69, attributes := #[] }, { accessFlags := 2, nameIndex := 210, descriptorIndex := 211, attributes := #[] }] 1056 4 #[444, 48] #[{ accessFlags := 0, nameIndex := 17, descriptorIndex := 14, attributes := #[] }, { accessFlags := 0, nameIndex := 24, descriptorIndex := 25, attributes := #[] }, { accessFlags := 0, nameIndex := 75, descriptorIndex := 21, attributes := #[] }, { accessFlags := 0, nameIndex := 81, descriptorIndex := 82, attributes := #[] }, { accessFlags := 26, nameIndex := 13, descriptorIndex := 14, attributes := #[] }])
  fields := #[{ name := "value", type := (.array .byte), accessFlags := 0, slot := 0, constantValue := 0 }, { name := "coder", type := .byte, accessFlags := 0, slot := 1, constantValue := 0 }, { name := "maybeLatin1", type := .boolean, accessFlags := 0, slot := 2, constantValue := 0 }, { name := "count", type := .int, accessFlags := 0, slot := 3, constantValue := 0 }, { name := "EMPTYVALUE", type := (.array .byte), accessFlags := 26, slot := 0, constantValue := 0 }]
  methods := #[k11m0, k11m1, k11m2, k11m3, k11m4, k11m5, k11m6, k11m7, k11m8, k11m9, k11m10]
  instanceTypes := #[(.array .byte), .byte, .boolean, .int]
  staticTypes := #[(.array .byte)]
  resolved := Array.replicate 609 none
  statics := none }

def pool12 : Array CpInfo := pool [(1, .methodref 2 3), (0, .class_ 4), (0, .nameAndType 5 6), (0, u "java/lang/AbstractStringBuilder"), (0, u "<init>"), (0, u "(I)V"), (11, .class_ 20), (1, u "java/lang/String"), (3, .class_ 26), (1, u "java/lang/StringBuilder"), (0, u "append"), (0, u "(Ljava/lang/String;)Ljava/lang/StringBuilder;"), (0, .methodref 2 30), (0, .nameAndType 27 31), (0, u "(Ljava/lang/String;)Ljava/lang/AbstractStringBuilder;"), (21, .methodref 2 54), (0, .nameAndType 27 55), (0, u "(I)Ljava/lang/AbstractStringBuilder;"), (81, .methodref 18 138), (0, .nameAndType 5 139), (0, u "(Ljava/lang/StringBuilder;)V"), (5, u "()V"), (10, u "()I"), (111, u "(I)Ljava/lang/StringBuilder;"), (74, .methodref 2 344), (0, .nameAndType 345 156), (0, u "length"), (3, .class_ 350), (0, u "java/lang/Appendable"), (0, .class_ 352), (0, u "java/io/Serializable"), (0, .class_ 354), (0, u "java/lang/Comparable"), (0, .class_ 356), (0, u "java/lang/CharSequence"), (0, u "serialVersionUID"), (0, u "J"), (40, u "toString"), (0, u "()Ljava/lang/String;")] 21

def k12c0 : Code := { maxStack := 2, maxLocals := 1, code := jdk_67_method_1_code, exceptionTable := #[], attributes := #[] }
def k12m0 : Method := { name := "<init>", desc := "()V", sig := { parameters := [], returnType := none }, accessFlags := 1, code := some k12c0 }
def k12c1 : Code := { maxStack := 2, maxLocals := 2, code := jdk_67_method_7_code, exceptionTable := #[], attributes := #[] }
def k12m1 : Method := { name := "append", desc := "(Ljava/lang/String;)Ljava/lang/StringBuilder;", sig := { parameters := [(.object "java/lang/String")], returnType := some (.object "java/lang/StringBuilder") }, accessFlags := 1, code := some k12c1 }
def k12c2 : Code := { maxStack := 2, maxLocals := 2, code := jdk_67_method_15_code, exceptionTable := #[], attributes := #[] }
def k12m2 : Method := { name := "append", desc := "(I)Ljava/lang/StringBuilder;", sig := { parameters := [.int], returnType := some (.object "java/lang/StringBuilder") }, accessFlags := 1, code := some k12c2 }
def k12c3 : Code := { maxStack := 3, maxLocals := 1, code := jdk_67_method_42_code, exceptionTable := #[], attributes := #[] }
def k12m3 : Method := { name := "toString", desc := "()Ljava/lang/String;", sig := { parameters := [], returnType := some (.object "java/lang/String") }, accessFlags := 1, code := some k12c3 }
def k12c4 : Code := { maxStack := 1, maxLocals := 1, code := jdk_67_method_93_code, exceptionTable := #[], attributes := #[] }
def k12m4 : Method := { name := "length", desc := "()I", sig := { parameters := [], returnType := some .int }, accessFlags := 4161, code := some k12c4 }
/-- java/lang/StringBuilder -/
def k12 : Class := { plain "java/lang/StringBuilder" (some 11) with
  accessFlags := 49
  interfaces := #[10, 2, 3, 4]
  cf := some (fileOf pool12 24 #[] #[{ accessFlags := 1, nameIndex := 5, descriptorIndex := 145, attributes := #[] }, { accessFlags := 1, nameIndex := 27, descriptorIndex := 28, attributes := #[] }, { accessFlags := 1, nameIndex := 27, descriptorIndex := 268, attributes := #[] }, { accessFlags := 1, nameIndex := 399, descriptorIndex := 400, attributes := #[] }, { accessFlags := 4161, nameIndex := 345, descriptorIndex := 156, attributes := #[] }] 49 2 #[349, 351, 353, 355] #[{ accessFlags := 24, nameIndex := 357, descriptorIndex := 358, attributes := #[] }])
  fields := #[{ name := "serialVersionUID", type := .long, accessFlags := 24, slot := 0, constantValue := 0 }]
  methods := #[k12m0, k12m1, k12m2, k12m3, k12m4]
  instanceTypes := #[(.array .byte), .byte, .boolean, .int]
  staticTypes := #[.long]
  resolved := Array.replicate 422 none
  statics := none }

def pool13 : Array CpInfo := pool [(2, .class_ 4), (1, u "java/lang/Object"), (0, u "<init>"), (0, u "()V"), (1, .class_ 10), (1, u "java/lang/System"), (0, u "allowSecurityManager"), (0, u "I"), (16, u "cons"), (0, u "Ljava/io/Console;"), (77, .class_ 110), (1, u "java/lang/System$CallersHolder"), (43, u "initialErrStream"), (0, u "Ljava/io/PrintStream;"), (19, u "security"), (0, u "Ljava/lang/SecurityManager;"), (31, .class_ 209), (0, u "java/lang/System$1"), (7, u "props"), (0, u "Ljava/util/Properties;"), (2, u "lineSeparator"), (0, u "Ljava/lang/String;"), (96, .class_ 321), (1, u "java/lang/System$LoggerFinder"), (5, .class_ 328), (0, u "java/lang/System$Logger"), (67, u "err"), (2, u "out"), (91, u "notSupportedJnuEncoding"), (15, u "in"), (17, u "initialIn"), (0, u "Ljava/io/InputStream;"), (35, u "bootLayer"), (0, u "Ljava/lang/ModuleLayer;"), (99, .class_ 664), (0, u "java/lang/System$2"), (9, u "NEVER"), (2, u "MAYBE"), (49, u "arraycopy"), (0, u "(Ljava/lang/Object;ILjava/lang/Object;II)V"), (72, .class_ 802), (0, u "java/lang/System$Logger$Level")] 31

def k13m0 : Method := { name := "<init>", desc := "()V", sig := { parameters := [], returnType := none }, accessFlags := 2, code := none }
def k13m1 : Method := { name := "arraycopy", desc := "(Ljava/lang/Object;ILjava/lang/Object;II)V", sig := { parameters := [(.object "java/lang/Object"), .int, (.object "java/lang/Object"), .int, .int], returnType := none }, accessFlags := 265, code := none }
/-- java/lang/System -/
def k13 : Class := { plain "java/lang/System" (some 0) with
  accessFlags := 49
  interfaces := #[]
  cf := some (fileOf pool13 8 #[.nestMembers #[319, 327, 801, 108, 663, 208]] #[{ accessFlags := 2, nameIndex := 5, descriptorIndex := 6, attributes := #[] }, { accessFlags := 265, nameIndex := 727, descriptorIndex := 728, attributes := #[] }] 49 2 #[] #[{ accessFlags := 25, nameIndex := 507, descriptorIndex := 526, attributes := #[] }, { accessFlags := 25, nameIndex := 399, descriptorIndex := 155, attributes := #[] }, { accessFlags := 25, nameIndex := 396, descriptorIndex := 155, attributes := #[] }, { accessFlags := 10, nameIndex := 525, descriptorIndex := 526, attributes := #[] }, { accessFlags := 26, nameIndex := 674, descriptorIndex := 12, attributes := #[] }, { accessFlags := 26, nameIndex := 677, descriptorIndex := 12, attributes := #[] }, { accessFlags := 10, nameIndex := 11, descriptorIndex := 12, attributes := #[] }, { accessFlags := 74, nameIndex := 175, descriptorIndex := 176, attributes := #[] }, { accessFlags := 10, nameIndex := 491, descriptorIndex := 222, attributes := #[] }, { accessFlags := 74, nameIndex := 29, descriptorIndex := 30, attributes := #[] }, { accessFlags := 74, nameIndex := 154, descriptorIndex := 155, attributes := #[] }, { accessFlags := 10, nameIndex := 217, descriptorIndex := 218, attributes := #[] }, { accessFlags := 10, nameIndex := 221, descriptorIndex := 222, attributes := #[] }, { accessFlags := 8, nameIndex := 562, descriptorIndex := 563, attributes := #[] }])
  fields := #[{ name := "in", type := (.object "java/io/InputStream"), accessFlags := 25, slot := 0, constantValue := 0 }, { name := "out", type := (.object "java/io/PrintStream"), accessFlags := 25, slot := 1, constantValue := 0 }, { name := "err", type := (.object "java/io/PrintStream"), accessFlags := 25, slot := 2, constantValue := 0 }, { name := "initialIn", type := (.object "java/io/InputStream"), accessFlags := 10, slot := 3, constantValue := 0 }, { name := "NEVER", type := .int, accessFlags := 26, slot := 4, constantValue := 0 }, { name := "MAYBE", type := .int, accessFlags := 26, slot := 5, constantValue := 0 }, { name := "allowSecurityManager", type := .int, accessFlags := 10, slot := 6, constantValue := 0 }, { name := "security", type := (.object "java/lang/SecurityManager"), accessFlags := 74, slot := 7, constantValue := 0 }, { name := "notSupportedJnuEncoding", type := (.object "java/lang/String"), accessFlags := 10, slot := 8, constantValue := 0 }, { name := "cons", type := (.object "java/io/Console"), accessFlags := 74, slot := 9, constantValue := 0 }, { name := "initialErrStream", type := (.object "java/io/PrintStream"), accessFlags := 74, slot := 10, constantValue := 0 }, { name := "props", type := (.object "java/util/Properties"), accessFlags := 10, slot := 11, constantValue := 0 }, { name := "lineSeparator", type := (.object "java/lang/String"), accessFlags := 10, slot := 12, constantValue := 0 }, { name := "bootLayer", type := (.object "java/lang/ModuleLayer"), accessFlags := 8, slot := 13, constantValue := 0 }]
  methods := #[k13m0, k13m1]
  instanceTypes := #[]
  staticTypes := #[(.object "java/io/InputStream"), (.object "java/io/PrintStream"), (.object "java/io/PrintStream"), (.object "java/io/InputStream"), .int, .int, .int, (.object "java/lang/SecurityManager"), (.object "java/lang/String"), (.object "java/io/Console"), (.object "java/io/PrintStream"), (.object "java/util/Properties"), (.object "java/lang/String"), (.object "java/lang/ModuleLayer")]
  resolved := Array.replicate 834 none
  statics := none }

def pool14 : Array CpInfo := pool [(2, .class_ 4), (1, u "java/lang/Object"), (0, u "<init>"), (0, u "()V"), (1, .class_ 10), (1, u "java/lang/Number"), (2, .class_ 14), (0, u "java/io/Serializable"), (0, u "serialVersionUID"), (0, u "J")] 20

def k14m0 : Method := { name := "<init>", desc := "()V", sig := { parameters := [], returnType := none }, accessFlags := 1, code := none }
/-- java/lang/Number -/
def k14 : Class := { plain "java/lang/Number" (some 0) with
  accessFlags := 1057
  interfaces := #[2]
  cf := some (fileOf pool14 8 #[] #[{ accessFlags := 1, nameIndex := 5, descriptorIndex := 6, attributes := #[] }] 1057 2 #[13] #[{ accessFlags := 26, nameIndex := 15, descriptorIndex := 16, attributes := #[] }])
  fields := #[{ name := "serialVersionUID", type := .long, accessFlags := 26, slot := 0, constantValue := 0 }]
  methods := #[k14m0]
  instanceTypes := #[]
  staticTypes := #[.long]
  resolved := Array.replicate 37 none
  statics := none }

def pool15 : Array CpInfo := pool [(1, .class_ 2), (0, u "java/lang/Integer"), (16, u "digits"), (0, u "[C"), (33, u "(I)I"), (19, u "stringSize"), (2, u "getChars"), (0, u "(II[B)I"), (4, .fieldref 1 84), (0, .nameAndType 85 86), (0, u "DigitOnes"), (0, u "[B"), (0, .fieldref 1 88), (0, .nameAndType 89 86), (0, u "DigitTens"), (99, .class_ 190), (0, u "java/lang/Integer$IntegerCache"), (3, u "I"), (8, .class_ 204), (0, u "java/lang/Number"), (2, u "value"), (94, u "TYPE"), (0, u "Ljava/lang/Class;"), (0, .class_ 305), (0, u "java/lang/Comparable"), (0, .class_ 307), (0, u "java/lang/constant/Constable"), (0, .class_ 309), (0, u "java/lang/constant/ConstantDesc"), (0, u "MIN_VALUE"), (1, u "MAX_VALUE"), (3, u "SIZE"), (1, u "BYTES"), (1, u "serialVersionUID"), (0, u "J")] 131

def k15c0 : Code := { maxStack := 4, maxLocals := 7, code := jdk_33_method_12_code, exceptionTable := #[], attributes := #[] }
def k15m0 : Method := { name := "getChars", desc := "(II[B)I", sig := { parameters := [.int, .int, (.array .byte)], returnType := some .int }, accessFlags := 8, code := some k15c0 }
def k15c1 : Code := { maxStack := 2, maxLocals := 4, code := jdk_33_method_13_code, exceptionTable := #[], attributes := #[] }
def k15m1 : Method := { name := "stringSize", desc := "(I)I", sig := { parameters := [.int], returnType := some .int }, accessFlags := 8, code := some k15c1 }
/-- java/lang/Integer -/
def k15 : Class := { plain "java/lang/Integer" (some 14) with
  accessFlags := 49
  interfaces := #[3, 5, 6]
  cf := some (fileOf pool15 1 #[.nestMembers #[189]] #[{ accessFlags := 8, nameIndex := 77, descriptorIndex := 78, attributes := #[] }, { accessFlags := 8, nameIndex := 74, descriptorIndex := 54, attributes := #[] }] 49 203 #[304, 306, 308] #[{ accessFlags := 25, nameIndex := 310, descriptorIndex := 194, attributes := #[] }, { accessFlags := 25, nameIndex := 312, descriptorIndex := 194, attributes := #[] }, { accessFlags := 25, nameIndex := 302, descriptorIndex := 303, attributes := #[] }, { accessFlags := 24, nameIndex := 19, descriptorIndex := 20, attributes := #[] }, { accessFlags := 24, nameIndex := 89, descriptorIndex := 86, attributes := #[] }, { accessFlags := 24, nameIndex := 85, descriptorIndex := 86, attributes := #[] }, { accessFlags := 18, nameIndex := 207, descriptorIndex := 194, attributes := #[] }, { accessFlags := 25, nameIndex := 316, descriptorIndex := 194, attributes := #[] }, { accessFlags := 25, nameIndex := 318, descriptorIndex := 194, attributes := #[] }, { accessFlags := 26, nameIndex := 320, descriptorIndex := 321, attributes := #[] }])
  fields := #[{ name := "MIN_VALUE", type := .int, accessFlags := 25, slot := 0, constantValue := 0 }, { name := "MAX_VALUE", type := .int, accessFlags := 25, slot := 1, constantValue := 0 }, { name := "TYPE", type := (.object "java/lang/Class"), accessFlags := 25, slot := 2, constantValue := 0 }, { name := "digits", type := (.array .char), accessFlags := 24, slot := 3, constantValue := 0 }, { name := "DigitTens", type := (.array .byte), accessFlags := 24, slot := 4, constantValue := 0 }, { name := "DigitOnes", type := (.array .byte), accessFlags := 24, slot := 5, constantValue := 0 }, { name := "value", type := .int, accessFlags := 18, slot := 0, constantValue := 0 }, { name := "SIZE", type := .int, accessFlags := 25, slot := 6, constantValue := 0 }, { name := "BYTES", type := .int, accessFlags := 25, slot := 7, constantValue := 0 }, { name := "serialVersionUID", type := .long, accessFlags := 26, slot := 8, constantValue := 0 }]
  methods := #[k15m0, k15m1]
  instanceTypes := #[.int]
  staticTypes := #[.int, .int, (.object "java/lang/Class"), (.array .char), (.array .byte), (.array .byte), .int, .int, .long]
  resolved := Array.replicate 453 none
  statics := some 1 }

def pool16 : Array CpInfo := pool [(2, .class_ 4), (1, u "java/lang/Object"), (0, u "<init>"), (0, u "()V"), (7, .class_ 16), (1, u "java/util/Arrays"), (57, .class_ 76), (1, u "java/util/Arrays$NaturalOrder"), (32, u "()Ljava/lang/Object;"), (3, .class_ 115), (1, u "java/util/Arrays$LegacyMergeSort"), (1, u "Z"), (10, .nameAndType 129 109), (0, u "clone"), (9, u "copyOfRange"), (10, .methodref 151 152), (0, .class_ 153), (0, .nameAndType 154 155), (0, u "java/lang/System"), (0, u "arraycopy"), (0, u "(Ljava/lang/Object;ILjava/lang/Object;II)V"), (146, u "copyOf"), (1, .methodref 305 306), (0, .class_ 307), (0, .nameAndType 308 309), (0, u "java/lang/Math"), (0, u "min"), (0, u "(II)I"), (0, .methodref 311 128), (0, .class_ 312), (0, u "[B"), (26, .methodref 14 340), (0, .nameAndType 341 342), (0, u "copyOfRangeByte"), (0, u "([BII)[B"), (0, .methodref 14 344), (0, .nameAndType 345 346), (0, u "checkLength"), (0, u "(II)V"), (28, .class_ 376), (0, u "java/util/Arrays$ArrayList"), (68, u "$assertionsDisabled"), (269, u "MIN_ARRAY_SORT_GRAN"), (0, u "I"), (2, u "INSERTIONSORT_THRESHOLD"), (149, u "([BI)[B"), (105, .class_ 976), (0, u "java/util/Arrays$ArrayItr")] 52

def k16m0 : Method := { name := "<init>", desc := "()V", sig := { parameters := [], returnType := none }, accessFlags := 2, code := none }
def k16c1 : Code := { maxStack := 6, maxLocals := 3, code := jdk_65_method_121_code, exceptionTable := #[], attributes := #[] }
def k16m1 : Method := { name := "copyOf", desc := "([BI)[B", sig := { parameters := [(.array .byte), .int], returnType := some (.array .byte) }, accessFlags := 9, code := some k16c1 }
def k16c2 : Code := { maxStack := 4, maxLocals := 2, code := jdk_65_method_131_code, exceptionTable := #[], attributes := #[] }
def k16m2 : Method := { name := "checkLength", desc := "(II)V", sig := { parameters := [.int, .int], returnType := none }, accessFlags := 10, code := some k16c2 }
def k16c3 : Code := { maxStack := 3, maxLocals := 3, code := jdk_65_method_132_code, exceptionTable := #[], attributes := #[] }
def k16m3 : Method := { name := "copyOfRange", desc := "([BII)[B", sig := { parameters := [(.array .byte), .int, .int], returnType := some (.array .byte) }, accessFlags := 9, code := some k16c3 }
def k16c4 : Code := { maxStack := 6, maxLocals := 5, code := jdk_65_method_133_code, exceptionTable := #[], attributes := #[] }
def k16m4 : Method := { name := "copyOfRangeByte", desc := "([BII)[B", sig := { parameters := [(.array .byte), .int, .int], returnType := some (.array .byte) }, accessFlags := 10, code := some k16c4 }
/-- java/util/Arrays -/
def k16 : Class := { plain "java/util/Arrays" (some 0) with
  accessFlags := 49
  interfaces := #[]
  cf := some (fileOf pool16 14 #[.nestMembers #[975, 375, 113, 74]] #[{ accessFlags := 2, nameIndex := 5, descriptorIndex := 6, attributes := #[] }, { accessFlags := 9, nameIndex := 302, descriptorIndex := 869, attributes := #[] }, { accessFlags := 10, nameIndex := 345, descriptorIndex := 346, attributes := #[] }, { accessFlags := 9, nameIndex := 139, descriptorIndex := 342, attributes := #[] }, { accessFlags := 10, nameIndex := 341, descriptorIndex := 342, attributes := #[] }] 49 2 #[] #[{ accessFlags := 26, nameIndex := 715, descriptorIndex := 716, attributes := #[] }, { accessFlags := 26, nameIndex := 719, descriptorIndex := 716, attributes := #[] }, { accessFlags := 4120, nameIndex := 445, descriptorIndex := 117, attributes := #[] }])
  fields := #[{ name := "MIN_ARRAY_SORT_GRAN", type := .int, accessFlags := 26, slot := 0, constantValue := 0 }, { name := "INSERTIONSORT_THRESHOLD", type := .int, accessFlags := 26, slot := 1, constantValue := 0 }, { name := "$assertionsDisabled", type := .boolean, accessFlags := 4120, slot := 2, constantValue := 0 }]
  methods := #[k16m0, k16m1, k16m2, k16m3, k16m4]
  instanceTypes := #[]
  staticTypes := #[.int, .int, .boolean]
  resolved := Array.replicate 1029 none
  statics := none }

def pool17 : Array CpInfo := pool [(1, .class_ 2), (0, u "java/lang/Math"), (1, .class_ 6), (1, u "java/lang/Object"), (0, u "<init>"), (0, u "()V"), (89, .class_ 100), (1, u "java/lang/Math$RandomNumberGeneratorHolder"), (71, u "negativeZeroFloatBits"), (0, u "J"), (2, u "negativeZeroDoubleBits"), (21, u "max"), (2, u "min"), (43, u "$assertionsDisabled"), (0, u "Z"), (88, u "(II)I"), (2, u "twoToTheDoubleScaleDown"), (0, u "D"), (4, u "twoToTheDoubleScaleUp"), (9, u "E"), (3, u "PI"), (2, u "TAU"), (2, u "DEGREES_TO_RADIANS"), (0, u "RADIANS_TO_DEGREES")] 94

def k17m0 : Method := { name := "<init>", desc := "()V", sig := { parameters := [], returnType := none }, accessFlags := 2, code := none }
def k17c1 : Code := { maxStack := 2, maxLocals := 2, code := jdk_29_method_65_code, exceptionTable := #[], attributes := #[] }
def k17m1 : Method := { name := "max", desc := "(II)I", sig := { parameters := [.int, .int], returnType := some .int }, accessFlags := 9, code := some k17c1 }
def k17c2 : Code := { maxStack := 2, maxLocals := 2, code := jdk_29_method_69_code, exceptionTable := #[], attributes := #[] }
def k17m2 : Method := { name := "min", desc := "(II)I", sig := { parameters := [.int, .int], returnType := some .int }, accessFlags := 9, code := some k17c2 }
/-- java/lang/Math -/
def k17 : Class := { plain "java/lang/Math" (some 0) with
  accessFlags := 49
  interfaces := #[]
  cf := some (fileOf pool17 1 #[.nestMembers #[98]] #[{ accessFlags := 2, nameIndex := 7, descriptorIndex := 8, attributes := #[] }, { accessFlags := 9, nameIndex := 198, descriptorIndex := 335, attributes := #[] }, { accessFlags := 9, nameIndex := 201, descriptorIndex := 335, attributes := #[] }] 49 4 #[] #[{ accessFlags := 25, nameIndex := 354, descriptorIndex := 339, attributes := #[] }, { accessFlags := 25, nameIndex := 358, descriptorIndex := 339, attributes := #[] }, { accessFlags := 25, nameIndex := 361, descriptorIndex := 339, attributes := #[] }, { accessFlags := 26, nameIndex := 364, descriptorIndex := 339, attributes := #[] }, { accessFlags := 26, nameIndex := 365, descriptorIndex := 339, attributes := #[] }, { accessFlags := 26, nameIndex := 172, descriptorIndex := 173, attributes := #[] }, { accessFlags := 26, nameIndex := 176, descriptorIndex := 173, attributes := #[] }, { accessFlags := 8, nameIndex := 344, descriptorIndex := 339, attributes := #[] }, { accessFlags := 8, nameIndex := 338, descriptorIndex := 339, attributes := #[] }, { accessFlags := 4120, nameIndex := 245, descriptorIndex := 246, attributes := #[] }])
  fields := #[{ name := "E", type := .double, accessFlags := 25, slot := 0, constantValue := 0 }, { name := "PI", type := .double, accessFlags := 25, slot := 1, constantValue := 0 }, { name := "TAU", type := .double, accessFlags := 25, slot := 2, constantValue := 0 }, { name := "DEGREES_TO_RADIANS", type := .double, accessFlags := 26, slot := 3, constantValue := 0 }, { name := "RADIANS_TO_DEGREES", type := .double, accessFlags := 26, slot := 4, constantValue := 0 }, { name := "negativeZeroFloatBits", type := .long, accessFlags := 26, slot := 5, constantValue := 0 }, { name := "negativeZeroDoubleBits", type := .long, accessFlags := 26, slot := 6, constantValue := 0 }, { name := "twoToTheDoubleScaleUp", type := .double, accessFlags := 8, slot := 7, constantValue := 0 }, { name := "twoToTheDoubleScaleDown", type := .double, accessFlags := 8, slot := 8, constantValue := 0 }, { name := "$assertionsDisabled", type := .boolean, accessFlags := 4120, slot := 9, constantValue := 0 }]
  methods := #[k17m0, k17m1, k17m2]
  instanceTypes := #[]
  staticTypes := #[.double, .double, .double, .double, .double, .long, .long, .double, .double, .boolean]
  resolved := Array.replicate 460 none
  statics := none }

def pool18 : Array CpInfo := pool [(1, .class_ 2), (0, u "java/lang/String"), (1, .class_ 6), (1, u "java/lang/Object"), (0, u "<init>"), (0, u "()V"), (0, .methodref 1 10), (0, .nameAndType 11 12), (0, u "checkIndex"), (0, u "(II)V"), (1, .class_ 16), (1, u "java/lang/StringLatin1"), (36, u "([BI)C"), (67, u "$assertionsDisabled"), (0, u "Z"), (98, .class_ 223), (1, u "java/lang/StringLatin1$LinesSpliterator"), (28, u "charAt"), (137, .class_ 391), (0, u "java/lang/StringLatin1$CharsSpliterator")] 3

def k18m0 : Method := { name := "<init>", desc := "()V", sig := { parameters := [], returnType := none }, accessFlags := 0, code := none }
def k18c1 : Code := { maxStack := 2, maxLocals := 2, code := jdk_43_method_2_code, exceptionTable := #[], attributes := #[] }
def k18m1 : Method := { name := "charAt", desc := "([BI)C", sig := { parameters := [(.array .byte), .int], returnType := some .char }, accessFlags := 9, code := some k18c1 }
/-- java/lang/StringLatin1 -/
def k18 : Class := { plain "java/lang/StringLatin1" (some 0) with
  accessFlags := 48
  interfaces := #[]
  cf := some (fileOf pool18 14 #[.nestMembers #[390, 221]] #[{ accessFlags := 0, nameIndex := 7, descriptorIndex := 8, attributes := #[] }, { accessFlags := 9, nameIndex := 252, descriptorIndex := 53, attributes := #[] }] 48 4 #[] #[{ accessFlags := 4120, nameIndex := 121, descriptorIndex := 122, attributes := #[] }])
  fields := #[{ name := "$assertionsDisabled", type := .boolean, accessFlags := 4120, slot := 0, constantValue := 0 }]
  methods := #[k18m0, k18m1]
  instanceTypes := #[]
  staticTypes := #[.boolean]
  resolved := Array.replicate 395 none
  statics := none }

def pool19 : Array CpInfo := pool [(2, .class_ 4), (1, u "java/lang/Object"), (0, u "<init>"), (0, u "()V"), (17, .class_ 26), (1, u "jdk/internal/util/Preconditions"), (6, u "checkIndex"), (21, .class_ 56), (0, u "jdk/internal/util/Preconditions$4"), (57, .class_ 115), (0, u "jdk/internal/util/Preconditions$1"), (7, u "SIOOBE_FORMATTER"), (0, u "Ljava/util/function/BiFunction;"), (0, .class_ 126), (0, u "jdk/internal/util/Preconditions$2"), (3, u "AIOOBE_FORMATTER"), (0, .class_ 132), (0, u "jdk/internal/util/Preconditions$3"), (3, u "IOOBE_FORMATTER"), (41, u "(IILjava/util/function/BiFunction;)I")] 15

def k19m0 : Method := { name := "<init>", desc := "()V", sig := { parameters := [], returnType := none }, accessFlags := 1, code := none }
def k19c1 : Code := { maxStack := 3, maxLocals := 3, code := jdk_41_method_11_code, exceptionTable := #[], attributes := #[] }
def k19m1 : Method := { name := "checkIndex", desc := "(IILjava/util/function/BiFunction;)I", sig := { parameters := [.int, .int, (.object "java/util/function/BiFunction")], returnType := some .int }, accessFlags := 9, code := some k19c1 }
/-- jdk/internal/util/Preconditions -/
def k19 : Class := { plain "jdk/internal/util/Preconditions" (some 0) with
  accessFlags := 33
  interfaces := #[]
  cf := some (fileOf pool19 24 #[.nestMembers #[55, 131, 125, 114]] #[{ accessFlags := 1, nameIndex := 5, descriptorIndex := 6, attributes := #[] }, { accessFlags := 9, nameIndex := 33, descriptorIndex := 178, attributes := #[] }] 33 2 #[] #[{ accessFlags := 25, nameIndex := 123, descriptorIndex := 124, attributes := #[] }, { accessFlags := 25, nameIndex := 130, descriptorIndex := 124, attributes := #[] }, { accessFlags := 25, nameIndex := 136, descriptorIndex := 124, attributes := #[] }])
  fields := #[{ name := "SIOOBE_FORMATTER", type := (.object "java/util/function/BiFunction"), accessFlags := 25, slot := 0, constantValue := 0 }, { name := "AIOOBE_FORMATTER", type := (.object "java/util/function/BiFunction"), accessFlags := 25, slot := 1, constantValue := 0 }, { name := "IOOBE_FORMATTER", type := (.object "java/util/function/BiFunction"), accessFlags := 25, slot := 2, constantValue := 0 }]
  methods := #[k19m0, k19m1]
  instanceTypes := #[]
  staticTypes := #[(.object "java/util/function/BiFunction"), (.object "java/util/function/BiFunction"), (.object "java/util/function/BiFunction")]
  resolved := Array.replicate 194 none
  statics := some 2 }

def pool20 : Array CpInfo := pool [(6, .class_ 8), (1, u "java/lang/Object"), (0, u "<init>"), (0, u "()V"), (1, .class_ 14), (1, u "java/lang/StringUTF16"), (31, u "$assertionsDisabled"), (0, u "Z"), (13, u "HI_BYTE_SHIFT"), (0, u "I"), (2, u "LO_BYTE_SHIFT"), (49, .methodref 12 116), (0, .nameAndType 117 118), (0, u "compress"), (0, u "([CI[BII)I"), (3, u "([CII)[B"), (138, u "coderFromArrayLen"), (0, u "([BI)B"), (106, .class_ 371), (1, u "java/lang/StringUTF16$LinesSpliterator"), (58, u "MAX_LENGTH"), (196, .class_ 628), (0, u "java/lang/StringUTF16$CodePointsSpliterator"), (0, .class_ 630), (0, u "java/lang/StringUTF16$CharsSpliterator")] 4

def k20m0 : Method := { name := "<init>", desc := "()V", sig := { parameters := [], returnType := none }, accessFlags := 0, code := none }
def k20c1 : Code := { maxStack := 2, maxLocals := 2, code := jdk_52_method_15_code, exceptionTable := #[], attributes := #[] }
def k20m1 : Method := { name := "coderFromArrayLen", desc := "([BI)B", sig := { parameters := [(.array .byte), .int], returnType := some .byte }, accessFlags := 8, code := some k20c1 }
def k20c2 : Code := { maxStack := 5, maxLocals := 6, code := jdk_52_method_16_code, exceptionTable := #[], attributes := #[] }
def k20m2 : Method := { name := "compress", desc := "([CII)[B", sig := { parameters := [(.array .char), .int, .int], returnType := some (.array .byte) }, accessFlags := 9, code := some k20c2 }
def k20c3 : Code := { maxStack := 3, maxLocals := 7, code := jdk_52_method_21_code, exceptionTable := #[], attributes := #[] }
def k20m3 : Method := { name := "compress", desc := "([CI[BII)I", sig := { parameters := [(.array .char), .int, (.array .byte), .int, .int], returnType := some .int }, accessFlags := 9, code := some k20c3 }
/-- java/lang/StringUTF16 -/
def k20 : Class := { plain "java/lang/StringUTF16" (some 0) with
  accessFlags := 48
  interfaces := #[]
  cf := some (fileOf pool20 12 #[.nestMembers #[627, 629, 369]] #[{ accessFlags := 0, nameIndex := 9, descriptorIndex := 10, attributes := #[] }, { accessFlags := 8, nameIndex := 261, descriptorIndex := 262, attributes := #[] }, { accessFlags := 9, nameIndex := 117, descriptorIndex := 122, attributes := #[] }, { accessFlags := 9, nameIndex := 117, descriptorIndex := 118, attributes := #[] }] 48 6 #[] #[{ accessFlags := 26, nameIndex := 61, descriptorIndex := 62, attributes := #[] }, { accessFlags := 26, nameIndex := 65, descriptorIndex := 62, attributes := #[] }, { accessFlags := 24, nameIndex := 430, descriptorIndex := 62, attributes := #[] }, { accessFlags := 4120, nameIndex := 46, descriptorIndex := 47, attributes := #[] }])
  fields := #[{ name := "HI_BYTE_SHIFT", type := .int, accessFlags := 26, slot := 0, constantValue := 0 }, { name := "LO_BYTE_SHIFT", type := .int, accessFlags := 26, slot := 1, constantValue := 0 }, { name := "MAX_LENGTH", type := .int, accessFlags := 24, slot := 2, constantValue := 0 }, { name := "$assertionsDisabled", type := .boolean, accessFlags := 4120, slot := 3, constantValue := 0 }]
  methods := #[k20m0, k20m1, k20m2, k20m3]
  instanceTypes := #[]
  staticTypes := #[.int, .int, .int, .boolean]
  resolved := Array.replicate 635 none
  statics := none }

def pool21 : Array CpInfo := pool [(9, u "<init>"), (6, .class_ 18), (1, u "java/lang/Object"), (0, u "()V"), (1, .class_ 23), (1, u "jdk/internal/util/ArraysSupport"), (0, u "LOG2_ARRAY_LONG_INDEX_SCALE"), (0, u "I"), (2, u "U"), (0, u "Ljdk/internal/misc/Unsafe;"), (8, u "BIG_ENDIAN"), (0, u "Z"), (8, u "LOG2_BYTE_BIT_SIZE"), (4, u "LOG2_ARRAY_INT_INDEX_SCALE"), (54, u "JLA"), (0, u "Ljdk/internal/access/JavaLangAccess;"), (11, u "LOG2_ARRAY_BOOLEAN_INDEX_SCALE"), (9, u "LOG2_ARRAY_BYTE_INDEX_SCALE"), (5, u "LOG2_ARRAY_CHAR_INDEX_SCALE"), (5, u "LOG2_ARRAY_SHORT_INDEX_SCALE"), (18, u "LOG2_ARRAY_FLOAT_INDEX_SCALE"), (24, u "LOG2_ARRAY_DOUBLE_INDEX_SCALE"), (6, .methodref 195 196), (0, .class_ 197), (0, .nameAndType 198 199), (0, u "java/lang/Math"), (0, u "max"), (0, u "(II)I"), (0, .integer 2147483639), (76, u "T_BOOLEAN"), (2, u "T_CHAR"), (1, u "T_FLOAT"), (1, u "T_DOUBLE"), (1, u "T_BYTE"), (1, u "T_SHORT"), (1, u "T_INT"), (1, u "T_LONG"), (1, u "SOFT_MAX_ARRAY_LENGTH"), (56, u "newLength"), (0, u "(III)I")] 25

def k21m0 : Method := { name := "<init>", desc := "()V", sig := { parameters := [], returnType := none }, accessFlags := 2, code := none }
def k21c1 : Code := { maxStack := 3, maxLocals := 4, code := jdk_48_method_27_code, exceptionTable := #[], attributes := #[] }
def k21m1 : Method := { name := "newLength", desc := "(III)I", sig := { parameters := [.int, .int, .int], returnType := some .int }, accessFlags := 9, code := some k21c1 }
/-- jdk/internal/util/ArraysSupport -/
def k21 : Class := { plain "jdk/internal/util/ArraysSupport" (some 0) with
  accessFlags := 33
  interfaces := #[]
  cf := some (fileOf pool21 21 #[] #[{ accessFlags := 2, nameIndex := 9, descriptorIndex := 19, attributes := #[] }, { accessFlags := 9, nameIndex := 351, descriptorIndex := 352, attributes := #[] }] 33 16 #[] #[{ accessFlags := 24, nameIndex := 28, descriptorIndex := 29, attributes := #[] }, { accessFlags := 26, nameIndex := 38, descriptorIndex := 39, attributes := #[] }, { accessFlags := 25, nameIndex := 121, descriptorIndex := 25, attributes := #[] }, { accessFlags := 25, nameIndex := 131, descriptorIndex := 25, attributes := #[] }, { accessFlags := 25, nameIndex := 137, descriptorIndex := 25, attributes := #[] }, { accessFlags := 25, nameIndex := 143, descriptorIndex := 25, attributes := #[] }, { accessFlags := 25, nameIndex := 53, descriptorIndex := 25, attributes := #[] }, { accessFlags := 25, nameIndex := 24, descriptorIndex := 25, attributes := #[] }, { accessFlags := 25, nameIndex := 162, descriptorIndex := 25, attributes := #[] }, { accessFlags := 25, nameIndex := 187, descriptorIndex := 25, attributes := #[] }, { accessFlags := 26, nameIndex := 48, descriptorIndex := 25, attributes := #[] }, { accessFlags := 25, nameIndex := 277, descriptorIndex := 25, attributes := #[] }, { accessFlags := 25, nameIndex := 280, descriptorIndex := 25, attributes := #[] }, { accessFlags := 25, nameIndex := 282, descriptorIndex := 25, attributes := #[] }, { accessFlags := 25, nameIndex := 284, descriptorIndex := 25, attributes := #[] }, { accessFlags := 25, nameIndex := 286, descriptorIndex := 25, attributes := #[] }, { accessFlags := 25, nameIndex := 288, descriptorIndex := 25, attributes := #[] }, { accessFlags := 25, nameIndex := 290, descriptorIndex := 25, attributes := #[] }, { accessFlags := 25, nameIndex := 292, descriptorIndex := 25, attributes := #[] }, { accessFlags := 26, nameIndex := 108, descriptorIndex := 109, attributes := #[] }, { accessFlags := 25, nameIndex := 294, descriptorIndex := 25, attributes := #[] }])
  fields := #[{ name := "U", type := (.object "jdk/internal/misc/Unsafe"), accessFlags := 24, slot := 0, constantValue := 0 }, { name := "BIG_ENDIAN", type := .boolean, accessFlags := 26, slot := 1, constantValue := 0 }, { name := "LOG2_ARRAY_BOOLEAN_INDEX_SCALE", type := .int, accessFlags := 25, slot := 2, constantValue := 0 }, { name := "LOG2_ARRAY_BYTE_INDEX_SCALE", type := .int, accessFlags := 25, slot := 3, constantValue := 0 }, { name := "LOG2_ARRAY_CHAR_INDEX_SCALE", type := .int, accessFlags := 25, slot := 4, constantValue := 0 }, { name := "LOG2_ARRAY_SHORT_INDEX_SCALE", type := .int, accessFlags := 25, slot := 5, constantValue := 0 }, { name := "LOG2_ARRAY_INT_INDEX_SCALE", type := .int, accessFlags := 25, slot := 6, constantValue := 0 }, { name := "LOG2_ARRAY_LONG_INDEX_SCALE", type := .int, accessFlags := 25, slot := 7, constantValue := 0 }, { name := "LOG2_ARRAY_FLOAT_INDEX_SCALE", type := .int, accessFlags := 25, slot := 8, constantValue := 0 }, { name := "LOG2_ARRAY_DOUBLE_INDEX_SCALE", type := .int, accessFlags := 25, slot := 9, constantValue := 0 }, { name := "LOG2_BYTE_BIT_SIZE", type := .int, accessFlags := 26, slot := 10, constantValue := 0 }, { name := "T_BOOLEAN", type := .int, accessFlags := 25, slot := 11, constantValue := 0 }, { name := "T_CHAR", type := .int, accessFlags := 25, slot := 12, constantValue := 0 }, { name := "T_FLOAT", type := .int, accessFlags := 25, slot := 13, constantValue := 0 }, { name := "T_DOUBLE", type := .int, accessFlags := 25, slot := 14, constantValue := 0 }, { name := "T_BYTE", type := .int, accessFlags := 25, slot := 15, constantValue := 0 }, { name := "T_SHORT", type := .int, accessFlags := 25, slot := 16, constantValue := 0 }, { name := "T_INT", type := .int, accessFlags := 25, slot := 17, constantValue := 0 }, { name := "T_LONG", type := .int, accessFlags := 25, slot := 18, constantValue := 0 }, { name := "JLA", type := (.object "jdk/internal/access/JavaLangAccess"), accessFlags := 26, slot := 19, constantValue := 0 }, { name := "SOFT_MAX_ARRAY_LENGTH", type := .int, accessFlags := 25, slot := 20, constantValue := 0 }]
  methods := #[k21m0, k21m1]
  instanceTypes := #[]
  staticTypes := #[(.object "jdk/internal/misc/Unsafe"), .boolean, .int, .int, .int, .int, .int, .int, .int, .int, .int, .int, .int, .int, .int, .int, .int, .int, .int, (.object "jdk/internal/access/JavaLangAccess"), .int]
  resolved := Array.replicate 378 none
  statics := none }

def pool22 : Array CpInfo := pool [(1, .class_ 2), (0, u "java/lang/Cloneable"), (0, .class_ 4), (0, u "java/lang/Object")] 2

/-- java/lang/Cloneable -/
def k22 : Class := { plain "java/lang/Cloneable" (some 0) with
  accessFlags := 1537
  interfaces := #[]
  cf := some (fileOf pool22 1 #[] #[] 1537 3 #[] #[])
  fields := #[]
  methods := #[]
  instanceTypes := #[]
  staticTypes := #[]
  resolved := Array.replicate 7 none
  statics := none }

/-- the primitive byte -/
def k23 : Class := { plain "byte" none with kind := .primitive 'B', accessFlags := 0x411 }
/-- [B -/
def k24 : Class := { plain "[B" (some 0) with kind := .array 23 .byte, interfaces := #[22, 2], accessFlags := 1041 }

/-- the primitive char -/
def k25 : Class := { plain "char" none with kind := .primitive 'C', accessFlags := 0x411 }
/-- [C -/
def k26 : Class := { plain "[C" (some 0) with kind := .array 25 .char, interfaces := #[22, 2], accessFlags := 1041 }

/-- the primitive int -/
def k27 : Class := { plain "int" none with kind := .primitive 'I', accessFlags := 0x411 }
/-- [I -/
def k28 : Class := { plain "[I" (some 0) with kind := .array 27 .int, interfaces := #[22, 2], accessFlags := 1041 }

def heap : Heap := #[{ cls := 7, slots := #[.long 0, .int 1, .null, .int 0, .null, .int 0, .int 0], vm := .statics 7 },
  { cls := 15, slots := #[.int 0, .int 0, .null, .null, .ref 4, .ref 3, .int 0, .int 0, .long 0], vm := .statics 15 },
  { cls := 19, slots := #[.null, .null, .null], vm := .statics 19 },
  { cls := 24, slots := #[.int 48, .int 49, .int 50, .int 51, .int 52, .int 53, .int 54, .int 55, .int 56, .int 57, .int 48, .int 49, .int 50, .int 51, .int 52, .int 53, .int 54, .int 55, .int 56, .int 57, .int 48, .int 49, .int 50, .int 51, .int 52, .int 53, .int 54, .int 55, .int 56, .int 57, .int 48, .int 49, .int 50, .int 51, .int 52, .int 53, .int 54, .int 55, .int 56, .int 57, .int 48, .int 49, .int 50, .int 51, .int 52, .int 53, .int 54, .int 55, .int 56, .int 57, .int 48, .int 49, .int 50, .int 51, .int 52, .int 53, .int 54, .int 55, .int 56, .int 57, .int 48, .int 49, .int 50, .int 51, .int 52, .int 53, .int 54, .int 55, .int 56, .int 57, .int 48, .int 49, .int 50, .int 51, .int 52, .int 53, .int 54, .int 55, .int 56, .int 57, .int 48, .int 49, .int 50, .int 51, .int 52, .int 53, .int 54, .int 55, .int 56, .int 57, .int 48, .int 49, .int 50, .int 51, .int 52, .int 53, .int 54, .int 55, .int 56, .int 57], vm := .none },
  { cls := 24, slots := #[.int 48, .int 48, .int 48, .int 48, .int 48, .int 48, .int 48, .int 48, .int 48, .int 48, .int 49, .int 49, .int 49, .int 49, .int 49, .int 49, .int 49, .int 49, .int 49, .int 49, .int 50, .int 50, .int 50, .int 50, .int 50, .int 50, .int 50, .int 50, .int 50, .int 50, .int 51, .int 51, .int 51, .int 51, .int 51, .int 51, .int 51, .int 51, .int 51, .int 51, .int 52, .int 52, .int 52, .int 52, .int 52, .int 52, .int 52, .int 52, .int 52, .int 52, .int 53, .int 53, .int 53, .int 53, .int 53, .int 53, .int 53, .int 53, .int 53, .int 53, .int 54, .int 54, .int 54, .int 54, .int 54, .int 54, .int 54, .int 54, .int 54, .int 54, .int 55, .int 55, .int 55, .int 55, .int 55, .int 55, .int 55, .int 55, .int 55, .int 55, .int 56, .int 56, .int 56, .int 56, .int 56, .int 56, .int 56, .int 56, .int 56, .int 56, .int 57, .int 57, .int 57, .int 57, .int 57, .int 57, .int 57, .int 57, .int 57, .int 57], vm := .none }]
def classes : Array Class := #[k0, k1, k2, k3, k4, k5, k6, k7, k8, k9, k10, k11, k12, k13, k14, k15, k16, k17, k18, k19, k20, k21, k22, k23, k24, k25, k26, k27, k28]
def interned : List (Array UInt16 × Addr) := []
def slotsUsed : Nat := 219
def theMethod : MethodId := ⟨1, 1⟩
def args0 : Array Value := #[.int 5, .int 6, .int 7]
def aboutOver (below : List Frame) : State where
  vm := { classes := classes, interned := interned.toArray }
  heap := heap
  slotsUsed := slotsUsed
  threads := #[{ frames := .invoking theMethod args0 :: below }]
def below0 : List Frame := [.native { method := ⟨0, 0⟩, args := #[] }]
def about1 : State := aboutOver below0
def p0 : Program := .bare "" "" ""
def e0 : Env := launch0.env 0 0 0
theorem w_frames : about1.frames = Frame.invoking theMethod args0 :: below0 := rfl
set_option maxRecDepth 65536 in
theorem w_args : argsFit about1.vm theMethod args0 = true := by decide +kernel
set_option maxRecDepth 65536 in
theorem w_heap : heapFits about1 = true := by decide +kernel
set_option maxRecDepth 65536 in
theorem w_runnable : about1.curStatus? = some .runnable := by decide +kernel
set_option maxRecDepth 65536 in
theorem w_alone : about1.alone = true := by decide +kernel
set_option maxRecDepth 65536 in
theorem w_named : about1.methodNamed? x = some theMethod := by decide +kernel
set_option maxRecDepth 65536 in
theorem w_hears : about1.hears theMethod below0 = true := by decide +kernel
set_option maxRecDepth 65536 in
theorem w_ripe : about1.ripe theMethod args0 below0 = true := by decide +kernel
theorem w_running : about1.status = .running := rfl
set_option maxRecDepth 65536 in
theorem w_room : about1.hasRoom e0.platform room_1 = true :=
  launch0.hasRoom_least _ room_1 (by decide +kernel) (by decide +kernel) (by decide +kernel) (by decide +kernel) (by decide +kernel) (by decide +kernel)
theorem allAtoms_all (ts : List Jvm.Cond) (a : Array Jvm.Value) (st : Jvm.State) : (allAtoms ts).before a st = ts.all (fun c => c.before a st) := by
  induction ts with
  | nil => rfl
  | cons c t ih =>
    show (Jvm.Cond.and c (allAtoms t)).before a st = _
    rw [Jvm.Cond.before_and, ih, List.all_cons]
def words1 : List Jvm.Cond := Jvm.Cond.code x code maxLocals ret :: tables_1
/-- a 'code' word, met by the world's own term for the bytes: nothing is compared byte by byte -/
theorem code_word {y : MethodName} {bytes : ByteArray} {mx : Nat} {rt : Option FieldType} {a : Array Value} {s : State} {m : MethodId} {meth : Method} {c : Code} (h1 : s.methodNamed? y = some m) (h2 : s.vm.method? m = some meth) (h3 : meth.code = some c) (h4 : c.code = bytes)
    (h5 : (c.maxLocals == mx && c.exceptionTable.isEmpty && decide (c.maxStack ≤ mostOperands) && decide (meth.sig.returnType = rt) && !meth.locks && decide (parseMethodDescriptor y.desc = some meth.sig)) = true) : (Jvm.Cond.code y bytes mx rt).before a s = true := by
  simp only [Bool.and_eq_true, beq_iff_eq, Bool.not_eq_true', decide_eq_true_eq] at h5
  obtain ⟨⟨⟨⟨⟨g1, g2⟩, g3⟩, g4⟩, g5⟩, g6⟩ := h5
  simp [Cond.before, Cond.holds, Cond.value, h1, h2, h3, h4, g1, g2, g3, g4, g5, g6]
def isCode : Jvm.Cond → Bool
  | .code _ _ _ _ => true
  | _ => false
theorem all_split {L : List Jvm.Cond} {P : Jvm.Cond → Bool} (h1 : L.all (fun c => isCode c || P c) = true) (h2 : ∀ c ∈ L.filter isCode, P c = true) : L.all P = true := by
  refine List.all_eq_true.mpr fun c hc => ?_
  have h := List.all_eq_true.mp h1 c hc
  rcases Bool.eq_false_or_eq_true (isCode c) with hi | hi
  · exact h2 c (List.mem_filter.mpr ⟨hc, hi⟩)
  · simpa [hi] using h
set_option maxRecDepth 65536 in
theorem w_c0 : (Jvm.Cond.code x code maxLocals ret).before args0 about1 = true := code_word (m := ⟨1, 1⟩) (meth := k1m1) (c := k1c1) (by decide +kernel) rfl rfl rfl (by decide +kernel)
set_option maxRecDepth 65536 in
theorem w_c1 : (Jvm.Cond.code ({ cls := "com/example/guide/guide/io/FlowProblemToStringPinLaw", name := "mk", desc := "(ICCC)Ljava/lang/String;" } : Jvm.MethodName) method_3_code (4 : Nat) (Option.some (Jvm.ClassFile.FieldType.object "java/lang/String"))).before args0 about1 = true := code_word (m := ⟨1, 2⟩) (meth := k1m2) (c := k1c2) (by decide +kernel) rfl rfl rfl (by decide +kernel)
set_option maxRecDepth 65536 in
theorem w_c2 : (Jvm.Cond.code ({ cls := "java/lang/String", name := "<init>", desc := "([C)V" } : Jvm.MethodName) jdk_42_method_3_code (2 : Nat) (Option.none : Option Jvm.ClassFile.FieldType)).before args0 about1 = true := code_word (m := ⟨7, 1⟩) (meth := k7m1) (c := k7c1) (by decide +kernel) rfl rfl rfl (by decide +kernel)
set_option maxRecDepth 65536 in
theorem w_c3 : (Jvm.Cond.code ({ cls := "java/lang/String", name := "<init>", desc := "([CIILjava/lang/Void;)V" } : Jvm.MethodName) jdk_42_method_149_code (6 : Nat) (Option.none : Option Jvm.ClassFile.FieldType)).before args0 about1 = true := code_word (m := ⟨7, 6⟩) (meth := k7m6) (c := k7c6) (by decide +kernel) rfl rfl rfl (by decide +kernel)
set_option maxRecDepth 65536 in
theorem w_c4 : (Jvm.Cond.code ({ cls := "java/lang/Object", name := "<init>", desc := "()V" } : Jvm.MethodName) object_method_1_code (1 : Nat) (Option.none : Option Jvm.ClassFile.FieldType)).before args0 about1 = true := code_word (m := ⟨0, 0⟩) (meth := k0m0) (c := k0c0) (by decide +kernel) rfl rfl rfl (by decide +kernel)
set_option maxRecDepth 65536 in
theorem w_c5 : (Jvm.Cond.code ({ cls := "com/example/guide/guide/io/FlowProblem", name := "<init>", desc := "(Ljava/lang/String;ILjava/lang/String;)V" } : Jvm.MethodName) prog_30_method_1_code (4 : Nat) (Option.none : Option Jvm.ClassFile.FieldType)).before args0 about1 = true := code_word (m := ⟨8, 0⟩) (meth := k8m0) (c := k8c0) (by decide +kernel) rfl rfl rfl (by decide +kernel)
set_option maxRecDepth 65536 in
theorem w_c6 : (Jvm.Cond.code ({ cls := "java/util/Objects", name := "requireNonNull", desc := "(Ljava/lang/Object;Ljava/lang/String;)Ljava/lang/Object;" } : Jvm.MethodName) jdk_31_method_11_code (2 : Nat) (Option.some (Jvm.ClassFile.FieldType.object "java/lang/Object"))).before args0 about1 = true := code_word (m := ⟨9, 1⟩) (meth := k9m1) (c := k9c1) (by decide +kernel) rfl rfl rfl (by decide +kernel)
set_option maxRecDepth 65536 in
theorem w_c7 : (Jvm.Cond.code ({ cls := "com/example/guide/guide/io/FlowProblemToStringPinLaw", name := "digits", desc := "(I)I" } : Jvm.MethodName) method_4_code (1 : Nat) (Option.some Jvm.ClassFile.FieldType.int)).before args0 about1 = true := code_word (m := ⟨1, 3⟩) (meth := k1m3) (c := k1c3) (by decide +kernel) rfl rfl rfl (by decide +kernel)
set_option maxRecDepth 65536 in
theorem w_c8 : (Jvm.Cond.code ({ cls := "com/example/guide/guide/io/FlowProblemToStringPinLaw", name := "dig", desc := "(II)C" } : Jvm.MethodName) method_5_code (3 : Nat) (Option.some Jvm.ClassFile.FieldType.char)).before args0 about1 = true := code_word (m := ⟨1, 4⟩) (meth := k1m4) (c := k1c4) (by decide +kernel) rfl rfl rfl (by decide +kernel)
set_option maxRecDepth 65536 in
theorem w_c9 : (Jvm.Cond.code ({ cls := "com/example/guide/guide/io/FlowProblem", name := "toString", desc := "()Ljava/lang/String;" } : Jvm.MethodName) prog_30_method_5_code (1 : Nat) (Option.some (Jvm.ClassFile.FieldType.object "java/lang/String"))).before args0 about1 = true := code_word (m := ⟨8, 1⟩) (meth := k8m1) (c := k8c1) (by decide +kernel) rfl rfl rfl (by decide +kernel)
set_option maxRecDepth 65536 in
theorem w_c10 : (Jvm.Cond.code ({ cls := "java/lang/StringBuilder", name := "<init>", desc := "()V" } : Jvm.MethodName) jdk_67_method_1_code (1 : Nat) (Option.none : Option Jvm.ClassFile.FieldType)).before args0 about1 = true := code_word (m := ⟨12, 0⟩) (meth := k12m0) (c := k12c0) (by decide +kernel) rfl rfl rfl (by decide +kernel)
set_option maxRecDepth 65536 in
theorem w_c11 : (Jvm.Cond.code ({ cls := "java/lang/AbstractStringBuilder", name := "<init>", desc := "(I)V" } : Jvm.MethodName) jdk_68_method_2_code (2 : Nat) (Option.none : Option Jvm.ClassFile.FieldType)).before args0 about1 = true := code_word (m := ⟨11, 1⟩) (meth := k11m1) (c := k11c1) (by decide +kernel) rfl rfl rfl (by decide +kernel)
set_option maxRecDepth 65536 in
theorem w_c12 : (Jvm.Cond.code ({ cls := "java/lang/StringBuilder", name := "append", desc := "(Ljava/lang/String;)Ljava/lang/StringBuilder;" } : Jvm.MethodName) jdk_67_method_7_code (2 : Nat) (Option.some (Jvm.ClassFile.FieldType.object "java/lang/StringBuilder"))).before args0 about1 = true := code_word (m := ⟨12, 1⟩) (meth := k12m1) (c := k12c1) (by decide +kernel) rfl rfl rfl (by decide +kernel)
set_option maxRecDepth 65536 in
theorem w_c13 : (Jvm.Cond.code ({ cls := "java/lang/AbstractStringBuilder", name := "append", desc := "(Ljava/lang/String;)Ljava/lang/AbstractStringBuilder;" } : Jvm.MethodName) jdk_68_method_22_code (3 : Nat) (Option.some (Jvm.ClassFile.FieldType.object "java/lang/AbstractStringBuilder"))).before args0 about1 = true := code_word (m := ⟨11, 5⟩) (meth := k11m5) (c := k11c5) (by decide +kernel) rfl rfl rfl (by decide +kernel)
set_option maxRecDepth 65536 in
theorem w_c14 : (Jvm.Cond.code ({ cls := "java/lang/String", name := "length", desc := "()I" } : Jvm.MethodName) jdk_42_method_54_code (1 : Nat) (Option.some Jvm.ClassFile.FieldType.int)).before args0 about1 = true := code_word (m := ⟨7, 3⟩) (meth := k7m3) (c := k7c3) (by decide +kernel) rfl rfl rfl (by decide +kernel)
set_option maxRecDepth 65536 in
theorem w_c15 : (Jvm.Cond.code ({ cls := "java/lang/String", name := "coder", desc := "()B" } : Jvm.MethodName) jdk_42_method_152_code (1 : Nat) (Option.some Jvm.ClassFile.FieldType.byte)).before args0 about1 = true := code_word (m := ⟨7, 8⟩) (meth := k7m8) (c := k7c8) (by decide +kernel) rfl rfl rfl (by decide +kernel)
set_option maxRecDepth 65536 in
theorem w_c16 : (Jvm.Cond.code ({ cls := "java/lang/AbstractStringBuilder", name := "ensureCapacityInternal", desc := "(I)V" } : Jvm.MethodName) jdk_68_method_9_code (3 : Nat) (Option.none : Option Jvm.ClassFile.FieldType)).before args0 about1 = true := code_word (m := ⟨11, 3⟩) (meth := k11m3) (c := k11c3) (by decide +kernel) rfl rfl rfl (by decide +kernel)
set_option maxRecDepth 65536 in
theorem w_c17 : (Jvm.Cond.code ({ cls := "java/lang/AbstractStringBuilder", name := "putStringAt", desc := "(ILjava/lang/String;)V" } : Jvm.MethodName) jdk_68_method_73_code (3 : Nat) (Option.none : Option Jvm.ClassFile.FieldType)).before args0 about1 = true := code_word (m := ⟨11, 10⟩) (meth := k11m10) (c := k11c10) (by decide +kernel) rfl rfl rfl (by decide +kernel)
set_option maxRecDepth 65536 in
theorem w_c18 : (Jvm.Cond.code ({ cls := "java/lang/AbstractStringBuilder", name := "inflateIfNeededFor", desc := "(Ljava/lang/String;)V" } : Jvm.MethodName) jdk_68_method_71_code (2 : Nat) (Option.none : Option Jvm.ClassFile.FieldType)).before args0 about1 = true := code_word (m := ⟨11, 9⟩) (meth := k11m9) (c := k11c9) (by decide +kernel) rfl rfl rfl (by decide +kernel)
set_option maxRecDepth 65536 in
theorem w_c19 : (Jvm.Cond.code ({ cls := "java/lang/String", name := "getBytes", desc := "([BIB)V" } : Jvm.MethodName) jdk_42_method_147_code (4 : Nat) (Option.none : Option Jvm.ClassFile.FieldType)).before args0 about1 = true := code_word (m := ⟨7, 5⟩) (meth := k7m5) (c := k7c5) (by decide +kernel) rfl rfl rfl (by decide +kernel)
set_option maxRecDepth 65536 in
theorem w_c20 : (Jvm.Cond.code ({ cls := "java/lang/StringBuilder", name := "append", desc := "(I)Ljava/lang/StringBuilder;" } : Jvm.MethodName) jdk_67_method_15_code (2 : Nat) (Option.some (Jvm.ClassFile.FieldType.object "java/lang/StringBuilder"))).before args0 about1 = true := code_word (m := ⟨12, 2⟩) (meth := k12m2) (c := k12c2) (by decide +kernel) rfl rfl rfl (by decide +kernel)
set_option maxRecDepth 65536 in
theorem w_c21 : (Jvm.Cond.code ({ cls := "java/lang/AbstractStringBuilder", name := "append", desc := "(I)Ljava/lang/AbstractStringBuilder;" } : Jvm.MethodName) jdk_68_method_32_code (4 : Nat) (Option.some (Jvm.ClassFile.FieldType.object "java/lang/AbstractStringBuilder"))).before args0 about1 = true := code_word (m := ⟨11, 6⟩) (meth := k11m6) (c := k11c6) (by decide +kernel) rfl rfl rfl (by decide +kernel)
set_option maxRecDepth 65536 in
theorem w_c22 : (Jvm.Cond.code ({ cls := "java/lang/Integer", name := "stringSize", desc := "(I)I" } : Jvm.MethodName) jdk_33_method_13_code (4 : Nat) (Option.some Jvm.ClassFile.FieldType.int)).before args0 about1 = true := code_word (m := ⟨15, 1⟩) (meth := k15m1) (c := k15c1) (by decide +kernel) rfl rfl rfl (by decide +kernel)
set_option maxRecDepth 65536 in
theorem w_c23 : (Jvm.Cond.code ({ cls := "java/lang/AbstractStringBuilder", name := "isLatin1", desc := "()Z" } : Jvm.MethodName) jdk_68_method_68_code (1 : Nat) (Option.some Jvm.ClassFile.FieldType.boolean)).before args0 about1 = true := code_word (m := ⟨11, 8⟩) (meth := k11m8) (c := k11c8) (by decide +kernel) rfl rfl rfl (by decide +kernel)
set_option maxRecDepth 65536 in
theorem w_c24 : (Jvm.Cond.code ({ cls := "java/lang/Integer", name := "getChars", desc := "(II[B)I" } : Jvm.MethodName) jdk_33_method_12_code (7 : Nat) (Option.some Jvm.ClassFile.FieldType.int)).before args0 about1 = true := code_word (m := ⟨15, 0⟩) (meth := k15m0) (c := k15c0) (by decide +kernel) rfl rfl rfl (by decide +kernel)
set_option maxRecDepth 65536 in
theorem w_c25 : (Jvm.Cond.code ({ cls := "java/lang/StringBuilder", name := "toString", desc := "()Ljava/lang/String;" } : Jvm.MethodName) jdk_67_method_42_code (1 : Nat) (Option.some (Jvm.ClassFile.FieldType.object "java/lang/String"))).before args0 about1 = true := code_word (m := ⟨12, 3⟩) (meth := k12m3) (c := k12c3) (by decide +kernel) rfl rfl rfl (by decide +kernel)
set_option maxRecDepth 65536 in
theorem w_c26 : (Jvm.Cond.code ({ cls := "java/lang/String", name := "<init>", desc := "(Ljava/lang/StringBuilder;)V" } : Jvm.MethodName) jdk_42_method_53_code (2 : Nat) (Option.none : Option Jvm.ClassFile.FieldType)).before args0 about1 = true := code_word (m := ⟨7, 2⟩) (meth := k7m2) (c := k7c2) (by decide +kernel) rfl rfl rfl (by decide +kernel)
set_option maxRecDepth 65536 in
theorem w_c27 : (Jvm.Cond.code ({ cls := "java/lang/String", name := "<init>", desc := "(Ljava/lang/AbstractStringBuilder;Ljava/lang/Void;)V" } : Jvm.MethodName) jdk_42_method_150_code (5 : Nat) (Option.none : Option Jvm.ClassFile.FieldType)).before args0 about1 = true := code_word (m := ⟨7, 7⟩) (meth := k7m7) (c := k7c7) (by decide +kernel) rfl rfl rfl (by decide +kernel)
set_option maxRecDepth 65536 in
theorem w_c28 : (Jvm.Cond.code ({ cls := "java/lang/AbstractStringBuilder", name := "getValue", desc := "()[B" } : Jvm.MethodName) jdk_68_method_64_code (1 : Nat) (Option.some (Jvm.ClassFile.FieldType.array Jvm.ClassFile.FieldType.byte))).before args0 about1 = true := code_word (m := ⟨11, 7⟩) (meth := k11m7) (c := k11c7) (by decide +kernel) rfl rfl rfl (by decide +kernel)
set_option maxRecDepth 65536 in
theorem w_c29 : (Jvm.Cond.code ({ cls := "java/lang/StringBuilder", name := "length", desc := "()I" } : Jvm.MethodName) jdk_67_method_93_code (1 : Nat) (Option.some Jvm.ClassFile.FieldType.int)).before args0 about1 = true := code_word (m := ⟨12, 4⟩) (meth := k12m4) (c := k12c4) (by decide +kernel) rfl rfl rfl (by decide +kernel)
set_option maxRecDepth 65536 in
theorem w_c30 : (Jvm.Cond.code ({ cls := "java/lang/AbstractStringBuilder", name := "length", desc := "()I" } : Jvm.MethodName) jdk_68_method_6_code (1 : Nat) (Option.some Jvm.ClassFile.FieldType.int)).before args0 about1 = true := code_word (m := ⟨11, 2⟩) (meth := k11m2) (c := k11c2) (by decide +kernel) rfl rfl rfl (by decide +kernel)
set_option maxRecDepth 65536 in
theorem w_c31 : (Jvm.Cond.code ({ cls := "java/util/Arrays", name := "copyOfRange", desc := "([BII)[B" } : Jvm.MethodName) jdk_65_method_132_code (3 : Nat) (Option.some (Jvm.ClassFile.FieldType.array Jvm.ClassFile.FieldType.byte))).before args0 about1 = true := code_word (m := ⟨16, 3⟩) (meth := k16m3) (c := k16c3) (by decide +kernel) rfl rfl rfl (by decide +kernel)
set_option maxRecDepth 65536 in
theorem w_c32 : (Jvm.Cond.code ({ cls := "java/util/Arrays", name := "copyOfRangeByte", desc := "([BII)[B" } : Jvm.MethodName) jdk_65_method_133_code (5 : Nat) (Option.some (Jvm.ClassFile.FieldType.array Jvm.ClassFile.FieldType.byte))).before args0 about1 = true := code_word (m := ⟨16, 4⟩) (meth := k16m4) (c := k16c4) (by decide +kernel) rfl rfl rfl (by decide +kernel)
set_option maxRecDepth 65536 in
theorem w_c33 : (Jvm.Cond.code ({ cls := "java/util/Arrays", name := "checkLength", desc := "(II)V" } : Jvm.MethodName) jdk_65_method_131_code (2 : Nat) (Option.none : Option Jvm.ClassFile.FieldType)).before args0 about1 = true := code_word (m := ⟨16, 2⟩) (meth := k16m2) (c := k16c2) (by decide +kernel) rfl rfl rfl (by decide +kernel)
set_option maxRecDepth 65536 in
theorem w_c34 : (Jvm.Cond.code ({ cls := "java/lang/Math", name := "min", desc := "(II)I" } : Jvm.MethodName) jdk_29_method_69_code (2 : Nat) (Option.some Jvm.ClassFile.FieldType.int)).before args0 about1 = true := code_word (m := ⟨17, 2⟩) (meth := k17m2) (c := k17c2) (by decide +kernel) rfl rfl rfl (by decide +kernel)
set_option maxRecDepth 65536 in
theorem w_c35 : (Jvm.Cond.code ({ cls := "com/example/guide/guide/io/FlowProblemToStringPinLaw", name := "five", desc := "(Ljava/lang/String;[CII)Z" } : Jvm.MethodName) method_7_code (4 : Nat) (Option.some Jvm.ClassFile.FieldType.boolean)).before args0 about1 = true := code_word (m := ⟨1, 6⟩) (meth := k1m6) (c := k1c6) (by decide +kernel) rfl rfl rfl (by decide +kernel)
set_option maxRecDepth 65536 in
theorem w_c36 : (Jvm.Cond.code ({ cls := "com/example/guide/guide/io/FlowProblemToStringPinLaw", name := "at", desc := "(Ljava/lang/String;[CII)Z" } : Jvm.MethodName) method_6_code (4 : Nat) (Option.some Jvm.ClassFile.FieldType.boolean)).before args0 about1 = true := code_word (m := ⟨1, 5⟩) (meth := k1m5) (c := k1c5) (by decide +kernel) rfl rfl rfl (by decide +kernel)
set_option maxRecDepth 65536 in
theorem w_c37 : (Jvm.Cond.code ({ cls := "java/lang/String", name := "charAt", desc := "(I)C" } : Jvm.MethodName) jdk_42_method_56_code (2 : Nat) (Option.some Jvm.ClassFile.FieldType.char)).before args0 about1 = true := code_word (m := ⟨7, 4⟩) (meth := k7m4) (c := k7c4) (by decide +kernel) rfl rfl rfl (by decide +kernel)
set_option maxRecDepth 65536 in
theorem w_c38 : (Jvm.Cond.code ({ cls := "java/lang/String", name := "isLatin1", desc := "()Z" } : Jvm.MethodName) jdk_42_method_154_code (1 : Nat) (Option.some Jvm.ClassFile.FieldType.boolean)).before args0 about1 = true := code_word (m := ⟨7, 9⟩) (meth := k7m9) (c := k7c9) (by decide +kernel) rfl rfl rfl (by decide +kernel)
set_option maxRecDepth 65536 in
theorem w_c39 : (Jvm.Cond.code ({ cls := "java/lang/StringLatin1", name := "charAt", desc := "([BI)C" } : Jvm.MethodName) jdk_43_method_2_code (2 : Nat) (Option.some Jvm.ClassFile.FieldType.char)).before args0 about1 = true := code_word (m := ⟨18, 1⟩) (meth := k18m1) (c := k18c1) (by decide +kernel) rfl rfl rfl (by decide +kernel)
set_option maxRecDepth 65536 in
theorem w_c40 : (Jvm.Cond.code ({ cls := "java/lang/String", name := "checkIndex", desc := "(II)V" } : Jvm.MethodName) jdk_42_method_155_code (2 : Nat) (Option.none : Option Jvm.ClassFile.FieldType)).before args0 about1 = true := code_word (m := ⟨7, 10⟩) (meth := k7m10) (c := k7c10) (by decide +kernel) rfl rfl rfl (by decide +kernel)
set_option maxRecDepth 65536 in
theorem w_c41 : (Jvm.Cond.code ({ cls := "jdk/internal/util/Preconditions", name := "checkIndex", desc := "(IILjava/util/function/BiFunction;)I" } : Jvm.MethodName) jdk_41_method_11_code (3 : Nat) (Option.some Jvm.ClassFile.FieldType.int)).before args0 about1 = true := code_word (m := ⟨19, 1⟩) (meth := k19m1) (c := k19c1) (by decide +kernel) rfl rfl rfl (by decide +kernel)
set_option maxRecDepth 65536 in
theorem w_c42 : (Jvm.Cond.code ({ cls := "java/lang/StringUTF16", name := "compress", desc := "([CII)[B" } : Jvm.MethodName) jdk_52_method_16_code (6 : Nat) (Option.some (Jvm.ClassFile.FieldType.array Jvm.ClassFile.FieldType.byte))).before args0 about1 = true := code_word (m := ⟨20, 2⟩) (meth := k20m2) (c := k20c2) (by decide +kernel) rfl rfl rfl (by decide +kernel)
set_option maxRecDepth 65536 in
theorem w_c43 : (Jvm.Cond.code ({ cls := "java/lang/StringUTF16", name := "compress", desc := "([CI[BII)I" } : Jvm.MethodName) jdk_52_method_21_code (7 : Nat) (Option.some Jvm.ClassFile.FieldType.int)).before args0 about1 = true := code_word (m := ⟨20, 3⟩) (meth := k20m3) (c := k20c3) (by decide +kernel) rfl rfl rfl (by decide +kernel)
set_option maxRecDepth 65536 in
theorem w_c44 : (Jvm.Cond.code ({ cls := "java/lang/StringUTF16", name := "coderFromArrayLen", desc := "([BI)B" } : Jvm.MethodName) jdk_52_method_15_code (2 : Nat) (Option.some Jvm.ClassFile.FieldType.byte)).before args0 about1 = true := code_word (m := ⟨20, 1⟩) (meth := k20m1) (c := k20c1) (by decide +kernel) rfl rfl rfl (by decide +kernel)
set_option maxRecDepth 65536 in
theorem w_c45 : (Jvm.Cond.code ({ cls := "java/lang/AbstractStringBuilder", name := "newCapacity", desc := "(I)I" } : Jvm.MethodName) jdk_68_method_10_code (6 : Nat) (Option.some Jvm.ClassFile.FieldType.int)).before args0 about1 = true := code_word (m := ⟨11, 4⟩) (meth := k11m4) (c := k11c4) (by decide +kernel) rfl rfl rfl (by decide +kernel)
set_option maxRecDepth 65536 in
theorem w_c46 : (Jvm.Cond.code ({ cls := "jdk/internal/util/ArraysSupport", name := "newLength", desc := "(III)I" } : Jvm.MethodName) jdk_48_method_27_code (4 : Nat) (Option.some Jvm.ClassFile.FieldType.int)).before args0 about1 = true := code_word (m := ⟨21, 1⟩) (meth := k21m1) (c := k21c1) (by decide +kernel) rfl rfl rfl (by decide +kernel)
set_option maxRecDepth 65536 in
theorem w_c47 : (Jvm.Cond.code ({ cls := "java/lang/Math", name := "max", desc := "(II)I" } : Jvm.MethodName) jdk_29_method_65_code (2 : Nat) (Option.some Jvm.ClassFile.FieldType.int)).before args0 about1 = true := code_word (m := ⟨17, 1⟩) (meth := k17m1) (c := k17c1) (by decide +kernel) rfl rfl rfl (by decide +kernel)
set_option maxRecDepth 65536 in
theorem w_c48 : (Jvm.Cond.code ({ cls := "java/util/Arrays", name := "copyOf", desc := "([BI)[B" } : Jvm.MethodName) jdk_65_method_121_code (3 : Nat) (Option.some (Jvm.ClassFile.FieldType.array Jvm.ClassFile.FieldType.byte))).before args0 about1 = true := code_word (m := ⟨16, 1⟩) (meth := k16m1) (c := k16c1) (by decide +kernel) rfl rfl rfl (by decide +kernel)
def codes1 : List Jvm.Cond := [Jvm.Cond.code x code maxLocals ret, Jvm.Cond.code ({ cls := "com/example/guide/guide/io/FlowProblemToStringPinLaw", name := "mk", desc := "(ICCC)Ljava/lang/String;" } : Jvm.MethodName) method_3_code (4 : Nat) (Option.some (Jvm.ClassFile.FieldType.object "java/lang/String")), Jvm.Cond.code ({ cls := "java/lang/String", name := "<init>", desc := "([C)V" } : Jvm.MethodName) jdk_42_method_3_code (2 : Nat) (Option.none : Option Jvm.ClassFile.FieldType), Jvm.Cond.code ({ cls := "java/lang/String", name := "<init>", desc := "([CIILjava/lang/Void;)V" } : Jvm.MethodName) jdk_42_method_149_code (6 : Nat) (Option.none : Option Jvm.ClassFile.FieldType), Jvm.Cond.code ({ cls := "java/lang/Object", name := "<init>", desc := "()V" } : Jvm.MethodName) object_method_1_code (1 : Nat) (Option.none : Option Jvm.ClassFile.FieldType), Jvm.Cond.code ({ cls := "com/example/guide/guide/io/FlowProblem", name := "<init>", desc := "(Ljava/lang/String;ILjava/lang/String;)V" } : Jvm.MethodName) prog_30_method_1_code (4 : Nat) (Option.none : Option Jvm.ClassFile.FieldType), Jvm.Cond.code ({ cls := "java/util/Objects", name := "requireNonNull", desc := "(Ljava/lang/Object;Ljava/lang/String;)Ljava/lang/Object;" } : Jvm.MethodName) jdk_31_method_11_code (2 : Nat) (Option.some (Jvm.ClassFile.FieldType.object "java/lang/Object")), Jvm.Cond.code ({ cls := "com/example/guide/guide/io/FlowProblemToStringPinLaw", name := "digits", desc := "(I)I" } : Jvm.MethodName) method_4_code (1 : Nat) (Option.some Jvm.ClassFile.FieldType.int), Jvm.Cond.code ({ cls := "com/example/guide/guide/io/FlowProblemToStringPinLaw", name := "dig", desc := "(II)C" } : Jvm.MethodName) method_5_code (3 : Nat) (Option.some Jvm.ClassFile.FieldType.char), Jvm.Cond.code ({ cls := "com/example/guide/guide/io/FlowProblem", name := "toString", desc := "()Ljava/lang/String;" } : Jvm.MethodName) prog_30_method_5_code (1 : Nat) (Option.some (Jvm.ClassFile.FieldType.object "java/lang/String")), Jvm.Cond.code ({ cls := "java/lang/StringBuilder", name := "<init>", desc := "()V" } : Jvm.MethodName) jdk_67_method_1_code (1 : Nat) (Option.none : Option Jvm.ClassFile.FieldType), Jvm.Cond.code ({ cls := "java/lang/AbstractStringBuilder", name := "<init>", desc := "(I)V" } : Jvm.MethodName) jdk_68_method_2_code (2 : Nat) (Option.none : Option Jvm.ClassFile.FieldType), Jvm.Cond.code ({ cls := "java/lang/StringBuilder", name := "append", desc := "(Ljava/lang/String;)Ljava/lang/StringBuilder;" } : Jvm.MethodName) jdk_67_method_7_code (2 : Nat) (Option.some (Jvm.ClassFile.FieldType.object "java/lang/StringBuilder")), Jvm.Cond.code ({ cls := "java/lang/AbstractStringBuilder", name := "append", desc := "(Ljava/lang/String;)Ljava/lang/AbstractStringBuilder;" } : Jvm.MethodName) jdk_68_method_22_code (3 : Nat) (Option.some (Jvm.ClassFile.FieldType.object "java/lang/AbstractStringBuilder")), Jvm.Cond.code ({ cls := "java/lang/String", name := "length", desc := "()I" } : Jvm.MethodName) jdk_42_method_54_code (1 : Nat) (Option.some Jvm.ClassFile.FieldType.int), Jvm.Cond.code ({ cls := "java/lang/String", name := "coder", desc := "()B" } : Jvm.MethodName) jdk_42_method_152_code (1 : Nat) (Option.some Jvm.ClassFile.FieldType.byte), Jvm.Cond.code ({ cls := "java/lang/AbstractStringBuilder", name := "ensureCapacityInternal", desc := "(I)V" } : Jvm.MethodName) jdk_68_method_9_code (3 : Nat) (Option.none : Option Jvm.ClassFile.FieldType), Jvm.Cond.code ({ cls := "java/lang/AbstractStringBuilder", name := "putStringAt", desc := "(ILjava/lang/String;)V" } : Jvm.MethodName) jdk_68_method_73_code (3 : Nat) (Option.none : Option Jvm.ClassFile.FieldType), Jvm.Cond.code ({ cls := "java/lang/AbstractStringBuilder", name := "inflateIfNeededFor", desc := "(Ljava/lang/String;)V" } : Jvm.MethodName) jdk_68_method_71_code (2 : Nat) (Option.none : Option Jvm.ClassFile.FieldType), Jvm.Cond.code ({ cls := "java/lang/String", name := "getBytes", desc := "([BIB)V" } : Jvm.MethodName) jdk_42_method_147_code (4 : Nat) (Option.none : Option Jvm.ClassFile.FieldType), Jvm.Cond.code ({ cls := "java/lang/StringBuilder", name := "append", desc := "(I)Ljava/lang/StringBuilder;" } : Jvm.MethodName) jdk_67_method_15_code (2 : Nat) (Option.some (Jvm.ClassFile.FieldType.object "java/lang/StringBuilder")), Jvm.Cond.code ({ cls := "java/lang/AbstractStringBuilder", name := "append", desc := "(I)Ljava/lang/AbstractStringBuilder;" } : Jvm.MethodName) jdk_68_method_32_code (4 : Nat) (Option.some (Jvm.ClassFile.FieldType.object "java/lang/AbstractStringBuilder")), Jvm.Cond.code ({ cls := "java/lang/Integer", name := "stringSize", desc := "(I)I" } : Jvm.MethodName) jdk_33_method_13_code (4 : Nat) (Option.some Jvm.ClassFile.FieldType.int), Jvm.Cond.code ({ cls := "java/lang/AbstractStringBuilder", name := "isLatin1", desc := "()Z" } : Jvm.MethodName) jdk_68_method_68_code (1 : Nat) (Option.some Jvm.ClassFile.FieldType.boolean), Jvm.Cond.code ({ cls := "java/lang/Integer", name := "getChars", desc := "(II[B)I" } : Jvm.MethodName) jdk_33_method_12_code (7 : Nat) (Option.some Jvm.ClassFile.FieldType.int), Jvm.Cond.code ({ cls := "java/lang/StringBuilder", name := "toString", desc := "()Ljava/lang/String;" } : Jvm.MethodName) jdk_67_method_42_code (1 : Nat) (Option.some (Jvm.ClassFile.FieldType.object "java/lang/String")), Jvm.Cond.code ({ cls := "java/lang/String", name := "<init>", desc := "(Ljava/lang/StringBuilder;)V" } : Jvm.MethodName) jdk_42_method_53_code (2 : Nat) (Option.none : Option Jvm.ClassFile.FieldType), Jvm.Cond.code ({ cls := "java/lang/String", name := "<init>", desc := "(Ljava/lang/AbstractStringBuilder;Ljava/lang/Void;)V" } : Jvm.MethodName) jdk_42_method_150_code (5 : Nat) (Option.none : Option Jvm.ClassFile.FieldType), Jvm.Cond.code ({ cls := "java/lang/AbstractStringBuilder", name := "getValue", desc := "()[B" } : Jvm.MethodName) jdk_68_method_64_code (1 : Nat) (Option.some (Jvm.ClassFile.FieldType.array Jvm.ClassFile.FieldType.byte)), Jvm.Cond.code ({ cls := "java/lang/StringBuilder", name := "length", desc := "()I" } : Jvm.MethodName) jdk_67_method_93_code (1 : Nat) (Option.some Jvm.ClassFile.FieldType.int), Jvm.Cond.code ({ cls := "java/lang/AbstractStringBuilder", name := "length", desc := "()I" } : Jvm.MethodName) jdk_68_method_6_code (1 : Nat) (Option.some Jvm.ClassFile.FieldType.int), Jvm.Cond.code ({ cls := "java/util/Arrays", name := "copyOfRange", desc := "([BII)[B" } : Jvm.MethodName) jdk_65_method_132_code (3 : Nat) (Option.some (Jvm.ClassFile.FieldType.array Jvm.ClassFile.FieldType.byte)), Jvm.Cond.code ({ cls := "java/util/Arrays", name := "copyOfRangeByte", desc := "([BII)[B" } : Jvm.MethodName) jdk_65_method_133_code (5 : Nat) (Option.some (Jvm.ClassFile.FieldType.array Jvm.ClassFile.FieldType.byte)), Jvm.Cond.code ({ cls := "java/util/Arrays", name := "checkLength", desc := "(II)V" } : Jvm.MethodName) jdk_65_method_131_code (2 : Nat) (Option.none : Option Jvm.ClassFile.FieldType), Jvm.Cond.code ({ cls := "java/lang/Math", name := "min", desc := "(II)I" } : Jvm.MethodName) jdk_29_method_69_code (2 : Nat) (Option.some Jvm.ClassFile.FieldType.int), Jvm.Cond.code ({ cls := "com/example/guide/guide/io/FlowProblemToStringPinLaw", name := "five", desc := "(Ljava/lang/String;[CII)Z" } : Jvm.MethodName) method_7_code (4 : Nat) (Option.some Jvm.ClassFile.FieldType.boolean), Jvm.Cond.code ({ cls := "com/example/guide/guide/io/FlowProblemToStringPinLaw", name := "at", desc := "(Ljava/lang/String;[CII)Z" } : Jvm.MethodName) method_6_code (4 : Nat) (Option.some Jvm.ClassFile.FieldType.boolean), Jvm.Cond.code ({ cls := "java/lang/String", name := "charAt", desc := "(I)C" } : Jvm.MethodName) jdk_42_method_56_code (2 : Nat) (Option.some Jvm.ClassFile.FieldType.char), Jvm.Cond.code ({ cls := "java/lang/String", name := "isLatin1", desc := "()Z" } : Jvm.MethodName) jdk_42_method_154_code (1 : Nat) (Option.some Jvm.ClassFile.FieldType.boolean), Jvm.Cond.code ({ cls := "java/lang/StringLatin1", name := "charAt", desc := "([BI)C" } : Jvm.MethodName) jdk_43_method_2_code (2 : Nat) (Option.some Jvm.ClassFile.FieldType.char), Jvm.Cond.code ({ cls := "java/lang/String", name := "checkIndex", desc := "(II)V" } : Jvm.MethodName) jdk_42_method_155_code (2 : Nat) (Option.none : Option Jvm.ClassFile.FieldType), Jvm.Cond.code ({ cls := "jdk/internal/util/Preconditions", name := "checkIndex", desc := "(IILjava/util/function/BiFunction;)I" } : Jvm.MethodName) jdk_41_method_11_code (3 : Nat) (Option.some Jvm.ClassFile.FieldType.int), Jvm.Cond.code ({ cls := "java/lang/StringUTF16", name := "compress", desc := "([CII)[B" } : Jvm.MethodName) jdk_52_method_16_code (6 : Nat) (Option.some (Jvm.ClassFile.FieldType.array Jvm.ClassFile.FieldType.byte)), Jvm.Cond.code ({ cls := "java/lang/StringUTF16", name := "compress", desc := "([CI[BII)I" } : Jvm.MethodName) jdk_52_method_21_code (7 : Nat) (Option.some Jvm.ClassFile.FieldType.int), Jvm.Cond.code ({ cls := "java/lang/StringUTF16", name := "coderFromArrayLen", desc := "([BI)B" } : Jvm.MethodName) jdk_52_method_15_code (2 : Nat) (Option.some Jvm.ClassFile.FieldType.byte), Jvm.Cond.code ({ cls := "java/lang/AbstractStringBuilder", name := "newCapacity", desc := "(I)I" } : Jvm.MethodName) jdk_68_method_10_code (6 : Nat) (Option.some Jvm.ClassFile.FieldType.int), Jvm.Cond.code ({ cls := "jdk/internal/util/ArraysSupport", name := "newLength", desc := "(III)I" } : Jvm.MethodName) jdk_48_method_27_code (4 : Nat) (Option.some Jvm.ClassFile.FieldType.int), Jvm.Cond.code ({ cls := "java/lang/Math", name := "max", desc := "(II)I" } : Jvm.MethodName) jdk_29_method_65_code (2 : Nat) (Option.some Jvm.ClassFile.FieldType.int), Jvm.Cond.code ({ cls := "java/util/Arrays", name := "copyOf", desc := "([BI)[B" } : Jvm.MethodName) jdk_65_method_121_code (3 : Nat) (Option.some (Jvm.ClassFile.FieldType.array Jvm.ClassFile.FieldType.byte))]
set_option maxRecDepth 65536 in
theorem codes_eq : words1.filter isCode = codes1 := rfl
theorem w_codes : ∀ c ∈ words1.filter isCode, c.before args0 about1 = true := by
  rw [codes_eq]
  intro c hc
  simp only [codes1, List.mem_cons, List.not_mem_nil, or_false] at hc
  rcases hc with rfl | rfl | rfl | rfl | rfl | rfl | rfl | rfl | rfl | rfl | rfl | rfl | rfl | rfl | rfl | rfl | rfl | rfl | rfl | rfl | rfl | rfl | rfl | rfl | rfl | rfl | rfl | rfl | rfl | rfl | rfl | rfl | rfl | rfl | rfl | rfl | rfl | rfl | rfl | rfl | rfl | rfl | rfl | rfl | rfl | rfl | rfl | rfl | rfl
  · exact w_c0
  · exact w_c1
  · exact w_c2
  · exact w_c3
  · exact w_c4
  · exact w_c5
  · exact w_c6
  · exact w_c7
  · exact w_c8
  · exact w_c9
  · exact w_c10
  · exact w_c11
  · exact w_c12
  · exact w_c13
  · exact w_c14
  · exact w_c15
  · exact w_c16
  · exact w_c17
  · exact w_c18
  · exact w_c19
  · exact w_c20
  · exact w_c21
  · exact w_c22
  · exact w_c23
  · exact w_c24
  · exact w_c25
  · exact w_c26
  · exact w_c27
  · exact w_c28
  · exact w_c29
  · exact w_c30
  · exact w_c31
  · exact w_c32
  · exact w_c33
  · exact w_c34
  · exact w_c35
  · exact w_c36
  · exact w_c37
  · exact w_c38
  · exact w_c39
  · exact w_c40
  · exact w_c41
  · exact w_c42
  · exact w_c43
  · exact w_c44
  · exact w_c45
  · exact w_c46
  · exact w_c47
  · exact w_c48
set_option maxRecDepth 65536 in
theorem w_t1 : (words1.take 24).all (fun c => isCode c || c.before args0 about1) = true := by decide +kernel
set_option maxRecDepth 65536 in
theorem w_t2 : ((words1.drop 24).take 24).all (fun c => isCode c || c.before args0 about1) = true := by decide +kernel
set_option maxRecDepth 65536 in
theorem w_t3 : (((words1.drop 24).drop 24).take 24).all (fun c => isCode c || c.before args0 about1) = true := by decide +kernel
set_option maxRecDepth 65536 in
theorem w_t4 : ((((words1.drop 24).drop 24).drop 24).take 24).all (fun c => isCode c || c.before args0 about1) = true := by decide +kernel
set_option maxRecDepth 65536 in
theorem w_t5 : (((((words1.drop 24).drop 24).drop 24).drop 24).take 24).all (fun c => isCode c || c.before args0 about1) = true := by decide +kernel
set_option maxRecDepth 65536 in
theorem w_t6 : ((((((words1.drop 24).drop 24).drop 24).drop 24).drop 24).take 24).all (fun c => isCode c || c.before args0 about1) = true := by decide +kernel
set_option maxRecDepth 65536 in
theorem w_t7 : (((((((words1.drop 24).drop 24).drop 24).drop 24).drop 24).drop 24).take 24).all (fun c => isCode c || c.before args0 about1) = true := by decide +kernel
set_option maxRecDepth 65536 in
theorem w_t8 : ((((((((words1.drop 24).drop 24).drop 24).drop 24).drop 24).drop 24).drop 24).take 24).all (fun c => isCode c || c.before args0 about1) = true := by decide +kernel
set_option maxRecDepth 65536 in
theorem w_t9 : (((((((((words1.drop 24).drop 24).drop 24).drop 24).drop 24).drop 24).drop 24).drop 24).take 24).all (fun c => isCode c || c.before args0 about1) = true := by decide +kernel
set_option maxRecDepth 65536 in
theorem w_t10 : ((((((((((words1.drop 24).drop 24).drop 24).drop 24).drop 24).drop 24).drop 24).drop 24).drop 24).take 24).all (fun c => isCode c || c.before args0 about1) = true := by decide +kernel
set_option maxRecDepth 65536 in
theorem w_t11 : ((((((((((words1.drop 24).drop 24).drop 24).drop 24).drop 24).drop 24).drop 24).drop 24).drop 24).drop 24).all (fun c => isCode c || c.before args0 about1) = true := by decide +kernel
theorem w_tables : (allAtoms (Jvm.Cond.code x code maxLocals ret :: tables_1)).before args0 about1 = true := by
  rw [allAtoms_all]
  show words1.all (fun c => c.before args0 about1) = true
  refine all_split ?_ w_codes
  rw [← List.take_append_drop 24 words1, List.all_append, w_t1, ← List.take_append_drop 24 (words1.drop 24), List.all_append, w_t2, ← List.take_append_drop 24 ((words1.drop 24).drop 24), List.all_append, w_t3, ← List.take_append_drop 24 (((words1.drop 24).drop 24).drop 24), List.all_append, w_t4, ← List.take_append_drop 24 ((((words1.drop 24).drop 24).drop 24).drop 24), List.all_append, w_t5, ← List.take_append_drop 24 (((((words1.drop 24).drop 24).drop 24).drop 24).drop 24), List.all_append, w_t6, ← List.take_append_drop 24 ((((((words1.drop 24).drop 24).drop 24).drop 24).drop 24).drop 24), List.all_append, w_t7, ← List.take_append_drop 24 (((((((words1.drop 24).drop 24).drop 24).drop 24).drop 24).drop 24).drop 24), List.all_append, w_t8, ← List.take_append_drop 24 ((((((((words1.drop 24).drop 24).drop 24).drop 24).drop 24).drop 24).drop 24).drop 24), List.all_append, w_t9, ← List.take_append_drop 24 (((((((((words1.drop 24).drop 24).drop 24).drop 24).drop 24).drop 24).drop 24).drop 24).drop 24), List.all_append, w_t10, w_t11]
  rfl
set_option maxRecDepth 65536 in
theorem w_rest : rest_1_c.before args0 about1 = true := by decide +kernel
set_option maxRecDepth 65536 in
theorem w_case : (Jvm.Cond.and given_1 narrow_1).before args0 about1 = true := by decide +kernel
set_option maxRecDepth 65536 in
theorem w_consts : constsHeld consts_1 about1 := Jvm.Lit.constsHeldB_iff.mp (by decide +kernel)
theorem w_applies : (headSpec (Jvm.Cond.code x code maxLocals ret :: tables_1) room_1).applies x e0.platform about1 = true :=
  (Spec.applies_iff w_frames).mpr ⟨w_running, w_runnable, w_alone, w_named, w_hears, w_ripe, w_room, w_tables⟩
theorem atStart : AtStart classFile x code maxLocals ret World_1 tables_1 room_1 Calls_1 rest_1 Pre_1 launch0 p0 e0 about1 theMethod args0 below0 :=
  ⟨lists_1, trivial, launch0.admits_env _ _ _, launch0.least_env, fairChoices_fair.cas, fairChoices_fair.clock, w_frames, w_args, w_heap, w_applies, ⟨w_consts, trivial⟩, w_rest, w_case⟩
end start1
theorem witness_1 : WitnessClaimed_1 := ⟨start1.p0, start1.e0, start1.about1, start1.theMethod, start1.args0, start1.below0, start1.atStart⟩
end Jvm.Pilot.@@N@@
