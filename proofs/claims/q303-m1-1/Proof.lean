import JvmDerived
import JvmDerived.Pilot.@@N@@Statement
import JvmDerived.Pilot.@@N@@Code
set_option linter.unusedVariables false
set_option linter.unusedSimpArgs false
namespace Jvm.Own
open Sem ClassFile Op Lib Bundle Jvm.Stand Jvm.Free Jvm.LawKit Jvm.RoadKit
theorem nl {a b : Nat} (h : Nat.ble a b = true) : a ≤ b := Nat.le_of_ble_eq_true h
section Core
variable {nw : Bool} {p : Program} {l : Launch} {e : Env} {R : Room} {s : State} {m : MethodId} {args : Array Value} {below : List Frame} {meth : Method} {c : Code} {code : ByteArray} {ml : Nat} {nm : String} {ret : Option FieldType} {Z : State} {a0 : Array Value} {EL : List (String × Nat)} {own : String} {P : Option Value → Vm → Heap → Prop}
variable {vm vm' : Vm} {h h' h0 h1 h2 : Heap} {k n pc : Nat} {L : Array Slot} {S : List Value}
/-- what the walk knows of its tables and heap -/
def On (nw : Bool) (s : State) (m : MethodId) (Z : State) (a0 : Array Value) (EL : List (String × Nat)) (own : String) (vm : Vm) (h : Heap) : Prop :=
  (∃ k0, s.Since vm k0 ∧ k0 ≤ h.size) ∧ Z.Warmed39 vm ∧ vm.findClass own = some m.cls ∧ CHv Z EL vm h ∧ Ext Z.heap h ∧ EW Z a0 EL ∧ (nw = true → s.WarmedH vm)
/-- from the heap h, the tables vm and this frame the body returns, and P holds of what it leaves -/
def Go (nw : Bool) (p : Program) (l : Launch) (e : Env) (R : Room) (s : State) (m : MethodId) (args : Array Value) (below : List Frame) (meth : Method) (c : Code) (code : ByteArray) (ml : Nat) (nm : String) (ret : Option FieldType) (Z : State) (a0 : Array Value) (EL : List (String × Nat)) (own : String) (P : Option Value → Vm → Heap → Prop)
    (vm : Vm) (h : Heap) (k n pc : Nat) (L : Array Slot) (S : List Value) : Prop :=
  p.tables.exec = Jvm.exec → c.code = code → c.maxLocals = ml → meth.locks = false → meth.name = nm → meth.sig.returnType = ret → On nw s m Z a0 EL own vm h →
  ∀ (T : State) (locs : List Loc) (cells slots : Nat), Stand p l e R (s.setVm vm) m args below meth c T locs cells slots → T.heap = h → Fr Z.heap.size locs → cells ≤ k → slots ≤ n →
  ∃ (s₂ : State) (v : Option Value), Steps p.tables e below (T.setTop (mkF m pc L S)) s₂ ∧ s₂.status = .running ∧ Ended s₂ below (.returned v) ∧ P v s₂.vm s₂.heap ∧ CHr Z EL vm h s₂.vm s₂.heap ∧ Ext Z.heap s₂.heap ∧
    ∃ L', Fr Z.heap.size L' ∧ ReturnedEndW s (.returned v) s₂ L' R.cells R.slots ∧ (nw = true → s.WarmedH s₂.vm)
theorem Go.mono {k' n' : Nat} (hk : k ≤ k') (hn : n ≤ n') (g : Go nw p l e R s m args below meth c code ml nm ret Z a0 EL own P vm h k' n' pc L S) : Go nw p l e R s m args below meth c code ml nm ret Z a0 EL own P vm h k n pc L S :=
  fun hx hc hm hl hnm hr hon T locs cells slots X hh hF q1 q2 => g hx hc hm hl hnm hr hon T locs cells slots X hh hF (Nat.le_trans q1 hk) (Nat.le_trans q2 hn)
theorem Go.know (g : Ext Z.heap h → Z.Warmed39 vm → CHv Z EL vm h → Go nw p l e R s m args below meth c code ml nm ret Z a0 EL own P vm h k n pc L S) : Go nw p l e R s m args below meth c code ml nm ret Z a0 EL own P vm h k n pc L S :=
  fun hx hc hm hl hnm hr hon => g hon.2.2.2.2.1 hon.2.1 hon.2.2.2.1 hx hc hm hl hnm hr hon
theorem Go.step {pc' : Nat} {L' : Array Slot} {S' : List Value} (st : ∀ T, At T m c below → p.tables.exec = Jvm.exec → c.code = code → ∀ target, Steps p.tables e below (T.setTop (mkF m pc' L' S')) target → Steps p.tables e below (T.setTop (mkF m pc L S)) target)
    (g : Go nw p l e R s m args below meth c code ml nm ret Z a0 EL own P vm h k n pc' L' S') : Go nw p l e R s m args below meth c code ml nm ret Z a0 EL own P vm h k n pc L S := by
  intro hx hc hm hl hnm hr hon T locs cells slots X hh hF hk hn
  obtain ⟨s₂, v, st2, r⟩ := g hx hc hm hl hnm hr hon T locs cells slots X hh hF hk hn
  exact ⟨s₂, v, st T X.here hx hc _ st2, r⟩
/-- a step that may note an entry of the pool, the heap as it was -/
theorem Go.note {pc' : Nat} {L' : Array Slot} {S' : List Value} (st : ∀ T locs cells slots, Stand p l e R (s.setVm vm) m args below meth c T locs cells slots → T.heap = h → p.tables.exec = Jvm.exec → c.code = code → c.maxLocals = ml → On nw s m Z a0 EL own vm h →
      ∃ T', Stand p l e R (s.setVm vm) m args below meth c T' locs cells slots ∧ T'.heap = h ∧ ∀ target, Steps p.tables e below (T'.setTop (mkF m pc' L' S')) target → Steps p.tables e below (T.setTop (mkF m pc L S)) target)
    (g : Go nw p l e R s m args below meth c code ml nm ret Z a0 EL own P vm h k n pc' L' S') : Go nw p l e R s m args below meth c code ml nm ret Z a0 EL own P vm h k n pc L S := by
  intro hx hc hm hl hnm hr hon T locs cells slots X hh hF hk hn
  obtain ⟨T', X', hh', st2⟩ := st T locs cells slots X hh hx hc hm hon
  obtain ⟨s₂, v, st3, r⟩ := g hx hc hm hl hnm hr hon T' locs cells slots X' hh' hF hk hn
  exact ⟨s₂, v, st2 _ st3, r⟩
theorem On.ext (hon : On nw s m Z a0 EL own vm h) (E : Ext h h') : On nw s m Z a0 EL own vm h' := by
  obtain ⟨⟨k0, a1, a2⟩, a3, a4, a5, a6, a7, a8⟩ := hon
  exact ⟨⟨k0, a1, Nat.le_trans a2 E.1⟩, a3, a4, a5.ext E, ⟨Nat.le_trans a6.1 E.1, fun a c q => E.2 _ _ (a6.2 _ _ q)⟩, a7, a8⟩
theorem On.wr {a : Addr} {sl : Nat} {v : Value} (hon : On nw s m Z a0 EL own vm h) (W : Wr h h' a sl v) (Sa : Safe Z EL vm h a) (hz : Z.heap.size ≤ a) : On nw s m Z a0 EL own vm h' := by
  obtain ⟨⟨k0, a1, a2⟩, a3, a4, a5, a6, a7, a8⟩ := hon
  have O : Old Z Z.heap.size h' := Old.wr (Z := Z) ⟨rfl, a6⟩ W hz
  exact ⟨⟨k0, a1, by rw [W.size]; exact a2⟩, a3, a4, a5.wr W Sa, O.2, a7, a8⟩
/-- a step that makes a cell -/
theorem Go.made {pc' dk dn : Nat} {L' : Array Slot} {S' : Addr → List Value} {F : Heap → Addr → Prop} (hk0 : k + dk ≤ R.cells) (hn0 : n + dn ≤ R.slots)
    (st : ∀ T locs cells slots, Stand p l e R (s.setVm vm) m args below meth c T locs cells slots → T.heap = h → p.tables.exec = Jvm.exec → c.code = code → c.maxLocals = ml → On nw s m Z a0 EL own vm h → cells + dk ≤ R.cells → slots + dn ≤ R.slots →
      ∃ T' h', Stand p l e R (s.setVm vm) m args below meth c T' locs (cells + dk) (slots + dn) ∧ T'.heap = h' ∧ Ext h h' ∧ F h' h.size ∧ ∀ target, Steps p.tables e below (T'.setTop (mkF m pc' L' (S' h.size))) target → Steps p.tables e below (T.setTop (mkF m pc L S)) target)
    (g : ∀ a h', a = h.size → Ext h h' → F h' a → Safe Z EL vm h' a → Z.heap.size ≤ a → CHr Z EL vm h vm h' → Go nw p l e R s m args below meth c code ml nm ret Z a0 EL own P vm h' (k + dk) (n + dn) pc' L' (S' a)) : Go nw p l e R s m args below meth c code ml nm ret Z a0 EL own P vm h k n pc L S := by
  intro hx hc hm hl hnm hr hon T locs cells slots X hh hF hk hn
  obtain ⟨T', h', X', hh', E, Fh, st2⟩ := st T locs cells slots X hh hx hc hm hon (by omega) (by omega)
  have ch : CHr Z EL vm h vm h' := CHr.ext E hon.2.2.2.1
  obtain ⟨s₂, v, st3, r1, r2, r3, r4, r5⟩ := g h.size h' rfl E Fh (Safe.ext E hon.2.2.2.1 (Safe.new (Nat.le_refl _))) hon.2.2.2.2.1.1 ch hx hc hm hl hnm hr (hon.ext E) T' locs (cells + dk) (slots + dn) X' hh' hF (by omega) (by omega)
  exact ⟨s₂, v, st2 _ st3, r1, r2, r3, ch.trans r4, r5⟩
/-- a step that writes one slot of a cell made since the law began -/
theorem Go.wrote {pc' : Nat} {L' : Array Slot} {S' : List Value} {a : Addr} {sl : Nat} {w : Value} (Sa : Safe Z EL vm h a) (hz : Z.heap.size ≤ a)
    (st : ∀ T locs cells slots, Stand p l e R (s.setVm vm) m args below meth c T locs cells slots → T.heap = h → p.tables.exec = Jvm.exec → c.code = code → c.maxLocals = ml → meth.name = nm → On nw s m Z a0 EL own vm h →
      ∃ T' h', Stand p l e R (s.setVm vm) m args below meth c T' (locs ++ [⟨a, sl⟩]) cells slots ∧ T'.heap = h' ∧ Wr h h' a sl w ∧ ∀ target, Steps p.tables e below (T'.setTop (mkF m pc' L' S')) target → Steps p.tables e below (T.setTop (mkF m pc L S)) target)
    (g : ∀ h', Wr h h' a sl w → Safe Z EL vm h' a → CHr Z EL vm h vm h' → Go nw p l e R s m args below meth c code ml nm ret Z a0 EL own P vm h' k n pc' L' S') : Go nw p l e R s m args below meth c code ml nm ret Z a0 EL own P vm h k n pc L S := by
  intro hx hc hm hl hnm hr hon T locs cells slots X hh hF hk hn
  obtain ⟨T', h', X', hh', W, st2⟩ := st T locs cells slots X hh hx hc hm hnm hon
  have ch : CHr Z EL vm h vm h' := CHr.wr W Sa hon.2.2.2.1
  obtain ⟨s₂, v, st3, r1, r2, r3, r4, r5⟩ := g h' W (Safe.wr W Sa hon.2.2.2.1 Sa) ch hx hc hm hl hnm hr (hon.wr W Sa hz) T' _ cells slots X' hh' (Fr.snoc X' hF hz) hk hn
  exact ⟨s₂, v, st2 _ st3, r1, r2, r3, ch.trans r4, r5⟩
theorem Go.iload_n {i : Fin 4} {v : Int32} (pc' : Nat) (hd : decode code pc = .ok (.iload_n i, 1)) (hp : pc + 1 = pc') (hl : L[i.val]? = some (.val (.int v))) (g : Go nw p l e R s m args below meth c code ml nm ret Z a0 EL own P vm h k n pc' L (.int v :: S)) : Go nw p l e R s m args below meth c code ml nm ret Z a0 EL own P vm h k n pc L S := by
  subst hp; exact g.step fun T hT hx hc _ q => XS.iloadN (g := mkF m pc L (S)) hT hx rfl (hb hc hd) hl q
theorem Go.iload {i : Nat} {v : Int32} (pc' : Nat) (hd : decode code pc = .ok (.iload i, 2)) (hp : pc + 2 = pc') (hl : L[i]? = some (.val (.int v))) (g : Go nw p l e R s m args below meth c code ml nm ret Z a0 EL own P vm h k n pc' L (.int v :: S)) : Go nw p l e R s m args below meth c code ml nm ret Z a0 EL own P vm h k n pc L S := by
  subst hp; exact g.step fun T hT hx hc _ q => XS.iload (g := mkF m pc L (S)) hT hx rfl (hb hc hd) hl q
theorem Go.lload_n {i : Fin 4} {v : Int64} (pc' : Nat) (hd : decode code pc = .ok (.lload_n i, 1)) (hp : pc + 1 = pc') (hl : L[i.val]? = some (.val (.long v))) (g : Go nw p l e R s m args below meth c code ml nm ret Z a0 EL own P vm h k n pc' L (.long v :: S)) : Go nw p l e R s m args below meth c code ml nm ret Z a0 EL own P vm h k n pc L S := by
  subst hp; exact g.step fun T hT hx hc _ q => XS.lloadN (g := mkF m pc L (S)) hT hx rfl (hb hc hd) hl q
theorem Go.lload {i : Nat} {v : Int64} (pc' : Nat) (hd : decode code pc = .ok (.lload i, 2)) (hp : pc + 2 = pc') (hl : L[i]? = some (.val (.long v))) (g : Go nw p l e R s m args below meth c code ml nm ret Z a0 EL own P vm h k n pc' L (.long v :: S)) : Go nw p l e R s m args below meth c code ml nm ret Z a0 EL own P vm h k n pc L S := by
  subst hp; exact g.step fun T hT hx hc _ q => XS.lload (g := mkF m pc L (S)) hT hx rfl (hb hc hd) hl q
theorem Go.aload_n {i : Fin 4} {v : Value} (pc' : Nat) (hd : decode code pc = .ok (.aload_n i, 1)) (hp : pc + 1 = pc') (hl : L[i.val]? = some (.val v)) (hv : v.isRef = true) (g : Go nw p l e R s m args below meth c code ml nm ret Z a0 EL own P vm h k n pc' L (v :: S)) : Go nw p l e R s m args below meth c code ml nm ret Z a0 EL own P vm h k n pc L S := by
  subst hp; exact g.step fun T hT hx hc _ q => XS.aloadN (g := mkF m pc L (S)) hT hx rfl (hb hc hd) hl hv q
theorem Go.aload {i : Nat} {v : Value} (pc' : Nat) (hd : decode code pc = .ok (.aload i, 2)) (hp : pc + 2 = pc') (hl : L[i]? = some (.val v)) (hv : v.isRef = true) (g : Go nw p l e R s m args below meth c code ml nm ret Z a0 EL own P vm h k n pc' L (v :: S)) : Go nw p l e R s m args below meth c code ml nm ret Z a0 EL own P vm h k n pc L S := by
  subst hp; exact g.step fun T hT hx hc _ q => XS.aload (g := mkF m pc L (S)) hT hx rfl (hb hc hd) hl hv q
theorem Go.iconst {i : Int} (v : Int32) (pc' : Nat) (hd : decode code pc = .ok (.iconst i, 1)) (hp : pc + 1 = pc') (hv : Int32.ofInt i = v) (g : Go nw p l e R s m args below meth c code ml nm ret Z a0 EL own P vm h k n pc' L (.int v :: S)) : Go nw p l e R s m args below meth c code ml nm ret Z a0 EL own P vm h k n pc L S := by
  subst hp hv; exact g.step fun T hT hx hc _ q => XS.iconst hT hx rfl (hb hc hd) q
theorem Go.bipush {i : Int} (v : Int32) (pc' : Nat) (hd : decode code pc = .ok (.bipush i, 2)) (hp : pc + 2 = pc') (hv : (Int8.ofInt i).toInt32 = v) (g : Go nw p l e R s m args below meth c code ml nm ret Z a0 EL own P vm h k n pc' L (.int v :: S)) : Go nw p l e R s m args below meth c code ml nm ret Z a0 EL own P vm h k n pc L S := by
  subst hp hv; exact g.step fun T hT hx hc _ q => XS.bipush hT hx rfl (hb hc hd) q
theorem Go.sipush {i : Int} (v : Int32) (pc' : Nat) (hd : decode code pc = .ok (.sipush i, 3)) (hp : pc + 3 = pc') (hv : (Int16.ofInt i).toInt32 = v) (g : Go nw p l e R s m args below meth c code ml nm ret Z a0 EL own P vm h k n pc' L (.int v :: S)) : Go nw p l e R s m args below meth c code ml nm ret Z a0 EL own P vm h k n pc L S := by
  subst hp hv; exact g.step fun T hT hx hc _ q => XS.sipush hT hx rfl (hb hc hd) q
theorem Go.lconst {i : Fin 2} (v : Int64) (pc' : Nat) (hd : decode code pc = .ok (.lconst i, 1)) (hp : pc + 1 = pc') (hv : Int64.ofNat i = v) (g : Go nw p l e R s m args below meth c code ml nm ret Z a0 EL own P vm h k n pc' L (.long v :: S)) : Go nw p l e R s m args below meth c code ml nm ret Z a0 EL own P vm h k n pc L S := by
  subst hp hv; exact g.step fun T hT hx hc _ q => XS.lconst hT hx rfl (hb hc hd) q
theorem Go.aconst_null  (pc' : Nat) (hd : decode code pc = .ok (.aconst_null, 1)) (hp : pc + 1 = pc') (g : Go nw p l e R s m args below meth c code ml nm ret Z a0 EL own P vm h k n pc' L (.null :: S)) : Go nw p l e R s m args below meth c code ml nm ret Z a0 EL own P vm h k n pc L S := by
  subst hp; exact g.step fun T hT hx hc _ q => XS.aconstNull (g := mkF m pc L (S)) hT hx rfl (hb hc hd)  q
theorem Go.istore_n {i : Fin 4} {v : Int32} (L' : Array Slot) (pc' : Nat) (hd : decode code pc = .ok (.istore_n i, 1)) (hp : pc + 1 = pc') (hl : storeLocals L i.val (.int v) = some L') (g : Go nw p l e R s m args below meth c code ml nm ret Z a0 EL own P vm h k n pc' L' S) : Go nw p l e R s m args below meth c code ml nm ret Z a0 EL own P vm h k n pc L (.int v :: S) := by
  subst hp; exact g.step fun T hT hx hc _ q => XS.istoreN hT hx rfl (hb hc hd) rfl hl q
theorem Go.istore {i : Nat} {v : Int32} (L' : Array Slot) (pc' : Nat) (hd : decode code pc = .ok (.istore i, 2)) (hp : pc + 2 = pc') (hl : storeLocals L i (.int v) = some L') (g : Go nw p l e R s m args below meth c code ml nm ret Z a0 EL own P vm h k n pc' L' S) : Go nw p l e R s m args below meth c code ml nm ret Z a0 EL own P vm h k n pc L (.int v :: S) := by
  subst hp; exact g.step fun T hT hx hc _ q => XS.istore hT hx rfl (hb hc hd) rfl hl q
theorem Go.lstore_n {i : Fin 4} {v : Int64} (L' : Array Slot) (pc' : Nat) (hd : decode code pc = .ok (.lstore_n i, 1)) (hp : pc + 1 = pc') (hl : storeLocals L i.val (.long v) = some L') (g : Go nw p l e R s m args below meth c code ml nm ret Z a0 EL own P vm h k n pc' L' S) : Go nw p l e R s m args below meth c code ml nm ret Z a0 EL own P vm h k n pc L (.long v :: S) := by
  subst hp; exact g.step fun T hT hx hc _ q => XS.lstoreN hT hx rfl (hb hc hd) rfl hl q
theorem Go.lstore {i : Nat} {v : Int64} (L' : Array Slot) (pc' : Nat) (hd : decode code pc = .ok (.lstore i, 2)) (hp : pc + 2 = pc') (hl : storeLocals L i (.long v) = some L') (g : Go nw p l e R s m args below meth c code ml nm ret Z a0 EL own P vm h k n pc' L' S) : Go nw p l e R s m args below meth c code ml nm ret Z a0 EL own P vm h k n pc L (.long v :: S) := by
  subst hp; exact g.step fun T hT hx hc _ q => XS.lstore hT hx rfl (hb hc hd) rfl hl q
theorem Go.astore_n {i : Fin 4} {v : Value} (L' : Array Slot) (pc' : Nat) (hd : decode code pc = .ok (.astore_n i, 1)) (hp : pc + 1 = pc') (hv : v.isRef = true) (hl : storeLocals L i.val v = some L') (g : Go nw p l e R s m args below meth c code ml nm ret Z a0 EL own P vm h k n pc' L' S) : Go nw p l e R s m args below meth c code ml nm ret Z a0 EL own P vm h k n pc L (v :: S) := by
  subst hp; exact g.step fun T hT hx hc _ q => XS.astoreN hT hx rfl (hb hc hd) rfl hv hl q
theorem Go.astore {i : Nat} {v : Value} (L' : Array Slot) (pc' : Nat) (hd : decode code pc = .ok (.astore i, 2)) (hp : pc + 2 = pc') (hv : v.isRef = true) (hl : storeLocals L i v = some L') (g : Go nw p l e R s m args below meth c code ml nm ret Z a0 EL own P vm h k n pc' L' S) : Go nw p l e R s m args below meth c code ml nm ret Z a0 EL own P vm h k n pc L (v :: S) := by
  subst hp; exact g.step fun T hT hx hc _ q => XS.astore hT hx rfl (hb hc hd) rfl hv hl q
theorem Go.iinc {i : Nat} {cst : Int} {x : Int32} (w : Int32) (L' : Array Slot) (pc' : Nat) (hd : decode code pc = .ok (.iinc i cst, 3)) (hp : pc + 3 = pc') (hl : L[i]? = some (.val (.int x))) (hw : x + Int32.ofInt cst = w) (hl' : storeLocals L i (.int w) = some L') (g : Go nw p l e R s m args below meth c code ml nm ret Z a0 EL own P vm h k n pc' L' S) : Go nw p l e R s m args below meth c code ml nm ret Z a0 EL own P vm h k n pc L S := by
  subst hp hw; exact g.step fun T hT hx hc _ q => XS.iinc hT hx rfl (hb hc hd) hl hl' q
theorem Go.iadd {x y : Int32} (z : Int32) (pc' : Nat) (hd : decode code pc = .ok (.iadd, 1)) (hp : pc + 1 = pc') (hz : x + y = z) (g : Go nw p l e R s m args below meth c code ml nm ret Z a0 EL own P vm h k n pc' L (.int z :: S)) : Go nw p l e R s m args below meth c code ml nm ret Z a0 EL own P vm h k n pc L (.int y :: .int x :: S) := by
  subst hp hz; exact g.step fun T hT hx hc _ q => XS.iadd hT hx rfl (hb hc hd) rfl  q
theorem Go.isub {x y : Int32} (z : Int32) (pc' : Nat) (hd : decode code pc = .ok (.isub, 1)) (hp : pc + 1 = pc') (hz : x - y = z) (g : Go nw p l e R s m args below meth c code ml nm ret Z a0 EL own P vm h k n pc' L (.int z :: S)) : Go nw p l e R s m args below meth c code ml nm ret Z a0 EL own P vm h k n pc L (.int y :: .int x :: S) := by
  subst hp hz; exact g.step fun T hT hx hc _ q => XS.isub hT hx rfl (hb hc hd) rfl  q
theorem Go.imul {x y : Int32} (z : Int32) (pc' : Nat) (hd : decode code pc = .ok (.imul, 1)) (hp : pc + 1 = pc') (hz : x * y = z) (g : Go nw p l e R s m args below meth c code ml nm ret Z a0 EL own P vm h k n pc' L (.int z :: S)) : Go nw p l e R s m args below meth c code ml nm ret Z a0 EL own P vm h k n pc L (.int y :: .int x :: S) := by
  subst hp hz; exact g.step fun T hT hx hc _ q => XS.imul hT hx rfl (hb hc hd) rfl  q
theorem Go.iand {x y : Int32} (z : Int32) (pc' : Nat) (hd : decode code pc = .ok (.iand, 1)) (hp : pc + 1 = pc') (hz : x &&& y = z) (g : Go nw p l e R s m args below meth c code ml nm ret Z a0 EL own P vm h k n pc' L (.int z :: S)) : Go nw p l e R s m args below meth c code ml nm ret Z a0 EL own P vm h k n pc L (.int y :: .int x :: S) := by
  subst hp hz; exact g.step fun T hT hx hc _ q => XS.iand hT hx rfl (hb hc hd) rfl  q
theorem Go.ior {x y : Int32} (z : Int32) (pc' : Nat) (hd : decode code pc = .ok (.ior, 1)) (hp : pc + 1 = pc') (hz : x ||| y = z) (g : Go nw p l e R s m args below meth c code ml nm ret Z a0 EL own P vm h k n pc' L (.int z :: S)) : Go nw p l e R s m args below meth c code ml nm ret Z a0 EL own P vm h k n pc L (.int y :: .int x :: S) := by
  subst hp hz; exact g.step fun T hT hx hc _ q => XS.ior hT hx rfl (hb hc hd) rfl  q
theorem Go.ixor {x y : Int32} (z : Int32) (pc' : Nat) (hd : decode code pc = .ok (.ixor, 1)) (hp : pc + 1 = pc') (hz : x ^^^ y = z) (g : Go nw p l e R s m args below meth c code ml nm ret Z a0 EL own P vm h k n pc' L (.int z :: S)) : Go nw p l e R s m args below meth c code ml nm ret Z a0 EL own P vm h k n pc L (.int y :: .int x :: S) := by
  subst hp hz; exact g.step fun T hT hx hc _ q => XS.ixor hT hx rfl (hb hc hd) rfl  q
theorem Go.ishl {x y : Int32} (z : Int32) (pc' : Nat) (hd : decode code pc = .ok (.ishl, 1)) (hp : pc + 1 = pc') (hz : x <<< (y &&& 31) = z) (g : Go nw p l e R s m args below meth c code ml nm ret Z a0 EL own P vm h k n pc' L (.int z :: S)) : Go nw p l e R s m args below meth c code ml nm ret Z a0 EL own P vm h k n pc L (.int y :: .int x :: S) := by
  subst hp hz; exact g.step fun T hT hx hc _ q => XS.ishl hT hx rfl (hb hc hd) rfl  q
theorem Go.ishr {x y : Int32} (z : Int32) (pc' : Nat) (hd : decode code pc = .ok (.ishr, 1)) (hp : pc + 1 = pc') (hz : x >>> (y &&& 31) = z) (g : Go nw p l e R s m args below meth c code ml nm ret Z a0 EL own P vm h k n pc' L (.int z :: S)) : Go nw p l e R s m args below meth c code ml nm ret Z a0 EL own P vm h k n pc L (.int y :: .int x :: S) := by
  subst hp hz; exact g.step fun T hT hx hc _ q => XS.ishr hT hx rfl (hb hc hd) rfl  q
theorem Go.iushr {x y : Int32} (z : Int32) (pc' : Nat) (hd : decode code pc = .ok (.iushr, 1)) (hp : pc + 1 = pc') (hz : XT.ushr x y = z) (g : Go nw p l e R s m args below meth c code ml nm ret Z a0 EL own P vm h k n pc' L (.int z :: S)) : Go nw p l e R s m args below meth c code ml nm ret Z a0 EL own P vm h k n pc L (.int y :: .int x :: S) := by
  subst hp hz; exact g.step fun T hT hx hc _ q => XS.iushr hT hx rfl (hb hc hd) rfl  q
theorem Go.idiv {x y : Int32} (z : Int32) (pc' : Nat) (hd : decode code pc = .ok (.idiv, 1)) (hp : pc + 1 = pc') (hy : y ≠ 0) (hz : x / y = z) (g : Go nw p l e R s m args below meth c code ml nm ret Z a0 EL own P vm h k n pc' L (.int z :: S)) : Go nw p l e R s m args below meth c code ml nm ret Z a0 EL own P vm h k n pc L (.int y :: .int x :: S) := by
  subst hp hz; exact g.step fun T hT hx hc _ q => XS.idiv hT hx rfl (hb hc hd) rfl hy q
theorem Go.irem {x y : Int32} (z : Int32) (pc' : Nat) (hd : decode code pc = .ok (.irem, 1)) (hp : pc + 1 = pc') (hy : y ≠ 0) (hz : x - (x / y) * y = z) (g : Go nw p l e R s m args below meth c code ml nm ret Z a0 EL own P vm h k n pc' L (.int z :: S)) : Go nw p l e R s m args below meth c code ml nm ret Z a0 EL own P vm h k n pc L (.int y :: .int x :: S) := by
  subst hp hz; exact g.step fun T hT hx hc _ q => XS.irem hT hx rfl (hb hc hd) rfl hy q
theorem Go.ladd {x y : Int64} (z : Int64) (pc' : Nat) (hd : decode code pc = .ok (.ladd, 1)) (hp : pc + 1 = pc') (hz : x + y = z) (g : Go nw p l e R s m args below meth c code ml nm ret Z a0 EL own P vm h k n pc' L (.long z :: S)) : Go nw p l e R s m args below meth c code ml nm ret Z a0 EL own P vm h k n pc L (.long y :: .long x :: S) := by
  subst hp hz; exact g.step fun T hT hx hc _ q => XS.ladd hT hx rfl (hb hc hd) rfl q
theorem Go.lsub {x y : Int64} (z : Int64) (pc' : Nat) (hd : decode code pc = .ok (.lsub, 1)) (hp : pc + 1 = pc') (hz : x - y = z) (g : Go nw p l e R s m args below meth c code ml nm ret Z a0 EL own P vm h k n pc' L (.long z :: S)) : Go nw p l e R s m args below meth c code ml nm ret Z a0 EL own P vm h k n pc L (.long y :: .long x :: S) := by
  subst hp hz; exact g.step fun T hT hx hc _ q => XS.lsub hT hx rfl (hb hc hd) rfl q
theorem Go.lmul {x y : Int64} (z : Int64) (pc' : Nat) (hd : decode code pc = .ok (.lmul, 1)) (hp : pc + 1 = pc') (hz : x * y = z) (g : Go nw p l e R s m args below meth c code ml nm ret Z a0 EL own P vm h k n pc' L (.long z :: S)) : Go nw p l e R s m args below meth c code ml nm ret Z a0 EL own P vm h k n pc L (.long y :: .long x :: S) := by
  subst hp hz; exact g.step fun T hT hx hc _ q => XS.lmul hT hx rfl (hb hc hd) rfl q
theorem Go.land {x y : Int64} (z : Int64) (pc' : Nat) (hd : decode code pc = .ok (.land, 1)) (hp : pc + 1 = pc') (hz : x &&& y = z) (g : Go nw p l e R s m args below meth c code ml nm ret Z a0 EL own P vm h k n pc' L (.long z :: S)) : Go nw p l e R s m args below meth c code ml nm ret Z a0 EL own P vm h k n pc L (.long y :: .long x :: S) := by
  subst hp hz; exact g.step fun T hT hx hc _ q => XS.land hT hx rfl (hb hc hd) rfl q
theorem Go.lor {x y : Int64} (z : Int64) (pc' : Nat) (hd : decode code pc = .ok (.lor, 1)) (hp : pc + 1 = pc') (hz : x ||| y = z) (g : Go nw p l e R s m args below meth c code ml nm ret Z a0 EL own P vm h k n pc' L (.long z :: S)) : Go nw p l e R s m args below meth c code ml nm ret Z a0 EL own P vm h k n pc L (.long y :: .long x :: S) := by
  subst hp hz; exact g.step fun T hT hx hc _ q => XS.lor hT hx rfl (hb hc hd) rfl q
theorem Go.lxor {x y : Int64} (z : Int64) (pc' : Nat) (hd : decode code pc = .ok (.lxor, 1)) (hp : pc + 1 = pc') (hz : x ^^^ y = z) (g : Go nw p l e R s m args below meth c code ml nm ret Z a0 EL own P vm h k n pc' L (.long z :: S)) : Go nw p l e R s m args below meth c code ml nm ret Z a0 EL own P vm h k n pc L (.long y :: .long x :: S) := by
  subst hp hz; exact g.step fun T hT hx hc _ q => XS.lxor hT hx rfl (hb hc hd) rfl q
theorem Go.lshl {x : Int64} {y : Int32} (z : Int64) (pc' : Nat) (hd : decode code pc = .ok (.lshl, 1)) (hp : pc + 1 = pc') (hz : x <<< (y.toInt64 &&& 63) = z) (g : Go nw p l e R s m args below meth c code ml nm ret Z a0 EL own P vm h k n pc' L (.long z :: S)) : Go nw p l e R s m args below meth c code ml nm ret Z a0 EL own P vm h k n pc L (.int y :: .long x :: S) := by
  subst hp hz; exact g.step fun T hT hx hc _ q => XT.lshl hT hx rfl (hb hc hd) rfl q
theorem Go.lshr {x : Int64} {y : Int32} (z : Int64) (pc' : Nat) (hd : decode code pc = .ok (.lshr, 1)) (hp : pc + 1 = pc') (hz : x >>> (y.toInt64 &&& 63) = z) (g : Go nw p l e R s m args below meth c code ml nm ret Z a0 EL own P vm h k n pc' L (.long z :: S)) : Go nw p l e R s m args below meth c code ml nm ret Z a0 EL own P vm h k n pc L (.int y :: .long x :: S) := by
  subst hp hz; exact g.step fun T hT hx hc _ q => XT.lshr hT hx rfl (hb hc hd) rfl q
theorem Go.lushr {x : Int64} {y : Int32} (z : Int64) (pc' : Nat) (hd : decode code pc = .ok (.lushr, 1)) (hp : pc + 1 = pc') (hz : XT.ushrL x y = z) (g : Go nw p l e R s m args below meth c code ml nm ret Z a0 EL own P vm h k n pc' L (.long z :: S)) : Go nw p l e R s m args below meth c code ml nm ret Z a0 EL own P vm h k n pc L (.int y :: .long x :: S) := by
  subst hp hz; exact g.step fun T hT hx hc _ q => XT.lushr hT hx rfl (hb hc hd) rfl q
theorem Go.lcmp {x y : Int64} (z : Int32) (pc' : Nat) (hd : decode code pc = .ok (.lcmp, 1)) (hp : pc + 1 = pc') (hz : XT.cmpL x y = z) (g : Go nw p l e R s m args below meth c code ml nm ret Z a0 EL own P vm h k n pc' L (.int z :: S)) : Go nw p l e R s m args below meth c code ml nm ret Z a0 EL own P vm h k n pc L (.long y :: .long x :: S) := by
  subst hp hz; exact g.step fun T hT hx hc _ q => XS.lcmp hT hx rfl (hb hc hd) rfl q
theorem Go.ineg {x : Int32} (z : Int32) (pc' : Nat) (hd : decode code pc = .ok (.ineg, 1)) (hp : pc + 1 = pc') (hz : -x = z) (g : Go nw p l e R s m args below meth c code ml nm ret Z a0 EL own P vm h k n pc' L (.int z :: S)) : Go nw p l e R s m args below meth c code ml nm ret Z a0 EL own P vm h k n pc L (.int x :: S) := by
  subst hp hz; exact g.step fun T hT hx hc _ q => XS.ineg hT hx rfl (hb hc hd) rfl q
theorem Go.i2b {x : Int32} (z : Int32) (pc' : Nat) (hd : decode code pc = .ok (.i2b, 1)) (hp : pc + 1 = pc') (hz : x.toInt8.toInt32 = z) (g : Go nw p l e R s m args below meth c code ml nm ret Z a0 EL own P vm h k n pc' L (.int z :: S)) : Go nw p l e R s m args below meth c code ml nm ret Z a0 EL own P vm h k n pc L (.int x :: S) := by
  subst hp hz; exact g.step fun T hT hx hc _ q => XS.i2b hT hx rfl (hb hc hd) rfl q
theorem Go.i2c {x : Int32} (z : Int32) (pc' : Nat) (hd : decode code pc = .ok (.i2c, 1)) (hp : pc + 1 = pc') (hz : x.toUInt32.toUInt16.toUInt32.toInt32 = z) (g : Go nw p l e R s m args below meth c code ml nm ret Z a0 EL own P vm h k n pc' L (.int z :: S)) : Go nw p l e R s m args below meth c code ml nm ret Z a0 EL own P vm h k n pc L (.int x :: S) := by
  subst hp hz; exact g.step fun T hT hx hc _ q => XS.i2c hT hx rfl (hb hc hd) rfl q
theorem Go.i2s {x : Int32} (z : Int32) (pc' : Nat) (hd : decode code pc = .ok (.i2s, 1)) (hp : pc + 1 = pc') (hz : x.toInt16.toInt32 = z) (g : Go nw p l e R s m args below meth c code ml nm ret Z a0 EL own P vm h k n pc' L (.int z :: S)) : Go nw p l e R s m args below meth c code ml nm ret Z a0 EL own P vm h k n pc L (.int x :: S) := by
  subst hp hz; exact g.step fun T hT hx hc _ q => XS.i2s hT hx rfl (hb hc hd) rfl q
theorem Go.i2l {x : Int32} (z : Int64) (pc' : Nat) (hd : decode code pc = .ok (.i2l, 1)) (hp : pc + 1 = pc') (hz : x.toInt64 = z) (g : Go nw p l e R s m args below meth c code ml nm ret Z a0 EL own P vm h k n pc' L (.long z :: S)) : Go nw p l e R s m args below meth c code ml nm ret Z a0 EL own P vm h k n pc L (.int x :: S) := by
  subst hp hz; exact g.step fun T hT hx hc _ q => XS.i2l hT hx rfl (hb hc hd) rfl q
theorem Go.l2i {x : Int64} (z : Int32) (pc' : Nat) (hd : decode code pc = .ok (.l2i, 1)) (hp : pc + 1 = pc') (hz : x.toInt32 = z) (g : Go nw p l e R s m args below meth c code ml nm ret Z a0 EL own P vm h k n pc' L (.int z :: S)) : Go nw p l e R s m args below meth c code ml nm ret Z a0 EL own P vm h k n pc L (.long x :: S) := by
  subst hp hz; exact g.step fun T hT hx hc _ q => XS.l2i hT hx rfl (hb hc hd) rfl q
theorem Go.lneg {x : Int64} (z : Int64) (pc' : Nat) (hd : decode code pc = .ok (.lneg, 1)) (hp : pc + 1 = pc') (hz : -x = z) (g : Go nw p l e R s m args below meth c code ml nm ret Z a0 EL own P vm h k n pc' L (.long z :: S)) : Go nw p l e R s m args below meth c code ml nm ret Z a0 EL own P vm h k n pc L (.long x :: S) := by
  subst hp hz; exact g.step fun T hT hx hc _ q => XS.lneg hT hx rfl (hb hc hd) rfl q
theorem Go.dup {x : Value} (pc' : Nat) (hd : decode code pc = .ok (.dup, 1)) (hp : pc + 1 = pc') (hx1 : x.category = 1) (g : Go nw p l e R s m args below meth c code ml nm ret Z a0 EL own P vm h k n pc' L (x :: x :: S)) : Go nw p l e R s m args below meth c code ml nm ret Z a0 EL own P vm h k n pc L (x :: S) := by
  subst hp; exact g.step fun T hT hx hc _ q => XS.dup (g := mkF m pc L (x :: S)) hT hx rfl (hb hc hd) rfl hx1 q
theorem Go.pop {x : Value} (pc' : Nat) (hd : decode code pc = .ok (.pop, 1)) (hp : pc + 1 = pc') (hx1 : x.category = 1) (g : Go nw p l e R s m args below meth c code ml nm ret Z a0 EL own P vm h k n pc' L S) : Go nw p l e R s m args below meth c code ml nm ret Z a0 EL own P vm h k n pc L (x :: S) := by
  subst hp; exact g.step fun T hT hx hc _ q => XS.pop (g := mkF m pc L (x :: S)) hT hx rfl (hb hc hd) rfl hx1 q
theorem Go.dup_x1 {x y : Value} (pc' : Nat) (hd : decode code pc = .ok (.dup_x1, 1)) (hp : pc + 1 = pc') (hx1 : x.category = 1) (hx2 : y.category = 1) (g : Go nw p l e R s m args below meth c code ml nm ret Z a0 EL own P vm h k n pc' L (x :: y :: x :: S)) : Go nw p l e R s m args below meth c code ml nm ret Z a0 EL own P vm h k n pc L (x :: y :: S) := by
  subst hp; exact g.step fun T hT hx hc _ q => XS.dupX1 (g := mkF m pc L (x :: y :: S)) hT hx rfl (hb hc hd) rfl hx1 hx2 q
theorem Go.dup2 {x y : Value} (pc' : Nat) (hd : decode code pc = .ok (.dup2, 1)) (hp : pc + 1 = pc') (hx1 : x.category = 1) (hx2 : y.category = 1) (g : Go nw p l e R s m args below meth c code ml nm ret Z a0 EL own P vm h k n pc' L (x :: y :: x :: y :: S)) : Go nw p l e R s m args below meth c code ml nm ret Z a0 EL own P vm h k n pc L (x :: y :: S) := by
  subst hp; exact g.step fun T hT hx hc _ q => XT.dup2 (g := mkF m pc L (x :: y :: S)) hT hx rfl (hb hc hd) rfl hx1 hx2 q
theorem Go.goto {o : Int} (pc' : Nat) (hd : decode code pc = .ok (.goto o, 3)) (ho : 0 ≤ (pc : Int) + o) (hp : ((pc : Int) + o).toNat = pc') (g : Go nw p l e R s m args below meth c code ml nm ret Z a0 EL own P vm h k n pc' L S) : Go nw p l e R s m args below meth c code ml nm ret Z a0 EL own P vm h k n pc L S :=
  g.step fun T hT hx hc _ q => XS.goto hT hx rfl rfl (hb hc hd) ho hp q
theorem Go.ifB {cd : ClassFile.Cond} {x : Int32} {o : Int} (pc' pc'' : Nat) (hd : decode code pc = .ok (.ifCond cd o, 3)) (ho : 0 ≤ (pc : Int) + o) (hp : ((pc : Int) + o).toNat = pc') (hq : pc + 3 = pc'')
    (gt : ifCond.holds cd x = true → Go nw p l e R s m args below meth c code ml nm ret Z a0 EL own P vm h k n pc' L S) (gf : ifCond.holds cd x = false → Go nw p l e R s m args below meth c code ml nm ret Z a0 EL own P vm h k n pc'' L S) : Go nw p l e R s m args below meth c code ml nm ret Z a0 EL own P vm h k n pc L (.int x :: S) := by
  subst hq
  cases hh : ifCond.holds cd x
  · exact (gf hh).step fun T hT hx hc _ q => XS.ifNo hT hx rfl (hb hc hd) rfl hh q
  · exact (gt hh).step fun T hT hx hc _ q => XS.ifYes hT hx rfl rfl (hb hc hd) rfl hh ho hp q
theorem Go.icmpB {cd : ClassFile.Cond} {x y : Int32} {o : Int} (pc' pc'' : Nat) (hd : decode code pc = .ok (.if_icmp cd o, 3)) (ho : 0 ≤ (pc : Int) + o) (hp : ((pc : Int) + o).toNat = pc') (hq : pc + 3 = pc'')
    (gt : if_icmp.holds cd x y = true → Go nw p l e R s m args below meth c code ml nm ret Z a0 EL own P vm h k n pc' L S) (gf : if_icmp.holds cd x y = false → Go nw p l e R s m args below meth c code ml nm ret Z a0 EL own P vm h k n pc'' L S) : Go nw p l e R s m args below meth c code ml nm ret Z a0 EL own P vm h k n pc L (.int y :: .int x :: S) := by
  subst hq
  cases hh : if_icmp.holds cd x y
  · exact (gf hh).step fun T hT hx hc _ q => XS.icmpNo hT hx rfl (hb hc hd) rfl hh q
  · exact (gt hh).step fun T hT hx hc _ q => XS.icmpYes hT hx rfl rfl (hb hc hd) rfl hh ho hp q
theorem Go.if_icmpeq {x y : Int32} {o : Int} (pc' pc'' : Nat) (hd : decode code pc = .ok (.if_icmp .eq o, 3)) (ho : 0 ≤ (pc : Int) + o) (hp : ((pc : Int) + o).toNat = pc') (hq : pc + 3 = pc'')
    (gt : x = y → Go nw p l e R s m args below meth c code ml nm ret Z a0 EL own P vm h k n pc' L S) (gf : ¬ x = y → Go nw p l e R s m args below meth c code ml nm ret Z a0 EL own P vm h k n pc'' L S) : Go nw p l e R s m args below meth c code ml nm ret Z a0 EL own P vm h k n pc L (.int y :: .int x :: S) := by
  by_cases q : x = y
  · exact Go.icmpB pc' pc'' hd ho hp hq (fun r => by first | exact gt q | exact absurd (r.symm.trans (teq q).1) (by simp)) (fun r => by first | exact gf q | exact absurd (r.symm.trans (teq q).1) (by simp))
  · exact Go.icmpB pc' pc'' hd ho hp hq (fun r => by first | exact gt q | exact absurd (r.symm.trans (feq q).1) (by simp)) (fun r => by first | exact gf q | exact absurd (r.symm.trans (feq q).1) (by simp))
theorem Go.ifeq {x : Int32} {o : Int} (pc' pc'' : Nat) (hd : decode code pc = .ok (.ifCond .eq o, 3)) (ho : 0 ≤ (pc : Int) + o) (hp : ((pc : Int) + o).toNat = pc') (hq : pc + 3 = pc'')
    (gt : x = 0 → Go nw p l e R s m args below meth c code ml nm ret Z a0 EL own P vm h k n pc' L S) (gf : ¬ x = 0 → Go nw p l e R s m args below meth c code ml nm ret Z a0 EL own P vm h k n pc'' L S) : Go nw p l e R s m args below meth c code ml nm ret Z a0 EL own P vm h k n pc L (.int x :: S) := by
  by_cases q : x = 0
  · exact Go.ifB pc' pc'' hd ho hp hq (fun r => by first | exact gt q | exact absurd (r.symm.trans ((if0 _ _).trans (teq q).1)) (by simp)) (fun r => by first | exact gf q | exact absurd (r.symm.trans ((if0 _ _).trans (teq q).1)) (by simp))
  · exact Go.ifB pc' pc'' hd ho hp hq (fun r => by first | exact gt q | exact absurd (r.symm.trans ((if0 _ _).trans (feq q).1)) (by simp)) (fun r => by first | exact gf q | exact absurd (r.symm.trans ((if0 _ _).trans (feq q).1)) (by simp))
theorem Go.if_icmpne {x y : Int32} {o : Int} (pc' pc'' : Nat) (hd : decode code pc = .ok (.if_icmp .ne o, 3)) (ho : 0 ≤ (pc : Int) + o) (hp : ((pc : Int) + o).toNat = pc') (hq : pc + 3 = pc'')
    (gt : ¬ x = y → Go nw p l e R s m args below meth c code ml nm ret Z a0 EL own P vm h k n pc' L S) (gf : x = y → Go nw p l e R s m args below meth c code ml nm ret Z a0 EL own P vm h k n pc'' L S) : Go nw p l e R s m args below meth c code ml nm ret Z a0 EL own P vm h k n pc L (.int y :: .int x :: S) := by
  by_cases q : x = y
  · exact Go.icmpB pc' pc'' hd ho hp hq (fun r => by first | exact gt q | exact absurd (r.symm.trans (teq q).2) (by simp)) (fun r => by first | exact gf q | exact absurd (r.symm.trans (teq q).2) (by simp))
  · exact Go.icmpB pc' pc'' hd ho hp hq (fun r => by first | exact gt q | exact absurd (r.symm.trans (feq q).2) (by simp)) (fun r => by first | exact gf q | exact absurd (r.symm.trans (feq q).2) (by simp))
theorem Go.ifne {x : Int32} {o : Int} (pc' pc'' : Nat) (hd : decode code pc = .ok (.ifCond .ne o, 3)) (ho : 0 ≤ (pc : Int) + o) (hp : ((pc : Int) + o).toNat = pc') (hq : pc + 3 = pc'')
    (gt : ¬ x = 0 → Go nw p l e R s m args below meth c code ml nm ret Z a0 EL own P vm h k n pc' L S) (gf : x = 0 → Go nw p l e R s m args below meth c code ml nm ret Z a0 EL own P vm h k n pc'' L S) : Go nw p l e R s m args below meth c code ml nm ret Z a0 EL own P vm h k n pc L (.int x :: S) := by
  by_cases q : x = 0
  · exact Go.ifB pc' pc'' hd ho hp hq (fun r => by first | exact gt q | exact absurd (r.symm.trans ((if0 _ _).trans (teq q).2)) (by simp)) (fun r => by first | exact gf q | exact absurd (r.symm.trans ((if0 _ _).trans (teq q).2)) (by simp))
  · exact Go.ifB pc' pc'' hd ho hp hq (fun r => by first | exact gt q | exact absurd (r.symm.trans ((if0 _ _).trans (feq q).2)) (by simp)) (fun r => by first | exact gf q | exact absurd (r.symm.trans ((if0 _ _).trans (feq q).2)) (by simp))
theorem Go.if_icmplt {x y : Int32} {o : Int} (pc' pc'' : Nat) (hd : decode code pc = .ok (.if_icmp .lt o, 3)) (ho : 0 ≤ (pc : Int) + o) (hp : ((pc : Int) + o).toNat = pc') (hq : pc + 3 = pc'')
    (gt : x < y → Go nw p l e R s m args below meth c code ml nm ret Z a0 EL own P vm h k n pc' L S) (gf : ¬ x < y → Go nw p l e R s m args below meth c code ml nm ret Z a0 EL own P vm h k n pc'' L S) : Go nw p l e R s m args below meth c code ml nm ret Z a0 EL own P vm h k n pc L (.int y :: .int x :: S) := by
  by_cases q : x < y
  · exact Go.icmpB pc' pc'' hd ho hp hq (fun r => by first | exact gt q | exact absurd (r.symm.trans (tlt q).1) (by simp)) (fun r => by first | exact gf q | exact absurd (r.symm.trans (tlt q).1) (by simp))
  · exact Go.icmpB pc' pc'' hd ho hp hq (fun r => by first | exact gt q | exact absurd (r.symm.trans (flt q).1) (by simp)) (fun r => by first | exact gf q | exact absurd (r.symm.trans (flt q).1) (by simp))
theorem Go.iflt {x : Int32} {o : Int} (pc' pc'' : Nat) (hd : decode code pc = .ok (.ifCond .lt o, 3)) (ho : 0 ≤ (pc : Int) + o) (hp : ((pc : Int) + o).toNat = pc') (hq : pc + 3 = pc'')
    (gt : x < 0 → Go nw p l e R s m args below meth c code ml nm ret Z a0 EL own P vm h k n pc' L S) (gf : ¬ x < 0 → Go nw p l e R s m args below meth c code ml nm ret Z a0 EL own P vm h k n pc'' L S) : Go nw p l e R s m args below meth c code ml nm ret Z a0 EL own P vm h k n pc L (.int x :: S) := by
  by_cases q : x < 0
  · exact Go.ifB pc' pc'' hd ho hp hq (fun r => by first | exact gt q | exact absurd (r.symm.trans ((if0 _ _).trans (tlt q).1)) (by simp)) (fun r => by first | exact gf q | exact absurd (r.symm.trans ((if0 _ _).trans (tlt q).1)) (by simp))
  · exact Go.ifB pc' pc'' hd ho hp hq (fun r => by first | exact gt q | exact absurd (r.symm.trans ((if0 _ _).trans (flt q).1)) (by simp)) (fun r => by first | exact gf q | exact absurd (r.symm.trans ((if0 _ _).trans (flt q).1)) (by simp))
theorem Go.if_icmpge {x y : Int32} {o : Int} (pc' pc'' : Nat) (hd : decode code pc = .ok (.if_icmp .ge o, 3)) (ho : 0 ≤ (pc : Int) + o) (hp : ((pc : Int) + o).toNat = pc') (hq : pc + 3 = pc'')
    (gt : ¬ x < y → Go nw p l e R s m args below meth c code ml nm ret Z a0 EL own P vm h k n pc' L S) (gf : x < y → Go nw p l e R s m args below meth c code ml nm ret Z a0 EL own P vm h k n pc'' L S) : Go nw p l e R s m args below meth c code ml nm ret Z a0 EL own P vm h k n pc L (.int y :: .int x :: S) := by
  by_cases q : x < y
  · exact Go.icmpB pc' pc'' hd ho hp hq (fun r => by first | exact gt q | exact absurd (r.symm.trans (tlt q).2.1) (by simp)) (fun r => by first | exact gf q | exact absurd (r.symm.trans (tlt q).2.1) (by simp))
  · exact Go.icmpB pc' pc'' hd ho hp hq (fun r => by first | exact gt q | exact absurd (r.symm.trans (flt q).2.1) (by simp)) (fun r => by first | exact gf q | exact absurd (r.symm.trans (flt q).2.1) (by simp))
theorem Go.ifge {x : Int32} {o : Int} (pc' pc'' : Nat) (hd : decode code pc = .ok (.ifCond .ge o, 3)) (ho : 0 ≤ (pc : Int) + o) (hp : ((pc : Int) + o).toNat = pc') (hq : pc + 3 = pc'')
    (gt : ¬ x < 0 → Go nw p l e R s m args below meth c code ml nm ret Z a0 EL own P vm h k n pc' L S) (gf : x < 0 → Go nw p l e R s m args below meth c code ml nm ret Z a0 EL own P vm h k n pc'' L S) : Go nw p l e R s m args below meth c code ml nm ret Z a0 EL own P vm h k n pc L (.int x :: S) := by
  by_cases q : x < 0
  · exact Go.ifB pc' pc'' hd ho hp hq (fun r => by first | exact gt q | exact absurd (r.symm.trans ((if0 _ _).trans (tlt q).2.1)) (by simp)) (fun r => by first | exact gf q | exact absurd (r.symm.trans ((if0 _ _).trans (tlt q).2.1)) (by simp))
  · exact Go.ifB pc' pc'' hd ho hp hq (fun r => by first | exact gt q | exact absurd (r.symm.trans ((if0 _ _).trans (flt q).2.1)) (by simp)) (fun r => by first | exact gf q | exact absurd (r.symm.trans ((if0 _ _).trans (flt q).2.1)) (by simp))
theorem Go.if_icmpgt {x y : Int32} {o : Int} (pc' pc'' : Nat) (hd : decode code pc = .ok (.if_icmp .gt o, 3)) (ho : 0 ≤ (pc : Int) + o) (hp : ((pc : Int) + o).toNat = pc') (hq : pc + 3 = pc'')
    (gt : y < x → Go nw p l e R s m args below meth c code ml nm ret Z a0 EL own P vm h k n pc' L S) (gf : ¬ y < x → Go nw p l e R s m args below meth c code ml nm ret Z a0 EL own P vm h k n pc'' L S) : Go nw p l e R s m args below meth c code ml nm ret Z a0 EL own P vm h k n pc L (.int y :: .int x :: S) := by
  by_cases q : y < x
  · exact Go.icmpB pc' pc'' hd ho hp hq (fun r => by first | exact gt q | exact absurd (r.symm.trans (tlt q).2.2.1) (by simp)) (fun r => by first | exact gf q | exact absurd (r.symm.trans (tlt q).2.2.1) (by simp))
  · exact Go.icmpB pc' pc'' hd ho hp hq (fun r => by first | exact gt q | exact absurd (r.symm.trans (flt q).2.2.1) (by simp)) (fun r => by first | exact gf q | exact absurd (r.symm.trans (flt q).2.2.1) (by simp))
theorem Go.ifgt {x : Int32} {o : Int} (pc' pc'' : Nat) (hd : decode code pc = .ok (.ifCond .gt o, 3)) (ho : 0 ≤ (pc : Int) + o) (hp : ((pc : Int) + o).toNat = pc') (hq : pc + 3 = pc'')
    (gt : 0 < x → Go nw p l e R s m args below meth c code ml nm ret Z a0 EL own P vm h k n pc' L S) (gf : ¬ 0 < x → Go nw p l e R s m args below meth c code ml nm ret Z a0 EL own P vm h k n pc'' L S) : Go nw p l e R s m args below meth c code ml nm ret Z a0 EL own P vm h k n pc L (.int x :: S) := by
  by_cases q : 0 < x
  · exact Go.ifB pc' pc'' hd ho hp hq (fun r => by first | exact gt q | exact absurd (r.symm.trans ((if0 _ _).trans (tlt q).2.2.1)) (by simp)) (fun r => by first | exact gf q | exact absurd (r.symm.trans ((if0 _ _).trans (tlt q).2.2.1)) (by simp))
  · exact Go.ifB pc' pc'' hd ho hp hq (fun r => by first | exact gt q | exact absurd (r.symm.trans ((if0 _ _).trans (flt q).2.2.1)) (by simp)) (fun r => by first | exact gf q | exact absurd (r.symm.trans ((if0 _ _).trans (flt q).2.2.1)) (by simp))
theorem Go.if_icmple {x y : Int32} {o : Int} (pc' pc'' : Nat) (hd : decode code pc = .ok (.if_icmp .le o, 3)) (ho : 0 ≤ (pc : Int) + o) (hp : ((pc : Int) + o).toNat = pc') (hq : pc + 3 = pc'')
    (gt : ¬ y < x → Go nw p l e R s m args below meth c code ml nm ret Z a0 EL own P vm h k n pc' L S) (gf : y < x → Go nw p l e R s m args below meth c code ml nm ret Z a0 EL own P vm h k n pc'' L S) : Go nw p l e R s m args below meth c code ml nm ret Z a0 EL own P vm h k n pc L (.int y :: .int x :: S) := by
  by_cases q : y < x
  · exact Go.icmpB pc' pc'' hd ho hp hq (fun r => by first | exact gt q | exact absurd (r.symm.trans (tlt q).2.2.2) (by simp)) (fun r => by first | exact gf q | exact absurd (r.symm.trans (tlt q).2.2.2) (by simp))
  · exact Go.icmpB pc' pc'' hd ho hp hq (fun r => by first | exact gt q | exact absurd (r.symm.trans (flt q).2.2.2) (by simp)) (fun r => by first | exact gf q | exact absurd (r.symm.trans (flt q).2.2.2) (by simp))
theorem Go.ifle {x : Int32} {o : Int} (pc' pc'' : Nat) (hd : decode code pc = .ok (.ifCond .le o, 3)) (ho : 0 ≤ (pc : Int) + o) (hp : ((pc : Int) + o).toNat = pc') (hq : pc + 3 = pc'')
    (gt : ¬ 0 < x → Go nw p l e R s m args below meth c code ml nm ret Z a0 EL own P vm h k n pc' L S) (gf : 0 < x → Go nw p l e R s m args below meth c code ml nm ret Z a0 EL own P vm h k n pc'' L S) : Go nw p l e R s m args below meth c code ml nm ret Z a0 EL own P vm h k n pc L (.int x :: S) := by
  by_cases q : 0 < x
  · exact Go.ifB pc' pc'' hd ho hp hq (fun r => by first | exact gt q | exact absurd (r.symm.trans ((if0 _ _).trans (tlt q).2.2.2)) (by simp)) (fun r => by first | exact gf q | exact absurd (r.symm.trans ((if0 _ _).trans (tlt q).2.2.2)) (by simp))
  · exact Go.ifB pc' pc'' hd ho hp hq (fun r => by first | exact gt q | exact absurd (r.symm.trans ((if0 _ _).trans (flt q).2.2.2)) (by simp)) (fun r => by first | exact gf q | exact absurd (r.symm.trans ((if0 _ _).trans (flt q).2.2.2)) (by simp))
theorem Go.ifnull_y {o : Int} (pc' : Nat) (hd : decode code pc = .ok (.ifnull o, 3)) (ho : 0 ≤ (pc : Int) + o) (hp : ((pc : Int) + o).toNat = pc') (g : Go nw p l e R s m args below meth c code ml nm ret Z a0 EL own P vm h k n pc' L S) : Go nw p l e R s m args below meth c code ml nm ret Z a0 EL own P vm h k n pc L (.null :: S) :=
  g.step fun T hT hx hc _ q => XS.ifnullYes hT hx rfl rfl (hb hc hd) rfl ho hp q
theorem Go.ifnull_n {o : Int} {b : Addr} (pc' : Nat) (hd : decode code pc = .ok (.ifnull o, 3)) (hp : pc + 3 = pc') (g : Go nw p l e R s m args below meth c code ml nm ret Z a0 EL own P vm h k n pc' L S) : Go nw p l e R s m args below meth c code ml nm ret Z a0 EL own P vm h k n pc L (.ref b :: S) := by
  subst hp; exact g.step fun T hT hx hc _ q => XS.ifnullNo hT hx rfl (hb hc hd) rfl q
theorem Go.ifnonnull_y {o : Int} {b : Addr} (pc' : Nat) (hd : decode code pc = .ok (.ifnonnull o, 3)) (ho : 0 ≤ (pc : Int) + o) (hp : ((pc : Int) + o).toNat = pc') (g : Go nw p l e R s m args below meth c code ml nm ret Z a0 EL own P vm h k n pc' L S) : Go nw p l e R s m args below meth c code ml nm ret Z a0 EL own P vm h k n pc L (.ref b :: S) :=
  g.step fun T hT hx hc _ q => XS.ifnonnullYes hT hx rfl rfl (hb hc hd) rfl ho hp q
theorem Go.ifnonnull_n {o : Int} (pc' : Nat) (hd : decode code pc = .ok (.ifnonnull o, 3)) (hp : pc + 3 = pc') (g : Go nw p l e R s m args below meth c code ml nm ret Z a0 EL own P vm h k n pc' L S) : Go nw p l e R s m args below meth c code ml nm ret Z a0 EL own P vm h k n pc L (.null :: S) := by
  subst hp; exact g.step fun T hT hx hc _ q => XS.ifnonnullNo hT hx rfl (hb hc hd) rfl q
theorem Go.acmp_y {cd : ClassFile.ACond} {x y : Value} {o : Int} (pc' : Nat) (hd : decode code pc = .ok (.if_acmp cd o, 3)) (ho : 0 ≤ (pc : Int) + o) (hp : ((pc : Int) + o).toNat = pc') (h1 : x.isRef = true) (h2 : y.isRef = true) (hq : XT.acmp cd x y = true) (g : Go nw p l e R s m args below meth c code ml nm ret Z a0 EL own P vm h k n pc' L S) : Go nw p l e R s m args below meth c code ml nm ret Z a0 EL own P vm h k n pc L (y :: x :: S) :=
  g.step fun T hT hx hc _ q => XT.acmpYes hT hx rfl rfl (hb hc hd) rfl h1 h2 hq ho hp q
theorem Go.acmp_n {cd : ClassFile.ACond} {x y : Value} {o : Int} (pc' : Nat) (hd : decode code pc = .ok (.if_acmp cd o, 3)) (hp : pc + 3 = pc') (h1 : x.isRef = true) (h2 : y.isRef = true) (hq : XT.acmp cd x y = false) (g : Go nw p l e R s m args below meth c code ml nm ret Z a0 EL own P vm h k n pc' L S) : Go nw p l e R s m args below meth c code ml nm ret Z a0 EL own P vm h k n pc L (y :: x :: S) := by
  subst hp; exact g.step fun T hT hx hc _ q => XT.acmpNo hT hx rfl (hb hc hd) rfl h1 h2 hq q
theorem Go.getfield {O n' d : String} {idx : Nat} {a : Addr} {v : Value} (pc' : Nat) (hd : decode code pc = .ok (.getfield idx, 3)) (hp : pc + 3 = pc') (w : (Cond.fieldLink own idx O n' d).before a0 Z = true) (F : Fld Z h a O n' d v) (g : Go nw p l e R s m args below meth c code ml nm ret Z a0 EL own P vm h k n pc' L (v :: S)) : Go nw p l e R s m args below meth c code ml nm ret Z a0 EL own P vm h k n pc L (.ref a :: S) := by
  subst hp
  exact g.note fun T locs cells slots X hh hx hc hm hon => getF X hx hon.2.1 (host := "") hon.2.2.1 (Or.inl w) Via.refl hh F (g := mkF m pc L (.ref a :: S)) rfl rfl (hb hc hd)
theorem Go.getfieldV {R0 O n' d : String} {idx : Nat} {a : Addr} {v : Value} (pc' : Nat) (hd : decode code pc = .ok (.getfield idx, 3)) (hp : pc + 3 = pc') (w : (Cond.fieldLink own idx R0 n' d).before a0 Z = true) (via : (Cond.sameField R0 O n' d).before a0 Z = true) (F : Fld Z h a O n' d v) (g : Go nw p l e R s m args below meth c code ml nm ret Z a0 EL own P vm h k n pc' L (v :: S)) : Go nw p l e R s m args below meth c code ml nm ret Z a0 EL own P vm h k n pc L (.ref a :: S) := by
  subst hp
  exact g.note fun T locs cells slots X hh hx hc hm hon => getF X hx hon.2.1 (host := "") hon.2.2.1 (Or.inl w) (Via.of via) hh F (g := mkF m pc L (.ref a :: S)) rfl rfl (hb hc hd)
theorem Go.getstatic {O n' d : String} {idx : Nat} {v : Value} (pc' : Nat) (hd : decode code pc = .ok (.getstatic idx, 3)) (hp : pc + 3 = pc') (w : (Cond.fieldLink own idx O n' d).before a0 Z = true) (F : Sta Z h O n' d v) (g : Go nw p l e R s m args below meth c code ml nm ret Z a0 EL own P vm h k n pc' L (v :: S)) : Go nw p l e R s m args below meth c code ml nm ret Z a0 EL own P vm h k n pc L S := by
  subst hp
  exact g.note fun T locs cells slots X hh hx hc hm hon => getS X hx hon.2.1 (host := "") hon.2.2.1 w Via.refl hh F (g := mkF m pc L S) rfl (hb hc hd)
theorem Go.putfield {O n' d C : String} {idx kk : Nat} {ty : FieldType} {a : Addr} {v v0 : Value} (pc' : Nat) (hd : decode code pc = .ok (.putfield idx, 3)) (hp : pc + 3 = pc') (w : (Cond.fieldLink own idx O n' d).before a0 Z = true) (F : Fld Z h a O n' d v0) (E : Exa Z h a C)
    (Lf : (Cond.lays C O n' d).before a0 Z = true ∨ ((Cond.laysFinal C O n' d).before a0 Z = true ∧ own = O ∧ nm = "<init>")) (wi : (Cond.instantiable C kk).before a0 Z = true) (hty : parseFieldDescriptor d = some ty) (hn' : narrow ty v = v) (hf : fits ty v = true)
    (Sa : Safe Z EL vm h a) (hz : Z.heap.size ≤ a) (g : ∀ h', Wr h h' a (RoadKit.slotOf Z O n' d) v → Safe Z EL vm h' a → CHr Z EL vm h vm h' → Go nw p l e R s m args below meth c code ml nm ret Z a0 EL own P vm h' k n pc' L S) : Go nw p l e R s m args below meth c code ml nm ret Z a0 EL own P vm h k n pc L (v :: .ref a :: S) := by
  subst hp
  refine Go.wrote Sa hz (fun T locs cells slots X hh hx hc hm hnm hon => ?_) g
  exact putF X hx hon.2.1 (host := "") hon.2.2.1 (Or.inl w) Via.refl hh F E (Lf.imp id fun q => ⟨q.1, q.2.1, hnm.trans q.2.2⟩) wi hty hn' hf (g := mkF m pc L (v :: .ref a :: S)) rfl rfl (hb hc hd)
theorem Go.putfieldV {R0 O n' d C : String} {idx kk : Nat} {ty : FieldType} {a : Addr} {v v0 : Value} (pc' : Nat) (hd : decode code pc = .ok (.putfield idx, 3)) (hp : pc + 3 = pc') (w : (Cond.fieldLink own idx R0 n' d).before a0 Z = true) (via : (Cond.sameField R0 O n' d).before a0 Z = true) (F : Fld Z h a O n' d v0) (E : Exa Z h a C)
    (Lf : (Cond.lays C O n' d).before a0 Z = true ∨ ((Cond.laysFinal C O n' d).before a0 Z = true ∧ own = O ∧ nm = "<init>")) (wi : (Cond.instantiable C kk).before a0 Z = true) (hty : parseFieldDescriptor d = some ty) (hn' : narrow ty v = v) (hf : fits ty v = true)
    (Sa : Safe Z EL vm h a) (hz : Z.heap.size ≤ a) (g : ∀ h', Wr h h' a (RoadKit.slotOf Z O n' d) v → Safe Z EL vm h' a → CHr Z EL vm h vm h' → Go nw p l e R s m args below meth c code ml nm ret Z a0 EL own P vm h' k n pc' L S) : Go nw p l e R s m args below meth c code ml nm ret Z a0 EL own P vm h k n pc L (v :: .ref a :: S) := by
  subst hp
  refine Go.wrote Sa hz (fun T locs cells slots X hh hx hc hm hnm hon => ?_) g
  exact putF X hx hon.2.1 (host := "") hon.2.2.1 (Or.inl w) (Via.of via) hh F E (Lf.imp id fun q => ⟨q.1, q.2.1, hnm.trans q.2.2⟩) wi hty hn' hf (g := mkF m pc L (v :: .ref a :: S)) rfl rfl (hb hc hd)
theorem Go.new {C : String} {idx nf : Nat} (pc' : Nat) (hd : decode code pc = .ok (.new idx, 3)) (hp : pc + 3 = pc') (w : (Cond.classLink own idx C).before a0 Z = true) (wi : (Cond.instantiable C nf).before a0 Z = true) (wz : (Cond.initialized C).before a0 Z = true) (hk0 : k + 1 ≤ R.cells) (hn0 : n + nf ≤ R.slots)
    (g : ∀ a h', a = h.size → Ext h h' → (Exa Z h' a C ∧ ∀ {O n' d : String} {ty : FieldType}, Laid Z a0 C O n' d → parseFieldDescriptor d = some ty → Fld Z h' a O n' d (defaultValue ty)) → Safe Z EL vm h' a → Z.heap.size ≤ a → CHr Z EL vm h vm h' → Go nw p l e R s m args below meth c code ml nm ret Z a0 EL own P vm h' (k + 1) (n + nf) pc' L (.ref a :: S)) : Go nw p l e R s m args below meth c code ml nm ret Z a0 EL own P vm h k n pc L S := by
  subst hp
  refine Go.made (dk := 1) (dn := nf) (S' := fun a => .ref a :: S) (F := fun h' a => Exa Z h' a C ∧ ∀ {O n' d : String} {ty : FieldType}, Laid Z a0 C O n' d → parseFieldDescriptor d = some ty → Fld Z h' a O n' d (defaultValue ty)) hk0 hn0 (fun T locs cells slots X hh hx hc hm hon q1 q2 => ?_) g
  obtain ⟨T', h', X', e', E, A, D, -, st⟩ := newO X hx hon.2.1 hon.2.2.1 w wi wz hh (g := mkF m pc L S) rfl (hb hc hd) q1 q2
  exact ⟨T', h', X', e', E, ⟨A, D⟩, st⟩
theorem Go.newarray {aty : ArrayType} {z : Int32} (cap : Nat) (pc' : Nat) (hd : decode code pc = .ok (.newarray aty, 2)) (hp : pc + 2 = pc') (w : (Cond.arrayClass (newarray.typeOf aty)).before a0 Z = true) (hz : ¬ z < 0) (hcap : z.toNatClampNeg ≤ cap) (hb8 : cap * 8 ≤ 536870912) (hk0 : k + 1 ≤ R.cells) (hn0 : n + cap ≤ R.slots)
    (g : ∀ a h', a = h.size → Ext h h' → (∃ cA, Arv Z h' a cA (newarray.typeOf aty) z [] (defaultValue (newarray.typeOf aty))) → Safe Z EL vm h' a → Z.heap.size ≤ a → CHr Z EL vm h vm h' → Go nw p l e R s m args below meth c code ml nm ret Z a0 EL own P vm h' (k + 1) (n + cap) pc' L (.ref a :: S)) : Go nw p l e R s m args below meth c code ml nm ret Z a0 EL own P vm h k n pc L (.int z :: S) := by
  subst hp
  refine Go.made (dk := 1) (dn := cap) (S' := fun a => .ref a :: S) (F := fun h' a => ∃ cA, Arv Z h' a cA (newarray.typeOf aty) z [] (defaultValue (newarray.typeOf aty))) hk0 hn0 (fun T locs cells slots X hh hx hc hm hon q1 q2 => ?_) g
  obtain ⟨T', h', cA, X', e', E, A, st⟩ := newP X hx hon.2.1 w hh (g := mkF m pc L (.int z :: S)) rfl (hb hc hd) rfl hz hcap hb8 q1 q2
  exact ⟨T', h', X', e', E, ⟨cA, Arv.new A hz⟩, st⟩
theorem Go.arraylength {a : Addr} {kA : ClassId} {ty : FieldType} {z : Int32} {vs : List Value} {dv : Value} (pc' : Nat) (hd : decode code pc = .ok (.arraylength, 1)) (hp : pc + 1 = pc') (A : Arv Z h a kA ty z vs dv) (g : Go nw p l e R s m args below meth c code ml nm ret Z a0 EL own P vm h k n pc' L (.int z :: S)) : Go nw p l e R s m args below meth c code ml nm ret Z a0 EL own P vm h k n pc L (.ref a :: S) := by
  subst hp
  refine g.note fun T locs cells slots X hh hx hc hm hon => ⟨T, X, hh, fun target q => ?_⟩
  obtain ⟨cl, A1, A2, A3, A4, A5, A6⟩ := A
  refine X.arraylength hx (cell := cl) (by rw [hh]; exact A1.1) (State.isArrayOf_alike hon.2.1.alike A1.2.1) (g := mkF m pc L (.ref a :: S)) rfl (rest := S) rfl (hb hc hd) _ ?_
  rw [len_of A3 A4]; exact q
theorem Go.caload {a : Addr} {kA : ClassId} {z j : Int32} {vs : List Value} {dv : Value} (v : Value) (pc' : Nat) (hd : decode code pc = .ok (.caload, 1)) (hp : pc + 1 = pc') (A : Arv Z h a kA .char z vs dv) (hj : ¬ j < 0 ∧ j < z) (hv : vs.getD j.toNatClampNeg dv = v) (g : Go nw p l e R s m args below meth c code ml nm ret Z a0 EL own P vm h k n pc' L (v :: S)) : Go nw p l e R s m args below meth c code ml nm ret Z a0 EL own P vm h k n pc L (.int j :: .ref a :: S) := by
  subst hp
  refine g.note fun T locs cells slots X hh hx hc hm hon => ⟨T, X, hh, fun target q => ?_⟩
  obtain ⟨cl, A1, A2, A3, A4, A5, A6⟩ := A
  have hin := inb_of A3 hj
  exact X.caload hx (by rw [hh]; exact A1.1) (State.isArrayOf_alike hon.2.1.alike A1.2.1) A1.2.2 hin (A5.at hin hv) (g := mkF m pc L (.int j :: .ref a :: S)) rfl rfl (hb hc hd) _ q
theorem Go.iaload {a : Addr} {kA : ClassId} {z j : Int32} {vs : List Value} {dv : Value} (v : Value) (pc' : Nat) (hd : decode code pc = .ok (.iaload, 1)) (hp : pc + 1 = pc') (A : Arv Z h a kA .int z vs dv) (hj : ¬ j < 0 ∧ j < z) (hv : vs.getD j.toNatClampNeg dv = v) (g : Go nw p l e R s m args below meth c code ml nm ret Z a0 EL own P vm h k n pc' L (v :: S)) : Go nw p l e R s m args below meth c code ml nm ret Z a0 EL own P vm h k n pc L (.int j :: .ref a :: S) := by
  subst hp
  refine g.note fun T locs cells slots X hh hx hc hm hon => ⟨T, X, hh, fun target q => ?_⟩
  obtain ⟨cl, A1, A2, A3, A4, A5, A6⟩ := A
  have hin := inb_of A3 hj
  exact X.iaload hx (by rw [hh]; exact A1.1) (State.isArrayOf_alike hon.2.1.alike A1.2.1) A1.2.2 hin (A5.at hin hv) (g := mkF m pc L (.int j :: .ref a :: S)) rfl rfl (hb hc hd) _ q
theorem Go.baload {a : Addr} {kA : ClassId} {z j : Int32} {vs : List Value} {dv : Value} (v : Value) (pc' : Nat) (hd : decode code pc = .ok (.baload, 1)) (hp : pc + 1 = pc') (A : Arv Z h a kA .byte z vs dv) (hj : ¬ j < 0 ∧ j < z) (hv : vs.getD j.toNatClampNeg dv = v) (g : Go nw p l e R s m args below meth c code ml nm ret Z a0 EL own P vm h k n pc' L (v :: S)) : Go nw p l e R s m args below meth c code ml nm ret Z a0 EL own P vm h k n pc L (.int j :: .ref a :: S) := by
  subst hp
  refine g.note fun T locs cells slots X hh hx hc hm hon => ⟨T, X, hh, fun target q => ?_⟩
  obtain ⟨cl, A1, A2, A3, A4, A5, A6⟩ := A
  have hin := inb_of A3 hj
  exact X.baloadBytes hx (by rw [hh]; exact A1.1) (State.isArrayOf_alike hon.2.1.alike A1.2.1) A1.2.2 hin (A5.at hin hv) (g := mkF m pc L (.int j :: .ref a :: S)) rfl rfl (hb hc hd) _ q
theorem Go.aaload {a : Addr} {kA : ClassId} {ty : FieldType} {z j : Int32} {vs : List Value} {dv : Value} (v : Value) (pc' : Nat) (hd : decode code pc = .ok (.aaload, 1)) (hp : pc + 1 = pc') (A : Arv Z h a kA ty z vs dv) (hty : ty.isReference = true) (hj : ¬ j < 0 ∧ j < z) (hv : vs.getD j.toNatClampNeg dv = v) (g : Go nw p l e R s m args below meth c code ml nm ret Z a0 EL own P vm h k n pc' L (v :: S)) : Go nw p l e R s m args below meth c code ml nm ret Z a0 EL own P vm h k n pc L (.int j :: .ref a :: S) := by
  subst hp
  refine g.note fun T locs cells slots X hh hx hc hm hon => ⟨T, X, hh, fun target q => ?_⟩
  obtain ⟨cl, A1, A2, A3, A4, A5, A6⟩ := A
  have hin := inb_of A3 hj
  exact X.aaload hx (by rw [hh]; exact A1.1) (State.isArrayOf_alike hon.2.1.alike A1.2.1) hty A1.2.2 hin (A5.at hin hv) (g := mkF m pc L (.int j :: .ref a :: S)) rfl rfl (hb hc hd) _ q
theorem Go.castore {a : Addr} {kA : ClassId} {z j x : Int32} {vs : List Value} {dv : Value} (i : Nat) (y : Int32) (vs' : List Value) (pc' : Nat) (hd : decode code pc = .ok (.castore, 1)) (hp : pc + 1 = pc') (A : Arv Z h a kA .char z vs dv) (hj : ¬ j < 0 ∧ j < z) (hi : j.toNatClampNeg = i) (hl : i < vs.length) (hy : nar .char x = y) (hvs : vs.set i (.int y) = vs') (Sa : Safe Z EL vm h a) (hz : Z.heap.size ≤ a)
    (g : ∀ h', Keep h h' [a] → Arv Z h' a kA .char z vs' dv → Safe Z EL vm h' a → CHr Z EL vm h vm h' → Go nw p l e R s m args below meth c code ml nm ret Z a0 EL own P vm h' k n pc' L S) : Go nw p l e R s m args below meth c code ml nm ret Z a0 EL own P vm h k n pc L (.int x :: .int j :: .ref a :: S) := by
  subst hp hy hvs
  obtain ⟨cl, A1, A2, A3, A4, A5, A6⟩ := A
  have hin := inb_of A3 hj
  refine Go.wrote Sa hz (sl := j.toNatClampNeg) (w := .int (nar .char x)) (fun T locs cells slots X hh hx hc hm hnm hon => ?_) (fun h' W s2 ch => g h' (Keep.of_wr W) (Arv.set A1 A2 A3 A4 A5 A6 (fits_nar_char _) W i hi hl) s2 ch)
  exact stC X hx hon.2.1 hh A1 hin (g := mkF m pc L (.int x :: .int j :: .ref a :: S)) rfl rfl (hb hc hd)
theorem Go.iastore {a : Addr} {kA : ClassId} {z j x : Int32} {vs : List Value} {dv : Value} (i : Nat) (y : Int32) (vs' : List Value) (pc' : Nat) (hd : decode code pc = .ok (.iastore, 1)) (hp : pc + 1 = pc') (A : Arv Z h a kA .int z vs dv) (hj : ¬ j < 0 ∧ j < z) (hi : j.toNatClampNeg = i) (hl : i < vs.length) (hy : x = y) (hvs : vs.set i (.int y) = vs') (Sa : Safe Z EL vm h a) (hz : Z.heap.size ≤ a)
    (g : ∀ h', Keep h h' [a] → Arv Z h' a kA .int z vs' dv → Safe Z EL vm h' a → CHr Z EL vm h vm h' → Go nw p l e R s m args below meth c code ml nm ret Z a0 EL own P vm h' k n pc' L S) : Go nw p l e R s m args below meth c code ml nm ret Z a0 EL own P vm h k n pc L (.int x :: .int j :: .ref a :: S) := by
  subst hp hy hvs
  obtain ⟨cl, A1, A2, A3, A4, A5, A6⟩ := A
  have hin := inb_of A3 hj
  refine Go.wrote Sa hz (sl := j.toNatClampNeg) (w := .int (x)) (fun T locs cells slots X hh hx hc hm hnm hon => ?_) (fun h' W s2 ch => g h' (Keep.of_wr W) (Arv.set A1 A2 A3 A4 A5 A6 (rfl) W i hi hl) s2 ch)
  exact stI X hx hon.2.1 hh A1 hin (g := mkF m pc L (.int x :: .int j :: .ref a :: S)) rfl rfl (hb hc hd)
theorem Go.bastore {a : Addr} {kA : ClassId} {z j x : Int32} {vs : List Value} {dv : Value} (i : Nat) (y : Int32) (vs' : List Value) (pc' : Nat) (hd : decode code pc = .ok (.bastore, 1)) (hp : pc + 1 = pc') (A : Arv Z h a kA .byte z vs dv) (hj : ¬ j < 0 ∧ j < z) (hi : j.toNatClampNeg = i) (hl : i < vs.length) (hy : x.toInt8.toInt32 = y) (hvs : vs.set i (.int y) = vs') (Sa : Safe Z EL vm h a) (hz : Z.heap.size ≤ a)
    (g : ∀ h', Keep h h' [a] → Arv Z h' a kA .byte z vs' dv → Safe Z EL vm h' a → CHr Z EL vm h vm h' → Go nw p l e R s m args below meth c code ml nm ret Z a0 EL own P vm h' k n pc' L S) : Go nw p l e R s m args below meth c code ml nm ret Z a0 EL own P vm h k n pc L (.int x :: .int j :: .ref a :: S) := by
  subst hp hy hvs
  obtain ⟨cl, A1, A2, A3, A4, A5, A6⟩ := A
  have hin := inb_of A3 hj
  refine Go.wrote Sa hz (sl := j.toNatClampNeg) (w := .int (x.toInt8.toInt32)) (fun T locs cells slots X hh hx hc hm hnm hon => ?_) (fun h' W s2 ch => g h' (Keep.of_wr W) (Arv.set A1 A2 A3 A4 A5 A6 (fits_nar_byte _) W i hi hl) s2 ch)
  exact stB X hx hon.2.1 hh A1 hin (g := mkF m pc L (.int x :: .int j :: .ref a :: S)) rfl rfl (hb hc hd)
theorem Go.fin {v : Option Value} (hk0 : k ≤ R.cells) (hn0 : n ≤ R.slots) (hv : ret = none → v = none) (hP : ∀ vm', CHr Z EL vm h vm' h → P v vm' h)
    (st : ∀ (T : State) (locs : List Loc) (cells slots : Nat), Stand p l e R (s.setVm vm) m args below meth c T locs cells slots → p.tables.exec = Jvm.exec → c.code = code → meth.sig.returnType = ret → ∀ fs : List Frame, (∀ (f : JFrame) (acts : List Action), f.method = m → f.locked = none → f.entered = [] → (doReturn e (T.setTop f) acts v).1 = T.setFrames fs) → Steps p.tables e below (T.setTop (mkF m pc L S)) (T.setFrames fs)) : Go nw p l e R s m args below meth c code ml nm ret Z a0 EL own P vm h k n pc L S := by
  intro hx hc hm hl hnm hr hon T locs cells slots X hh hF hk hn
  obtain ⟨⟨k0, a1, a2⟩, a3, a4, a5, a6, a7, a8⟩ := hon
  obtain ⟨fs, h1, h2, h3, h4⟩ := X.leaveW a1 (by rw [hh]; exact a2) (v := v) (fun q => hv (hr ▸ q)) hl
  have ch : CHr Z EL vm h T.vm h := CHv.at X a3 a7 a5
  have hh' : (T.setFrames fs).heap = h := hh
  refine ⟨_, v, st T locs cells slots X hx hc hr fs h1, h2, h3, by rw [hh']; exact hP _ ch, by rw [hh']; exact ch, by rw [hh']; exact a6, locs, hF, ?_, fun q => ?_⟩
  · obtain ⟨q1, q2, q3, q4⟩ := h4
    exact ⟨q1, q2, q3, q4.mono (Nat.le_trans hk hk0) (Nat.le_trans hn hn0)⟩
  · exact State.WarmedH.trans (t := s.setVm vm) (a8 q) X.warmed
theorem Go.return_ (hd : decode code pc = .ok (.return_, 1)) (hr : ret = none) (hk0 : k ≤ R.cells) (hn0 : n ≤ R.slots) (hP : ∀ vm', CHr Z EL vm h vm' h → P none vm' h) : Go nw p l e R s m args below meth c code ml nm ret Z a0 EL own P vm h k n pc L ([]) :=
  Go.fin (v := none) hk0 hn0 (fun _ => rfl) hP fun T locs cells slots X hx hc hrt fs hl => X.returnOut hx (hrt.trans hr) (hb hc hd) hl
theorem Go.areturn {t : FieldType} {w : Value} (hd : decode code pc = .ok (.areturn, 1)) (hr : ret = some t) (ht : t.isReference = true) (hw : w.isRef = true) (hk0 : k ≤ R.cells) (hn0 : n ≤ R.slots) (hP : ∀ vm', CHr Z EL vm h vm' h → P (some w) vm' h) : Go nw p l e R s m args below meth c code ml nm ret Z a0 EL own P vm h k n pc L (w :: S) :=
  Go.fin (v := some w) hk0 hn0 (fun q => by rw [hr] at q; cases q) hP fun T locs cells slots X hx hc hrt fs hl => retOut X hx (hrt.trans hr) (by cases t <;> first | rfl | cases ht) (Or.inr (Or.inr (Or.inr (Or.inr ⟨rfl, ht, hw⟩)))) (hb hc hd) hl
theorem Go.ireturn {t : FieldType} {x : Int32} (hd : decode code pc = .ok (.ireturn, 1)) (hr : ret = some t) (hn' : narrow t (.int x) = .int x) (ht : t = .int ∨ t = .boolean ∨ t = .byte ∨ t = .char ∨ t = .short) (hk0 : k ≤ R.cells) (hn0 : n ≤ R.slots) (hP : ∀ vm', CHr Z EL vm h vm' h → P (some (.int x)) vm' h) : Go nw p l e R s m args below meth c code ml nm ret Z a0 EL own P vm h k n pc L (.int x :: S) :=
  Go.fin (v := some (.int x)) hk0 hn0 (fun q => by rw [hr] at q; cases q) hP fun T locs cells slots X hx hc hrt fs hl => retOut X hx (hrt.trans hr) hn' (Or.inl ⟨rfl, ht, _, rfl⟩) (hb hc hd) hl
theorem Go.initObject {idx : Nat} {a : Addr} (W : Nat) (pc' : Nat) (hd : decode code pc = .ok (.invokespecial idx, 3)) (hp : pc + 3 = pc') (w1 : (Cond.methodLink own idx Lib.objectInit).before a0 Z = true) (w2 : (Cond.instanceMethod Lib.objectInit).before a0 Z = true) (w3 : (Cond.code Lib.objectInit ⟨#[0xb1]⟩ 1 none).before a0 Z = true)
    (hsz : L.size = ml) (hf : 1 ≤ R.frames) (hW : (S.map fun v => v.category).sum ≤ W) (hl : W + 12 ≤ R.locals) (g : Go nw p l e R s m args below meth c code ml nm ret Z a0 EL own P vm h k n pc' L S) : Go nw p l e R s m args below meth c code ml nm ret Z a0 EL own P vm h k n pc L (.ref a :: S) := by
  subst hp
  exact g.note fun T locs cells slots X hh hx hc hm hon => initO X hx hon.2.1 hon.2.2.1 w1 w2 w3 hh (g := mkF m pc L (.ref a :: S)) rfl (hsz.trans hm.symm) rfl (hb hc hd) hf (by show 2 * 0 + _ ≤ _; omega) hl
/-- what a callee promises: at the heap h and tables that have booked no more than vm -/
def Ctr (nw : Bool) (l : Launch) (Z : State) (a0 : Array Value) (EL : List (String × Nat)) (y : MethodName) (code : ByteArray) (ml : Nat) (ret : Option FieldType) (rm : Room) (as' : Array Value) (vm : Vm) (h : Heap) (Q : Option Value → Vm → Heap → Prop) : Prop :=
  ∀ ws : List Jvm.Cond, MetFree l y (head1 (Jvm.Cond.code y code ml ret :: ws) rm) (fun a U => a = as' ∧ Z.Warmed39 U.vm ∧ U.heap = h ∧ CHr Z EL vm h U.vm h ∧ Ext Z.heap h ∧ EW Z a0 EL) (fun _ _ _ _ _ => True)
    (fun _ U o U' => ∃ v L, o = .returned v ∧ Q v U'.vm U'.heap ∧ CHr Z EL U.vm h U'.vm U'.heap ∧ Ext Z.heap U'.heap ∧ Fr Z.heap.size L ∧ ReturnedEndW U o U' L rm.cells rm.slots ∧ (nw = true → U.WarmedH U'.vm))
theorem Ctr.of_go {y : MethodName} {rm : Room} {as' : Array Value} {Q : Option Value → Vm → Heap → Prop} {L0 : Array Slot} (hpn : plainFor y = true) (hent : ∀ m, entryFrame m as' ml = mkF m 0 L0 [])
    (body : ∀ (p : Program) (e : Env) (s : State) (m : MethodId) (below : List Frame) (meth : Method) (c : Code) (vm1 : Vm), CHr Z EL vm h vm1 h → Go nw p l e rm s m as' below meth c code ml y.name ret Z a0 EL y.cls Q vm1 h 0 0 0 L0 []) : Ctr nw l Z a0 EL y code ml ret rm as' vm h Q := by
  intro ws
  refine MetFree.of_bodySF hpn hisR ?_
  intro p e s m args below meth c s₁ Bd hml0 hP hK
  obtain ⟨rfl, hZ, hh, hch, hext, hew⟩ := hP
  have e0 : s₁.heap = h := by rw [← hh, Bd.state]; rfl
  have X0 : Stand p l e rm (s.setVm s.vm) m args below meth c s₁ [] 0 0 := Stand.of_body Bd
  obtain ⟨s₂, v, st, h1, h2, h3, h4, hE, L', h5, h6, h7⟩ := body p e s m below meth c s.vm hch Bd.exec Bd.bytes hml0 Bd.notSynchronized (name_of_methodNamed Bd.named Bd.method).1 Bd.returns
    ⟨⟨0, (State.WarmedH.refl s).since _, Nat.zero_le _⟩, hZ, findClass_of_methodNamed Bd.named, hch.1, hext, hew, fun _ => State.WarmedH.refl s⟩ s₁ [] 0 0 X0 e0 (Fr.nil _) (Nat.le_refl _) (Nat.le_refl _)
  exact ⟨s₂, _, castTop (hent m) st, h1, h2, v, L', rfl, h3, h4, hE, h5, h6, h7⟩
/-- the callee's contract, as a call wants it -/
theorem Ctr.back {y : MethodName} {code' : ByteArray} {ml' : Nat} {ret' : Option FieldType} {rm : Room} {as' : Array Value} {Q : Option Value → Vm → Heap → Prop} {len W : Nat} (C : Ctr nw l Z a0 EL y code' ml' ret' rm as' vm h Q) (hon : On nw s m Z a0 EL own vm h)
    (wc : (Jvm.Cond.code y code' ml' ret').before a0 Z = true) (wz : (Jvm.Cond.initialized y.cls).before a0 Z = true) (hf : rm.frames + 1 ≤ R.frames) (hl : W + (ml' + 11) + rm.locals ≤ R.locals) :
    BackS l R p e below (s.setVm vm) args y len W (fun A a => a = as' ∧ A.U.heap = h ∧ A.cells + rm.cells ≤ R.cells ∧ A.slots + rm.slots ≤ R.slots)
      (fun A _ v B => ∃ L, Q v B.U.vm B.U.heap ∧ CHr Z EL vm h B.U.vm B.U.heap ∧ Ext Z.heap B.U.heap ∧ Fr Z.heap.size L ∧ B.locs = A.locs ++ L ∧ B.cells = A.cells + rm.cells ∧ B.slots = A.slots + rm.slots ∧ (nw = true → s.WarmedH B.U.vm)) := by
  obtain ⟨⟨k0, a1, a2⟩, a3, a4, a5, a6, a7, a8⟩ := hon
  refine BackS.of_freeW (bytes := code') (maxL := ml') (ret := ret') (E := fun _ first o t L k n => k = rm.cells ∧ n = rm.slots ∧ (∃ v, o = .returned v ∧ Q v t.vm t.heap) ∧ CHr Z EL first.vm h t.vm t.heap ∧ Ext Z.heap t.heap ∧ Fr Z.heap.size L ∧ (nw = true → first.WarmedH t.vm)) (C []) hf hl
    (fun m meth c A a Y hp => have hU : Z.Warmed39 A.U.vm := wtrans (s := s.setVm vm) a3 Y.warmed
      ⟨by show (Jvm.Cond.and _ .tt).before a A.U = true; rw [Cond.before_and, mv hU wc]; rfl, mv hU wc, mv hU wz, hp.2.2.1, hp.2.2.2⟩)
    (fun m meth c A a g mk Y hp => ⟨hp.1, wtrans (s := s.setVm vm) a3 Y.warmed, hp.2.1, (show CHr Z EL vm h A.U.vm h from CHv.at Y a3 a7 a5), a6, a7⟩) (fun _ _ _ _ _ _ _ _ _ => trivial)
    (fun _ _ _ _ ⟨v, L, h1, h2, h3, hE, h4, h5, h6⟩ => ⟨L, _, _, h5, rfl, rfl, ⟨v, h1, h2⟩, h3, hE, h4, h6⟩)
    (fun m meth c A a g mk v t L k n Y hp _ _ hE => ?_)
  obtain ⟨e1, e2, ⟨v', e3, e4⟩, e5, e5', e6, e7⟩ := hE
  cases e3; subst e1 e2
  refine ⟨L, e4, (CHv.at Y a3 a7 a5).trans e5, e5', e6, rfl, rfl, rfl, fun q => ?_⟩
  have w1 : s.WarmedH A.U.vm := State.WarmedH.trans (t := s.setVm vm) (a8 q) Y.warmed
  exact State.WarmedH.trans (t := A.U) w1 (e7 q)
/-- behind a call that a BackS pays -/
theorem Go.called {rm : Room} {Q : Option Value → Vm → Heap → Prop} {len pc' : Nat} {rest : List Value} (hp : pc + len = pc') (hk0 : k + rm.cells ≤ R.cells) (hn0 : n + rm.slots ≤ R.slots)
    (st : ∀ T locs cells slots, Stand p l e R (s.setVm vm) m args below meth c T locs cells slots → T.heap = h → p.tables.exec = Jvm.exec → c.code = code → c.maxLocals = ml → On nw s m Z a0 EL own vm h → cells + rm.cells ≤ R.cells → slots + rm.slots ≤ R.slots →
      ∃ (v : Option Value) (vm₁ : Vm) (B : Pt), (s.setVm vm).WarmedH vm₁ ∧ Stand p l e R ((s.setVm vm).setVm B.U.vm) m args below meth c B.U B.locs B.cells B.slots ∧ (s.setVm vm).Since B.U.vm B.U.heap.size ∧ T.heap.size ≤ B.U.heap.size ∧
        (∃ L, Q v B.U.vm B.U.heap ∧ CHr Z EL vm h B.U.vm B.U.heap ∧ Ext Z.heap B.U.heap ∧ Fr Z.heap.size L ∧ B.locs = locs ++ L ∧ B.cells = cells + rm.cells ∧ B.slots = slots + rm.slots ∧ (nw = true → s.WarmedH B.U.vm)) ∧
        Steps p.tables e below (T.setTop (mkF m pc L S)) (B.U.setTop { mkF m pc L S with pc := pc + len, stack := v.toList ++ rest }))
    (g : ∀ v vm' h', Q v vm' h' → CHr Z EL vm h vm' h' → Go nw p l e R s m args below meth c code ml nm ret Z a0 EL own P vm' h' (k + rm.cells) (n + rm.slots) pc' L (v.toList ++ rest)) : Go nw p l e R s m args below meth c code ml nm ret Z a0 EL own P vm h k n pc L S := by
  intro hx hc hm hl hnm hr hon T locs cells slots X hh hF hk hn
  obtain ⟨v, vm₁, B, -, X', hS, hg, ⟨L1, hQ, hC, hE, hFr, e1, e2, e3, hW⟩, st2⟩ := st T locs cells slots X hh hx hc hm hon (by omega) (by omega)
  obtain ⟨U, Ls, c1, s1⟩ := B
  dsimp only [Pt.U, Pt.locs, Pt.cells, Pt.slots] at X' hS hg hQ hC hE e1 e2 e3 hW st2
  subst e1 e2 e3 hp
  obtain ⟨⟨k0, a1, a2⟩, a3, a4, a5, a6, a7, a8⟩ := hon
  have hon' : On nw s m Z a0 EL own U.vm U.heap := ⟨⟨U.heap.size, a1.trans hS (Nat.le_trans a2 hC.2.1), Nat.le_refl _⟩, State.Warmed39.trans (t := s.setVm vm) a3 hS.1, (hS.1.alike.findClass _ _).trans a4, hC.1, hE, a7, hW⟩
  obtain ⟨s₂, v2, st3, r1, r2, r3, r4, r5⟩ := g v U.vm U.heap hQ hC hx hc hm hl hnm hr hon' U _ _ _ X' rfl (Fr.app hF hFr) (by omega) (by omega)
  exact ⟨s₂, v2, st2.trans st3, r1, r2, r3, hC.trans r4, r5⟩
theorem Go.invokestatic {idx : Nat} {y : MethodName} {code' : ByteArray} {ml' : Nat} {ret' : Option FieldType} {rm : Room} {Q : Option Value → Vm → Heap → Prop} {ps : List FieldType} {r : Option FieldType} {rest : List Value} (W : Nat) (argsL : List Value) (pc' : Nat) (hd : decode code pc = .ok (.invokestatic idx, 3)) (hp : pc + 3 = pc') (w1 : (Jvm.Cond.methodLink own idx y).before a0 Z = true) (w2 : (Jvm.Cond.static y).before a0 Z = true) (w3 : (Jvm.Cond.initialized y.cls).before a0 Z = true) (w4 : (Jvm.Cond.code y code' ml' ret').before a0 Z = true) (hy : y.cls ≠ "java/lang/invoke/MethodHandle" ∧ y.cls ≠ "java/lang/invoke/VarHandle")
    (C : Ctr nw l Z a0 EL y code' ml' ret' rm argsL.toArray vm h Q) (hdesc : parseMethodDescriptor y.desc = some ⟨ps, r⟩) (hlen : argsL.length = ps.length) (hst : S = argsL.reverse ++ rest) (hsz : L.size = ml) (hf : rm.frames + 1 ≤ R.frames) (hW : (rest.map fun v => v.category).sum ≤ W) (hl : W + (ml' + 11) + rm.locals ≤ R.locals) (hk0 : k + rm.cells ≤ R.cells) (hn0 : n + rm.slots ≤ R.slots)
    (g : ∀ v vm' h', Q v vm' h' → CHr Z EL vm h vm' h' → Go nw p l e R s m args below meth c code ml nm ret Z a0 EL own P vm' h' (k + rm.cells) (n + rm.slots) pc' L (v.toList ++ rest)) : Go nw p l e R s m args below meth c code ml nm ret Z a0 EL own P vm h k n pc L S := by
  refine Go.called (rm := rm) (Q := Q) (rest := rest) hp hk0 hn0 (fun T locs cells slots X hh hx hc hm hon q1 q2 => ?_) g
  exact callSS X hx hon.2.2.1 (mvT (s := s.setVm vm) hon.2.1 w1) (mvT (s := s.setVm vm) hon.2.1 w2) (mvT (s := s.setVm vm) hon.2.1 w3) (mvT (s := s.setVm vm) hon.2.1 w4) hy (C.back hon w4 w3 hf hl) (g := mkF m pc L S) rfl (hsz.trans hm.symm) (argsL := argsL) (rest := rest) (lenOf hdesc hlen) hst (by show 2 * 0 + _ ≤ _; omega) (hb hc hd) (fun _ _ => ⟨rfl, hh, q1, q2⟩)
theorem Go.invokespecial {idx : Nat} {y : MethodName} {code' : ByteArray} {ml' : Nat} {rm : Room} {Q : Option Value → Vm → Heap → Prop} {ps : List FieldType} {r : Option FieldType} {rest : List Value} (W : Nat) (a : Addr) (argsL : List Value) (pc' : Nat) (hd : decode code pc = .ok (.invokespecial idx, 3)) (hp : pc + 3 = pc') (hy1 : y.name = "<init>") (w1 : (Jvm.Cond.methodLink own idx y).before a0 Z = true) (w2 : (Jvm.Cond.instanceMethod y).before a0 Z = true) (w3 : (Jvm.Cond.initialized y.cls).before a0 Z = true) (w4 : (Jvm.Cond.code y code' ml' none).before a0 Z = true) (hy : y.cls ≠ "java/lang/invoke/MethodHandle" ∧ y.cls ≠ "java/lang/invoke/VarHandle")
    (C : Ctr nw l Z a0 EL y code' ml' none rm (.ref a :: argsL).toArray vm h Q) (hdesc : parseMethodDescriptor y.desc = some ⟨ps, r⟩) (hlen : argsL.length = ps.length) (hst : S = argsL.reverse ++ .ref a :: rest) (hsz : L.size = ml) (hf : rm.frames + 1 ≤ R.frames) (hW : (rest.map fun v => v.category).sum ≤ W) (hl : W + (ml' + 11) + rm.locals ≤ R.locals) (hk0 : k + rm.cells ≤ R.cells) (hn0 : n + rm.slots ≤ R.slots)
    (g : ∀ v vm' h', Q v vm' h' → CHr Z EL vm h vm' h' → Go nw p l e R s m args below meth c code ml nm ret Z a0 EL own P vm' h' (k + rm.cells) (n + rm.slots) pc' L (v.toList ++ rest)) : Go nw p l e R s m args below meth c code ml nm ret Z a0 EL own P vm h k n pc L S := by
  refine Go.called (rm := rm) (Q := Q) (rest := rest) hp hk0 hn0 (fun T locs cells slots X hh hx hc hm hon q1 q2 => ?_) g
  exact X.specialBackS hx hy1 hon.2.2.1 (mvT (s := s.setVm vm) hon.2.1 w1) (mvT (s := s.setVm vm) hon.2.1 w2) (mvT (s := s.setVm vm) hon.2.1 w4) hy (C.back hon w4 w3 hf hl) (g := mkF m pc L S) rfl (hsz.trans hm.symm) (Steps.refl _) (a := a) (argsL := argsL) (rest := rest) (lenOf hdesc hlen) hst (by show 2 * 0 + _ ≤ _; omega) (hb hc hd) (fun _ _ => ⟨rfl, hh, q1, q2⟩)
theorem Go.invokevirtual {idx : Nat} {y : MethodName} {code' : ByteArray} {ml' : Nat} {ret' : Option FieldType} {rm : Room} {Q : Option Value → Vm → Heap → Prop} {ps : List FieldType} {r : Option FieldType} {rest : List Value} {x : MethodName} {cls : String} (W : Nat) (a : Addr) (argsL : List Value) (pc' : Nat) (hd : decode code pc = .ok (.invokevirtual idx, 3)) (hp : pc + 3 = pc') (E : Exa Z h a cls) (w1 : (Jvm.Cond.methodLink own idx x).before a0 Z = true) (w2 : (Jvm.Cond.declares x).before a0 Z = true) (nf : ∀ s : State, Z.Warmed39 s.vm → NotFace s x) (ws : (Jvm.Cond.selects cls x y).before a0 Z = true) (wi : (Jvm.Cond.instanceMethod y).before a0 Z = true) (w3 : (Jvm.Cond.initialized y.cls).before a0 Z = true) (w4 : (Jvm.Cond.code y code' ml' ret').before a0 Z = true)
    (hy : x.cls ≠ "java/lang/invoke/MethodHandle" ∧ x.cls ≠ "java/lang/invoke/VarHandle") (C : Ctr nw l Z a0 EL y code' ml' ret' rm (.ref a :: argsL).toArray vm h Q) (hdesc : parseMethodDescriptor x.desc = some ⟨ps, r⟩) (hlen : argsL.length = ps.length) (hst : S = argsL.reverse ++ .ref a :: rest) (hsz : L.size = ml) (hf : rm.frames + 1 ≤ R.frames) (hW : (rest.map fun v => v.category).sum ≤ W) (hl : W + (ml' + 11) + rm.locals ≤ R.locals) (hk0 : k + rm.cells ≤ R.cells) (hn0 : n + rm.slots ≤ R.slots)
    (g : ∀ v vm' h', Q v vm' h' → CHr Z EL vm h vm' h' → Go nw p l e R s m args below meth c code ml nm ret Z a0 EL own P vm' h' (k + rm.cells) (n + rm.slots) pc' L (v.toList ++ rest)) : Go nw p l e R s m args below meth c code ml nm ret Z a0 EL own P vm h k n pc L S := by
  refine Go.called (rm := rm) (Q := Q) (rest := rest) hp hk0 hn0 (fun T locs cells slots X hh hx hc hm hon q1 q2 => ?_) g
  obtain ⟨cB, kB, b1, b2, b3⟩ := isOf (s := s.setVm vm) hon.2.1 hh E
  exact X.virtualBackS hx hon.2.2.1 (mvT (s := s.setVm vm) hon.2.1 w1) (mvT (s := s.setVm vm) hon.2.1 w2) (nf (s.setVm vm) hon.2.1) (mvT (s := s.setVm vm) hon.2.1 ws) (mvT (s := s.setVm vm) hon.2.1 wi) hy (C.back hon w4 w3 hf hl) b1 b3 (g := mkF m pc L S) rfl (hsz.trans hm.symm) (Steps.refl _) (argsL := argsL) (rest := rest) (lenOf hdesc hlen) hst (by show 2 * 0 + _ ≤ _; omega) (hb hc hd) (fun _ _ => ⟨rfl, hh, q1, q2⟩)
theorem On.keep {ws : List Addr} (hon : On nw s m Z a0 EL own vm h) (K : Keep h h' ws) (hs : ∀ x ∈ ws, Safe Z EL vm h x) (hz : ∀ x ∈ ws, Z.heap.size ≤ x) : On nw s m Z a0 EL own vm h' := by
  obtain ⟨⟨k0, a1, a2⟩, a3, a4, a5, a6, a7, a8⟩ := hon
  exact ⟨⟨k0, a1, Nat.le_trans a2 K.1⟩, a3, a4, a5.keep K hs, (Old.keep (Z := Z) ⟨rfl, a6⟩ K hz).2, a7, a8⟩
/-- behind a call that a Back pays: the tables' base as it was -/
theorem Go.calledB {Q : Option Value → Heap → List Loc → Prop} {dk dn len pc' : Nat} {rest : List Value} (hp : pc + len = pc') (hk0 : k + dk ≤ R.cells) (hn0 : n + dn ≤ R.slots)
    (st : ∀ T locs cells slots, Stand p l e R (s.setVm vm) m args below meth c T locs cells slots → T.heap = h → p.tables.exec = Jvm.exec → c.code = code → c.maxLocals = ml → On nw s m Z a0 EL own vm h → cells + dk ≤ R.cells → slots + dn ≤ R.slots →
      ∃ (v : Option Value) (vm₁ : Vm) (B : Pt), (s.setVm vm).WarmedH vm₁ ∧ Stand p l e R (s.setVm vm) m args below meth c B.U B.locs B.cells B.slots ∧ (∃ L, Q v B.U.heap L ∧ B.locs = locs ++ L ∧ B.cells = cells + dk ∧ B.slots = slots + dn) ∧
        Steps p.tables e below (T.setTop (mkF m pc L S)) (B.U.setTop { mkF m pc L S with pc := pc + len, stack := v.toList ++ rest }))
    (hQ : ∀ v h' lc, Q v h' lc → Fr Z.heap.size lc ∧ ∃ ws, Keep h h' ws ∧ (∀ x ∈ ws, Safe Z EL vm h x) ∧ ∀ x ∈ ws, Z.heap.size ≤ x)
    (g : ∀ v h' lc, Q v h' lc → CHr Z EL vm h vm h' → Go nw p l e R s m args below meth c code ml nm ret Z a0 EL own P vm h' (k + dk) (n + dn) pc' L (v.toList ++ rest)) : Go nw p l e R s m args below meth c code ml nm ret Z a0 EL own P vm h k n pc L S := by
  intro hx hc hm hl hnm hr hon T locs cells slots X hh hF hk hn
  obtain ⟨v, vm₁, B, -, X', ⟨L1, hq, e1, e2, e3⟩, st2⟩ := st T locs cells slots X hh hx hc hm hon (by omega) (by omega)
  obtain ⟨U, Ls, c1, s1⟩ := B
  dsimp only [Pt.U, Pt.locs, Pt.cells, Pt.slots] at X' hq e1 e2 e3 st2
  subst e1 e2 e3 hp
  obtain ⟨hFr, ws, K, hs, hz⟩ := hQ _ _ _ hq
  have ch : CHr Z EL vm h vm U.heap := CHr.keep K hs hon.2.2.2.1
  obtain ⟨s₂, v2, st3, r1, r2, r3, r4, r5⟩ := g v U.heap L1 hq ch hx hc hm hl hnm hr (hon.keep K hs hz) U _ _ _ X' rfl (Fr.app hF hFr) (by omega) (by omega)
  exact ⟨s₂, v2, st2.trans st3, r1, r2, r3, ch.trans r4, r5⟩
theorem Go.virtB {idx : Nat} {x y : MethodName} {cls : String} {Q : Option Value → Heap → List Loc → Prop} {dk dn : Nat} {ps : List FieldType} {r : Option FieldType} {rest : List Value} (W : Nat) (a : Addr) (argsL : List Value) (pc' : Nat) (hd : decode code pc = .ok (.invokevirtual idx, 3)) (hp : pc + 3 = pc') (E : Exa Z h a cls)
    (w1 : (Jvm.Cond.methodLink own idx x).before a0 Z = true) (w2 : (Jvm.Cond.declares x).before a0 Z = true) (nf : ∀ s : State, Z.Warmed39 s.vm → NotFace s x) (ws : (Jvm.Cond.selects cls x y).before a0 Z = true) (wi : (Jvm.Cond.instanceMethod y).before a0 Z = true) (hy : x.cls ≠ "java/lang/invoke/MethodHandle" ∧ x.cls ≠ "java/lang/invoke/VarHandle")
    (B : Z.Warmed39 (s.setVm vm).vm → Ext Z.heap h → Back l R p e below (s.setVm vm) args y 3 W (fun A as => as = (.ref a :: argsL).toArray ∧ A.U.heap = h ∧ A.cells + dk ≤ R.cells ∧ A.slots + dn ≤ R.slots) (fun A _ v B => ∃ L, Q v B.U.heap L ∧ B.locs = A.locs ++ L ∧ B.cells = A.cells + dk ∧ B.slots = A.slots + dn))
    (hdesc : parseMethodDescriptor x.desc = some ⟨ps, r⟩) (hlen : argsL.length = ps.length) (hst : S = argsL.reverse ++ .ref a :: rest) (hsz : L.size = ml) (hW : (rest.map fun v => v.category).sum ≤ W) (hk0 : k + dk ≤ R.cells) (hn0 : n + dn ≤ R.slots)
    (hQ : ∀ v h' lc, Q v h' lc → Fr Z.heap.size lc ∧ ∃ ws, Keep h h' ws ∧ (∀ x ∈ ws, Safe Z EL vm h x) ∧ ∀ x ∈ ws, Z.heap.size ≤ x) (g : ∀ v h' lc, Q v h' lc → CHr Z EL vm h vm h' → Go nw p l e R s m args below meth c code ml nm ret Z a0 EL own P vm h' (k + dk) (n + dn) pc' L (v.toList ++ rest)) : Go nw p l e R s m args below meth c code ml nm ret Z a0 EL own P vm h k n pc L S := by
  refine Go.calledB (rest := rest) hp hk0 hn0 (fun T locs cells slots X hh hx hc hm hon q1 q2 => ?_) hQ g
  obtain ⟨cB, kB, b1, b2, b3⟩ := isOf (s := s.setVm vm) hon.2.1 hh E
  exact X.virtualBack hx hon.2.2.1 (mvT (s := s.setVm vm) hon.2.1 w1) (mvT (s := s.setVm vm) hon.2.1 w2) (nf (s.setVm vm) hon.2.1) (mvT (s := s.setVm vm) hon.2.1 ws) (mvT (s := s.setVm vm) hon.2.1 wi) hy (B hon.2.1 hon.2.2.2.2.1) b1 b3 (g := mkF m pc L S) rfl (hsz.trans hm.symm) (Steps.refl _) (argsL := argsL) (rest := rest) (lenOf hdesc hlen) hst (by show 2 * 0 + _ ≤ _; omega) (hb hc hd) (fun _ _ => ⟨rfl, hh, q1, q2⟩)
theorem Go.specB {idx : Nat} {y : MethodName} {code' : ByteArray} {ml' : Nat} {Q : Option Value → Heap → List Loc → Prop} {dk dn : Nat} {ps : List FieldType} {r : Option FieldType} {rest : List Value} (W : Nat) (a : Addr) (argsL : List Value) (pc' : Nat) (hd : decode code pc = .ok (.invokespecial idx, 3)) (hp : pc + 3 = pc') (hy1 : y.name = "<init>")
    (w1 : (Jvm.Cond.methodLink own idx y).before a0 Z = true) (w2 : (Jvm.Cond.instanceMethod y).before a0 Z = true) (w4 : (Jvm.Cond.code y code' ml' none).before a0 Z = true) (hy : y.cls ≠ "java/lang/invoke/MethodHandle" ∧ y.cls ≠ "java/lang/invoke/VarHandle")
    (B : Z.Warmed39 (s.setVm vm).vm → Ext Z.heap h → Back l R p e below (s.setVm vm) args y 3 W (fun A as => as = (.ref a :: argsL).toArray ∧ A.U.heap = h ∧ A.cells + dk ≤ R.cells ∧ A.slots + dn ≤ R.slots) (fun A _ v B => ∃ L, Q v B.U.heap L ∧ B.locs = A.locs ++ L ∧ B.cells = A.cells + dk ∧ B.slots = A.slots + dn))
    (hdesc : parseMethodDescriptor y.desc = some ⟨ps, r⟩) (hlen : argsL.length = ps.length) (hst : S = argsL.reverse ++ .ref a :: rest) (hsz : L.size = ml) (hW : (rest.map fun v => v.category).sum ≤ W) (hk0 : k + dk ≤ R.cells) (hn0 : n + dn ≤ R.slots)
    (hQ : ∀ v h' lc, Q v h' lc → Fr Z.heap.size lc ∧ ∃ ws, Keep h h' ws ∧ (∀ x ∈ ws, Safe Z EL vm h x) ∧ ∀ x ∈ ws, Z.heap.size ≤ x) (g : ∀ v h' lc, Q v h' lc → CHr Z EL vm h vm h' → Go nw p l e R s m args below meth c code ml nm ret Z a0 EL own P vm h' (k + dk) (n + dn) pc' L (v.toList ++ rest)) : Go nw p l e R s m args below meth c code ml nm ret Z a0 EL own P vm h k n pc L S := by
  refine Go.calledB (rest := rest) hp hk0 hn0 (fun T locs cells slots X hh hx hc hm hon q1 q2 => ?_) hQ g
  exact X.specialBack hx hy1 hon.2.2.1 (mvT (s := s.setVm vm) hon.2.1 w1) (mvT (s := s.setVm vm) hon.2.1 w2) (mvT (s := s.setVm vm) hon.2.1 w4) hy (B hon.2.1 hon.2.2.2.2.1) (g := mkF m pc L S) rfl (hsz.trans hm.symm) (Steps.refl _) (a := a) (argsL := argsL) (rest := rest) (lenOf hdesc hlen) hst (by show 2 * 0 + _ ≤ _; omega) (hb hc hd) (fun _ _ => ⟨rfl, hh, q1, q2⟩)
/-- ldc of a String constant that EL lists, its text read -/
theorem Go.ldcS {idx : Nat} {text : String} {vs : List Value} {z : Int32} (cap : Nat) (pc' : Nat) (hd : decode code pc = .ok (.ldc idx, 2)) (hp : pc + 2 = pc') (hnw : nw = false) (w : (Jvm.Cond.stringLink own idx text).before a0 Z = true) (wS : ∀ a ∈ Bundle.stringAtoms, a.before a0 Z = true) (hmem : (own, idx) ∈ EL)
    (ht : (∀ c ∈ text.toList, c.toNat < 256) ∧ text.toList.map (fun c => Value.int (Jvm.Lit.byteI c.toNat.toUInt16)) = vs) (hz : ¬ z < 0) (hl : z.toNatClampNeg = vs.length) (hcap : 4 * text.toList.length ≤ cap) (hbig : cap ≤ 536870912) (hk0 : k + 2 ≤ R.cells) (hn0 : n + (cap + 4) ≤ R.slots)
    (g : ∀ (a b : Addr) (kb : ClassId) (vm' : Vm) (h' : Heap), Ext h h' → Exa Z h' a "java/lang/String" → Fld Z h' a "java/lang/String" "coder" "B" (.int 0) → Fld Z h' a "java/lang/String" "value" "[B" (.ref b) → Arv Z h' b kb .byte z vs (.int 0) → (∀ x, Safe Z EL vm' h' x → x ≠ a ∧ x ≠ b) → CHr Z EL vm h vm' h' → Go nw p l e R s m args below meth c code ml nm ret Z a0 EL own P vm' h' (k + 2) (n + (cap + 4)) pc' L (.ref a :: S)) : Go nw p l e R s m args below meth c code ml nm ret Z a0 EL own P vm h k n pc L S := by
  subst hp
  intro hx hc hm hl' hnm hr hon T locs cells slots X hh hF hk hn
  obtain ⟨⟨k0, a1, a2⟩, a3, a4, a5, a6, a7, a8⟩ := hon
  obtain ⟨a, T', h', k1, b, kb, X', e', E, hS, hk1, hZ', hf', A, C1, V1, K1, -, -, ch, -, hne, st⟩ := ldcCH X hx a3 a4 w wS hh a1 a2 a7 hmem a5 ht hz hl (g := mkF m pc L S) rfl (hb hc hd) hcap hbig (by omega) (by omega)
  have hon' : On nw s m Z a0 EL own T'.vm h' := ⟨⟨k1, hS, hk1⟩, hZ', hf', ch.1, ⟨Nat.le_trans a6.1 E.1, fun a c q => E.2 _ _ (a6.2 _ _ q)⟩, a7, fun q => by rw [hnw] at q; cases q⟩
  obtain ⟨s₂, v2, st3, r1, r2, r3, r4, r5⟩ := g a b kb T'.vm h' E A C1 V1 K1 hne ch hx hc hm hl' hnm hr hon' T' _ _ _ X' e' hF (by omega) (by omega)
  exact ⟨s₂, v2, st _ st3, r1, r2, r3, ch.trans r4, r5⟩
theorem Go.castY {K : String} {idx : Nat} {a : Addr} (pc' : Nat) (hd : decode code pc = .ok (.checkcast idx, 3)) (hp : pc + 3 = pc') (w : (Jvm.Cond.classLink own idx K).before a0 Z = true) (F : Ins Z h a K true) (g : Go nw p l e R s m args below meth c code ml nm ret Z a0 EL own P vm h k n pc' L (.ref a :: S)) : Go nw p l e R s m args below meth c code ml nm ret Z a0 EL own P vm h k n pc L (.ref a :: S) := by
  subst hp
  exact g.note fun T locs cells slots X hh hx hc hm hon => RoadKit.castY X hx hon.2.1 hon.2.2.1 w hh F (g := mkF m pc L (.ref a :: S)) rfl rfl (hb hc hd)
theorem Go.instY {K : String} {idx : Nat} {a : Addr} (pc' : Nat) (hd : decode code pc = .ok (.instanceof idx, 3)) (hp : pc + 3 = pc') (w : (Jvm.Cond.classLink own idx K).before a0 Z = true) (F : Ins Z h a K true) (g : Go nw p l e R s m args below meth c code ml nm ret Z a0 EL own P vm h k n pc' L (.int 1 :: S)) : Go nw p l e R s m args below meth c code ml nm ret Z a0 EL own P vm h k n pc L (.ref a :: S) := by
  subst hp
  exact g.note fun T locs cells slots X hh hx hc hm hon => RoadKit.instY X hx hon.2.1 hon.2.2.1 w hh F (g := mkF m pc L (.ref a :: S)) rfl rfl (hb hc hd)
theorem Go.instN {K C : String} {idx : Nat} {a : Addr} (pc' : Nat) (hd : decode code pc = .ok (.instanceof idx, 3)) (hp : pc + 3 = pc') (w : (Jvm.Cond.classLink own idx K).before a0 Z = true) (E : Exa Z h a C) (F : ∃ c t, Z.vm.findClass C = some c ∧ Z.vm.findClass K = some t ∧ Z.vm.assignable c t = false) (g : Go nw p l e R s m args below meth c code ml nm ret Z a0 EL own P vm h k n pc' L (.int 0 :: S)) : Go nw p l e R s m args below meth c code ml nm ret Z a0 EL own P vm h k n pc L (.ref a :: S) := by
  subst hp
  exact g.note fun T locs cells slots X hh hx hc hm hon => instNo X hx hon.2.1 hon.2.2.1 w hh E F (g := mkF m pc L (.ref a :: S)) rfl rfl (hb hc hd)
theorem Go.ldc2_w {idx : Nat} {v : Int64} (w : (Jvm.Cond.constantLong own idx v).before a0 Z = true) (pc' : Nat) (hd : decode code pc = .ok (.ldc2_w idx, 3)) (hp : pc + 3 = pc') (g : Go nw p l e R s m args below meth c code ml nm ret Z a0 EL own P vm h k n pc' L (.long v :: S)) : Go nw p l e R s m args below meth c code ml nm ret Z a0 EL own P vm h k n pc L S := by
  subst hp
  exact g.note fun T locs cells slots X hh hx hc hm hon => ⟨T, X, hh, fun target q => ldc2J X hx hon.2.2.1 (mvT (s := s.setVm vm) hon.2.1 w) (g := mkF m pc L S) rfl (hb hc hd) q⟩
theorem Go.instNull {idx : Nat} (pc' : Nat) (hd : decode code pc = .ok (.instanceof idx, 3)) (hp : pc + 3 = pc') (g : Go nw p l e R s m args below meth c code ml nm ret Z a0 EL own P vm h k n pc' L (.int 0 :: S)) : Go nw p l e R s m args below meth c code ml nm ret Z a0 EL own P vm h k n pc L (.null :: S) := by
  subst hp
  exact g.note fun T locs cells slots X hh hx hc hm hon => ⟨T, X, hh, instanceofNull X hx (g := mkF m pc L (.null :: S)) rfl rfl (hb hc hd)⟩
theorem Go.anewarray {C : String} {idx : Nat} {z : Int32} (cap : Nat) (pc' : Nat) (hd : decode code pc = .ok (.anewarray idx, 3)) (hp : pc + 3 = pc') (w1 : (Jvm.Cond.classLink own idx C).before a0 Z = true) (w2 : (Jvm.Cond.arrayOver (.object C)).before a0 Z = true) (hz : ¬ z < 0) (hcap : z.toNatClampNeg ≤ cap) (hb8 : cap * 8 ≤ 536870912) (hk0 : k + 1 ≤ R.cells) (hn0 : n + cap ≤ R.slots)
    (g : ∀ a h', a = h.size → Ext h h' → (∃ cA, Arv Z h' a cA (.object C) z [] .null ∧ Ovr Z cA C) → Safe Z EL vm h' a → Z.heap.size ≤ a → CHr Z EL vm h vm h' → Go nw p l e R s m args below meth c code ml nm ret Z a0 EL own P vm h' (k + 1) (n + cap) pc' L (.ref a :: S)) : Go nw p l e R s m args below meth c code ml nm ret Z a0 EL own P vm h k n pc L (.int z :: S) := by
  subst hp
  refine Go.made (dk := 1) (dn := cap) (S' := fun a => .ref a :: S) (F := fun h' a => ∃ cA, Arv Z h' a cA (.object C) z [] .null ∧ Ovr Z cA C) hk0 hn0 (fun T locs cells slots X hh hx hc hm hon q1 q2 => ?_) g
  obtain ⟨T', h', cA, X', e', E, A, O, st⟩ := newR X hx hon.2.1 hon.2.2.1 w1 w2 hh (g := mkF m pc L (.int z :: S)) rfl (hb hc hd) rfl hz hcap hb8 q1 q2
  exact ⟨T', h', X', e', E, ⟨cA, Arv.new A hz, O⟩, st⟩
theorem Go.aastore {a y : Addr} {kA : ClassId} {C : String} {z j : Int32} {vs : List Value} {dv : Value} (i : Nat) (vs' : List Value) (pc' : Nat) (hd : decode code pc = .ok (.aastore, 1)) (hp : pc + 1 = pc') (A : Arv Z h a kA (.object C) z vs dv) (O : Ovr Z kA C) (I : Ins Z h y C true) (hj : ¬ j < 0 ∧ j < z) (hi : j.toNatClampNeg = i) (hl : i < vs.length) (hvs : vs.set i (.ref y) = vs') (Sa : Safe Z EL vm h a) (hz : Z.heap.size ≤ a)
    (g : ∀ h', Keep h h' [a] → Arv Z h' a kA (.object C) z vs' dv → Safe Z EL vm h' a → CHr Z EL vm h vm h' → Go nw p l e R s m args below meth c code ml nm ret Z a0 EL own P vm h' k n pc' L S) : Go nw p l e R s m args below meth c code ml nm ret Z a0 EL own P vm h k n pc L (.ref y :: .int j :: .ref a :: S) := by
  subst hp hvs
  obtain ⟨cl, A1, A2, A3, A4, A5, A6⟩ := A
  have hin := inb_of A3 hj
  refine Go.wrote Sa hz (sl := j.toNatClampNeg) (w := .ref y) (fun T locs cells slots X hh hx hc hm hnm hon => ?_) (fun h' W s2 ch => g h' (Keep.of_wr W) (Arv.set A1 A2 A3 A4 A5 A6 rfl W i hi hl) s2 ch)
  exact stR X hx hon.2.1 hh A1 hin rfl (Sto.ofV A1 A2 O I) (g := mkF m pc L (.ref y :: .int j :: .ref a :: S)) rfl rfl (hb hc hd)
theorem Go.invokeinterface {idx : Nat} {y : MethodName} {code' : ByteArray} {ml' : Nat} {ret' : Option FieldType} {rm : Room} {Q : Option Value → Vm → Heap → Prop} {ps : List FieldType} {r : Option FieldType} {rest : List Value} {xi : MethodName} {cls : String} {cnt : Nat} (W : Nat) (a : Addr) (argsL : List Value) (pc' : Nat) (hd : decode code pc = .ok (.invokeinterface idx cnt, 5)) (hp : pc + 5 = pc') (E : Exa Z h a cls) (w1 : (Jvm.Cond.methodLink own idx xi).before a0 Z = true) (w2 : (Jvm.Cond.declares xi).before a0 Z = true) (wf : ∀ s' : State, Z.Warmed39 s'.vm → (Jvm.Cond.interfaceMethod xi.cls xi.cls xi.name xi.desc).before args s' = true) (ws : (Jvm.Cond.selects cls xi y).before a0 Z = true) (wi : (Jvm.Cond.instanceMethod y).before a0 Z = true) (wp : (Jvm.Cond.publicMethod y).before a0 Z = true) (wu : (Jvm.Cond.unhidden cls xi.name xi.desc).before a0 Z = true) (wc : (Jvm.Cond.castable cls xi.cls).before a0 Z = true) (w3 : (Jvm.Cond.initialized y.cls).before a0 Z = true) (w4 : (Jvm.Cond.code y code' ml' ret').before a0 Z = true)
    (hy : xi.cls ≠ "java/lang/invoke/MethodHandle" ∧ xi.cls ≠ "java/lang/invoke/VarHandle") (C : Ctr nw l Z a0 EL y code' ml' ret' rm (.ref a :: argsL).toArray vm h Q) (hdesc : parseMethodDescriptor xi.desc = some ⟨ps, r⟩) (hlen : argsL.length = ps.length) (hst : S = argsL.reverse ++ .ref a :: rest) (hsz : L.size = ml) (hf : rm.frames + 1 ≤ R.frames) (hW : (rest.map fun v => v.category).sum ≤ W) (hl : W + (ml' + 11) + rm.locals ≤ R.locals) (hk0 : k + rm.cells ≤ R.cells) (hn0 : n + rm.slots ≤ R.slots)
    (g : ∀ v vm' h', Q v vm' h' → CHr Z EL vm h vm' h' → Go nw p l e R s m args below meth c code ml nm ret Z a0 EL own P vm' h' (k + rm.cells) (n + rm.slots) pc' L (v.toList ++ rest)) : Go nw p l e R s m args below meth c code ml nm ret Z a0 EL own P vm h k n pc L S := by
  refine Go.called (rm := rm) (Q := Q) (rest := rest) hp hk0 hn0 (fun T locs cells slots X hh hx hc hm hon q1 q2 => ?_) g
  obtain ⟨cB, kB, b1, b2, b3⟩ := isOf (s := s.setVm vm) hon.2.1 hh E
  exact X.interfaceBackS hx hon.2.2.1 (mvT (s := s.setVm vm) hon.2.1 w1) (mvT (s := s.setVm vm) hon.2.1 w2) (wf (s.setVm vm) hon.2.1) (mvT (s := s.setVm vm) hon.2.1 ws) (mvT (s := s.setVm vm) hon.2.1 wi) (mvT (s := s.setVm vm) hon.2.1 wp) (mvT (s := s.setVm vm) hon.2.1 wu) (mvT (s := s.setVm vm) hon.2.1 wc) hy (C.back hon w4 w3 hf hl) b1 b2 b3 (g := mkF m pc L S) rfl (hsz.trans hm.symm) (Steps.refl _) (argsL := argsL) (rest := rest) (lenOf hdesc hlen) hst (by show 2 * 0 + _ ≤ _; omega) (hb hc hd) (fun _ _ => ⟨rfl, hh, q1, q2⟩)
theorem Go.ldcI {idx : Nat} {v : Int32} (w : (Jvm.Cond.constant own idx v).before a0 Z = true) (pc' : Nat) (hd : decode code pc = .ok (.ldc idx, 2)) (hp : pc + 2 = pc') (g : Go nw p l e R s m args below meth c code ml nm ret Z a0 EL own P vm h k n pc' L (.int v :: S)) : Go nw p l e R s m args below meth c code ml nm ret Z a0 EL own P vm h k n pc L S := by
  subst hp
  exact g.note fun T locs cells slots X hh hx hc hm hon => ⟨T, X, hh, fun target q => Jvm.Stand.ldcI X hx hon.2.2.1 (mvT (s := s.setVm vm) hon.2.1 w) (g := mkF m pc L S) rfl (hb hc hd) q⟩
end Core
end Jvm.Own

namespace Jvm.Own
open Sem ClassFile Op Lib Bundle Jvm.Stand Jvm.Free Jvm.LawKit Jvm.RoadKit
section Facts
variable {Z : State} {a0 : Array Value} {EL : List (String × Nat)} {vm vm' : Vm} {h h' h0 h1 h2 : Heap} {a b x : Addr} {cs ds : List Int32} {ws : List Addr} {C : String} {n : Nat}
theorem Ext.rfl' (h : Heap) : Ext h h := ⟨Nat.le_refl _, fun _ _ q => q⟩
theorem Ext.tr (E : Ext h h1) (F : Ext h1 h2) : Ext h h2 := ⟨Nat.le_trans E.1 F.1, fun a c q => F.2 _ _ (E.2 _ _ q)⟩
/-- only new cells written: from the old heap's side nothing has changed -/
theorem Ext.kp (E : Ext h h1) (K : Keep h1 h2 ws) (q : ∀ x ∈ ws, h.size ≤ x) : Ext h h2 :=
  ⟨Nat.le_trans E.1 K.1, fun a c r => K.2.1 a c (E.2 _ _ r) fun z => absurd (Array.getElem?_eq_some_iff.mp r).1 (Nat.not_lt.mpr (q a z))⟩
theorem Ext.kp1 (E : Ext h h1) (K : Keep h1 h2 [x]) (e : x = h.size) : Ext h h2 := Ext.kp E K fun y hy => by cases List.mem_singleton.mp hy; exact Nat.le_of_eq e.symm
theorem Ext.kq1 (E : Ext h h1) (K : Keep h1 h2 [x]) (e : h.size ≤ x) : Ext h h2 := Ext.kp E K fun y hy => by cases List.mem_singleton.mp hy; exact e
theorem Ext.wr1 {sl : Nat} {v : Value} (E : Ext h h1) (W : Wr h1 h2 x sl v) (e : h.size ≤ x) : Ext h h2 := Ext.kq1 E (Keep.of_wr W) e
theorem Keep.ofExt (E : Ext h h') (ws : List Addr) : Keep h h' ws := (Keep.refl h ws).ext E
theorem Keep.e0 (K : Keep h h' []) : Ext h h' := ⟨K.1, fun a c q => K.2.1 a c q nin0⟩
theorem ne_of_new (q : a < h.size) (r : h.size ≤ b) : a ≠ b := Nat.ne_of_lt (Nat.lt_of_lt_of_le q r)
/-- a Latin-1 String of these chars -/
def Str (Z : State) (h : Heap) (a : Addr) (cs : List Int32) : Prop :=
  ∃ (b : Addr) (kb : ClassId), Exa Z h a "java/lang/String" ∧ Fld Z h a "java/lang/String" "coder" "B" (.int 0) ∧ Fld Z h a "java/lang/String" "value" "[B" (.ref b) ∧
    Arv Z h b kb .byte (Int32.ofNat cs.length) ((cs.map fun c => c.toInt8.toInt32).map Value.int) (.int 0) ∧ cs.length ≤ 4000 ∧ ∀ c ∈ cs, ¬ c < 0 ∧ ¬ (255 : Int32) < c
theorem Str.ext (S : Str Z h a cs) (E : Ext h h') : Str Z h' a cs := by
  obtain ⟨b, kb, s1, s2, s3, s4, s5⟩ := S
  exact ⟨b, kb, s1.ext E, s2.ext E, s3.ext E, s4.ext E, s5⟩
theorem Str.exa (S : Str Z h a cs) : Exa Z h a "java/lang/String" := by obtain ⟨b, kb, s1, -⟩ := S; exact s1
theorem Str.lt (S : Str Z h a cs) : a < h.size := S.exa.lt
/-- an object of another class is written -/
theorem Str.keepE (S : Str Z h a cs) (K : Keep h h' [x]) (E : Exa Z h x C) (hC : C ≠ "java/lang/String") (wi : (Jvm.Cond.instantiable C n).before a0 Z = true) : Str Z h' a cs := by
  obtain ⟨b, kb, s1, s2, s3, s4, s5⟩ := S
  have n1 : a ∉ [x] := ninS (fun q => (Exa.ne E s1 hC) q.symm) nin0
  have n2 : b ∉ [x] := ninS (fun q => (Exa.neArv E s4 wi) q.symm) nin0
  exact ⟨b, kb, s1.keep K, s2.keep K n1, s3.keep K n1, s4.keep K n2, s5⟩
theorem Str.wrE {sl : Nat} {v : Value} (S : Str Z h a cs) (W : Wr h h' x sl v) (E : Exa Z h x C) (hC : C ≠ "java/lang/String") (wi : (Jvm.Cond.instantiable C n).before a0 Z = true) : Str Z h' a cs := S.keepE (Keep.of_wr W) E hC wi
/-- an array of another kind is written -/
theorem Str.keepA {k : ClassId} {ty : FieldType} {z : Int32} {vs : List Value} {dv : Value} {nI : Nat} (S : Str Z h a cs) (K : Keep h h' [x]) (A : Arv Z h x k ty z vs dv) (ht : ty ≠ .byte) (wi : (Jvm.Cond.instantiable "java/lang/String" nI).before a0 Z = true) : Str Z h' a cs := by
  obtain ⟨b, kb, s1, s2, s3, s4, s5⟩ := S
  have n1 : a ∉ [x] := ninS (Exa.neArv s1 A wi) nin0
  have n2 : b ∉ [x] := ninS (fun q => by
    subst q
    obtain ⟨c1, ⟨e1, ⟨-, k1, f1, p1, g1⟩, -⟩, -⟩ := s4
    obtain ⟨c2, ⟨e2, ⟨-, k2, f2, p2, g2⟩, -⟩, -⟩ := A
    cases e1.symm.trans e2
    cases f1.symm.trans f2
    rw [g1] at g2
    cases g2
    exact ht rfl) nin0
  exact ⟨b, kb, s1.keep K, s2.keep K n1, s3.keep K n1, s4.keep K n2, s5⟩
theorem Exa.insOf (E : Exa Z h a C) : Ins Z h a C true := Ins.self E
theorem i2c255 (x : Int32) : (x &&& 255).toUInt32.toUInt16.toUInt32.toInt32 = x &&& 255 := i2c_mask x
theorem and255 (x : Int32) : ¬ (x &&& (255 : Int32)) < 0 ∧ ¬ (255 : Int32) < (x &&& (255 : Int32)) := by
  have t : ∀ k : Fin 256, ¬ (Int32.ofNat k.val) < 0 ∧ ¬ (255 : Int32) < Int32.ofNat k.val := by decide +kernel
  have h : (x &&& 255).toBitVec.toNat < 256 := by
    simp only [Int32.toBitVec_and, BitVec.toNat_and]
    exact Nat.lt_succ_of_le Nat.and_le_right
  have e : (x &&& 255) = Int32.ofNat (x &&& 255).toBitVec.toNat := by
    apply Int32.toBitVec_inj.mp
    show _ = BitVec.ofNat 32 _
    rw [BitVec.ofNat_toNat]; simp
  rw [e]
  exact t ⟨_, h⟩
theorem narC {x : Int32} (h : ¬ x < 0 ∧ ¬ (255 : Int32) < x) : nar .char x = x := by
  have e : x = x &&& 255 := by
    obtain ⟨h1, h2⟩ := h
    apply Int32.toInt_inj.mp
    rw [c_mask x 255 8 (by decide) (by decide)]
    rw [Int32.lt_iff_toInt_lt] at h1 h2
    have e1 : (0 : Int32).toInt = 0 := rfl
    have e2 : (255 : Int32).toInt = 255 := rfl
    omega
  rw [e]; exact i2c_mask x
theorem narZ {x : Int32} (h : x = 0 ∨ x = 1) : narrow .boolean (.int x) = .int x := by rcases h with rfl | rfl <;> rfl
theorem narCv {x : Int32} (h : ¬ x < 0 ∧ ¬ (255 : Int32) < x) : narrow .char (.int x) = .int x := (show narrow .char (.int x) = .int (nar .char x) from rfl).trans (by rw [narC h])
theorem l2i_mask {y m : Int64} {k : Nat} (hk : k ≤ 30) (hm : m.toBitVec.toNat = 2 ^ k - 1) : ((y &&& m).toInt32).toInt = y.toInt % (2 ^ k : Nat) := by
  have h1 := c_maskL y m k (by omega) hm
  have h2 := c_l2i (y &&& m)
  rw [h1] at h2
  have h3 := rng32 (y &&& m).toInt32
  have h4 : (2 ^ k : Nat) ≤ 2 ^ 30 := Nat.pow_le_pow_right (by decide) hk
  have h5 : 0 < (2 ^ k : Nat) := Nat.pow_pos (by decide)
  have h6 := Int.emod_nonneg y.toInt (b := ((2 ^ k : Nat) : Int)) (by omega)
  have h7 := Int.emod_lt_of_pos y.toInt (b := ((2 ^ k : Nat) : Int)) (by omega)
  omega
theorem b255L (y : Int64) : ¬ (y &&& (255 : Int64)).toInt32 < 0 ∧ ¬ (255 : Int32) < (y &&& (255 : Int64)).toInt32 := by
  have h := l2i_mask (y := y) (m := 255) (k := 8) (by decide) (by decide)
  rw [Int32.lt_iff_toInt_lt, Int32.lt_iff_toInt_lt, h]
  have e1 : (0 : Int32).toInt = 0 := rfl
  have e2 : (255 : Int32).toInt = 255 := rfl
  omega
theorem ofNat_toInt {n : Nat} (h : n < 2 ^ 31) : (Int32.ofNat n).toInt = n := len_toInt h
theorem ofNat_lt {i n : Nat} (hi : i < 2 ^ 31) (hn : n < 2 ^ 31) : Int32.ofNat i < Int32.ofNat n ↔ i < n := by
  rw [Int32.lt_iff_toInt_lt, ofNat_toInt hi, ofNat_toInt hn]; omega
theorem Str.at {i : Nat} (S : Str Z h a cs) (hi : i < cs.length) : ¬ cs.getD i 0 < 0 ∧ ¬ (255 : Int32) < cs.getD i 0 := by
  obtain ⟨b, kb, -, -, -, -, -, q⟩ := S
  have e : cs.getD i 0 = cs[i] := by simp [List.getD_eq_getElem?_getD, hi]
  rw [e]; exact q _ (List.getElem_mem _)
theorem Str.len (S : Str Z h a cs) : cs.length ≤ 4000 := by obtain ⟨b, kb, -, -, -, -, q, -⟩ := S; exact q
/-- a truth as an int -/
def bi (P : Prop) [Decidable P] : Int32 := if P then 1 else 0
theorem bi_t {P : Prop} [Decidable P] (h : P) : bi P = 1 := if_pos h
theorem bi_f {P : Prop} [Decidable P] (h : ¬ P) : bi P = 0 := if_neg h
theorem bi0 {P : Prop} [Decidable P] : bi P = 0 ↔ ¬ P := by unfold bi; by_cases h : P <;> simp [h]
theorem bi1 {P : Prop} [Decidable P] : bi P = 1 ↔ P := by unfold bi; by_cases h : P <;> simp [h]
theorem bi_iff {P Q : Prop} [Decidable P] [Decidable Q] (h : P ↔ Q) : bi P = bi Q := by unfold bi; by_cases q : Q <;> simp [q, h]
theorem bi01 (P : Prop) [Decidable P] : bi P = 0 ∨ bi P = 1 := by unfold bi; by_cases h : P <;> simp [h]
theorem biZ (P : Prop) [Decidable P] : narrow .boolean (.int (bi P)) = .int (bi P) := narZ (bi01 P)
/-- a class that is no subclass of K -/
theorem noSub {C K O : String} {nk : Nat} (hC : (Jvm.Cond.superclass C O).before a0 Z = true) (hO : (Jvm.Cond.noSuperclass O).before a0 Z = true) (hK : (Jvm.Cond.instantiable K nk).before a0 Z = true) (n1 : C ≠ K) (n2 : O ≠ K) : ∃ c t, Z.vm.findClass C = some c ∧ Z.vm.findClass K = some t ∧ Z.vm.assignable c t = false := by
  obtain ⟨t, kt, g1, g2, g3, g4⟩ := Cond.instantiable_spec hK
  obtain ⟨o, ko, o1, o2, o3, -, -⟩ := Cond.noSuperclass_spec hO
  obtain ⟨c, h0⟩ := found_sup hC
  obtain ⟨p, k, kp, h1, h2, h3, h4, h5, -, h7⟩ := Cond.superclass_spec h0 hC
  cases o1.symm.trans h1
  have ne := ids_ne h0 g1 n1
  have no := ids_ne o1 g1 n2
  refine ⟨c, t, h0, g1, ?_⟩
  have sub : ∀ fuel, Z.vm.isSubclassAux fuel c t = false := fun fuel => by
    cases fuel with
    | zero => rfl
    | succ f =>
      cases f with
      | zero => simp [Vm.isSubclassAux, ne, h2, h4]
      | succ f => simp [Vm.isSubclassAux, ne, h2, h4, no, o2, o3]
  have g5 : kt.isInterface = false := by
    have q := g4.1
    simp only [Bool.or_eq_false_iff] at q
    exact q.1
  show Z.vm.assignableAux (255 + 1) c t = false
  simp [Vm.assignableAux, ne, h2, g2, h5, g3, g5, Vm.isSubclass, sub]
end Facts
end Jvm.Own
/- laws to paste: Road.backV, Road.eqW, Road.codOf (cut by pick.py; bodies as the Statement names them) -/
namespace Jvm.Pilot.@@N@@
namespace StrChars
open Jvm Sem ClassFile Op Lib Jvm.Stand Jvm.Free.XT Jvm.Free.ALB Jvm.Free.JM Jvm.Free
open Jvm.Lib.Cold (StaticIs)
/-- a char array whose places are chars -/
def Ch (a : Addr) (A : Cell) (U : State) : Prop := Arr .char a A U ∧ Typed .char A
theorem Ch.mv {a : Addr} {A : Cell} {U U' : State} (h : Ch a A U) (hal : U.vm.Alike U'.vm) (hh : U'.heap = U.heap) : Ch a A U' := ⟨h.1.mv hal hh, h.2⟩
theorem Ch.keep {a : Addr} {A : Cell} {U U' : State} (h : Ch a A U) (hal : U.vm.Alike U'.vm) (hk : U'.heap[a]? = some A) : Ch a A U' := ⟨h.1.keep hal hk, h.2⟩
/-- what place i of a char[]'s cell holds -/
def cv (A : Cell) (i : Nat) : Int32 := match A.slots[i]? with | some (.int x) => x | _ => 0
theorem Ch.get {a : Addr} {A : Cell} {U : State} (h : Ch a A U) {i : Nat} (hi : i < A.slots.size) : A.slots[i]? = some (.int (cv A i)) := by
  have e := Array.getElem?_eq_getElem hi
  have f := h.2 i _ e
  unfold cv; rw [e]
  generalize A.slots[i] = v at f
  cases v <;> simp [fits] at f ⊢
/-- the byte that i2b leaves of a char -/
def lo8 (x : Int32) : Int32 := x.toInt8.toInt32
theorem fits_lo8 (y : Int32) : fits .byte (.int (lo8 y)) = true := by
  have h1 := y.toInt8.le_toInt
  have h2 := y.toInt8.toInt_lt
  simp only [lo8, fits, Bool.and_eq_true, decide_eq_true_eq, Int32.le_iff_toInt_le, Int8.toInt_toInt32, show (-128 : Int32).toInt = -128 from by decide, show (127 : Int32).toInt = 127 from by decide]
  omega
/-- A' is A but that each place j of lo .. hi - 1 holds f j -/
def Laid (A A' : Cell) (lo hi : Nat) (f : Nat → Value) : Prop := A'.cls = A.cls ∧ A'.vm = A.vm ∧ A'.slots.size = A.slots.size ∧ ∀ i, A'.slots[i]? = if lo ≤ i ∧ i < hi then some (f i) else A.slots[i]?
theorem Laid.zero (A : Cell) (lo : Nat) (f : Nat → Value) : Laid A A lo (lo + 0) f := ⟨rfl, rfl, rfl, fun i => by rw [if_neg (by omega)]⟩
theorem Laid.step {A Ak : Cell} {lo k : Nat} {f : Nat → Value} {v : Value} (h : Laid A Ak lo k f) (hlo : lo ≤ k) (hk : k < Ak.slots.size) (hv : v = f k) : Laid A (Ak.setSlot k v) lo (k + 1) f := by
  refine ⟨h.1, h.2.1, by simpa [Cell.setSlot] using h.2.2.1, fun i => ?_⟩
  by_cases e : k = i
  · subst e; rw [Cell.slots_setSlot_self v hk, if_pos (by omega), hv]
  · rw [Cell.slots_setSlot_ne v e, h.2.2.2 i]
    by_cases q : lo ≤ i ∧ i < k
    · rw [if_pos q, if_pos (by omega)]
    · rw [if_neg q, if_neg (by omega)]
def U16 : String := "java/lang/StringUTF16"
namespace Cmp5
def yN : MethodName := ⟨"java/lang/StringUTF16", "compress", "([CI[BII)I"⟩
abbrev yB : ByteArray := jdk_52_method_21_code
theorem d0 : decode yB 0 = .ok (.iconst 0, 1) := by decide +kernel
theorem d1 : decode yB 1 = .ok (.istore 5, 2) := by decide +kernel
theorem d3 : decode yB 3 = .ok (.iload 5, 2) := by decide +kernel
theorem d5 : decode yB 5 = .ok (.iload 4, 2) := by decide +kernel
theorem d7 : decode yB 7 = .ok (.if_icmp (.ge) 37, 3) := by decide +kernel
theorem d10 : decode yB 10 = .ok (.aload_n 0, 1) := by decide +kernel
theorem d11 : decode yB 11 = .ok (.iload_n 1, 1) := by decide +kernel
theorem d12 : decode yB 12 = .ok (.caload, 1) := by decide +kernel
theorem d13 : decode yB 13 = .ok (.istore 6, 2) := by decide +kernel
theorem d15 : decode yB 15 = .ok (.iload 6, 2) := by decide +kernel
theorem d17 : decode yB 17 = .ok (.sipush 255, 3) := by decide +kernel
theorem d20 : decode yB 20 = .ok (.if_icmp (.le) 6, 3) := by decide +kernel
theorem d26 : decode yB 26 = .ok (.aload_n 2, 1) := by decide +kernel
theorem d27 : decode yB 27 = .ok (.iload_n 3, 1) := by decide +kernel
theorem d28 : decode yB 28 = .ok (.iload 6, 2) := by decide +kernel
theorem d30 : decode yB 30 = .ok (.i2b, 1) := by decide +kernel
theorem d31 : decode yB 31 = .ok (.bastore, 1) := by decide +kernel
theorem d32 : decode yB 32 = .ok (.iinc 1 1, 3) := by decide +kernel
theorem d35 : decode yB 35 = .ok (.iinc 3 1, 3) := by decide +kernel
theorem d38 : decode yB 38 = .ok (.iinc 5 1, 3) := by decide +kernel
theorem d41 : decode yB 41 = .ok (.goto (-38), 3) := by decide +kernel
theorem d44 : decode yB 44 = .ok (.iload 4, 2) := by decide +kernel
theorem d46 : decode yB 46 = .ok (.ireturn, 1) := by decide +kernel
def site : List Cond := []
def tab : Cond := tabOf yN yB 7 (some .int) site
def P (b : Addr) (A : Cell) (d : Addr) (B : Cell) (o q len : Nat) (args : Array Value) (s : State) : Prop := args = #[.ref b, .int (Int32.ofNat o), .ref d, .int (Int32.ofNat q), .int (Int32.ofNat len)] ∧ Ch b A s ∧ Arr .byte d B s ∧ b ≠ d ∧ o + len ≤ A.slots.size ∧ q + len ≤ B.slots.size ∧ ∀ i, i < len → ¬ 255 < cv A (o + i)
def E (b : Addr) (A : Cell) (d : Addr) (B : Cell) (o q len : Nat) (r : Option Value) (s u : State) : Prop := r = some (.int (Int32.ofNat len)) ∧ ∃ B', Put d B' s u ∧ Laid B B' q (q + len) (fun j => Value.int (lo8 (cv A (o + (j - q)))))
/-- no char of the range above 255: len; the places written hold each char's low byte -/
theorem law (l : Launch) (b : Addr) (A : Cell) (d : Addr) (B : Cell) (o q len : Nat) : Law l yN 5 5 0 0 yB 7 (some .int) site (P b A d B o q len) (E b A d B o q len) (copyLocs d q len) 0 0 := by
  refine Law.of_walk (plainFor_of_name (by decide +kernel)) (by decide +kernel) (by decide +kernel) (by decide) (fun _ _ h => by rw [h.1]; rfl) (fun _ U U' hal hh h => ⟨h.1, h.2.1.mv hal hh, h.2.2.1.mv hal hh, h.2.2.2⟩) (fun r U U' V V' h1 hal h2 h => ⟨h.1, h.2.elim fun B' q => ⟨B', q.1.mv h1 h2, q.2⟩⟩) ?_
  intro p e s m args below meth c s₁ X0 hexec hbytes hml hret hlk hnm hown hh0 W hP
  obtain ⟨rfl, hA, hB, hne, l1, l2, hp⟩ := hP
  have c1 : Steps p.tables e below (s₁.setTop (entryFrame m #[.ref b, .int (Int32.ofNat o), .ref d, .int (Int32.ofNat q), .int (Int32.ofNat len)] 7)) (s₁.setTop (mkF m 0 #[.val (.ref b), .val (.int (Int32.ofNat o)), .val (.ref d), .val (.int (Int32.ofNat q)), .val (.int (Int32.ofNat len)), .unset, .unset] [])) := entry rfl
  have hA0 := hA.1.mv X0.warmed.alike hh0
  have hB0 := hB.mv X0.warmed.alike hh0
  have a31 := hA.1.2.2.2
  have c2 : Steps p.tables e below (s₁.setTop (entryFrame m #[.ref b, .int (Int32.ofNat o), .ref d, .int (Int32.ofNat q), .int (Int32.ofNat len)] 7)) (s₁.setTop (mkF m 3 #[.val (.ref b), .val (.int (Int32.ofNat o)), .val (.ref d), .val (.int (Int32.ofNat q)), .val (.int (Int32.ofNat len)), .val (.int 0), .unset] [])) := c1.trans (by
    refine iconstV X0.here hexec rfl 0 (hb hbytes d0) (by decide) ?_
    refine XS.istore X0.here hexec rfl (hb hbytes d1) rfl rfl ?_
    exact Steps.refl _)
  have loop : ∀ (r i : Nat), i + r = len → ∀ (z : Slot), (z = .unset ∨ ∃ w, z = .val w ∧ w.category = 1) → ∀ (Tl : State) (Bk : Cell), Stand p l e { frames := 0, locals := 0, cells := 0, slots := 0 } s m #[.ref b, .int (Int32.ofNat o), .ref d, .int (Int32.ofNat q), .int (Int32.ofNat len)] below meth c Tl ([] ++ copyLocs d q i) 0 0 → Put d Bk s₁ Tl → Laid B Bk q (q + i) (fun j => Value.int (lo8 (cv A (o + (j - q))))) →
      Steps p.tables e below (s₁.setTop (entryFrame m #[.ref b, .int (Int32.ofNat o), .ref d, .int (Int32.ofNat q), .int (Int32.ofNat len)] 7)) (Tl.setTop (mkF m 3 #[.val (.ref b), .val (.int (Int32.ofNat (o + i))), .val (.ref d), .val (.int (Int32.ofNat (q + i))), .val (.int (Int32.ofNat len)), .val (.int (Int32.ofNat i)), z] [])) → ∃ (T' : State) (B' : Cell) (z' : Slot), Stand p l e { frames := 0, locals := 0, cells := 0, slots := 0 } s m #[.ref b, .int (Int32.ofNat o), .ref d, .int (Int32.ofNat q), .int (Int32.ofNat len)] below meth c T' ([] ++ copyLocs d q len) 0 0 ∧ Put d B' s₁ T' ∧ Laid B B' q (q + len) (fun j => Value.int (lo8 (cv A (o + (j - q))))) ∧
      Steps p.tables e below (s₁.setTop (entryFrame m #[.ref b, .int (Int32.ofNat o), .ref d, .int (Int32.ofNat q), .int (Int32.ofNat len)] 7)) (T'.setTop (mkF m 3 #[.val (.ref b), .val (.int (Int32.ofNat (o + len))), .val (.ref d), .val (.int (Int32.ofNat (q + len))), .val (.int (Int32.ofNat len)), .val (.int (Int32.ofNat len)), z'] [])) := by
    intro r
    induction r with
    | zero =>
      intro i hi z hz Tl Bk Xl pl fl cl
      have hil : i = len := by omega
      rw [hil] at Xl fl cl
      exact ⟨Tl, Bk, z, Xl, pl, fl, cl⟩
    | succ r ih =>
      intro i hi z hz Tl Bk Xl pl fl cl
      have all := X0.warmed.alike.symm.trans Xl.warmed.alike
      have hAl := hA0.keep all (pl.other hne hA0.1)
      have hBk := hB0.like all pl.1 fl.1 fl.2.1 fl.2.2.1
      have hlt : q + i < Bk.slots.size := by rw [fl.2.2.1]; omega
      have c3 : Steps p.tables e below (s₁.setTop (entryFrame m #[.ref b, .int (Int32.ofNat o), .ref d, .int (Int32.ofNat q), .int (Int32.ofNat len)] 7)) (Tl.setTop (mkF m 12 #[.val (.ref b), .val (.int (Int32.ofNat (o + i))), .val (.ref d), .val (.int (Int32.ofNat (q + i))), .val (.int (Int32.ofNat len)), .val (.int (Int32.ofNat i)), z] [.int (Int32.ofNat (o + i)), .ref b])) := cl.trans (by
        refine XS.iload Xl.here hexec rfl (hb hbytes d3) rfl ?_
        refine XS.iload Xl.here hexec rfl (hb hbytes d5) rfl ?_
        refine XS.icmpNo Xl.here hexec rfl (hb hbytes d7) rfl (ii_ge_f (lt32 (by omega) (by omega))) ?_
        refine XS.aloadN Xl.here hexec rfl (hb hbytes d10) rfl rfl ?_
        refine XS.iloadN Xl.here hexec rfl (hb hbytes d11) rfl ?_
        exact Steps.refl _)
      have c4 : Steps p.tables e below (s₁.setTop (entryFrame m #[.ref b, .int (Int32.ofNat o), .ref d, .int (Int32.ofNat q), .int (Int32.ofNat len)] 7)) (Tl.setTop (mkF m 13 #[.val (.ref b), .val (.int (Int32.ofNat (o + i))), .val (.ref d), .val (.int (Int32.ofNat (q + i))), .val (.int (Int32.ofNat len)), .val (.int (Int32.ofNat i)), z] [.int (cv A (o + i))])) := c3.trans (by
        refine Xl.aget hexec hAl rfl (hA.get (i := o + i) (by omega)) rfl rfl (hb hbytes d12) ?_
        exact Steps.refl _)
      have c5 : Steps p.tables e below (s₁.setTop (entryFrame m #[.ref b, .int (Int32.ofNat o), .ref d, .int (Int32.ofNat q), .int (Int32.ofNat len)] 7)) (Tl.setTop (mkF m 15 #[.val (.ref b), .val (.int (Int32.ofNat (o + i))), .val (.ref d), .val (.int (Int32.ofNat (q + i))), .val (.int (Int32.ofNat len)), .val (.int (Int32.ofNat i)), .val (.int (cv A (o + i)))] [])) := c4.trans (by
        refine XS.istoreS Xl.here hexec rfl (hb hbytes d13) rfl rfl hz ?_
        exact Steps.refl _)
      have c6 : Steps p.tables e below (s₁.setTop (entryFrame m #[.ref b, .int (Int32.ofNat o), .ref d, .int (Int32.ofNat q), .int (Int32.ofNat len)] 7)) (Tl.setTop (mkF m 31 #[.val (.ref b), .val (.int (Int32.ofNat (o + i))), .val (.ref d), .val (.int (Int32.ofNat (q + i))), .val (.int (Int32.ofNat len)), .val (.int (Int32.ofNat i)), .val (.int (cv A (o + i)))] [.int (lo8 (cv A (o + i))), .int (Int32.ofNat (q + i)), .ref d])) := c5.trans (by
        refine XS.iload Xl.here hexec rfl (hb hbytes d15) rfl ?_
        refine sipushV Xl.here hexec rfl 255 (hb hbytes d17) (by decide) ?_
        refine XS.icmpYes Xl.here hexec rfl (pc0 := 20) rfl (hb hbytes d20) rfl (ii_le_t (hp i (by omega))) (by decide) rfl ?_
        refine XS.aloadN Xl.here hexec rfl (hb hbytes d26) rfl rfl ?_
        refine XS.iloadN Xl.here hexec rfl (hb hbytes d27) rfl ?_
        refine XS.iload Xl.here hexec rfl (hb hbytes d28) rfl ?_
        refine i2b Xl.here hexec rfl (hb hbytes d30) rfl ?_
        exact Steps.refl _)
      obtain ⟨T7, X7, p7, st7⟩ := Xl.aput hexec hBk rfl hlt rfl (fits_lo8 (cv A (o + i))) (g := (mkF m 31 #[.val (.ref b), .val (.int (Int32.ofNat (o + i))), .val (.ref d), .val (.int (Int32.ofNat (q + i))), .val (.int (Int32.ofNat len)), .val (.int (Int32.ofNat i)), .val (.int (cv A (o + i)))] [.int (lo8 (cv A (o + i))), .int (Int32.ofNat (q + i)), .ref d])) rfl (rest := []) rfl (hb hbytes d31)
      have c8 : Steps p.tables e below (s₁.setTop (entryFrame m #[.ref b, .int (Int32.ofNat o), .ref d, .int (Int32.ofNat q), .int (Int32.ofNat len)] 7)) (T7.setTop (mkF m 32 #[.val (.ref b), .val (.int (Int32.ofNat (o + i))), .val (.ref d), .val (.int (Int32.ofNat (q + i))), .val (.int (Int32.ofNat len)), .val (.int (Int32.ofNat i)), .val (.int (cv A (o + i)))] [])) := c6.trans (st7 _ (Steps.refl _))
      have c9 : Steps p.tables e below (s₁.setTop (entryFrame m #[.ref b, .int (Int32.ofNat o), .ref d, .int (Int32.ofNat q), .int (Int32.ofNat len)] 7)) (T7.setTop (mkF m 3 #[.val (.ref b), .val (.int (Int32.ofNat (o + i) + 1)), .val (.ref d), .val (.int (Int32.ofNat (q + i) + 1)), .val (.int (Int32.ofNat len)), .val (.int (Int32.ofNat i + 1)), .val (.int (cv A (o + i)))] [])) := c8.trans (by
        refine iincV X7.here hexec rfl 1 (hb hbytes d32) (by decide) rfl rfl ?_
        refine iincV X7.here hexec rfl 1 (hb hbytes d35) (by decide) rfl rfl ?_
        refine iincV X7.here hexec rfl 1 (hb hbytes d38) (by decide) rfl rfl ?_
        refine XS.goto X7.here hexec rfl (pc0 := 41) rfl (hb hbytes d41) (by decide) rfl ?_
        exact Steps.refl _)
      have c10 : Steps p.tables e below (s₁.setTop (entryFrame m #[.ref b, .int (Int32.ofNat o), .ref d, .int (Int32.ofNat q), .int (Int32.ofNat len)] 7)) (T7.setTop (mkF m 3 #[.val (.ref b), .val (.int (Int32.ofNat (o + (i + 1)))), .val (.ref d), .val (.int (Int32.ofNat (q + (i + 1)))), .val (.int (Int32.ofNat len)), .val (.int (Int32.ofNat (i + 1))), .val (.int (cv A (o + i)))] [])) := by
        have := c9
        rw [succ32, succ32, succ32] at this
        exact this
      exact ih (i + 1) (by omega) _ (Or.inr ⟨_, rfl, rfl⟩) T7 _ (by rw [copyLocs_step, ← List.append_assoc]; exact X7) (pl.trans p7) (fl.step (by omega) hlt (by simp)) c10
  obtain ⟨T9, B9, z9, X9, p9, f9, g9⟩ := loop len 0 (by omega) .unset (Or.inl rfl) s₁ B (by simpa [copyLocs] using X0) ⟨hB0.1, fun _ _ => rfl, rfl⟩ (Laid.zero _ _ _) c2
  have c11 : Steps p.tables e below (s₁.setTop (entryFrame m #[.ref b, .int (Int32.ofNat o), .ref d, .int (Int32.ofNat q), .int (Int32.ofNat len)] 7)) (T9.setTop (mkF m 46 #[.val (.ref b), .val (.int (Int32.ofNat (o + len))), .val (.ref d), .val (.int (Int32.ofNat (q + len))), .val (.int (Int32.ofNat len)), .val (.int (Int32.ofNat len)), z9] [.int (Int32.ofNat len)])) := g9.trans (by
    refine XS.iload X9.here hexec rfl (hb hbytes d3) rfl ?_
    refine XS.iload X9.here hexec rfl (hb hbytes d5) rfl ?_
    refine XS.icmpYes X9.here hexec rfl (pc0 := 7) rfl (hb hbytes d7) rfl (ii_ge_t (nlt32 (by omega) (Nat.le_refl _))) (by decide) rfl ?_
    refine XS.iload X9.here hexec rfl (hb hbytes d44) rfl ?_
    exact Steps.refl _)
  exact ⟨T9, some (.int (Int32.ofNat len)), _, _, _, X9, by simp, rfl, rfl, (fun h => by cases h), ⟨rfl, B9, p9.from hh0, f9⟩, fun fs hl => c11.trans (X9.ireturnOut hexec hret rfl (Or.inl rfl) (hb hbytes d46) hl)⟩
end Cmp5
namespace Cmp3
def yN : MethodName := ⟨"java/lang/StringUTF16", "compress", "([CII)[B"⟩
abbrev yB : ByteArray := jdk_52_method_16_code
theorem d0 : decode yB 0 = .ok (.iload_n 2, 1) := by decide +kernel
theorem d1 : decode yB 1 = .ok (.newarray .byte, 2) := by decide +kernel
theorem d3 : decode yB 3 = .ok (.astore_n 3, 1) := by decide +kernel
theorem d4 : decode yB 4 = .ok (.aload_n 0, 1) := by decide +kernel
theorem d5 : decode yB 5 = .ok (.iload_n 1, 1) := by decide +kernel
theorem d6 : decode yB 6 = .ok (.aload_n 3, 1) := by decide +kernel
theorem d7 : decode yB 7 = .ok (.iconst 0, 1) := by decide +kernel
theorem d8 : decode yB 8 = .ok (.iload_n 2, 1) := by decide +kernel
theorem d9 : decode yB 9 = .ok (.invokestatic 115, 3) := by decide +kernel
theorem d12 : decode yB 12 = .ok (.istore 4, 2) := by decide +kernel
theorem d14 : decode yB 14 = .ok (.iload 4, 2) := by decide +kernel
theorem d16 : decode yB 16 = .ok (.iload_n 2, 1) := by decide +kernel
theorem d17 : decode yB 17 = .ok (.if_icmp (.eq) 40, 3) := by decide +kernel
theorem d57 : decode yB 57 = .ok (.aload_n 3, 1) := by decide +kernel
theorem d58 : decode yB 58 = .ok (.areturn, 1) := by decide +kernel
def site : List Cond := [.arrayClass .byte, Cmp5.tab] ++ staticW U16 115 Cmp5.yN
def tab : Cond := tabOf yN yB 6 (some (.array .byte)) site
def P (b : Addr) (A : Cell) (o len : Nat) (args : Array Value) (s : State) : Prop := args = #[.ref b, .int (Int32.ofNat o), .int (Int32.ofNat len)] ∧ Ch b A s ∧ o + len ≤ A.slots.size ∧ len ≤ 536870912 ∧ ∀ i, i < len → ¬ 255 < cv A (o + i)
def E (b : Addr) (A : Cell) (o len : Nat) (r : Option Value) (s u : State) : Prop := NewArr .byte "[B" len (fun j => .int (lo8 (cv A (o + j)))) r s u ∧ u.heap.size = s.heap.size + 1
/-- no char of the range above 255: a new byte[] of their low bytes -/
theorem law (l : Launch) (b : Addr) (A : Cell) (o len : Nat) : Law l yN 3 3 1 18 yB 6 (some (.array .byte)) site (P b A o len) (E b A o len) [] 1 len := by
  refine Law.of_walk (plainFor_of_name (by decide +kernel)) (by decide +kernel) (by decide +kernel) (by decide) (fun _ _ h => by rw [h.1]; rfl) (fun _ U U' hal hh h => ⟨h.1, h.2.1.mv hal hh, h.2.2⟩) (fun r U U' V V' h1 hal h2 h => ⟨NewArr.mv r U U' V V' h1 hal h2 h.1, by rw [h1, h2]; exact h.2⟩) ?_
  intro p e s m args below meth c s₁ X0 hexec hbytes hml hret hlk hnm hown hh0 W hP
  obtain ⟨rfl, hA, l1, l2, hp⟩ := hP
  have a31 := hA.1.2.2.2
  have c1 : Steps p.tables e below (s₁.setTop (entryFrame m #[.ref b, .int (Int32.ofNat o), .int (Int32.ofNat len)] 6)) (s₁.setTop (mkF m 0 #[.val (.ref b), .val (.int (Int32.ofNat o)), .val (.int (Int32.ofNat len)), .unset, .unset, .unset] [])) := entry rfl
  have c2 : Steps p.tables e below (s₁.setTop (entryFrame m #[.ref b, .int (Int32.ofNat o), .int (Int32.ofNat len)] 6)) (s₁.setTop (mkF m 1 #[.val (.ref b), .val (.int (Int32.ofNat o)), .val (.int (Int32.ofNat len)), .unset, .unset, .unset] [.int (Int32.ofNat len)])) := c1.trans (by
    refine XS.iloadN X0.here hexec rfl (hb hbytes d0) rfl ?_
    exact Steps.refl _)
  obtain ⟨T3, B3, X3, ba3, bs3, bv3, bh3, bf3, st3⟩ := X0.anew hexec (atype := .byte) (wk W (.arrayClass .byte)) rfl (by show len * 1 ≤ _; omega) (by omega) (g := (mkF m 1 #[.val (.ref b), .val (.int (Int32.ofNat o)), .val (.int (Int32.ofNat len)), .unset, .unset, .unset] [.int (Int32.ofNat len)])) rfl (hb hbytes d1) (rest := []) rfl (Nat.le_refl _) (by show 0 + len ≤ len; omega)
  rw [hh0] at ba3 st3
  have kp3 : XT.Kept s T3 := (XT.Kept.of_eq hh0).push bh3
  have hA3 := hA.keep X3.warmed.alike (kp3 _ _ hA.1.1)
  have hne : b ≠ s.heap.size := hA.1.ne
  have c4 : Steps p.tables e below (s₁.setTop (entryFrame m #[.ref b, .int (Int32.ofNat o), .int (Int32.ofNat len)] 6)) (T3.setTop (mkF m 3 #[.val (.ref b), .val (.int (Int32.ofNat o)), .val (.int (Int32.ofNat len)), .unset, .unset, .unset] [.ref s.heap.size])) := c2.trans (st3 _ (Steps.refl _))
  have c5 : Steps p.tables e below (s₁.setTop (entryFrame m #[.ref b, .int (Int32.ofNat o), .int (Int32.ofNat len)] 6)) (T3.setTop (mkF m 9 #[.val (.ref b), .val (.int (Int32.ofNat o)), .val (.int (Int32.ofNat len)), .val (.ref s.heap.size), .unset, .unset] [.int (Int32.ofNat len), .int 0, .ref s.heap.size, .int (Int32.ofNat o), .ref b])) := c4.trans (by
    refine XS.astoreN X3.here hexec rfl (hb hbytes d3) rfl rfl rfl ?_
    refine XS.aloadN X3.here hexec rfl (hb hbytes d4) rfl rfl ?_
    refine XS.iloadN X3.here hexec rfl (hb hbytes d5) rfl ?_
    refine XS.aloadN X3.here hexec rfl (hb hbytes d6) rfl rfl ?_
    refine iconstV X3.here hexec rfl 0 (hb hbytes d7) (by decide) ?_
    refine XS.iloadN X3.here hexec rfl (hb hbytes d8) rfl ?_
    exact Steps.refl _)
  obtain ⟨v6, T6, X6, E6, g6⟩ := X3.callS hexec (Cmp5.law l b A s.heap.size B3 o 0 len) hown (wks W (staticW U16 115 Cmp5.yN)) (wk W Cmp5.tab) (W := 0) (Nat.le_of_ble_eq_true rfl) (Nat.le_of_ble_eq_true rfl) (Nat.le_refl _) (by show 0 + len + 0 ≤ len; omega) (g := (mkF m 9 #[.val (.ref b), .val (.int (Int32.ofNat o)), .val (.int (Int32.ofNat len)), .val (.ref s.heap.size), .unset, .unset] [.int (Int32.ofNat len), .int (Int32.ofNat 0), .ref s.heap.size, .int (Int32.ofNat o), .ref b])) rfl (by rw [hml]; rfl) c5 (argsL := [.ref b, .int (Int32.ofNat o), .ref s.heap.size, .int (Int32.ofNat 0), .int (Int32.ofNat len)]) (rest := []) rfl rfl (by show 2 * 0 + 0 ≤ _; decide) (hb hbytes d9) (⟨rfl, hA3, ba3, hne, l1, by rw [bs3]; simp, hp⟩)
  obtain ⟨rfl, B6, p6, f6⟩ := E6
  have c7 : Steps p.tables e below (s₁.setTop (entryFrame m #[.ref b, .int (Int32.ofNat o), .int (Int32.ofNat len)] 6)) (T6.setTop (mkF m 12 #[.val (.ref b), .val (.int (Int32.ofNat o)), .val (.int (Int32.ofNat len)), .val (.ref s.heap.size), .unset, .unset] [.int (Int32.ofNat len)])) := g6
  have c8 : Steps p.tables e below (s₁.setTop (entryFrame m #[.ref b, .int (Int32.ofNat o), .int (Int32.ofNat len)] 6)) (T6.setTop (mkF m 58 #[.val (.ref b), .val (.int (Int32.ofNat o)), .val (.int (Int32.ofNat len)), .val (.ref s.heap.size), .val (.int (Int32.ofNat len)), .unset] [.ref s.heap.size])) := c7.trans (by
    refine XS.istore X6.here hexec rfl (hb hbytes d12) rfl rfl ?_
    refine XS.iload X6.here hexec rfl (hb hbytes d14) rfl ?_
    refine XS.iloadN X6.here hexec rfl (hb hbytes d16) rfl ?_
    refine XS.icmpYes X6.here hexec rfl (pc0 := 17) rfl (hb hbytes d17) rfl (ii_eq_t rfl) (by decide) rfl ?_
    refine XS.aloadN X6.here hexec rfl (hb hbytes d57) rfl rfl ?_
    exact Steps.refl _)
  have X8 := X6.wide (L' := []) (cells' := 1) (slots' := len) (fun x hx hlt => by
    simp only [List.nil_append, copyLocs, List.mem_map, List.mem_range] at hx
    obtain ⟨i, -, rfl⟩ := hx
    exact absurd hlt (Nat.lt_irrefl _)) (Nat.le_refl _) (by omega)
  exact ⟨T6, some (.ref s.heap.size), _, _, _, X8, rfl, rfl, rfl, (fun h => by cases h), ⟨⟨rfl, B6, ba3.like (X3.warmed.alike.symm.trans X6.warmed.alike) p6.1 f6.1 f6.2.1 f6.2.2.1, f6.2.1.trans bv3, by rw [X6.warmed.alike.findClass, f6.1]; exact bf3, by rw [f6.2.2.1, bs3]; simp, fun j hj => by rw [f6.2.2.2 j, if_pos (by omega)]; rfl, kp3.put p6 (Nat.le_refl _)⟩, by rw [p6.2.2, bh3, hh0]; simp⟩, fun fs hl => c8.trans (X8.areturnOut hexec rfl hret rfl (hb hbytes d58) hl)⟩
end Cmp3
namespace CodL
def yN : MethodName := ⟨"java/lang/StringUTF16", "coderFromArrayLen", "([BI)B"⟩
abbrev yB : ByteArray := jdk_52_method_15_code
theorem d0 : decode yB 0 = .ok (.iload_n 1, 1) := by decide +kernel
theorem d1 : decode yB 1 = .ok (.aload_n 0, 1) := by decide +kernel
theorem d2 : decode yB 2 = .ok (.arraylength, 1) := by decide +kernel
theorem d3 : decode yB 3 = .ok (.isub, 1) := by decide +kernel
theorem d4 : decode yB 4 = .ok (.bipush 31, 2) := by decide +kernel
theorem d6 : decode yB 6 = .ok (.iushr, 1) := by decide +kernel
theorem d7 : decode yB 7 = .ok (.i2b, 1) := by decide +kernel
theorem d8 : decode yB 8 = .ok (.ireturn, 1) := by decide +kernel
def site : List Cond := []
def tab : Cond := tabOf yN yB 2 (some .byte) site
def P (d : Addr) (B : Cell) (args : Array Value) (s : State) : Prop := args = #[.ref d, .int (Int32.ofNat B.slots.size)] ∧ Arr .byte d B s
def E (r : Option Value) (s u : State) : Prop := XT.PureE (some (.int 0)) r s u
/-- an array as long as the number of chars: LATIN1 -/
theorem law (l : Launch) (d : Addr) (B : Cell) : Law l yN 2 2 0 0 yB 2 (some .byte) site (P d B) E [] 0 0 := by
  refine Law.of_walk (plainFor_of_name (by decide +kernel)) (by decide +kernel) (by decide +kernel) (by decide) (fun _ _ h => by rw [h.1]; rfl) (fun _ U U' hal hh h => ⟨h.1, h.2.mv hal hh⟩) (fun r U U' V V' h1 hal h2 h => XT.PureE.mv r U U' V V' h1 hal h2 h) ?_
  intro p e s m args below meth c s₁ X0 hexec hbytes hml hret hlk hnm hown hh0 W hP
  obtain ⟨rfl, hB⟩ := hP
  have hB0 := hB.mv X0.warmed.alike hh0
  have c1 : Steps p.tables e below (s₁.setTop (entryFrame m #[.ref d, .int (Int32.ofNat B.slots.size)] 2)) (s₁.setTop (mkF m 0 #[.val (.ref d), .val (.int (Int32.ofNat B.slots.size))] [])) := entry rfl
  have c2 : Steps p.tables e below (s₁.setTop (entryFrame m #[.ref d, .int (Int32.ofNat B.slots.size)] 2)) (s₁.setTop (mkF m 2 #[.val (.ref d), .val (.int (Int32.ofNat B.slots.size))] [.ref d, .int (Int32.ofNat B.slots.size)])) := c1.trans (by
    refine XS.iloadN X0.here hexec rfl (hb hbytes d0) rfl ?_
    refine XS.aloadN X0.here hexec rfl (hb hbytes d1) rfl rfl ?_
    exact Steps.refl _)
  have c3 : Steps p.tables e below (s₁.setTop (entryFrame m #[.ref d, .int (Int32.ofNat B.slots.size)] 2)) (s₁.setTop (mkF m 8 #[.val (.ref d), .val (.int (Int32.ofNat B.slots.size))] [.int (lo8 (ushr (Int32.ofNat B.slots.size - Int32.ofNat B.slots.size) 31))])) := c2.trans (by
    refine X0.alen hexec hB0 rfl rfl (hb hbytes d2) ?_
    refine XS.isub X0.here hexec rfl (hb hbytes d3) rfl ?_
    refine bipushV X0.here hexec rfl 31 (hb hbytes d4) (by decide) ?_
    refine iushr X0.here hexec rfl (hb hbytes d6) rfl ?_
    refine i2b X0.here hexec rfl (hb hbytes d7) rfl ?_
    exact Steps.refl _)
  have e0 : lo8 (ushr (Int32.ofNat B.slots.size - Int32.ofNat B.slots.size) 31) = 0 := by rw [Int32.sub_self]; decide
  rw [e0] at c3
  exact ⟨s₁, some (.int 0), _, _, _, X0, rfl, rfl, rfl, (fun h => by cases h), ⟨rfl, hh0⟩, fun fs hl => c3.trans (X0.ireturnOut hexec hret rfl (Or.inr (Or.inr (Or.inl rfl))) (hb hbytes d8) hl)⟩
end CodL
/-- the String at a is Latin-1 over a new byte[] (the heap's one new cell): the low bytes of the len chars of A from o on; every cell but a is kept -/
def Got (a : Addr) (D : Cell) (fV fC : Field) (A : Cell) (o len : Nat) (r : Option Value) (s u : State) : Prop := r = none ∧ ∃ D' V : Cell, Blank "java/lang/String" a D' u ∧ Same D D' [fV.slot, fC.slot] ∧ D'.slots[fV.slot]? = some (.ref s.heap.size) ∧ D'.slots[fC.slot]? = some (.int 0) ∧ Arr .byte s.heap.size V u ∧ V.vm = .none ∧ u.vm.findClass "[B" = some V.cls ∧ V.slots.size = len ∧ (∀ j, j < len → V.slots[j]? = some (.int (lo8 (cv A (o + j))))) ∧ (∀ (y : Addr) (c : Cell), y ≠ a → s.heap[y]? = some c → u.heap[y]? = some c) ∧ u.heap.size = s.heap.size + 1
theorem Got.mv {a : Addr} {D A : Cell} {fV fC : Field} {o len : Nat} : ∀ r (U U' V V' : State), U'.heap = U.heap → V.vm.Alike V'.vm → V'.heap = V.heap → Got a D fV fC A o len r U V → Got a D fV fC A o len r U' V' :=
  fun r U U' V V' h1 hal h2 ⟨e0, D', X, a1, a2, a3, a4, a5, a6, a7, a8, a9, a10, a11⟩ => ⟨e0, D', X, a1.mv hal h2, a2, by rw [h1]; exact a3, a4, by rw [h1]; exact a5.mv hal h2, a6, by rw [hal.findClass]; exact a7, a8, a9, by rw [h1, h2]; exact a10, by rw [h1, h2]; exact a11⟩
namespace New4
def yN : MethodName := ⟨"java/lang/String", "<init>", "([CIILjava/lang/Void;)V"⟩
abbrev yB : ByteArray := jdk_42_method_149_code
theorem d0 : decode yB 0 = .ok (.aload_n 0, 1) := by decide +kernel
theorem d1 : decode yB 1 = .ok (.invokespecial 1, 3) := by decide +kernel
theorem d4 : decode yB 4 = .ok (.iload_n 3, 1) := by decide +kernel
theorem d5 : decode yB 5 = .ok (.ifCond (.ne) 22, 3) := by decide +kernel
theorem d27 : decode yB 27 = .ok (.getstatic 38, 3) := by decide +kernel
theorem d30 : decode yB 30 = .ok (.ifCond (.eq) 28, 3) := by decide +kernel
theorem d33 : decode yB 33 = .ok (.aload_n 1, 1) := by decide +kernel
theorem d34 : decode yB 34 = .ok (.iload_n 2, 1) := by decide +kernel
theorem d35 : decode yB 35 = .ok (.iload_n 3, 1) := by decide +kernel
theorem d36 : decode yB 36 = .ok (.invokestatic 177, 3) := by decide +kernel
theorem d39 : decode yB 39 = .ok (.astore 5, 2) := by decide +kernel
theorem d41 : decode yB 41 = .ok (.aload_n 0, 1) := by decide +kernel
theorem d42 : decode yB 42 = .ok (.aload 5, 2) := by decide +kernel
theorem d44 : decode yB 44 = .ok (.iload_n 3, 1) := by decide +kernel
theorem d45 : decode yB 45 = .ok (.invokestatic 47, 3) := by decide +kernel
theorem d48 : decode yB 48 = .ok (.putfield 15, 3) := by decide +kernel
theorem d51 : decode yB 51 = .ok (.aload_n 0, 1) := by decide +kernel
theorem d52 : decode yB 52 = .ok (.aload 5, 2) := by decide +kernel
theorem d54 : decode yB 54 = .ok (.putfield 9, 3) := by decide +kernel
theorem d57 : decode yB 57 = .ok (.return_, 1) := by decide +kernel
def site : List Cond := [.fieldLink "java/lang/String" 38 "java/lang/String" "COMPACT_STRINGS" "Z", Cmp3.tab, CodL.tab, .laysFinal "java/lang/String" "java/lang/String" "value" "[B", .fieldLink "java/lang/String" 9 "java/lang/String" "value" "[B", .laysFinal "java/lang/String" "java/lang/String" "coder" "B", .fieldLink "java/lang/String" 15 "java/lang/String" "coder" "B"] ++ objW "java/lang/String" 1 ++ staticW "java/lang/String" 177 Cmp3.yN ++ staticW "java/lang/String" 47 CodL.yN
def tab : Cond := tabOf yN yB 6 none site
def P (a : Addr) (D : Cell) (fV fC : Field) (b : Addr) (A : Cell) (z : Int32) (o len : Nat) (args : Array Value) (s : State) : Prop := args = #[.ref a, .ref b, .int (Int32.ofNat o), .int (Int32.ofNat len), .null] ∧ Blank "java/lang/String" a D s ∧ Found "java/lang/String" "value" "[B" fV s ∧ Found "java/lang/String" "coder" "B" fC s ∧ Ch b A s ∧ StaticIs s "java/lang/String" "COMPACT_STRINGS" "Z" (.int z) ∧ ¬ z = 0 ∧ 0 < len ∧ o + len ≤ A.slots.size ∧ len ≤ 536870912 ∧ ∀ i, i < len → ¬ 255 < cv A (o + i)
def E (a : Addr) (D : Cell) (fV fC : Field) (A : Cell) (o len : Nat) (r : Option Value) (s u : State) : Prop := Got a D fV fC A o len r s u
/-- len > 0, no char of the range above 255: a Latin-1 String of their low bytes -/
theorem law (l : Launch) (a : Addr) (D : Cell) (fV fC : Field) (b : Addr) (A : Cell) (z : Int32) (o len : Nat) : Law l yN 5 4 2 35 yB 6 none site (P a D fV fC b A z o len) (E a D fV fC A o len) [⟨a, fC.slot⟩, ⟨a, fV.slot⟩] 1 len := by
  refine Law.of_walk (plainFor_of_name (by decide +kernel)) (by decide +kernel) (by decide +kernel) (by decide) (fun _ _ h => by rw [h.1]; rfl) (fun _ U U' hal hh h => ⟨h.1, h.2.1.mv hal hh, h.2.2.1.al hal, h.2.2.2.1.al hal, h.2.2.2.2.1.mv hal hh, h.2.2.2.2.2.1.there hal hh, h.2.2.2.2.2.2⟩) (fun r U U' V V' h1 hal h2 h => Got.mv r U U' V V' h1 hal h2 h) ?_
  intro p e s m args below meth c s₁ X0 hexec hbytes hml hret hlk hnm hown hh0 W hP
  obtain ⟨rfl, hB, f1, f2, hA, s1, hz, l0, l1, l2, hp⟩ := hP
  have a31 := hA.1.2.2.2
  have c1 : Steps p.tables e below (s₁.setTop (entryFrame m #[.ref a, .ref b, .int (Int32.ofNat o), .int (Int32.ofNat len), .null] 6)) (s₁.setTop (mkF m 0 #[.val (.ref a), .val (.ref b), .val (.int (Int32.ofNat o)), .val (.int (Int32.ofNat len)), .val .null, .unset] [])) := entry rfl
  have c2 : Steps p.tables e below (s₁.setTop (entryFrame m #[.ref a, .ref b, .int (Int32.ofNat o), .int (Int32.ofNat len), .null] 6)) (s₁.setTop (mkF m 1 #[.val (.ref a), .val (.ref b), .val (.int (Int32.ofNat o)), .val (.int (Int32.ofNat len)), .val .null, .unset] [.ref a])) := c1.trans (by
    refine XS.aloadN X0.here hexec rfl (hb hbytes d0) rfl rfl ?_
    exact Steps.refl _)
  obtain ⟨T3, X3, q3, st3⟩ := X0.oinit hexec hown (wks W (objW "java/lang/String" 1)) (g := (mkF m 1 #[.val (.ref a), .val (.ref b), .val (.int (Int32.ofNat o)), .val (.int (Int32.ofNat len)), .val .null, .unset] [.ref a])) rfl (by rw [hml]; rfl) (rest := []) rfl (hb hbytes d1) (W := 0) (by show 2 * 0 + 0 ≤ _; decide) (Nat.le_of_ble_eq_true rfl) (Nat.le_of_ble_eq_true rfl)
  have hh3 := q3.trans hh0
  have c4 : Steps p.tables e below (s₁.setTop (entryFrame m #[.ref a, .ref b, .int (Int32.ofNat o), .int (Int32.ofNat len), .null] 6)) (T3.setTop (mkF m 27 #[.val (.ref a), .val (.ref b), .val (.int (Int32.ofNat o)), .val (.int (Int32.ofNat len)), .val .null, .unset] [])) := (c2.trans (st3 _ (Steps.refl _))).trans (by
    refine XS.iloadN X3.here hexec rfl (hb hbytes d4) rfl ?_
    refine XS.ifYes X3.here hexec rfl (pc0 := 5) rfl (hb hbytes d5) rfl (i0_ne_t (nz32 (by omega) l0)) (by decide) rfl ?_
    exact Steps.refl _)
  obtain ⟨T5, X5, q5, st5⟩ := X3.sget hexec hown (wk W (.fieldLink "java/lang/String" 38 "java/lang/String" "COMPACT_STRINGS" "Z")) s1 (fun _ _ h => by rw [hh3]; exact h) (g := (mkF m 27 #[.val (.ref a), .val (.ref b), .val (.int (Int32.ofNat o)), .val (.int (Int32.ofNat len)), .val .null, .unset] [])) rfl (hb hbytes d27)
  have hh5 := q5.trans hh3
  have c6 : Steps p.tables e below (s₁.setTop (entryFrame m #[.ref a, .ref b, .int (Int32.ofNat o), .int (Int32.ofNat len), .null] 6)) (T5.setTop (mkF m 30 #[.val (.ref a), .val (.ref b), .val (.int (Int32.ofNat o)), .val (.int (Int32.ofNat len)), .val .null, .unset] [.int z])) := c4.trans (st5 _ (Steps.refl _))
  have c7 : Steps p.tables e below (s₁.setTop (entryFrame m #[.ref a, .ref b, .int (Int32.ofNat o), .int (Int32.ofNat len), .null] 6)) (T5.setTop (mkF m 36 #[.val (.ref a), .val (.ref b), .val (.int (Int32.ofNat o)), .val (.int (Int32.ofNat len)), .val .null, .unset] [.int (Int32.ofNat len), .int (Int32.ofNat o), .ref b])) := c6.trans (by
    refine XS.ifNo X5.here hexec rfl (hb hbytes d30) rfl (i0_eq_f hz) ?_
    refine XS.aloadN X5.here hexec rfl (hb hbytes d33) rfl rfl ?_
    refine XS.iloadN X5.here hexec rfl (hb hbytes d34) rfl ?_
    refine XS.iloadN X5.here hexec rfl (hb hbytes d35) rfl ?_
    exact Steps.refl _)
  obtain ⟨v8, T8, X8, E8, g8⟩ := X5.callS hexec (Cmp3.law l b A o len) hown (wks W (staticW "java/lang/String" 177 Cmp3.yN)) (wk W Cmp3.tab) (W := 0) (Nat.le_of_ble_eq_true rfl) (Nat.le_of_ble_eq_true rfl) (Nat.le_refl _) (by show 0 + len ≤ len; omega) (g := (mkF m 36 #[.val (.ref a), .val (.ref b), .val (.int (Int32.ofNat o)), .val (.int (Int32.ofNat len)), .val .null, .unset] [.int (Int32.ofNat len), .int (Int32.ofNat o), .ref b])) rfl (by rw [hml]; rfl) c7 (argsL := [.ref b, .int (Int32.ofNat o), .int (Int32.ofNat len)]) (rest := []) rfl rfl (by show 2 * 0 + 0 ≤ _; decide) (hb hbytes d36) (⟨rfl, hA.mv X5.warmed.alike hh5, l1, l2, hp⟩)
  obtain ⟨e8, z8⟩ := E8
  obtain ⟨rfl, N, n1, n2, n3, n4, n5, n6⟩ := NewArr.mv _ T5 s _ _ hh5.symm (Vm.Alike.refl _) rfl e8
  rw [hh5] at z8
  have hB1 := hB.keep X8.warmed.alike (n6 _ _ hB.1)
  have hne : s.heap.size ≠ a := (Nat.ne_of_lt (Array.getElem?_eq_some_iff.mp hB.1).1).symm
  have c9 : Steps p.tables e below (s₁.setTop (entryFrame m #[.ref a, .ref b, .int (Int32.ofNat o), .int (Int32.ofNat len), .null] 6)) (T8.setTop (mkF m 39 #[.val (.ref a), .val (.ref b), .val (.int (Int32.ofNat o)), .val (.int (Int32.ofNat len)), .val .null, .unset] [.ref s.heap.size])) := g8
  have c10 : Steps p.tables e below (s₁.setTop (entryFrame m #[.ref a, .ref b, .int (Int32.ofNat o), .int (Int32.ofNat len), .null] 6)) (T8.setTop (mkF m 45 #[.val (.ref a), .val (.ref b), .val (.int (Int32.ofNat o)), .val (.int (Int32.ofNat len)), .val .null, .val (.ref s.heap.size)] [.int (Int32.ofNat N.slots.size), .ref s.heap.size, .ref a])) := by
    have hc : Steps p.tables e below (s₁.setTop (entryFrame m #[.ref a, .ref b, .int (Int32.ofNat o), .int (Int32.ofNat len), .null] 6)) (T8.setTop (mkF m 45 #[.val (.ref a), .val (.ref b), .val (.int (Int32.ofNat o)), .val (.int (Int32.ofNat len)), .val .null, .val (.ref s.heap.size)] [.int (Int32.ofNat len), .ref s.heap.size, .ref a])) := c9.trans (by
      refine XS.astore X8.here hexec rfl (hb hbytes d39) rfl rfl rfl ?_
      refine XS.aloadN X8.here hexec rfl (hb hbytes d41) rfl rfl ?_
      refine XS.aload X8.here hexec rfl (hb hbytes d42) rfl rfl ?_
      refine XS.iloadN X8.here hexec rfl (hb hbytes d44) rfl ?_
      exact Steps.refl _)
    rw [n4]; exact hc
  obtain ⟨v11, T11, X11, E11, g11⟩ := X8.callS hexec (CodL.law l s.heap.size N) hown (wks W (staticW "java/lang/String" 47 CodL.yN)) (wk W CodL.tab) (W := 1) (Nat.le_of_ble_eq_true rfl) (Nat.le_of_ble_eq_true rfl) (Nat.le_refl _) (by show 0 + len + 0 ≤ len; omega) (g := (mkF m 45 #[.val (.ref a), .val (.ref b), .val (.int (Int32.ofNat o)), .val (.int (Int32.ofNat len)), .val .null, .val (.ref s.heap.size)] [.int (Int32.ofNat N.slots.size), .ref s.heap.size, .ref a])) rfl (by rw [hml]; rfl) c10 (argsL := [.ref s.heap.size, .int (Int32.ofNat N.slots.size)]) (rest := [.ref a]) rfl rfl (by show 2 * 0 + (1 + 0) ≤ _; decide) (hb hbytes d45) (⟨rfl, n1⟩)
  obtain ⟨rfl, q11⟩ := E11
  have hB11 := hB1.mv (X8.warmed.alike.symm.trans X11.warmed.alike) q11
  have c12 : Steps p.tables e below (s₁.setTop (entryFrame m #[.ref a, .ref b, .int (Int32.ofNat o), .int (Int32.ofNat len), .null] 6)) (T11.setTop (mkF m 48 #[.val (.ref a), .val (.ref b), .val (.int (Int32.ofNat o)), .val (.int (Int32.ofNat len)), .val .null, .val (.ref s.heap.size)] [.int 0, .ref a])) := g11
  obtain ⟨T13, X13, p13, bl13, sl13, st13⟩ := X11.finit hexec hown (wk W (.fieldLink "java/lang/String" 15 "java/lang/String" "coder" "B")) (Or.inr ⟨_, (wk W (.laysFinal "java/lang/String" "java/lang/String" "coder" "B"))⟩) (Or.inl ⟨rfl, hnm⟩) f2 (Or.inl rfl) hB11 (t := .byte) (by decide +kernel) rfl (g := (mkF m 48 #[.val (.ref a), .val (.ref b), .val (.int (Int32.ofNat o)), .val (.int (Int32.ofNat len)), .val .null, .val (.ref s.heap.size)] [.int 0, .ref a])) rfl (rest := []) rfl (hb hbytes d48)
  have c14 : Steps p.tables e below (s₁.setTop (entryFrame m #[.ref a, .ref b, .int (Int32.ofNat o), .int (Int32.ofNat len), .null] 6)) (T13.setTop (mkF m 54 #[.val (.ref a), .val (.ref b), .val (.int (Int32.ofNat o)), .val (.int (Int32.ofNat len)), .val .null, .val (.ref s.heap.size)] [.ref s.heap.size, .ref a])) := (c12.trans (st13 _ (Steps.refl _))).trans (by
    refine XS.aloadN X13.here hexec rfl (hb hbytes d51) rfl rfl ?_
    refine XS.aload X13.here hexec rfl (hb hbytes d52) rfl rfl ?_
    exact Steps.refl _)
  obtain ⟨T15, X15, p15, bl15, sl15, st15⟩ := X13.finit hexec hown (wk W (.fieldLink "java/lang/String" 9 "java/lang/String" "value" "[B")) (Or.inr ⟨_, (wk W (.laysFinal "java/lang/String" "java/lang/String" "value" "[B"))⟩) (Or.inl ⟨rfl, hnm⟩) f1 (Or.inl rfl) bl13 (t := (.array .byte)) (by decide +kernel) rfl (g := (mkF m 54 #[.val (.ref a), .val (.ref b), .val (.int (Int32.ofNat o)), .val (.int (Int32.ofNat len)), .val .null, .val (.ref s.heap.size)] [.ref s.heap.size, .ref a])) rfl (rest := []) rfl (hb hbytes d54)
  have c16 : Steps p.tables e below (s₁.setTop (entryFrame m #[.ref a, .ref b, .int (Int32.ofNat o), .int (Int32.ofNat len), .null] 6)) (T15.setTop (mkF m 57 #[.val (.ref a), .val (.ref b), .val (.int (Int32.ofNat o)), .val (.int (Int32.ofNat len)), .val .null, .val (.ref s.heap.size)] [])) := c14.trans (st15 _ (Steps.refl _))
  have ap := apart (Or.inr ⟨_, (wk W (.laysFinal "java/lang/String" "java/lang/String" "value" "[B"))⟩) (Or.inr ⟨_, (wk W (.laysFinal "java/lang/String" "java/lang/String" "coder" "B"))⟩) f1 f2 (t₁ := .array .byte) (t₂ := .byte) (by decide +kernel) (by decide +kernel) (by decide)
  have al := X8.warmed.alike.symm.trans X15.warmed.alike
  have n7 : T11.heap[s.heap.size]? = some N := by rw [q11]; exact n1.1
  exact ⟨T15, none, _, _, _, X15, by simp, rfl, by omega, (fun _ => rfl), ⟨rfl, _, N, bl15, ((Same.refl D _).set _ (by simp)).set _ (by simp), sl15, (Cell.slots_setSlot_ne _ ap).trans sl13, n1.keep al (p15.other hne (p13.other hne n7)), n2, by rw [al.findClass]; exact n3, n4, n5, fun y c h1 h2 => p15.other h1 (p13.other h1 (by rw [q11]; exact n6 y c h2)), by rw [p15.2.2, p13.2.2, q11]; exact z8⟩, fun fs hl => c16.trans (X15.returnOut hexec hret (hb hbytes d57) hl)⟩
end New4
namespace New1
def yN : MethodName := ⟨"java/lang/String", "<init>", "([C)V"⟩
abbrev yB : ByteArray := jdk_42_method_3_code
theorem d0 : decode yB 0 = .ok (.aload_n 0, 1) := by decide +kernel
theorem d1 : decode yB 1 = .ok (.aload_n 1, 1) := by decide +kernel
theorem d2 : decode yB 2 = .ok (.iconst 0, 1) := by decide +kernel
theorem d3 : decode yB 3 = .ok (.aload_n 1, 1) := by decide +kernel
theorem d4 : decode yB 4 = .ok (.arraylength, 1) := by decide +kernel
theorem d5 : decode yB 5 = .ok (.aconst_null, 1) := by decide +kernel
theorem d6 : decode yB 6 = .ok (.invokespecial 27, 3) := by decide +kernel
theorem d9 : decode yB 9 = .ok (.return_, 1) := by decide +kernel
def site : List Cond := [New4.tab] ++ initW "java/lang/String" 27 New4.yN
def tab : Cond := tabOf yN yB 2 none site
def P (a : Addr) (D : Cell) (fV fC : Field) (b : Addr) (A : Cell) (z : Int32) (args : Array Value) (s : State) : Prop := args = #[.ref a, .ref b] ∧ Blank "java/lang/String" a D s ∧ Found "java/lang/String" "value" "[B" fV s ∧ Found "java/lang/String" "coder" "B" fC s ∧ Ch b A s ∧ StaticIs s "java/lang/String" "COMPACT_STRINGS" "Z" (.int z) ∧ ¬ z = 0 ∧ 0 < A.slots.size ∧ A.slots.size ≤ 536870912 ∧ ∀ i, i < A.slots.size → ¬ 255 < cv A i
def E (a : Addr) (D : Cell) (fV fC : Field) (A : Cell) (r : Option Value) (s u : State) : Prop := Got a D fV fC A 0 A.slots.size r s u
/-- new String(chars), not empty, no char above 255: a Latin-1 String of their low bytes -/
theorem law (l : Launch) (a : Addr) (D : Cell) (fV fC : Field) (b : Addr) (A : Cell) (z : Int32) : Law l yN 2 1 3 52 yB 2 none site (P a D fV fC b A z) (E a D fV fC A) [⟨a, fC.slot⟩, ⟨a, fV.slot⟩] 1 A.slots.size := by
  refine Law.of_walk (plainFor_of_name (by decide +kernel)) (by decide +kernel) (by decide +kernel) (by decide) (fun _ _ h => by rw [h.1]; rfl) (fun _ U U' hal hh h => ⟨h.1, h.2.1.mv hal hh, h.2.2.1.al hal, h.2.2.2.1.al hal, h.2.2.2.2.1.mv hal hh, h.2.2.2.2.2.1.there hal hh, h.2.2.2.2.2.2⟩) (fun r U U' V V' h1 hal h2 h => Got.mv r U U' V V' h1 hal h2 h) ?_
  intro p e s m args below meth c s₁ X0 hexec hbytes hml hret hlk hnm hown hh0 W hP
  obtain ⟨rfl, hB, f1, f2, hA, s1, hz, l0, l2, hp⟩ := hP
  have c1 : Steps p.tables e below (s₁.setTop (entryFrame m #[.ref a, .ref b] 2)) (s₁.setTop (mkF m 0 #[.val (.ref a), .val (.ref b)] [])) := entry rfl
  have c2 : Steps p.tables e below (s₁.setTop (entryFrame m #[.ref a, .ref b] 2)) (s₁.setTop (mkF m 6 #[.val (.ref a), .val (.ref b)] [.null, .int (Int32.ofNat A.slots.size), .int 0, .ref b, .ref a])) := c1.trans (by
    refine XS.aloadN X0.here hexec rfl (hb hbytes d0) rfl rfl ?_
    refine XS.aloadN X0.here hexec rfl (hb hbytes d1) rfl rfl ?_
    refine iconstV X0.here hexec rfl 0 (hb hbytes d2) (by decide) ?_
    refine XS.aloadN X0.here hexec rfl (hb hbytes d3) rfl rfl ?_
    refine X0.alen hexec (hA.1.mv X0.warmed.alike hh0) rfl rfl (hb hbytes d4) ?_
    refine XS.aconstNull X0.here hexec rfl (hb hbytes d5) ?_
    exact Steps.refl _)
  obtain ⟨v3, T3, X3, E3, g3⟩ := X0.callN hexec (New4.law l a D fV fC b A z 0 A.slots.size) rfl hown (wks W (initW "java/lang/String" 27 New4.yN)) (W New4.tab (by simp only [site, List.mem_cons, List.mem_append, true_or, or_true])) (W := 0) (Nat.le_of_ble_eq_true rfl) (Nat.le_of_ble_eq_true rfl) (Nat.le_refl _) (by show 0 + A.slots.size ≤ A.slots.size; omega) (g := (mkF m 6 #[.val (.ref a), .val (.ref b)] [.null, .int (Int32.ofNat A.slots.size), .int (Int32.ofNat 0), .ref b, .ref a])) rfl (by rw [hml]; rfl) c2 (argsL := [.ref b, .int (Int32.ofNat 0), .int (Int32.ofNat A.slots.size), .null]) (rest := []) rfl rfl (by show 2 * 0 + 0 ≤ _; decide) (hb hbytes d6) (⟨rfl, hB.mv X0.warmed.alike hh0, f1.al X0.warmed.alike, f2.al X0.warmed.alike, hA.mv X0.warmed.alike hh0, s1.there X0.warmed.alike hh0, hz, l0, by omega, l2, fun i hi => by rw [Nat.zero_add]; exact hp i hi⟩)
  have e0 := Got.mv _ s₁ s _ _ hh0.symm (Vm.Alike.refl _) rfl E3
  obtain rfl := e0.1
  have c4 : Steps p.tables e below (s₁.setTop (entryFrame m #[.ref a, .ref b] 2)) (T3.setTop (mkF m 9 #[.val (.ref a), .val (.ref b)] [])) := g3
  exact ⟨T3, none, _, _, _, X3, by simp, rfl, by omega, (fun _ => rfl), e0, fun fs hl => c4.trans (X3.returnOut hexec hret (hb hbytes d9) hl)⟩
theorem pays {l : Launch} {R : Room} {p : Program} {e : Env} {below : List Frame} {s : State} {sargs : Array Value} {len W : Nat} (a : Addr) (D : Cell) (fV fC : Field) (b : Addr) (A : Cell) (z : Int32) (htab : tab.before sargs s = true) (hfr : 4 ≤ R.frames) (hlo : W + 65 ≤ R.locals) :
    Back l R p e below s sargs yN len W (fun A₁ a₁ => A₁.cells + 1 ≤ R.cells ∧ A₁.slots + A.slots.size ≤ R.slots ∧ P a D fV fC b A z a₁ A₁.U) (fun A₁ _ v₁ B₁ => E a D fV fC A v₁ A₁.U B₁.U ∧ B₁.locs = A₁.locs ++ [⟨a, fC.slot⟩, ⟨a, fV.slot⟩] ∧ B₁.cells = A₁.cells + 1 ∧ B₁.slots = A₁.slots + A.slots.size) :=
  (law l a D fV fC b A z).pays htab hfr (by omega)
end New1
/-- the byte, read back as charAt reads it, is the char -/
theorem lo8_mask {x : Int32} (h0 : ¬ x < 0) (h1 : ¬ 255 < x) : lo8 x &&& 255 = x := by
  have t : ∀ k : Fin 256, lo8 (Int32.ofNat k.val) &&& 255 = Int32.ofNat k.val := by decide +kernel
  rw [Int32.lt_iff_toInt_lt] at h0 h1
  have e0 : (0 : Int32).toInt = 0 := rfl
  have e1 : (255 : Int32).toInt = 255 := rfl
  obtain ⟨k, hk⟩ : ∃ k : Nat, x.toInt = k := ⟨x.toInt.toNat, by omega⟩
  have hx : x = Int32.ofNat k := Int32.toInt_inj.mp (by rw [hk, Int32.toInt_ofNat_small (by omega)])
  rw [hx]
  exact t ⟨k, by omega⟩
end StrChars
namespace StrChars.Road
open Jvm Sem ClassFile Op Lib Jvm.Stand Jvm.Free Jvm.Free.XT
open Jvm.Lib.Cold (StaticIs)
abbrev ST : String := "java/lang/String"
/-- every table word that New1's law asks, flat -/
abbrev words : List Jvm.Cond := [.code New1.yN New1.yB 2 none, .initialized ST, .methodLink ST 27 New4.yN, .instanceMethod New4.yN,
  .code New4.yN New4.yB 6 none, .fieldLink ST 38 ST "COMPACT_STRINGS" "Z", .laysFinal ST ST "value" "[B", .fieldLink ST 9 ST "value" "[B", .laysFinal ST ST "coder" "B", .fieldLink ST 15 ST "coder" "B",
  .methodLink ST 1 Lib.objectInit, .instanceMethod Lib.objectInit, .code Lib.objectInit ⟨#[0xb1]⟩ 1 none, .methodLink ST 177 Cmp3.yN, .static Cmp3.yN, .methodLink ST 47 CodL.yN, .static CodL.yN,
  .code Cmp3.yN Cmp3.yB 6 (some (.array .byte)), .initialized U16, .arrayClass .byte, .methodLink U16 115 Cmp5.yN, .static Cmp5.yN, .code Cmp5.yN Cmp5.yB 7 (some .int), .code CodL.yN CodL.yB 2 (some .byte)]
theorem tab_of {a : Array Value} {s : State} (h : ∀ w ∈ words, w.before a s = true) : New1.tab.before a s = true := by
  have h5 : Cmp5.tab.before a s = true := unparts (wk h (.code Cmp5.yN Cmp5.yB 7 (some .int))) (wks h (.initialized Cmp5.yN.cls :: Cmp5.site))
  have hc : CodL.tab.before a s = true := unparts (wk h (.code CodL.yN CodL.yB 2 (some .byte))) (wks h (.initialized CodL.yN.cls :: CodL.site))
  have q5 : ∀ w ∈ Cmp5.tab :: words, w.before a s = true := fun w hw => (List.mem_cons.mp hw).elim (fun e => e ▸ h5) (h w)
  have h3 : Cmp3.tab.before a s = true := unparts (wk q5 (.code Cmp3.yN Cmp3.yB 6 (some (.array .byte)))) (wks q5 (.initialized Cmp3.yN.cls :: Cmp3.site))
  have q3 : ∀ w ∈ Cmp3.tab :: CodL.tab :: words, w.before a s = true := fun w hw => (List.mem_cons.mp hw).elim (fun e => e ▸ h3) fun hw => (List.mem_cons.mp hw).elim (fun e => e ▸ hc) (h w)
  have h4 : New4.tab.before a s = true := unparts (wk q3 (.code New4.yN New4.yB 6 none)) (wks q3 (.initialized New4.yN.cls :: New4.site))
  have q4 : ∀ w ∈ New4.tab :: words, w.before a s = true := fun w hw => (List.mem_cons.mp hw).elim (fun e => e ▸ h4) (h w)
  exact unparts (wk q4 (.code New1.yN New1.yB 2 none)) (wks q4 (.initialized New1.yN.cls :: New1.site))
/-- the words ride from the start Z to the walk's own state -/
theorem moved {Z s : State} {a0 args : Array Value} (hZ : Z.Warmed39 s.vm) (hw : ∀ d ∈ words, d.before a0 Z = true) : ∀ d ∈ words, d.before args s = true := fun d hd => by
  have q := hw d hd
  have t : ∀ d ∈ words, d = .arrayClass .byte ∨ (d.onTables && d.keepsFace) = true := by decide +kernel
  rcases t d hd with rfl | t
  · exact RoadKit.mvA hZ q
  · exact RoadKit.mv hZ q t
/-- WHAT COMES BACK, over the tables of the start Z: h the heap at the call, h' behind it -/
def Q (Z : State) (x : Addr) (A : Cell) (h : Heap) (v : Option Value) (h' : Heap) (L : List Loc) : Prop := v = none ∧ (∀ y ∈ L, y.base = x) ∧ RoadKit.Keep h h' [x] ∧ h'.size = h.size + 1 ∧ RoadKit.Exa Z h' x ST ∧ RoadKit.Fld Z h' x ST "value" "[B" (.ref h.size) ∧ RoadKit.Fld Z h' x ST "coder" "B" (.int 0) ∧
  (∃ V : Cell, RoadKit.Arr Z h' h.size V .byte ∧ V.vm = .none ∧ Z.vm.findClass "[B" = some V.cls ∧ V.slots.size = A.slots.size ∧ ∀ j, j < A.slots.size → V.slots[j]? = some (.int (lo8 (cv A j)))) ∧
  ∀ (O n d : String) (w : Value), RoadKit.Fld Z h x O n d w → RoadKit.slotOf Z O n d ≠ RoadKit.slotOf Z ST "value" "[B" → RoadKit.slotOf Z O n d ≠ RoadKit.slotOf Z ST "coder" "B" → RoadKit.Fld Z h' x O n d w
/-- **new String(chars) AT A CALL, IN THE ROAD'S FORM**: for specialBack behind newO: x the fresh String, b the char[] with the cell A -/
theorem back {p : Program} {l : Launch} {e : Env} {R : Room} {s : State} {args : Array Value} {below : List Frame} {len W : Nat} {Z : State} {a0 : Array Value} {h : Heap} (hZ : Z.Warmed39 s.vm) (hw : ∀ d ∈ words, d.before a0 Z = true) {kI : Nat} (wi : (Jvm.Cond.instantiable ST kI).before a0 Z = true)
    {x b : Addr} {A : Cell} {z : Int32} {v0 c0 : Value} (E : RoadKit.Exa Z h x ST) (V : RoadKit.Fld Z h x ST "value" "[B" v0) (C : RoadKit.Fld Z h x ST "coder" "B" c0) (K : RoadKit.Arr Z h b A .char) (hty : Typed .char A) (S : RoadKit.Sta Z h ST "COMPACT_STRINGS" "Z" (.int z)) (hz : ¬ z = 0)
    (l0 : 0 < A.slots.size) (l2 : A.slots.size ≤ 536870912) (hp : ∀ i, i < A.slots.size → ¬ 255 < cv A i) (hfr : 4 ≤ R.frames) (hlo : W + 65 ≤ R.locals) :
    Back l R p e below s args New1.yN len W (fun P a => a = #[.ref x, .ref b] ∧ P.U.heap = h ∧ P.cells + 1 ≤ R.cells ∧ P.slots + A.slots.size ≤ R.slots)
      (fun P _ v B => ∃ L, Q Z x A h v B.U.heap L ∧ B.locs = P.locs ++ L ∧ B.cells = P.cells + 1 ∧ B.slots = P.slots + A.slots.size) := by
  intro m meth c P g ig mk a X hg hsize hdg hW hn hp'
  obtain ⟨rfl, rfl, r1, r2⟩ := hp'
  have al : Z.vm.Alike P.U.vm := hZ.alike.trans X.warmed.alike
  obtain ⟨D, cfV, kV, iV, fV, hD, gV, stV, knV, obV, asV, slV⟩ := id V
  obtain ⟨D', cfC, kC, iC, fC, hD', gC, stC, -, -, asC, slC⟩ := id C
  cases hD.symm.trans hD'
  obtain ⟨D2, kD, e1, e2, e3, e4, e5⟩ := id E
  cases hD.symm.trans e1
  obtain ⟨c2, k2, i1, i2, i3, -⟩ := Cond.instantiable_spec wi
  cases e2.symm.trans i1
  cases e3.symm.trans i2
  obtain ⟨kU, u1, u2⟩ := al.2.2 _ _ e3
  have hB : Blank ST x D P.U := ⟨hD, ⟨knV, fun q hq => by rw [hq] at obV; cases obV⟩, by rw [al.findClass]; exact e2, kU, u1, by rw [u2]; exact i3, by rw [u2]; exact e5 i3⟩
  have F1 : Found ST "value" "[B" fV P.U := ⟨SBG.found_only al ⟨cfV, kV, iV, gV⟩, stV⟩
  have F2 : Found ST "coder" "B" fC P.U := ⟨SBG.found_only al ⟨cfC, kC, iC, gC⟩, stC⟩
  have hA : Ch b A P.U := ⟨⟨K.1, State.isArrayOf_alike al K.2.1, K.2.2, by omega⟩, hty⟩
  have hS : StaticIs P.U ST "COMPACT_STRINGS" "Z" (.int z) := by
    obtain ⟨cfS, iS, kS, fS, st, cS, t1, t2, t3, t4, t5, t6, t7⟩ := S
    exact StaticIs.there (s := { Z with heap := P.U.heap }) ⟨cfS, iS, kS, fS, st, cS, t1, t2, t3, t4, t5, (fun q => by rw [q] at t6; cases t6), t7⟩ al rfl
  obtain ⟨v, B, X', ⟨⟨hv, E', V', q1, q2, q3, q4, q5, q6, q7, q8, q9, q10, q11⟩, hl, hc, hs⟩, st⟩ := New1.pays x D fV fC b A z (tab_of (moved hZ hw)) hfr hlo m meth c P g ig mk _ X hg hsize hdg hW hn ⟨r1, r2, rfl, hB, F1, F2, hA, hS, hz, l0, l2, hp⟩
  have al' : Z.vm.Alike B.U.vm := hZ.alike.trans X'.warmed.alike
  have hsz : E'.slots.size = D.slots.size := by
    obtain ⟨-, -, -, kB, w1, w2, w3⟩ := q1
    obtain ⟨kB', y1, y2⟩ := al'.2.2 _ _ e3
    rw [q2.2.1] at w1
    cases w1.symm.trans y1
    rw [w3, e5 i3, y2]
  refine ⟨v, B, X', ⟨_, ⟨hv, ?_, ⟨by omega, fun y cy hy hn' => q10 y cy (by simpa using hn') hy, fun y cy hy => ?_⟩, q11, ⟨E', _, q1.1, by rw [q2.2.1]; exact e2, by rw [q2.2.1]; exact e3, by rw [q2.1]; exact obV, fun _ => by rw [hsz]; exact e5 i3⟩,
    ⟨E', cfV, kV, iV, fV, q1.1, gV, stV, by rw [q2.1]; exact knV, by rw [q2.1]; exact obV, by rw [q2.2.1]; exact asV, q3⟩, ⟨E', cfC, kC, iC, fC, q1.1, gC, stC, by rw [q2.1]; exact knV, by rw [q2.1]; exact obV, by rw [q2.2.1]; exact asC, q4⟩,
    ⟨V', ⟨q5.1, State.isArrayOf_alike al'.symm q5.2.1, q5.2.2.1⟩, q6, by rw [← al'.findClass]; exact q7, q8, fun j hj => by have := q9 j hj; rwa [Nat.zero_add] at this⟩, fun O n d w F n1 n2 => ?_⟩, hl, hc, hs⟩, st⟩
  · intro y hy
    simp only [List.mem_cons, List.not_mem_nil, or_false] at hy
    rcases hy with rfl | rfl <;> rfl
  · by_cases q : y = x
    · subst q
      cases hD.symm.trans hy
      exact ⟨E', q1.1, q2.2.1, q2.1, hsz⟩
    · exact ⟨cy, q10 y cy q hy, rfl, rfl, rfl⟩
  · obtain ⟨D3, cf, k, i, f, g1, g2, g3, g4, g5, g6, g7⟩ := F
    cases hD.symm.trans g1
    simp only [RoadKit.slotOf, g2, gV, gC, Option.map_some, Option.getD_some] at n1 n2
    exact ⟨E', cf, k, i, f, q1.1, g2, g3, by rw [q2.1]; exact g4, by rw [q2.1]; exact g5, by rw [q2.2.1]; exact g6, by rw [q2.2.2 f.slot (by simp [n1, n2])]; exact g7⟩
end StrChars.Road
namespace StrChars.Road
open Jvm Sem ClassFile Op Lib Jvm.Stand Jvm.Free Jvm.Free.XT
/-- WHAT COMES BACK, the byte[] as a list of values -/
def QA (Z : State) (x : Addr) (zn : Int32) (cs : List Int32) (h : Heap) (v : Option Value) (h' : Heap) (L : List Loc) : Prop := v = none ∧ (∀ y ∈ L, y.base = x) ∧ RoadKit.Keep h h' [x] ∧ h'.size = h.size + 1 ∧ RoadKit.Exa Z h' x ST ∧ RoadKit.Fld Z h' x ST "value" "[B" (.ref h.size) ∧ RoadKit.Fld Z h' x ST "coder" "B" (.int 0) ∧
  (∃ kb, Z.vm.findClass "[B" = some kb ∧ RoadKit.Arv Z h' h.size kb .byte zn (cs.map fun c => .int (lo8 c)) (.int 0)) ∧
  ∀ (O n d : String) (w : Value), RoadKit.Fld Z h x O n d w → RoadKit.slotOf Z O n d ≠ RoadKit.slotOf Z ST "value" "[B" → RoadKit.slotOf Z O n d ≠ RoadKit.slotOf Z ST "coder" "B" → RoadKit.Fld Z h' x O n d w
/-- **new String(chars) AT A CALL, THE ARRAYS AS LISTS**: the char[] at b holds cs, not empty, no char above 255 -/
theorem backArv {p : Program} {l : Launch} {e : Env} {R : Room} {s : State} {args : Array Value} {below : List Frame} {len W : Nat} {Z : State} {a0 : Array Value} {h : Heap} (hZ : Z.Warmed39 s.vm) (hw : ∀ d ∈ words, d.before a0 Z = true) {kI : Nat} (wi : (Jvm.Cond.instantiable ST kI).before a0 Z = true)
    {x b : Addr} {k : ClassId} {zn z : Int32} {cs : List Int32} {dv v0 c0 : Value} (E : RoadKit.Exa Z h x ST) (V : RoadKit.Fld Z h x ST "value" "[B" v0) (C : RoadKit.Fld Z h x ST "coder" "B" c0) (K : RoadKit.Arv Z h b k .char zn (cs.map Value.int) dv) (S : RoadKit.Sta Z h ST "COMPACT_STRINGS" "Z" (.int z)) (hz : ¬ z = 0)
    (hlen : zn.toNatClampNeg = cs.length) (h0 : 0 < cs.length) (hbig : cs.length ≤ 536870912) (hall : ∀ c ∈ cs, ¬ 255 < c) (hfr : 4 ≤ R.frames) (hlo : W + 65 ≤ R.locals) :
    Back l R p e below s args New1.yN len W (fun P a => a = #[.ref x, .ref b] ∧ P.U.heap = h ∧ P.cells + 1 ≤ R.cells ∧ P.slots + cs.length ≤ R.slots)
      (fun P _ v B => ∃ L, QA Z x zn cs h v B.U.heap L ∧ B.locs = P.locs ++ L ∧ B.cells = P.cells + 1 ∧ B.slots = P.slots + cs.length) := by
  obtain ⟨A, K1, K2, K3, K4, K5, K6⟩ := K
  have e : A.slots.size = cs.length := K3.trans hlen
  have hat : ∀ (i : Nat) (hi : i < cs.length), A.slots[i]? = some (.int cs[i]) := fun i hi => by rw [K5 i (by omega)]; simp [List.getD_eq_getElem?_getD, hi]
  have hcv : ∀ (i : Nat) (hi : i < cs.length), cv A i = cs[i] := fun i hi => by unfold cv; rw [hat i hi]
  have hty : Typed .char A := fun i v hv => by
    have hi : i < A.slots.size := (Array.getElem?_eq_some_iff.mp hv).1
    have q := K5 i hi
    rw [hv] at q
    rw [Option.some.inj q]
    exact K6 i hi
  refine Back.mono (back hZ hw wi E V C K1 hty S hz (by omega) (by omega) (fun i hi => by rw [hcv i (by omega)]; exact hall _ (List.getElem_mem _)) hfr hlo) (fun P a hp => ⟨hp.1, hp.2.1, hp.2.2.1, by rw [e]; exact hp.2.2.2⟩) (fun P a v B hp hq => ?_)
  obtain ⟨L, ⟨q1, q2, q3, q4, q5, q6, q7, ⟨V', v1, v2, v3, v4, v5⟩, q9⟩, hl, hc, hs⟩ := hq
  refine ⟨L, ⟨q1, q2, q3, q4, q5, q6, q7, ⟨V'.cls, v3, V', v1, rfl, by rw [v4, e, hlen], K4, fun i hi => ?_, fun i hi => ?_⟩, q9⟩, hl, hc, by rw [hs, e]⟩
  · have hi' : i < cs.length := by omega
    rw [v5 i (by omega), hcv i hi']; simp [List.getD_eq_getElem?_getD, hi']
  · have hi' : i < cs.length := by omega
    simp only [List.getD_eq_getElem?_getD, List.getElem?_map, List.getElem?_eq_getElem hi', Option.map_some, Option.getD_some]
    exact fits_lo8 _
end StrChars.Road
namespace StrChars.Road
open Jvm Sem ClassFile Op Lib Jvm.Stand Jvm.Free Jvm.Free.XT
/-- WHAT COMES BACK, in the writer's own shape -/
def QV (Z : State) (x : Addr) (N : Int32) (bs : List Int32) (h : Heap) (n0 : Nat) (v : Option Value) (h' : Heap) (L : List Loc) : Prop := v = none ∧ RoadKit.Fr n0 L ∧ RoadKit.Keep h h' [x] ∧ RoadKit.Exa Z h' x ST ∧ RoadKit.Fld Z h' x ST "coder" "B" (.int 0) ∧
  ∃ (t : Addr) (kb : ClassId), n0 ≤ t ∧ h.size ≤ t ∧ ¬ t = x ∧ RoadKit.Fld Z h' x ST "value" "[B" (.ref t) ∧ RoadKit.Arv Z h' t kb .byte N (bs.map Value.int) (.int 0)
/-- **new String(chars) AT A CALL, FOR THE WRITER**: a char[] of n known ints, each 0 to 255 -/
theorem backV {p : Program} {l : Launch} {e : Env} {R : Room} {s : State} {args : Array Value} {below : List Frame} {len W : Nat} {Z : State} {a0 : Array Value} {h : Heap} (hZ : Z.Warmed39 s.vm) (hw : ∀ d ∈ words, d.before a0 Z = true) {kI : Nat} (wi : (Jvm.Cond.instantiable ST kI).before a0 Z = true)
    {x b : Addr} {kC : ClassId} {cs bs : List Int32} {d v0 c0 : Value} {z N : Int32} {n n0 : Nat} (hx0 : n0 ≤ x) (hh0 : n0 ≤ h.size) (E : RoadKit.Exa Z h x ST) (V : RoadKit.Fld Z h x ST "value" "[B" v0) (C : RoadKit.Fld Z h x ST "coder" "B" c0) (K : RoadKit.Arv Z h b kC .char N (cs.map Value.int) d) (S : RoadKit.Sta Z h ST "COMPACT_STRINGS" "Z" (.int z)) (hz : ¬ z = 0)
    (hn : cs.length = n) (hN : N = Int32.ofNat n) (l0 : 0 < n) (l2 : n ≤ 4000) (hp : ∀ c ∈ cs, ¬ c < 0 ∧ ¬ (255 : Int32) < c) (hb : bs = cs.map (fun c => c.toInt8.toInt32)) (hfr : 4 ≤ R.frames) (hlo : W + 65 ≤ R.locals) :
    Back l R p e below s args (⟨"java/lang/String", "<init>", "([C)V"⟩ : MethodName) len W (fun P a => a = #[.ref x, .ref b] ∧ P.U.heap = h ∧ P.cells + 1 ≤ R.cells ∧ P.slots + n ≤ R.slots)
      (fun P _ v B => ∃ L, QV Z x N bs h n0 v B.U.heap L ∧ B.locs = P.locs ++ L ∧ B.cells = P.cells + 1 ∧ B.slots = P.slots + n) := by
  subst hn hN hb
  refine Back.mono (backArv hZ hw wi E V C K S hz (n32 (by omega)) l0 (by omega) (fun c hc => (hp c hc).2) hfr hlo) (fun P a hp => hp) (fun P a v B hp hq => ?_)
  obtain ⟨L, ⟨q1, q2, q3, q4, q5, q6, q7, ⟨kb, v1, v2⟩, q9⟩, hl, hc, hs⟩ := hq
  exact ⟨L, ⟨q1, fun y hy => by rw [q2 y hy]; exact hx0, q3, q5, q7, h.size, kb, hh0, Nat.le_refl _, Nat.ne_of_gt E.lt, q6, by rw [List.map_map]; exact v2⟩, hl, hc, hs⟩
end StrChars.Road
namespace StrChars
open Jvm Sem ClassFile Op Lib Jvm.Stand Jvm.Free.XT Jvm.Free.ALB Jvm.Free.JM Jvm.Free
open Jvm.Lib.Cold (StaticIs)
def hi8 (x : Int32) : Int32 := lo8 (x >>> ((8 : Int32) &&& 31))
/-- what StringUTF16.getChar makes of two bytes -/
def pairCh (u v : Int32) : Int32 := (((u &&& 255) <<< ((0 : Int32) &&& 31)) ||| ((v &&& 255) <<< ((8 : Int32) &&& 31))).toUInt32.toUInt16.toUInt32.toInt32
theorem lo8_and (x : Int32) : (lo8 x &&& 255).toBitVec.toNat = x.toBitVec.toNat % 256 := by
  have h : (lo8 x).toBitVec = (x.toBitVec.signExtend 8).signExtend 32 := by rw [lo8, Int8.toBitVec_toInt32, Int32.toBitVec_toInt8]
  rw [Int32.toBitVec_and, BitVec.toNat_and, h]
  have e : ((x.toBitVec.signExtend 8).signExtend 32).toNat % 256 = x.toBitVec.toNat % 256 := by
    rw [BitVec.toNat_signExtend]
    have hlt := x.toBitVec.isLt
    simp only [BitVec.toNat_setWidth, BitVec.toNat_signExtend]
    split <;> split <;> omega
  rw [← e]
  exact Nat.and_two_pow_sub_one_eq_mod _ 8
theorem pair_says {c : Int32} (h0 : ¬ c < 0) (h1 : ¬ 65535 < c) : pairCh (lo8 c) (hi8 c) = c := by
  rw [Int32.lt_iff_toInt_lt] at h0 h1
  have e0 : (0 : Int32).toInt = 0 := rfl
  have e1 : (65535 : Int32).toInt = 65535 := rfl
  have hc : c.toInt = c.toBitVec.toNat := by
    have := c.toBitVec.isLt
    have e : c.toInt = c.toBitVec.toInt := rfl
    rw [e] at h0 h1
    rw [e]
    rw [BitVec.toInt_eq_toNat_cond] at h0 h1 ⊢
    split at h0 <;> split <;> omega
  have hn : c.toBitVec.toNat < 65536 := by omega
  have a1 := lo8_and c
  have a2 : (hi8 c &&& 255).toBitVec.toNat = c.toBitVec.toNat / 256 := by
    rw [hi8, lo8_and]
    have e : ((8 : Int32) &&& 31) = 8 := by decide
    rw [e, Int32.toBitVec_shiftRight]
    have e2 : ((8 : Int32).toBitVec.smod 32) = 8#32 := by decide
    rw [e2, BitVec.sshiftRight_eq', BitVec.toNat_sshiftRight_of_msb_false (by rw [BitVec.msb_eq_false_iff_two_mul_lt]; omega)]
    show c.toBitVec.toNat >>> 8 % 256 = _
    rw [Nat.shiftRight_eq_div_pow]
    omega
  unfold pairCh
  apply Int32.toBitVec_inj.mp
  apply BitVec.eq_of_toNat_eq
  have f0 : ((0 : Int32) &&& 31) = 0 := by decide
  have f8 : ((8 : Int32) &&& 31) = 8 := by decide
  rw [f0, f8]
  have g : (((lo8 c &&& 255) <<< (0 : Int32)) ||| ((hi8 c &&& 255) <<< (8 : Int32))).toBitVec.toNat = c.toBitVec.toNat := by
    rw [Int32.toBitVec_or, Int32.toBitVec_shiftLeft, Int32.toBitVec_shiftLeft]
    have s0 : ((0 : Int32).toBitVec.smod 32) = 0#32 := by decide
    have s8 : ((8 : Int32).toBitVec.smod 32) = 8#32 := by decide
    rw [s0, s8, BitVec.toNat_or]
    simp only [BitVec.shiftLeft_eq', BitVec.toNat_shiftLeft, a1, a2]
    show (c.toBitVec.toNat % 256) <<< 0 % 2 ^ 32 ||| (c.toBitVec.toNat / 256) <<< 8 % 2 ^ 32 = _
    rw [Nat.shiftLeft_zero, Nat.mod_eq_of_lt (show c.toBitVec.toNat % 256 < 2 ^ 32 by omega), Nat.mod_eq_of_lt (show (c.toBitVec.toNat / 256) <<< 8 < 2 ^ 32 by rw [Nat.shiftLeft_eq]; omega), Nat.or_comm, ← Nat.shiftLeft_add_eq_or_of_lt (by omega), Nat.shiftLeft_eq]
    omega
  show BitVec.toNat (((((lo8 c &&& 255) <<< (0 : Int32)) ||| ((hi8 c &&& 255) <<< (8 : Int32))).toBitVec.setWidth 16).setWidth 32) = _
  rw [BitVec.toNat_setWidth, BitVec.toNat_setWidth, g]
  omega
end StrChars
namespace StrChars
open Jvm Sem ClassFile Op Lib Jvm.Stand Jvm.Free.XT Jvm.Free.ALB Jvm.Free.JM Jvm.Free
open Jvm.Lib.Cold (StaticIs)
/-- the array's cell V codes the n chars f 0 .. f (n - 1) by the coder cd, as the JDK does: coder 1 just where some char is above 255 -/
def Cod (cd : Int32) (n : Nat) (f : Nat → Int32) (V : Cell) : Prop := (cd = 0 ∧ V.slots.size = n ∧ ∀ j, j < n → V.slots[j]? = some (.int (lo8 (f j))) ∧ ¬ 255 < f j) ∨ (cd = 1 ∧ V.slots.size = 2 * n ∧ (∀ j, j < n → V.slots[2 * j]? = some (.int (lo8 (f j))) ∧ V.slots[2 * j + 1]? = some (.int (hi8 (f j)))) ∧ ∃ j, j < n ∧ 255 < f j)
/-- **x is a String of the n chars f 0 .. f (n - 1)**, Latin-1 or UTF-16; its array at t has the cell V -/
def Txt (x t : Addr) (V : Cell) (cd : Int32) (n : Nat) (f : Nat → Int32) (U : State) : Prop := Exact "java/lang/String" x U ∧ Has x "java/lang/String" "value" "[B" (.ref t) U ∧ Has x "java/lang/String" "coder" "B" (.int cd) U ∧ XT.Arr .byte t V U ∧ Cod cd n f V ∧ ∀ j, j < n → ¬ f j < 0 ∧ ¬ 65535 < f j
theorem Txt.mv {x t : Addr} {V : Cell} {cd : Int32} {n : Nat} {f : Nat → Int32} {U U' : State} (h : Txt x t V cd n f U) (hal : U.vm.Alike U'.vm) (hh : U'.heap = U.heap) : Txt x t V cd n f U' := ⟨h.1.mv hal hh, h.2.1.mv hal hh, h.2.2.1.mv hal hh, h.2.2.2.1.mv hal hh, h.2.2.2.2⟩
end StrChars
namespace StrChars.Road
open Jvm Sem ClassFile Op Lib Jvm.Stand Jvm.Free Jvm.Free.XT
open Jvm.Lib.Cold (StaticIs)
theorem consq {a : Array Value} {s : State} {c : Jvm.Cond} {L : List Jvm.Cond} (h0 : c.before a s = true) (h : ∀ w ∈ L, w.before a s = true) : ∀ w ∈ c :: L, w.before a s = true := fun w hw => (List.mem_cons.mp hw).elim (fun e => e ▸ h0) (h w)
/-- the bytes of the chars cs, low before high -/
def wideBytes : List Int32 → List Value
  | [] => []
  | c :: cs => .int (lo8 c) :: .int (hi8 c) :: wideBytes cs
theorem wide_lo (d : Value) : ∀ (cs : List Int32) (j : Nat), j < cs.length → (wideBytes cs).getD (2 * j) d = .int (lo8 (cs.getD j 0))
  | [], j, h => absurd h (Nat.not_lt_zero j)
  | c :: cs, 0, _ => rfl
  | c :: cs, j + 1, h => by
    have q := wide_lo d cs j (by simpa using h)
    rw [show 2 * (j + 1) = 2 * j + 1 + 1 from by omega]
    simpa [wideBytes] using q
theorem wide_hi (d : Value) : ∀ (cs : List Int32) (j : Nat), j < cs.length → (wideBytes cs).getD (2 * j + 1) d = .int (hi8 (cs.getD j 0))
  | [], j, h => absurd h (Nat.not_lt_zero j)
  | c :: cs, 0, _ => rfl
  | c :: cs, j + 1, h => by
    have q := wide_hi d cs j (by simpa using h)
    rw [show 2 * (j + 1) + 1 = 2 * j + 1 + 1 + 1 from by omega]
    simpa [wideBytes] using q
theorem low_at (d : Value) (cs : List Int32) (j : Nat) (h : j < cs.length) : (cs.map fun c => Value.int (lo8 c)).getD j d = .int (lo8 (cs.getD j 0)) := by
  simp [List.getD_eq_getElem?_getD, h]
/-- an array of N2 bytes vs codes the chars cs by the coder cd -/
def CodA (cs : List Int32) (cd N2 : Int32) (vs : List Value) : Prop := (cd = 0 ∧ N2 = Int32.ofNat cs.length ∧ vs = (cs.map fun c => Value.int (lo8 c)) ∧ ∀ c ∈ cs, ¬ 255 < c) ∨ (cd = 1 ∧ N2 = Int32.ofNat (2 * cs.length) ∧ vs = wideBytes cs ∧ ∃ c ∈ cs, 255 < c)
theorem CodA.cod {cs : List Int32} {cd N2 : Int32} {vs : List Value} {V : Cell} (h : CodA cs cd N2 vs) (hn : 2 * cs.length < 2 ^ 31) (hs : V.slots.size = N2.toNatClampNeg) (hv : RoadKit.Has V vs (.int 0)) : Cod cd cs.length (fun j => cs.getD j 0) V := by
  rcases h with ⟨rfl, rfl, rfl, h⟩ | ⟨rfl, rfl, rfl, c, hc, hw⟩
  · rw [n32 (by omega)] at hs
    exact Or.inl ⟨rfl, hs, fun j hj => ⟨by rw [hv j (by omega), low_at _ _ _ hj], by
      have e : cs.getD j 0 = cs[j] := by simp [List.getD_eq_getElem?_getD, hj]
      show ¬ 255 < cs.getD j 0
      rw [e]; exact h _ (List.getElem_mem _)⟩⟩
  · rw [n32 (by omega)] at hs
    obtain ⟨j, hj, rfl⟩ := List.getElem_of_mem hc
    exact Or.inr ⟨rfl, hs, fun j hj => ⟨by rw [hv _ (by omega), wide_lo _ _ _ hj], by rw [hv _ (by omega), wide_hi _ _ _ hj]⟩, j, hj, by
      have e : cs.getD j 0 = cs[j] := by simp [List.getD_eq_getElem?_getD, hj]
      show 255 < cs.getD j 0
      rw [e]; exact hw⟩
/-- an object of exactly java/lang/String, its two fields found: as the laws ask it -/
theorem strObj {Z U : State} {a0 : Array Value} {kI : Nat} (wi : (Jvm.Cond.instantiable ST kI).before a0 Z = true) (al : Z.vm.Alike U.vm) {x : Addr} {v0 c0 : Value} (E : RoadKit.Exa Z U.heap x ST) (V : RoadKit.Fld Z U.heap x ST "value" "[B" v0) (C : RoadKit.Fld Z U.heap x ST "coder" "B" c0) :
    ∃ (D : Cell) (fV fC : Field), Blank ST x D U ∧ Found ST "value" "[B" fV U ∧ Found ST "coder" "B" fC U ∧ D.slots[fV.slot]? = some v0 ∧ D.slots[fC.slot]? = some c0 ∧ RoadKit.slotOf Z ST "value" "[B" = fV.slot ∧ RoadKit.slotOf Z ST "coder" "B" = fC.slot := by
  obtain ⟨D, cfV, kV, iV, fV, hD, gV, stV, knV, obV, asV, slV⟩ := V
  obtain ⟨D', cfC, kC, iC, fC, hD', gC, stC, -, -, asC, slC⟩ := C
  cases hD.symm.trans hD'
  obtain ⟨D2, kD, e1, e2, e3, e4, e5⟩ := E
  cases hD.symm.trans e1
  obtain ⟨c2, k2, i1, i2, i3, -⟩ := Cond.instantiable_spec wi
  cases e2.symm.trans i1
  cases e3.symm.trans i2
  obtain ⟨kU, u1, u2⟩ := al.2.2 _ _ e3
  exact ⟨D, fV, fC, ⟨hD, ⟨knV, fun q hq => by rw [hq] at obV; cases obV⟩, by rw [al.findClass]; exact e2, kU, u1, by rw [u2]; exact i3, by rw [u2]; exact e5 i3⟩, ⟨SBG.found_only al ⟨cfV, kV, iV, gV⟩, stV⟩, ⟨SBG.found_only al ⟨cfC, kC, iC, gC⟩, stC⟩, slV, slC, by simp [RoadKit.slotOf, gV], by simp [RoadKit.slotOf, gC]⟩
theorem sta_is {Z U : State} (al : Z.vm.Alike U.vm) {C n d : String} {v : Value} (S : RoadKit.Sta Z U.heap C n d v) : StaticIs U C n d v := by
  obtain ⟨cfS, iS, kS, fS, st, cS, t1, t2, t3, t4, t5, t6, t7⟩ := S
  exact StaticIs.there (s := { Z with heap := U.heap }) ⟨cfS, iS, kS, fS, st, cS, t1, t2, t3, t4, t5, (fun q => by rw [q] at t6; cases t6), t7⟩ al rfl
end StrChars.Road
namespace StrChars
open Jvm Sem ClassFile Op Lib Jvm.Stand Jvm.Free.XT Jvm.Free.ALB Jvm.Free.JM Jvm.Free
open Jvm.Lib.Cold (StaticIs)
/-- what place i of a byte[]'s cell holds -/
def yv (A : Cell) (i : Nat) : Int32 := match A.slots[i]? with | some (.int x) => x | _ => 0
theorem yv_get {a : Addr} {A : Cell} {U : State} (h : XT.Arr .byte a A U) (ht : Typed .byte A) {i : Nat} (hi : i < A.slots.size) : A.slots[i]? = some (.int (yv A i)) := by
  have e := Array.getElem?_eq_getElem hi
  have f := ht i _ e
  unfold yv; rw [e]
  generalize A.slots[i] = v at f
  cases v <;> simp [fits] at f ⊢
/-- the two arrays are equal, place for place -/
def EqC (A B : Cell) : Prop := A.slots.size = B.slots.size ∧ ∀ i, i < A.slots.size → yv A i = yv B i
/-- a boolean that says whether p -/
def Says01 (q : Prop) (r : Option Value) (s u : State) : Prop := ∃ v : Int32, r = some (.int v) ∧ u.heap = s.heap ∧ ((v = 1 ∧ q) ∨ (v = 0 ∧ ¬ q))
theorem Says01.mv {q : Prop} : ∀ r (U U' V V' : State), U'.heap = U.heap → V.vm.Alike V'.vm → V'.heap = V.heap → Says01 q r U V → Says01 q r U' V' :=
  fun r U U' V V' h1 _ h2 ⟨v, a, b, c⟩ => ⟨v, a, by rw [h1, h2]; exact b, c⟩
namespace LEq
def yN : MethodName := ⟨"java/lang/StringLatin1", "equals", "([B[B)Z"⟩
abbrev yB : ByteArray := jdk_43_method_13_code
theorem d0 : decode yB 0 = .ok (.aload_n 0, 1) := by decide +kernel
theorem d1 : decode yB 1 = .ok (.arraylength, 1) := by decide +kernel
theorem d2 : decode yB 2 = .ok (.aload_n 1, 1) := by decide +kernel
theorem d3 : decode yB 3 = .ok (.arraylength, 1) := by decide +kernel
theorem d4 : decode yB 4 = .ok (.if_icmp (.ne) 30, 3) := by decide +kernel
theorem d7 : decode yB 7 = .ok (.iconst 0, 1) := by decide +kernel
theorem d8 : decode yB 8 = .ok (.istore_n 2, 1) := by decide +kernel
theorem d9 : decode yB 9 = .ok (.iload_n 2, 1) := by decide +kernel
theorem d10 : decode yB 10 = .ok (.aload_n 0, 1) := by decide +kernel
theorem d11 : decode yB 11 = .ok (.arraylength, 1) := by decide +kernel
theorem d12 : decode yB 12 = .ok (.if_icmp (.ge) 20, 3) := by decide +kernel
theorem d15 : decode yB 15 = .ok (.aload_n 0, 1) := by decide +kernel
theorem d16 : decode yB 16 = .ok (.iload_n 2, 1) := by decide +kernel
theorem d17 : decode yB 17 = .ok (.baload, 1) := by decide +kernel
theorem d18 : decode yB 18 = .ok (.aload_n 1, 1) := by decide +kernel
theorem d19 : decode yB 19 = .ok (.iload_n 2, 1) := by decide +kernel
theorem d20 : decode yB 20 = .ok (.baload, 1) := by decide +kernel
theorem d21 : decode yB 21 = .ok (.if_icmp (.eq) 5, 3) := by decide +kernel
theorem d24 : decode yB 24 = .ok (.iconst 0, 1) := by decide +kernel
theorem d25 : decode yB 25 = .ok (.ireturn, 1) := by decide +kernel
theorem d26 : decode yB 26 = .ok (.iinc 2 1, 3) := by decide +kernel
theorem d29 : decode yB 29 = .ok (.goto (-20), 3) := by decide +kernel
theorem d32 : decode yB 32 = .ok (.iconst 1, 1) := by decide +kernel
theorem d33 : decode yB 33 = .ok (.ireturn, 1) := by decide +kernel
theorem d34 : decode yB 34 = .ok (.iconst 0, 1) := by decide +kernel
theorem d35 : decode yB 35 = .ok (.ireturn, 1) := by decide +kernel
def site : List Cond := []
def tab : Cond := tabOf yN yB 3 (some .boolean) site
def P (a : Addr) (A : Cell) (b : Addr) (B : Cell) (args : Array Value) (s : State) : Prop := args = #[.ref a, .ref b] ∧ XT.Arr .byte a A s ∧ Typed .byte A ∧ XT.Arr .byte b B s ∧ Typed .byte B
/-- whether two byte[] are equal, place for place -/
theorem law (l : Launch) (a : Addr) (A : Cell) (b : Addr) (B : Cell) : Law l yN 2 2 0 0 yB 3 (some .boolean) site (P a A b B) (Says01 (EqC A B)) [] 0 0 := by
  refine Law.of_walk (plainFor_of_name (by decide +kernel)) (by decide +kernel) (by decide +kernel) (by decide) (fun _ _ h => by rw [h.1]; rfl) (fun _ U U' hal hh h => ⟨h.1, h.2.1.mv hal hh, h.2.2.1, h.2.2.2.1.mv hal hh, h.2.2.2.2⟩) (fun r U U' V V' h1 hal h2 h => Says01.mv r U U' V V' h1 hal h2 h) ?_
  intro p e s m args below meth c s₁ X0 hexec hbytes hml hret hlk hnm hown hh0 W hP
  obtain ⟨rfl, hA, tA, hB, tB⟩ := hP
  have a31 := hA.2.2.2
  have b31 := hB.2.2.2
  have hA0 := hA.mv X0.warmed.alike hh0
  have hB0 := hB.mv X0.warmed.alike hh0
  have c1 : Steps p.tables e below (s₁.setTop (entryFrame m #[.ref a, .ref b] 3)) (s₁.setTop (mkF m 0 #[.val (.ref a), .val (.ref b), .unset] [])) := entry rfl
  have c2 : Steps p.tables e below (s₁.setTop (entryFrame m #[.ref a, .ref b] 3)) (s₁.setTop (mkF m 4 #[.val (.ref a), .val (.ref b), .unset] [.int (Int32.ofNat B.slots.size), .int (Int32.ofNat A.slots.size)])) := c1.trans (by
    refine XS.aloadN X0.here hexec rfl (hb hbytes d0) rfl rfl ?_
    refine X0.alen hexec hA0 rfl rfl (hb hbytes d1) ?_
    refine XS.aloadN X0.here hexec rfl (hb hbytes d2) rfl rfl ?_
    refine X0.alen hexec hB0 rfl rfl (hb hbytes d3) ?_
    exact Steps.refl _)
  by_cases hs : A.slots.size = B.slots.size
  · have c3 : Steps p.tables e below (s₁.setTop (entryFrame m #[.ref a, .ref b] 3)) (s₁.setTop (mkF m 9 #[.val (.ref a), .val (.ref b), .val (.int 0)] [])) := c2.trans (by
      refine XS.icmpNo X0.here hexec rfl (hb hbytes d4) rfl (ii_ne_f (by rw [hs])) ?_
      refine iconstV X0.here hexec rfl 0 (hb hbytes d7) (by decide) ?_
      refine XS.istoreN X0.here hexec rfl (hb hbytes d8) rfl rfl ?_
      exact Steps.refl _)
    have loop : ∀ (r i : Nat), i + r = A.slots.size → (∀ j, j < i → yv A j = yv B j) → Steps p.tables e below (s₁.setTop (entryFrame m #[.ref a, .ref b] 3)) (s₁.setTop (mkF m 9 #[.val (.ref a), .val (.ref b), .val (.int (Int32.ofNat i))] [])) → ∃ (pc : Nat) (Ls : Array Slot) (v : Int32), (pc = 25 ∨ pc = 33) ∧ ((v = 1 ∧ EqC A B) ∨ (v = 0 ∧ ¬ EqC A B)) ∧ Steps p.tables e below (s₁.setTop (entryFrame m #[.ref a, .ref b] 3)) (s₁.setTop (mkF m pc Ls [.int v])) := by
      intro r
      induction r with
      | zero =>
        intro i hi he cl
        exact ⟨33, _, 1, Or.inr rfl, Or.inl ⟨rfl, hs, fun j hj => he j (by omega)⟩, cl.trans (by
          refine XS.iloadN X0.here hexec rfl (hb hbytes d9) rfl ?_
          refine XS.aloadN X0.here hexec rfl (hb hbytes d10) rfl rfl ?_
          refine X0.alen hexec hA0 rfl rfl (hb hbytes d11) ?_
          refine XS.icmpYes X0.here hexec rfl (pc0 := 12) rfl (hb hbytes d12) rfl (ii_ge_t (nlt32 (by omega) (by omega))) (by decide) rfl ?_
          refine iconstV X0.here hexec rfl 1 (hb hbytes d32) (by decide) ?_
          exact Steps.refl _)⟩
      | succ r ih =>
        intro i hi he cl
        have c4 : Steps p.tables e below (s₁.setTop (entryFrame m #[.ref a, .ref b] 3)) (s₁.setTop (mkF m 21 #[.val (.ref a), .val (.ref b), .val (.int (Int32.ofNat i))] [.int (yv B i), .int (yv A i)])) := cl.trans (by
          refine XS.iloadN X0.here hexec rfl (hb hbytes d9) rfl ?_
          refine XS.aloadN X0.here hexec rfl (hb hbytes d10) rfl rfl ?_
          refine X0.alen hexec hA0 rfl rfl (hb hbytes d11) ?_
          refine XS.icmpNo X0.here hexec rfl (hb hbytes d12) rfl (ii_ge_f (lt32 (by omega) (by omega))) ?_
          refine XS.aloadN X0.here hexec rfl (hb hbytes d15) rfl rfl ?_
          refine XS.iloadN X0.here hexec rfl (hb hbytes d16) rfl ?_
          refine X0.aget hexec hA0 rfl (yv_get hA tA (i := i) (by omega)) rfl rfl (hb hbytes d17) ?_
          refine XS.aloadN X0.here hexec rfl (hb hbytes d18) rfl rfl ?_
          refine XS.iloadN X0.here hexec rfl (hb hbytes d19) rfl ?_
          refine X0.aget hexec hB0 rfl (yv_get hB tB (i := i) (by omega)) rfl rfl (hb hbytes d20) ?_
          exact Steps.refl _)
        by_cases hv : yv A i = yv B i
        · have c5 : Steps p.tables e below (s₁.setTop (entryFrame m #[.ref a, .ref b] 3)) (s₁.setTop (mkF m 9 #[.val (.ref a), .val (.ref b), .val (.int (Int32.ofNat i + 1))] [])) := c4.trans (by
            refine XS.icmpYes X0.here hexec rfl (pc0 := 21) rfl (hb hbytes d21) rfl (ii_eq_t hv) (by decide) rfl ?_
            refine iincV X0.here hexec rfl 1 (hb hbytes d26) (by decide) rfl rfl ?_
            refine XS.goto X0.here hexec rfl (pc0 := 29) rfl (hb hbytes d29) (by decide) rfl ?_
            exact Steps.refl _)
          rw [succ32] at c5
          exact ih (i + 1) (by omega) (fun j hj => by
            by_cases e : j = i
            · rw [e]; exact hv
            · exact he j (by omega)) c5
        · exact ⟨25, _, 0, Or.inl rfl, Or.inr ⟨rfl, fun q => hv (q.2 i (by omega))⟩, c4.trans (by
            refine XS.icmpNo X0.here hexec rfl (hb hbytes d21) rfl (ii_eq_f hv) ?_
            refine iconstV X0.here hexec rfl 0 (hb hbytes d24) (by decide) ?_
            exact Steps.refl _)⟩
    obtain ⟨pc, Ls, v, hpc, hv, cz⟩ := loop A.slots.size 0 (by omega) (fun j hj => absurd hj (Nat.not_lt_zero j)) c3
    have nv : narrow .boolean (.int v) = .int v := by rcases hv with ⟨rfl, -⟩ | ⟨rfl, -⟩ <;> rfl
    rcases hpc with rfl | rfl
    · exact ⟨s₁, some (.int v), _, _, _, X0, rfl, rfl, rfl, (fun h => by cases h), ⟨v, rfl, hh0, hv⟩, fun fs hl => cz.trans (X0.ireturnOut hexec hret nv (Or.inr (Or.inl rfl)) (hb hbytes d25) hl)⟩
    · exact ⟨s₁, some (.int v), _, _, _, X0, rfl, rfl, rfl, (fun h => by cases h), ⟨v, rfl, hh0, hv⟩, fun fs hl => cz.trans (X0.ireturnOut hexec hret nv (Or.inr (Or.inl rfl)) (hb hbytes d33) hl)⟩
  · have c3 : Steps p.tables e below (s₁.setTop (entryFrame m #[.ref a, .ref b] 3)) (s₁.setTop (mkF m 35 #[.val (.ref a), .val (.ref b), .unset] [.int 0])) := c2.trans (by
      refine XS.icmpYes X0.here hexec rfl (pc0 := 4) rfl (hb hbytes d4) rfl (ii_ne_t (ne32 a31 b31 hs)) (by decide) rfl ?_
      refine iconstV X0.here hexec rfl 0 (hb hbytes d34) (by decide) ?_
      exact Steps.refl _)
    exact ⟨s₁, some (.int 0), _, _, _, X0, rfl, rfl, rfl, (fun h => by cases h), ⟨0, rfl, hh0, Or.inr ⟨rfl, fun q => hs q.1⟩⟩, fun fs hl => c3.trans (X0.ireturnOut hexec hret rfl (Or.inr (Or.inl rfl)) (hb hbytes d35) hl)⟩
end LEq
theorem Cod.ty {cd : Int32} {n : Nat} {f : Nat → Int32} {V : Cell} (h : Cod cd n f V) : Typed .byte V := fun i v hv => by
  have hi : i < V.slots.size := (Array.getElem?_eq_some_iff.mp hv).1
  rcases h with ⟨-, k1, k2⟩ | ⟨-, k1, k2, -⟩
  · rw [(k2 i (by omega)).1] at hv; cases hv; exact fits_lo8 _
  · rcases Nat.mod_two_eq_zero_or_one i with e | e
    · obtain ⟨j, rfl⟩ : ∃ j, i = 2 * j := ⟨i / 2, by omega⟩
      rw [(k2 j (by omega)).1] at hv; cases hv; exact fits_lo8 _
    · obtain ⟨j, rfl⟩ : ∃ j, i = 2 * j + 1 := ⟨i / 2, by omega⟩
      rw [(k2 j (by omega)).2] at hv; cases hv; exact fits_lo8 _
/-- the same text -/
def SameT (n : Nat) (f : Nat → Int32) (k : Nat) (g : Nat → Int32) : Prop := n = k ∧ ∀ j, j < n → f j = g j
theorem lo8_inj {x y : Int32} (h0 : ¬ x < 0) (h1 : ¬ 255 < x) (k0 : ¬ y < 0) (k1 : ¬ 255 < y) (h : lo8 x = lo8 y) : x = y := by
  rw [← lo8_mask h0 h1, ← lo8_mask k0 k1, h]
/-- arrays coded by one coder are equal just where the texts are -/
theorem Cod.eqv {cd : Int32} {n k : Nat} {f g : Nat → Int32} {V V' : Cell} (h : Cod cd n f V) (h' : Cod cd k g V') (hf : ∀ j, j < n → ¬ f j < 0 ∧ ¬ 65535 < f j) (hg : ∀ j, j < k → ¬ g j < 0 ∧ ¬ 65535 < g j) : EqC V V' ↔ SameT n f k g := by
  have yvv : ∀ {W : Cell} {i : Nat} {x : Int32}, W.slots[i]? = some (.int x) → yv W i = x := fun q => by unfold yv; rw [q]
  rcases h with ⟨rfl, k1, k2⟩ | ⟨rfl, k1, k2, -⟩
  · rcases h' with ⟨-, m1, m2⟩ | ⟨e, -⟩
    · constructor
      · rintro ⟨e1, e2⟩
        refine ⟨by omega, fun j hj => ?_⟩
        have q := e2 j (by omega)
        rw [yvv (k2 j hj).1, yvv (m2 j (by omega)).1] at q
        exact lo8_inj (hf j hj).1 (k2 j hj).2 (hg j (by omega)).1 (m2 j (by omega)).2 q
      · rintro ⟨rfl, e2⟩
        refine ⟨by omega, fun j hj => ?_⟩
        rw [yvv (k2 j (by omega)).1, yvv (m2 j (by omega)).1, e2 j (by omega)]
    · exact absurd e (by decide)
  · rcases h' with ⟨e, -⟩ | ⟨-, m1, m2, -⟩
    · exact absurd e (by decide)
    · constructor
      · rintro ⟨e1, e2⟩
        refine ⟨by omega, fun j hj => ?_⟩
        have q1 := e2 (2 * j) (by omega)
        have q2 := e2 (2 * j + 1) (by omega)
        rw [yvv (k2 j hj).1, yvv (m2 j (by omega)).1] at q1
        rw [yvv (k2 j hj).2, yvv (m2 j (by omega)).2] at q2
        rw [← pair_says (hf j hj).1 (hf j hj).2, ← pair_says (hg j (by omega)).1 (hg j (by omega)).2, q1, q2]
      · rintro ⟨rfl, e2⟩
        refine ⟨by omega, fun i hi => ?_⟩
        rcases Nat.mod_two_eq_zero_or_one i with e | e
        · obtain ⟨j, rfl⟩ : ∃ j, i = 2 * j := ⟨i / 2, by omega⟩
          rw [yvv (k2 j (by omega)).1, yvv (m2 j (by omega)).1, e2 j (by omega)]
        · obtain ⟨j, rfl⟩ : ∃ j, i = 2 * j + 1 := ⟨i / 2, by omega⟩
          rw [yvv (k2 j (by omega)).2, yvv (m2 j (by omega)).2, e2 j (by omega)]
/-- two codings differ: so do the texts -/
theorem Cod.dif {cd cd' : Int32} {n k : Nat} {f g : Nat → Int32} {V V' : Cell} (h : Cod cd n f V) (h' : Cod cd' k g V') (hne : ¬ cd = cd') : ¬ SameT n f k g := by
  rintro ⟨rfl, e⟩
  rcases h with ⟨rfl, -, k2⟩ | ⟨rfl, -, -, j, hj, hw⟩
  · rcases h' with ⟨rfl, -⟩ | ⟨-, -, -, j, hj, hw⟩
    · exact hne rfl
    · exact (k2 j hj).2 (by rw [e j hj]; exact hw)
  · rcases h' with ⟨-, -, m2⟩ | ⟨rfl, -⟩
    · exact (m2 j hj).2 (by rw [← e j hj]; exact hw)
    · exact hne rfl
/-- an object of exactly C is an instance of C -/
theorem cinst {p : Program} {l : Launch} {e : Env} {R : Room} {s : State} {m : MethodId} {args : Array Value} {below : List Frame} {meth : Method} {c : Code} {T : State} {locs : List Loc} {cells slots : Nat} (X : Stand p l e R s m args below meth c T locs cells slots) (hexec : p.tables.exec = Jvm.exec) {own C : String} {index : Nat} (hown : s.vm.findClass own = some m.cls) (hlink : (Cond.classLink own index C).before args s = true) {a : Addr} (hE : Exact C a T)
    {g : JFrame} (hg : g.method = m) {rest : List Value} (hstack : g.stack = .ref a :: rest) (hdg : decode c.code g.pc = .ok (.instanceof index, 3)) :
    ∃ T', Stand p l e R s m args below meth c T' locs cells slots ∧ T'.heap = T.heap ∧ ∀ target, Steps p.tables e below (T'.setTop { g with pc := g.pc + 3, stack := .int 1 :: rest }) target → Steps p.tables e below (T.setTop g) target := by
  obtain ⟨cB, h1, D, h2, h3, h4⟩ := hE
  have h1' : s.vm.findClass C = some cB := by rw [← X.warmed.alike.findClass]; exact h1
  obtain ⟨vm', X', st⟩ := X.instanceofYes hexec hown hlink h2 h4 h1' (by rw [h3]; exact Jvm.Free.SB.assignable_self _ _) hg hstack hdg
  exact ⟨_, X', rfl, st⟩
theorem cself {p : Program} {l : Launch} {e : Env} {R : Room} {s : State} {m : MethodId} {args : Array Value} {below : List Frame} {meth : Method} {c : Code} {T : State} {locs : List Loc} {cells slots : Nat} (X : Stand p l e R s m args below meth c T locs cells slots) (hexec : p.tables.exec = Jvm.exec) {own C : String} {index : Nat} (hown : s.vm.findClass own = some m.cls) (hlink : (Cond.classLink own index C).before args s = true) {a : Addr} (hE : Exact C a T)
    {g : JFrame} (hg : g.method = m) {rest : List Value} (hstack : g.stack = .ref a :: rest) (hdg : decode c.code g.pc = .ok (.checkcast index, 3)) :
    ∃ T', Stand p l e R s m args below meth c T' locs cells slots ∧ T'.heap = T.heap ∧ ∀ target, Steps p.tables e below (T'.setTop { g with pc := g.pc + 3, stack := .ref a :: rest }) target → Steps p.tables e below (T.setTop g) target := by
  obtain ⟨cB, h1, D, h2, h3, h4⟩ := hE
  have h1' : s.vm.findClass C = some cB := by rw [← X.warmed.alike.findClass]; exact h1
  obtain ⟨vm', X', st⟩ := X.checkcastYes hexec hown hlink h2 h4 h1' (by rw [h3]; exact Jvm.Free.SB.assignable_self _ _) hg hstack hdg
  exact ⟨_, X', rfl, fun t h => st t (by rw [← hstack] at h; exact h)⟩
namespace SEq
def yN : MethodName := ⟨"java/lang/String", "equals", "(Ljava/lang/Object;)Z"⟩
abbrev yB : ByteArray := jdk_42_method_66_code
theorem d0 : decode yB 0 = .ok (.aload_n 0, 1) := by decide +kernel
theorem d1 : decode yB 1 = .ok (.aload_n 1, 1) := by decide +kernel
theorem d2 : decode yB 2 = .ok (.if_acmp (.ne) 5, 3) := by decide +kernel
theorem d5 : decode yB 5 = .ok (.iconst 1, 1) := by decide +kernel
theorem d6 : decode yB 6 = .ok (.ireturn, 1) := by decide +kernel
theorem d7 : decode yB 7 = .ok (.aload_n 1, 1) := by decide +kernel
theorem d8 : decode yB 8 = .ok (.instanceof 10, 3) := by decide +kernel
theorem d11 : decode yB 11 = .ok (.ifCond (.eq) 43, 3) := by decide +kernel
theorem d14 : decode yB 14 = .ok (.aload_n 1, 1) := by decide +kernel
theorem d15 : decode yB 15 = .ok (.checkcast 10, 3) := by decide +kernel
theorem d18 : decode yB 18 = .ok (.astore_n 2, 1) := by decide +kernel
theorem d19 : decode yB 19 = .ok (.getstatic 38, 3) := by decide +kernel
theorem d22 : decode yB 22 = .ok (.ifCond (.eq) 14, 3) := by decide +kernel
theorem d25 : decode yB 25 = .ok (.aload_n 0, 1) := by decide +kernel
theorem d26 : decode yB 26 = .ok (.getfield 15, 3) := by decide +kernel
theorem d29 : decode yB 29 = .ok (.aload_n 2, 1) := by decide +kernel
theorem d30 : decode yB 30 = .ok (.getfield 15, 3) := by decide +kernel
theorem d33 : decode yB 33 = .ok (.if_icmp (.ne) 21, 3) := by decide +kernel
theorem d36 : decode yB 36 = .ok (.aload_n 0, 1) := by decide +kernel
theorem d37 : decode yB 37 = .ok (.getfield 9, 3) := by decide +kernel
theorem d40 : decode yB 40 = .ok (.aload_n 2, 1) := by decide +kernel
theorem d41 : decode yB 41 = .ok (.getfield 9, 3) := by decide +kernel
theorem d44 : decode yB 44 = .ok (.invokestatic 541, 3) := by decide +kernel
theorem d47 : decode yB 47 = .ok (.ifCond (.eq) 7, 3) := by decide +kernel
theorem d50 : decode yB 50 = .ok (.iconst 1, 1) := by decide +kernel
theorem d51 : decode yB 51 = .ok (.goto 4, 3) := by decide +kernel
theorem d54 : decode yB 54 = .ok (.iconst 0, 1) := by decide +kernel
theorem d55 : decode yB 55 = .ok (.ireturn, 1) := by decide +kernel
def site : List Cond := [.classLink "java/lang/String" 10 "java/lang/String", .fieldLink "java/lang/String" 38 "java/lang/String" "COMPACT_STRINGS" "Z", .fieldLink "java/lang/String" 15 "java/lang/String" "coder" "B", .fieldLink "java/lang/String" 9 "java/lang/String" "value" "[B", LEq.tab] ++ staticW "java/lang/String" 541 LEq.yN
def tab : Cond := tabOf yN yB 3 (some .boolean) site
def P (x t : Addr) (V : Cell) (cd : Int32) (n : Nat) (f : Nat → Int32) (y t' : Addr) (V' : Cell) (cd' : Int32) (k : Nat) (g : Nat → Int32) (z : Int32) (args : Array Value) (s : State) : Prop := args = #[.ref x, .ref y] ∧ Txt x t V cd n f s ∧ Txt y t' V' cd' k g s ∧ StaticIs s "java/lang/String" "COMPACT_STRINGS" "Z" (.int z) ∧ ¬ z = 0
/-- equals(Object) of two Strings: whether the texts are the same -/
theorem law (l : Launch) (x t : Addr) (V : Cell) (cd : Int32) (n : Nat) (f : Nat → Int32) (y t' : Addr) (V' : Cell) (cd' : Int32) (k : Nat) (g : Nat → Int32) (z : Int32) : Law l yN 2 1 1 14 yB 3 (some .boolean) site (P x t V cd n f y t' V' cd' k g z) (Says01 (SameT n f k g)) [] 0 0 := by
  refine Law.of_walk (plainFor_of_name (by decide +kernel)) (by decide +kernel) (by decide +kernel) (by decide) (fun _ _ h => by rw [h.1]; rfl) (fun _ U U' hal hh h => ⟨h.1, h.2.1.mv hal hh, h.2.2.1.mv hal hh, h.2.2.2.1.there hal hh, h.2.2.2.2⟩) (fun r U U' V V' h1 hal h2 h => Says01.mv r U U' V V' h1 hal h2 h) ?_
  intro p e s m args below meth c s₁ X0 hexec hbytes hml hret hlk hnm hown hh0 W hP
  obtain ⟨rfl, hx, hy, s1, hz⟩ := hP
  have c1 : Steps p.tables e below (s₁.setTop (entryFrame m #[.ref x, .ref y] 3)) (s₁.setTop (mkF m 2 #[.val (.ref x), .val (.ref y), .unset] [.ref y, .ref x])) := Steps.trans (entry rfl) (by
    show Steps p.tables e below (s₁.setTop (mkF m 0 #[.val (.ref x), .val (.ref y), .unset] [])) _
    refine XS.aloadN X0.here hexec rfl (hb hbytes d0) rfl rfl ?_
    refine XS.aloadN X0.here hexec rfl (hb hbytes d1) rfl rfl ?_
    exact Steps.refl _)
  by_cases hxy : x = y
  · have c2 : Steps p.tables e below (s₁.setTop (entryFrame m #[.ref x, .ref y] 3)) (s₁.setTop (mkF m 6 #[.val (.ref x), .val (.ref y), .unset] [.int 1])) := c1.trans (by
      refine acmpNo X0.here hexec rfl (hb hbytes d2) rfl rfl rfl (by simp [acmp, hxy]) ?_
      refine iconstV X0.here hexec rfl 1 (hb hbytes d5) (by decide) ?_
      exact Steps.refl _)
    subst hxy
    have ec : cd = cd' := by
      obtain ⟨D, fd, a1, a2, a3⟩ := hx.2.2.1
      obtain ⟨D', fd', b1, b2, b3⟩ := hy.2.2.1
      cases a1.symm.trans b1
      obtain ⟨q1, q2, q3, q4⟩ := a2.1
      obtain ⟨r1, r2, r3, r4⟩ := b2.1
      cases q4.symm.trans r4
      cases a3.symm.trans b3; rfl
    have et : t = t' := by
      obtain ⟨D, fd, a1, a2, a3⟩ := hx.2.1
      obtain ⟨D', fd', b1, b2, b3⟩ := hy.2.1
      cases a1.symm.trans b1
      obtain ⟨q1, q2, q3, q4⟩ := a2.1
      obtain ⟨r1, r2, r3, r4⟩ := b2.1
      cases q4.symm.trans r4
      cases a3.symm.trans b3; rfl
    subst ec et
    have ev : V = V' := by cases hx.2.2.2.1.1.symm.trans hy.2.2.2.1.1; rfl
    subst ev
    have hs : SameT n f k g := (Cod.eqv hx.2.2.2.2.1 hy.2.2.2.2.1 hx.2.2.2.2.2 hy.2.2.2.2.2).mp ⟨rfl, fun _ _ => rfl⟩
    exact ⟨s₁, some (.int 1), _, _, _, X0, rfl, rfl, rfl, (fun h => by cases h), ⟨1, rfl, hh0, Or.inl ⟨rfl, hs⟩⟩, fun fs hl => c2.trans (X0.ireturnOut hexec hret rfl (Or.inr (Or.inl rfl)) (hb hbytes d6) hl)⟩
  · have c2 : Steps p.tables e below (s₁.setTop (entryFrame m #[.ref x, .ref y] 3)) (s₁.setTop (mkF m 8 #[.val (.ref x), .val (.ref y), .unset] [.ref y])) := c1.trans (by
      refine acmpYes X0.here hexec rfl (pc0 := 2) rfl (hb hbytes d2) rfl rfl rfl (by simp [acmp, hxy]) (by decide) rfl ?_
      refine XS.aloadN X0.here hexec rfl (hb hbytes d7) rfl rfl ?_
      exact Steps.refl _)
    obtain ⟨T3, X3, q3, st3⟩ := cinst X0 hexec hown (wk W (.classLink "java/lang/String" 10 "java/lang/String")) (hy.mv X0.warmed.alike hh0).1 (g := (mkF m 8 #[.val (.ref x), .val (.ref y), .unset] [.ref y])) rfl (rest := []) rfl (hb hbytes d8)
    have hh3 := q3.trans hh0
    have c4 : Steps p.tables e below (s₁.setTop (entryFrame m #[.ref x, .ref y] 3)) (T3.setTop (mkF m 15 #[.val (.ref x), .val (.ref y), .unset] [.ref y])) := (c2.trans (st3 _ (Steps.refl _))).trans (by
      refine XS.ifNo X3.here hexec rfl (hb hbytes d11) rfl (i0_eq_f (by decide)) ?_
      refine XS.aloadN X3.here hexec rfl (hb hbytes d14) rfl rfl ?_
      exact Steps.refl _)
    obtain ⟨T5, X5, q5, st5⟩ := cself X3 hexec hown (wk W (.classLink "java/lang/String" 10 "java/lang/String")) (hy.mv X3.warmed.alike hh3).1 (g := (mkF m 15 #[.val (.ref x), .val (.ref y), .unset] [.ref y])) rfl (rest := []) rfl (hb hbytes d15)
    have hh5 := q5.trans hh3
    have c6 : Steps p.tables e below (s₁.setTop (entryFrame m #[.ref x, .ref y] 3)) (T5.setTop (mkF m 19 #[.val (.ref x), .val (.ref y), .val (.ref y)] [])) := (c4.trans (st5 _ (Steps.refl _))).trans (by
      refine XS.astoreN X5.here hexec rfl (hb hbytes d18) rfl rfl rfl ?_
      exact Steps.refl _)
    obtain ⟨T7, X7, q7, st7⟩ := X5.sget hexec hown (wk W (.fieldLink "java/lang/String" 38 "java/lang/String" "COMPACT_STRINGS" "Z")) s1 (fun _ _ h => by rw [hh5]; exact h) (g := (mkF m 19 #[.val (.ref x), .val (.ref y), .val (.ref y)] [])) rfl (hb hbytes d19)
    have hh7 := q7.trans hh5
    have c8 : Steps p.tables e below (s₁.setTop (entryFrame m #[.ref x, .ref y] 3)) (T7.setTop (mkF m 26 #[.val (.ref x), .val (.ref y), .val (.ref y)] [.ref x])) := (c6.trans (st7 _ (Steps.refl _))).trans (by
      refine XS.ifNo X7.here hexec rfl (hb hbytes d22) rfl (i0_eq_f hz) ?_
      refine XS.aloadN X7.here hexec rfl (hb hbytes d25) rfl rfl ?_
      exact Steps.refl _)
    obtain ⟨T9, X9, q9, st9⟩ := X7.hget hexec hown (wk W (.fieldLink "java/lang/String" 15 "java/lang/String" "coder" "B")) (hx.mv X7.warmed.alike hh7).2.2.1 (g := (mkF m 26 #[.val (.ref x), .val (.ref y), .val (.ref y)] [.ref x])) rfl (rest := []) rfl (hb hbytes d26)
    have hh9 := q9.trans hh7
    have c10 : Steps p.tables e below (s₁.setTop (entryFrame m #[.ref x, .ref y] 3)) (T9.setTop (mkF m 30 #[.val (.ref x), .val (.ref y), .val (.ref y)] [.ref y, .int cd])) := (c8.trans (st9 _ (Steps.refl _))).trans (by
      refine XS.aloadN X9.here hexec rfl (hb hbytes d29) rfl rfl ?_
      exact Steps.refl _)
    obtain ⟨T11, X11, q11, st11⟩ := X9.hget hexec hown (wk W (.fieldLink "java/lang/String" 15 "java/lang/String" "coder" "B")) (hy.mv X9.warmed.alike hh9).2.2.1 (g := (mkF m 30 #[.val (.ref x), .val (.ref y), .val (.ref y)] [.ref y, .int cd])) rfl (rest := [.int cd]) rfl (hb hbytes d30)
    have hh11 := q11.trans hh9
    have c12 : Steps p.tables e below (s₁.setTop (entryFrame m #[.ref x, .ref y] 3)) (T11.setTop (mkF m 33 #[.val (.ref x), .val (.ref y), .val (.ref y)] [.int cd', .int cd])) := c10.trans (st11 _ (Steps.refl _))
    by_cases hcd : cd = cd'
    · subst hcd
      have c13 : Steps p.tables e below (s₁.setTop (entryFrame m #[.ref x, .ref y] 3)) (T11.setTop (mkF m 37 #[.val (.ref x), .val (.ref y), .val (.ref y)] [.ref x])) := c12.trans (by
        refine XS.icmpNo X11.here hexec rfl (hb hbytes d33) rfl (ii_ne_f rfl) ?_
        refine XS.aloadN X11.here hexec rfl (hb hbytes d36) rfl rfl ?_
        exact Steps.refl _)
      obtain ⟨T14, X14, q14, st14⟩ := X11.hget hexec hown (wk W (.fieldLink "java/lang/String" 9 "java/lang/String" "value" "[B")) (hx.mv X11.warmed.alike hh11).2.1 (g := (mkF m 37 #[.val (.ref x), .val (.ref y), .val (.ref y)] [.ref x])) rfl (rest := []) rfl (hb hbytes d37)
      have hh14 := q14.trans hh11
      have c15 : Steps p.tables e below (s₁.setTop (entryFrame m #[.ref x, .ref y] 3)) (T14.setTop (mkF m 41 #[.val (.ref x), .val (.ref y), .val (.ref y)] [.ref y, .ref t])) := (c13.trans (st14 _ (Steps.refl _))).trans (by
        refine XS.aloadN X14.here hexec rfl (hb hbytes d40) rfl rfl ?_
        exact Steps.refl _)
      obtain ⟨T16, X16, q16, st16⟩ := X14.hget hexec hown (wk W (.fieldLink "java/lang/String" 9 "java/lang/String" "value" "[B")) (hy.mv X14.warmed.alike hh14).2.1 (g := (mkF m 41 #[.val (.ref x), .val (.ref y), .val (.ref y)] [.ref y, .ref t])) rfl (rest := [.ref t]) rfl (hb hbytes d41)
      have hh16 := q16.trans hh14
      have c17 : Steps p.tables e below (s₁.setTop (entryFrame m #[.ref x, .ref y] 3)) (T16.setTop (mkF m 44 #[.val (.ref x), .val (.ref y), .val (.ref y)] [.ref t', .ref t])) := c15.trans (st16 _ (Steps.refl _))
      obtain ⟨v18, T18, X18, E18, g18⟩ := X16.callS hexec (LEq.law l t V t' V') hown (wks W (staticW "java/lang/String" 541 LEq.yN)) (wk W LEq.tab) (W := 0) (Nat.le_of_ble_eq_true rfl) (Nat.le_of_ble_eq_true rfl) (Nat.le_refl _) (Nat.le_refl _) (g := (mkF m 44 #[.val (.ref x), .val (.ref y), .val (.ref y)] [.ref t', .ref t])) rfl (by rw [hml]; rfl) c17 (argsL := [.ref t, .ref t']) (rest := []) rfl rfl (by show 2 * 0 + 0 ≤ _; decide) (hb hbytes d44) (⟨rfl, hx.2.2.2.1.mv X16.warmed.alike hh16, hx.2.2.2.2.1.ty, hy.2.2.2.1.mv X16.warmed.alike hh16, hy.2.2.2.2.1.ty⟩)
      obtain ⟨v, rfl, q18, hv⟩ := E18
      have iff := Cod.eqv hx.2.2.2.2.1 hy.2.2.2.2.1 hx.2.2.2.2.2 hy.2.2.2.2.2
      rcases hv with ⟨rfl, he⟩ | ⟨rfl, he⟩
      · have c19 : Steps p.tables e below (s₁.setTop (entryFrame m #[.ref x, .ref y] 3)) (T18.setTop (mkF m 55 #[.val (.ref x), .val (.ref y), .val (.ref y)] [.int 1])) := Steps.trans g18 (by
          refine XS.ifNo X18.here hexec rfl (hb hbytes d47) rfl (i0_eq_f (by decide)) ?_
          refine iconstV X18.here hexec rfl 1 (hb hbytes d50) (by decide) ?_
          refine XS.goto X18.here hexec rfl (pc0 := 51) rfl (hb hbytes d51) (by decide) rfl ?_
          exact Steps.refl _)
        exact ⟨T18, some (.int 1), _, _, _, X18, rfl, rfl, rfl, (fun h => by cases h), ⟨1, rfl, q18.trans hh16, Or.inl ⟨rfl, iff.mp he⟩⟩, fun fs hl => c19.trans (X18.ireturnOut hexec hret rfl (Or.inr (Or.inl rfl)) (hb hbytes d55) hl)⟩
      · have c19 : Steps p.tables e below (s₁.setTop (entryFrame m #[.ref x, .ref y] 3)) (T18.setTop (mkF m 55 #[.val (.ref x), .val (.ref y), .val (.ref y)] [.int 0])) := Steps.trans g18 (by
          refine XS.ifYes X18.here hexec rfl (pc0 := 47) rfl (hb hbytes d47) rfl (i0_eq_t rfl) (by decide) rfl ?_
          refine iconstV X18.here hexec rfl 0 (hb hbytes d54) (by decide) ?_
          exact Steps.refl _)
        exact ⟨T18, some (.int 0), _, _, _, X18, rfl, rfl, rfl, (fun h => by cases h), ⟨0, rfl, q18.trans hh16, Or.inr ⟨rfl, fun q => he (iff.mpr q)⟩⟩, fun fs hl => c19.trans (X18.ireturnOut hexec hret rfl (Or.inr (Or.inl rfl)) (hb hbytes d55) hl)⟩
    · have c13 : Steps p.tables e below (s₁.setTop (entryFrame m #[.ref x, .ref y] 3)) (T11.setTop (mkF m 55 #[.val (.ref x), .val (.ref y), .val (.ref y)] [.int 0])) := c12.trans (by
        refine XS.icmpYes X11.here hexec rfl (pc0 := 33) rfl (hb hbytes d33) rfl (ii_ne_t hcd) (by decide) rfl ?_
        refine iconstV X11.here hexec rfl 0 (hb hbytes d54) (by decide) ?_
        exact Steps.refl _)
      exact ⟨T11, some (.int 0), _, _, _, X11, rfl, rfl, rfl, (fun h => by cases h), ⟨0, rfl, hh11, Or.inr ⟨rfl, Cod.dif hx.2.2.2.2.1 hy.2.2.2.2.1 hcd⟩⟩, fun fs hl => c13.trans (X11.ireturnOut hexec hret rfl (Or.inr (Or.inl rfl)) (hb hbytes d55) hl)⟩
theorem pays {l : Launch} {R : Room} {p : Program} {e : Env} {below : List Frame} {s : State} {sargs : Array Value} {len W : Nat} (x t : Addr) (V : Cell) (cd : Int32) (n : Nat) (f : Nat → Int32) (y t' : Addr) (V' : Cell) (cd' : Int32) (k : Nat) (g : Nat → Int32) (z : Int32) (htab : tab.before sargs s = true) (hfr : 2 ≤ R.frames) (hlo : W + 28 ≤ R.locals) :
    Back l R p e below s sargs yN len W (fun A₁ a₁ => A₁.cells + 0 ≤ R.cells ∧ A₁.slots + 0 ≤ R.slots ∧ P x t V cd n f y t' V' cd' k g z a₁ A₁.U) (fun A₁ _ v₁ B₁ => Says01 (SameT n f k g) v₁ A₁.U B₁.U ∧ B₁.locs = A₁.locs ++ [] ∧ B₁.cells = A₁.cells + 0 ∧ B₁.slots = A₁.slots + 0) :=
  (law l x t V cd n f y t' V' cd' k g z).pays htab hfr (by omega)
end SEq
end StrChars
namespace StrChars.Road
open Jvm Sem ClassFile Op Lib Jvm.Stand Jvm.Free Jvm.Free.XT
open Jvm.Lib.Cold (StaticIs)
/-- the words of String.equals(Object) -/
abbrev wordsEq : List Jvm.Cond := [.code SEq.yN SEq.yB 3 (some .boolean), .initialized ST, .classLink ST 10 ST, .fieldLink ST 38 ST "COMPACT_STRINGS" "Z", .fieldLink ST 15 ST "coder" "B", .fieldLink ST 9 ST "value" "[B", .methodLink ST 541 LEq.yN, .static LEq.yN, .code LEq.yN LEq.yB 3 (some .boolean), .initialized "java/lang/StringLatin1"]
theorem tabEq_of {a : Array Value} {s : State} (h : ∀ w ∈ wordsEq, w.before a s = true) : SEq.tab.before a s = true := by
  have hl : LEq.tab.before a s = true := unparts (wk h (.code LEq.yN LEq.yB 3 (some .boolean))) (wks h (.initialized LEq.yN.cls :: LEq.site))
  have q := consq hl h
  exact unparts (wk q (.code SEq.yN SEq.yB 3 (some .boolean))) (wks q (.initialized SEq.yN.cls :: SEq.site))
theorem movedEq {Z s : State} {a0 args : Array Value} (hZ : Z.Warmed39 s.vm) (hw : ∀ d ∈ wordsEq, d.before a0 Z = true) : ∀ d ∈ wordsEq, d.before args s = true := fun d hd => by
  have t : ∀ d ∈ wordsEq, (d.onTables && d.keepsFace) = true := by decide +kernel
  exact RoadKit.mv hZ (hw d hd) (t d hd)
/-- the road's facts of a String, as the laws ask it -/
theorem txt_of {Z U : State} {a0 : Array Value} {kI : Nat} (wi : (Jvm.Cond.instantiable ST kI).before a0 Z = true) (al : Z.vm.Alike U.vm) {x t : Addr} {kb : ClassId} {cs : List Int32} {cd N2 : Int32} {vs : List Value} (E : RoadKit.Exa Z U.heap x ST) (V : RoadKit.Fld Z U.heap x ST "value" "[B" (.ref t)) (C : RoadKit.Fld Z U.heap x ST "coder" "B" (.int cd)) (K : RoadKit.Arv Z U.heap t kb .byte N2 vs (.int 0)) (hc : CodA cs cd N2 vs) (hb : ∀ c ∈ cs, ¬ c < 0 ∧ ¬ (65535 : Int32) < c) (l2 : cs.length ≤ 4000) :
    ∃ A, Txt x t A cd cs.length (fun j => cs.getD j 0) U := by
  obtain ⟨A, K1, K2, K3, K4, K5, K6⟩ := K
  have hcod := hc.cod (by omega) K3 K5
  obtain ⟨D, fV, fC, hB, F1, F2, g1, g2, -, -⟩ := strObj wi al E V C
  exact ⟨A, ⟨_, hB.2.2.1, D, hB.1, rfl, by cases q : D.vm <;> first | rfl | exact absurd q (hB.2.1.2 _)⟩, Has.of hB F1 g1, Has.of hB F2 g2, ⟨K1.1, State.isArrayOf_alike al K1.2.1, K1.2.2, by rcases hcod with ⟨-, q, -⟩ | ⟨-, q, -⟩ <;> omega⟩, hcod, fun j hj => by
    have e : cs.getD j 0 = cs[j] := by simp [List.getD_eq_getElem?_getD, hj]
    show ¬ cs.getD j 0 < 0 ∧ ¬ 65535 < cs.getD j 0
    rw [e]; exact hb _ (List.getElem_mem _)⟩
theorem same_list (cs ds : List Int32) : SameT cs.length (fun j => cs.getD j 0) ds.length (fun j => ds.getD j 0) ↔ cs = ds := by
  constructor
  · rintro ⟨e, q⟩
    refine List.ext_getElem e fun j h1 h2 => ?_
    have := q j h1
    simpa [List.getD_eq_getElem?_getD, h1, h2] using this
  · rintro rfl
    exact ⟨rfl, fun _ _ => rfl⟩
/-- **equals(Object) OF TWO SUCH STRINGS**: 1 just where the chars are the same -/
theorem eqW {p : Program} {l : Launch} {e : Env} {R : Room} {s : State} {args : Array Value} {below : List Frame} {len W : Nat} {Z : State} {a0 : Array Value} {h : Heap} (hZ : Z.Warmed39 s.vm) (hw : ∀ d ∈ wordsEq, d.before a0 Z = true) {kI : Nat} (wi : (Jvm.Cond.instantiable ST kI).before a0 Z = true)
    {x t : Addr} {kb : ClassId} {cs : List Int32} {cd N2 : Int32} {vs : List Value} (E : RoadKit.Exa Z h x ST) (V : RoadKit.Fld Z h x ST "value" "[B" (.ref t)) (C : RoadKit.Fld Z h x ST "coder" "B" (.int cd)) (K : RoadKit.Arv Z h t kb .byte N2 vs (.int 0)) (hc : CodA cs cd N2 vs) (hb : ∀ c ∈ cs, ¬ c < 0 ∧ ¬ (65535 : Int32) < c) (l2 : cs.length ≤ 4000)
    {y t' : Addr} {kb' : ClassId} {ds : List Int32} {cd' N2' : Int32} {vs' : List Value} (E' : RoadKit.Exa Z h y ST) (V' : RoadKit.Fld Z h y ST "value" "[B" (.ref t')) (C' : RoadKit.Fld Z h y ST "coder" "B" (.int cd')) (K' : RoadKit.Arv Z h t' kb' .byte N2' vs' (.int 0)) (hc' : CodA ds cd' N2' vs') (hb' : ∀ c ∈ ds, ¬ c < 0 ∧ ¬ (65535 : Int32) < c) (l2' : ds.length ≤ 4000)
    {z : Int32} (S : RoadKit.Sta Z h ST "COMPACT_STRINGS" "Z" (.int z)) (hz : ¬ z = 0) (hfr : 2 ≤ R.frames) (hlo : W + 28 ≤ R.locals) :
    Back l R p e below s args (⟨"java/lang/String", "equals", "(Ljava/lang/Object;)Z"⟩ : MethodName) len W (fun P a => a = #[.ref x, .ref y] ∧ P.U.heap = h ∧ P.cells + 0 ≤ R.cells ∧ P.slots + 0 ≤ R.slots)
      (fun P _ v B => ∃ L, (((v = some (.int 1) ∧ cs = ds) ∨ (v = some (.int 0) ∧ ¬ cs = ds)) ∧ L = [] ∧ B.U.heap = h) ∧ B.locs = P.locs ++ L ∧ B.cells = P.cells + 0 ∧ B.slots = P.slots + 0) := by
  intro m meth c P g ig mk a X hg hsize hdg hW hn hp'
  obtain ⟨rfl, rfl, r1, r2⟩ := hp'
  have al : Z.vm.Alike P.U.vm := hZ.alike.trans X.warmed.alike
  obtain ⟨A, hx⟩ := txt_of wi al E V C K hc hb l2
  obtain ⟨A', hy⟩ := txt_of wi al E' V' C' K' hc' hb' l2'
  obtain ⟨v, B, X', ⟨⟨w, hv, hh, hq⟩, hl, hk, hs⟩, st⟩ := SEq.pays x t A cd cs.length (fun j => cs.getD j 0) y t' A' cd' ds.length (fun j => ds.getD j 0) z (tabEq_of (movedEq hZ hw)) hfr hlo m meth c P g ig mk _ X hg hsize hdg hW hn ⟨r1, r2, rfl, hx, hy, sta_is al S, hz⟩
  refine ⟨v, B, X', ⟨[], ⟨?_, rfl, hh⟩, hl, hk, hs⟩, st⟩
  rcases hq with ⟨rfl, q⟩ | ⟨rfl, q⟩
  · exact Or.inl ⟨hv, (same_list cs ds).mp q⟩
  · exact Or.inr ⟨hv, fun e => q ((same_list cs ds).mpr e)⟩
end StrChars.Road
namespace StrChars.Road
open Jvm Sem ClassFile Op Lib Jvm.Stand Jvm.Free Jvm.Free.XT
open Jvm.Lib.Cold (StaticIs)
/-- what backV says of its String, as the contracts of this text ask it: cs's low bytes, coder 0 -/
theorem codOf {cs : List Int32} {n : Nat} (hn : cs.length = n) (hb : ∀ c ∈ cs, ¬ 255 < c) : CodA cs 0 (Int32.ofNat n) ((cs.map lo8).map Value.int) := Or.inl ⟨rfl, by rw [hn], by simp [List.map_map, Function.comp_def], hb⟩
end StrChars.Road
end Jvm.Pilot.@@N@@
namespace Jvm.Pilot.@@N@@
open Jvm Jvm.ClassFile Sem Op Lib Jvm.Free Jvm.Stand Jvm.LawKit Jvm.RoadKit Bundle Jvm.Pilot.@@N@@.Jvm.D Jvm.Own
/-- what the case says of its start -/
def Wd (Z : State) (a0 : Array Value) : Prop := (∀ (k : Nat) {d : Jvm.Cond}, tables_1[k]? = some d → d.before a0 Z = true) ∧ (∃ z : Int32, Sta Z Z.heap "java/lang/String" "COMPACT_STRINGS" "Z" (.int z) ∧ ¬ z = 0) ∧ ∃ fm : Value, Sta Z Z.heap "jdk/internal/util/Preconditions" "SIOOBE_FORMATTER" "Ljava/util/function/BiFunction;" fm ∧ fm.isRef = true
theorem Wd.hw {Z : State} {a0 : Array Value} (W : Wd Z a0) : ∀ d ∈ tables_1, d.before a0 Z = true := fun d hd => by
  obtain ⟨i, hi⟩ := List.mem_iff_getElem?.mp hd
  exact W.1 i hi
theorem Wd.sub {Z : State} {a0 : Array Value} (W : Wd Z a0) {ws : List Jvm.Cond} (h : ∀ d ∈ ws, d ∈ tables_1) : ∀ d ∈ ws, d.before a0 Z = true := fun d hd => W.hw d (h d hd)
theorem pdC : parseMethodDescriptor "([C)V" = some ⟨[(.array .char)], none⟩ := by decide +kernel
theorem up255 {cs : List Int32} (h : ∀ c ∈ cs, ¬ c < 0 ∧ ¬ (255 : Int32) < c) : ∀ c ∈ cs, ¬ c < 0 ∧ ¬ (65535 : Int32) < c := fun c hc => ⟨(h c hc).1, fun q => (h c hc).2 (by rw [Int32.lt_iff_toInt_lt] at q ⊢; have e1 : (65535 : Int32).toInt = 65535 := rfl; have e2 : (255 : Int32).toInt = 255 := rfl; omega)⟩
section StrGo
variable {nw : Bool} {p : Program} {l : Launch} {e : Env} {R : Room} {s : State} {m : MethodId} {args : Array Value} {below : List Frame} {meth : Method} {c : Code} {code : ByteArray} {ml : Nat} {nm : String} {ret : Option FieldType} {Z : State} {a0 : Array Value} {EL : List (String × Nat)} {own : String} {P : Option Value → Vm → Heap → Prop}
variable {vm vm' : Vm} {h h' h0 h1 h2 : Heap} {k n pc : Nat} {L : Array Slot} {S : List Value}
/-- new String(chars), one to 4,000 of them, each 0 to 255 -/
theorem goStrNew (W : Wd Z a0) {idx : Nat} {x b : Addr} {kC : ClassId} {N : Int32} {v0 c0 dv : Value} {rest : List Value} (Wk : Nat) (cs : List Int32) (pc' : Nat) (hd : decode code pc = .ok (.invokespecial idx, 3)) (hp : pc + 3 = pc') (w1 : (Jvm.Cond.methodLink own idx (⟨"java/lang/String", "<init>", "([C)V"⟩ : MethodName)).before a0 Z = true)
    (E : Exa Z h x "java/lang/String") (V : Fld Z h x "java/lang/String" "value" "[B" v0) (C : Fld Z h x "java/lang/String" "coder" "B" c0) (K : Arv Z h b kC .char N (cs.map Value.int) dv) (hN : N = Int32.ofNat cs.length) (l0 : 0 < cs.length) (l2 : cs.length ≤ 4000) (hcs : ∀ c ∈ cs, ¬ c < 0 ∧ ¬ (255 : Int32) < c)
    (hst : S = .ref b :: .ref x :: rest) (hsz : L.size = ml) (hW : (rest.map fun v => v.category).sum ≤ Wk) (hfr : 4 ≤ R.frames) (hlo : Wk + 65 ≤ R.locals) (hk0 : k + 1 ≤ R.cells) (hn0 : n + cs.length ≤ R.slots) (Sx : Safe Z EL vm h x) (hz : Z.heap.size ≤ x)
    (g : ∀ h', Keep h h' [x] → Str Z h' x cs → CHr Z EL vm h vm h' → Go nw p l e R s m args below meth c code ml nm ret Z a0 EL own P vm h' (k + 1) (n + cs.length) pc' L rest) : Go nw p l e R s m args below meth c code ml nm ret Z a0 EL own P vm h k n pc L S := by
  obtain ⟨z, Cz, hz0⟩ := W.2.1
  refine Go.specB (Q := fun v h' L => StrChars.Road.QV Z x N (cs.map fun c => c.toInt8.toInt32) h Z.heap.size v h' L) (dk := 1) (dn := cs.length) (rest := rest) Wk x [.ref b] pc' hd hp rfl w1 (W.1 14 rfl) (W.1 15 rfl) (by decide)
    (fun hZ hE => StrChars.Road.backV hZ (W.sub (by decide +kernel)) (W.1 10 rfl) (bs := cs.map fun c => c.toInt8.toInt32) hz hE.1 E V C K (Cz.ext hE) hz0 rfl hN l0 l2 hcs rfl hfr hlo) pdC rfl hst hsz hW hk0 hn0
    (fun v h' L q => ⟨q.2.1, [x], q.2.2.1, fun y hy => by cases List.mem_singleton.mp hy; exact Sx, fun y hy => by cases List.mem_singleton.mp hy; exact hz⟩) (fun v h' L q ch => ?_)
  obtain ⟨rfl, q2, q3, q4, q5, t, kb, q6, q7, q8, q9, q10⟩ := q
  exact g h' q3 ⟨t, kb, q4, q5, q9, by rw [← hN]; exact q10, l2, hcs⟩ ch
theorem pdE : parseMethodDescriptor "(Ljava/lang/Object;)Z" = some ⟨[(.object "java/lang/Object")], some .boolean⟩ := by decide +kernel
theorem goStrEq (W : Wd Z a0) {idx : Nat} {x y : Addr} {cs ds : List Int32} {rest : List Value} (Wk : Nat) (pc' : Nat) (hd : decode code pc = .ok (.invokevirtual idx, 3)) (hp : pc + 3 = pc') (w1 : (Jvm.Cond.methodLink own idx (⟨"java/lang/String", "equals", "(Ljava/lang/Object;)Z"⟩ : MethodName)).before a0 Z = true)
    (T : Str Z h x cs) (U : Str Z h y ds) (hst : S = .ref y :: .ref x :: rest) (hsz : L.size = ml) (hW : (rest.map fun v => v.category).sum ≤ Wk) (hfr : 2 ≤ R.frames) (hlo : Wk + 28 ≤ R.locals) (hk0 : k ≤ R.cells) (hn0 : n ≤ R.slots)
    (gt : cs = ds → Go nw p l e R s m args below meth c code ml nm ret Z a0 EL own P vm h k n pc' L (.int 1 :: rest)) (gf : ¬ cs = ds → Go nw p l e R s m args below meth c code ml nm ret Z a0 EL own P vm h k n pc' L (.int 0 :: rest)) : Go nw p l e R s m args below meth c code ml nm ret Z a0 EL own P vm h k n pc L S := by
  obtain ⟨z, Cz, hz0⟩ := W.2.1
  obtain ⟨b, kb, t1, t2, t3, t4, t5, t6⟩ := T
  obtain ⟨b', kb', u1, u2, u3, u4, u5, u6⟩ := U
  refine Go.virtB (Q := fun v h' L => ((v = some (.int 1) ∧ cs = ds) ∨ (v = some (.int 0) ∧ ¬ cs = ds)) ∧ L = [] ∧ h' = h) (dk := 0) (dn := 0) (rest := rest) Wk x [.ref y] pc' hd hp t1 w1 (W.1 74 rfl) (fun s hs => notFace_of_selects (args := #[]) (mvT hs (W.1 76 rfl))) (W.1 76 rfl) (W.1 75 rfl) (by decide)
    (fun hZ hE => StrChars.Road.eqW hZ (W.sub (by decide +kernel)) (W.1 10 rfl) t1 t3 t2 t4 (StrChars.Road.codOf rfl (fun c hc => (t6 c hc).2)) (up255 t6) t5 u1 u3 u2 u4 (StrChars.Road.codOf rfl (fun c hc => (u6 c hc).2)) (up255 u6) u5 (Cz.ext hE) hz0 hfr hlo) pdE rfl hst hsz hW hk0 hn0
    (fun v h' L q => ⟨by rw [q.2.1]; exact Fr.nil _, [], by rw [q.2.2]; exact Keep.refl _ _, sf0, fun _ q => nomatch q⟩) (fun v h' L q ch => ?_)
  obtain ⟨⟨rfl, q⟩ | ⟨rfl, q⟩, rfl, rfl⟩ := q
  · exact gt q
  · exact gf q
end StrGo
end Jvm.Pilot.@@N@@
namespace Jvm.Pilot.@@N@@
open Jvm Jvm.ClassFile Sem Op Lib Jvm.Free Jvm.Stand Jvm.LawKit Jvm.RoadKit Bundle Jvm.Pilot.@@N@@.Jvm.D Jvm.Own

def chV (x : Int64) (i : Int32) : Int32 := ((XT.ushrL x ((2 : Int32) + (8 : Int32) * i)) &&& (255 : Int64)).toInt32
def lenV (x : Int64) : Int32 := (x &&& (3 : Int64)).toInt32
def mkV (x : Int64) : List Int32 := if lenV x = 0 then [] else if lenV x = 1 then [chV x 0] else if lenV x = 2 then [chV x 0, chV x 1] else [chV x 0, chV x 1, chV x 2]
theorem chB (x : Int64) (i : Int32) : ¬ chV x i < 0 ∧ ¬ (255 : Int32) < chV x i := b255L _
theorem len4 (x : Int64) : lenV x = 0 ∨ lenV x = 1 ∨ lenV x = 2 ∨ lenV x = 3 := by
  have h := l2i_mask (y := x) (m := 3) (k := 2) (by decide) (by decide)
  have h3 : (lenV x).toInt = 0 ∨ (lenV x).toInt = 1 ∨ (lenV x).toInt = 2 ∨ (lenV x).toInt = 3 := by unfold lenV; rw [h]; omega
  rcases h3 with h | h | h | h
  · exact Or.inl (Int32.toInt_inj.mp h)
  · exact Or.inr (Or.inl (Int32.toInt_inj.mp h))
  · exact Or.inr (Or.inr (Or.inl (Int32.toInt_inj.mp h)))
  · exact Or.inr (Or.inr (Or.inr (Int32.toInt_inj.mp h)))
abbrev AV (x y : Int64) (i : Int32) : Prop := i < lenV x → chV x i = chV y i
theorem sameV {x y : Int64} (h : lenV x = lenV y) : (AV x y 0 ∧ AV x y 1 ∧ AV x y 2) ↔ mkV x = mkV y := by
  have e : lenV y = 0 ∨ lenV y = 1 ∨ lenV y = 2 ∨ lenV y = 3 := len4 y
  unfold mkV AV
  rw [h]
  rcases e with e | e | e | e <;> simp [e] <;> decide
theorem diffV {x y : Int64} (h : ¬ lenV x = lenV y) : ¬ mkV x = mkV y := by
  unfold mkV
  rcases len4 x with e | e | e | e <;> rcases len4 y with f | f | f | f <;> simp_all
theorem lit_ok_ : ((∀ c ∈ ("" : String).toList, c.toNat < 256) ∧ ("" : String).toList.map (fun c => Value.int (Jvm.Lit.byteI c.toNat.toUInt16)) = []) ∧ 4 * ("" : String).toList.length ≤ 0 := by decide +kernel
theorem d_jdk_42_m149_0 : decode jdk_42_method_149_code 0 = .ok (.aload_n 0, 1) := by decide +kernel
theorem d_jdk_42_m149_1 : decode jdk_42_method_149_code 1 = .ok (.invokespecial 1, 3) := by decide +kernel
theorem d_jdk_42_m149_4 : decode jdk_42_method_149_code 4 = .ok (.iload_n 3, 1) := by decide +kernel
theorem d_jdk_42_m149_5 : decode jdk_42_method_149_code 5 = .ok (.ifCond .ne 22, 3) := by decide +kernel
theorem d_jdk_42_m149_8 : decode jdk_42_method_149_code 8 = .ok (.aload_n 0, 1) := by decide +kernel
theorem d_jdk_42_m149_9 : decode jdk_42_method_149_code 9 = .ok (.ldc 7, 2) := by decide +kernel
theorem d_jdk_42_m149_11 : decode jdk_42_method_149_code 11 = .ok (.getfield 9, 3) := by decide +kernel
theorem d_jdk_42_m149_14 : decode jdk_42_method_149_code 14 = .ok (.putfield 9, 3) := by decide +kernel
theorem d_jdk_42_m149_17 : decode jdk_42_method_149_code 17 = .ok (.aload_n 0, 1) := by decide +kernel
theorem d_jdk_42_m149_18 : decode jdk_42_method_149_code 18 = .ok (.ldc 7, 2) := by decide +kernel
theorem d_jdk_42_m149_20 : decode jdk_42_method_149_code 20 = .ok (.getfield 15, 3) := by decide +kernel
theorem d_jdk_42_m149_23 : decode jdk_42_method_149_code 23 = .ok (.putfield 15, 3) := by decide +kernel
theorem d_jdk_42_m149_26 : decode jdk_42_method_149_code 26 = .ok (.return_, 1) := by decide +kernel
theorem d_jdk_42_m149_27 : decode jdk_42_method_149_code 27 = .ok (.getstatic 38, 3) := by decide +kernel
theorem d_jdk_42_m149_30 : decode jdk_42_method_149_code 30 = .ok (.ifCond .eq 28, 3) := by decide +kernel
theorem d_jdk_42_m149_33 : decode jdk_42_method_149_code 33 = .ok (.aload_n 1, 1) := by decide +kernel
theorem d_jdk_42_m149_34 : decode jdk_42_method_149_code 34 = .ok (.iload_n 2, 1) := by decide +kernel
theorem d_jdk_42_m149_35 : decode jdk_42_method_149_code 35 = .ok (.iload_n 3, 1) := by decide +kernel
theorem d_jdk_42_m149_36 : decode jdk_42_method_149_code 36 = .ok (.invokestatic 177, 3) := by decide +kernel
theorem d_jdk_42_m149_39 : decode jdk_42_method_149_code 39 = .ok (.astore 5, 2) := by decide +kernel
theorem d_jdk_42_m149_41 : decode jdk_42_method_149_code 41 = .ok (.aload_n 0, 1) := by decide +kernel
theorem d_jdk_42_m149_42 : decode jdk_42_method_149_code 42 = .ok (.aload 5, 2) := by decide +kernel
theorem d_jdk_42_m149_44 : decode jdk_42_method_149_code 44 = .ok (.iload_n 3, 1) := by decide +kernel
theorem d_jdk_42_m149_45 : decode jdk_42_method_149_code 45 = .ok (.invokestatic 47, 3) := by decide +kernel
theorem d_jdk_42_m149_48 : decode jdk_42_method_149_code 48 = .ok (.putfield 15, 3) := by decide +kernel
theorem d_jdk_42_m149_51 : decode jdk_42_method_149_code 51 = .ok (.aload_n 0, 1) := by decide +kernel
theorem d_jdk_42_m149_52 : decode jdk_42_method_149_code 52 = .ok (.aload 5, 2) := by decide +kernel
theorem d_jdk_42_m149_54 : decode jdk_42_method_149_code 54 = .ok (.putfield 9, 3) := by decide +kernel
theorem d_jdk_42_m149_57 : decode jdk_42_method_149_code 57 = .ok (.return_, 1) := by decide +kernel
theorem d_jdk_42_m149_58 : decode jdk_42_method_149_code 58 = .ok (.aload_n 0, 1) := by decide +kernel
theorem d_jdk_42_m149_59 : decode jdk_42_method_149_code 59 = .ok (.iconst 1, 1) := by decide +kernel
theorem d_jdk_42_m149_60 : decode jdk_42_method_149_code 60 = .ok (.putfield 15, 3) := by decide +kernel
theorem d_jdk_42_m149_63 : decode jdk_42_method_149_code 63 = .ok (.aload_n 0, 1) := by decide +kernel
theorem d_jdk_42_m149_64 : decode jdk_42_method_149_code 64 = .ok (.aload_n 1, 1) := by decide +kernel
theorem d_jdk_42_m149_65 : decode jdk_42_method_149_code 65 = .ok (.iload_n 2, 1) := by decide +kernel
theorem d_jdk_42_m149_66 : decode jdk_42_method_149_code 66 = .ok (.iload_n 3, 1) := by decide +kernel
theorem d_jdk_42_m149_67 : decode jdk_42_method_149_code 67 = .ok (.invokestatic 180, 3) := by decide +kernel
theorem d_jdk_42_m149_70 : decode jdk_42_method_149_code 70 = .ok (.putfield 9, 3) := by decide +kernel
theorem d_jdk_42_m149_73 : decode jdk_42_method_149_code 73 = .ok (.return_, 1) := by decide +kernel
set_option maxRecDepth 65536 in
set_option maxHeartbeats 40000000 in
theorem cEmp4 {l : Launch} {Z : State} {a0 : Array Value} (W : Wd Z a0) {EL : List (String × Nat)} {vm : Vm} {h : Heap} {a b : Addr} {v0 c0 : Value} (hm : ("java/lang/String", 7) ∈ EL) (E : Exa Z h a "java/lang/String") (F1 : Fld Z h a "java/lang/String" "value" "[B" (v0)) (F2 : Fld Z h a "java/lang/String" "coder" "B" (c0)) (Sa : Safe Z EL vm h a) (hz : Z.heap.size ≤ a) :
    Ctr false l Z a0 EL (⟨"java/lang/String", "<init>", "([CIILjava/lang/Void;)V"⟩ : MethodName) jdk_42_method_149_code 6 none ({ frames := 1, cells := 4, slots := 8, locals := 12 } : Room) #[.ref a, .ref b, .int (0 : Int32), .int (0 : Int32), .null] vm h (fun v vm' h' => v = none ∧ Keep h h' [a] ∧ Str Z h' a []) := by
  refine Ctr.of_go (L0 := #[.val (.ref a), .val (.ref b), .val (.int (0 : Int32)), .val (.int (0 : Int32)), .val (.null), .unset]) (by first | exact plainFor_of_name (by first | (simp [plainName, overriddenIn]; done) | decide +kernel) | decide +kernel) (fun m => by first | (simp [entryFrame, mkF, argsToLocals, Value.category, maxLocals]; done) | rfl) (fun p e s m below meth c vmi chi => ?_)
  refine Go.aload_n 1 d_jdk_42_m149_0 rfl rfl rfl ?_
  refine Go.initObject 0 4 d_jdk_42_m149_1 rfl (W.1 20 rfl) (W.1 21 rfl) (W.1 22 rfl) rfl (nl rfl) (nl rfl) (nl rfl) ?_
  refine Go.iload_n 5 d_jdk_42_m149_4 rfl rfl ?_
  refine Go.ifne 27 8 d_jdk_42_m149_5 (by decide) rfl rfl (fun q1 => absurd rfl q1) (fun q1 => ?_)
  refine Go.aload_n 9 d_jdk_42_m149_8 rfl rfl rfl ?_
  refine Go.ldcS (text := "") (vs := []) (z := (0 : Int32)) 0 11 d_jdk_42_m149_9 rfl rfl (W.1 39 rfl) (W.sub (by decide +kernel)) hm lit_ok_.1 (by decide) (by decide) lit_ok_.2 (by decide) (nl rfl) (nl rfl) (fun y1 b2 k2 vm2 h2 E2 A2 C2 V2 B2 N2 c2 => ?_)
  have T2 : Str Z h2 y1 [] := ⟨b2, k2, A2, C2, V2, B2, by decide, by decide⟩
  refine Go.getfield 14 d_jdk_42_m149_11 rfl (W.1 37 rfl) V2 ?_
  have f3 := F1.ext E2
  have f4 := E.ext E2
  have f5 := CHr.safe (CHr.trans chi c2) E.lt Sa
  have L5 := Nat.lt_of_lt_of_le E.lt (CHr.trans chi c2).2.1
  refine Go.putfield 17 d_jdk_42_m149_14 rfl (W.1 37 rfl) f3 f4 (Or.inr ⟨(W.1 38 rfl), rfl, rfl⟩) (W.1 10 rfl) (ty := (.array .byte)) (by decide) rfl rfl f5 hz (fun h6 X6 S6 c6 => ?_)
  have Ea := f4.wr X6
  have G1 := f3.same X6
  have F2a := (F2.ext E2).other X6 (Or.inr (slot_ne (a0 := a0) (C := "java/lang/String") (Or.inr (W.1 36 rfl)) (Or.inr (W.1 38 rfl)) (by decide) (t := .byte) (t' := (.array .byte)) (by decide) (by decide)))
  have K1 := Arv.other B2 X6 (Ne.symm (N2 _ f5).2)
  have ba := (N2 _ f5).2
  refine Go.aload_n 18 d_jdk_42_m149_17 rfl rfl rfl ?_
  refine Go.ldcS (text := "") (vs := []) (z := (0 : Int32)) 0 20 d_jdk_42_m149_18 rfl rfl (W.1 39 rfl) (W.sub (by decide +kernel)) hm lit_ok_.1 (by decide) (by decide) lit_ok_.2 (by decide) (nl rfl) (nl rfl) (fun y2 b7 k7 vm7 h7 E7 A7 C7 V7 B7 N7 c7 => ?_)
  have T7 : Str Z h7 y2 [] := ⟨b7, k7, A7, C7, V7, B7, by decide, by decide⟩
  refine Go.getfield 23 d_jdk_42_m149_20 rfl (W.1 35 rfl) C7 ?_
  have f8 := CHr.safe c7 Ea.lt S6
  have L8 := Nat.lt_of_lt_of_le Ea.lt c7.2.1
  refine Go.putfield 26 d_jdk_42_m149_23 rfl (W.1 35 rfl) (F2a.ext E7) (Ea.ext E7) (Or.inr ⟨(W.1 36 rfl), rfl, rfl⟩) (W.1 10 rfl) (ty := .byte) (by decide) rfl rfl f8 hz (fun h9 X9 S9 c9 => ?_)
  exact Go.return_ d_jdk_42_m149_26 rfl (nl rfl) (nl rfl) (fun vm' ch => ⟨rfl, (((Keep.ofExt E2 [a]).wr X6 (Or.inl (by simp))).ext E7).wr X9 (Or.inl (by simp)), ⟨_, _, (Ea.ext E7).wr X9, (F2a.ext E7).same X9, (G1.ext E7).other X9 (Or.inr (slot_ne (a0 := a0) (C := "java/lang/String") (Or.inr (W.1 38 rfl)) (Or.inr (W.1 36 rfl)) (by decide) (t := (.array .byte)) (t' := .byte) (by decide) (by decide))), Arv.other (K1.ext E7) X9 (Ne.symm ba), by decide, fun _ q => nomatch q⟩⟩)
theorem d_jdk_42_m3_0 : decode jdk_42_method_3_code 0 = .ok (.aload_n 0, 1) := by decide +kernel
theorem d_jdk_42_m3_1 : decode jdk_42_method_3_code 1 = .ok (.aload_n 1, 1) := by decide +kernel
theorem d_jdk_42_m3_2 : decode jdk_42_method_3_code 2 = .ok (.iconst 0, 1) := by decide +kernel
theorem d_jdk_42_m3_3 : decode jdk_42_method_3_code 3 = .ok (.aload_n 1, 1) := by decide +kernel
theorem d_jdk_42_m3_4 : decode jdk_42_method_3_code 4 = .ok (.arraylength, 1) := by decide +kernel
theorem d_jdk_42_m3_5 : decode jdk_42_method_3_code 5 = .ok (.aconst_null, 1) := by decide +kernel
theorem d_jdk_42_m3_6 : decode jdk_42_method_3_code 6 = .ok (.invokespecial 27, 3) := by decide +kernel
theorem d_jdk_42_m3_9 : decode jdk_42_method_3_code 9 = .ok (.return_, 1) := by decide +kernel
set_option maxRecDepth 65536 in
set_option maxHeartbeats 40000000 in
theorem cEmp1 {l : Launch} {Z : State} {a0 : Array Value} (W : Wd Z a0) {EL : List (String × Nat)} {vm : Vm} {h : Heap} {a b : Addr} {v0 c0 dv : Value} {kC : ClassId} {vs : List Value} (hm : ("java/lang/String", 7) ∈ EL) (E : Exa Z h a "java/lang/String") (F1 : Fld Z h a "java/lang/String" "value" "[B" (v0)) (F2 : Fld Z h a "java/lang/String" "coder" "B" (c0)) (A : Arv Z h b kC .char (0 : Int32) vs dv) (Sa : Safe Z EL vm h a) (hz : Z.heap.size ≤ a) :
    Ctr false l Z a0 EL (⟨"java/lang/String", "<init>", "([C)V"⟩ : MethodName) jdk_42_method_3_code 2 none ({ frames := 2, cells := 4, slots := 8, locals := 29 } : Room) #[.ref a, .ref b] vm h (fun v vm' h' => v = none ∧ Keep h h' [a] ∧ Str Z h' a []) := by
  refine Ctr.of_go (L0 := #[.val (.ref a), .val (.ref b)]) (by first | exact plainFor_of_name (by first | (simp [plainName, overriddenIn]; done) | decide +kernel) | decide +kernel) (fun m => by first | (simp [entryFrame, mkF, argsToLocals, Value.category, maxLocals]; done) | rfl) (fun p e s m below meth c vmi chi => ?_)
  refine Go.aload_n 1 d_jdk_42_m3_0 rfl rfl rfl ?_
  refine Go.aload_n 2 d_jdk_42_m3_1 rfl rfl rfl ?_
  refine Go.iconst (0) 3 d_jdk_42_m3_2 rfl rfl ?_
  refine Go.aload_n 4 d_jdk_42_m3_3 rfl rfl rfl ?_
  refine Go.arraylength 5 d_jdk_42_m3_4 rfl A ?_
  refine Go.aconst_null 6 d_jdk_42_m3_5 rfl ?_
  refine Go.invokespecial (rest := []) 0 a [.ref b, .int (0 : Int32), .int (0 : Int32), .null] 9 d_jdk_42_m3_6 rfl rfl (W.1 16 rfl) (W.1 17 rfl) (W.1 11 rfl) (W.1 19 rfl) (by decide) (cEmp4 W hm E F1 F2 (chi.safe E.lt Sa) hz) (by decide +kernel : parseMethodDescriptor "([CIILjava/lang/Void;)V" = some ⟨[(.array .char), .int, .int, (.object "java/lang/Void")], none⟩) rfl rfl rfl (nl rfl) (nl rfl) (nl rfl) (nl rfl) (nl rfl) (fun v1 vm1 h1 ⟨rv, K, T⟩ c1 => ?_)
  subst rv
  exact Go.return_ d_jdk_42_m3_9 rfl (nl rfl) (nl rfl) (fun vm' ch => ⟨rfl, K, T⟩)
theorem d_m2_0 : decode method_2_code 0 = .ok (.lload_n 0, 1) := by decide +kernel
theorem d_m2_1 : decode method_2_code 1 = .ok (.iconst 2, 1) := by decide +kernel
theorem d_m2_2 : decode method_2_code 2 = .ok (.bipush 8, 2) := by decide +kernel
theorem d_m2_4 : decode method_2_code 4 = .ok (.iload_n 2, 1) := by decide +kernel
theorem d_m2_5 : decode method_2_code 5 = .ok (.imul, 1) := by decide +kernel
theorem d_m2_6 : decode method_2_code 6 = .ok (.iadd, 1) := by decide +kernel
theorem d_m2_7 : decode method_2_code 7 = .ok (.lushr, 1) := by decide +kernel
theorem d_m2_8 : decode method_2_code 8 = .ok (.ldc2_w 7, 3) := by decide +kernel
theorem d_m2_11 : decode method_2_code 11 = .ok (.land, 1) := by decide +kernel
theorem d_m2_12 : decode method_2_code 12 = .ok (.l2i, 1) := by decide +kernel
theorem d_m2_13 : decode method_2_code 13 = .ok (.i2c, 1) := by decide +kernel
theorem d_m2_14 : decode method_2_code 14 = .ok (.ireturn, 1) := by decide +kernel
set_option maxRecDepth 65536 in
set_option maxHeartbeats 40000000 in
theorem cCh {l : Launch} {Z : State} {a0 : Array Value} (W : Wd Z a0) {EL : List (String × Nat)} {vm : Vm} {h : Heap} {nw : Bool} {x : Int64} {i : Int32} :
    Ctr nw l Z a0 EL (⟨"com/example/token_to_key/tokentokey/s3/PermissionEqualsPinLaw", "ch", "(JI)C"⟩ : MethodName) method_2_code 3 (some .char) ({ frames := 0, cells := 0, slots := 0, locals := 0 } : Room) #[.long x, .int i] vm h (fun v vm' h' => v = some (.int (chV x i)) ∧ h' = h) := by
  refine Ctr.of_go (L0 := #[.val (.long x), .second, .val (.int i)]) (by first | exact plainFor_of_name (by first | (simp [plainName, overriddenIn]; done) | decide +kernel) | decide +kernel) (fun m => by first | (simp [entryFrame, mkF, argsToLocals, Value.category, maxLocals]; done) | rfl) (fun p e s m below meth c vmi chi => ?_)
  refine Go.lload_n 1 d_m2_0 rfl rfl ?_
  refine Go.iconst (2) 2 d_m2_1 rfl rfl ?_
  refine Go.bipush (8) 4 d_m2_2 rfl rfl ?_
  refine Go.iload_n 5 d_m2_4 rfl rfl ?_
  refine Go.imul ((8 : Int32) * i) 6 d_m2_5 rfl rfl ?_
  refine Go.iadd ((2 : Int32) + ((8 : Int32) * i)) 7 d_m2_6 rfl rfl ?_
  refine Go.lushr (XT.ushrL x ((2 : Int32) + ((8 : Int32) * i))) 8 d_m2_7 rfl rfl ?_
  refine Go.ldc2_w (W.1 8 rfl) 11 d_m2_8 rfl ?_
  refine Go.land ((XT.ushrL x ((2 : Int32) + ((8 : Int32) * i))) &&& (255 : Int64)) 12 d_m2_11 rfl rfl ?_
  refine Go.l2i (((XT.ushrL x ((2 : Int32) + ((8 : Int32) * i))) &&& (255 : Int64)).toInt32) 13 d_m2_12 rfl rfl ?_
  refine Go.i2c (((XT.ushrL x ((2 : Int32) + ((8 : Int32) * i))) &&& (255 : Int64)).toInt32) 14 d_m2_13 rfl (narC (b255L _)) ?_
  exact Go.ireturn d_m2_14 rfl (narCv (b255L _)) (by simp) (nl rfl) (nl rfl) (fun vm' ch => ⟨rfl, rfl⟩)
theorem d_m3_0 : decode method_3_code 0 = .ok (.lload_n 0, 1) := by decide +kernel
theorem d_m3_1 : decode method_3_code 1 = .ok (.ldc2_w 9, 3) := by decide +kernel
theorem d_m3_4 : decode method_3_code 4 = .ok (.land, 1) := by decide +kernel
theorem d_m3_5 : decode method_3_code 5 = .ok (.l2i, 1) := by decide +kernel
theorem d_m3_6 : decode method_3_code 6 = .ok (.istore_n 2, 1) := by decide +kernel
theorem d_m3_7 : decode method_3_code 7 = .ok (.lload_n 0, 1) := by decide +kernel
theorem d_m3_8 : decode method_3_code 8 = .ok (.iconst 0, 1) := by decide +kernel
theorem d_m3_9 : decode method_3_code 9 = .ok (.invokestatic 11, 3) := by decide +kernel
theorem d_m3_12 : decode method_3_code 12 = .ok (.istore_n 3, 1) := by decide +kernel
theorem d_m3_13 : decode method_3_code 13 = .ok (.lload_n 0, 1) := by decide +kernel
theorem d_m3_14 : decode method_3_code 14 = .ok (.iconst 1, 1) := by decide +kernel
theorem d_m3_15 : decode method_3_code 15 = .ok (.invokestatic 11, 3) := by decide +kernel
theorem d_m3_18 : decode method_3_code 18 = .ok (.istore 4, 2) := by decide +kernel
theorem d_m3_20 : decode method_3_code 20 = .ok (.lload_n 0, 1) := by decide +kernel
theorem d_m3_21 : decode method_3_code 21 = .ok (.iconst 2, 1) := by decide +kernel
theorem d_m3_22 : decode method_3_code 22 = .ok (.invokestatic 11, 3) := by decide +kernel
theorem d_m3_25 : decode method_3_code 25 = .ok (.istore 5, 2) := by decide +kernel
theorem d_m3_27 : decode method_3_code 27 = .ok (.iload_n 2, 1) := by decide +kernel
theorem d_m3_28 : decode method_3_code 28 = .ok (.ifCond .ne 14, 3) := by decide +kernel
theorem d_m3_31 : decode method_3_code 31 = .ok (.new 17, 3) := by decide +kernel
theorem d_m3_34 : decode method_3_code 34 = .ok (.dup, 1) := by decide +kernel
theorem d_m3_35 : decode method_3_code 35 = .ok (.iconst 0, 1) := by decide +kernel
theorem d_m3_36 : decode method_3_code 36 = .ok (.newarray .char, 2) := by decide +kernel
theorem d_m3_38 : decode method_3_code 38 = .ok (.invokespecial 19, 3) := by decide +kernel
theorem d_m3_41 : decode method_3_code 41 = .ok (.areturn, 1) := by decide +kernel
theorem d_m3_42 : decode method_3_code 42 = .ok (.iload_n 2, 1) := by decide +kernel
theorem d_m3_43 : decode method_3_code 43 = .ok (.iconst 1, 1) := by decide +kernel
theorem d_m3_44 : decode method_3_code 44 = .ok (.if_icmp .ne 18, 3) := by decide +kernel
theorem d_m3_47 : decode method_3_code 47 = .ok (.new 17, 3) := by decide +kernel
theorem d_m3_50 : decode method_3_code 50 = .ok (.dup, 1) := by decide +kernel
theorem d_m3_51 : decode method_3_code 51 = .ok (.iconst 1, 1) := by decide +kernel
theorem d_m3_52 : decode method_3_code 52 = .ok (.newarray .char, 2) := by decide +kernel
theorem d_m3_54 : decode method_3_code 54 = .ok (.dup, 1) := by decide +kernel
theorem d_m3_55 : decode method_3_code 55 = .ok (.iconst 0, 1) := by decide +kernel
theorem d_m3_56 : decode method_3_code 56 = .ok (.iload_n 3, 1) := by decide +kernel
theorem d_m3_57 : decode method_3_code 57 = .ok (.castore, 1) := by decide +kernel
theorem d_m3_58 : decode method_3_code 58 = .ok (.invokespecial 19, 3) := by decide +kernel
theorem d_m3_61 : decode method_3_code 61 = .ok (.areturn, 1) := by decide +kernel
theorem d_m3_62 : decode method_3_code 62 = .ok (.iload_n 2, 1) := by decide +kernel
theorem d_m3_63 : decode method_3_code 63 = .ok (.iconst 2, 1) := by decide +kernel
theorem d_m3_64 : decode method_3_code 64 = .ok (.if_icmp .ne 23, 3) := by decide +kernel
theorem d_m3_67 : decode method_3_code 67 = .ok (.new 17, 3) := by decide +kernel
theorem d_m3_70 : decode method_3_code 70 = .ok (.dup, 1) := by decide +kernel
theorem d_m3_71 : decode method_3_code 71 = .ok (.iconst 2, 1) := by decide +kernel
theorem d_m3_72 : decode method_3_code 72 = .ok (.newarray .char, 2) := by decide +kernel
theorem d_m3_74 : decode method_3_code 74 = .ok (.dup, 1) := by decide +kernel
theorem d_m3_75 : decode method_3_code 75 = .ok (.iconst 0, 1) := by decide +kernel
theorem d_m3_76 : decode method_3_code 76 = .ok (.iload_n 3, 1) := by decide +kernel
theorem d_m3_77 : decode method_3_code 77 = .ok (.castore, 1) := by decide +kernel
theorem d_m3_78 : decode method_3_code 78 = .ok (.dup, 1) := by decide +kernel
theorem d_m3_79 : decode method_3_code 79 = .ok (.iconst 1, 1) := by decide +kernel
theorem d_m3_80 : decode method_3_code 80 = .ok (.iload 4, 2) := by decide +kernel
theorem d_m3_82 : decode method_3_code 82 = .ok (.castore, 1) := by decide +kernel
theorem d_m3_83 : decode method_3_code 83 = .ok (.invokespecial 19, 3) := by decide +kernel
theorem d_m3_86 : decode method_3_code 86 = .ok (.areturn, 1) := by decide +kernel
theorem d_m3_87 : decode method_3_code 87 = .ok (.new 17, 3) := by decide +kernel
theorem d_m3_90 : decode method_3_code 90 = .ok (.dup, 1) := by decide +kernel
theorem d_m3_91 : decode method_3_code 91 = .ok (.iconst 3, 1) := by decide +kernel
theorem d_m3_92 : decode method_3_code 92 = .ok (.newarray .char, 2) := by decide +kernel
theorem d_m3_94 : decode method_3_code 94 = .ok (.dup, 1) := by decide +kernel
theorem d_m3_95 : decode method_3_code 95 = .ok (.iconst 0, 1) := by decide +kernel
theorem d_m3_96 : decode method_3_code 96 = .ok (.iload_n 3, 1) := by decide +kernel
theorem d_m3_97 : decode method_3_code 97 = .ok (.castore, 1) := by decide +kernel
theorem d_m3_98 : decode method_3_code 98 = .ok (.dup, 1) := by decide +kernel
theorem d_m3_99 : decode method_3_code 99 = .ok (.iconst 1, 1) := by decide +kernel
theorem d_m3_100 : decode method_3_code 100 = .ok (.iload 4, 2) := by decide +kernel
theorem d_m3_102 : decode method_3_code 102 = .ok (.castore, 1) := by decide +kernel
theorem d_m3_103 : decode method_3_code 103 = .ok (.dup, 1) := by decide +kernel
theorem d_m3_104 : decode method_3_code 104 = .ok (.iconst 2, 1) := by decide +kernel
theorem d_m3_105 : decode method_3_code 105 = .ok (.iload 5, 2) := by decide +kernel
theorem d_m3_107 : decode method_3_code 107 = .ok (.castore, 1) := by decide +kernel
theorem d_m3_108 : decode method_3_code 108 = .ok (.invokespecial 19, 3) := by decide +kernel
theorem d_m3_111 : decode method_3_code 111 = .ok (.areturn, 1) := by decide +kernel
set_option maxRecDepth 65536 in
set_option maxHeartbeats 40000000 in
theorem cMk {l : Launch} {Z : State} {a0 : Array Value} (W : Wd Z a0) {EL : List (String × Nat)} {vm : Vm} {h : Heap} {x : Int64} (hm : ("java/lang/String", 7) ∈ EL) :
    Ctr false l Z a0 EL (⟨"com/example/token_to_key/tokentokey/s3/PermissionEqualsPinLaw", "mk", "(J)Ljava/lang/String;"⟩ : MethodName) method_3_code 6 (some (.object "java/lang/String")) ({ frames := 4, cells := 6, slots := 12, locals := 66 } : Room) #[.long x] vm h (fun v vm' h' => ∃ a, v = some (.ref a) ∧ Ext h h' ∧ Str Z h' a (mkV x)) := by
  refine Ctr.of_go (L0 := #[.val (.long x), .second, .unset, .unset, .unset, .unset]) (by first | exact plainFor_of_name (by first | (simp [plainName, overriddenIn]; done) | decide +kernel) | decide +kernel) (fun m => by first | (simp [entryFrame, mkF, argsToLocals, Value.category, maxLocals]; done) | rfl) (fun p e s m below meth c vmi chi => ?_)
  refine Go.lload_n 1 d_m3_0 rfl rfl ?_
  refine Go.ldc2_w (W.1 4 rfl) 4 d_m3_1 rfl ?_
  refine Go.land (x &&& (3 : Int64)) 5 d_m3_4 rfl rfl ?_
  refine Go.l2i (lenV x) 6 d_m3_5 rfl rfl ?_
  refine Go.istore_n #[.val (.long x), .second, .val (.int (lenV x)), .unset, .unset, .unset] 7 d_m3_6 rfl rfl ?_
  refine Go.lload_n 8 d_m3_7 rfl rfl ?_
  refine Go.iconst (0) 9 d_m3_8 rfl rfl ?_
  refine Go.invokestatic (rest := []) 0 [.long x, .int (0 : Int32)] 12 d_m3_9 rfl (W.1 5 rfl) (W.1 6 rfl) (W.1 2 rfl) (W.1 7 rfl) (by decide) (cCh W ) (by decide +kernel : parseMethodDescriptor "(JI)C" = some ⟨[.long, .int], (some .char)⟩) rfl rfl rfl (nl rfl) (nl rfl) (nl rfl) (nl rfl) (nl rfl) (fun v1 vm1 h1 ⟨rv, hh⟩ c1 => ?_)
  subst rv hh
  refine Go.istore_n #[.val (.long x), .second, .val (.int (lenV x)), .val (.int (chV x 0)), .unset, .unset] 13 d_m3_12 rfl rfl ?_
  refine Go.lload_n 14 d_m3_13 rfl rfl ?_
  refine Go.iconst (1) 15 d_m3_14 rfl rfl ?_
  refine Go.invokestatic (rest := []) 0 [.long x, .int (1 : Int32)] 18 d_m3_15 rfl (W.1 5 rfl) (W.1 6 rfl) (W.1 2 rfl) (W.1 7 rfl) (by decide) (cCh W ) (by decide +kernel : parseMethodDescriptor "(JI)C" = some ⟨[.long, .int], (some .char)⟩) rfl rfl rfl (nl rfl) (nl rfl) (nl rfl) (nl rfl) (nl rfl) (fun v2 vm2 h2 ⟨rv, hh⟩ c2 => ?_)
  subst rv hh
  refine Go.istore #[.val (.long x), .second, .val (.int (lenV x)), .val (.int (chV x 0)), .val (.int (chV x 1)), .unset] 20 d_m3_18 rfl rfl ?_
  refine Go.lload_n 21 d_m3_20 rfl rfl ?_
  refine Go.iconst (2) 22 d_m3_21 rfl rfl ?_
  refine Go.invokestatic (rest := []) 0 [.long x, .int (2 : Int32)] 25 d_m3_22 rfl (W.1 5 rfl) (W.1 6 rfl) (W.1 2 rfl) (W.1 7 rfl) (by decide) (cCh W ) (by decide +kernel : parseMethodDescriptor "(JI)C" = some ⟨[.long, .int], (some .char)⟩) rfl rfl rfl (nl rfl) (nl rfl) (nl rfl) (nl rfl) (nl rfl) (fun v3 vm3 h3 ⟨rv, hh⟩ c3 => ?_)
  subst rv hh
  refine Go.istore #[.val (.long x), .second, .val (.int (lenV x)), .val (.int (chV x 0)), .val (.int (chV x 1)), .val (.int (chV x 2))] 27 d_m3_25 rfl rfl ?_
  refine Go.iload_n 28 d_m3_27 rfl rfl ?_
  refine Go.ifne 42 31 d_m3_28 (by decide) rfl rfl (fun q4 => ?_) (fun q4 => ?_)
  · refine Go.iload_n 43 d_m3_42 rfl rfl ?_
    refine Go.iconst (1) 44 d_m3_43 rfl rfl ?_
    refine Go.if_icmpne 62 47 d_m3_44 (by decide) rfl rfl (fun q5 => ?_) (fun q5 => ?_)
    · refine Go.iload_n 63 d_m3_62 rfl rfl ?_
      refine Go.iconst (2) 64 d_m3_63 rfl rfl ?_
      refine Go.if_icmpne 87 67 d_m3_64 (by decide) rfl rfl (fun q6 => ?_) (fun q6 => ?_)
      · refine Go.new 90 d_m3_87 rfl (W.1 9 rfl) (W.1 10 rfl) (W.1 11 rfl) (nl rfl) (nl rfl) (fun x1 h7 e7 E7 ⟨A7, D7⟩ S7 z7 c7 => ?_)
        refine Go.dup 91 d_m3_90 rfl rfl ?_
        refine Go.iconst (3) 92 d_m3_91 rfl rfl ?_
        refine Go.newarray 3 94 d_m3_92 rfl (W.1 12 rfl) (by decide) (by decide) (by decide) (nl rfl) (nl rfl) (fun b1 h8 e8 E8 ⟨k8, B8⟩ S8 z8 c8 => ?_)
        have A8 : Arv Z h8 b1 k8 .char (3 : Int32) [.int 0, .int 0, .int 0] (.int 0) := B8.pad (pad_rep [] (.int 0) 3)
        refine Go.dup 95 d_m3_94 rfl rfl ?_
        refine Go.iconst (0) 96 d_m3_95 rfl rfl ?_
        refine Go.iload_n 97 d_m3_96 rfl rfl ?_
        refine Go.castore 0 (chV x 0) [.int (chV x 0), .int 0, .int 0] 98 d_m3_97 rfl A8 (by decide) rfl (nl rfl) (narC (chB _ _)) rfl S8 z8 (fun h9 K9 A9 S9 c9 => ?_)
        have E9 := Ext.kp1 E8 K9 e8
        refine Go.dup 99 d_m3_98 rfl rfl ?_
        refine Go.iconst (1) 100 d_m3_99 rfl rfl ?_
        refine Go.iload 102 d_m3_100 rfl rfl ?_
        refine Go.castore 1 (chV x 1) [.int (chV x 0), .int (chV x 1), .int 0] 103 d_m3_102 rfl A9 (by decide) rfl (nl rfl) (narC (chB _ _)) rfl S9 z8 (fun h10 K10 A10 S10 c10 => ?_)
        have E10 := Ext.kp1 E9 K10 e8
        refine Go.dup 104 d_m3_103 rfl rfl ?_
        refine Go.iconst (2) 105 d_m3_104 rfl rfl ?_
        refine Go.iload 107 d_m3_105 rfl rfl ?_
        refine Go.castore 2 (chV x 2) [.int (chV x 0), .int (chV x 1), .int (chV x 2)] 108 d_m3_107 rfl A10 (by decide) rfl (nl rfl) (narC (chB _ _)) rfl S10 z8 (fun h11 K11 A11 S11 c11 => ?_)
        have E11 := Ext.kp1 E10 K11 e8
        have f13 := D7 (Or.inr (W.1 38 rfl)) (ty := (.array .byte)) (by decide)
        have f14 := D7 (Or.inr (W.1 36 rfl)) (ty := .byte) (by decide)
        have f15 := A7.ext E11
        have f16 := f13.ext E11
        have f17 := f14.ext E11
        have f18 := CHr.safe (CHr.trans c8 (CHr.trans c9 (CHr.trans c10 c11))) A7.lt S7
        have L18 := Nat.lt_of_lt_of_le A7.lt (CHr.trans c8 (CHr.trans c9 (CHr.trans c10 c11))).2.1
        refine goStrNew W 1 [(chV x 0), (chV x 1), (chV x 2)] 111 d_m3_108 rfl (W.1 13 rfl) f15 f16 f17 A11 rfl (nl rfl) (nl rfl) (by intro c hc; simp only [List.mem_cons, List.not_mem_nil, or_false] at hc; rcases hc with rfl | rfl | rfl <;> exact chB _ _) rfl rfl (nl rfl) (nl rfl) (nl rfl) (nl rfl) (nl rfl) f18 z7 (fun h12 K12 T12 c12 => ?_)
        have E12 := Ext.kp1 (Ext.tr E7 E11) K12 e7
        have R : mkV x = [(chV x 0), (chV x 1), (chV x 2)] := by unfold mkV; rw [if_neg q4, if_neg q5, if_neg q6]
        exact Go.areturn d_m3_111 rfl rfl rfl (nl rfl) (nl rfl) (fun vm' ch => ⟨_, rfl, E12, R ▸ T12⟩)
      · refine Go.new 70 d_m3_67 rfl (W.1 9 rfl) (W.1 10 rfl) (W.1 11 rfl) (nl rfl) (nl rfl) (fun x1 h19 e19 E19 ⟨A19, D19⟩ S19 z19 c19 => ?_)
        refine Go.dup 71 d_m3_70 rfl rfl ?_
        refine Go.iconst (2) 72 d_m3_71 rfl rfl ?_
        refine Go.newarray 2 74 d_m3_72 rfl (W.1 12 rfl) (by decide) (by decide) (by decide) (nl rfl) (nl rfl) (fun b1 h20 e20 E20 ⟨k20, B20⟩ S20 z20 c20 => ?_)
        have A20 : Arv Z h20 b1 k20 .char (2 : Int32) [.int 0, .int 0] (.int 0) := B20.pad (pad_rep [] (.int 0) 2)
        refine Go.dup 75 d_m3_74 rfl rfl ?_
        refine Go.iconst (0) 76 d_m3_75 rfl rfl ?_
        refine Go.iload_n 77 d_m3_76 rfl rfl ?_
        refine Go.castore 0 (chV x 0) [.int (chV x 0), .int 0] 78 d_m3_77 rfl A20 (by decide) rfl (nl rfl) (narC (chB _ _)) rfl S20 z20 (fun h21 K21 A21 S21 c21 => ?_)
        have E21 := Ext.kp1 E20 K21 e20
        refine Go.dup 79 d_m3_78 rfl rfl ?_
        refine Go.iconst (1) 80 d_m3_79 rfl rfl ?_
        refine Go.iload 82 d_m3_80 rfl rfl ?_
        refine Go.castore 1 (chV x 1) [.int (chV x 0), .int (chV x 1)] 83 d_m3_82 rfl A21 (by decide) rfl (nl rfl) (narC (chB _ _)) rfl S21 z20 (fun h22 K22 A22 S22 c22 => ?_)
        have E22 := Ext.kp1 E21 K22 e20
        have f24 := D19 (Or.inr (W.1 38 rfl)) (ty := (.array .byte)) (by decide)
        have f25 := D19 (Or.inr (W.1 36 rfl)) (ty := .byte) (by decide)
        have f26 := A19.ext E22
        have f27 := f24.ext E22
        have f28 := f25.ext E22
        have f29 := CHr.safe (CHr.trans c20 (CHr.trans c21 c22)) A19.lt S19
        have L29 := Nat.lt_of_lt_of_le A19.lt (CHr.trans c20 (CHr.trans c21 c22)).2.1
        refine goStrNew W 1 [(chV x 0), (chV x 1)] 86 d_m3_83 rfl (W.1 13 rfl) f26 f27 f28 A22 rfl (nl rfl) (nl rfl) (by intro c hc; simp only [List.mem_cons, List.not_mem_nil, or_false] at hc; rcases hc with rfl | rfl <;> exact chB _ _) rfl rfl (nl rfl) (nl rfl) (nl rfl) (nl rfl) (nl rfl) f29 z19 (fun h23 K23 T23 c23 => ?_)
        have E23 := Ext.kp1 (Ext.tr E19 E22) K23 e19
        have R : mkV x = [(chV x 0), (chV x 1)] := by unfold mkV; rw [if_neg q4, if_neg q5, if_pos q6]
        exact Go.areturn d_m3_86 rfl rfl rfl (nl rfl) (nl rfl) (fun vm' ch => ⟨_, rfl, E23, R ▸ T23⟩)
    · refine Go.new 50 d_m3_47 rfl (W.1 9 rfl) (W.1 10 rfl) (W.1 11 rfl) (nl rfl) (nl rfl) (fun x1 h30 e30 E30 ⟨A30, D30⟩ S30 z30 c30 => ?_)
      refine Go.dup 51 d_m3_50 rfl rfl ?_
      refine Go.iconst (1) 52 d_m3_51 rfl rfl ?_
      refine Go.newarray 1 54 d_m3_52 rfl (W.1 12 rfl) (by decide) (by decide) (by decide) (nl rfl) (nl rfl) (fun b1 h31 e31 E31 ⟨k31, B31⟩ S31 z31 c31 => ?_)
      have A31 : Arv Z h31 b1 k31 .char (1 : Int32) [.int 0] (.int 0) := B31.pad (pad_rep [] (.int 0) 1)
      refine Go.dup 55 d_m3_54 rfl rfl ?_
      refine Go.iconst (0) 56 d_m3_55 rfl rfl ?_
      refine Go.iload_n 57 d_m3_56 rfl rfl ?_
      refine Go.castore 0 (chV x 0) [.int (chV x 0)] 58 d_m3_57 rfl A31 (by decide) rfl (nl rfl) (narC (chB _ _)) rfl S31 z31 (fun h32 K32 A32 S32 c32 => ?_)
      have E32 := Ext.kp1 E31 K32 e31
      have f34 := D30 (Or.inr (W.1 38 rfl)) (ty := (.array .byte)) (by decide)
      have f35 := D30 (Or.inr (W.1 36 rfl)) (ty := .byte) (by decide)
      have f36 := A30.ext E32
      have f37 := f34.ext E32
      have f38 := f35.ext E32
      have f39 := CHr.safe (CHr.trans c31 c32) A30.lt S30
      have L39 := Nat.lt_of_lt_of_le A30.lt (CHr.trans c31 c32).2.1
      refine goStrNew W 1 [(chV x 0)] 61 d_m3_58 rfl (W.1 13 rfl) f36 f37 f38 A32 rfl (nl rfl) (nl rfl) (by intro c hc; simp only [List.mem_cons, List.not_mem_nil, or_false] at hc; rcases hc with rfl <;> exact chB _ _) rfl rfl (nl rfl) (nl rfl) (nl rfl) (nl rfl) (nl rfl) f39 z30 (fun h33 K33 T33 c33 => ?_)
      have E33 := Ext.kp1 (Ext.tr E30 E32) K33 e30
      have R : mkV x = [(chV x 0)] := by unfold mkV; rw [if_neg q4, if_pos q5]
      exact Go.areturn d_m3_61 rfl rfl rfl (nl rfl) (nl rfl) (fun vm' ch => ⟨_, rfl, E33, R ▸ T33⟩)
  · refine Go.new 34 d_m3_31 rfl (W.1 9 rfl) (W.1 10 rfl) (W.1 11 rfl) (nl rfl) (nl rfl) (fun x1 h40 e40 E40 ⟨A40, D40⟩ S40 z40 c40 => ?_)
    refine Go.dup 35 d_m3_34 rfl rfl ?_
    refine Go.iconst (0) 36 d_m3_35 rfl rfl ?_
    refine Go.newarray 0 38 d_m3_36 rfl (W.1 12 rfl) (by decide) (by decide) (by decide) (nl rfl) (nl rfl) (fun b1 h41 e41 E41 ⟨k41, B41⟩ S41 z41 c41 => ?_)
    have A41 : Arv Z h41 b1 k41 .char (0 : Int32) [] (.int 0) := B41.pad (pad_rep [] (.int 0) 0)
    have f42 := D40 (Or.inr (W.1 38 rfl)) (ty := (.array .byte)) (by decide)
    have f43 := D40 (Or.inr (W.1 36 rfl)) (ty := .byte) (by decide)
    have f44 := A40.ext E41
    have f45 := f42.ext E41
    have f46 := f43.ext E41
    have f47 := CHr.safe c41 A40.lt S40
    have L47 := Nat.lt_of_lt_of_le A40.lt c41.2.1
    refine Go.invokespecial (rest := [.ref x1]) 1 x1 [.ref b1] 41 d_m3_38 rfl rfl (W.1 13 rfl) (W.1 14 rfl) (W.1 11 rfl) (W.1 15 rfl) (by decide) (cEmp1 W hm f44 f45 f46 A41 f47 z40) (by decide +kernel : parseMethodDescriptor "([C)V" = some ⟨[(.array .char)], none⟩) rfl rfl rfl (nl rfl) (nl rfl) (nl rfl) (nl rfl) (nl rfl) (fun v48 vm48 h48 ⟨rv, K48, T48⟩ c48 => ?_)
    subst rv
    have E48 := Ext.kp1 (Ext.tr E40 E41) K48 e40
    have R : mkV x = [] := by unfold mkV; rw [if_pos q4]
    exact Go.areturn d_m3_41 rfl rfl rfl (nl rfl) (nl rfl) (fun vm' ch => ⟨_, rfl, E48, R ▸ T48⟩)
theorem d_m4_0 : decode method_4_code 0 = .ok (.lload_n 0, 1) := by decide +kernel
theorem d_m4_1 : decode method_4_code 1 = .ok (.ldc2_w 9, 3) := by decide +kernel
theorem d_m4_4 : decode method_4_code 4 = .ok (.land, 1) := by decide +kernel
theorem d_m4_5 : decode method_4_code 5 = .ok (.l2i, 1) := by decide +kernel
theorem d_m4_6 : decode method_4_code 6 = .ok (.istore 4, 2) := by decide +kernel
theorem d_m4_8 : decode method_4_code 8 = .ok (.lload_n 2, 1) := by decide +kernel
theorem d_m4_9 : decode method_4_code 9 = .ok (.ldc2_w 9, 3) := by decide +kernel
theorem d_m4_12 : decode method_4_code 12 = .ok (.land, 1) := by decide +kernel
theorem d_m4_13 : decode method_4_code 13 = .ok (.l2i, 1) := by decide +kernel
theorem d_m4_14 : decode method_4_code 14 = .ok (.istore 5, 2) := by decide +kernel
theorem d_m4_16 : decode method_4_code 16 = .ok (.iload 4, 2) := by decide +kernel
theorem d_m4_18 : decode method_4_code 18 = .ok (.iload 5, 2) := by decide +kernel
theorem d_m4_20 : decode method_4_code 20 = .ok (.if_icmp .eq 5, 3) := by decide +kernel
theorem d_m4_23 : decode method_4_code 23 = .ok (.iconst 0, 1) := by decide +kernel
theorem d_m4_24 : decode method_4_code 24 = .ok (.ireturn, 1) := by decide +kernel
theorem d_m4_25 : decode method_4_code 25 = .ok (.iconst 1, 1) := by decide +kernel
theorem d_m4_26 : decode method_4_code 26 = .ok (.istore 6, 2) := by decide +kernel
theorem d_m4_28 : decode method_4_code 28 = .ok (.iload 4, 2) := by decide +kernel
theorem d_m4_30 : decode method_4_code 30 = .ok (.ifCond .le 28, 3) := by decide +kernel
theorem d_m4_33 : decode method_4_code 33 = .ok (.iload 6, 2) := by decide +kernel
theorem d_m4_35 : decode method_4_code 35 = .ok (.ifCond .eq 20, 3) := by decide +kernel
theorem d_m4_38 : decode method_4_code 38 = .ok (.lload_n 0, 1) := by decide +kernel
theorem d_m4_39 : decode method_4_code 39 = .ok (.iconst 0, 1) := by decide +kernel
theorem d_m4_40 : decode method_4_code 40 = .ok (.invokestatic 11, 3) := by decide +kernel
theorem d_m4_43 : decode method_4_code 43 = .ok (.lload_n 2, 1) := by decide +kernel
theorem d_m4_44 : decode method_4_code 44 = .ok (.iconst 0, 1) := by decide +kernel
theorem d_m4_45 : decode method_4_code 45 = .ok (.invokestatic 11, 3) := by decide +kernel
theorem d_m4_48 : decode method_4_code 48 = .ok (.if_icmp .ne 7, 3) := by decide +kernel
theorem d_m4_51 : decode method_4_code 51 = .ok (.iconst 1, 1) := by decide +kernel
theorem d_m4_52 : decode method_4_code 52 = .ok (.goto 4, 3) := by decide +kernel
theorem d_m4_55 : decode method_4_code 55 = .ok (.iconst 0, 1) := by decide +kernel
theorem d_m4_56 : decode method_4_code 56 = .ok (.istore 6, 2) := by decide +kernel
theorem d_m4_58 : decode method_4_code 58 = .ok (.iload 4, 2) := by decide +kernel
theorem d_m4_60 : decode method_4_code 60 = .ok (.iconst 1, 1) := by decide +kernel
theorem d_m4_61 : decode method_4_code 61 = .ok (.if_icmp .le 28, 3) := by decide +kernel
theorem d_m4_64 : decode method_4_code 64 = .ok (.iload 6, 2) := by decide +kernel
theorem d_m4_66 : decode method_4_code 66 = .ok (.ifCond .eq 20, 3) := by decide +kernel
theorem d_m4_69 : decode method_4_code 69 = .ok (.lload_n 0, 1) := by decide +kernel
theorem d_m4_70 : decode method_4_code 70 = .ok (.iconst 1, 1) := by decide +kernel
theorem d_m4_71 : decode method_4_code 71 = .ok (.invokestatic 11, 3) := by decide +kernel
theorem d_m4_74 : decode method_4_code 74 = .ok (.lload_n 2, 1) := by decide +kernel
theorem d_m4_75 : decode method_4_code 75 = .ok (.iconst 1, 1) := by decide +kernel
theorem d_m4_76 : decode method_4_code 76 = .ok (.invokestatic 11, 3) := by decide +kernel
theorem d_m4_79 : decode method_4_code 79 = .ok (.if_icmp .ne 7, 3) := by decide +kernel
theorem d_m4_82 : decode method_4_code 82 = .ok (.iconst 1, 1) := by decide +kernel
theorem d_m4_83 : decode method_4_code 83 = .ok (.goto 4, 3) := by decide +kernel
theorem d_m4_86 : decode method_4_code 86 = .ok (.iconst 0, 1) := by decide +kernel
theorem d_m4_87 : decode method_4_code 87 = .ok (.istore 6, 2) := by decide +kernel
theorem d_m4_89 : decode method_4_code 89 = .ok (.iload 4, 2) := by decide +kernel
theorem d_m4_91 : decode method_4_code 91 = .ok (.iconst 2, 1) := by decide +kernel
theorem d_m4_92 : decode method_4_code 92 = .ok (.if_icmp .le 28, 3) := by decide +kernel
theorem d_m4_95 : decode method_4_code 95 = .ok (.iload 6, 2) := by decide +kernel
theorem d_m4_97 : decode method_4_code 97 = .ok (.ifCond .eq 20, 3) := by decide +kernel
theorem d_m4_100 : decode method_4_code 100 = .ok (.lload_n 0, 1) := by decide +kernel
theorem d_m4_101 : decode method_4_code 101 = .ok (.iconst 2, 1) := by decide +kernel
theorem d_m4_102 : decode method_4_code 102 = .ok (.invokestatic 11, 3) := by decide +kernel
theorem d_m4_105 : decode method_4_code 105 = .ok (.lload_n 2, 1) := by decide +kernel
theorem d_m4_106 : decode method_4_code 106 = .ok (.iconst 2, 1) := by decide +kernel
theorem d_m4_107 : decode method_4_code 107 = .ok (.invokestatic 11, 3) := by decide +kernel
theorem d_m4_110 : decode method_4_code 110 = .ok (.if_icmp .ne 7, 3) := by decide +kernel
theorem d_m4_113 : decode method_4_code 113 = .ok (.iconst 1, 1) := by decide +kernel
theorem d_m4_114 : decode method_4_code 114 = .ok (.goto 4, 3) := by decide +kernel
theorem d_m4_117 : decode method_4_code 117 = .ok (.iconst 0, 1) := by decide +kernel
theorem d_m4_118 : decode method_4_code 118 = .ok (.istore 6, 2) := by decide +kernel
theorem d_m4_120 : decode method_4_code 120 = .ok (.iload 6, 2) := by decide +kernel
theorem d_m4_122 : decode method_4_code 122 = .ok (.ireturn, 1) := by decide +kernel
set_option maxRecDepth 65536 in
set_option maxHeartbeats 40000000 in
theorem cSame {l : Launch} {Z : State} {a0 : Array Value} (W : Wd Z a0) {EL : List (String × Nat)} {vm : Vm} {h : Heap} {nw : Bool} {x y : Int64} :
    Ctr nw l Z a0 EL (⟨"com/example/token_to_key/tokentokey/s3/PermissionEqualsPinLaw", "sameDrawn", "(JJ)Z"⟩ : MethodName) method_4_code 7 (some .boolean) ({ frames := 1, cells := 0, slots := 0, locals := 15 } : Room) #[.long x, .long y] vm h (fun v vm' h' => v = some (.int (bi (mkV x = mkV y))) ∧ h' = h) := by
  refine Ctr.of_go (L0 := #[.val (.long x), .second, .val (.long y), .second, .unset, .unset, .unset]) (by first | exact plainFor_of_name (by first | (simp [plainName, overriddenIn]; done) | decide +kernel) | decide +kernel) (fun m => by first | (simp [entryFrame, mkF, argsToLocals, Value.category, maxLocals]; done) | rfl) (fun p e s m below meth c vmi chi => ?_)
  refine Go.lload_n 1 d_m4_0 rfl rfl ?_
  refine Go.ldc2_w (W.1 4 rfl) 4 d_m4_1 rfl ?_
  refine Go.land (x &&& (3 : Int64)) 5 d_m4_4 rfl rfl ?_
  refine Go.l2i (lenV x) 6 d_m4_5 rfl rfl ?_
  refine Go.istore #[.val (.long x), .second, .val (.long y), .second, .val (.int (lenV x)), .unset, .unset] 8 d_m4_6 rfl rfl ?_
  refine Go.lload_n 9 d_m4_8 rfl rfl ?_
  refine Go.ldc2_w (W.1 4 rfl) 12 d_m4_9 rfl ?_
  refine Go.land (y &&& (3 : Int64)) 13 d_m4_12 rfl rfl ?_
  refine Go.l2i (lenV y) 14 d_m4_13 rfl rfl ?_
  refine Go.istore #[.val (.long x), .second, .val (.long y), .second, .val (.int (lenV x)), .val (.int (lenV y)), .unset] 16 d_m4_14 rfl rfl ?_
  refine Go.iload 18 d_m4_16 rfl rfl ?_
  refine Go.iload 20 d_m4_18 rfl rfl ?_
  refine Go.if_icmpeq 25 23 d_m4_20 (by decide) rfl rfl (fun ql => ?_) (fun ql => ?_)
  · refine Go.iconst (1) 26 d_m4_25 rfl rfl ?_
    refine Go.istore #[.val (.long x), .second, .val (.long y), .second, .val (.int (lenV x)), .val (.int (lenV y)), .val (.int (1 : Int32))] 28 d_m4_26 rfl rfl ?_
    have J0 : ∀ (vmj : Vm) (r : Int32), r = bi (AV x y 0) → Go nw p l e ({ frames := 1, cells := 0, slots := 0, locals := 15 } : Room) s m #[.long x, .long y] below meth c method_4_code 7 "sameDrawn" (some .boolean) Z a0 EL "com/example/token_to_key/tokentokey/s3/PermissionEqualsPinLaw" (fun v vm' h' => v = some (.int (bi (mkV x = mkV y))) ∧ h' = h) vmj h 0 0 58 #[.val (.long x), .second, .val (.long y), .second, .val (.int (lenV x)), .val (.int (lenV y)), .val (.int r)] [] := by
      intro vmj r hr0
      have J1 : ∀ (vmj : Vm) (r : Int32), r = bi (AV x y 0 ∧ AV x y 1) → Go nw p l e ({ frames := 1, cells := 0, slots := 0, locals := 15 } : Room) s m #[.long x, .long y] below meth c method_4_code 7 "sameDrawn" (some .boolean) Z a0 EL "com/example/token_to_key/tokentokey/s3/PermissionEqualsPinLaw" (fun v vm' h' => v = some (.int (bi (mkV x = mkV y))) ∧ h' = h) vmj h 0 0 89 #[.val (.long x), .second, .val (.long y), .second, .val (.int (lenV x)), .val (.int (lenV y)), .val (.int r)] [] := by
        intro vmj r hr1
        have J2 : ∀ (vmj : Vm) (r : Int32), r = bi (AV x y 0 ∧ AV x y 1 ∧ AV x y 2) → Go nw p l e ({ frames := 1, cells := 0, slots := 0, locals := 15 } : Room) s m #[.long x, .long y] below meth c method_4_code 7 "sameDrawn" (some .boolean) Z a0 EL "com/example/token_to_key/tokentokey/s3/PermissionEqualsPinLaw" (fun v vm' h' => v = some (.int (bi (mkV x = mkV y))) ∧ h' = h) vmj h 0 0 120 #[.val (.long x), .second, .val (.long y), .second, .val (.int (lenV x)), .val (.int (lenV y)), .val (.int r)] [] := by
          intro vmj r hr2
          refine Go.iload 122 d_m4_120 rfl rfl ?_
          subst hr2
          exact Go.ireturn d_m4_122 rfl (biZ _) (by simp) (nl rfl) (nl rfl) (fun vm' ch => ⟨congrArg (fun z => some (Value.int z)) (bi_iff (sameV ql)), rfl⟩)
        refine Go.iload 91 d_m4_89 rfl rfl ?_
        refine Go.iconst (2) 92 d_m4_91 rfl rfl ?_
        refine Go.if_icmple 120 95 d_m4_92 (by decide) rfl rfl (fun g2 => ?_) (fun g2 => ?_)
        · exact J2 _ _ (hr1.trans (bi_iff ⟨fun z => ⟨z.1, z.2, (fun z => absurd z g2)⟩, fun z => ⟨z.1, z.2.1⟩⟩))
        · refine Go.iload 97 d_m4_95 rfl rfl ?_
          refine Go.ifeq 117 100 d_m4_97 (by decide) rfl rfl (fun o2 => ?_) (fun o2 => ?_)
          · refine Go.iconst (0) 118 d_m4_117 rfl rfl ?_
            refine Go.istore #[.val (.long x), .second, .val (.long y), .second, .val (.int (lenV x)), .val (.int (lenV y)), .val (.int (0 : Int32))] 120 d_m4_118 rfl rfl ?_
            exact J2 _ _ ((bi_f (fun z => bi0.mp (hr1.symm.trans o2) ⟨z.1, z.2.1⟩)).symm)
          · refine Go.lload_n 101 d_m4_100 rfl rfl ?_
            refine Go.iconst (2) 102 d_m4_101 rfl rfl ?_
            refine Go.invokestatic (rest := []) 0 [.long x, .int (2 : Int32)] 105 d_m4_102 rfl (W.1 5 rfl) (W.1 6 rfl) (W.1 2 rfl) (W.1 7 rfl) (by decide) (cCh W ) (by decide +kernel : parseMethodDescriptor "(JI)C" = some ⟨[.long, .int], (some .char)⟩) rfl rfl rfl (nl rfl) (nl rfl) (nl rfl) (nl rfl) (nl rfl) (fun v1 vm1 h1 ⟨rv, hh⟩ c1 => ?_)
            subst rv hh
            refine Go.lload_n 106 d_m4_105 rfl rfl ?_
            refine Go.iconst (2) 107 d_m4_106 rfl rfl ?_
            refine Go.invokestatic (rest := [.int (chV x 2)]) 1 [.long y, .int (2 : Int32)] 110 d_m4_107 rfl (W.1 5 rfl) (W.1 6 rfl) (W.1 2 rfl) (W.1 7 rfl) (by decide) (cCh W ) (by decide +kernel : parseMethodDescriptor "(JI)C" = some ⟨[.long, .int], (some .char)⟩) rfl rfl rfl (nl rfl) (nl rfl) (nl rfl) (nl rfl) (nl rfl) (fun v2 vm2 h2 ⟨rv, hh⟩ c2 => ?_)
            subst rv hh
            refine Go.if_icmpne 117 113 d_m4_110 (by decide) rfl rfl (fun p2 => ?_) (fun p2 => ?_)
            · refine Go.iconst (0) 118 d_m4_117 rfl rfl ?_
              refine Go.istore #[.val (.long x), .second, .val (.long y), .second, .val (.int (lenV x)), .val (.int (lenV y)), .val (.int (0 : Int32))] 120 d_m4_118 rfl rfl ?_
              exact J2 _ _ (bi_f (fun z => p2 (z.2.2 g2))).symm
            · refine Go.iconst (1) 114 d_m4_113 rfl rfl ?_
              refine Go.goto 118 d_m4_114 (by decide) rfl ?_
              refine Go.istore #[.val (.long x), .second, .val (.long y), .second, .val (.int (lenV x)), .val (.int (lenV y)), .val (.int (1 : Int32))] 120 d_m4_118 rfl rfl ?_
              exact J2 _ _ (bi_t ⟨(Classical.not_not.mp (fun z => o2 (hr1.trans (bi0.mpr z)))).1, (Classical.not_not.mp (fun z => o2 (hr1.trans (bi0.mpr z)))).2, fun _ => p2⟩).symm
      refine Go.iload 60 d_m4_58 rfl rfl ?_
      refine Go.iconst (1) 61 d_m4_60 rfl rfl ?_
      refine Go.if_icmple 89 64 d_m4_61 (by decide) rfl rfl (fun g1 => ?_) (fun g1 => ?_)
      · exact J1 _ _ (hr0.trans (bi_iff ⟨fun z => ⟨z, (fun z => absurd z g1)⟩, fun z => z.1⟩))
      · refine Go.iload 66 d_m4_64 rfl rfl ?_
        refine Go.ifeq 86 69 d_m4_66 (by decide) rfl rfl (fun o1 => ?_) (fun o1 => ?_)
        · refine Go.iconst (0) 87 d_m4_86 rfl rfl ?_
          refine Go.istore #[.val (.long x), .second, .val (.long y), .second, .val (.int (lenV x)), .val (.int (lenV y)), .val (.int (0 : Int32))] 89 d_m4_87 rfl rfl ?_
          exact J1 _ _ ((bi_f (fun z => bi0.mp (hr0.symm.trans o1) z.1)).symm)
        · refine Go.lload_n 70 d_m4_69 rfl rfl ?_
          refine Go.iconst (1) 71 d_m4_70 rfl rfl ?_
          refine Go.invokestatic (rest := []) 0 [.long x, .int (1 : Int32)] 74 d_m4_71 rfl (W.1 5 rfl) (W.1 6 rfl) (W.1 2 rfl) (W.1 7 rfl) (by decide) (cCh W ) (by decide +kernel : parseMethodDescriptor "(JI)C" = some ⟨[.long, .int], (some .char)⟩) rfl rfl rfl (nl rfl) (nl rfl) (nl rfl) (nl rfl) (nl rfl) (fun v3 vm3 h3 ⟨rv, hh⟩ c3 => ?_)
          subst rv hh
          refine Go.lload_n 75 d_m4_74 rfl rfl ?_
          refine Go.iconst (1) 76 d_m4_75 rfl rfl ?_
          refine Go.invokestatic (rest := [.int (chV x 1)]) 1 [.long y, .int (1 : Int32)] 79 d_m4_76 rfl (W.1 5 rfl) (W.1 6 rfl) (W.1 2 rfl) (W.1 7 rfl) (by decide) (cCh W ) (by decide +kernel : parseMethodDescriptor "(JI)C" = some ⟨[.long, .int], (some .char)⟩) rfl rfl rfl (nl rfl) (nl rfl) (nl rfl) (nl rfl) (nl rfl) (fun v4 vm4 h4 ⟨rv, hh⟩ c4 => ?_)
          subst rv hh
          refine Go.if_icmpne 86 82 d_m4_79 (by decide) rfl rfl (fun p1 => ?_) (fun p1 => ?_)
          · refine Go.iconst (0) 87 d_m4_86 rfl rfl ?_
            refine Go.istore #[.val (.long x), .second, .val (.long y), .second, .val (.int (lenV x)), .val (.int (lenV y)), .val (.int (0 : Int32))] 89 d_m4_87 rfl rfl ?_
            exact J1 _ _ (bi_f (fun z => p1 (z.2 g1))).symm
          · refine Go.iconst (1) 83 d_m4_82 rfl rfl ?_
            refine Go.goto 87 d_m4_83 (by decide) rfl ?_
            refine Go.istore #[.val (.long x), .second, .val (.long y), .second, .val (.int (lenV x)), .val (.int (lenV y)), .val (.int (1 : Int32))] 89 d_m4_87 rfl rfl ?_
            exact J1 _ _ (bi_t ⟨Classical.not_not.mp (fun z => o1 (hr0.trans (bi0.mpr z))), fun _ => p1⟩).symm
    refine Go.iload 30 d_m4_28 rfl rfl ?_
    refine Go.ifle 58 33 d_m4_30 (by decide) rfl rfl (fun g0 => ?_) (fun g0 => ?_)
    · exact J0 _ _ ((bi_t (fun z => absurd z g0)).symm)
    · refine Go.iload 35 d_m4_33 rfl rfl ?_
      refine Go.ifeq 55 38 d_m4_35 (by decide) rfl rfl (fun q5 => absurd q5 (by decide)) (fun q5 => ?_)
      refine Go.lload_n 39 d_m4_38 rfl rfl ?_
      refine Go.iconst (0) 40 d_m4_39 rfl rfl ?_
      refine Go.invokestatic (rest := []) 0 [.long x, .int (0 : Int32)] 43 d_m4_40 rfl (W.1 5 rfl) (W.1 6 rfl) (W.1 2 rfl) (W.1 7 rfl) (by decide) (cCh W ) (by decide +kernel : parseMethodDescriptor "(JI)C" = some ⟨[.long, .int], (some .char)⟩) rfl rfl rfl (nl rfl) (nl rfl) (nl rfl) (nl rfl) (nl rfl) (fun v6 vm6 h6 ⟨rv, hh⟩ c6 => ?_)
      subst rv hh
      refine Go.lload_n 44 d_m4_43 rfl rfl ?_
      refine Go.iconst (0) 45 d_m4_44 rfl rfl ?_
      refine Go.invokestatic (rest := [.int (chV x 0)]) 1 [.long y, .int (0 : Int32)] 48 d_m4_45 rfl (W.1 5 rfl) (W.1 6 rfl) (W.1 2 rfl) (W.1 7 rfl) (by decide) (cCh W ) (by decide +kernel : parseMethodDescriptor "(JI)C" = some ⟨[.long, .int], (some .char)⟩) rfl rfl rfl (nl rfl) (nl rfl) (nl rfl) (nl rfl) (nl rfl) (fun v7 vm7 h7 ⟨rv, hh⟩ c7 => ?_)
      subst rv hh
      refine Go.if_icmpne 55 51 d_m4_48 (by decide) rfl rfl (fun p0 => ?_) (fun p0 => ?_)
      · refine Go.iconst (0) 56 d_m4_55 rfl rfl ?_
        refine Go.istore #[.val (.long x), .second, .val (.long y), .second, .val (.int (lenV x)), .val (.int (lenV y)), .val (.int (0 : Int32))] 58 d_m4_56 rfl rfl ?_
        exact J0 _ _ (bi_f (fun z => p0 (z g0))).symm
      · refine Go.iconst (1) 52 d_m4_51 rfl rfl ?_
        refine Go.goto 56 d_m4_52 (by decide) rfl ?_
        refine Go.istore #[.val (.long x), .second, .val (.long y), .second, .val (.int (lenV x)), .val (.int (lenV y)), .val (.int (1 : Int32))] 58 d_m4_56 rfl rfl ?_
        exact J0 _ _ (bi_t (fun _ => p0)).symm
  · refine Go.iconst (0) 24 d_m4_23 rfl rfl ?_
    exact Go.ireturn d_m4_24 rfl rfl (by simp) (nl rfl) (nl rfl) (fun vm' ch => ⟨congrArg (fun z => some (Value.int z)) (bi_f (diffV ql)).symm, rfl⟩)
theorem d_prog_34_m2_0 : decode prog_34_method_2_code 0 = .ok (.aload_n 0, 1) := by decide +kernel
theorem d_prog_34_m2_1 : decode prog_34_method_2_code 1 = .ok (.invokespecial 7, 3) := by decide +kernel
theorem d_prog_34_m2_4 : decode prog_34_method_2_code 4 = .ok (.aload_n 0, 1) := by decide +kernel
theorem d_prog_34_m2_5 : decode prog_34_method_2_code 5 = .ok (.aload_n 1, 1) := by decide +kernel
theorem d_prog_34_m2_6 : decode prog_34_method_2_code 6 = .ok (.putfield 12, 3) := by decide +kernel
theorem d_prog_34_m2_9 : decode prog_34_method_2_code 9 = .ok (.aload_n 0, 1) := by decide +kernel
theorem d_prog_34_m2_10 : decode prog_34_method_2_code 10 = .ok (.aload_n 2, 1) := by decide +kernel
theorem d_prog_34_m2_11 : decode prog_34_method_2_code 11 = .ok (.putfield 16, 3) := by decide +kernel
theorem d_prog_34_m2_14 : decode prog_34_method_2_code 14 = .ok (.aload_n 0, 1) := by decide +kernel
theorem d_prog_34_m2_15 : decode prog_34_method_2_code 15 = .ok (.iload_n 3, 1) := by decide +kernel
theorem d_prog_34_m2_16 : decode prog_34_method_2_code 16 = .ok (.putfield 19, 3) := by decide +kernel
theorem d_prog_34_m2_19 : decode prog_34_method_2_code 19 = .ok (.return_, 1) := by decide +kernel
set_option maxRecDepth 65536 in
set_option maxHeartbeats 40000000 in
theorem cPeInit {l : Launch} {Z : State} {a0 : Array Value} (W : Wd Z a0) {EL : List (String × Nat)} {vm : Vm} {h : Heap} {nw : Bool} {a s1 s2 : Addr} {r : Int32} (hr : r = 0 ∨ r = 1) (E : Exa Z h a "com/example/token_to_key/tokentokey/s3/Permission") (F0 : Fld Z h a "com/example/token_to_key/tokentokey/s3/Permission" "action" "Ljava/lang/String;" (.null)) (F1 : Fld Z h a "com/example/token_to_key/tokentokey/s3/Permission" "resource" "Ljava/lang/String;" (.null)) (F2 : Fld Z h a "com/example/token_to_key/tokentokey/s3/Permission" "mustBeAllowed" "Z" (.int 0)) (Sa : Safe Z EL vm h a) (hz : Z.heap.size ≤ a) :
    Ctr nw l Z a0 EL (⟨"com/example/token_to_key/tokentokey/s3/Permission", "<init>", "(Ljava/lang/String;Ljava/lang/String;Z)V"⟩ : MethodName) prog_34_method_2_code 4 none ({ frames := 1, cells := 0, slots := 0, locals := 12 } : Room) #[.ref a, .ref s1, .ref s2, .int r] vm h (fun v vm' h' => v = none ∧ Keep h h' [a] ∧ Exa Z h' a "com/example/token_to_key/tokentokey/s3/Permission" ∧ Fld Z h' a "com/example/token_to_key/tokentokey/s3/Permission" "action" "Ljava/lang/String;" (.ref s1) ∧ Fld Z h' a "com/example/token_to_key/tokentokey/s3/Permission" "resource" "Ljava/lang/String;" (.ref s2) ∧ Fld Z h' a "com/example/token_to_key/tokentokey/s3/Permission" "mustBeAllowed" "Z" (.int r)) := by
  refine Ctr.of_go (L0 := #[.val (.ref a), .val (.ref s1), .val (.ref s2), .val (.int r)]) (by first | exact plainFor_of_name (by first | (simp [plainName, overriddenIn]; done) | decide +kernel) | decide +kernel) (fun m => by first | (simp [entryFrame, mkF, argsToLocals, Value.category, maxLocals]; done) | rfl) (fun p e s m below meth c vmi chi => ?_)
  refine Go.aload_n 1 d_prog_34_m2_0 rfl rfl rfl ?_
  refine Go.initObject 0 4 d_prog_34_m2_1 rfl (W.1 51 rfl) (W.1 21 rfl) (W.1 22 rfl) rfl (nl rfl) (nl rfl) (nl rfl) ?_
  refine Go.aload_n 5 d_prog_34_m2_4 rfl rfl rfl ?_
  refine Go.aload_n 6 d_prog_34_m2_5 rfl rfl rfl ?_
  have f1 := CHr.safe chi E.lt Sa
  have L1 := Nat.lt_of_lt_of_le E.lt chi.2.1
  refine Go.putfield 9 d_prog_34_m2_6 rfl (W.1 52 rfl) F0 E (Or.inr ⟨(W.1 53 rfl), rfl, rfl⟩) (W.1 43 rfl) (ty := (.object "java/lang/String")) (by decide) rfl rfl f1 hz (fun h2 X2 S2 c2 => ?_)
  have E_0 := E.wr X2
  have G0_0 := F0.same X2
  have G1_0 := F1.other X2 (Or.inr (slot_ne (a0 := a0) (C := "com/example/token_to_key/tokentokey/s3/Permission") (Or.inr (W.1 55 rfl)) (Or.inr (W.1 53 rfl)) (by decide) (t := (.object "java/lang/String")) (t' := (.object "java/lang/String")) (by decide) (by decide)))
  have G2_0 := F2.other X2 (Or.inr (slot_ne (a0 := a0) (C := "com/example/token_to_key/tokentokey/s3/Permission") (Or.inr (W.1 57 rfl)) (Or.inr (W.1 53 rfl)) (by decide) (t := .boolean) (t' := (.object "java/lang/String")) (by decide) (by decide)))
  refine Go.aload_n 10 d_prog_34_m2_9 rfl rfl rfl ?_
  refine Go.aload_n 11 d_prog_34_m2_10 rfl rfl rfl ?_
  refine Go.putfield 14 d_prog_34_m2_11 rfl (W.1 54 rfl) G1_0 E_0 (Or.inr ⟨(W.1 55 rfl), rfl, rfl⟩) (W.1 43 rfl) (ty := (.object "java/lang/String")) (by decide) rfl rfl S2 hz (fun h3 X3 S3 c3 => ?_)
  have E_1 := E_0.wr X3
  have G0_1 := G0_0.other X3 (Or.inr (slot_ne (a0 := a0) (C := "com/example/token_to_key/tokentokey/s3/Permission") (Or.inr (W.1 53 rfl)) (Or.inr (W.1 55 rfl)) (by decide) (t := (.object "java/lang/String")) (t' := (.object "java/lang/String")) (by decide) (by decide)))
  have G1_1 := G1_0.same X3
  have G2_1 := G2_0.other X3 (Or.inr (slot_ne (a0 := a0) (C := "com/example/token_to_key/tokentokey/s3/Permission") (Or.inr (W.1 57 rfl)) (Or.inr (W.1 55 rfl)) (by decide) (t := .boolean) (t' := (.object "java/lang/String")) (by decide) (by decide)))
  refine Go.aload_n 15 d_prog_34_m2_14 rfl rfl rfl ?_
  refine Go.iload_n 16 d_prog_34_m2_15 rfl rfl ?_
  refine Go.putfield 19 d_prog_34_m2_16 rfl (W.1 56 rfl) G2_1 E_1 (Or.inr ⟨(W.1 57 rfl), rfl, rfl⟩) (W.1 43 rfl) (ty := .boolean) (by decide) (narZ hr) (by rcases hr with rfl | rfl <;> rfl) S3 hz (fun h4 X4 S4 c4 => ?_)
  have E_2 := E_1.wr X4
  have G0_2 := G0_1.other X4 (Or.inr (slot_ne (a0 := a0) (C := "com/example/token_to_key/tokentokey/s3/Permission") (Or.inr (W.1 53 rfl)) (Or.inr (W.1 57 rfl)) (by decide) (t := (.object "java/lang/String")) (t' := .boolean) (by decide) (by decide)))
  have G1_2 := G1_1.other X4 (Or.inr (slot_ne (a0 := a0) (C := "com/example/token_to_key/tokentokey/s3/Permission") (Or.inr (W.1 55 rfl)) (Or.inr (W.1 57 rfl)) (by decide) (t := (.object "java/lang/String")) (t' := .boolean) (by decide) (by decide)))
  have G2_2 := G2_1.same X4
  exact Go.return_ d_prog_34_m2_19 rfl (nl rfl) (nl rfl) (fun vm' ch => ⟨rfl, ((((Keep.refl h [a]).wr X2 (Or.inl (by simp))).wr X3 (Or.inl (by simp))).wr X4 (Or.inl (by simp))), E_2, G0_2, G1_2, G2_2⟩)
theorem d_prog_34_m1_0 : decode prog_34_method_1_code 0 = .ok (.aload_n 0, 1) := by decide +kernel
theorem d_prog_34_m1_1 : decode prog_34_method_1_code 1 = .ok (.aload_n 1, 1) := by decide +kernel
theorem d_prog_34_m1_2 : decode prog_34_method_1_code 2 = .ok (.aload_n 2, 1) := by decide +kernel
theorem d_prog_34_m1_3 : decode prog_34_method_1_code 3 = .ok (.iconst 1, 1) := by decide +kernel
theorem d_prog_34_m1_4 : decode prog_34_method_1_code 4 = .ok (.invokespecial 1, 3) := by decide +kernel
theorem d_prog_34_m1_7 : decode prog_34_method_1_code 7 = .ok (.return_, 1) := by decide +kernel
set_option maxRecDepth 65536 in
set_option maxHeartbeats 40000000 in
theorem cPeInit2 {l : Launch} {Z : State} {a0 : Array Value} (W : Wd Z a0) {EL : List (String × Nat)} {vm : Vm} {h : Heap} {nw : Bool} {a s1 s2 : Addr} (E : Exa Z h a "com/example/token_to_key/tokentokey/s3/Permission") (F0 : Fld Z h a "com/example/token_to_key/tokentokey/s3/Permission" "action" "Ljava/lang/String;" (.null)) (F1 : Fld Z h a "com/example/token_to_key/tokentokey/s3/Permission" "resource" "Ljava/lang/String;" (.null)) (F2 : Fld Z h a "com/example/token_to_key/tokentokey/s3/Permission" "mustBeAllowed" "Z" (.int 0)) (Sa : Safe Z EL vm h a) (hz : Z.heap.size ≤ a) :
    Ctr nw l Z a0 EL (⟨"com/example/token_to_key/tokentokey/s3/Permission", "<init>", "(Ljava/lang/String;Ljava/lang/String;)V"⟩ : MethodName) prog_34_method_1_code 3 none ({ frames := 2, cells := 0, slots := 0, locals := 27 } : Room) #[.ref a, .ref s1, .ref s2] vm h (fun v vm' h' => v = none ∧ Keep h h' [a] ∧ Exa Z h' a "com/example/token_to_key/tokentokey/s3/Permission" ∧ Fld Z h' a "com/example/token_to_key/tokentokey/s3/Permission" "action" "Ljava/lang/String;" (.ref s1) ∧ Fld Z h' a "com/example/token_to_key/tokentokey/s3/Permission" "resource" "Ljava/lang/String;" (.ref s2) ∧ Fld Z h' a "com/example/token_to_key/tokentokey/s3/Permission" "mustBeAllowed" "Z" (.int 1)) := by
  refine Ctr.of_go (L0 := #[.val (.ref a), .val (.ref s1), .val (.ref s2)]) (by first | exact plainFor_of_name (by first | (simp [plainName, overriddenIn]; done) | decide +kernel) | decide +kernel) (fun m => by first | (simp [entryFrame, mkF, argsToLocals, Value.category, maxLocals]; done) | rfl) (fun p e s m below meth c vmi chi => ?_)
  refine Go.aload_n 1 d_prog_34_m1_0 rfl rfl rfl ?_
  refine Go.aload_n 2 d_prog_34_m1_1 rfl rfl rfl ?_
  refine Go.aload_n 3 d_prog_34_m1_2 rfl rfl rfl ?_
  refine Go.iconst (1) 4 d_prog_34_m1_3 rfl rfl ?_
  have f1 := CHr.safe chi E.lt Sa
  have L1 := Nat.lt_of_lt_of_le E.lt chi.2.1
  refine Go.invokespecial (rest := []) 0 a [.ref s1, .ref s2, .int (1 : Int32)] 7 d_prog_34_m1_4 rfl rfl (W.1 48 rfl) (W.1 49 rfl) (W.1 44 rfl) (W.1 50 rfl) (by decide) (cPeInit W (Or.inr rfl) E F0 F1 F2 f1 hz) (by decide +kernel : parseMethodDescriptor "(Ljava/lang/String;Ljava/lang/String;Z)V" = some ⟨[(.object "java/lang/String"), (.object "java/lang/String"), .boolean], none⟩) rfl rfl rfl (nl rfl) (nl rfl) (nl rfl) (nl rfl) (nl rfl) (fun v2 vm2 h2 ⟨rv, q⟩ c2 => ?_)
  subst rv
  exact Go.return_ d_prog_34_m1_7 rfl (nl rfl) (nl rfl) (fun vm' ch => ⟨rfl, q⟩)
theorem d_prog_34_m3_0 : decode prog_34_method_3_code 0 = .ok (.new 2, 3) := by decide +kernel
theorem d_prog_34_m3_3 : decode prog_34_method_3_code 3 = .ok (.dup, 1) := by decide +kernel
theorem d_prog_34_m3_4 : decode prog_34_method_3_code 4 = .ok (.aload_n 0, 1) := by decide +kernel
theorem d_prog_34_m3_5 : decode prog_34_method_3_code 5 = .ok (.aload_n 1, 1) := by decide +kernel
theorem d_prog_34_m3_6 : decode prog_34_method_3_code 6 = .ok (.iconst 0, 1) := by decide +kernel
theorem d_prog_34_m3_7 : decode prog_34_method_3_code 7 = .ok (.invokespecial 1, 3) := by decide +kernel
theorem d_prog_34_m3_10 : decode prog_34_method_3_code 10 = .ok (.areturn, 1) := by decide +kernel
set_option maxRecDepth 65536 in
set_option maxHeartbeats 40000000 in
theorem cUnless {l : Launch} {Z : State} {a0 : Array Value} (W : Wd Z a0) {EL : List (String × Nat)} {vm : Vm} {h : Heap} {nw : Bool} {s1 s2 : Addr} :
    Ctr nw l Z a0 EL (⟨"com/example/token_to_key/tokentokey/s3/Permission", "unlessDenied", "(Ljava/lang/String;Ljava/lang/String;)Lcom/example/token_to_key/tokentokey/s3/Permission;"⟩ : MethodName) prog_34_method_3_code 2 (some (.object "com/example/token_to_key/tokentokey/s3/Permission")) ({ frames := 2, cells := 1, slots := 3, locals := 28 } : Room) #[.ref s1, .ref s2] vm h (fun v vm' h' => ∃ a, v = some (.ref a) ∧ Ext h h' ∧ Exa Z h' a "com/example/token_to_key/tokentokey/s3/Permission" ∧ Fld Z h' a "com/example/token_to_key/tokentokey/s3/Permission" "action" "Ljava/lang/String;" (.ref s1) ∧ Fld Z h' a "com/example/token_to_key/tokentokey/s3/Permission" "resource" "Ljava/lang/String;" (.ref s2) ∧ Fld Z h' a "com/example/token_to_key/tokentokey/s3/Permission" "mustBeAllowed" "Z" (.int 0)) := by
  refine Ctr.of_go (L0 := #[.val (.ref s1), .val (.ref s2)]) (by first | exact plainFor_of_name (by first | (simp [plainName, overriddenIn]; done) | decide +kernel) | decide +kernel) (fun m => by first | (simp [entryFrame, mkF, argsToLocals, Value.category, maxLocals]; done) | rfl) (fun p e s m below meth c vmi chi => ?_)
  refine Go.new 3 d_prog_34_m3_0 rfl (W.1 63 rfl) (W.1 43 rfl) (W.1 44 rfl) (nl rfl) (nl rfl) (fun b h1 e1 E1 ⟨A1, D1⟩ S1 z1 c1 => ?_)
  refine Go.dup 4 d_prog_34_m3_3 rfl rfl ?_
  refine Go.aload_n 5 d_prog_34_m3_4 rfl rfl rfl ?_
  refine Go.aload_n 6 d_prog_34_m3_5 rfl rfl rfl ?_
  refine Go.iconst (0) 7 d_prog_34_m3_6 rfl rfl ?_
  have f2 := D1 (Or.inr (W.1 53 rfl)) (ty := (.object "java/lang/String")) (by decide)
  have f3 := D1 (Or.inr (W.1 55 rfl)) (ty := (.object "java/lang/String")) (by decide)
  have f4 := D1 (Or.inr (W.1 57 rfl)) (ty := .boolean) (by decide)
  refine Go.invokespecial (rest := [.ref b]) 1 b [.ref s1, .ref s2, .int (0 : Int32)] 10 d_prog_34_m3_7 rfl rfl (W.1 48 rfl) (W.1 49 rfl) (W.1 44 rfl) (W.1 50 rfl) (by decide) (cPeInit W (Or.inl rfl) A1 f2 f3 f4 S1 z1) (by decide +kernel : parseMethodDescriptor "(Ljava/lang/String;Ljava/lang/String;Z)V" = some ⟨[(.object "java/lang/String"), (.object "java/lang/String"), .boolean], none⟩) rfl rfl rfl (nl rfl) (nl rfl) (nl rfl) (nl rfl) (nl rfl) (fun v5 vm5 h5 ⟨rv, K14, Q14⟩ c5 => ?_)
  subst rv
  have EE14 := Ext.kp1 E1 K14 e1
  exact Go.areturn d_prog_34_m3_10 rfl rfl rfl (nl rfl) (nl rfl) (fun vm' ch => ⟨_, rfl, EE14, Q14⟩)
theorem d_prog_34_m5_0 : decode prog_34_method_5_code 0 = .ok (.aload_n 1, 1) := by decide +kernel
theorem d_prog_34_m5_1 : decode prog_34_method_5_code 1 = .ok (.instanceof 2, 3) := by decide +kernel
theorem d_prog_34_m5_4 : decode prog_34_method_5_code 4 = .ok (.ifCond .eq 51, 3) := by decide +kernel
theorem d_prog_34_m5_7 : decode prog_34_method_5_code 7 = .ok (.aload_n 1, 1) := by decide +kernel
theorem d_prog_34_m5_8 : decode prog_34_method_5_code 8 = .ok (.checkcast 2, 3) := by decide +kernel
theorem d_prog_34_m5_11 : decode prog_34_method_5_code 11 = .ok (.astore_n 2, 1) := by decide +kernel
theorem d_prog_34_m5_12 : decode prog_34_method_5_code 12 = .ok (.aload_n 0, 1) := by decide +kernel
theorem d_prog_34_m5_13 : decode prog_34_method_5_code 13 = .ok (.getfield 12, 3) := by decide +kernel
theorem d_prog_34_m5_16 : decode prog_34_method_5_code 16 = .ok (.aload_n 2, 1) := by decide +kernel
theorem d_prog_34_m5_17 : decode prog_34_method_5_code 17 = .ok (.getfield 12, 3) := by decide +kernel
theorem d_prog_34_m5_20 : decode prog_34_method_5_code 20 = .ok (.invokevirtual 32, 3) := by decide +kernel
theorem d_prog_34_m5_23 : decode prog_34_method_5_code 23 = .ok (.ifCond .eq 32, 3) := by decide +kernel
theorem d_prog_34_m5_26 : decode prog_34_method_5_code 26 = .ok (.aload_n 0, 1) := by decide +kernel
theorem d_prog_34_m5_27 : decode prog_34_method_5_code 27 = .ok (.getfield 16, 3) := by decide +kernel
theorem d_prog_34_m5_30 : decode prog_34_method_5_code 30 = .ok (.aload_n 2, 1) := by decide +kernel
theorem d_prog_34_m5_31 : decode prog_34_method_5_code 31 = .ok (.getfield 16, 3) := by decide +kernel
theorem d_prog_34_m5_34 : decode prog_34_method_5_code 34 = .ok (.invokevirtual 32, 3) := by decide +kernel
theorem d_prog_34_m5_37 : decode prog_34_method_5_code 37 = .ok (.ifCond .eq 18, 3) := by decide +kernel
theorem d_prog_34_m5_40 : decode prog_34_method_5_code 40 = .ok (.aload_n 0, 1) := by decide +kernel
theorem d_prog_34_m5_41 : decode prog_34_method_5_code 41 = .ok (.getfield 19, 3) := by decide +kernel
theorem d_prog_34_m5_44 : decode prog_34_method_5_code 44 = .ok (.aload_n 2, 1) := by decide +kernel
theorem d_prog_34_m5_45 : decode prog_34_method_5_code 45 = .ok (.getfield 19, 3) := by decide +kernel
theorem d_prog_34_m5_48 : decode prog_34_method_5_code 48 = .ok (.if_icmp .ne 7, 3) := by decide +kernel
theorem d_prog_34_m5_51 : decode prog_34_method_5_code 51 = .ok (.iconst 1, 1) := by decide +kernel
theorem d_prog_34_m5_52 : decode prog_34_method_5_code 52 = .ok (.goto 4, 3) := by decide +kernel
theorem d_prog_34_m5_55 : decode prog_34_method_5_code 55 = .ok (.iconst 0, 1) := by decide +kernel
theorem d_prog_34_m5_56 : decode prog_34_method_5_code 56 = .ok (.ireturn, 1) := by decide +kernel
set_option maxRecDepth 65536 in
set_option maxHeartbeats 40000000 in
theorem cPeEq {l : Launch} {Z : State} {a0 : Array Value} (W : Wd Z a0) {EL : List (String × Nat)} {vm : Vm} {h : Heap} {nw : Bool} {a b s1 s2 t1 t2 : Addr} {r u : Int32} {d1 d2 e1 e2 : List Int32} (A : Exa Z h a "com/example/token_to_key/tokentokey/s3/Permission" ∧ Fld Z h a "com/example/token_to_key/tokentokey/s3/Permission" "action" "Ljava/lang/String;" (.ref s1) ∧ Fld Z h a "com/example/token_to_key/tokentokey/s3/Permission" "resource" "Ljava/lang/String;" (.ref s2) ∧ Fld Z h a "com/example/token_to_key/tokentokey/s3/Permission" "mustBeAllowed" "Z" (.int r)) (B : Exa Z h b "com/example/token_to_key/tokentokey/s3/Permission" ∧ Fld Z h b "com/example/token_to_key/tokentokey/s3/Permission" "action" "Ljava/lang/String;" (.ref t1) ∧ Fld Z h b "com/example/token_to_key/tokentokey/s3/Permission" "resource" "Ljava/lang/String;" (.ref t2) ∧ Fld Z h b "com/example/token_to_key/tokentokey/s3/Permission" "mustBeAllowed" "Z" (.int u)) (S1 : Str Z h s1 d1) (S2 : Str Z h s2 d2) (T1 : Str Z h t1 e1) (T2 : Str Z h t2 e2) :
    Ctr nw l Z a0 EL (⟨"com/example/token_to_key/tokentokey/s3/Permission", "equals", "(Ljava/lang/Object;)Z"⟩ : MethodName) prog_34_method_5_code 3 (some .boolean) ({ frames := 2, cells := 0, slots := 0, locals := 28 } : Room) #[.ref a, .ref b] vm h (fun v vm' h' => v = some (.int (bi (d1 = e1 ∧ d2 = e2 ∧ r = u))) ∧ h' = h) := by
  refine Ctr.of_go (L0 := #[.val (.ref a), .val (.ref b), .unset]) (by first | exact plainFor_of_name (by first | (simp [plainName, overriddenIn]; done) | decide +kernel) | decide +kernel) (fun m => by first | (simp [entryFrame, mkF, argsToLocals, Value.category, maxLocals]; done) | rfl) (fun p e s m below meth c vmi chi => ?_)
  refine Go.aload_n 1 d_prog_34_m5_0 rfl rfl rfl ?_
  refine Go.instY 4 d_prog_34_m5_1 rfl (W.1 63 rfl) (Ins.self B.1) ?_
  refine Go.ifeq 55 7 d_prog_34_m5_4 (by decide) rfl rfl (fun q1 => absurd q1 (by decide)) (fun q1 => ?_)
  refine Go.aload_n 8 d_prog_34_m5_7 rfl rfl rfl ?_
  refine Go.castY 11 d_prog_34_m5_8 rfl (W.1 63 rfl) (Ins.self B.1) ?_
  refine Go.astore_n #[.val (.ref a), .val (.ref b), .val (.ref b)] 12 d_prog_34_m5_11 rfl rfl rfl ?_
  refine Go.aload_n 13 d_prog_34_m5_12 rfl rfl rfl ?_
  refine Go.getfield 16 d_prog_34_m5_13 rfl (W.1 52 rfl) A.2.1 ?_
  refine Go.aload_n 17 d_prog_34_m5_16 rfl rfl rfl ?_
  refine Go.getfield 20 d_prog_34_m5_17 rfl (W.1 52 rfl) B.2.1 ?_
  refine goStrEq W 0 23 d_prog_34_m5_20 rfl (W.1 73 rfl) S1 T1 rfl rfl (nl rfl) (nl rfl) (nl rfl) (nl rfl) (nl rfl) (fun p0 => ?_) (fun p0 => ?_)
  · refine Go.ifeq 55 26 d_prog_34_m5_23 (by decide) rfl rfl (fun q2 => absurd q2 (by decide)) (fun q2 => ?_)
    refine Go.aload_n 27 d_prog_34_m5_26 rfl rfl rfl ?_
    refine Go.getfield 30 d_prog_34_m5_27 rfl (W.1 54 rfl) A.2.2.1 ?_
    refine Go.aload_n 31 d_prog_34_m5_30 rfl rfl rfl ?_
    refine Go.getfield 34 d_prog_34_m5_31 rfl (W.1 54 rfl) B.2.2.1 ?_
    refine goStrEq W 0 37 d_prog_34_m5_34 rfl (W.1 73 rfl) S2 T2 rfl rfl (nl rfl) (nl rfl) (nl rfl) (nl rfl) (nl rfl) (fun p1 => ?_) (fun p1 => ?_)
    · refine Go.ifeq 55 40 d_prog_34_m5_37 (by decide) rfl rfl (fun q3 => absurd q3 (by decide)) (fun q3 => ?_)
      refine Go.aload_n 41 d_prog_34_m5_40 rfl rfl rfl ?_
      refine Go.getfield 44 d_prog_34_m5_41 rfl (W.1 56 rfl) A.2.2.2 ?_
      refine Go.aload_n 45 d_prog_34_m5_44 rfl rfl rfl ?_
      refine Go.getfield 48 d_prog_34_m5_45 rfl (W.1 56 rfl) B.2.2.2 ?_
      refine Go.if_icmpne 55 51 d_prog_34_m5_48 (by decide) rfl rfl (fun p2 => ?_) (fun p2 => ?_)
      · refine Go.iconst (0) 56 d_prog_34_m5_55 rfl rfl ?_
        exact Go.ireturn d_prog_34_m5_56 rfl rfl (by simp) (nl rfl) (nl rfl) (fun vm' ch => ⟨congrArg (fun z => some (Value.int z)) (bi_f (fun z => p2 z.2.2)).symm, rfl⟩)
      · refine Go.iconst (1) 52 d_prog_34_m5_51 rfl rfl ?_
        refine Go.goto 56 d_prog_34_m5_52 (by decide) rfl ?_
        exact Go.ireturn d_prog_34_m5_56 rfl rfl (by simp) (nl rfl) (nl rfl) (fun vm' ch => ⟨congrArg (fun z => some (Value.int z)) (bi_t ⟨p0, p1, p2⟩).symm, rfl⟩)
    · refine Go.ifeq 55 40 d_prog_34_m5_37 (by decide) rfl rfl (fun q4 => ?_) (fun q4 => absurd rfl q4)
      refine Go.iconst (0) 56 d_prog_34_m5_55 rfl rfl ?_
      exact Go.ireturn d_prog_34_m5_56 rfl rfl (by simp) (nl rfl) (nl rfl) (fun vm' ch => ⟨congrArg (fun z => some (Value.int z)) (bi_f (fun z => p1 z.2.1)).symm, rfl⟩)
  · refine Go.ifeq 55 26 d_prog_34_m5_23 (by decide) rfl rfl (fun q5 => ?_) (fun q5 => absurd rfl q5)
    refine Go.iconst (0) 56 d_prog_34_m5_55 rfl rfl ?_
    exact Go.ireturn d_prog_34_m5_56 rfl rfl (by simp) (nl rfl) (nl rfl) (fun vm' ch => ⟨congrArg (fun z => some (Value.int z)) (bi_f (fun z => p0 z.1)).symm, rfl⟩)
set_option maxRecDepth 65536 in
set_option maxHeartbeats 40000000 in
theorem cPeEqNull {l : Launch} {Z : State} {a0 : Array Value} (W : Wd Z a0) {EL : List (String × Nat)} {vm : Vm} {h : Heap} {nw : Bool} {a : Addr} :
    Ctr nw l Z a0 EL (⟨"com/example/token_to_key/tokentokey/s3/Permission", "equals", "(Ljava/lang/Object;)Z"⟩ : MethodName) prog_34_method_5_code 3 (some .boolean) ({ frames := 0, cells := 0, slots := 0, locals := 0 } : Room) #[.ref a, .null] vm h (fun v vm' h' => v = some (.int 0) ∧ h' = h) := by
  refine Ctr.of_go (L0 := #[.val (.ref a), .val (.null), .unset]) (by first | exact plainFor_of_name (by first | (simp [plainName, overriddenIn]; done) | decide +kernel) | decide +kernel) (fun m => by first | (simp [entryFrame, mkF, argsToLocals, Value.category, maxLocals]; done) | rfl) (fun p e s m below meth c vmi chi => ?_)
  refine Go.aload_n 1 d_prog_34_m5_0 rfl rfl rfl ?_
  refine Go.instNull 4 d_prog_34_m5_1 rfl ?_
  refine Go.ifeq 55 7 d_prog_34_m5_4 (by decide) rfl rfl (fun q1 => ?_) (fun q1 => absurd rfl q1)
  refine Go.iconst (0) 56 d_prog_34_m5_55 rfl rfl ?_
  exact Go.ireturn d_prog_34_m5_56 rfl rfl (by simp) (nl rfl) (nl rfl) (fun vm' ch => ⟨rfl, rfl⟩)
set_option maxRecDepth 65536 in
set_option maxHeartbeats 40000000 in
theorem cPeEqStr {l : Launch} {Z : State} {a0 : Array Value} (W : Wd Z a0) {EL : List (String × Nat)} {vm : Vm} {h : Heap} {nw : Bool} {a b : Addr} (B : Exa Z h b "java/lang/String") :
    Ctr nw l Z a0 EL (⟨"com/example/token_to_key/tokentokey/s3/Permission", "equals", "(Ljava/lang/Object;)Z"⟩ : MethodName) prog_34_method_5_code 3 (some .boolean) ({ frames := 0, cells := 0, slots := 0, locals := 0 } : Room) #[.ref a, .ref b] vm h (fun v vm' h' => v = some (.int 0) ∧ h' = h) := by
  refine Ctr.of_go (L0 := #[.val (.ref a), .val (.ref b), .unset]) (by first | exact plainFor_of_name (by first | (simp [plainName, overriddenIn]; done) | decide +kernel) | decide +kernel) (fun m => by first | (simp [entryFrame, mkF, argsToLocals, Value.category, maxLocals]; done) | rfl) (fun p e s m below meth c vmi chi => ?_)
  refine Go.aload_n 1 d_prog_34_m5_0 rfl rfl rfl ?_
  refine Go.instN 4 d_prog_34_m5_1 rfl (W.1 63 rfl) B (noSub (W.1 64 rfl) (W.1 65 rfl) (W.1 43 rfl) (by decide) (by decide)) ?_
  refine Go.ifeq 55 7 d_prog_34_m5_4 (by decide) rfl rfl (fun q1 => ?_) (fun q1 => absurd rfl q1)
  refine Go.iconst (0) 56 d_prog_34_m5_55 rfl rfl ?_
  exact Go.ireturn d_prog_34_m5_56 rfl rfl (by simp) (nl rfl) (nl rfl) (fun vm' ch => ⟨rfl, rfl⟩)
set_option maxRecDepth 65536 in
set_option maxHeartbeats 40000000 in
theorem cLaw {l : Launch} {Z : State} {a0 : Array Value} (W : Wd Z a0)  {vm : Vm} {h : Heap} {a b r s_ : Int64} {flags : Int32} :
    Ctr false l Z a0 consts_1 x code maxLocals ret room_1 #[.long a, .long b, .long r, .long s_, .int flags] vm h (fun v vm' h' => v = some (.int 1)) := by
  refine Ctr.of_go (L0 := #[.val (.long a), .second, .val (.long b), .second, .val (.long r), .second, .val (.long s_), .second, .val (.int flags), .unset, .unset, .unset, .unset, .unset, .unset, .unset, .unset, .unset, .unset, .unset, .unset, .unset, .unset]) (by first | exact plainFor_of_name (by first | (simp [plainName, overriddenIn]; done) | decide +kernel) | decide +kernel) (fun m => by first | (simp [entryFrame, mkF, argsToLocals, Value.category, maxLocals]; done) | rfl) (fun p e s m below meth c vmi chi => ?_)
  refine Go.iload 2 at_0 rfl rfl ?_
  refine Go.bipush (8) 4 at_2 rfl rfl ?_
  refine Go.iand (flags &&& (8 : Int32)) 5 at_4 rfl rfl ?_
  have J13 : ∀ (ra : Int32), (ra = 0 ∨ ra = 1) → Go false p l e room_1 s m #[.long a, .long b, .long r, .long s_, .int flags] below meth c code maxLocals "law" ret Z a0 consts_1 "com/example/token_to_key/tokentokey/s3/PermissionEqualsPinLaw" (fun v vm' h' => v = some (.int 1)) vmi h 0 0 13 #[.val (.long a), .second, .val (.long b), .second, .val (.long r), .second, .val (.long s_), .second, .val (.int flags), .unset, .unset, .unset, .unset, .unset, .unset, .unset, .unset, .unset, .unset, .unset, .unset, .unset, .unset] [.int ra] := by
    intro ra hra
    refine Go.istore #[.val (.long a), .second, .val (.long b), .second, .val (.long r), .second, .val (.long s_), .second, .val (.int flags), .val (.int ra), .unset, .unset, .unset, .unset, .unset, .unset, .unset, .unset, .unset, .unset, .unset, .unset, .unset] 15 at_13 rfl rfl ?_
    refine Go.iload 17 at_15 rfl rfl ?_
    refine Go.bipush (16) 19 at_17 rfl rfl ?_
    refine Go.iand (flags &&& (16 : Int32)) 20 at_19 rfl rfl ?_
    have J28 : ∀ (oa : Int32), (oa = 0 ∨ oa = 1) → Go false p l e room_1 s m #[.long a, .long b, .long r, .long s_, .int flags] below meth c code maxLocals "law" ret Z a0 consts_1 "com/example/token_to_key/tokentokey/s3/PermissionEqualsPinLaw" (fun v vm' h' => v = some (.int 1)) vmi h 0 0 28 #[.val (.long a), .second, .val (.long b), .second, .val (.long r), .second, .val (.long s_), .second, .val (.int flags), .val (.int ra), .unset, .unset, .unset, .unset, .unset, .unset, .unset, .unset, .unset, .unset, .unset, .unset, .unset] [.int oa] := by
      intro oa hoa
      refine Go.istore #[.val (.long a), .second, .val (.long b), .second, .val (.long r), .second, .val (.long s_), .second, .val (.int flags), .val (.int ra), .val (.int oa), .unset, .unset, .unset, .unset, .unset, .unset, .unset, .unset, .unset, .unset, .unset, .unset] 30 at_28 rfl rfl ?_
      refine Go.iload 32 at_30 rfl rfl ?_
      refine Go.iconst (1) 33 at_32 rfl rfl ?_
      refine Go.iushr (XT.ushr flags (1 : Int32)) 34 at_33 rfl rfl ?_
      refine Go.iconst (3) 35 at_34 rfl rfl ?_
      refine Go.iand ((XT.ushr flags (1 : Int32)) &&& (3 : Int32)) 36 at_35 rfl rfl ?_
      refine Go.istore #[.val (.long a), .second, .val (.long b), .second, .val (.long r), .second, .val (.long s_), .second, .val (.int flags), .val (.int ra), .val (.int oa), .val (.int ((XT.ushr flags (1 : Int32)) &&& (3 : Int32))), .unset, .unset, .unset, .unset, .unset, .unset, .unset, .unset, .unset, .unset, .unset] 38 at_36 rfl rfl ?_
      refine Go.iload 40 at_38 rfl rfl ?_
      refine Go.iconst (1) 41 at_40 rfl rfl ?_
      refine Go.iand (flags &&& (1 : Int32)) 42 at_41 rfl rfl ?_
      have J50 : ∀ (xa : Int64), Go false p l e room_1 s m #[.long a, .long b, .long r, .long s_, .int flags] below meth c code maxLocals "law" ret Z a0 consts_1 "com/example/token_to_key/tokentokey/s3/PermissionEqualsPinLaw" (fun v vm' h' => v = some (.int 1)) vmi h 0 0 50 #[.val (.long a), .second, .val (.long b), .second, .val (.long r), .second, .val (.long s_), .second, .val (.int flags), .val (.int ra), .val (.int oa), .val (.int ((XT.ushr flags (1 : Int32)) &&& (3 : Int32))), .unset, .unset, .unset, .unset, .unset, .unset, .unset, .unset, .unset, .unset, .unset] [.long xa] := by
        intro xa
        refine Go.lstore #[.val (.long a), .second, .val (.long b), .second, .val (.long r), .second, .val (.long s_), .second, .val (.int flags), .val (.int ra), .val (.int oa), .val (.int ((XT.ushr flags (1 : Int32)) &&& (3 : Int32))), .val (.long xa), .second, .unset, .unset, .unset, .unset, .unset, .unset, .unset, .unset, .unset] 52 at_50 rfl rfl ?_
        refine Go.iload 54 at_52 rfl rfl ?_
        refine Go.bipush (32) 56 at_54 rfl rfl ?_
        refine Go.iand (flags &&& (32 : Int32)) 57 at_56 rfl rfl ?_
        have J67 : ∀ (xr : Int64), Go false p l e room_1 s m #[.long a, .long b, .long r, .long s_, .int flags] below meth c code maxLocals "law" ret Z a0 consts_1 "com/example/token_to_key/tokentokey/s3/PermissionEqualsPinLaw" (fun v vm' h' => v = some (.int 1)) vmi h 0 0 67 #[.val (.long a), .second, .val (.long b), .second, .val (.long r), .second, .val (.long s_), .second, .val (.int flags), .val (.int ra), .val (.int oa), .val (.int ((XT.ushr flags (1 : Int32)) &&& (3 : Int32))), .val (.long xa), .second, .unset, .unset, .unset, .unset, .unset, .unset, .unset, .unset, .unset] [.long xr] := by
          intro xr
          refine Go.lstore #[.val (.long a), .second, .val (.long b), .second, .val (.long r), .second, .val (.long s_), .second, .val (.int flags), .val (.int ra), .val (.int oa), .val (.int ((XT.ushr flags (1 : Int32)) &&& (3 : Int32))), .val (.long xa), .second, .val (.long xr), .second, .unset, .unset, .unset, .unset, .unset, .unset, .unset] 69 at_67 rfl rfl ?_
          refine Go.lload_n 70 at_69 rfl rfl ?_
          refine Go.invokestatic (rest := []) 0 [.long a] 73 at_70 rfl (W.1 0 rfl) (W.1 1 rfl) (W.1 2 rfl) (W.1 3 rfl) (by decide) (cMk W (x := a) (by decide)) (by decide +kernel : parseMethodDescriptor "(J)Ljava/lang/String;" = some ⟨[.long], (some (.object "java/lang/String"))⟩) rfl rfl rfl (nl rfl) (nl rfl) (nl rfl) (nl rfl) (nl rfl) (fun v1 vm1 h1 ⟨s16, rv, E1, T1⟩ c1 => ?_)
          subst rv
          refine Go.astore #[.val (.long a), .second, .val (.long b), .second, .val (.long r), .second, .val (.long s_), .second, .val (.int flags), .val (.int ra), .val (.int oa), .val (.int ((XT.ushr flags (1 : Int32)) &&& (3 : Int32))), .val (.long xa), .second, .val (.long xr), .second, .val (.ref s16), .unset, .unset, .unset, .unset, .unset, .unset] 75 at_73 rfl rfl rfl ?_
          refine Go.lload 77 at_75 rfl rfl ?_
          refine Go.invokestatic (rest := []) 0 [.long r] 80 at_77 rfl (W.1 0 rfl) (W.1 1 rfl) (W.1 2 rfl) (W.1 3 rfl) (by decide) (cMk W (x := r) (by decide)) (by decide +kernel : parseMethodDescriptor "(J)Ljava/lang/String;" = some ⟨[.long], (some (.object "java/lang/String"))⟩) rfl rfl rfl (nl rfl) (nl rfl) (nl rfl) (nl rfl) (nl rfl) (fun v2 vm2 h2 ⟨s17, rv, E2, T2⟩ c2 => ?_)
          subst rv
          refine Go.astore #[.val (.long a), .second, .val (.long b), .second, .val (.long r), .second, .val (.long s_), .second, .val (.int flags), .val (.int ra), .val (.int oa), .val (.int ((XT.ushr flags (1 : Int32)) &&& (3 : Int32))), .val (.long xa), .second, .val (.long xr), .second, .val (.ref s16), .val (.ref s17), .unset, .unset, .unset, .unset, .unset] 82 at_80 rfl rfl rfl ?_
          refine Go.lload 84 at_82 rfl rfl ?_
          refine Go.invokestatic (rest := []) 0 [.long xa] 87 at_84 rfl (W.1 0 rfl) (W.1 1 rfl) (W.1 2 rfl) (W.1 3 rfl) (by decide) (cMk W (x := xa) (by decide)) (by decide +kernel : parseMethodDescriptor "(J)Ljava/lang/String;" = some ⟨[.long], (some (.object "java/lang/String"))⟩) rfl rfl rfl (nl rfl) (nl rfl) (nl rfl) (nl rfl) (nl rfl) (fun v3 vm3 h3 ⟨s18, rv, E3, T3⟩ c3 => ?_)
          subst rv
          refine Go.astore #[.val (.long a), .second, .val (.long b), .second, .val (.long r), .second, .val (.long s_), .second, .val (.int flags), .val (.int ra), .val (.int oa), .val (.int ((XT.ushr flags (1 : Int32)) &&& (3 : Int32))), .val (.long xa), .second, .val (.long xr), .second, .val (.ref s16), .val (.ref s17), .val (.ref s18), .unset, .unset, .unset, .unset] 89 at_87 rfl rfl rfl ?_
          refine Go.lload 91 at_89 rfl rfl ?_
          refine Go.invokestatic (rest := []) 0 [.long xr] 94 at_91 rfl (W.1 0 rfl) (W.1 1 rfl) (W.1 2 rfl) (W.1 3 rfl) (by decide) (cMk W (x := xr) (by decide)) (by decide +kernel : parseMethodDescriptor "(J)Ljava/lang/String;" = some ⟨[.long], (some (.object "java/lang/String"))⟩) rfl rfl rfl (nl rfl) (nl rfl) (nl rfl) (nl rfl) (nl rfl) (fun v4 vm4 h4 ⟨s19, rv, E4, T4⟩ c4 => ?_)
          subst rv
          refine Go.astore #[.val (.long a), .second, .val (.long b), .second, .val (.long r), .second, .val (.long s_), .second, .val (.int flags), .val (.int ra), .val (.int oa), .val (.int ((XT.ushr flags (1 : Int32)) &&& (3 : Int32))), .val (.long xa), .second, .val (.long xr), .second, .val (.ref s16), .val (.ref s17), .val (.ref s18), .val (.ref s19), .unset, .unset, .unset] 96 at_94 rfl rfl rfl ?_
          refine Go.iload 98 at_96 rfl rfl ?_
          have f5 := T1.ext (Ext.tr E2 (Ext.tr E3 E4))
          have f6 := T2.ext (Ext.tr E3 E4)
          have J122 : ∀ (pa : Addr) (vmpa : Vm) (hpa : Heap), Ext h4 hpa → (Exa Z hpa pa "com/example/token_to_key/tokentokey/s3/Permission" ∧ Fld Z hpa pa "com/example/token_to_key/tokentokey/s3/Permission" "action" "Ljava/lang/String;" (.ref s16) ∧ Fld Z hpa pa "com/example/token_to_key/tokentokey/s3/Permission" "resource" "Ljava/lang/String;" (.ref s17) ∧ Fld Z hpa pa "com/example/token_to_key/tokentokey/s3/Permission" "mustBeAllowed" "Z" (.int ra)) → Go false p l e room_1 s m #[.long a, .long b, .long r, .long s_, .int flags] below meth c code maxLocals "law" ret Z a0 consts_1 "com/example/token_to_key/tokentokey/s3/PermissionEqualsPinLaw" (fun v vm' h' => v = some (.int 1)) vmpa hpa 25 51 122 #[.val (.long a), .second, .val (.long b), .second, .val (.long r), .second, .val (.long s_), .second, .val (.int flags), .val (.int ra), .val (.int oa), .val (.int ((XT.ushr flags (1 : Int32)) &&& (3 : Int32))), .val (.long xa), .second, .val (.long xr), .second, .val (.ref s16), .val (.ref s17), .val (.ref s18), .val (.ref s19), .unset, .unset, .unset] [.ref pa] := by
            intro pa vmpa hpa Epa Qpa
            have f7 := f5.ext Epa
            have f8 := f6.ext Epa
            have f9 := T3.ext (Ext.tr E4 Epa)
            have f10 := T4.ext Epa
            refine Go.astore #[.val (.long a), .second, .val (.long b), .second, .val (.long r), .second, .val (.long s_), .second, .val (.int flags), .val (.int ra), .val (.int oa), .val (.int ((XT.ushr flags (1 : Int32)) &&& (3 : Int32))), .val (.long xa), .second, .val (.long xr), .second, .val (.ref s16), .val (.ref s17), .val (.ref s18), .val (.ref s19), .val (.ref pa), .unset, .unset] 124 at_122 rfl rfl rfl ?_
            refine Go.iload 126 at_124 rfl rfl ?_
            refine Go.ifne 138 129 at_126 (by decide) rfl rfl (fun q11 => ?_) (fun q11 => ?_)
            · refine Go.iload 140 at_138 rfl rfl ?_
              refine Go.iconst (1) 141 at_140 rfl rfl ?_
              refine Go.if_icmpne 154 144 at_141 (by decide) rfl rfl (fun q12 => ?_) (fun q12 => ?_)
              · refine Go.iload 156 at_154 rfl rfl ?_
                have J180 : ∀ (pb : Addr) (vmpb : Vm) (hpb : Heap), Ext hpa hpb → (Exa Z hpb pb "com/example/token_to_key/tokentokey/s3/Permission" ∧ Fld Z hpb pb "com/example/token_to_key/tokentokey/s3/Permission" "action" "Ljava/lang/String;" (.ref s18) ∧ Fld Z hpb pb "com/example/token_to_key/tokentokey/s3/Permission" "resource" "Ljava/lang/String;" (.ref s19) ∧ Fld Z hpb pb "com/example/token_to_key/tokentokey/s3/Permission" "mustBeAllowed" "Z" (.int oa)) → Go false p l e room_1 s m #[.long a, .long b, .long r, .long s_, .int flags] below meth c code maxLocals "law" ret Z a0 consts_1 "com/example/token_to_key/tokentokey/s3/PermissionEqualsPinLaw" (fun v vm' h' => v = some (.int 1)) vmpb hpb 26 54 180 #[.val (.long a), .second, .val (.long b), .second, .val (.long r), .second, .val (.long s_), .second, .val (.int flags), .val (.int ra), .val (.int oa), .val (.int ((XT.ushr flags (1 : Int32)) &&& (3 : Int32))), .val (.long xa), .second, .val (.long xr), .second, .val (.ref s16), .val (.ref s17), .val (.ref s18), .val (.ref s19), .val (.ref pa), .unset, .unset] [.ref pb] := by
                  intro pb vmpb hpb Epb Qpb
                  have f13 := f7.ext Epb
                  have f14 := f8.ext Epb
                  have f15 := f9.ext Epb
                  have f16 := f10.ext Epb
                  have Qa : Exa Z hpb pa "com/example/token_to_key/tokentokey/s3/Permission" ∧ Fld Z hpb pa "com/example/token_to_key/tokentokey/s3/Permission" "action" "Ljava/lang/String;" (.ref s16) ∧ Fld Z hpb pa "com/example/token_to_key/tokentokey/s3/Permission" "resource" "Ljava/lang/String;" (.ref s17) ∧ Fld Z hpb pa "com/example/token_to_key/tokentokey/s3/Permission" "mustBeAllowed" "Z" (.int ra) := ⟨Qpa.1.ext Epb, Qpa.2.1.ext Epb, Qpa.2.2.1.ext Epb, Qpa.2.2.2.ext Epb⟩
                  refine Go.astore #[.val (.long a), .second, .val (.long b), .second, .val (.long r), .second, .val (.long s_), .second, .val (.int flags), .val (.int ra), .val (.int oa), .val (.int ((XT.ushr flags (1 : Int32)) &&& (3 : Int32))), .val (.long xa), .second, .val (.long xr), .second, .val (.ref s16), .val (.ref s17), .val (.ref s18), .val (.ref s19), .val (.ref pa), .val (.ref pb), .unset] 182 at_180 rfl rfl rfl ?_
                  have J213 : ∀ (vmj : Vm) (u : Int32), u = bi (mkV a = mkV xa ∧ mkV r = mkV xr ∧ ra = oa) → Go false p l e room_1 s m #[.long a, .long b, .long r, .long s_, .int flags] below meth c code maxLocals "law" ret Z a0 consts_1 "com/example/token_to_key/tokentokey/s3/PermissionEqualsPinLaw" (fun v vm' h' => v = some (.int 1)) vmj hpb 26 54 213 #[.val (.long a), .second, .val (.long b), .second, .val (.long r), .second, .val (.long s_), .second, .val (.int flags), .val (.int ra), .val (.int oa), .val (.int ((XT.ushr flags (1 : Int32)) &&& (3 : Int32))), .val (.long xa), .second, .val (.long xr), .second, .val (.ref s16), .val (.ref s17), .val (.ref s18), .val (.ref s19), .val (.ref pa), .val (.ref pb), .unset] [.int u] := by
                    intro vmj u hu
                    refine Go.istore #[.val (.long a), .second, .val (.long b), .second, .val (.long r), .second, .val (.long s_), .second, .val (.int flags), .val (.int ra), .val (.int oa), .val (.int ((XT.ushr flags (1 : Int32)) &&& (3 : Int32))), .val (.long xa), .second, .val (.long xr), .second, .val (.ref s16), .val (.ref s17), .val (.ref s18), .val (.ref s19), .val (.ref pa), .val (.ref pb), .val (.int u)] 215 at_213 rfl rfl ?_
                    refine Go.aload 217 at_215 rfl rfl rfl ?_
                    refine Go.aload 219 at_217 rfl rfl rfl ?_
                    refine Go.invokevirtual (rest := []) 0 pa [.ref pb] 222 at_219 rfl Qa.1 (W.1 58 rfl) (W.1 59 rfl) (fun s hs => notFace_of_selects (args := #[]) (mvT hs (W.1 61 rfl))) (W.1 61 rfl) (W.1 60 rfl) (W.1 44 rfl) (W.1 62 rfl) (by decide) (cPeEq W Qa Qpb f13 f14 f15 f16) (by decide +kernel : parseMethodDescriptor "(Ljava/lang/Object;)Z" = some ⟨[(.object "java/lang/Object")], (some .boolean)⟩) rfl rfl rfl (nl rfl) (nl rfl) (nl rfl) (nl rfl) (nl rfl) (fun v17 vm17 h17 ⟨rv, hh⟩ c17 => ?_)
                    subst rv hh
                    refine Go.iload 224 at_222 rfl rfl ?_
                    refine Go.if_icmpne 231 227 at_224 (by decide) rfl rfl (fun q18 => absurd hu.symm q18) (fun q18 => ?_)
                    refine Go.iconst (1) 228 at_227 rfl rfl ?_
                    refine Go.goto 232 at_228 (by decide) rfl ?_
                    exact Go.ireturn at_232 rfl rfl (by simp) (nl rfl) (nl rfl) (fun vm' ch => rfl)
                  refine Go.lload_n 183 at_182 rfl rfl ?_
                  refine Go.lload 185 at_183 rfl rfl ?_
                  refine Go.invokestatic (rest := []) 0 [.long a, .long xa] 188 at_185 rfl (W.1 69 rfl) (W.1 70 rfl) (W.1 2 rfl) (W.1 71 rfl) (by decide) (cSame W ) (by decide +kernel : parseMethodDescriptor "(JJ)Z" = some ⟨[.long, .long], (some .boolean)⟩) rfl rfl rfl (nl rfl) (nl rfl) (nl rfl) (nl rfl) (nl rfl) (fun v19 vm19 h19 ⟨rv, hh⟩ c19 => ?_)
                  subst rv hh
                  refine Go.ifeq 212 191 at_188 (by decide) rfl rfl (fun u0 => ?_) (fun u0 => ?_)
                  · refine Go.iconst (0) 213 at_212 rfl rfl ?_
                    exact J213 _ _ (bi_f (fun z => bi0.mp u0 z.1)).symm
                  · refine Go.lload 193 at_191 rfl rfl ?_
                    refine Go.lload 195 at_193 rfl rfl ?_
                    refine Go.invokestatic (rest := []) 0 [.long r, .long xr] 198 at_195 rfl (W.1 69 rfl) (W.1 70 rfl) (W.1 2 rfl) (W.1 71 rfl) (by decide) (cSame W ) (by decide +kernel : parseMethodDescriptor "(JJ)Z" = some ⟨[.long, .long], (some .boolean)⟩) rfl rfl rfl (nl rfl) (nl rfl) (nl rfl) (nl rfl) (nl rfl) (fun v20 vm20 h20 ⟨rv, hh⟩ c20 => ?_)
                    subst rv hh
                    refine Go.ifeq 212 201 at_198 (by decide) rfl rfl (fun u1 => ?_) (fun u1 => ?_)
                    · refine Go.iconst (0) 213 at_212 rfl rfl ?_
                      exact J213 _ _ (bi_f (fun z => bi0.mp u1 z.2.1)).symm
                    · refine Go.iload 203 at_201 rfl rfl ?_
                      refine Go.iload 205 at_203 rfl rfl ?_
                      refine Go.if_icmpne 212 208 at_205 (by decide) rfl rfl (fun u2 => ?_) (fun u2 => ?_)
                      · refine Go.iconst (0) 213 at_212 rfl rfl ?_
                        exact J213 _ _ (bi_f (fun z => u2 z.2.2)).symm
                      · refine Go.iconst (1) 209 at_208 rfl rfl ?_
                        refine Go.goto 213 at_209 (by decide) rfl ?_
                        exact J213 _ _ (bi_t ⟨Classical.not_not.mp (fun z => u0 (bi0.mpr z)), Classical.not_not.mp (fun z => u1 (bi0.mpr z)), u2⟩).symm
                refine Go.ifeq 173 159 at_156 (by decide) rfl rfl (fun bpb => ?_) (fun bpb => ?_)
                · refine Go.aload 175 at_173 rfl rfl rfl ?_
                  refine Go.aload 177 at_175 rfl rfl rfl ?_
                  subst bpb
                  refine Go.invokestatic (rest := []) 0 [.ref s18, .ref s19] 180 at_177 rfl (W.1 66 rfl) (W.1 67 rfl) (W.1 44 rfl) (W.1 68 rfl) (by decide) (cUnless W ) (by decide +kernel : parseMethodDescriptor "(Ljava/lang/String;Ljava/lang/String;)Lcom/example/token_to_key/tokentokey/s3/Permission;" = some ⟨[(.object "java/lang/String"), (.object "java/lang/String")], (some (.object "com/example/token_to_key/tokentokey/s3/Permission"))⟩) rfl rfl rfl (nl rfl) (nl rfl) (nl rfl) (nl rfl) (nl rfl) (fun v21 vm21 h21 ⟨pa, rv, E21, Q21⟩ c21 => ?_)
                  subst rv
                  refine Go.mono (k' := 26) (n' := 54) (nl rfl) (nl rfl) ?_
                  exact J180 _ _ _ E21 Q21
                · obtain rfl : oa = 1 := hoa.resolve_left bpb
                  refine Go.new 162 at_159 rfl (W.1 42 rfl) (W.1 43 rfl) (W.1 44 rfl) (nl rfl) (nl rfl) (fun pb h22 e22 E22 ⟨A22, D22⟩ S22 z22 c22 => ?_)
                  refine Go.dup 163 at_162 rfl rfl ?_
                  refine Go.aload 165 at_163 rfl rfl rfl ?_
                  refine Go.aload 167 at_165 rfl rfl rfl ?_
                  have f23 := D22 (Or.inr (W.1 53 rfl)) (ty := (.object "java/lang/String")) (by decide)
                  have f24 := D22 (Or.inr (W.1 55 rfl)) (ty := (.object "java/lang/String")) (by decide)
                  have f25 := D22 (Or.inr (W.1 57 rfl)) (ty := .boolean) (by decide)
                  refine Go.invokespecial (rest := [.ref pb]) 1 pb [.ref s18, .ref s19] 170 at_167 rfl rfl (W.1 45 rfl) (W.1 46 rfl) (W.1 44 rfl) (W.1 47 rfl) (by decide) (cPeInit2 W  A22 f23 f24 f25 S22 z22) (by decide +kernel : parseMethodDescriptor "(Ljava/lang/String;Ljava/lang/String;)V" = some ⟨[(.object "java/lang/String"), (.object "java/lang/String")], none⟩) rfl rfl rfl (nl rfl) (nl rfl) (nl rfl) (nl rfl) (nl rfl) (fun v26 vm26 h26 ⟨rv, K35, Q35⟩ c26 => ?_)
                  subst rv
                  have EE35 := Ext.kp1 E22 K35 e22
                  refine Go.goto 180 at_170 (by decide) rfl ?_
                  refine Go.mono (k' := 26) (n' := 54) (nl rfl) (nl rfl) ?_
                  exact J180 _ _ _ EE35 Q35
              · refine Go.aload 146 at_144 rfl rfl rfl ?_
                refine Go.astore #[.val (.long a), .second, .val (.long b), .second, .val (.long r), .second, .val (.long s_), .second, .val (.int flags), .val (.int ra), .val (.int oa), .val (.int ((XT.ushr flags (1 : Int32)) &&& (3 : Int32))), .val (.long xa), .second, .val (.long xr), .second, .val (.ref s16), .val (.ref s17), .val (.ref s18), .val (.ref s19), .val (.ref pa), .val (.ref s16), .unset] 148 at_146 rfl rfl rfl ?_
                refine Go.iconst (0) 149 at_148 rfl rfl ?_
                refine Go.istore #[.val (.long a), .second, .val (.long b), .second, .val (.long r), .second, .val (.long s_), .second, .val (.int flags), .val (.int ra), .val (.int oa), .val (.int ((XT.ushr flags (1 : Int32)) &&& (3 : Int32))), .val (.long xa), .second, .val (.long xr), .second, .val (.ref s16), .val (.ref s17), .val (.ref s18), .val (.ref s19), .val (.ref pa), .val (.ref s16), .val (.int (0 : Int32))] 151 at_149 rfl rfl ?_
                refine Go.goto 215 at_151 (by decide) rfl ?_
                refine Go.aload 217 at_215 rfl rfl rfl ?_
                refine Go.aload 219 at_217 rfl rfl rfl ?_
                refine Go.invokevirtual (rest := []) 0 pa [.ref s16] 222 at_219 rfl Qpa.1 (W.1 58 rfl) (W.1 59 rfl) (fun s hs => notFace_of_selects (args := #[]) (mvT hs (W.1 61 rfl))) (W.1 61 rfl) (W.1 60 rfl) (W.1 44 rfl) (W.1 62 rfl) (by decide) (cPeEqStr W f7.exa) (by decide +kernel : parseMethodDescriptor "(Ljava/lang/Object;)Z" = some ⟨[(.object "java/lang/Object")], (some .boolean)⟩) rfl rfl rfl (nl rfl) (nl rfl) (nl rfl) (nl rfl) (nl rfl) (fun v27 vm27 h27 ⟨rv, hh⟩ c27 => ?_)
                subst rv hh
                refine Go.iload 224 at_222 rfl rfl ?_
                refine Go.if_icmpne 231 227 at_224 (by decide) rfl rfl (fun q28 => absurd rfl q28) (fun q28 => ?_)
                refine Go.iconst (1) 228 at_227 rfl rfl ?_
                refine Go.goto 232 at_228 (by decide) rfl ?_
                exact Go.ireturn at_232 rfl rfl (by simp) (nl rfl) (nl rfl) (fun vm' ch => rfl)
            · refine Go.aconst_null 130 at_129 rfl ?_
              refine Go.astore #[.val (.long a), .second, .val (.long b), .second, .val (.long r), .second, .val (.long s_), .second, .val (.int flags), .val (.int ra), .val (.int oa), .val (.int ((XT.ushr flags (1 : Int32)) &&& (3 : Int32))), .val (.long xa), .second, .val (.long xr), .second, .val (.ref s16), .val (.ref s17), .val (.ref s18), .val (.ref s19), .val (.ref pa), .val (.null), .unset] 132 at_130 rfl rfl rfl ?_
              refine Go.iconst (0) 133 at_132 rfl rfl ?_
              refine Go.istore #[.val (.long a), .second, .val (.long b), .second, .val (.long r), .second, .val (.long s_), .second, .val (.int flags), .val (.int ra), .val (.int oa), .val (.int ((XT.ushr flags (1 : Int32)) &&& (3 : Int32))), .val (.long xa), .second, .val (.long xr), .second, .val (.ref s16), .val (.ref s17), .val (.ref s18), .val (.ref s19), .val (.ref pa), .val (.null), .val (.int (0 : Int32))] 135 at_133 rfl rfl ?_
              refine Go.goto 215 at_135 (by decide) rfl ?_
              refine Go.aload 217 at_215 rfl rfl rfl ?_
              refine Go.aload 219 at_217 rfl rfl rfl ?_
              refine Go.invokevirtual (rest := []) 0 pa [.null] 222 at_219 rfl Qpa.1 (W.1 58 rfl) (W.1 59 rfl) (fun s hs => notFace_of_selects (args := #[]) (mvT hs (W.1 61 rfl))) (W.1 61 rfl) (W.1 60 rfl) (W.1 44 rfl) (W.1 62 rfl) (by decide) (cPeEqNull W ) (by decide +kernel : parseMethodDescriptor "(Ljava/lang/Object;)Z" = some ⟨[(.object "java/lang/Object")], (some .boolean)⟩) rfl rfl rfl (nl rfl) (nl rfl) (nl rfl) (nl rfl) (nl rfl) (fun v29 vm29 h29 ⟨rv, hh⟩ c29 => ?_)
              subst rv hh
              refine Go.iload 224 at_222 rfl rfl ?_
              refine Go.if_icmpne 231 227 at_224 (by decide) rfl rfl (fun q30 => absurd rfl q30) (fun q30 => ?_)
              refine Go.iconst (1) 228 at_227 rfl rfl ?_
              refine Go.goto 232 at_228 (by decide) rfl ?_
              exact Go.ireturn at_232 rfl rfl (by simp) (nl rfl) (nl rfl) (fun vm' ch => rfl)
          refine Go.ifeq 115 101 at_98 (by decide) rfl rfl (fun bpa => ?_) (fun bpa => ?_)
          · refine Go.aload 117 at_115 rfl rfl rfl ?_
            refine Go.aload 119 at_117 rfl rfl rfl ?_
            subst bpa
            refine Go.invokestatic (rest := []) 0 [.ref s16, .ref s17] 122 at_119 rfl (W.1 66 rfl) (W.1 67 rfl) (W.1 44 rfl) (W.1 68 rfl) (by decide) (cUnless W ) (by decide +kernel : parseMethodDescriptor "(Ljava/lang/String;Ljava/lang/String;)Lcom/example/token_to_key/tokentokey/s3/Permission;" = some ⟨[(.object "java/lang/String"), (.object "java/lang/String")], (some (.object "com/example/token_to_key/tokentokey/s3/Permission"))⟩) rfl rfl rfl (nl rfl) (nl rfl) (nl rfl) (nl rfl) (nl rfl) (fun v31 vm31 h31 ⟨pa, rv, E31, Q31⟩ c31 => ?_)
            subst rv
            refine Go.mono (k' := 25) (n' := 51) (nl rfl) (nl rfl) ?_
            exact J122 _ _ _ E31 Q31
          · obtain rfl : ra = 1 := hra.resolve_left bpa
            refine Go.new 104 at_101 rfl (W.1 42 rfl) (W.1 43 rfl) (W.1 44 rfl) (nl rfl) (nl rfl) (fun pb h32 e32 E32 ⟨A32, D32⟩ S32 z32 c32 => ?_)
            refine Go.dup 105 at_104 rfl rfl ?_
            refine Go.aload 107 at_105 rfl rfl rfl ?_
            refine Go.aload 109 at_107 rfl rfl rfl ?_
            have f33 := D32 (Or.inr (W.1 53 rfl)) (ty := (.object "java/lang/String")) (by decide)
            have f34 := D32 (Or.inr (W.1 55 rfl)) (ty := (.object "java/lang/String")) (by decide)
            have f35 := D32 (Or.inr (W.1 57 rfl)) (ty := .boolean) (by decide)
            refine Go.invokespecial (rest := [.ref pb]) 1 pb [.ref s16, .ref s17] 112 at_109 rfl rfl (W.1 45 rfl) (W.1 46 rfl) (W.1 44 rfl) (W.1 47 rfl) (by decide) (cPeInit2 W  A32 f33 f34 f35 S32 z32) (by decide +kernel : parseMethodDescriptor "(Ljava/lang/String;Ljava/lang/String;)V" = some ⟨[(.object "java/lang/String"), (.object "java/lang/String")], none⟩) rfl rfl rfl (nl rfl) (nl rfl) (nl rfl) (nl rfl) (nl rfl) (fun v36 vm36 h36 ⟨rv, K45, Q45⟩ c36 => ?_)
            subst rv
            have EE45 := Ext.kp1 E32 K45 e32
            refine Go.goto 122 at_112 (by decide) rfl ?_
            refine Go.mono (k' := 25) (n' := 51) (nl rfl) (nl rfl) ?_
            exact J122 _ _ _ EE45 Q45
        refine Go.ifeq 65 60 at_57 (by decide) rfl rfl (fun q37 => ?_) (fun q37 => ?_)
        · refine Go.lload 67 at_65 rfl rfl ?_
          exact J67 _
        · refine Go.lload 62 at_60 rfl rfl ?_
          refine Go.goto 67 at_62 (by decide) rfl ?_
          exact J67 _
      refine Go.ifeq 49 45 at_42 (by decide) rfl rfl (fun q38 => ?_) (fun q38 => ?_)
      · refine Go.lload_n 50 at_49 rfl rfl ?_
        exact J50 _
      · refine Go.lload_n 46 at_45 rfl rfl ?_
        refine Go.goto 50 at_46 (by decide) rfl ?_
        exact J50 _
    refine Go.ifne 27 23 at_20 (by decide) rfl rfl (fun q39 => ?_) (fun q39 => ?_)
    · refine Go.iconst (0) 28 at_27 rfl rfl ?_
      exact J28 _ (Or.inl rfl)
    · refine Go.iconst (1) 24 at_23 rfl rfl ?_
      refine Go.goto 28 at_24 (by decide) rfl ?_
      exact J28 _ (Or.inr rfl)
  refine Go.ifne 12 8 at_5 (by decide) rfl rfl (fun q40 => ?_) (fun q40 => ?_)
  · refine Go.iconst (0) 13 at_12 rfl rfl ?_
    exact J13 _ (Or.inl rfl)
  · refine Go.iconst (1) 9 at_8 rfl rfl ?_
    refine Go.goto 13 at_9 (by decide) rfl ?_
    exact J13 _ (Or.inr rfl)
set_option maxRecDepth 65536 in
theorem comes_1 {Post : Tables → Env → Array Value → State → Outcome → State → Prop} (hpost : ∀ tb e args s v u, (limb_1_1.after args s (.returned v) u = true ∧ limb_1_2.after args s (.returned v) u = true ∧ True) → Jvm.D.FramedW s (.returned v) u (Jvm.fieldLocs frame_1_writes args s ++ Jvm.arrayLocs frame_1_arrays args s ++ Jvm.staticLocs frame_1_statics s) 40 1216 → Post tb e args s (.returned v) u) :
    ArmFor flags0 classFile x code maxLocals ret World_1 tables_1 room_1 Calls_1 rest_1 Pre_1 Post := by
  intro l hfl _ _ p e ha hc hk s m args below hf hA hF happ hP
  obtain ⟨hcalls, hrest, hpre⟩ := hP
  obtain ⟨-, -, -, hnamed, -, -, -, hat⟩ := (Spec.applies_iff hf).mp happ
  obtain ⟨hg, hn⟩ := and_e (Cond.before_iff.mp (show (Jvm.Cond.and given_1 narrow_1).before args s = true from hpre))
  obtain ⟨g0, r0⟩ := and_e hg
  obtain ⟨g1, r1⟩ := and_e r0
  obtain ⟨g2, r2⟩ := and_e r1
  obtain ⟨g3, r3⟩ := and_e r2
  obtain ⟨g4, r4⟩ := and_e r3
  obtain ⟨w0, w1, w2, w3, w4, rfl⟩ : ∃ w0 w1 w2 w3 w4 : Value, args = #[w0, w1, w2, w3, w4] := by
    have hs : args.size = 5 := by simpa [Cond.value, given_1] using g0
    obtain ⟨L⟩ := args
    match L, hs with
    | [w0, w1, w2, w3, w4], _ => exact ⟨w0, w1, w2, w3, w4, rfl⟩
  have hw := fun d (hd : d ∈ tables_1) => atoms_spec (ws := Jvm.Cond.code x code maxLocals ret :: tables_1) hat d (List.mem_cons_of_mem _ hd)
  obtain ⟨hsets, hown0⟩ := atoms_of _ (rest_1_c_eq ▸ (show rest_1_c.before _ s = true from hrest))
  obtain ⟨i0, ei0⟩ := isL_v g1
  obtain rfl : w0 = (.long i0) := Option.some.inj ei0
  obtain ⟨i1, ei1⟩ := isL_v g2
  obtain rfl : w1 = (.long i1) := Option.some.inj ei1
  obtain ⟨i2, ei2⟩ := isL_v g3
  obtain rfl : w2 = (.long i2) := Option.some.inj ei2
  obtain ⟨i3, ei3⟩ := isL_v g4
  obtain rfl : w3 = (.long i3) := Option.some.inj ei3
  obtain ⟨i4, ei4⟩ := is_v r4
  obtain rfl : w4 = (.int i4) := Option.some.inj ei4
  have n5 := not_v (Cond.before_iff.mp (hsets _ (List.mem_of_getElem? (i := 2) rfl)))
  obtain ⟨zz, ez⟩ := is_v (Cond.before_iff.mp (hsets _ (List.mem_of_getElem? (i := 1) rfl)))
  have Sz : Sta s s.heap "java/lang/String" "COMPACT_STRINGS" "Z" (.int zz) := Sta.start ez (Or.inl (hsets _ (List.mem_of_getElem? (i := 0) rfl)))
  obtain ⟨vf, ef, rf⟩ := isR_v (Cond.before_iff.mp (hsets _ (List.mem_of_getElem? (i := 8) rfl)))
  have Sf : Sta s s.heap "jdk/internal/util/Preconditions" "SIOOBE_FORMATTER" "Ljava/util/function/BiFunction;" vf := Sta.start ef (Or.inl (hsets _ (List.mem_of_getElem? (i := 7) rfl)))
  have cz : ¬ (zz = (0 : Int32)) := gotF (Cond.eq_ints ez (Term.int_eval (0))) n5
  have W : Wd s #[.long i0, .long i1, .long i2, .long i3, .int i4] := ⟨fun k _ q => hw _ (List.mem_of_getElem? q), ⟨zz, Sz, cz⟩, vf, Sf, rf⟩
  have hEW : EW s #[.long i0, .long i1, .long i2, .long i3, .int i4] consts_1 := (EW.cons (W.1 39 rfl) (by decide +kernel) EW.nil)
  have H : CHv s consts_1 s.vm s.heap := CHv.start hEW (fun p hp => hcalls.1 p hp) (hsets _ (List.mem_of_getElem? (i := 2) rfl)) (W.1 28 rfl) (W.1 10 rfl)
  obtain ⟨n, o, h1, h2, h3, v, L, rfl, q1, -, -, N, hq, hnw⟩ := cLaw W (a := i0) (b := i1) (r := i2) (s_ := i3) (flags := i4) (l := l) tables_1 p e ha hc hk s m _ below hf ((Spec.applies_iff_loose hf).mp happ).1 ⟨rfl, State.Warmed39.refl s, rfl, CHr.refl H, Ext.rfl' _, hEW⟩ trivial
  subst q1
  obtain ⟨a1, a2, a3, a4⟩ := hq
  refine ⟨n, _, h1, h2, h3, hpost _ _ _ _ _ _ ⟨Cond.after_iff.mpr rfl, Cond.after_iff.mpr (eq_i res_at (Term.int_eval (1)) rfl), trivial⟩ ⟨a1, a2, a3, (a4.sift fun y hy => Or.inr (N y hy)).mono (by decide) (by decide)⟩⟩
theorem main_1_1 : Claimed_1_1 := comes_1 fun _ _ _ _ _ _ h hF => ⟨h.1, hF⟩
theorem main_1_2 : Claimed_1_2 := comes_1 fun _ _ _ _ _ _ h hF => ⟨h.2.1, hF⟩
end Jvm.Pilot.@@N@@
namespace Jvm.Pilot.@@N@@
open Jvm Jvm.ClassFile Sem Op Lib Jvm.Free Jvm.Stand Jvm.Pilot.@@N@@.Jvm.D
/-! MADE BY PROGRAM (witnessworld.py) out of the Statement's table words and the real class files: 20 classes; the members and pool entries that the words name. The judged class is class 1, her method 4. -/
namespace start1
open Jvm.ClassFile
def u (s : String) : CpInfo := .utf8 (stringToUtf16 s)
/-- a pool by its gaps: so many unusable entries, then the entry; so many at the end -/
def gap : Nat → List CpInfo → List CpInfo
  | 0, r => r
  | n + 1, r => .unusable :: gap n r
def poolList (es : List (Nat × CpInfo)) (last : Nat) : List CpInfo := es.foldr (fun e r => gap e.1 (e.2 :: r)) (gap last [])
def pool (es : List (Nat × CpInfo)) (last : Nat) : Array CpInfo := ⟨poolList es last⟩
def fileOf (pool : Array CpInfo) (this : Nat) (attrs : Array Attribute := #[]) (ms : Array MethodInfo := #[]) (fl : Nat := 33) (sup : Nat := 0) (ifs : Array Nat := #[]) (fds : Array FieldInfo := #[]) : ClassFile where
  minorVersion := 0
  majorVersion := 65
  constantPool := pool
  accessFlags := fl
  thisClass := this
  superClass := sup
  interfaces := ifs
  fields := fds
  methods := ms
  attributes := attrs
def plain (name : String) (sup : Option ClassId) : Class where
  name := name
  kind := .ordinary
  loader := none
  accessFlags := 33
  super := sup
  interfaces := #[]
  cf := none
  fields := #[]
  methods := #[]
  instanceTypes := #[]
  staticTypes := #[]
  resolved := #[]
  callSites := []
  init := .initialized
  statics := none
  mirror := none

def pool0 : Array CpInfo := pool [(5, u "<init>"), (0, u "()V"), (1, .class_ 10), (1, u "java/lang/Object")] 113

def k0c0 : Code := { maxStack := 0, maxLocals := 1, code := object_method_1_code, exceptionTable := #[], attributes := #[] }
def k0m0 : Method := { name := "<init>", desc := "()V", sig := { parameters := [], returnType := none }, accessFlags := 1, code := some k0c0 }
/-- java/lang/Object -/
def k0 : Class := { plain "java/lang/Object" none with
  accessFlags := 33
  interfaces := #[]
  cf := some (fileOf pool0 8 #[] #[{ accessFlags := 1, nameIndex := 5, descriptorIndex := 6, attributes := #[] }] 33 0 #[] #[])
  fields := #[]
  methods := #[k0m0]
  instanceTypes := #[]
  staticTypes := #[]
  resolved := Array.replicate 124 none
  statics := none }

def pool1 : Array CpInfo := pool [(2, .class_ 4), (1, u "java/lang/Object"), (0, u "<init>"), (0, u "()V"), (0, .long 255), (1, .long 3), (1, .methodref 12 13), (0, .class_ 14), (0, .nameAndType 15 16), (0, u "com/example/token_to_key/tokentokey/s3/PermissionEqualsPinLaw"), (0, u "ch"), (0, u "(JI)C"), (0, .class_ 18), (0, u "java/lang/String"), (0, .methodref 17 20), (0, .nameAndType 5 21), (0, u "([C)V"), (0, .methodref 12 23), (0, .nameAndType 24 25), (0, u "mk"), (0, u "(J)Ljava/lang/String;"), (0, .class_ 27), (0, u "com/example/token_to_key/tokentokey/s3/Permission"), (0, .methodref 26 29), (0, .nameAndType 5 30), (0, u "(Ljava/lang/String;Ljava/lang/String;)V"), (0, .methodref 26 32), (0, .nameAndType 33 34), (0, u "unlessDenied"), (0, u "(Ljava/lang/String;Ljava/lang/String;)Lcom/example/token_to_key/tokentokey/s3/Permission;"), (0, .methodref 12 36), (0, .nameAndType 37 38), (0, u "sameDrawn"), (0, u "(JJ)Z"), (0, .methodref 26 40), (0, .nameAndType 41 42), (0, u "equals"), (0, u "(Ljava/lang/Object;)Z"), (3, u "law"), (0, u "(JJJJI)Z")] 2

def k1m0 : Method := { name := "<init>", desc := "()V", sig := { parameters := [], returnType := none }, accessFlags := 1, code := none }
def k1c1 : Code := { maxStack := 5, maxLocals := 3, code := method_2_code, exceptionTable := #[], attributes := #[] }
def k1m1 : Method := { name := "ch", desc := "(JI)C", sig := { parameters := [.long, .int], returnType := some .char }, accessFlags := 10, code := some k1c1 }
def k1c2 : Code := { maxStack := 6, maxLocals := 6, code := method_3_code, exceptionTable := #[], attributes := #[] }
def k1m2 : Method := { name := "mk", desc := "(J)Ljava/lang/String;", sig := { parameters := [.long], returnType := some (.object "java/lang/String") }, accessFlags := 10, code := some k1c2 }
def k1c3 : Code := { maxStack := 4, maxLocals := 7, code := method_4_code, exceptionTable := #[], attributes := #[] }
def k1m3 : Method := { name := "sameDrawn", desc := "(JJ)Z", sig := { parameters := [.long, .long], returnType := some .boolean }, accessFlags := 10, code := some k1c3 }
def k1c4 : Code := { maxStack := 4, maxLocals := 23, code := code, exceptionTable := #[], attributes := #[] }
def k1m4 : Method := { name := "law", desc := "(JJJJI)Z", sig := { parameters := [.long, .long, .long, .long, .int], returnType := some .boolean }, accessFlags := 9, code := some k1c4 }
/-- com/example/token_to_key/tokentokey/s3/PermissionEqualsPinLaw -/
def k1 : Class := { plain "com/example/token_to_key/tokentokey/s3/PermissionEqualsPinLaw" (some 0) with
  accessFlags := 49
  interfaces := #[]
  cf := some (fileOf pool1 12 #[] #[{ accessFlags := 1, nameIndex := 5, descriptorIndex := 6, attributes := #[] }, { accessFlags := 10, nameIndex := 15, descriptorIndex := 16, attributes := #[] }, { accessFlags := 10, nameIndex := 24, descriptorIndex := 25, attributes := #[] }, { accessFlags := 10, nameIndex := 37, descriptorIndex := 38, attributes := #[] }, { accessFlags := 9, nameIndex := 46, descriptorIndex := 47, attributes := #[] }] 49 2 #[] #[])
  fields := #[]
  methods := #[k1m0, k1m1, k1m2, k1m3, k1m4]
  instanceTypes := #[]
  staticTypes := #[]
  resolved := Array.replicate 50 none
  statics := none }

def pool2 : Array CpInfo := pool [(1, .class_ 2), (0, u "java/io/Serializable"), (0, .class_ 4), (0, u "java/lang/Object")] 2

/-- java/io/Serializable -/
def k2 : Class := { plain "java/io/Serializable" (some 0) with
  accessFlags := 1537
  interfaces := #[]
  cf := some (fileOf pool2 1 #[] #[] 1537 3 #[] #[])
  fields := #[]
  methods := #[]
  instanceTypes := #[]
  staticTypes := #[]
  resolved := Array.replicate 7 none
  statics := none }

def pool3 : Array CpInfo := pool [(1, .class_ 2), (0, u "java/lang/Comparable"), (0, .class_ 4), (0, u "java/lang/Object")] 7

/-- java/lang/Comparable -/
def k3 : Class := { plain "java/lang/Comparable" (some 0) with
  accessFlags := 1537
  interfaces := #[]
  cf := some (fileOf pool3 1 #[] #[] 1537 3 #[] #[])
  fields := #[]
  methods := #[]
  instanceTypes := #[]
  staticTypes := #[]
  resolved := Array.replicate 12 none
  statics := none }

def pool4 : Array CpInfo := pool [(2, .class_ 4), (1, u "java/lang/CharSequence"), (42, .class_ 48), (0, u "java/lang/CharSequence$1CodePointIterator"), (10, .class_ 60), (0, u "java/lang/CharSequence$1CharIterator"), (5, .class_ 67), (0, u "java/lang/Object")] 63

/-- java/lang/CharSequence -/
def k4 : Class := { plain "java/lang/CharSequence" (some 0) with
  accessFlags := 1537
  interfaces := #[]
  cf := some (fileOf pool4 2 #[.nestMembers #[47, 59]] #[] 1537 66 #[] #[])
  fields := #[]
  methods := #[]
  instanceTypes := #[]
  staticTypes := #[]
  resolved := Array.replicate 131 none
  statics := none }

def pool5 : Array CpInfo := pool [(1, .class_ 2), (0, u "java/lang/constant/Constable"), (0, .class_ 4), (0, u "java/lang/Object")] 6

/-- java/lang/constant/Constable -/
def k5 : Class := { plain "java/lang/constant/Constable" (some 0) with
  accessFlags := 1537
  interfaces := #[]
  cf := some (fileOf pool5 1 #[] #[] 1537 3 #[] #[])
  fields := #[]
  methods := #[]
  instanceTypes := #[]
  staticTypes := #[]
  resolved := Array.replicate 11 none
  statics := none }

def pool6 : Array CpInfo := pool [(1, .class_ 2), (0, u "java/lang/constant/ConstantDesc"), (0, .class_ 4), (0, u "java/lang/Object")] 32

/-- java/lang/constant/ConstantDesc -/
def k6 : Class := { plain "java/lang/constant/ConstantDesc" (some 0) with
  accessFlags := 1537
  interfaces := #[]
  cf := some (fileOf pool6 1 #[] #[] 1537 3 #[] #[])
  fields := #[]
  methods := #[]
  instanceTypes := #[]
  staticTypes := #[]
  resolved := Array.replicate 37 none
  statics := none }

def pool7 : Array CpInfo := pool [(1, .methodref 2 3), (0, .class_ 4), (0, .nameAndType 5 6), (0, u "java/lang/Object"), (0, u "<init>"), (0, u "()V"), (0, .string 8), (0, u ""), (0, .fieldref 10 11), (0, .class_ 12), (0, .nameAndType 13 14), (0, u "java/lang/String"), (0, u "value"), (0, u "[B"), (0, .fieldref 10 16), (0, .nameAndType 17 18), (0, u "coder"), (0, u "B"), (2, u "hash"), (0, u "I"), (2, u "hashIsZero"), (0, u "Z"), (0, .methodref 10 28), (0, .nameAndType 5 29), (0, u "([CIILjava/lang/Void;)V"), (8, .fieldref 10 39), (0, .nameAndType 40 26), (0, u "COMPACT_STRINGS"), (1, .class_ 44), (1, u "java/lang/StringUTF16"), (0, u "compress"), (1, .methodref 42 48), (0, .nameAndType 49 50), (0, u "coderFromArrayLen"), (0, u "([BI)B"), (56, .class_ 109), (1, u "java/lang/StringLatin1"), (67, .methodref 42 178), (0, .nameAndType 45 179), (0, u "([CII)[B"), (361, .methodref 107 542), (0, .nameAndType 543 544), (0, u "equals"), (0, u "([B[B)Z"), (28, u "(Ljava/lang/Object;)Z"), (1, .class_ 576), (0, u "java/lang/CharSequence"), (22, u "CASE_INSENSITIVE_ORDER"), (0, u "Ljava/util/Comparator;"), (409, u "([C)V"), (90, u "serialPersistentFields"), (0, u "[Ljava/io/ObjectStreamField;"), (0, .class_ 1104), (0, u "java/lang/String$CaseInsensitiveComparator"), (1, .class_ 1107), (0, u "java/io/Serializable"), (0, .class_ 1109), (0, u "java/lang/Comparable"), (0, .class_ 1111), (0, u "java/lang/constant/Constable"), (0, .class_ 1113), (0, u "java/lang/constant/ConstantDesc"), (2, u "serialVersionUID"), (0, u "J"), (3, u "REPL"), (0, u "C"), (2, u "LATIN1"), (1, u "UTF16")] 323

def k7m0 : Method := { name := "<init>", desc := "()V", sig := { parameters := [], returnType := none }, accessFlags := 1, code := none }
def k7c1 : Code := { maxStack := 5, maxLocals := 2, code := jdk_42_method_3_code, exceptionTable := #[], attributes := #[] }
def k7m1 : Method := { name := "<init>", desc := "([C)V", sig := { parameters := [(.array .char)], returnType := none }, accessFlags := 1, code := some k7c1 }
def k7c2 : Code := { maxStack := 2, maxLocals := 3, code := jdk_42_method_66_code, exceptionTable := #[], attributes := #[] }
def k7m2 : Method := { name := "equals", desc := "(Ljava/lang/Object;)Z", sig := { parameters := [(.object "java/lang/Object")], returnType := some .boolean }, accessFlags := 1, code := some k7c2 }
def k7c3 : Code := { maxStack := 4, maxLocals := 6, code := jdk_42_method_149_code, exceptionTable := #[], attributes := #[] }
def k7m3 : Method := { name := "<init>", desc := "([CIILjava/lang/Void;)V", sig := { parameters := [(.array .char), .int, .int, (.object "java/lang/Void")], returnType := none }, accessFlags := 2, code := some k7c3 }
/-- java/lang/String -/
def k7 : Class := { plain "java/lang/String" (some 0) with
  accessFlags := 49
  interfaces := #[2, 3, 4, 5, 6]
  cf := some (fileOf pool7 10 #[.nestMembers #[1103]] #[{ accessFlags := 1, nameIndex := 5, descriptorIndex := 6, attributes := #[] }, { accessFlags := 1, nameIndex := 5, descriptorIndex := 1010, attributes := #[] }, { accessFlags := 1, nameIndex := 543, descriptorIndex := 573, attributes := #[] }, { accessFlags := 2, nameIndex := 5, descriptorIndex := 29, attributes := #[] }] 49 2 #[1106, 1108, 575, 1110, 1112] #[{ accessFlags := 18, nameIndex := 13, descriptorIndex := 14, attributes := #[] }, { accessFlags := 18, nameIndex := 17, descriptorIndex := 18, attributes := #[] }, { accessFlags := 2, nameIndex := 21, descriptorIndex := 22, attributes := #[] }, { accessFlags := 2, nameIndex := 25, descriptorIndex := 26, attributes := #[] }, { accessFlags := 26, nameIndex := 1116, descriptorIndex := 1117, attributes := #[] }, { accessFlags := 24, nameIndex := 40, descriptorIndex := 26, attributes := #[] }, { accessFlags := 26, nameIndex := 1101, descriptorIndex := 1102, attributes := #[] }, { accessFlags := 26, nameIndex := 1121, descriptorIndex := 1122, attributes := #[] }, { accessFlags := 25, nameIndex := 599, descriptorIndex := 600, attributes := #[] }, { accessFlags := 24, nameIndex := 1125, descriptorIndex := 18, attributes := #[] }, { accessFlags := 24, nameIndex := 1127, descriptorIndex := 18, attributes := #[] }])
  fields := #[{ name := "value", type := (.array .byte), accessFlags := 18, slot := 0, constantValue := 0 }, { name := "coder", type := .byte, accessFlags := 18, slot := 1, constantValue := 0 }, { name := "hash", type := .int, accessFlags := 2, slot := 2, constantValue := 0 }, { name := "hashIsZero", type := .boolean, accessFlags := 2, slot := 3, constantValue := 0 }, { name := "serialVersionUID", type := .long, accessFlags := 26, slot := 0, constantValue := 0 }, { name := "COMPACT_STRINGS", type := .boolean, accessFlags := 24, slot := 1, constantValue := 0 }, { name := "serialPersistentFields", type := (.array (.object "java/io/ObjectStreamField")), accessFlags := 26, slot := 2, constantValue := 0 }, { name := "REPL", type := .char, accessFlags := 26, slot := 3, constantValue := 0 }, { name := "CASE_INSENSITIVE_ORDER", type := (.object "java/util/Comparator"), accessFlags := 25, slot := 4, constantValue := 0 }, { name := "LATIN1", type := .byte, accessFlags := 24, slot := 5, constantValue := 0 }, { name := "UTF16", type := .byte, accessFlags := 24, slot := 6, constantValue := 0 }]
  methods := #[k7m0, k7m1, k7m2, k7m3]
  instanceTypes := #[(.array .byte), .byte, .int, .boolean]
  staticTypes := #[.long, .boolean, (.array (.object "java/io/ObjectStreamField")), .char, (.object "java/util/Comparator"), .byte, .byte]
  resolved := Array.replicate 1451 none
  statics := some 0 }

def pool8 : Array CpInfo := pool [(6, .class_ 8), (1, u "java/lang/Object"), (0, u "<init>"), (0, u "()V"), (1, .class_ 14), (1, u "java/lang/StringUTF16"), (31, u "$assertionsDisabled"), (0, u "Z"), (13, u "HI_BYTE_SHIFT"), (0, u "I"), (2, u "LO_BYTE_SHIFT"), (49, .methodref 12 116), (0, .nameAndType 117 118), (0, u "compress"), (0, u "([CI[BII)I"), (3, u "([CII)[B"), (138, u "coderFromArrayLen"), (0, u "([BI)B"), (106, .class_ 371), (1, u "java/lang/StringUTF16$LinesSpliterator"), (58, u "MAX_LENGTH"), (196, .class_ 628), (0, u "java/lang/StringUTF16$CodePointsSpliterator"), (0, .class_ 630), (0, u "java/lang/StringUTF16$CharsSpliterator")] 4

def k8m0 : Method := { name := "<init>", desc := "()V", sig := { parameters := [], returnType := none }, accessFlags := 0, code := none }
def k8c1 : Code := { maxStack := 2, maxLocals := 2, code := jdk_52_method_15_code, exceptionTable := #[], attributes := #[] }
def k8m1 : Method := { name := "coderFromArrayLen", desc := "([BI)B", sig := { parameters := [(.array .byte), .int], returnType := some .byte }, accessFlags := 8, code := some k8c1 }
def k8c2 : Code := { maxStack := 5, maxLocals := 6, code := jdk_52_method_16_code, exceptionTable := #[], attributes := #[] }
def k8m2 : Method := { name := "compress", desc := "([CII)[B", sig := { parameters := [(.array .char), .int, .int], returnType := some (.array .byte) }, accessFlags := 9, code := some k8c2 }
def k8c3 : Code := { maxStack := 3, maxLocals := 7, code := jdk_52_method_21_code, exceptionTable := #[], attributes := #[] }
def k8m3 : Method := { name := "compress", desc := "([CI[BII)I", sig := { parameters := [(.array .char), .int, (.array .byte), .int, .int], returnType := some .int }, accessFlags := 9, code := some k8c3 }
/-- java/lang/StringUTF16 -/
def k8 : Class := { plain "java/lang/StringUTF16" (some 0) with
  accessFlags := 48
  interfaces := #[]
  cf := some (fileOf pool8 12 #[.nestMembers #[627, 629, 369]] #[{ accessFlags := 0, nameIndex := 9, descriptorIndex := 10, attributes := #[] }, { accessFlags := 8, nameIndex := 261, descriptorIndex := 262, attributes := #[] }, { accessFlags := 9, nameIndex := 117, descriptorIndex := 122, attributes := #[] }, { accessFlags := 9, nameIndex := 117, descriptorIndex := 118, attributes := #[] }] 48 6 #[] #[{ accessFlags := 26, nameIndex := 61, descriptorIndex := 62, attributes := #[] }, { accessFlags := 26, nameIndex := 65, descriptorIndex := 62, attributes := #[] }, { accessFlags := 24, nameIndex := 430, descriptorIndex := 62, attributes := #[] }, { accessFlags := 4120, nameIndex := 46, descriptorIndex := 47, attributes := #[] }])
  fields := #[{ name := "HI_BYTE_SHIFT", type := .int, accessFlags := 26, slot := 0, constantValue := 0 }, { name := "LO_BYTE_SHIFT", type := .int, accessFlags := 26, slot := 1, constantValue := 0 }, { name := "MAX_LENGTH", type := .int, accessFlags := 24, slot := 2, constantValue := 0 }, { name := "$assertionsDisabled", type := .boolean, accessFlags := 4120, slot := 3, constantValue := 0 }]
  methods := #[k8m0, k8m1, k8m2, k8m3]
  instanceTypes := #[]
  staticTypes := #[.int, .int, .int, .boolean]
  resolved := Array.replicate 635 none
  statics := none }

def pool9 : Array CpInfo := pool [(1, .methodref 2 3), (0, .class_ 4), (0, .nameAndType 5 6), (0, u "com/example/token_to_key/tokentokey/s3/Permission"), (0, u "<init>"), (0, u "(Ljava/lang/String;Ljava/lang/String;Z)V"), (0, .methodref 8 9), (0, .class_ 10), (0, .nameAndType 5 11), (0, u "java/lang/Object"), (0, u "()V"), (0, .fieldref 2 13), (0, .nameAndType 14 15), (0, u "action"), (0, u "Ljava/lang/String;"), (0, .fieldref 2 17), (0, .nameAndType 18 15), (0, u "resource"), (0, .fieldref 2 20), (0, .nameAndType 21 22), (0, u "mustBeAllowed"), (0, u "Z"), (9, .methodref 33 34), (0, .class_ 35), (0, .nameAndType 36 37), (0, u "java/lang/String"), (0, u "equals"), (0, u "(Ljava/lang/Object;)Z"), (16, u "(Ljava/lang/String;Ljava/lang/String;)V"), (2, u "unlessDenied"), (0, u "(Ljava/lang/String;Ljava/lang/String;)Lcom/example/token_to_key/tokentokey/s3/Permission;")] 24

def k9c0 : Code := { maxStack := 4, maxLocals := 3, code := prog_34_method_1_code, exceptionTable := #[], attributes := #[] }
def k9m0 : Method := { name := "<init>", desc := "(Ljava/lang/String;Ljava/lang/String;)V", sig := { parameters := [(.object "java/lang/String"), (.object "java/lang/String")], returnType := none }, accessFlags := 0, code := some k9c0 }
def k9c1 : Code := { maxStack := 2, maxLocals := 4, code := prog_34_method_2_code, exceptionTable := #[], attributes := #[] }
def k9m1 : Method := { name := "<init>", desc := "(Ljava/lang/String;Ljava/lang/String;Z)V", sig := { parameters := [(.object "java/lang/String"), (.object "java/lang/String"), .boolean], returnType := none }, accessFlags := 2, code := some k9c1 }
def k9c2 : Code := { maxStack := 5, maxLocals := 2, code := prog_34_method_3_code, exceptionTable := #[], attributes := #[] }
def k9m2 : Method := { name := "unlessDenied", desc := "(Ljava/lang/String;Ljava/lang/String;)Lcom/example/token_to_key/tokentokey/s3/Permission;", sig := { parameters := [(.object "java/lang/String"), (.object "java/lang/String")], returnType := some (.object "com/example/token_to_key/tokentokey/s3/Permission") }, accessFlags := 8, code := some k9c2 }
def k9c3 : Code := { maxStack := 2, maxLocals := 3, code := prog_34_method_5_code, exceptionTable := #[], attributes := #[] }
def k9m3 : Method := { name := "equals", desc := "(Ljava/lang/Object;)Z", sig := { parameters := [(.object "java/lang/Object")], returnType := some .boolean }, accessFlags := 1, code := some k9c3 }
/-- com/example/token_to_key/tokentokey/s3/Permission -/
def k9 : Class := { plain "com/example/token_to_key/tokentokey/s3/Permission" (some 0) with
  accessFlags := 32
  interfaces := #[]
  cf := some (fileOf pool9 2 #[] #[{ accessFlags := 0, nameIndex := 5, descriptorIndex := 54, attributes := #[] }, { accessFlags := 2, nameIndex := 5, descriptorIndex := 6, attributes := #[] }, { accessFlags := 8, nameIndex := 57, descriptorIndex := 58, attributes := #[] }, { accessFlags := 1, nameIndex := 36, descriptorIndex := 37, attributes := #[] }] 32 8 #[] #[{ accessFlags := 18, nameIndex := 14, descriptorIndex := 15, attributes := #[] }, { accessFlags := 18, nameIndex := 18, descriptorIndex := 15, attributes := #[] }, { accessFlags := 18, nameIndex := 21, descriptorIndex := 22, attributes := #[] }])
  fields := #[{ name := "action", type := (.object "java/lang/String"), accessFlags := 18, slot := 0, constantValue := 0 }, { name := "resource", type := (.object "java/lang/String"), accessFlags := 18, slot := 1, constantValue := 0 }, { name := "mustBeAllowed", type := .boolean, accessFlags := 18, slot := 2, constantValue := 0 }]
  methods := #[k9m0, k9m1, k9m2, k9m3]
  instanceTypes := #[(.object "java/lang/String"), (.object "java/lang/String"), .boolean]
  staticTypes := #[]
  resolved := Array.replicate 83 none
  statics := none }

def pool10 : Array CpInfo := pool [(4, .class_ 6), (1, u "java/lang/Object"), (0, u "<init>"), (0, u "()V"), (5, .class_ 16), (1, u "java/lang/StringLatin1"), (104, u "$assertionsDisabled"), (0, u "Z"), (98, .class_ 223), (1, u "java/lang/StringLatin1$LinesSpliterator"), (57, u "equals"), (0, u "([B[B)Z"), (107, .class_ 391), (0, u "java/lang/StringLatin1$CharsSpliterator")] 3

def k10m0 : Method := { name := "<init>", desc := "()V", sig := { parameters := [], returnType := none }, accessFlags := 0, code := none }
def k10c1 : Code := { maxStack := 3, maxLocals := 3, code := jdk_43_method_13_code, exceptionTable := #[], attributes := #[] }
def k10m1 : Method := { name := "equals", desc := "([B[B)Z", sig := { parameters := [(.array .byte), (.array .byte)], returnType := some .boolean }, accessFlags := 9, code := some k10c1 }
/-- java/lang/StringLatin1 -/
def k10 : Class := { plain "java/lang/StringLatin1" (some 0) with
  accessFlags := 48
  interfaces := #[]
  cf := some (fileOf pool10 14 #[.nestMembers #[390, 221]] #[{ accessFlags := 0, nameIndex := 7, descriptorIndex := 8, attributes := #[] }, { accessFlags := 9, nameIndex := 281, descriptorIndex := 282, attributes := #[] }] 48 4 #[] #[{ accessFlags := 4120, nameIndex := 121, descriptorIndex := 122, attributes := #[] }])
  fields := #[{ name := "$assertionsDisabled", type := .boolean, accessFlags := 4120, slot := 0, constantValue := 0 }]
  methods := #[k10m0, k10m1]
  instanceTypes := #[]
  staticTypes := #[.boolean]
  resolved := Array.replicate 395 none
  statics := none }

def pool11 : Array CpInfo := pool [(2, .class_ 4), (1, u "java/lang/Object"), (0, u "<init>"), (0, u "()V"), (17, .class_ 26), (1, u "jdk/internal/util/Preconditions"), (28, .class_ 56), (0, u "jdk/internal/util/Preconditions$4"), (57, .class_ 115), (0, u "jdk/internal/util/Preconditions$1"), (7, u "SIOOBE_FORMATTER"), (0, u "Ljava/util/function/BiFunction;"), (0, .class_ 126), (0, u "jdk/internal/util/Preconditions$2"), (3, u "AIOOBE_FORMATTER"), (0, .class_ 132), (0, u "jdk/internal/util/Preconditions$3"), (3, u "IOOBE_FORMATTER")] 57

def k11m0 : Method := { name := "<init>", desc := "()V", sig := { parameters := [], returnType := none }, accessFlags := 1, code := none }
/-- jdk/internal/util/Preconditions -/
def k11 : Class := { plain "jdk/internal/util/Preconditions" (some 0) with
  accessFlags := 33
  interfaces := #[]
  cf := some (fileOf pool11 24 #[.nestMembers #[55, 131, 125, 114]] #[{ accessFlags := 1, nameIndex := 5, descriptorIndex := 6, attributes := #[] }] 33 2 #[] #[{ accessFlags := 25, nameIndex := 123, descriptorIndex := 124, attributes := #[] }, { accessFlags := 25, nameIndex := 130, descriptorIndex := 124, attributes := #[] }, { accessFlags := 25, nameIndex := 136, descriptorIndex := 124, attributes := #[] }])
  fields := #[{ name := "SIOOBE_FORMATTER", type := (.object "java/util/function/BiFunction"), accessFlags := 25, slot := 0, constantValue := 0 }, { name := "AIOOBE_FORMATTER", type := (.object "java/util/function/BiFunction"), accessFlags := 25, slot := 1, constantValue := 0 }, { name := "IOOBE_FORMATTER", type := (.object "java/util/function/BiFunction"), accessFlags := 25, slot := 2, constantValue := 0 }]
  methods := #[k11m0]
  instanceTypes := #[]
  staticTypes := #[(.object "java/util/function/BiFunction"), (.object "java/util/function/BiFunction"), (.object "java/util/function/BiFunction")]
  resolved := Array.replicate 194 none
  statics := some 1 }

def pool12 : Array CpInfo := pool [(9, u "<init>"), (6, .class_ 18), (1, u "java/lang/Object"), (0, u "()V"), (1, .class_ 23), (1, u "jdk/internal/util/ArraysSupport"), (0, u "LOG2_ARRAY_LONG_INDEX_SCALE"), (0, u "I"), (2, u "U"), (0, u "Ljdk/internal/misc/Unsafe;"), (8, u "BIG_ENDIAN"), (0, u "Z"), (8, u "LOG2_BYTE_BIT_SIZE"), (4, u "LOG2_ARRAY_INT_INDEX_SCALE"), (54, u "JLA"), (0, u "Ljdk/internal/access/JavaLangAccess;"), (11, u "LOG2_ARRAY_BOOLEAN_INDEX_SCALE"), (9, u "LOG2_ARRAY_BYTE_INDEX_SCALE"), (5, u "LOG2_ARRAY_CHAR_INDEX_SCALE"), (5, u "LOG2_ARRAY_SHORT_INDEX_SCALE"), (18, u "LOG2_ARRAY_FLOAT_INDEX_SCALE"), (24, u "LOG2_ARRAY_DOUBLE_INDEX_SCALE"), (89, u "T_BOOLEAN"), (2, u "T_CHAR"), (1, u "T_FLOAT"), (1, u "T_DOUBLE"), (1, u "T_BYTE"), (1, u "T_SHORT"), (1, u "T_INT"), (1, u "T_LONG"), (1, u "SOFT_MAX_ARRAY_LENGTH")] 83

def k12m0 : Method := { name := "<init>", desc := "()V", sig := { parameters := [], returnType := none }, accessFlags := 2, code := none }
/-- jdk/internal/util/ArraysSupport -/
def k12 : Class := { plain "jdk/internal/util/ArraysSupport" (some 0) with
  accessFlags := 33
  interfaces := #[]
  cf := some (fileOf pool12 21 #[] #[{ accessFlags := 2, nameIndex := 9, descriptorIndex := 19, attributes := #[] }] 33 16 #[] #[{ accessFlags := 24, nameIndex := 28, descriptorIndex := 29, attributes := #[] }, { accessFlags := 26, nameIndex := 38, descriptorIndex := 39, attributes := #[] }, { accessFlags := 25, nameIndex := 121, descriptorIndex := 25, attributes := #[] }, { accessFlags := 25, nameIndex := 131, descriptorIndex := 25, attributes := #[] }, { accessFlags := 25, nameIndex := 137, descriptorIndex := 25, attributes := #[] }, { accessFlags := 25, nameIndex := 143, descriptorIndex := 25, attributes := #[] }, { accessFlags := 25, nameIndex := 53, descriptorIndex := 25, attributes := #[] }, { accessFlags := 25, nameIndex := 24, descriptorIndex := 25, attributes := #[] }, { accessFlags := 25, nameIndex := 162, descriptorIndex := 25, attributes := #[] }, { accessFlags := 25, nameIndex := 187, descriptorIndex := 25, attributes := #[] }, { accessFlags := 26, nameIndex := 48, descriptorIndex := 25, attributes := #[] }, { accessFlags := 25, nameIndex := 277, descriptorIndex := 25, attributes := #[] }, { accessFlags := 25, nameIndex := 280, descriptorIndex := 25, attributes := #[] }, { accessFlags := 25, nameIndex := 282, descriptorIndex := 25, attributes := #[] }, { accessFlags := 25, nameIndex := 284, descriptorIndex := 25, attributes := #[] }, { accessFlags := 25, nameIndex := 286, descriptorIndex := 25, attributes := #[] }, { accessFlags := 25, nameIndex := 288, descriptorIndex := 25, attributes := #[] }, { accessFlags := 25, nameIndex := 290, descriptorIndex := 25, attributes := #[] }, { accessFlags := 25, nameIndex := 292, descriptorIndex := 25, attributes := #[] }, { accessFlags := 26, nameIndex := 108, descriptorIndex := 109, attributes := #[] }, { accessFlags := 25, nameIndex := 294, descriptorIndex := 25, attributes := #[] }])
  fields := #[{ name := "U", type := (.object "jdk/internal/misc/Unsafe"), accessFlags := 24, slot := 0, constantValue := 0 }, { name := "BIG_ENDIAN", type := .boolean, accessFlags := 26, slot := 1, constantValue := 0 }, { name := "LOG2_ARRAY_BOOLEAN_INDEX_SCALE", type := .int, accessFlags := 25, slot := 2, constantValue := 0 }, { name := "LOG2_ARRAY_BYTE_INDEX_SCALE", type := .int, accessFlags := 25, slot := 3, constantValue := 0 }, { name := "LOG2_ARRAY_CHAR_INDEX_SCALE", type := .int, accessFlags := 25, slot := 4, constantValue := 0 }, { name := "LOG2_ARRAY_SHORT_INDEX_SCALE", type := .int, accessFlags := 25, slot := 5, constantValue := 0 }, { name := "LOG2_ARRAY_INT_INDEX_SCALE", type := .int, accessFlags := 25, slot := 6, constantValue := 0 }, { name := "LOG2_ARRAY_LONG_INDEX_SCALE", type := .int, accessFlags := 25, slot := 7, constantValue := 0 }, { name := "LOG2_ARRAY_FLOAT_INDEX_SCALE", type := .int, accessFlags := 25, slot := 8, constantValue := 0 }, { name := "LOG2_ARRAY_DOUBLE_INDEX_SCALE", type := .int, accessFlags := 25, slot := 9, constantValue := 0 }, { name := "LOG2_BYTE_BIT_SIZE", type := .int, accessFlags := 26, slot := 10, constantValue := 0 }, { name := "T_BOOLEAN", type := .int, accessFlags := 25, slot := 11, constantValue := 0 }, { name := "T_CHAR", type := .int, accessFlags := 25, slot := 12, constantValue := 0 }, { name := "T_FLOAT", type := .int, accessFlags := 25, slot := 13, constantValue := 0 }, { name := "T_DOUBLE", type := .int, accessFlags := 25, slot := 14, constantValue := 0 }, { name := "T_BYTE", type := .int, accessFlags := 25, slot := 15, constantValue := 0 }, { name := "T_SHORT", type := .int, accessFlags := 25, slot := 16, constantValue := 0 }, { name := "T_INT", type := .int, accessFlags := 25, slot := 17, constantValue := 0 }, { name := "T_LONG", type := .int, accessFlags := 25, slot := 18, constantValue := 0 }, { name := "JLA", type := (.object "jdk/internal/access/JavaLangAccess"), accessFlags := 26, slot := 19, constantValue := 0 }, { name := "SOFT_MAX_ARRAY_LENGTH", type := .int, accessFlags := 25, slot := 20, constantValue := 0 }]
  methods := #[k12m0]
  instanceTypes := #[]
  staticTypes := #[(.object "jdk/internal/misc/Unsafe"), .boolean, .int, .int, .int, .int, .int, .int, .int, .int, .int, .int, .int, .int, .int, .int, .int, .int, .int, (.object "jdk/internal/access/JavaLangAccess"), .int]
  resolved := Array.replicate 378 none
  statics := none }

def pool13 : Array CpInfo := pool [(1, u "java/lang/Cloneable"), (0, .class_ 1), (0, u "java/lang/Object"), (0, .class_ 3)] 3

/-- java/lang/Cloneable -/
def k13 : Class := { plain "java/lang/Cloneable" (some 0) with
  accessFlags := 1537
  interfaces := #[]
  cf := some (fileOf pool13 2 #[] #[] 1537 4 #[] #[])
  fields := #[]
  methods := #[]
  instanceTypes := #[]
  staticTypes := #[]
  resolved := Array.replicate 8 none
  statics := none }

/-- the primitive byte -/
def k14 : Class := { plain "byte" none with kind := .primitive 'B', accessFlags := 0x411 }
/-- [B -/
def k15 : Class := { plain "[B" (some 0) with kind := .array 14 .byte, interfaces := #[13, 2], accessFlags := 1041 }

/-- the primitive char -/
def k16 : Class := { plain "char" none with kind := .primitive 'C', accessFlags := 0x411 }
/-- [C -/
def k17 : Class := { plain "[C" (some 0) with kind := .array 16 .char, interfaces := #[13, 2], accessFlags := 1041 }

/-- the primitive int -/
def k18 : Class := { plain "int" none with kind := .primitive 'I', accessFlags := 0x411 }
/-- [I -/
def k19 : Class := { plain "[I" (some 0) with kind := .array 18 .int, interfaces := #[13, 2], accessFlags := 1041 }

def heap : Heap := #[{ cls := 7, slots := #[.long 0, .int 1, .null, .int 0, .null, .int 0, .int 0], vm := .statics 7 },
  { cls := 11, slots := #[.null, .null, .null], vm := .statics 11 }]
def classes : Array Class := #[k0, k1, k2, k3, k4, k5, k6, k7, k8, k9, k10, k11, k12, k13, k14, k15, k16, k17, k18, k19]
def interned : List (Array UInt16 × Addr) := []
def slotsUsed : Nat := 10
def theMethod : MethodId := ⟨1, 4⟩
def args0 : Array Value := #[.long 6, .long 7, .long 9, .long 11, .int 5]
def aboutOver (below : List Frame) : State where
  vm := { classes := classes, interned := interned.toArray }
  heap := heap
  slotsUsed := slotsUsed
  threads := #[{ frames := .invoking theMethod args0 :: below }]
def below0 : List Frame := [.native { method := ⟨0, 0⟩, args := #[] }]
def about1 : State := aboutOver below0
def p0 : Program := .bare "" "" ""
def e0 : Env := launch0.env 0 0 0
theorem w_frames : about1.frames = Frame.invoking theMethod args0 :: below0 := rfl
set_option maxRecDepth 65536 in
theorem w_args : argsFit about1.vm theMethod args0 = true := by decide +kernel
set_option maxRecDepth 65536 in
theorem w_heap : heapFits about1 = true := by decide +kernel
set_option maxRecDepth 65536 in
theorem w_runnable : about1.curStatus? = some .runnable := by decide +kernel
set_option maxRecDepth 65536 in
theorem w_alone : about1.alone = true := by decide +kernel
set_option maxRecDepth 65536 in
theorem w_named : about1.methodNamed? x = some theMethod := by decide +kernel
set_option maxRecDepth 65536 in
theorem w_hears : about1.hears theMethod below0 = true := by decide +kernel
set_option maxRecDepth 65536 in
theorem w_ripe : about1.ripe theMethod args0 below0 = true := by decide +kernel
theorem w_running : about1.status = .running := rfl
set_option maxRecDepth 65536 in
theorem w_room : about1.hasRoom e0.platform room_1 = true :=
  launch0.hasRoom_least _ room_1 (by decide +kernel) (by decide +kernel) (by decide +kernel) (by decide +kernel) (by decide +kernel) (by decide +kernel)
theorem allAtoms_all (ts : List Jvm.Cond) (a : Array Jvm.Value) (st : Jvm.State) : (allAtoms ts).before a st = ts.all (fun c => c.before a st) := by
  induction ts with
  | nil => rfl
  | cons c t ih =>
    show (Jvm.Cond.and c (allAtoms t)).before a st = _
    rw [Jvm.Cond.before_and, ih, List.all_cons]
def words1 : List Jvm.Cond := Jvm.Cond.code x code maxLocals ret :: tables_1
/-- a 'code' word, met by the world's own term for the bytes: nothing is compared byte by byte -/
theorem code_word {y : MethodName} {bytes : ByteArray} {mx : Nat} {rt : Option FieldType} {a : Array Value} {s : State} {m : MethodId} {meth : Method} {c : Code} (h1 : s.methodNamed? y = some m) (h2 : s.vm.method? m = some meth) (h3 : meth.code = some c) (h4 : c.code = bytes)
    (h5 : (c.maxLocals == mx && c.exceptionTable.isEmpty && decide (c.maxStack ≤ mostOperands) && decide (meth.sig.returnType = rt) && !meth.locks && decide (parseMethodDescriptor y.desc = some meth.sig)) = true) : (Jvm.Cond.code y bytes mx rt).before a s = true := by
  simp only [Bool.and_eq_true, beq_iff_eq, Bool.not_eq_true', decide_eq_true_eq] at h5
  obtain ⟨⟨⟨⟨⟨g1, g2⟩, g3⟩, g4⟩, g5⟩, g6⟩ := h5
  simp [Cond.before, Cond.holds, Cond.value, h1, h2, h3, h4, g1, g2, g3, g4, g5, g6]
def isCode : Jvm.Cond → Bool
  | .code _ _ _ _ => true
  | _ => false
theorem all_split {L : List Jvm.Cond} {P : Jvm.Cond → Bool} (h1 : L.all (fun c => isCode c || P c) = true) (h2 : ∀ c ∈ L.filter isCode, P c = true) : L.all P = true := by
  refine List.all_eq_true.mpr fun c hc => ?_
  have h := List.all_eq_true.mp h1 c hc
  rcases Bool.eq_false_or_eq_true (isCode c) with hi | hi
  · exact h2 c (List.mem_filter.mpr ⟨hc, hi⟩)
  · simpa [hi] using h
set_option maxRecDepth 65536 in
theorem w_c0 : (Jvm.Cond.code x code maxLocals ret).before args0 about1 = true := code_word (m := ⟨1, 4⟩) (meth := k1m4) (c := k1c4) (by decide +kernel) rfl rfl rfl (by decide +kernel)
set_option maxRecDepth 65536 in
theorem w_c1 : (Jvm.Cond.code ({ cls := "com/example/token_to_key/tokentokey/s3/PermissionEqualsPinLaw", name := "mk", desc := "(J)Ljava/lang/String;" } : Jvm.MethodName) method_3_code (6 : Nat) (Option.some (Jvm.ClassFile.FieldType.object "java/lang/String"))).before args0 about1 = true := code_word (m := ⟨1, 2⟩) (meth := k1m2) (c := k1c2) (by decide +kernel) rfl rfl rfl (by decide +kernel)
set_option maxRecDepth 65536 in
theorem w_c2 : (Jvm.Cond.code ({ cls := "com/example/token_to_key/tokentokey/s3/PermissionEqualsPinLaw", name := "ch", desc := "(JI)C" } : Jvm.MethodName) method_2_code (3 : Nat) (Option.some Jvm.ClassFile.FieldType.char)).before args0 about1 = true := code_word (m := ⟨1, 1⟩) (meth := k1m1) (c := k1c1) (by decide +kernel) rfl rfl rfl (by decide +kernel)
set_option maxRecDepth 65536 in
theorem w_c3 : (Jvm.Cond.code ({ cls := "java/lang/String", name := "<init>", desc := "([C)V" } : Jvm.MethodName) jdk_42_method_3_code (2 : Nat) (Option.none : Option Jvm.ClassFile.FieldType)).before args0 about1 = true := code_word (m := ⟨7, 1⟩) (meth := k7m1) (c := k7c1) (by decide +kernel) rfl rfl rfl (by decide +kernel)
set_option maxRecDepth 65536 in
theorem w_c4 : (Jvm.Cond.code ({ cls := "java/lang/String", name := "<init>", desc := "([CIILjava/lang/Void;)V" } : Jvm.MethodName) jdk_42_method_149_code (6 : Nat) (Option.none : Option Jvm.ClassFile.FieldType)).before args0 about1 = true := code_word (m := ⟨7, 3⟩) (meth := k7m3) (c := k7c3) (by decide +kernel) rfl rfl rfl (by decide +kernel)
set_option maxRecDepth 65536 in
theorem w_c5 : (Jvm.Cond.code ({ cls := "java/lang/Object", name := "<init>", desc := "()V" } : Jvm.MethodName) object_method_1_code (1 : Nat) (Option.none : Option Jvm.ClassFile.FieldType)).before args0 about1 = true := code_word (m := ⟨0, 0⟩) (meth := k0m0) (c := k0c0) (by decide +kernel) rfl rfl rfl (by decide +kernel)
set_option maxRecDepth 65536 in
theorem w_c6 : (Jvm.Cond.code ({ cls := "java/lang/StringUTF16", name := "compress", desc := "([CII)[B" } : Jvm.MethodName) jdk_52_method_16_code (6 : Nat) (Option.some (Jvm.ClassFile.FieldType.array Jvm.ClassFile.FieldType.byte))).before args0 about1 = true := code_word (m := ⟨8, 2⟩) (meth := k8m2) (c := k8c2) (by decide +kernel) rfl rfl rfl (by decide +kernel)
set_option maxRecDepth 65536 in
theorem w_c7 : (Jvm.Cond.code ({ cls := "java/lang/StringUTF16", name := "compress", desc := "([CI[BII)I" } : Jvm.MethodName) jdk_52_method_21_code (7 : Nat) (Option.some Jvm.ClassFile.FieldType.int)).before args0 about1 = true := code_word (m := ⟨8, 3⟩) (meth := k8m3) (c := k8c3) (by decide +kernel) rfl rfl rfl (by decide +kernel)
set_option maxRecDepth 65536 in
theorem w_c8 : (Jvm.Cond.code ({ cls := "java/lang/StringUTF16", name := "coderFromArrayLen", desc := "([BI)B" } : Jvm.MethodName) jdk_52_method_15_code (2 : Nat) (Option.some Jvm.ClassFile.FieldType.byte)).before args0 about1 = true := code_word (m := ⟨8, 1⟩) (meth := k8m1) (c := k8c1) (by decide +kernel) rfl rfl rfl (by decide +kernel)
set_option maxRecDepth 65536 in
theorem w_c9 : (Jvm.Cond.code ({ cls := "com/example/token_to_key/tokentokey/s3/Permission", name := "<init>", desc := "(Ljava/lang/String;Ljava/lang/String;)V" } : Jvm.MethodName) prog_34_method_1_code (3 : Nat) (Option.none : Option Jvm.ClassFile.FieldType)).before args0 about1 = true := code_word (m := ⟨9, 0⟩) (meth := k9m0) (c := k9c0) (by decide +kernel) rfl rfl rfl (by decide +kernel)
set_option maxRecDepth 65536 in
theorem w_c10 : (Jvm.Cond.code ({ cls := "com/example/token_to_key/tokentokey/s3/Permission", name := "<init>", desc := "(Ljava/lang/String;Ljava/lang/String;Z)V" } : Jvm.MethodName) prog_34_method_2_code (4 : Nat) (Option.none : Option Jvm.ClassFile.FieldType)).before args0 about1 = true := code_word (m := ⟨9, 1⟩) (meth := k9m1) (c := k9c1) (by decide +kernel) rfl rfl rfl (by decide +kernel)
set_option maxRecDepth 65536 in
theorem w_c11 : (Jvm.Cond.code ({ cls := "com/example/token_to_key/tokentokey/s3/Permission", name := "equals", desc := "(Ljava/lang/Object;)Z" } : Jvm.MethodName) prog_34_method_5_code (3 : Nat) (Option.some Jvm.ClassFile.FieldType.boolean)).before args0 about1 = true := code_word (m := ⟨9, 3⟩) (meth := k9m3) (c := k9c3) (by decide +kernel) rfl rfl rfl (by decide +kernel)
set_option maxRecDepth 65536 in
theorem w_c12 : (Jvm.Cond.code ({ cls := "com/example/token_to_key/tokentokey/s3/Permission", name := "unlessDenied", desc := "(Ljava/lang/String;Ljava/lang/String;)Lcom/example/token_to_key/tokentokey/s3/Permission;" } : Jvm.MethodName) prog_34_method_3_code (2 : Nat) (Option.some (Jvm.ClassFile.FieldType.object "com/example/token_to_key/tokentokey/s3/Permission"))).before args0 about1 = true := code_word (m := ⟨9, 2⟩) (meth := k9m2) (c := k9c2) (by decide +kernel) rfl rfl rfl (by decide +kernel)
set_option maxRecDepth 65536 in
theorem w_c13 : (Jvm.Cond.code ({ cls := "com/example/token_to_key/tokentokey/s3/PermissionEqualsPinLaw", name := "sameDrawn", desc := "(JJ)Z" } : Jvm.MethodName) method_4_code (7 : Nat) (Option.some Jvm.ClassFile.FieldType.boolean)).before args0 about1 = true := code_word (m := ⟨1, 3⟩) (meth := k1m3) (c := k1c3) (by decide +kernel) rfl rfl rfl (by decide +kernel)
set_option maxRecDepth 65536 in
theorem w_c14 : (Jvm.Cond.code ({ cls := "java/lang/String", name := "equals", desc := "(Ljava/lang/Object;)Z" } : Jvm.MethodName) jdk_42_method_66_code (3 : Nat) (Option.some Jvm.ClassFile.FieldType.boolean)).before args0 about1 = true := code_word (m := ⟨7, 2⟩) (meth := k7m2) (c := k7c2) (by decide +kernel) rfl rfl rfl (by decide +kernel)
set_option maxRecDepth 65536 in
theorem w_c15 : (Jvm.Cond.code ({ cls := "java/lang/StringLatin1", name := "equals", desc := "([B[B)Z" } : Jvm.MethodName) jdk_43_method_13_code (3 : Nat) (Option.some Jvm.ClassFile.FieldType.boolean)).before args0 about1 = true := code_word (m := ⟨10, 1⟩) (meth := k10m1) (c := k10c1) (by decide +kernel) rfl rfl rfl (by decide +kernel)
def codes1 : List Jvm.Cond := [Jvm.Cond.code x code maxLocals ret, Jvm.Cond.code ({ cls := "com/example/token_to_key/tokentokey/s3/PermissionEqualsPinLaw", name := "mk", desc := "(J)Ljava/lang/String;" } : Jvm.MethodName) method_3_code (6 : Nat) (Option.some (Jvm.ClassFile.FieldType.object "java/lang/String")), Jvm.Cond.code ({ cls := "com/example/token_to_key/tokentokey/s3/PermissionEqualsPinLaw", name := "ch", desc := "(JI)C" } : Jvm.MethodName) method_2_code (3 : Nat) (Option.some Jvm.ClassFile.FieldType.char), Jvm.Cond.code ({ cls := "java/lang/String", name := "<init>", desc := "([C)V" } : Jvm.MethodName) jdk_42_method_3_code (2 : Nat) (Option.none : Option Jvm.ClassFile.FieldType), Jvm.Cond.code ({ cls := "java/lang/String", name := "<init>", desc := "([CIILjava/lang/Void;)V" } : Jvm.MethodName) jdk_42_method_149_code (6 : Nat) (Option.none : Option Jvm.ClassFile.FieldType), Jvm.Cond.code ({ cls := "java/lang/Object", name := "<init>", desc := "()V" } : Jvm.MethodName) object_method_1_code (1 : Nat) (Option.none : Option Jvm.ClassFile.FieldType), Jvm.Cond.code ({ cls := "java/lang/StringUTF16", name := "compress", desc := "([CII)[B" } : Jvm.MethodName) jdk_52_method_16_code (6 : Nat) (Option.some (Jvm.ClassFile.FieldType.array Jvm.ClassFile.FieldType.byte)), Jvm.Cond.code ({ cls := "java/lang/StringUTF16", name := "compress", desc := "([CI[BII)I" } : Jvm.MethodName) jdk_52_method_21_code (7 : Nat) (Option.some Jvm.ClassFile.FieldType.int), Jvm.Cond.code ({ cls := "java/lang/StringUTF16", name := "coderFromArrayLen", desc := "([BI)B" } : Jvm.MethodName) jdk_52_method_15_code (2 : Nat) (Option.some Jvm.ClassFile.FieldType.byte), Jvm.Cond.code ({ cls := "com/example/token_to_key/tokentokey/s3/Permission", name := "<init>", desc := "(Ljava/lang/String;Ljava/lang/String;)V" } : Jvm.MethodName) prog_34_method_1_code (3 : Nat) (Option.none : Option Jvm.ClassFile.FieldType), Jvm.Cond.code ({ cls := "com/example/token_to_key/tokentokey/s3/Permission", name := "<init>", desc := "(Ljava/lang/String;Ljava/lang/String;Z)V" } : Jvm.MethodName) prog_34_method_2_code (4 : Nat) (Option.none : Option Jvm.ClassFile.FieldType), Jvm.Cond.code ({ cls := "com/example/token_to_key/tokentokey/s3/Permission", name := "equals", desc := "(Ljava/lang/Object;)Z" } : Jvm.MethodName) prog_34_method_5_code (3 : Nat) (Option.some Jvm.ClassFile.FieldType.boolean), Jvm.Cond.code ({ cls := "com/example/token_to_key/tokentokey/s3/Permission", name := "unlessDenied", desc := "(Ljava/lang/String;Ljava/lang/String;)Lcom/example/token_to_key/tokentokey/s3/Permission;" } : Jvm.MethodName) prog_34_method_3_code (2 : Nat) (Option.some (Jvm.ClassFile.FieldType.object "com/example/token_to_key/tokentokey/s3/Permission")), Jvm.Cond.code ({ cls := "com/example/token_to_key/tokentokey/s3/PermissionEqualsPinLaw", name := "sameDrawn", desc := "(JJ)Z" } : Jvm.MethodName) method_4_code (7 : Nat) (Option.some Jvm.ClassFile.FieldType.boolean), Jvm.Cond.code ({ cls := "java/lang/String", name := "equals", desc := "(Ljava/lang/Object;)Z" } : Jvm.MethodName) jdk_42_method_66_code (3 : Nat) (Option.some Jvm.ClassFile.FieldType.boolean), Jvm.Cond.code ({ cls := "java/lang/StringLatin1", name := "equals", desc := "([B[B)Z" } : Jvm.MethodName) jdk_43_method_13_code (3 : Nat) (Option.some Jvm.ClassFile.FieldType.boolean)]
set_option maxRecDepth 65536 in
theorem codes_eq : words1.filter isCode = codes1 := rfl
theorem w_codes : ∀ c ∈ words1.filter isCode, c.before args0 about1 = true := by
  rw [codes_eq]
  intro c hc
  simp only [codes1, List.mem_cons, List.not_mem_nil, or_false] at hc
  rcases hc with rfl | rfl | rfl | rfl | rfl | rfl | rfl | rfl | rfl | rfl | rfl | rfl | rfl | rfl | rfl | rfl
  · exact w_c0
  · exact w_c1
  · exact w_c2
  · exact w_c3
  · exact w_c4
  · exact w_c5
  · exact w_c6
  · exact w_c7
  · exact w_c8
  · exact w_c9
  · exact w_c10
  · exact w_c11
  · exact w_c12
  · exact w_c13
  · exact w_c14
  · exact w_c15
set_option maxRecDepth 65536 in
theorem w_t1 : (words1.take 24).all (fun c => isCode c || c.before args0 about1) = true := by decide +kernel
set_option maxRecDepth 65536 in
theorem w_t2 : ((words1.drop 24).take 24).all (fun c => isCode c || c.before args0 about1) = true := by decide +kernel
set_option maxRecDepth 65536 in
theorem w_t3 : (((words1.drop 24).drop 24).take 24).all (fun c => isCode c || c.before args0 about1) = true := by decide +kernel
set_option maxRecDepth 65536 in
theorem w_t4 : (((words1.drop 24).drop 24).drop 24).all (fun c => isCode c || c.before args0 about1) = true := by decide +kernel
theorem w_tables : (allAtoms (Jvm.Cond.code x code maxLocals ret :: tables_1)).before args0 about1 = true := by
  rw [allAtoms_all]
  show words1.all (fun c => c.before args0 about1) = true
  refine all_split ?_ w_codes
  rw [← List.take_append_drop 24 words1, List.all_append, w_t1, ← List.take_append_drop 24 (words1.drop 24), List.all_append, w_t2, ← List.take_append_drop 24 ((words1.drop 24).drop 24), List.all_append, w_t3, w_t4]
  rfl
set_option maxRecDepth 65536 in
theorem w_rest : rest_1_c.before args0 about1 = true := by decide +kernel
set_option maxRecDepth 65536 in
theorem w_case : (Jvm.Cond.and given_1 narrow_1).before args0 about1 = true := by decide +kernel
set_option maxRecDepth 65536 in
theorem w_consts : constsHeld consts_1 about1 := Jvm.Lit.constsHeldB_iff.mp (by decide +kernel)
theorem w_applies : (headSpec (Jvm.Cond.code x code maxLocals ret :: tables_1) room_1).applies x e0.platform about1 = true :=
  (Spec.applies_iff w_frames).mpr ⟨w_running, w_runnable, w_alone, w_named, w_hears, w_ripe, w_room, w_tables⟩
theorem atStart : AtStart classFile x code maxLocals ret World_1 tables_1 room_1 Calls_1 rest_1 Pre_1 launch0 p0 e0 about1 theMethod args0 below0 :=
  ⟨lists_1, trivial, launch0.admits_env _ _ _, launch0.least_env, fairChoices_fair.cas, fairChoices_fair.clock, w_frames, w_args, w_heap, w_applies, ⟨w_consts, trivial⟩, w_rest, w_case⟩
end start1
theorem witness_1 : WitnessClaimed_1 := ⟨start1.p0, start1.e0, start1.about1, start1.theMethod, start1.args0, start1.below0, start1.atStart⟩
end Jvm.Pilot.@@N@@
