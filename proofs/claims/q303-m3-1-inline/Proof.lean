import JvmDerived
import JvmDerived.Pilot.@@N@@Statement
import JvmDerived.Pilot.@@N@@Code
set_option linter.unusedVariables false
set_option linter.unusedSimpArgs false
namespace Jvm.Own
open Sem ClassFile Op Lib Bundle Jvm.Stand Jvm.Free Jvm.LawKit Jvm.RoadKit
theorem nl {a b : Nat} (h : Nat.ble a b = true) : a ≤ b := Nat.le_of_ble_eq_true h
section Core
variable {nw : Bool} {p : Program} {l : Launch} {e : Env} {R : Room} {s : State} {m : MethodId} {args : Array Value} {below : List Frame} {meth : Method} {c : Code} {code : ByteArray} {ml : Nat} {nm : String} {ret : Option FieldType} {Z : State} {a0 : Array Value} {EL : List (String × Nat)} {own : String} {P : Option Value → Vm → Heap → Prop}
variable {vm vm' : Vm} {h h' h0 h1 h2 : Heap} {k n pc : Nat} {L : Array Slot} {S : List Value}
/-- what the walk knows of its tables and heap -/
def On (nw : Bool) (s : State) (m : MethodId) (Z : State) (a0 : Array Value) (EL : List (String × Nat)) (own : String) (vm : Vm) (h : Heap) : Prop :=
  (∃ k0, s.Since vm k0 ∧ k0 ≤ h.size) ∧ Z.Warmed39 vm ∧ vm.findClass own = some m.cls ∧ CHv Z EL vm h ∧ Ext Z.heap h ∧ EW Z a0 EL ∧ (nw = true → s.WarmedH vm)
/-- from the heap h, the tables vm and this frame the body returns, and P holds of what it leaves -/
def Go (nw : Bool) (p : Program) (l : Launch) (e : Env) (R : Room) (s : State) (m : MethodId) (args : Array Value) (below : List Frame) (meth : Method) (c : Code) (code : ByteArray) (ml : Nat) (nm : String) (ret : Option FieldType) (Z : State) (a0 : Array Value) (EL : List (String × Nat)) (own : String) (P : Option Value → Vm → Heap → Prop)
    (vm : Vm) (h : Heap) (k n pc : Nat) (L : Array Slot) (S : List Value) : Prop :=
  p.tables.exec = Jvm.exec → c.code = code → c.maxLocals = ml → meth.locks = false → meth.name = nm → meth.sig.returnType = ret → On nw s m Z a0 EL own vm h →
  ∀ (T : State) (locs : List Loc) (cells slots : Nat), Stand p l e R (s.setVm vm) m args below meth c T locs cells slots → T.heap = h → Fr Z.heap.size locs → cells ≤ k → slots ≤ n →
  ∃ (s₂ : State) (v : Option Value), Steps p.tables e below (T.setTop (mkF m pc L S)) s₂ ∧ s₂.status = .running ∧ Ended s₂ below (.returned v) ∧ P v s₂.vm s₂.heap ∧ CHr Z EL vm h s₂.vm s₂.heap ∧ Ext Z.heap s₂.heap ∧
    ∃ L', Fr Z.heap.size L' ∧ ReturnedEndW s (.returned v) s₂ L' R.cells R.slots ∧ (nw = true → s.WarmedH s₂.vm)
theorem Go.mono {k' n' : Nat} (hk : k ≤ k') (hn : n ≤ n') (g : Go nw p l e R s m args below meth c code ml nm ret Z a0 EL own P vm h k' n' pc L S) : Go nw p l e R s m args below meth c code ml nm ret Z a0 EL own P vm h k n pc L S :=
  fun hx hc hm hl hnm hr hon T locs cells slots X hh hF q1 q2 => g hx hc hm hl hnm hr hon T locs cells slots X hh hF (Nat.le_trans q1 hk) (Nat.le_trans q2 hn)
theorem Go.know (g : Ext Z.heap h → Z.Warmed39 vm → CHv Z EL vm h → Go nw p l e R s m args below meth c code ml nm ret Z a0 EL own P vm h k n pc L S) : Go nw p l e R s m args below meth c code ml nm ret Z a0 EL own P vm h k n pc L S :=
  fun hx hc hm hl hnm hr hon => g hon.2.2.2.2.1 hon.2.1 hon.2.2.2.1 hx hc hm hl hnm hr hon
theorem Go.step {pc' : Nat} {L' : Array Slot} {S' : List Value} (st : ∀ T, At T m c below → p.tables.exec = Jvm.exec → c.code = code → ∀ target, Steps p.tables e below (T.setTop (mkF m pc' L' S')) target → Steps p.tables e below (T.setTop (mkF m pc L S)) target)
    (g : Go nw p l e R s m args below meth c code ml nm ret Z a0 EL own P vm h k n pc' L' S') : Go nw p l e R s m args below meth c code ml nm ret Z a0 EL own P vm h k n pc L S := by
  intro hx hc hm hl hnm hr hon T locs cells slots X hh hF hk hn
  obtain ⟨s₂, v, st2, r⟩ := g hx hc hm hl hnm hr hon T locs cells slots X hh hF hk hn
  exact ⟨s₂, v, st T X.here hx hc _ st2, r⟩
/-- a step that may note an entry of the pool, the heap as it was -/
theorem Go.note {pc' : Nat} {L' : Array Slot} {S' : List Value} (st : ∀ T locs cells slots, Stand p l e R (s.setVm vm) m args below meth c T locs cells slots → T.heap = h → p.tables.exec = Jvm.exec → c.code = code → c.maxLocals = ml → On nw s m Z a0 EL own vm h →
      ∃ T', Stand p l e R (s.setVm vm) m args below meth c T' locs cells slots ∧ T'.heap = h ∧ ∀ target, Steps p.tables e below (T'.setTop (mkF m pc' L' S')) target → Steps p.tables e below (T.setTop (mkF m pc L S)) target)
    (g : Go nw p l e R s m args below meth c code ml nm ret Z a0 EL own P vm h k n pc' L' S') : Go nw p l e R s m args below meth c code ml nm ret Z a0 EL own P vm h k n pc L S := by
  intro hx hc hm hl hnm hr hon T locs cells slots X hh hF hk hn
  obtain ⟨T', X', hh', st2⟩ := st T locs cells slots X hh hx hc hm hon
  obtain ⟨s₂, v, st3, r⟩ := g hx hc hm hl hnm hr hon T' locs cells slots X' hh' hF hk hn
  exact ⟨s₂, v, st2 _ st3, r⟩
theorem On.ext (hon : On nw s m Z a0 EL own vm h) (E : Ext h h') : On nw s m Z a0 EL own vm h' := by
  obtain ⟨⟨k0, a1, a2⟩, a3, a4, a5, a6, a7, a8⟩ := hon
  exact ⟨⟨k0, a1, Nat.le_trans a2 E.1⟩, a3, a4, a5.ext E, ⟨Nat.le_trans a6.1 E.1, fun a c q => E.2 _ _ (a6.2 _ _ q)⟩, a7, a8⟩
theorem On.wr {a : Addr} {sl : Nat} {v : Value} (hon : On nw s m Z a0 EL own vm h) (W : Wr h h' a sl v) (Sa : Safe Z EL vm h a) (hz : Z.heap.size ≤ a) : On nw s m Z a0 EL own vm h' := by
  obtain ⟨⟨k0, a1, a2⟩, a3, a4, a5, a6, a7, a8⟩ := hon
  have O : Old Z Z.heap.size h' := Old.wr (Z := Z) ⟨rfl, a6⟩ W hz
  exact ⟨⟨k0, a1, by rw [W.size]; exact a2⟩, a3, a4, a5.wr W Sa, O.2, a7, a8⟩
/-- a step that makes a cell -/
theorem Go.made {pc' dk dn : Nat} {L' : Array Slot} {S' : Addr → List Value} {F : Heap → Addr → Prop} (hk0 : k + dk ≤ R.cells) (hn0 : n + dn ≤ R.slots)
    (st : ∀ T locs cells slots, Stand p l e R (s.setVm vm) m args below meth c T locs cells slots → T.heap = h → p.tables.exec = Jvm.exec → c.code = code → c.maxLocals = ml → On nw s m Z a0 EL own vm h → cells + dk ≤ R.cells → slots + dn ≤ R.slots →
      ∃ T' h', Stand p l e R (s.setVm vm) m args below meth c T' locs (cells + dk) (slots + dn) ∧ T'.heap = h' ∧ Ext h h' ∧ F h' h.size ∧ ∀ target, Steps p.tables e below (T'.setTop (mkF m pc' L' (S' h.size))) target → Steps p.tables e below (T.setTop (mkF m pc L S)) target)
    (g : ∀ a h', a = h.size → Ext h h' → F h' a → Safe Z EL vm h' a → Z.heap.size ≤ a → CHr Z EL vm h vm h' → Go nw p l e R s m args below meth c code ml nm ret Z a0 EL own P vm h' (k + dk) (n + dn) pc' L' (S' a)) : Go nw p l e R s m args below meth c code ml nm ret Z a0 EL own P vm h k n pc L S := by
  intro hx hc hm hl hnm hr hon T locs cells slots X hh hF hk hn
  obtain ⟨T', h', X', hh', E, Fh, st2⟩ := st T locs cells slots X hh hx hc hm hon (by omega) (by omega)
  have ch : CHr Z EL vm h vm h' := CHr.ext E hon.2.2.2.1
  obtain ⟨s₂, v, st3, r1, r2, r3, r4, r5⟩ := g h.size h' rfl E Fh (Safe.ext E hon.2.2.2.1 (Safe.new (Nat.le_refl _))) hon.2.2.2.2.1.1 ch hx hc hm hl hnm hr (hon.ext E) T' locs (cells + dk) (slots + dn) X' hh' hF (by omega) (by omega)
  exact ⟨s₂, v, st2 _ st3, r1, r2, r3, ch.trans r4, r5⟩
/-- a step that writes one slot of a cell made since the law began -/
theorem Go.wrote {pc' : Nat} {L' : Array Slot} {S' : List Value} {a : Addr} {sl : Nat} {w : Value} (Sa : Safe Z EL vm h a) (hz : Z.heap.size ≤ a)
    (st : ∀ T locs cells slots, Stand p l e R (s.setVm vm) m args below meth c T locs cells slots → T.heap = h → p.tables.exec = Jvm.exec → c.code = code → c.maxLocals = ml → meth.name = nm → On nw s m Z a0 EL own vm h →
      ∃ T' h', Stand p l e R (s.setVm vm) m args below meth c T' (locs ++ [⟨a, sl⟩]) cells slots ∧ T'.heap = h' ∧ Wr h h' a sl w ∧ ∀ target, Steps p.tables e below (T'.setTop (mkF m pc' L' S')) target → Steps p.tables e below (T.setTop (mkF m pc L S)) target)
    (g : ∀ h', Wr h h' a sl w → Safe Z EL vm h' a → CHr Z EL vm h vm h' → Go nw p l e R s m args below meth c code ml nm ret Z a0 EL own P vm h' k n pc' L' S') : Go nw p l e R s m args below meth c code ml nm ret Z a0 EL own P vm h k n pc L S := by
  intro hx hc hm hl hnm hr hon T locs cells slots X hh hF hk hn
  obtain ⟨T', h', X', hh', W, st2⟩ := st T locs cells slots X hh hx hc hm hnm hon
  have ch : CHr Z EL vm h vm h' := CHr.wr W Sa hon.2.2.2.1
  obtain ⟨s₂, v, st3, r1, r2, r3, r4, r5⟩ := g h' W (Safe.wr W Sa hon.2.2.2.1 Sa) ch hx hc hm hl hnm hr (hon.wr W Sa hz) T' _ cells slots X' hh' (Fr.snoc X' hF hz) hk hn
  exact ⟨s₂, v, st2 _ st3, r1, r2, r3, ch.trans r4, r5⟩
theorem Go.iload_n {i : Fin 4} {v : Int32} (pc' : Nat) (hd : decode code pc = .ok (.iload_n i, 1)) (hp : pc + 1 = pc') (hl : L[i.val]? = some (.val (.int v))) (g : Go nw p l e R s m args below meth c code ml nm ret Z a0 EL own P vm h k n pc' L (.int v :: S)) : Go nw p l e R s m args below meth c code ml nm ret Z a0 EL own P vm h k n pc L S := by
  subst hp; exact g.step fun T hT hx hc _ q => XS.iloadN (g := mkF m pc L (S)) hT hx rfl (hb hc hd) hl q
theorem Go.iload {i : Nat} {v : Int32} (pc' : Nat) (hd : decode code pc = .ok (.iload i, 2)) (hp : pc + 2 = pc') (hl : L[i]? = some (.val (.int v))) (g : Go nw p l e R s m args below meth c code ml nm ret Z a0 EL own P vm h k n pc' L (.int v :: S)) : Go nw p l e R s m args below meth c code ml nm ret Z a0 EL own P vm h k n pc L S := by
  subst hp; exact g.step fun T hT hx hc _ q => XS.iload (g := mkF m pc L (S)) hT hx rfl (hb hc hd) hl q
theorem Go.lload_n {i : Fin 4} {v : Int64} (pc' : Nat) (hd : decode code pc = .ok (.lload_n i, 1)) (hp : pc + 1 = pc') (hl : L[i.val]? = some (.val (.long v))) (g : Go nw p l e R s m args below meth c code ml nm ret Z a0 EL own P vm h k n pc' L (.long v :: S)) : Go nw p l e R s m args below meth c code ml nm ret Z a0 EL own P vm h k n pc L S := by
  subst hp; exact g.step fun T hT hx hc _ q => XS.lloadN (g := mkF m pc L (S)) hT hx rfl (hb hc hd) hl q
theorem Go.lload {i : Nat} {v : Int64} (pc' : Nat) (hd : decode code pc = .ok (.lload i, 2)) (hp : pc + 2 = pc') (hl : L[i]? = some (.val (.long v))) (g : Go nw p l e R s m args below meth c code ml nm ret Z a0 EL own P vm h k n pc' L (.long v :: S)) : Go nw p l e R s m args below meth c code ml nm ret Z a0 EL own P vm h k n pc L S := by
  subst hp; exact g.step fun T hT hx hc _ q => XS.lload (g := mkF m pc L (S)) hT hx rfl (hb hc hd) hl q
theorem Go.aload_n {i : Fin 4} {v : Value} (pc' : Nat) (hd : decode code pc = .ok (.aload_n i, 1)) (hp : pc + 1 = pc') (hl : L[i.val]? = some (.val v)) (hv : v.isRef = true) (g : Go nw p l e R s m args below meth c code ml nm ret Z a0 EL own P vm h k n pc' L (v :: S)) : Go nw p l e R s m args below meth c code ml nm ret Z a0 EL own P vm h k n pc L S := by
  subst hp; exact g.step fun T hT hx hc _ q => XS.aloadN (g := mkF m pc L (S)) hT hx rfl (hb hc hd) hl hv q
theorem Go.aload {i : Nat} {v : Value} (pc' : Nat) (hd : decode code pc = .ok (.aload i, 2)) (hp : pc + 2 = pc') (hl : L[i]? = some (.val v)) (hv : v.isRef = true) (g : Go nw p l e R s m args below meth c code ml nm ret Z a0 EL own P vm h k n pc' L (v :: S)) : Go nw p l e R s m args below meth c code ml nm ret Z a0 EL own P vm h k n pc L S := by
  subst hp; exact g.step fun T hT hx hc _ q => XS.aload (g := mkF m pc L (S)) hT hx rfl (hb hc hd) hl hv q
theorem Go.iconst {i : Int} (v : Int32) (pc' : Nat) (hd : decode code pc = .ok (.iconst i, 1)) (hp : pc + 1 = pc') (hv : Int32.ofInt i = v) (g : Go nw p l e R s m args below meth c code ml nm ret Z a0 EL own P vm h k n pc' L (.int v :: S)) : Go nw p l e R s m args below meth c code ml nm ret Z a0 EL own P vm h k n pc L S := by
  subst hp hv; exact g.step fun T hT hx hc _ q => XS.iconst hT hx rfl (hb hc hd) q
theorem Go.bipush {i : Int} (v : Int32) (pc' : Nat) (hd : decode code pc = .ok (.bipush i, 2)) (hp : pc + 2 = pc') (hv : (Int8.ofInt i).toInt32 = v) (g : Go nw p l e R s m args below meth c code ml nm ret Z a0 EL own P vm h k n pc' L (.int v :: S)) : Go nw p l e R s m args below meth c code ml nm ret Z a0 EL own P vm h k n pc L S := by
  subst hp hv; exact g.step fun T hT hx hc _ q => XS.bipush hT hx rfl (hb hc hd) q
theorem Go.sipush {i : Int} (v : Int32) (pc' : Nat) (hd : decode code pc = .ok (.sipush i, 3)) (hp : pc + 3 = pc') (hv : (Int16.ofInt i).toInt32 = v) (g : Go nw p l e R s m args below meth c code ml nm ret Z a0 EL own P vm h k n pc' L (.int v :: S)) : Go nw p l e R s m args below meth c code ml nm ret Z a0 EL own P vm h k n pc L S := by
  subst hp hv; exact g.step fun T hT hx hc _ q => XS.sipush hT hx rfl (hb hc hd) q
theorem Go.lconst {i : Fin 2} (v : Int64) (pc' : Nat) (hd : decode code pc = .ok (.lconst i, 1)) (hp : pc + 1 = pc') (hv : Int64.ofNat i = v) (g : Go nw p l e R s m args below meth c code ml nm ret Z a0 EL own P vm h k n pc' L (.long v :: S)) : Go nw p l e R s m args below meth c code ml nm ret Z a0 EL own P vm h k n pc L S := by
  subst hp hv; exact g.step fun T hT hx hc _ q => XS.lconst hT hx rfl (hb hc hd) q
theorem Go.aconst_null  (pc' : Nat) (hd : decode code pc = .ok (.aconst_null, 1)) (hp : pc + 1 = pc') (g : Go nw p l e R s m args below meth c code ml nm ret Z a0 EL own P vm h k n pc' L (.null :: S)) : Go nw p l e R s m args below meth c code ml nm ret Z a0 EL own P vm h k n pc L S := by
  subst hp; exact g.step fun T hT hx hc _ q => XS.aconstNull (g := mkF m pc L (S)) hT hx rfl (hb hc hd)  q
theorem Go.istore_n {i : Fin 4} {v : Int32} (L' : Array Slot) (pc' : Nat) (hd : decode code pc = .ok (.istore_n i, 1)) (hp : pc + 1 = pc') (hl : storeLocals L i.val (.int v) = some L') (g : Go nw p l e R s m args below meth c code ml nm ret Z a0 EL own P vm h k n pc' L' S) : Go nw p l e R s m args below meth c code ml nm ret Z a0 EL own P vm h k n pc L (.int v :: S) := by
  subst hp; exact g.step fun T hT hx hc _ q => XS.istoreN hT hx rfl (hb hc hd) rfl hl q
theorem Go.istore {i : Nat} {v : Int32} (L' : Array Slot) (pc' : Nat) (hd : decode code pc = .ok (.istore i, 2)) (hp : pc + 2 = pc') (hl : storeLocals L i (.int v) = some L') (g : Go nw p l e R s m args below meth c code ml nm ret Z a0 EL own P vm h k n pc' L' S) : Go nw p l e R s m args below meth c code ml nm ret Z a0 EL own P vm h k n pc L (.int v :: S) := by
  subst hp; exact g.step fun T hT hx hc _ q => XS.istore hT hx rfl (hb hc hd) rfl hl q
theorem Go.lstore_n {i : Fin 4} {v : Int64} (L' : Array Slot) (pc' : Nat) (hd : decode code pc = .ok (.lstore_n i, 1)) (hp : pc + 1 = pc') (hl : storeLocals L i.val (.long v) = some L') (g : Go nw p l e R s m args below meth c code ml nm ret Z a0 EL own P vm h k n pc' L' S) : Go nw p l e R s m args below meth c code ml nm ret Z a0 EL own P vm h k n pc L (.long v :: S) := by
  subst hp; exact g.step fun T hT hx hc _ q => XS.lstoreN hT hx rfl (hb hc hd) rfl hl q
theorem Go.lstore {i : Nat} {v : Int64} (L' : Array Slot) (pc' : Nat) (hd : decode code pc = .ok (.lstore i, 2)) (hp : pc + 2 = pc') (hl : storeLocals L i (.long v) = some L') (g : Go nw p l e R s m args below meth c code ml nm ret Z a0 EL own P vm h k n pc' L' S) : Go nw p l e R s m args below meth c code ml nm ret Z a0 EL own P vm h k n pc L (.long v :: S) := by
  subst hp; exact g.step fun T hT hx hc _ q => XS.lstore hT hx rfl (hb hc hd) rfl hl q
theorem Go.astore_n {i : Fin 4} {v : Value} (L' : Array Slot) (pc' : Nat) (hd : decode code pc = .ok (.astore_n i, 1)) (hp : pc + 1 = pc') (hv : v.isRef = true) (hl : storeLocals L i.val v = some L') (g : Go nw p l e R s m args below meth c code ml nm ret Z a0 EL own P vm h k n pc' L' S) : Go nw p l e R s m args below meth c code ml nm ret Z a0 EL own P vm h k n pc L (v :: S) := by
  subst hp; exact g.step fun T hT hx hc _ q => XS.astoreN hT hx rfl (hb hc hd) rfl hv hl q
theorem Go.astore {i : Nat} {v : Value} (L' : Array Slot) (pc' : Nat) (hd : decode code pc = .ok (.astore i, 2)) (hp : pc + 2 = pc') (hv : v.isRef = true) (hl : storeLocals L i v = some L') (g : Go nw p l e R s m args below meth c code ml nm ret Z a0 EL own P vm h k n pc' L' S) : Go nw p l e R s m args below meth c code ml nm ret Z a0 EL own P vm h k n pc L (v :: S) := by
  subst hp; exact g.step fun T hT hx hc _ q => XS.astore hT hx rfl (hb hc hd) rfl hv hl q
theorem Go.iinc {i : Nat} {cst : Int} {x : Int32} (w : Int32) (L' : Array Slot) (pc' : Nat) (hd : decode code pc = .ok (.iinc i cst, 3)) (hp : pc + 3 = pc') (hl : L[i]? = some (.val (.int x))) (hw : x + Int32.ofInt cst = w) (hl' : storeLocals L i (.int w) = some L') (g : Go nw p l e R s m args below meth c code ml nm ret Z a0 EL own P vm h k n pc' L' S) : Go nw p l e R s m args below meth c code ml nm ret Z a0 EL own P vm h k n pc L S := by
  subst hp hw; exact g.step fun T hT hx hc _ q => XS.iinc hT hx rfl (hb hc hd) hl hl' q
theorem Go.iadd {x y : Int32} (z : Int32) (pc' : Nat) (hd : decode code pc = .ok (.iadd, 1)) (hp : pc + 1 = pc') (hz : x + y = z) (g : Go nw p l e R s m args below meth c code ml nm ret Z a0 EL own P vm h k n pc' L (.int z :: S)) : Go nw p l e R s m args below meth c code ml nm ret Z a0 EL own P vm h k n pc L (.int y :: .int x :: S) := by
  subst hp hz; exact g.step fun T hT hx hc _ q => XS.iadd hT hx rfl (hb hc hd) rfl  q
theorem Go.isub {x y : Int32} (z : Int32) (pc' : Nat) (hd : decode code pc = .ok (.isub, 1)) (hp : pc + 1 = pc') (hz : x - y = z) (g : Go nw p l e R s m args below meth c code ml nm ret Z a0 EL own P vm h k n pc' L (.int z :: S)) : Go nw p l e R s m args below meth c code ml nm ret Z a0 EL own P vm h k n pc L (.int y :: .int x :: S) := by
  subst hp hz; exact g.step fun T hT hx hc _ q => XS.isub hT hx rfl (hb hc hd) rfl  q
theorem Go.imul {x y : Int32} (z : Int32) (pc' : Nat) (hd : decode code pc = .ok (.imul, 1)) (hp : pc + 1 = pc') (hz : x * y = z) (g : Go nw p l e R s m args below meth c code ml nm ret Z a0 EL own P vm h k n pc' L (.int z :: S)) : Go nw p l e R s m args below meth c code ml nm ret Z a0 EL own P vm h k n pc L (.int y :: .int x :: S) := by
  subst hp hz; exact g.step fun T hT hx hc _ q => XS.imul hT hx rfl (hb hc hd) rfl  q
theorem Go.iand {x y : Int32} (z : Int32) (pc' : Nat) (hd : decode code pc = .ok (.iand, 1)) (hp : pc + 1 = pc') (hz : x &&& y = z) (g : Go nw p l e R s m args below meth c code ml nm ret Z a0 EL own P vm h k n pc' L (.int z :: S)) : Go nw p l e R s m args below meth c code ml nm ret Z a0 EL own P vm h k n pc L (.int y :: .int x :: S) := by
  subst hp hz; exact g.step fun T hT hx hc _ q => XS.iand hT hx rfl (hb hc hd) rfl  q
theorem Go.ior {x y : Int32} (z : Int32) (pc' : Nat) (hd : decode code pc = .ok (.ior, 1)) (hp : pc + 1 = pc') (hz : x ||| y = z) (g : Go nw p l e R s m args below meth c code ml nm ret Z a0 EL own P vm h k n pc' L (.int z :: S)) : Go nw p l e R s m args below meth c code ml nm ret Z a0 EL own P vm h k n pc L (.int y :: .int x :: S) := by
  subst hp hz; exact g.step fun T hT hx hc _ q => XS.ior hT hx rfl (hb hc hd) rfl  q
theorem Go.ixor {x y : Int32} (z : Int32) (pc' : Nat) (hd : decode code pc = .ok (.ixor, 1)) (hp : pc + 1 = pc') (hz : x ^^^ y = z) (g : Go nw p l e R s m args below meth c code ml nm ret Z a0 EL own P vm h k n pc' L (.int z :: S)) : Go nw p l e R s m args below meth c code ml nm ret Z a0 EL own P vm h k n pc L (.int y :: .int x :: S) := by
  subst hp hz; exact g.step fun T hT hx hc _ q => XS.ixor hT hx rfl (hb hc hd) rfl  q
theorem Go.ishl {x y : Int32} (z : Int32) (pc' : Nat) (hd : decode code pc = .ok (.ishl, 1)) (hp : pc + 1 = pc') (hz : x <<< (y &&& 31) = z) (g : Go nw p l e R s m args below meth c code ml nm ret Z a0 EL own P vm h k n pc' L (.int z :: S)) : Go nw p l e R s m args below meth c code ml nm ret Z a0 EL own P vm h k n pc L (.int y :: .int x :: S) := by
  subst hp hz; exact g.step fun T hT hx hc _ q => XS.ishl hT hx rfl (hb hc hd) rfl  q
theorem Go.ishr {x y : Int32} (z : Int32) (pc' : Nat) (hd : decode code pc = .ok (.ishr, 1)) (hp : pc + 1 = pc') (hz : x >>> (y &&& 31) = z) (g : Go nw p l e R s m args below meth c code ml nm ret Z a0 EL own P vm h k n pc' L (.int z :: S)) : Go nw p l e R s m args below meth c code ml nm ret Z a0 EL own P vm h k n pc L (.int y :: .int x :: S) := by
  subst hp hz; exact g.step fun T hT hx hc _ q => XS.ishr hT hx rfl (hb hc hd) rfl  q
theorem Go.iushr {x y : Int32} (z : Int32) (pc' : Nat) (hd : decode code pc = .ok (.iushr, 1)) (hp : pc + 1 = pc') (hz : XT.ushr x y = z) (g : Go nw p l e R s m args below meth c code ml nm ret Z a0 EL own P vm h k n pc' L (.int z :: S)) : Go nw p l e R s m args below meth c code ml nm ret Z a0 EL own P vm h k n pc L (.int y :: .int x :: S) := by
  subst hp hz; exact g.step fun T hT hx hc _ q => XS.iushr hT hx rfl (hb hc hd) rfl  q
theorem Go.idiv {x y : Int32} (z : Int32) (pc' : Nat) (hd : decode code pc = .ok (.idiv, 1)) (hp : pc + 1 = pc') (hy : y ≠ 0) (hz : x / y = z) (g : Go nw p l e R s m args below meth c code ml nm ret Z a0 EL own P vm h k n pc' L (.int z :: S)) : Go nw p l e R s m args below meth c code ml nm ret Z a0 EL own P vm h k n pc L (.int y :: .int x :: S) := by
  subst hp hz; exact g.step fun T hT hx hc _ q => XS.idiv hT hx rfl (hb hc hd) rfl hy q
theorem Go.irem {x y : Int32} (z : Int32) (pc' : Nat) (hd : decode code pc = .ok (.irem, 1)) (hp : pc + 1 = pc') (hy : y ≠ 0) (hz : x - (x / y) * y = z) (g : Go nw p l e R s m args below meth c code ml nm ret Z a0 EL own P vm h k n pc' L (.int z :: S)) : Go nw p l e R s m args below meth c code ml nm ret Z a0 EL own P vm h k n pc L (.int y :: .int x :: S) := by
  subst hp hz; exact g.step fun T hT hx hc _ q => XS.irem hT hx rfl (hb hc hd) rfl hy q
theorem Go.ladd {x y : Int64} (z : Int64) (pc' : Nat) (hd : decode code pc = .ok (.ladd, 1)) (hp : pc + 1 = pc') (hz : x + y = z) (g : Go nw p l e R s m args below meth c code ml nm ret Z a0 EL own P vm h k n pc' L (.long z :: S)) : Go nw p l e R s m args below meth c code ml nm ret Z a0 EL own P vm h k n pc L (.long y :: .long x :: S) := by
  subst hp hz; exact g.step fun T hT hx hc _ q => XS.ladd hT hx rfl (hb hc hd) rfl q
theorem Go.lsub {x y : Int64} (z : Int64) (pc' : Nat) (hd : decode code pc = .ok (.lsub, 1)) (hp : pc + 1 = pc') (hz : x - y = z) (g : Go nw p l e R s m args below meth c code ml nm ret Z a0 EL own P vm h k n pc' L (.long z :: S)) : Go nw p l e R s m args below meth c code ml nm ret Z a0 EL own P vm h k n pc L (.long y :: .long x :: S) := by
  subst hp hz; exact g.step fun T hT hx hc _ q => XS.lsub hT hx rfl (hb hc hd) rfl q
theorem Go.lmul {x y : Int64} (z : Int64) (pc' : Nat) (hd : decode code pc = .ok (.lmul, 1)) (hp : pc + 1 = pc') (hz : x * y = z) (g : Go nw p l e R s m args below meth c code ml nm ret Z a0 EL own P vm h k n pc' L (.long z :: S)) : Go nw p l e R s m args below meth c code ml nm ret Z a0 EL own P vm h k n pc L (.long y :: .long x :: S) := by
  subst hp hz; exact g.step fun T hT hx hc _ q => XS.lmul hT hx rfl (hb hc hd) rfl q
theorem Go.land {x y : Int64} (z : Int64) (pc' : Nat) (hd : decode code pc = .ok (.land, 1)) (hp : pc + 1 = pc') (hz : x &&& y = z) (g : Go nw p l e R s m args below meth c code ml nm ret Z a0 EL own P vm h k n pc' L (.long z :: S)) : Go nw p l e R s m args below meth c code ml nm ret Z a0 EL own P vm h k n pc L (.long y :: .long x :: S) := by
  subst hp hz; exact g.step fun T hT hx hc _ q => XS.land hT hx rfl (hb hc hd) rfl q
theorem Go.lor {x y : Int64} (z : Int64) (pc' : Nat) (hd : decode code pc = .ok (.lor, 1)) (hp : pc + 1 = pc') (hz : x ||| y = z) (g : Go nw p l e R s m args below meth c code ml nm ret Z a0 EL own P vm h k n pc' L (.long z :: S)) : Go nw p l e R s m args below meth c code ml nm ret Z a0 EL own P vm h k n pc L (.long y :: .long x :: S) := by
  subst hp hz; exact g.step fun T hT hx hc _ q => XS.lor hT hx rfl (hb hc hd) rfl q
theorem Go.lxor {x y : Int64} (z : Int64) (pc' : Nat) (hd : decode code pc = .ok (.lxor, 1)) (hp : pc + 1 = pc') (hz : x ^^^ y = z) (g : Go nw p l e R s m args below meth c code ml nm ret Z a0 EL own P vm h k n pc' L (.long z :: S)) : Go nw p l e R s m args below meth c code ml nm ret Z a0 EL own P vm h k n pc L (.long y :: .long x :: S) := by
  subst hp hz; exact g.step fun T hT hx hc _ q => XS.lxor hT hx rfl (hb hc hd) rfl q
theorem Go.lshl {x : Int64} {y : Int32} (z : Int64) (pc' : Nat) (hd : decode code pc = .ok (.lshl, 1)) (hp : pc + 1 = pc') (hz : x <<< (y.toInt64 &&& 63) = z) (g : Go nw p l e R s m args below meth c code ml nm ret Z a0 EL own P vm h k n pc' L (.long z :: S)) : Go nw p l e R s m args below meth c code ml nm ret Z a0 EL own P vm h k n pc L (.int y :: .long x :: S) := by
  subst hp hz; exact g.step fun T hT hx hc _ q => XT.lshl hT hx rfl (hb hc hd) rfl q
theorem Go.lshr {x : Int64} {y : Int32} (z : Int64) (pc' : Nat) (hd : decode code pc = .ok (.lshr, 1)) (hp : pc + 1 = pc') (hz : x >>> (y.toInt64 &&& 63) = z) (g : Go nw p l e R s m args below meth c code ml nm ret Z a0 EL own P vm h k n pc' L (.long z :: S)) : Go nw p l e R s m args below meth c code ml nm ret Z a0 EL own P vm h k n pc L (.int y :: .long x :: S) := by
  subst hp hz; exact g.step fun T hT hx hc _ q => XT.lshr hT hx rfl (hb hc hd) rfl q
theorem Go.lushr {x : Int64} {y : Int32} (z : Int64) (pc' : Nat) (hd : decode code pc = .ok (.lushr, 1)) (hp : pc + 1 = pc') (hz : XT.ushrL x y = z) (g : Go nw p l e R s m args below meth c code ml nm ret Z a0 EL own P vm h k n pc' L (.long z :: S)) : Go nw p l e R s m args below meth c code ml nm ret Z a0 EL own P vm h k n pc L (.int y :: .long x :: S) := by
  subst hp hz; exact g.step fun T hT hx hc _ q => XT.lushr hT hx rfl (hb hc hd) rfl q
theorem Go.lcmp {x y : Int64} (z : Int32) (pc' : Nat) (hd : decode code pc = .ok (.lcmp, 1)) (hp : pc + 1 = pc') (hz : XT.cmpL x y = z) (g : Go nw p l e R s m args below meth c code ml nm ret Z a0 EL own P vm h k n pc' L (.int z :: S)) : Go nw p l e R s m args below meth c code ml nm ret Z a0 EL own P vm h k n pc L (.long y :: .long x :: S) := by
  subst hp hz; exact g.step fun T hT hx hc _ q => XS.lcmp hT hx rfl (hb hc hd) rfl q
theorem Go.ineg {x : Int32} (z : Int32) (pc' : Nat) (hd : decode code pc = .ok (.ineg, 1)) (hp : pc + 1 = pc') (hz : -x = z) (g : Go nw p l e R s m args below meth c code ml nm ret Z a0 EL own P vm h k n pc' L (.int z :: S)) : Go nw p l e R s m args below meth c code ml nm ret Z a0 EL own P vm h k n pc L (.int x :: S) := by
  subst hp hz; exact g.step fun T hT hx hc _ q => XS.ineg hT hx rfl (hb hc hd) rfl q
theorem Go.i2b {x : Int32} (z : Int32) (pc' : Nat) (hd : decode code pc = .ok (.i2b, 1)) (hp : pc + 1 = pc') (hz : x.toInt8.toInt32 = z) (g : Go nw p l e R s m args below meth c code ml nm ret Z a0 EL own P vm h k n pc' L (.int z :: S)) : Go nw p l e R s m args below meth c code ml nm ret Z a0 EL own P vm h k n pc L (.int x :: S) := by
  subst hp hz; exact g.step fun T hT hx hc _ q => XS.i2b hT hx rfl (hb hc hd) rfl q
theorem Go.i2c {x : Int32} (z : Int32) (pc' : Nat) (hd : decode code pc = .ok (.i2c, 1)) (hp : pc + 1 = pc') (hz : x.toUInt32.toUInt16.toUInt32.toInt32 = z) (g : Go nw p l e R s m args below meth c code ml nm ret Z a0 EL own P vm h k n pc' L (.int z :: S)) : Go nw p l e R s m args below meth c code ml nm ret Z a0 EL own P vm h k n pc L (.int x :: S) := by
  subst hp hz; exact g.step fun T hT hx hc _ q => XS.i2c hT hx rfl (hb hc hd) rfl q
theorem Go.i2s {x : Int32} (z : Int32) (pc' : Nat) (hd : decode code pc = .ok (.i2s, 1)) (hp : pc + 1 = pc') (hz : x.toInt16.toInt32 = z) (g : Go nw p l e R s m args below meth c code ml nm ret Z a0 EL own P vm h k n pc' L (.int z :: S)) : Go nw p l e R s m args below meth c code ml nm ret Z a0 EL own P vm h k n pc L (.int x :: S) := by
  subst hp hz; exact g.step fun T hT hx hc _ q => XS.i2s hT hx rfl (hb hc hd) rfl q
theorem Go.i2l {x : Int32} (z : Int64) (pc' : Nat) (hd : decode code pc = .ok (.i2l, 1)) (hp : pc + 1 = pc') (hz : x.toInt64 = z) (g : Go nw p l e R s m args below meth c code ml nm ret Z a0 EL own P vm h k n pc' L (.long z :: S)) : Go nw p l e R s m args below meth c code ml nm ret Z a0 EL own P vm h k n pc L (.int x :: S) := by
  subst hp hz; exact g.step fun T hT hx hc _ q => XS.i2l hT hx rfl (hb hc hd) rfl q
theorem Go.l2i {x : Int64} (z : Int32) (pc' : Nat) (hd : decode code pc = .ok (.l2i, 1)) (hp : pc + 1 = pc') (hz : x.toInt32 = z) (g : Go nw p l e R s m args below meth c code ml nm ret Z a0 EL own P vm h k n pc' L (.int z :: S)) : Go nw p l e R s m args below meth c code ml nm ret Z a0 EL own P vm h k n pc L (.long x :: S) := by
  subst hp hz; exact g.step fun T hT hx hc _ q => XS.l2i hT hx rfl (hb hc hd) rfl q
theorem Go.lneg {x : Int64} (z : Int64) (pc' : Nat) (hd : decode code pc = .ok (.lneg, 1)) (hp : pc + 1 = pc') (hz : -x = z) (g : Go nw p l e R s m args below meth c code ml nm ret Z a0 EL own P vm h k n pc' L (.long z :: S)) : Go nw p l e R s m args below meth c code ml nm ret Z a0 EL own P vm h k n pc L (.long x :: S) := by
  subst hp hz; exact g.step fun T hT hx hc _ q => XS.lneg hT hx rfl (hb hc hd) rfl q
theorem Go.dup {x : Value} (pc' : Nat) (hd : decode code pc = .ok (.dup, 1)) (hp : pc + 1 = pc') (hx1 : x.category = 1) (g : Go nw p l e R s m args below meth c code ml nm ret Z a0 EL own P vm h k n pc' L (x :: x :: S)) : Go nw p l e R s m args below meth c code ml nm ret Z a0 EL own P vm h k n pc L (x :: S) := by
  subst hp; exact g.step fun T hT hx hc _ q => XS.dup (g := mkF m pc L (x :: S)) hT hx rfl (hb hc hd) rfl hx1 q
theorem Go.pop {x : Value} (pc' : Nat) (hd : decode code pc = .ok (.pop, 1)) (hp : pc + 1 = pc') (hx1 : x.category = 1) (g : Go nw p l e R s m args below meth c code ml nm ret Z a0 EL own P vm h k n pc' L S) : Go nw p l e R s m args below meth c code ml nm ret Z a0 EL own P vm h k n pc L (x :: S) := by
  subst hp; exact g.step fun T hT hx hc _ q => XS.pop (g := mkF m pc L (x :: S)) hT hx rfl (hb hc hd) rfl hx1 q
theorem Go.dup_x1 {x y : Value} (pc' : Nat) (hd : decode code pc = .ok (.dup_x1, 1)) (hp : pc + 1 = pc') (hx1 : x.category = 1) (hx2 : y.category = 1) (g : Go nw p l e R s m args below meth c code ml nm ret Z a0 EL own P vm h k n pc' L (x :: y :: x :: S)) : Go nw p l e R s m args below meth c code ml nm ret Z a0 EL own P vm h k n pc L (x :: y :: S) := by
  subst hp; exact g.step fun T hT hx hc _ q => XS.dupX1 (g := mkF m pc L (x :: y :: S)) hT hx rfl (hb hc hd) rfl hx1 hx2 q
theorem Go.dup2 {x y : Value} (pc' : Nat) (hd : decode code pc = .ok (.dup2, 1)) (hp : pc + 1 = pc') (hx1 : x.category = 1) (hx2 : y.category = 1) (g : Go nw p l e R s m args below meth c code ml nm ret Z a0 EL own P vm h k n pc' L (x :: y :: x :: y :: S)) : Go nw p l e R s m args below meth c code ml nm ret Z a0 EL own P vm h k n pc L (x :: y :: S) := by
  subst hp; exact g.step fun T hT hx hc _ q => XT.dup2 (g := mkF m pc L (x :: y :: S)) hT hx rfl (hb hc hd) rfl hx1 hx2 q
theorem Go.goto {o : Int} (pc' : Nat) (hd : decode code pc = .ok (.goto o, 3)) (ho : 0 ≤ (pc : Int) + o) (hp : ((pc : Int) + o).toNat = pc') (g : Go nw p l e R s m args below meth c code ml nm ret Z a0 EL own P vm h k n pc' L S) : Go nw p l e R s m args below meth c code ml nm ret Z a0 EL own P vm h k n pc L S :=
  g.step fun T hT hx hc _ q => XS.goto hT hx rfl rfl (hb hc hd) ho hp q
theorem Go.ifB {cd : ClassFile.Cond} {x : Int32} {o : Int} (pc' pc'' : Nat) (hd : decode code pc = .ok (.ifCond cd o, 3)) (ho : 0 ≤ (pc : Int) + o) (hp : ((pc : Int) + o).toNat = pc') (hq : pc + 3 = pc'')
    (gt : ifCond.holds cd x = true → Go nw p l e R s m args below meth c code ml nm ret Z a0 EL own P vm h k n pc' L S) (gf : ifCond.holds cd x = false → Go nw p l e R s m args below meth c code ml nm ret Z a0 EL own P vm h k n pc'' L S) : Go nw p l e R s m args below meth c code ml nm ret Z a0 EL own P vm h k n pc L (.int x :: S) := by
  subst hq
  cases hh : ifCond.holds cd x
  · exact (gf hh).step fun T hT hx hc _ q => XS.ifNo hT hx rfl (hb hc hd) rfl hh q
  · exact (gt hh).step fun T hT hx hc _ q => XS.ifYes hT hx rfl rfl (hb hc hd) rfl hh ho hp q
theorem Go.icmpB {cd : ClassFile.Cond} {x y : Int32} {o : Int} (pc' pc'' : Nat) (hd : decode code pc = .ok (.if_icmp cd o, 3)) (ho : 0 ≤ (pc : Int) + o) (hp : ((pc : Int) + o).toNat = pc') (hq : pc + 3 = pc'')
    (gt : if_icmp.holds cd x y = true → Go nw p l e R s m args below meth c code ml nm ret Z a0 EL own P vm h k n pc' L S) (gf : if_icmp.holds cd x y = false → Go nw p l e R s m args below meth c code ml nm ret Z a0 EL own P vm h k n pc'' L S) : Go nw p l e R s m args below meth c code ml nm ret Z a0 EL own P vm h k n pc L (.int y :: .int x :: S) := by
  subst hq
  cases hh : if_icmp.holds cd x y
  · exact (gf hh).step fun T hT hx hc _ q => XS.icmpNo hT hx rfl (hb hc hd) rfl hh q
  · exact (gt hh).step fun T hT hx hc _ q => XS.icmpYes hT hx rfl rfl (hb hc hd) rfl hh ho hp q
theorem Go.if_icmpeq {x y : Int32} {o : Int} (pc' pc'' : Nat) (hd : decode code pc = .ok (.if_icmp .eq o, 3)) (ho : 0 ≤ (pc : Int) + o) (hp : ((pc : Int) + o).toNat = pc') (hq : pc + 3 = pc'')
    (gt : x = y → Go nw p l e R s m args below meth c code ml nm ret Z a0 EL own P vm h k n pc' L S) (gf : ¬ x = y → Go nw p l e R s m args below meth c code ml nm ret Z a0 EL own P vm h k n pc'' L S) : Go nw p l e R s m args below meth c code ml nm ret Z a0 EL own P vm h k n pc L (.int y :: .int x :: S) := by
  by_cases q : x = y
  · exact Go.icmpB pc' pc'' hd ho hp hq (fun r => by first | exact gt q | exact absurd (r.symm.trans (teq q).1) (by simp)) (fun r => by first | exact gf q | exact absurd (r.symm.trans (teq q).1) (by simp))
  · exact Go.icmpB pc' pc'' hd ho hp hq (fun r => by first | exact gt q | exact absurd (r.symm.trans (feq q).1) (by simp)) (fun r => by first | exact gf q | exact absurd (r.symm.trans (feq q).1) (by simp))
theorem Go.ifeq {x : Int32} {o : Int} (pc' pc'' : Nat) (hd : decode code pc = .ok (.ifCond .eq o, 3)) (ho : 0 ≤ (pc : Int) + o) (hp : ((pc : Int) + o).toNat = pc') (hq : pc + 3 = pc'')
    (gt : x = 0 → Go nw p l e R s m args below meth c code ml nm ret Z a0 EL own P vm h k n pc' L S) (gf : ¬ x = 0 → Go nw p l e R s m args below meth c code ml nm ret Z a0 EL own P vm h k n pc'' L S) : Go nw p l e R s m args below meth c code ml nm ret Z a0 EL own P vm h k n pc L (.int x :: S) := by
  by_cases q : x = 0
  · exact Go.ifB pc' pc'' hd ho hp hq (fun r => by first | exact gt q | exact absurd (r.symm.trans ((if0 _ _).trans (teq q).1)) (by simp)) (fun r => by first | exact gf q | exact absurd (r.symm.trans ((if0 _ _).trans (teq q).1)) (by simp))
  · exact Go.ifB pc' pc'' hd ho hp hq (fun r => by first | exact gt q | exact absurd (r.symm.trans ((if0 _ _).trans (feq q).1)) (by simp)) (fun r => by first | exact gf q | exact absurd (r.symm.trans ((if0 _ _).trans (feq q).1)) (by simp))
theorem Go.if_icmpne {x y : Int32} {o : Int} (pc' pc'' : Nat) (hd : decode code pc = .ok (.if_icmp .ne o, 3)) (ho : 0 ≤ (pc : Int) + o) (hp : ((pc : Int) + o).toNat = pc') (hq : pc + 3 = pc'')
    (gt : ¬ x = y → Go nw p l e R s m args below meth c code ml nm ret Z a0 EL own P vm h k n pc' L S) (gf : x = y → Go nw p l e R s m args below meth c code ml nm ret Z a0 EL own P vm h k n pc'' L S) : Go nw p l e R s m args below meth c code ml nm ret Z a0 EL own P vm h k n pc L (.int y :: .int x :: S) := by
  by_cases q : x = y
  · exact Go.icmpB pc' pc'' hd ho hp hq (fun r => by first | exact gt q | exact absurd (r.symm.trans (teq q).2) (by simp)) (fun r => by first | exact gf q | exact absurd (r.symm.trans (teq q).2) (by simp))
  · exact Go.icmpB pc' pc'' hd ho hp hq (fun r => by first | exact gt q | exact absurd (r.symm.trans (feq q).2) (by simp)) (fun r => by first | exact gf q | exact absurd (r.symm.trans (feq q).2) (by simp))
theorem Go.ifne {x : Int32} {o : Int} (pc' pc'' : Nat) (hd : decode code pc = .ok (.ifCond .ne o, 3)) (ho : 0 ≤ (pc : Int) + o) (hp : ((pc : Int) + o).toNat = pc') (hq : pc + 3 = pc'')
    (gt : ¬ x = 0 → Go nw p l e R s m args below meth c code ml nm ret Z a0 EL own P vm h k n pc' L S) (gf : x = 0 → Go nw p l e R s m args below meth c code ml nm ret Z a0 EL own P vm h k n pc'' L S) : Go nw p l e R s m args below meth c code ml nm ret Z a0 EL own P vm h k n pc L (.int x :: S) := by
  by_cases q : x = 0
  · exact Go.ifB pc' pc'' hd ho hp hq (fun r => by first | exact gt q | exact absurd (r.symm.trans ((if0 _ _).trans (teq q).2)) (by simp)) (fun r => by first | exact gf q | exact absurd (r.symm.trans ((if0 _ _).trans (teq q).2)) (by simp))
  · exact Go.ifB pc' pc'' hd ho hp hq (fun r => by first | exact gt q | exact absurd (r.symm.trans ((if0 _ _).trans (feq q).2)) (by simp)) (fun r => by first | exact gf q | exact absurd (r.symm.trans ((if0 _ _).trans (feq q).2)) (by simp))
theorem Go.if_icmplt {x y : Int32} {o : Int} (pc' pc'' : Nat) (hd : decode code pc = .ok (.if_icmp .lt o, 3)) (ho : 0 ≤ (pc : Int) + o) (hp : ((pc : Int) + o).toNat = pc') (hq : pc + 3 = pc'')
    (gt : x < y → Go nw p l e R s m args below meth c code ml nm ret Z a0 EL own P vm h k n pc' L S) (gf : ¬ x < y → Go nw p l e R s m args below meth c code ml nm ret Z a0 EL own P vm h k n pc'' L S) : Go nw p l e R s m args below meth c code ml nm ret Z a0 EL own P vm h k n pc L (.int y :: .int x :: S) := by
  by_cases q : x < y
  · exact Go.icmpB pc' pc'' hd ho hp hq (fun r => by first | exact gt q | exact absurd (r.symm.trans (tlt q).1) (by simp)) (fun r => by first | exact gf q | exact absurd (r.symm.trans (tlt q).1) (by simp))
  · exact Go.icmpB pc' pc'' hd ho hp hq (fun r => by first | exact gt q | exact absurd (r.symm.trans (flt q).1) (by simp)) (fun r => by first | exact gf q | exact absurd (r.symm.trans (flt q).1) (by simp))
theorem Go.iflt {x : Int32} {o : Int} (pc' pc'' : Nat) (hd : decode code pc = .ok (.ifCond .lt o, 3)) (ho : 0 ≤ (pc : Int) + o) (hp : ((pc : Int) + o).toNat = pc') (hq : pc + 3 = pc'')
    (gt : x < 0 → Go nw p l e R s m args below meth c code ml nm ret Z a0 EL own P vm h k n pc' L S) (gf : ¬ x < 0 → Go nw p l e R s m args below meth c code ml nm ret Z a0 EL own P vm h k n pc'' L S) : Go nw p l e R s m args below meth c code ml nm ret Z a0 EL own P vm h k n pc L (.int x :: S) := by
  by_cases q : x < 0
  · exact Go.ifB pc' pc'' hd ho hp hq (fun r => by first | exact gt q | exact absurd (r.symm.trans ((if0 _ _).trans (tlt q).1)) (by simp)) (fun r => by first | exact gf q | exact absurd (r.symm.trans ((if0 _ _).trans (tlt q).1)) (by simp))
  · exact Go.ifB pc' pc'' hd ho hp hq (fun r => by first | exact gt q | exact absurd (r.symm.trans ((if0 _ _).trans (flt q).1)) (by simp)) (fun r => by first | exact gf q | exact absurd (r.symm.trans ((if0 _ _).trans (flt q).1)) (by simp))
theorem Go.if_icmpge {x y : Int32} {o : Int} (pc' pc'' : Nat) (hd : decode code pc = .ok (.if_icmp .ge o, 3)) (ho : 0 ≤ (pc : Int) + o) (hp : ((pc : Int) + o).toNat = pc') (hq : pc + 3 = pc'')
    (gt : ¬ x < y → Go nw p l e R s m args below meth c code ml nm ret Z a0 EL own P vm h k n pc' L S) (gf : x < y → Go nw p l e R s m args below meth c code ml nm ret Z a0 EL own P vm h k n pc'' L S) : Go nw p l e R s m args below meth c code ml nm ret Z a0 EL own P vm h k n pc L (.int y :: .int x :: S) := by
  by_cases q : x < y
  · exact Go.icmpB pc' pc'' hd ho hp hq (fun r => by first | exact gt q | exact absurd (r.symm.trans (tlt q).2.1) (by simp)) (fun r => by first | exact gf q | exact absurd (r.symm.trans (tlt q).2.1) (by simp))
  · exact Go.icmpB pc' pc'' hd ho hp hq (fun r => by first | exact gt q | exact absurd (r.symm.trans (flt q).2.1) (by simp)) (fun r => by first | exact gf q | exact absurd (r.symm.trans (flt q).2.1) (by simp))
theorem Go.ifge {x : Int32} {o : Int} (pc' pc'' : Nat) (hd : decode code pc = .ok (.ifCond .ge o, 3)) (ho : 0 ≤ (pc : Int) + o) (hp : ((pc : Int) + o).toNat = pc') (hq : pc + 3 = pc'')
    (gt : ¬ x < 0 → Go nw p l e R s m args below meth c code ml nm ret Z a0 EL own P vm h k n pc' L S) (gf : x < 0 → Go nw p l e R s m args below meth c code ml nm ret Z a0 EL own P vm h k n pc'' L S) : Go nw p l e R s m args below meth c code ml nm ret Z a0 EL own P vm h k n pc L (.int x :: S) := by
  by_cases q : x < 0
  · exact Go.ifB pc' pc'' hd ho hp hq (fun r => by first | exact gt q | exact absurd (r.symm.trans ((if0 _ _).trans (tlt q).2.1)) (by simp)) (fun r => by first | exact gf q | exact absurd (r.symm.trans ((if0 _ _).trans (tlt q).2.1)) (by simp))
  · exact Go.ifB pc' pc'' hd ho hp hq (fun r => by first | exact gt q | exact absurd (r.symm.trans ((if0 _ _).trans (flt q).2.1)) (by simp)) (fun r => by first | exact gf q | exact absurd (r.symm.trans ((if0 _ _).trans (flt q).2.1)) (by simp))
theorem Go.if_icmpgt {x y : Int32} {o : Int} (pc' pc'' : Nat) (hd : decode code pc = .ok (.if_icmp .gt o, 3)) (ho : 0 ≤ (pc : Int) + o) (hp : ((pc : Int) + o).toNat = pc') (hq : pc + 3 = pc'')
    (gt : y < x → Go nw p l e R s m args below meth c code ml nm ret Z a0 EL own P vm h k n pc' L S) (gf : ¬ y < x → Go nw p l e R s m args below meth c code ml nm ret Z a0 EL own P vm h k n pc'' L S) : Go nw p l e R s m args below meth c code ml nm ret Z a0 EL own P vm h k n pc L (.int y :: .int x :: S) := by
  by_cases q : y < x
  · exact Go.icmpB pc' pc'' hd ho hp hq (fun r => by first | exact gt q | exact absurd (r.symm.trans (tlt q).2.2.1) (by simp)) (fun r => by first | exact gf q | exact absurd (r.symm.trans (tlt q).2.2.1) (by simp))
  · exact Go.icmpB pc' pc'' hd ho hp hq (fun r => by first | exact gt q | exact absurd (r.symm.trans (flt q).2.2.1) (by simp)) (fun r => by first | exact gf q | exact absurd (r.symm.trans (flt q).2.2.1) (by simp))
theorem Go.ifgt {x : Int32} {o : Int} (pc' pc'' : Nat) (hd : decode code pc = .ok (.ifCond .gt o, 3)) (ho : 0 ≤ (pc : Int) + o) (hp : ((pc : Int) + o).toNat = pc') (hq : pc + 3 = pc'')
    (gt : 0 < x → Go nw p l e R s m args below meth c code ml nm ret Z a0 EL own P vm h k n pc' L S) (gf : ¬ 0 < x → Go nw p l e R s m args below meth c code ml nm ret Z a0 EL own P vm h k n pc'' L S) : Go nw p l e R s m args below meth c code ml nm ret Z a0 EL own P vm h k n pc L (.int x :: S) := by
  by_cases q : 0 < x
  · exact Go.ifB pc' pc'' hd ho hp hq (fun r => by first | exact gt q | exact absurd (r.symm.trans ((if0 _ _).trans (tlt q).2.2.1)) (by simp)) (fun r => by first | exact gf q | exact absurd (r.symm.trans ((if0 _ _).trans (tlt q).2.2.1)) (by simp))
  · exact Go.ifB pc' pc'' hd ho hp hq (fun r => by first | exact gt q | exact absurd (r.symm.trans ((if0 _ _).trans (flt q).2.2.1)) (by simp)) (fun r => by first | exact gf q | exact absurd (r.symm.trans ((if0 _ _).trans (flt q).2.2.1)) (by simp))
theorem Go.if_icmple {x y : Int32} {o : Int} (pc' pc'' : Nat) (hd : decode code pc = .ok (.if_icmp .le o, 3)) (ho : 0 ≤ (pc : Int) + o) (hp : ((pc : Int) + o).toNat = pc') (hq : pc + 3 = pc'')
    (gt : ¬ y < x → Go nw p l e R s m args below meth c code ml nm ret Z a0 EL own P vm h k n pc' L S) (gf : y < x → Go nw p l e R s m args below meth c code ml nm ret Z a0 EL own P vm h k n pc'' L S) : Go nw p l e R s m args below meth c code ml nm ret Z a0 EL own P vm h k n pc L (.int y :: .int x :: S) := by
  by_cases q : y < x
  · exact Go.icmpB pc' pc'' hd ho hp hq (fun r => by first | exact gt q | exact absurd (r.symm.trans (tlt q).2.2.2) (by simp)) (fun r => by first | exact gf q | exact absurd (r.symm.trans (tlt q).2.2.2) (by simp))
  · exact Go.icmpB pc' pc'' hd ho hp hq (fun r => by first | exact gt q | exact absurd (r.symm.trans (flt q).2.2.2) (by simp)) (fun r => by first | exact gf q | exact absurd (r.symm.trans (flt q).2.2.2) (by simp))
theorem Go.ifle {x : Int32} {o : Int} (pc' pc'' : Nat) (hd : decode code pc = .ok (.ifCond .le o, 3)) (ho : 0 ≤ (pc : Int) + o) (hp : ((pc : Int) + o).toNat = pc') (hq : pc + 3 = pc'')
    (gt : ¬ 0 < x → Go nw p l e R s m args below meth c code ml nm ret Z a0 EL own P vm h k n pc' L S) (gf : 0 < x → Go nw p l e R s m args below meth c code ml nm ret Z a0 EL own P vm h k n pc'' L S) : Go nw p l e R s m args below meth c code ml nm ret Z a0 EL own P vm h k n pc L (.int x :: S) := by
  by_cases q : 0 < x
  · exact Go.ifB pc' pc'' hd ho hp hq (fun r => by first | exact gt q | exact absurd (r.symm.trans ((if0 _ _).trans (tlt q).2.2.2)) (by simp)) (fun r => by first | exact gf q | exact absurd (r.symm.trans ((if0 _ _).trans (tlt q).2.2.2)) (by simp))
  · exact Go.ifB pc' pc'' hd ho hp hq (fun r => by first | exact gt q | exact absurd (r.symm.trans ((if0 _ _).trans (flt q).2.2.2)) (by simp)) (fun r => by first | exact gf q | exact absurd (r.symm.trans ((if0 _ _).trans (flt q).2.2.2)) (by simp))
theorem Go.ifnull_y {o : Int} (pc' : Nat) (hd : decode code pc = .ok (.ifnull o, 3)) (ho : 0 ≤ (pc : Int) + o) (hp : ((pc : Int) + o).toNat = pc') (g : Go nw p l e R s m args below meth c code ml nm ret Z a0 EL own P vm h k n pc' L S) : Go nw p l e R s m args below meth c code ml nm ret Z a0 EL own P vm h k n pc L (.null :: S) :=
  g.step fun T hT hx hc _ q => XS.ifnullYes hT hx rfl rfl (hb hc hd) rfl ho hp q
theorem Go.ifnull_n {o : Int} {b : Addr} (pc' : Nat) (hd : decode code pc = .ok (.ifnull o, 3)) (hp : pc + 3 = pc') (g : Go nw p l e R s m args below meth c code ml nm ret Z a0 EL own P vm h k n pc' L S) : Go nw p l e R s m args below meth c code ml nm ret Z a0 EL own P vm h k n pc L (.ref b :: S) := by
  subst hp; exact g.step fun T hT hx hc _ q => XS.ifnullNo hT hx rfl (hb hc hd) rfl q
theorem Go.ifnonnull_y {o : Int} {b : Addr} (pc' : Nat) (hd : decode code pc = .ok (.ifnonnull o, 3)) (ho : 0 ≤ (pc : Int) + o) (hp : ((pc : Int) + o).toNat = pc') (g : Go nw p l e R s m args below meth c code ml nm ret Z a0 EL own P vm h k n pc' L S) : Go nw p l e R s m args below meth c code ml nm ret Z a0 EL own P vm h k n pc L (.ref b :: S) :=
  g.step fun T hT hx hc _ q => XS.ifnonnullYes hT hx rfl rfl (hb hc hd) rfl ho hp q
theorem Go.ifnonnull_n {o : Int} (pc' : Nat) (hd : decode code pc = .ok (.ifnonnull o, 3)) (hp : pc + 3 = pc') (g : Go nw p l e R s m args below meth c code ml nm ret Z a0 EL own P vm h k n pc' L S) : Go nw p l e R s m args below meth c code ml nm ret Z a0 EL own P vm h k n pc L (.null :: S) := by
  subst hp; exact g.step fun T hT hx hc _ q => XS.ifnonnullNo hT hx rfl (hb hc hd) rfl q
theorem Go.acmp_y {cd : ClassFile.ACond} {x y : Value} {o : Int} (pc' : Nat) (hd : decode code pc = .ok (.if_acmp cd o, 3)) (ho : 0 ≤ (pc : Int) + o) (hp : ((pc : Int) + o).toNat = pc') (h1 : x.isRef = true) (h2 : y.isRef = true) (hq : XT.acmp cd x y = true) (g : Go nw p l e R s m args below meth c code ml nm ret Z a0 EL own P vm h k n pc' L S) : Go nw p l e R s m args below meth c code ml nm ret Z a0 EL own P vm h k n pc L (y :: x :: S) :=
  g.step fun T hT hx hc _ q => XT.acmpYes hT hx rfl rfl (hb hc hd) rfl h1 h2 hq ho hp q
theorem Go.acmp_n {cd : ClassFile.ACond} {x y : Value} {o : Int} (pc' : Nat) (hd : decode code pc = .ok (.if_acmp cd o, 3)) (hp : pc + 3 = pc') (h1 : x.isRef = true) (h2 : y.isRef = true) (hq : XT.acmp cd x y = false) (g : Go nw p l e R s m args below meth c code ml nm ret Z a0 EL own P vm h k n pc' L S) : Go nw p l e R s m args below meth c code ml nm ret Z a0 EL own P vm h k n pc L (y :: x :: S) := by
  subst hp; exact g.step fun T hT hx hc _ q => XT.acmpNo hT hx rfl (hb hc hd) rfl h1 h2 hq q
theorem Go.getfield {O n' d : String} {idx : Nat} {a : Addr} {v : Value} (pc' : Nat) (hd : decode code pc = .ok (.getfield idx, 3)) (hp : pc + 3 = pc') (w : (Cond.fieldLink own idx O n' d).before a0 Z = true) (F : Fld Z h a O n' d v) (g : Go nw p l e R s m args below meth c code ml nm ret Z a0 EL own P vm h k n pc' L (v :: S)) : Go nw p l e R s m args below meth c code ml nm ret Z a0 EL own P vm h k n pc L (.ref a :: S) := by
  subst hp
  exact g.note fun T locs cells slots X hh hx hc hm hon => getF X hx hon.2.1 (host := "") hon.2.2.1 (Or.inl w) Via.refl hh F (g := mkF m pc L (.ref a :: S)) rfl rfl (hb hc hd)
theorem Go.getfieldV {R0 O n' d : String} {idx : Nat} {a : Addr} {v : Value} (pc' : Nat) (hd : decode code pc = .ok (.getfield idx, 3)) (hp : pc + 3 = pc') (w : (Cond.fieldLink own idx R0 n' d).before a0 Z = true) (via : (Cond.sameField R0 O n' d).before a0 Z = true) (F : Fld Z h a O n' d v) (g : Go nw p l e R s m args below meth c code ml nm ret Z a0 EL own P vm h k n pc' L (v :: S)) : Go nw p l e R s m args below meth c code ml nm ret Z a0 EL own P vm h k n pc L (.ref a :: S) := by
  subst hp
  exact g.note fun T locs cells slots X hh hx hc hm hon => getF X hx hon.2.1 (host := "") hon.2.2.1 (Or.inl w) (Via.of via) hh F (g := mkF m pc L (.ref a :: S)) rfl rfl (hb hc hd)
theorem Go.getstatic {O n' d : String} {idx : Nat} {v : Value} (pc' : Nat) (hd : decode code pc = .ok (.getstatic idx, 3)) (hp : pc + 3 = pc') (w : (Cond.fieldLink own idx O n' d).before a0 Z = true) (F : Sta Z h O n' d v) (g : Go nw p l e R s m args below meth c code ml nm ret Z a0 EL own P vm h k n pc' L (v :: S)) : Go nw p l e R s m args below meth c code ml nm ret Z a0 EL own P vm h k n pc L S := by
  subst hp
  exact g.note fun T locs cells slots X hh hx hc hm hon => getS X hx hon.2.1 (host := "") hon.2.2.1 w Via.refl hh F (g := mkF m pc L S) rfl (hb hc hd)
theorem Go.putfield {O n' d C : String} {idx kk : Nat} {ty : FieldType} {a : Addr} {v v0 : Value} (pc' : Nat) (hd : decode code pc = .ok (.putfield idx, 3)) (hp : pc + 3 = pc') (w : (Cond.fieldLink own idx O n' d).before a0 Z = true) (F : Fld Z h a O n' d v0) (E : Exa Z h a C)
    (Lf : (Cond.lays C O n' d).before a0 Z = true ∨ ((Cond.laysFinal C O n' d).before a0 Z = true ∧ own = O ∧ nm = "<init>")) (wi : (Cond.instantiable C kk).before a0 Z = true) (hty : parseFieldDescriptor d = some ty) (hn' : narrow ty v = v) (hf : fits ty v = true)
    (Sa : Safe Z EL vm h a) (hz : Z.heap.size ≤ a) (g : ∀ h', Wr h h' a (RoadKit.slotOf Z O n' d) v → Safe Z EL vm h' a → CHr Z EL vm h vm h' → Go nw p l e R s m args below meth c code ml nm ret Z a0 EL own P vm h' k n pc' L S) : Go nw p l e R s m args below meth c code ml nm ret Z a0 EL own P vm h k n pc L (v :: .ref a :: S) := by
  subst hp
  refine Go.wrote Sa hz (fun T locs cells slots X hh hx hc hm hnm hon => ?_) g
  exact putF X hx hon.2.1 (host := "") hon.2.2.1 (Or.inl w) Via.refl hh F E (Lf.imp id fun q => ⟨q.1, q.2.1, hnm.trans q.2.2⟩) wi hty hn' hf (g := mkF m pc L (v :: .ref a :: S)) rfl rfl (hb hc hd)
theorem Go.putfieldV {R0 O n' d C : String} {idx kk : Nat} {ty : FieldType} {a : Addr} {v v0 : Value} (pc' : Nat) (hd : decode code pc = .ok (.putfield idx, 3)) (hp : pc + 3 = pc') (w : (Cond.fieldLink own idx R0 n' d).before a0 Z = true) (via : (Cond.sameField R0 O n' d).before a0 Z = true) (F : Fld Z h a O n' d v0) (E : Exa Z h a C)
    (Lf : (Cond.lays C O n' d).before a0 Z = true ∨ ((Cond.laysFinal C O n' d).before a0 Z = true ∧ own = O ∧ nm = "<init>")) (wi : (Cond.instantiable C kk).before a0 Z = true) (hty : parseFieldDescriptor d = some ty) (hn' : narrow ty v = v) (hf : fits ty v = true)
    (Sa : Safe Z EL vm h a) (hz : Z.heap.size ≤ a) (g : ∀ h', Wr h h' a (RoadKit.slotOf Z O n' d) v → Safe Z EL vm h' a → CHr Z EL vm h vm h' → Go nw p l e R s m args below meth c code ml nm ret Z a0 EL own P vm h' k n pc' L S) : Go nw p l e R s m args below meth c code ml nm ret Z a0 EL own P vm h k n pc L (v :: .ref a :: S) := by
  subst hp
  refine Go.wrote Sa hz (fun T locs cells slots X hh hx hc hm hnm hon => ?_) g
  exact putF X hx hon.2.1 (host := "") hon.2.2.1 (Or.inl w) (Via.of via) hh F E (Lf.imp id fun q => ⟨q.1, q.2.1, hnm.trans q.2.2⟩) wi hty hn' hf (g := mkF m pc L (v :: .ref a :: S)) rfl rfl (hb hc hd)
theorem Go.new {C : String} {idx nf : Nat} (pc' : Nat) (hd : decode code pc = .ok (.new idx, 3)) (hp : pc + 3 = pc') (w : (Cond.classLink own idx C).before a0 Z = true) (wi : (Cond.instantiable C nf).before a0 Z = true) (wz : (Cond.initialized C).before a0 Z = true) (hk0 : k + 1 ≤ R.cells) (hn0 : n + nf ≤ R.slots)
    (g : ∀ a h', a = h.size → Ext h h' → (Exa Z h' a C ∧ ∀ {O n' d : String} {ty : FieldType}, Laid Z a0 C O n' d → parseFieldDescriptor d = some ty → Fld Z h' a O n' d (defaultValue ty)) → Safe Z EL vm h' a → Z.heap.size ≤ a → CHr Z EL vm h vm h' → Go nw p l e R s m args below meth c code ml nm ret Z a0 EL own P vm h' (k + 1) (n + nf) pc' L (.ref a :: S)) : Go nw p l e R s m args below meth c code ml nm ret Z a0 EL own P vm h k n pc L S := by
  subst hp
  refine Go.made (dk := 1) (dn := nf) (S' := fun a => .ref a :: S) (F := fun h' a => Exa Z h' a C ∧ ∀ {O n' d : String} {ty : FieldType}, Laid Z a0 C O n' d → parseFieldDescriptor d = some ty → Fld Z h' a O n' d (defaultValue ty)) hk0 hn0 (fun T locs cells slots X hh hx hc hm hon q1 q2 => ?_) g
  obtain ⟨T', h', X', e', E, A, D, -, st⟩ := newO X hx hon.2.1 hon.2.2.1 w wi wz hh (g := mkF m pc L S) rfl (hb hc hd) q1 q2
  exact ⟨T', h', X', e', E, ⟨A, D⟩, st⟩
theorem Go.newarray {aty : ArrayType} {z : Int32} (cap : Nat) (pc' : Nat) (hd : decode code pc = .ok (.newarray aty, 2)) (hp : pc + 2 = pc') (w : (Cond.arrayClass (newarray.typeOf aty)).before a0 Z = true) (hz : ¬ z < 0) (hcap : z.toNatClampNeg ≤ cap) (hb8 : cap * 8 ≤ 536870912) (hk0 : k + 1 ≤ R.cells) (hn0 : n + cap ≤ R.slots)
    (g : ∀ a h', a = h.size → Ext h h' → (∃ cA, Arv Z h' a cA (newarray.typeOf aty) z [] (defaultValue (newarray.typeOf aty))) → Safe Z EL vm h' a → Z.heap.size ≤ a → CHr Z EL vm h vm h' → Go nw p l e R s m args below meth c code ml nm ret Z a0 EL own P vm h' (k + 1) (n + cap) pc' L (.ref a :: S)) : Go nw p l e R s m args below meth c code ml nm ret Z a0 EL own P vm h k n pc L (.int z :: S) := by
  subst hp
  refine Go.made (dk := 1) (dn := cap) (S' := fun a => .ref a :: S) (F := fun h' a => ∃ cA, Arv Z h' a cA (newarray.typeOf aty) z [] (defaultValue (newarray.typeOf aty))) hk0 hn0 (fun T locs cells slots X hh hx hc hm hon q1 q2 => ?_) g
  obtain ⟨T', h', cA, X', e', E, A, st⟩ := newP X hx hon.2.1 w hh (g := mkF m pc L (.int z :: S)) rfl (hb hc hd) rfl hz hcap hb8 q1 q2
  exact ⟨T', h', X', e', E, ⟨cA, Arv.new A hz⟩, st⟩
theorem Go.arraylength {a : Addr} {kA : ClassId} {ty : FieldType} {z : Int32} {vs : List Value} {dv : Value} (pc' : Nat) (hd : decode code pc = .ok (.arraylength, 1)) (hp : pc + 1 = pc') (A : Arv Z h a kA ty z vs dv) (g : Go nw p l e R s m args below meth c code ml nm ret Z a0 EL own P vm h k n pc' L (.int z :: S)) : Go nw p l e R s m args below meth c code ml nm ret Z a0 EL own P vm h k n pc L (.ref a :: S) := by
  subst hp
  refine g.note fun T locs cells slots X hh hx hc hm hon => ⟨T, X, hh, fun target q => ?_⟩
  obtain ⟨cl, A1, A2, A3, A4, A5, A6⟩ := A
  refine X.arraylength hx (cell := cl) (by rw [hh]; exact A1.1) (State.isArrayOf_alike hon.2.1.alike A1.2.1) (g := mkF m pc L (.ref a :: S)) rfl (rest := S) rfl (hb hc hd) _ ?_
  rw [len_of A3 A4]; exact q
theorem Go.caload {a : Addr} {kA : ClassId} {z j : Int32} {vs : List Value} {dv : Value} (v : Value) (pc' : Nat) (hd : decode code pc = .ok (.caload, 1)) (hp : pc + 1 = pc') (A : Arv Z h a kA .char z vs dv) (hj : ¬ j < 0 ∧ j < z) (hv : vs.getD j.toNatClampNeg dv = v) (g : Go nw p l e R s m args below meth c code ml nm ret Z a0 EL own P vm h k n pc' L (v :: S)) : Go nw p l e R s m args below meth c code ml nm ret Z a0 EL own P vm h k n pc L (.int j :: .ref a :: S) := by
  subst hp
  refine g.note fun T locs cells slots X hh hx hc hm hon => ⟨T, X, hh, fun target q => ?_⟩
  obtain ⟨cl, A1, A2, A3, A4, A5, A6⟩ := A
  have hin := inb_of A3 hj
  exact X.caload hx (by rw [hh]; exact A1.1) (State.isArrayOf_alike hon.2.1.alike A1.2.1) A1.2.2 hin (A5.at hin hv) (g := mkF m pc L (.int j :: .ref a :: S)) rfl rfl (hb hc hd) _ q
theorem Go.iaload {a : Addr} {kA : ClassId} {z j : Int32} {vs : List Value} {dv : Value} (v : Value) (pc' : Nat) (hd : decode code pc = .ok (.iaload, 1)) (hp : pc + 1 = pc') (A : Arv Z h a kA .int z vs dv) (hj : ¬ j < 0 ∧ j < z) (hv : vs.getD j.toNatClampNeg dv = v) (g : Go nw p l e R s m args below meth c code ml nm ret Z a0 EL own P vm h k n pc' L (v :: S)) : Go nw p l e R s m args below meth c code ml nm ret Z a0 EL own P vm h k n pc L (.int j :: .ref a :: S) := by
  subst hp
  refine g.note fun T locs cells slots X hh hx hc hm hon => ⟨T, X, hh, fun target q => ?_⟩
  obtain ⟨cl, A1, A2, A3, A4, A5, A6⟩ := A
  have hin := inb_of A3 hj
  exact X.iaload hx (by rw [hh]; exact A1.1) (State.isArrayOf_alike hon.2.1.alike A1.2.1) A1.2.2 hin (A5.at hin hv) (g := mkF m pc L (.int j :: .ref a :: S)) rfl rfl (hb hc hd) _ q
theorem Go.baload {a : Addr} {kA : ClassId} {z j : Int32} {vs : List Value} {dv : Value} (v : Value) (pc' : Nat) (hd : decode code pc = .ok (.baload, 1)) (hp : pc + 1 = pc') (A : Arv Z h a kA .byte z vs dv) (hj : ¬ j < 0 ∧ j < z) (hv : vs.getD j.toNatClampNeg dv = v) (g : Go nw p l e R s m args below meth c code ml nm ret Z a0 EL own P vm h k n pc' L (v :: S)) : Go nw p l e R s m args below meth c code ml nm ret Z a0 EL own P vm h k n pc L (.int j :: .ref a :: S) := by
  subst hp
  refine g.note fun T locs cells slots X hh hx hc hm hon => ⟨T, X, hh, fun target q => ?_⟩
  obtain ⟨cl, A1, A2, A3, A4, A5, A6⟩ := A
  have hin := inb_of A3 hj
  exact X.baloadBytes hx (by rw [hh]; exact A1.1) (State.isArrayOf_alike hon.2.1.alike A1.2.1) A1.2.2 hin (A5.at hin hv) (g := mkF m pc L (.int j :: .ref a :: S)) rfl rfl (hb hc hd) _ q
theorem Go.aaload {a : Addr} {kA : ClassId} {ty : FieldType} {z j : Int32} {vs : List Value} {dv : Value} (v : Value) (pc' : Nat) (hd : decode code pc = .ok (.aaload, 1)) (hp : pc + 1 = pc') (A : Arv Z h a kA ty z vs dv) (hty : ty.isReference = true) (hj : ¬ j < 0 ∧ j < z) (hv : vs.getD j.toNatClampNeg dv = v) (g : Go nw p l e R s m args below meth c code ml nm ret Z a0 EL own P vm h k n pc' L (v :: S)) : Go nw p l e R s m args below meth c code ml nm ret Z a0 EL own P vm h k n pc L (.int j :: .ref a :: S) := by
  subst hp
  refine g.note fun T locs cells slots X hh hx hc hm hon => ⟨T, X, hh, fun target q => ?_⟩
  obtain ⟨cl, A1, A2, A3, A4, A5, A6⟩ := A
  have hin := inb_of A3 hj
  exact X.aaload hx (by rw [hh]; exact A1.1) (State.isArrayOf_alike hon.2.1.alike A1.2.1) hty A1.2.2 hin (A5.at hin hv) (g := mkF m pc L (.int j :: .ref a :: S)) rfl rfl (hb hc hd) _ q
theorem Go.castore {a : Addr} {kA : ClassId} {z j x : Int32} {vs : List Value} {dv : Value} (i : Nat) (y : Int32) (vs' : List Value) (pc' : Nat) (hd : decode code pc = .ok (.castore, 1)) (hp : pc + 1 = pc') (A : Arv Z h a kA .char z vs dv) (hj : ¬ j < 0 ∧ j < z) (hi : j.toNatClampNeg = i) (hl : i < vs.length) (hy : nar .char x = y) (hvs : vs.set i (.int y) = vs') (Sa : Safe Z EL vm h a) (hz : Z.heap.size ≤ a)
    (g : ∀ h', Keep h h' [a] → Arv Z h' a kA .char z vs' dv → Safe Z EL vm h' a → CHr Z EL vm h vm h' → Go nw p l e R s m args below meth c code ml nm ret Z a0 EL own P vm h' k n pc' L S) : Go nw p l e R s m args below meth c code ml nm ret Z a0 EL own P vm h k n pc L (.int x :: .int j :: .ref a :: S) := by
  subst hp hy hvs
  obtain ⟨cl, A1, A2, A3, A4, A5, A6⟩ := A
  have hin := inb_of A3 hj
  refine Go.wrote Sa hz (sl := j.toNatClampNeg) (w := .int (nar .char x)) (fun T locs cells slots X hh hx hc hm hnm hon => ?_) (fun h' W s2 ch => g h' (Keep.of_wr W) (Arv.set A1 A2 A3 A4 A5 A6 (fits_nar_char _) W i hi hl) s2 ch)
  exact stC X hx hon.2.1 hh A1 hin (g := mkF m pc L (.int x :: .int j :: .ref a :: S)) rfl rfl (hb hc hd)
theorem Go.iastore {a : Addr} {kA : ClassId} {z j x : Int32} {vs : List Value} {dv : Value} (i : Nat) (y : Int32) (vs' : List Value) (pc' : Nat) (hd : decode code pc = .ok (.iastore, 1)) (hp : pc + 1 = pc') (A : Arv Z h a kA .int z vs dv) (hj : ¬ j < 0 ∧ j < z) (hi : j.toNatClampNeg = i) (hl : i < vs.length) (hy : x = y) (hvs : vs.set i (.int y) = vs') (Sa : Safe Z EL vm h a) (hz : Z.heap.size ≤ a)
    (g : ∀ h', Keep h h' [a] → Arv Z h' a kA .int z vs' dv → Safe Z EL vm h' a → CHr Z EL vm h vm h' → Go nw p l e R s m args below meth c code ml nm ret Z a0 EL own P vm h' k n pc' L S) : Go nw p l e R s m args below meth c code ml nm ret Z a0 EL own P vm h k n pc L (.int x :: .int j :: .ref a :: S) := by
  subst hp hy hvs
  obtain ⟨cl, A1, A2, A3, A4, A5, A6⟩ := A
  have hin := inb_of A3 hj
  refine Go.wrote Sa hz (sl := j.toNatClampNeg) (w := .int (x)) (fun T locs cells slots X hh hx hc hm hnm hon => ?_) (fun h' W s2 ch => g h' (Keep.of_wr W) (Arv.set A1 A2 A3 A4 A5 A6 (rfl) W i hi hl) s2 ch)
  exact stI X hx hon.2.1 hh A1 hin (g := mkF m pc L (.int x :: .int j :: .ref a :: S)) rfl rfl (hb hc hd)
theorem Go.bastore {a : Addr} {kA : ClassId} {z j x : Int32} {vs : List Value} {dv : Value} (i : Nat) (y : Int32) (vs' : List Value) (pc' : Nat) (hd : decode code pc = .ok (.bastore, 1)) (hp : pc + 1 = pc') (A : Arv Z h a kA .byte z vs dv) (hj : ¬ j < 0 ∧ j < z) (hi : j.toNatClampNeg = i) (hl : i < vs.length) (hy : x.toInt8.toInt32 = y) (hvs : vs.set i (.int y) = vs') (Sa : Safe Z EL vm h a) (hz : Z.heap.size ≤ a)
    (g : ∀ h', Keep h h' [a] → Arv Z h' a kA .byte z vs' dv → Safe Z EL vm h' a → CHr Z EL vm h vm h' → Go nw p l e R s m args below meth c code ml nm ret Z a0 EL own P vm h' k n pc' L S) : Go nw p l e R s m args below meth c code ml nm ret Z a0 EL own P vm h k n pc L (.int x :: .int j :: .ref a :: S) := by
  subst hp hy hvs
  obtain ⟨cl, A1, A2, A3, A4, A5, A6⟩ := A
  have hin := inb_of A3 hj
  refine Go.wrote Sa hz (sl := j.toNatClampNeg) (w := .int (x.toInt8.toInt32)) (fun T locs cells slots X hh hx hc hm hnm hon => ?_) (fun h' W s2 ch => g h' (Keep.of_wr W) (Arv.set A1 A2 A3 A4 A5 A6 (fits_nar_byte _) W i hi hl) s2 ch)
  exact stB X hx hon.2.1 hh A1 hin (g := mkF m pc L (.int x :: .int j :: .ref a :: S)) rfl rfl (hb hc hd)
theorem Go.fin {v : Option Value} (hk0 : k ≤ R.cells) (hn0 : n ≤ R.slots) (hv : ret = none → v = none) (hP : ∀ vm', CHr Z EL vm h vm' h → P v vm' h)
    (st : ∀ (T : State) (locs : List Loc) (cells slots : Nat), Stand p l e R (s.setVm vm) m args below meth c T locs cells slots → p.tables.exec = Jvm.exec → c.code = code → meth.sig.returnType = ret → ∀ fs : List Frame, (∀ (f : JFrame) (acts : List Action), f.method = m → f.locked = none → f.entered = [] → (doReturn e (T.setTop f) acts v).1 = T.setFrames fs) → Steps p.tables e below (T.setTop (mkF m pc L S)) (T.setFrames fs)) : Go nw p l e R s m args below meth c code ml nm ret Z a0 EL own P vm h k n pc L S := by
  intro hx hc hm hl hnm hr hon T locs cells slots X hh hF hk hn
  obtain ⟨⟨k0, a1, a2⟩, a3, a4, a5, a6, a7, a8⟩ := hon
  obtain ⟨fs, h1, h2, h3, h4⟩ := X.leaveW a1 (by rw [hh]; exact a2) (v := v) (fun q => hv (hr ▸ q)) hl
  have ch : CHr Z EL vm h T.vm h := CHv.at X a3 a7 a5
  have hh' : (T.setFrames fs).heap = h := hh
  refine ⟨_, v, st T locs cells slots X hx hc hr fs h1, h2, h3, by rw [hh']; exact hP _ ch, by rw [hh']; exact ch, by rw [hh']; exact a6, locs, hF, ?_, fun q => ?_⟩
  · obtain ⟨q1, q2, q3, q4⟩ := h4
    exact ⟨q1, q2, q3, q4.mono (Nat.le_trans hk hk0) (Nat.le_trans hn hn0)⟩
  · exact State.WarmedH.trans (t := s.setVm vm) (a8 q) X.warmed
theorem Go.return_ (hd : decode code pc = .ok (.return_, 1)) (hr : ret = none) (hk0 : k ≤ R.cells) (hn0 : n ≤ R.slots) (hP : ∀ vm', CHr Z EL vm h vm' h → P none vm' h) : Go nw p l e R s m args below meth c code ml nm ret Z a0 EL own P vm h k n pc L ([]) :=
  Go.fin (v := none) hk0 hn0 (fun _ => rfl) hP fun T locs cells slots X hx hc hrt fs hl => X.returnOut hx (hrt.trans hr) (hb hc hd) hl
theorem Go.areturn {t : FieldType} {w : Value} (hd : decode code pc = .ok (.areturn, 1)) (hr : ret = some t) (ht : t.isReference = true) (hw : w.isRef = true) (hk0 : k ≤ R.cells) (hn0 : n ≤ R.slots) (hP : ∀ vm', CHr Z EL vm h vm' h → P (some w) vm' h) : Go nw p l e R s m args below meth c code ml nm ret Z a0 EL own P vm h k n pc L (w :: S) :=
  Go.fin (v := some w) hk0 hn0 (fun q => by rw [hr] at q; cases q) hP fun T locs cells slots X hx hc hrt fs hl => retOut X hx (hrt.trans hr) (by cases t <;> first | rfl | cases ht) (Or.inr (Or.inr (Or.inr (Or.inr ⟨rfl, ht, hw⟩)))) (hb hc hd) hl
theorem Go.ireturn {t : FieldType} {x : Int32} (hd : decode code pc = .ok (.ireturn, 1)) (hr : ret = some t) (hn' : narrow t (.int x) = .int x) (ht : t = .int ∨ t = .boolean ∨ t = .byte ∨ t = .char ∨ t = .short) (hk0 : k ≤ R.cells) (hn0 : n ≤ R.slots) (hP : ∀ vm', CHr Z EL vm h vm' h → P (some (.int x)) vm' h) : Go nw p l e R s m args below meth c code ml nm ret Z a0 EL own P vm h k n pc L (.int x :: S) :=
  Go.fin (v := some (.int x)) hk0 hn0 (fun q => by rw [hr] at q; cases q) hP fun T locs cells slots X hx hc hrt fs hl => retOut X hx (hrt.trans hr) hn' (Or.inl ⟨rfl, ht, _, rfl⟩) (hb hc hd) hl
theorem Go.initObject {idx : Nat} {a : Addr} (W : Nat) (pc' : Nat) (hd : decode code pc = .ok (.invokespecial idx, 3)) (hp : pc + 3 = pc') (w1 : (Cond.methodLink own idx Lib.objectInit).before a0 Z = true) (w2 : (Cond.instanceMethod Lib.objectInit).before a0 Z = true) (w3 : (Cond.code Lib.objectInit ⟨#[0xb1]⟩ 1 none).before a0 Z = true)
    (hsz : L.size = ml) (hf : 1 ≤ R.frames) (hW : (S.map fun v => v.category).sum ≤ W) (hl : W + 12 ≤ R.locals) (g : Go nw p l e R s m args below meth c code ml nm ret Z a0 EL own P vm h k n pc' L S) : Go nw p l e R s m args below meth c code ml nm ret Z a0 EL own P vm h k n pc L (.ref a :: S) := by
  subst hp
  exact g.note fun T locs cells slots X hh hx hc hm hon => initO X hx hon.2.1 hon.2.2.1 w1 w2 w3 hh (g := mkF m pc L (.ref a :: S)) rfl (hsz.trans hm.symm) rfl (hb hc hd) hf (by show 2 * 0 + _ ≤ _; omega) hl
/-- what a callee promises: at the heap h and tables that have booked no more than vm -/
def Ctr (nw : Bool) (l : Launch) (Z : State) (a0 : Array Value) (EL : List (String × Nat)) (y : MethodName) (code : ByteArray) (ml : Nat) (ret : Option FieldType) (rm : Room) (as' : Array Value) (vm : Vm) (h : Heap) (Q : Option Value → Vm → Heap → Prop) : Prop :=
  ∀ ws : List Jvm.Cond, MetFree l y (head1 (Jvm.Cond.code y code ml ret :: ws) rm) (fun a U => a = as' ∧ Z.Warmed39 U.vm ∧ U.heap = h ∧ CHr Z EL vm h U.vm h ∧ Ext Z.heap h ∧ EW Z a0 EL) (fun _ _ _ _ _ => True)
    (fun _ U o U' => ∃ v L, o = .returned v ∧ Q v U'.vm U'.heap ∧ CHr Z EL U.vm h U'.vm U'.heap ∧ Ext Z.heap U'.heap ∧ Fr Z.heap.size L ∧ ReturnedEndW U o U' L rm.cells rm.slots ∧ (nw = true → U.WarmedH U'.vm))
theorem Ctr.of_go {y : MethodName} {rm : Room} {as' : Array Value} {Q : Option Value → Vm → Heap → Prop} {L0 : Array Slot} (hpn : plainFor y = true) (hent : ∀ m, entryFrame m as' ml = mkF m 0 L0 [])
    (body : ∀ (p : Program) (e : Env) (s : State) (m : MethodId) (below : List Frame) (meth : Method) (c : Code) (vm1 : Vm), CHr Z EL vm h vm1 h → Go nw p l e rm s m as' below meth c code ml y.name ret Z a0 EL y.cls Q vm1 h 0 0 0 L0 []) : Ctr nw l Z a0 EL y code ml ret rm as' vm h Q := by
  intro ws
  refine MetFree.of_bodySF hpn hisR ?_
  intro p e s m args below meth c s₁ Bd hml0 hP hK
  obtain ⟨rfl, hZ, hh, hch, hext, hew⟩ := hP
  have e0 : s₁.heap = h := by rw [← hh, Bd.state]; rfl
  have X0 : Stand p l e rm (s.setVm s.vm) m args below meth c s₁ [] 0 0 := Stand.of_body Bd
  obtain ⟨s₂, v, st, h1, h2, h3, h4, hE, L', h5, h6, h7⟩ := body p e s m below meth c s.vm hch Bd.exec Bd.bytes hml0 Bd.notSynchronized (name_of_methodNamed Bd.named Bd.method).1 Bd.returns
    ⟨⟨0, (State.WarmedH.refl s).since _, Nat.zero_le _⟩, hZ, findClass_of_methodNamed Bd.named, hch.1, hext, hew, fun _ => State.WarmedH.refl s⟩ s₁ [] 0 0 X0 e0 (Fr.nil _) (Nat.le_refl _) (Nat.le_refl _)
  exact ⟨s₂, _, castTop (hent m) st, h1, h2, v, L', rfl, h3, h4, hE, h5, h6, h7⟩
/-- the callee's contract, as a call wants it -/
theorem Ctr.back {y : MethodName} {code' : ByteArray} {ml' : Nat} {ret' : Option FieldType} {rm : Room} {as' : Array Value} {Q : Option Value → Vm → Heap → Prop} {len W : Nat} (C : Ctr nw l Z a0 EL y code' ml' ret' rm as' vm h Q) (hon : On nw s m Z a0 EL own vm h)
    (wc : (Jvm.Cond.code y code' ml' ret').before a0 Z = true) (wz : (Jvm.Cond.initialized y.cls).before a0 Z = true) (hf : rm.frames + 1 ≤ R.frames) (hl : W + (ml' + 11) + rm.locals ≤ R.locals) :
    BackS l R p e below (s.setVm vm) args y len W (fun A a => a = as' ∧ A.U.heap = h ∧ A.cells + rm.cells ≤ R.cells ∧ A.slots + rm.slots ≤ R.slots)
      (fun A _ v B => ∃ L, Q v B.U.vm B.U.heap ∧ CHr Z EL vm h B.U.vm B.U.heap ∧ Ext Z.heap B.U.heap ∧ Fr Z.heap.size L ∧ B.locs = A.locs ++ L ∧ B.cells = A.cells + rm.cells ∧ B.slots = A.slots + rm.slots ∧ (nw = true → s.WarmedH B.U.vm)) := by
  obtain ⟨⟨k0, a1, a2⟩, a3, a4, a5, a6, a7, a8⟩ := hon
  refine BackS.of_freeW (bytes := code') (maxL := ml') (ret := ret') (E := fun _ first o t L k n => k = rm.cells ∧ n = rm.slots ∧ (∃ v, o = .returned v ∧ Q v t.vm t.heap) ∧ CHr Z EL first.vm h t.vm t.heap ∧ Ext Z.heap t.heap ∧ Fr Z.heap.size L ∧ (nw = true → first.WarmedH t.vm)) (C []) hf hl
    (fun m meth c A a Y hp => have hU : Z.Warmed39 A.U.vm := wtrans (s := s.setVm vm) a3 Y.warmed
      ⟨by show (Jvm.Cond.and _ .tt).before a A.U = true; rw [Cond.before_and, mv hU wc]; rfl, mv hU wc, mv hU wz, hp.2.2.1, hp.2.2.2⟩)
    (fun m meth c A a g mk Y hp => ⟨hp.1, wtrans (s := s.setVm vm) a3 Y.warmed, hp.2.1, (show CHr Z EL vm h A.U.vm h from CHv.at Y a3 a7 a5), a6, a7⟩) (fun _ _ _ _ _ _ _ _ _ => trivial)
    (fun _ _ _ _ ⟨v, L, h1, h2, h3, hE, h4, h5, h6⟩ => ⟨L, _, _, h5, rfl, rfl, ⟨v, h1, h2⟩, h3, hE, h4, h6⟩)
    (fun m meth c A a g mk v t L k n Y hp _ _ hE => ?_)
  obtain ⟨e1, e2, ⟨v', e3, e4⟩, e5, e5', e6, e7⟩ := hE
  cases e3; subst e1 e2
  refine ⟨L, e4, (CHv.at Y a3 a7 a5).trans e5, e5', e6, rfl, rfl, rfl, fun q => ?_⟩
  have w1 : s.WarmedH A.U.vm := State.WarmedH.trans (t := s.setVm vm) (a8 q) Y.warmed
  exact State.WarmedH.trans (t := A.U) w1 (e7 q)
/-- behind a call that a BackS pays -/
theorem Go.called {rm : Room} {Q : Option Value → Vm → Heap → Prop} {len pc' : Nat} {rest : List Value} (hp : pc + len = pc') (hk0 : k + rm.cells ≤ R.cells) (hn0 : n + rm.slots ≤ R.slots)
    (st : ∀ T locs cells slots, Stand p l e R (s.setVm vm) m args below meth c T locs cells slots → T.heap = h → p.tables.exec = Jvm.exec → c.code = code → c.maxLocals = ml → On nw s m Z a0 EL own vm h → cells + rm.cells ≤ R.cells → slots + rm.slots ≤ R.slots →
      ∃ (v : Option Value) (vm₁ : Vm) (B : Pt), (s.setVm vm).WarmedH vm₁ ∧ Stand p l e R ((s.setVm vm).setVm B.U.vm) m args below meth c B.U B.locs B.cells B.slots ∧ (s.setVm vm).Since B.U.vm B.U.heap.size ∧ T.heap.size ≤ B.U.heap.size ∧
        (∃ L, Q v B.U.vm B.U.heap ∧ CHr Z EL vm h B.U.vm B.U.heap ∧ Ext Z.heap B.U.heap ∧ Fr Z.heap.size L ∧ B.locs = locs ++ L ∧ B.cells = cells + rm.cells ∧ B.slots = slots + rm.slots ∧ (nw = true → s.WarmedH B.U.vm)) ∧
        Steps p.tables e below (T.setTop (mkF m pc L S)) (B.U.setTop { mkF m pc L S with pc := pc + len, stack := v.toList ++ rest }))
    (g : ∀ v vm' h', Q v vm' h' → CHr Z EL vm h vm' h' → Go nw p l e R s m args below meth c code ml nm ret Z a0 EL own P vm' h' (k + rm.cells) (n + rm.slots) pc' L (v.toList ++ rest)) : Go nw p l e R s m args below meth c code ml nm ret Z a0 EL own P vm h k n pc L S := by
  intro hx hc hm hl hnm hr hon T locs cells slots X hh hF hk hn
  obtain ⟨v, vm₁, B, -, X', hS, hg, ⟨L1, hQ, hC, hE, hFr, e1, e2, e3, hW⟩, st2⟩ := st T locs cells slots X hh hx hc hm hon (by omega) (by omega)
  obtain ⟨U, Ls, c1, s1⟩ := B
  dsimp only [Pt.U, Pt.locs, Pt.cells, Pt.slots] at X' hS hg hQ hC hE e1 e2 e3 hW st2
  subst e1 e2 e3 hp
  obtain ⟨⟨k0, a1, a2⟩, a3, a4, a5, a6, a7, a8⟩ := hon
  have hon' : On nw s m Z a0 EL own U.vm U.heap := ⟨⟨U.heap.size, a1.trans hS (Nat.le_trans a2 hC.2.1), Nat.le_refl _⟩, State.Warmed39.trans (t := s.setVm vm) a3 hS.1, (hS.1.alike.findClass _ _).trans a4, hC.1, hE, a7, hW⟩
  obtain ⟨s₂, v2, st3, r1, r2, r3, r4, r5⟩ := g v U.vm U.heap hQ hC hx hc hm hl hnm hr hon' U _ _ _ X' rfl (Fr.app hF hFr) (by omega) (by omega)
  exact ⟨s₂, v2, st2.trans st3, r1, r2, r3, hC.trans r4, r5⟩
theorem Go.invokestatic {idx : Nat} {y : MethodName} {code' : ByteArray} {ml' : Nat} {ret' : Option FieldType} {rm : Room} {Q : Option Value → Vm → Heap → Prop} {ps : List FieldType} {r : Option FieldType} {rest : List Value} (W : Nat) (argsL : List Value) (pc' : Nat) (hd : decode code pc = .ok (.invokestatic idx, 3)) (hp : pc + 3 = pc') (w1 : (Jvm.Cond.methodLink own idx y).before a0 Z = true) (w2 : (Jvm.Cond.static y).before a0 Z = true) (w3 : (Jvm.Cond.initialized y.cls).before a0 Z = true) (w4 : (Jvm.Cond.code y code' ml' ret').before a0 Z = true) (hy : y.cls ≠ "java/lang/invoke/MethodHandle" ∧ y.cls ≠ "java/lang/invoke/VarHandle")
    (C : Ctr nw l Z a0 EL y code' ml' ret' rm argsL.toArray vm h Q) (hdesc : parseMethodDescriptor y.desc = some ⟨ps, r⟩) (hlen : argsL.length = ps.length) (hst : S = argsL.reverse ++ rest) (hsz : L.size = ml) (hf : rm.frames + 1 ≤ R.frames) (hW : (rest.map fun v => v.category).sum ≤ W) (hl : W + (ml' + 11) + rm.locals ≤ R.locals) (hk0 : k + rm.cells ≤ R.cells) (hn0 : n + rm.slots ≤ R.slots)
    (g : ∀ v vm' h', Q v vm' h' → CHr Z EL vm h vm' h' → Go nw p l e R s m args below meth c code ml nm ret Z a0 EL own P vm' h' (k + rm.cells) (n + rm.slots) pc' L (v.toList ++ rest)) : Go nw p l e R s m args below meth c code ml nm ret Z a0 EL own P vm h k n pc L S := by
  refine Go.called (rm := rm) (Q := Q) (rest := rest) hp hk0 hn0 (fun T locs cells slots X hh hx hc hm hon q1 q2 => ?_) g
  exact callSS X hx hon.2.2.1 (mvT (s := s.setVm vm) hon.2.1 w1) (mvT (s := s.setVm vm) hon.2.1 w2) (mvT (s := s.setVm vm) hon.2.1 w3) (mvT (s := s.setVm vm) hon.2.1 w4) hy (C.back hon w4 w3 hf hl) (g := mkF m pc L S) rfl (hsz.trans hm.symm) (argsL := argsL) (rest := rest) (lenOf hdesc hlen) hst (by show 2 * 0 + _ ≤ _; omega) (hb hc hd) (fun _ _ => ⟨rfl, hh, q1, q2⟩)
theorem Go.invokespecial {idx : Nat} {y : MethodName} {code' : ByteArray} {ml' : Nat} {rm : Room} {Q : Option Value → Vm → Heap → Prop} {ps : List FieldType} {r : Option FieldType} {rest : List Value} (W : Nat) (a : Addr) (argsL : List Value) (pc' : Nat) (hd : decode code pc = .ok (.invokespecial idx, 3)) (hp : pc + 3 = pc') (hy1 : y.name = "<init>") (w1 : (Jvm.Cond.methodLink own idx y).before a0 Z = true) (w2 : (Jvm.Cond.instanceMethod y).before a0 Z = true) (w3 : (Jvm.Cond.initialized y.cls).before a0 Z = true) (w4 : (Jvm.Cond.code y code' ml' none).before a0 Z = true) (hy : y.cls ≠ "java/lang/invoke/MethodHandle" ∧ y.cls ≠ "java/lang/invoke/VarHandle")
    (C : Ctr nw l Z a0 EL y code' ml' none rm (.ref a :: argsL).toArray vm h Q) (hdesc : parseMethodDescriptor y.desc = some ⟨ps, r⟩) (hlen : argsL.length = ps.length) (hst : S = argsL.reverse ++ .ref a :: rest) (hsz : L.size = ml) (hf : rm.frames + 1 ≤ R.frames) (hW : (rest.map fun v => v.category).sum ≤ W) (hl : W + (ml' + 11) + rm.locals ≤ R.locals) (hk0 : k + rm.cells ≤ R.cells) (hn0 : n + rm.slots ≤ R.slots)
    (g : ∀ v vm' h', Q v vm' h' → CHr Z EL vm h vm' h' → Go nw p l e R s m args below meth c code ml nm ret Z a0 EL own P vm' h' (k + rm.cells) (n + rm.slots) pc' L (v.toList ++ rest)) : Go nw p l e R s m args below meth c code ml nm ret Z a0 EL own P vm h k n pc L S := by
  refine Go.called (rm := rm) (Q := Q) (rest := rest) hp hk0 hn0 (fun T locs cells slots X hh hx hc hm hon q1 q2 => ?_) g
  exact X.specialBackS hx hy1 hon.2.2.1 (mvT (s := s.setVm vm) hon.2.1 w1) (mvT (s := s.setVm vm) hon.2.1 w2) (mvT (s := s.setVm vm) hon.2.1 w4) hy (C.back hon w4 w3 hf hl) (g := mkF m pc L S) rfl (hsz.trans hm.symm) (Steps.refl _) (a := a) (argsL := argsL) (rest := rest) (lenOf hdesc hlen) hst (by show 2 * 0 + _ ≤ _; omega) (hb hc hd) (fun _ _ => ⟨rfl, hh, q1, q2⟩)
theorem Go.invokevirtual {idx : Nat} {y : MethodName} {code' : ByteArray} {ml' : Nat} {ret' : Option FieldType} {rm : Room} {Q : Option Value → Vm → Heap → Prop} {ps : List FieldType} {r : Option FieldType} {rest : List Value} {x : MethodName} {cls : String} (W : Nat) (a : Addr) (argsL : List Value) (pc' : Nat) (hd : decode code pc = .ok (.invokevirtual idx, 3)) (hp : pc + 3 = pc') (E : Exa Z h a cls) (w1 : (Jvm.Cond.methodLink own idx x).before a0 Z = true) (w2 : (Jvm.Cond.declares x).before a0 Z = true) (nf : ∀ s : State, Z.Warmed39 s.vm → NotFace s x) (ws : (Jvm.Cond.selects cls x y).before a0 Z = true) (wi : (Jvm.Cond.instanceMethod y).before a0 Z = true) (w3 : (Jvm.Cond.initialized y.cls).before a0 Z = true) (w4 : (Jvm.Cond.code y code' ml' ret').before a0 Z = true)
    (hy : x.cls ≠ "java/lang/invoke/MethodHandle" ∧ x.cls ≠ "java/lang/invoke/VarHandle") (C : Ctr nw l Z a0 EL y code' ml' ret' rm (.ref a :: argsL).toArray vm h Q) (hdesc : parseMethodDescriptor x.desc = some ⟨ps, r⟩) (hlen : argsL.length = ps.length) (hst : S = argsL.reverse ++ .ref a :: rest) (hsz : L.size = ml) (hf : rm.frames + 1 ≤ R.frames) (hW : (rest.map fun v => v.category).sum ≤ W) (hl : W + (ml' + 11) + rm.locals ≤ R.locals) (hk0 : k + rm.cells ≤ R.cells) (hn0 : n + rm.slots ≤ R.slots)
    (g : ∀ v vm' h', Q v vm' h' → CHr Z EL vm h vm' h' → Go nw p l e R s m args below meth c code ml nm ret Z a0 EL own P vm' h' (k + rm.cells) (n + rm.slots) pc' L (v.toList ++ rest)) : Go nw p l e R s m args below meth c code ml nm ret Z a0 EL own P vm h k n pc L S := by
  refine Go.called (rm := rm) (Q := Q) (rest := rest) hp hk0 hn0 (fun T locs cells slots X hh hx hc hm hon q1 q2 => ?_) g
  obtain ⟨cB, kB, b1, b2, b3⟩ := isOf (s := s.setVm vm) hon.2.1 hh E
  exact X.virtualBackS hx hon.2.2.1 (mvT (s := s.setVm vm) hon.2.1 w1) (mvT (s := s.setVm vm) hon.2.1 w2) (nf (s.setVm vm) hon.2.1) (mvT (s := s.setVm vm) hon.2.1 ws) (mvT (s := s.setVm vm) hon.2.1 wi) hy (C.back hon w4 w3 hf hl) b1 b3 (g := mkF m pc L S) rfl (hsz.trans hm.symm) (Steps.refl _) (argsL := argsL) (rest := rest) (lenOf hdesc hlen) hst (by show 2 * 0 + _ ≤ _; omega) (hb hc hd) (fun _ _ => ⟨rfl, hh, q1, q2⟩)
theorem On.keep {ws : List Addr} (hon : On nw s m Z a0 EL own vm h) (K : Keep h h' ws) (hs : ∀ x ∈ ws, Safe Z EL vm h x) (hz : ∀ x ∈ ws, Z.heap.size ≤ x) : On nw s m Z a0 EL own vm h' := by
  obtain ⟨⟨k0, a1, a2⟩, a3, a4, a5, a6, a7, a8⟩ := hon
  exact ⟨⟨k0, a1, Nat.le_trans a2 K.1⟩, a3, a4, a5.keep K hs, (Old.keep (Z := Z) ⟨rfl, a6⟩ K hz).2, a7, a8⟩
/-- behind a call that a Back pays: the tables' base as it was -/
theorem Go.calledB {Q : Option Value → Heap → List Loc → Prop} {dk dn len pc' : Nat} {rest : List Value} (hp : pc + len = pc') (hk0 : k + dk ≤ R.cells) (hn0 : n + dn ≤ R.slots)
    (st : ∀ T locs cells slots, Stand p l e R (s.setVm vm) m args below meth c T locs cells slots → T.heap = h → p.tables.exec = Jvm.exec → c.code = code → c.maxLocals = ml → On nw s m Z a0 EL own vm h → cells + dk ≤ R.cells → slots + dn ≤ R.slots →
      ∃ (v : Option Value) (vm₁ : Vm) (B : Pt), (s.setVm vm).WarmedH vm₁ ∧ Stand p l e R (s.setVm vm) m args below meth c B.U B.locs B.cells B.slots ∧ (∃ L, Q v B.U.heap L ∧ B.locs = locs ++ L ∧ B.cells = cells + dk ∧ B.slots = slots + dn) ∧
        Steps p.tables e below (T.setTop (mkF m pc L S)) (B.U.setTop { mkF m pc L S with pc := pc + len, stack := v.toList ++ rest }))
    (hQ : ∀ v h' lc, Q v h' lc → Fr Z.heap.size lc ∧ ∃ ws, Keep h h' ws ∧ (∀ x ∈ ws, Safe Z EL vm h x) ∧ ∀ x ∈ ws, Z.heap.size ≤ x)
    (g : ∀ v h' lc, Q v h' lc → CHr Z EL vm h vm h' → Go nw p l e R s m args below meth c code ml nm ret Z a0 EL own P vm h' (k + dk) (n + dn) pc' L (v.toList ++ rest)) : Go nw p l e R s m args below meth c code ml nm ret Z a0 EL own P vm h k n pc L S := by
  intro hx hc hm hl hnm hr hon T locs cells slots X hh hF hk hn
  obtain ⟨v, vm₁, B, -, X', ⟨L1, hq, e1, e2, e3⟩, st2⟩ := st T locs cells slots X hh hx hc hm hon (by omega) (by omega)
  obtain ⟨U, Ls, c1, s1⟩ := B
  dsimp only [Pt.U, Pt.locs, Pt.cells, Pt.slots] at X' hq e1 e2 e3 st2
  subst e1 e2 e3 hp
  obtain ⟨hFr, ws, K, hs, hz⟩ := hQ _ _ _ hq
  have ch : CHr Z EL vm h vm U.heap := CHr.keep K hs hon.2.2.2.1
  obtain ⟨s₂, v2, st3, r1, r2, r3, r4, r5⟩ := g v U.heap L1 hq ch hx hc hm hl hnm hr (hon.keep K hs hz) U _ _ _ X' rfl (Fr.app hF hFr) (by omega) (by omega)
  exact ⟨s₂, v2, st2.trans st3, r1, r2, r3, ch.trans r4, r5⟩
theorem Go.virtB {idx : Nat} {x y : MethodName} {cls : String} {Q : Option Value → Heap → List Loc → Prop} {dk dn : Nat} {ps : List FieldType} {r : Option FieldType} {rest : List Value} (W : Nat) (a : Addr) (argsL : List Value) (pc' : Nat) (hd : decode code pc = .ok (.invokevirtual idx, 3)) (hp : pc + 3 = pc') (E : Exa Z h a cls)
    (w1 : (Jvm.Cond.methodLink own idx x).before a0 Z = true) (w2 : (Jvm.Cond.declares x).before a0 Z = true) (nf : ∀ s : State, Z.Warmed39 s.vm → NotFace s x) (ws : (Jvm.Cond.selects cls x y).before a0 Z = true) (wi : (Jvm.Cond.instanceMethod y).before a0 Z = true) (hy : x.cls ≠ "java/lang/invoke/MethodHandle" ∧ x.cls ≠ "java/lang/invoke/VarHandle")
    (B : Z.Warmed39 (s.setVm vm).vm → Ext Z.heap h → Back l R p e below (s.setVm vm) args y 3 W (fun A as => as = (.ref a :: argsL).toArray ∧ A.U.heap = h ∧ A.cells + dk ≤ R.cells ∧ A.slots + dn ≤ R.slots) (fun A _ v B => ∃ L, Q v B.U.heap L ∧ B.locs = A.locs ++ L ∧ B.cells = A.cells + dk ∧ B.slots = A.slots + dn))
    (hdesc : parseMethodDescriptor x.desc = some ⟨ps, r⟩) (hlen : argsL.length = ps.length) (hst : S = argsL.reverse ++ .ref a :: rest) (hsz : L.size = ml) (hW : (rest.map fun v => v.category).sum ≤ W) (hk0 : k + dk ≤ R.cells) (hn0 : n + dn ≤ R.slots)
    (hQ : ∀ v h' lc, Q v h' lc → Fr Z.heap.size lc ∧ ∃ ws, Keep h h' ws ∧ (∀ x ∈ ws, Safe Z EL vm h x) ∧ ∀ x ∈ ws, Z.heap.size ≤ x) (g : ∀ v h' lc, Q v h' lc → CHr Z EL vm h vm h' → Go nw p l e R s m args below meth c code ml nm ret Z a0 EL own P vm h' (k + dk) (n + dn) pc' L (v.toList ++ rest)) : Go nw p l e R s m args below meth c code ml nm ret Z a0 EL own P vm h k n pc L S := by
  refine Go.calledB (rest := rest) hp hk0 hn0 (fun T locs cells slots X hh hx hc hm hon q1 q2 => ?_) hQ g
  obtain ⟨cB, kB, b1, b2, b3⟩ := isOf (s := s.setVm vm) hon.2.1 hh E
  exact X.virtualBack hx hon.2.2.1 (mvT (s := s.setVm vm) hon.2.1 w1) (mvT (s := s.setVm vm) hon.2.1 w2) (nf (s.setVm vm) hon.2.1) (mvT (s := s.setVm vm) hon.2.1 ws) (mvT (s := s.setVm vm) hon.2.1 wi) hy (B hon.2.1 hon.2.2.2.2.1) b1 b3 (g := mkF m pc L S) rfl (hsz.trans hm.symm) (Steps.refl _) (argsL := argsL) (rest := rest) (lenOf hdesc hlen) hst (by show 2 * 0 + _ ≤ _; omega) (hb hc hd) (fun _ _ => ⟨rfl, hh, q1, q2⟩)
theorem Go.specB {idx : Nat} {y : MethodName} {code' : ByteArray} {ml' : Nat} {Q : Option Value → Heap → List Loc → Prop} {dk dn : Nat} {ps : List FieldType} {r : Option FieldType} {rest : List Value} (W : Nat) (a : Addr) (argsL : List Value) (pc' : Nat) (hd : decode code pc = .ok (.invokespecial idx, 3)) (hp : pc + 3 = pc') (hy1 : y.name = "<init>")
    (w1 : (Jvm.Cond.methodLink own idx y).before a0 Z = true) (w2 : (Jvm.Cond.instanceMethod y).before a0 Z = true) (w4 : (Jvm.Cond.code y code' ml' none).before a0 Z = true) (hy : y.cls ≠ "java/lang/invoke/MethodHandle" ∧ y.cls ≠ "java/lang/invoke/VarHandle")
    (B : Z.Warmed39 (s.setVm vm).vm → Ext Z.heap h → Back l R p e below (s.setVm vm) args y 3 W (fun A as => as = (.ref a :: argsL).toArray ∧ A.U.heap = h ∧ A.cells + dk ≤ R.cells ∧ A.slots + dn ≤ R.slots) (fun A _ v B => ∃ L, Q v B.U.heap L ∧ B.locs = A.locs ++ L ∧ B.cells = A.cells + dk ∧ B.slots = A.slots + dn))
    (hdesc : parseMethodDescriptor y.desc = some ⟨ps, r⟩) (hlen : argsL.length = ps.length) (hst : S = argsL.reverse ++ .ref a :: rest) (hsz : L.size = ml) (hW : (rest.map fun v => v.category).sum ≤ W) (hk0 : k + dk ≤ R.cells) (hn0 : n + dn ≤ R.slots)
    (hQ : ∀ v h' lc, Q v h' lc → Fr Z.heap.size lc ∧ ∃ ws, Keep h h' ws ∧ (∀ x ∈ ws, Safe Z EL vm h x) ∧ ∀ x ∈ ws, Z.heap.size ≤ x) (g : ∀ v h' lc, Q v h' lc → CHr Z EL vm h vm h' → Go nw p l e R s m args below meth c code ml nm ret Z a0 EL own P vm h' (k + dk) (n + dn) pc' L (v.toList ++ rest)) : Go nw p l e R s m args below meth c code ml nm ret Z a0 EL own P vm h k n pc L S := by
  refine Go.calledB (rest := rest) hp hk0 hn0 (fun T locs cells slots X hh hx hc hm hon q1 q2 => ?_) hQ g
  exact X.specialBack hx hy1 hon.2.2.1 (mvT (s := s.setVm vm) hon.2.1 w1) (mvT (s := s.setVm vm) hon.2.1 w2) (mvT (s := s.setVm vm) hon.2.1 w4) hy (B hon.2.1 hon.2.2.2.2.1) (g := mkF m pc L S) rfl (hsz.trans hm.symm) (Steps.refl _) (a := a) (argsL := argsL) (rest := rest) (lenOf hdesc hlen) hst (by show 2 * 0 + _ ≤ _; omega) (hb hc hd) (fun _ _ => ⟨rfl, hh, q1, q2⟩)
/-- ldc of a String constant that EL lists, its text read -/
theorem Go.ldcS {idx : Nat} {text : String} {vs : List Value} {z : Int32} (cap : Nat) (pc' : Nat) (hd : decode code pc = .ok (.ldc idx, 2)) (hp : pc + 2 = pc') (hnw : nw = false) (w : (Jvm.Cond.stringLink own idx text).before a0 Z = true) (wS : ∀ a ∈ Bundle.stringAtoms, a.before a0 Z = true) (hmem : (own, idx) ∈ EL)
    (ht : (∀ c ∈ text.toList, c.toNat < 256) ∧ text.toList.map (fun c => Value.int (Jvm.Lit.byteI c.toNat.toUInt16)) = vs) (hz : ¬ z < 0) (hl : z.toNatClampNeg = vs.length) (hcap : 4 * text.toList.length ≤ cap) (hbig : cap ≤ 536870912) (hk0 : k + 2 ≤ R.cells) (hn0 : n + (cap + 4) ≤ R.slots)
    (g : ∀ (a b : Addr) (kb : ClassId) (vm' : Vm) (h' : Heap), Ext h h' → Exa Z h' a "java/lang/String" → Fld Z h' a "java/lang/String" "coder" "B" (.int 0) → Fld Z h' a "java/lang/String" "value" "[B" (.ref b) → Arv Z h' b kb .byte z vs (.int 0) → (∀ x, Safe Z EL vm' h' x → x ≠ a ∧ x ≠ b) → CHr Z EL vm h vm' h' → Go nw p l e R s m args below meth c code ml nm ret Z a0 EL own P vm' h' (k + 2) (n + (cap + 4)) pc' L (.ref a :: S)) : Go nw p l e R s m args below meth c code ml nm ret Z a0 EL own P vm h k n pc L S := by
  subst hp
  intro hx hc hm hl' hnm hr hon T locs cells slots X hh hF hk hn
  obtain ⟨⟨k0, a1, a2⟩, a3, a4, a5, a6, a7, a8⟩ := hon
  obtain ⟨a, T', h', k1, b, kb, X', e', E, hS, hk1, hZ', hf', A, C1, V1, K1, -, -, ch, -, hne, st⟩ := ldcCH X hx a3 a4 w wS hh a1 a2 a7 hmem a5 ht hz hl (g := mkF m pc L S) rfl (hb hc hd) hcap hbig (by omega) (by omega)
  have hon' : On nw s m Z a0 EL own T'.vm h' := ⟨⟨k1, hS, hk1⟩, hZ', hf', ch.1, ⟨Nat.le_trans a6.1 E.1, fun a c q => E.2 _ _ (a6.2 _ _ q)⟩, a7, fun q => by rw [hnw] at q; cases q⟩
  obtain ⟨s₂, v2, st3, r1, r2, r3, r4, r5⟩ := g a b kb T'.vm h' E A C1 V1 K1 hne ch hx hc hm hl' hnm hr hon' T' _ _ _ X' e' hF (by omega) (by omega)
  exact ⟨s₂, v2, st _ st3, r1, r2, r3, ch.trans r4, r5⟩
theorem Go.castY {K : String} {idx : Nat} {a : Addr} (pc' : Nat) (hd : decode code pc = .ok (.checkcast idx, 3)) (hp : pc + 3 = pc') (w : (Jvm.Cond.classLink own idx K).before a0 Z = true) (F : Ins Z h a K true) (g : Go nw p l e R s m args below meth c code ml nm ret Z a0 EL own P vm h k n pc' L (.ref a :: S)) : Go nw p l e R s m args below meth c code ml nm ret Z a0 EL own P vm h k n pc L (.ref a :: S) := by
  subst hp
  exact g.note fun T locs cells slots X hh hx hc hm hon => RoadKit.castY X hx hon.2.1 hon.2.2.1 w hh F (g := mkF m pc L (.ref a :: S)) rfl rfl (hb hc hd)
theorem Go.instY {K : String} {idx : Nat} {a : Addr} (pc' : Nat) (hd : decode code pc = .ok (.instanceof idx, 3)) (hp : pc + 3 = pc') (w : (Jvm.Cond.classLink own idx K).before a0 Z = true) (F : Ins Z h a K true) (g : Go nw p l e R s m args below meth c code ml nm ret Z a0 EL own P vm h k n pc' L (.int 1 :: S)) : Go nw p l e R s m args below meth c code ml nm ret Z a0 EL own P vm h k n pc L (.ref a :: S) := by
  subst hp
  exact g.note fun T locs cells slots X hh hx hc hm hon => RoadKit.instY X hx hon.2.1 hon.2.2.1 w hh F (g := mkF m pc L (.ref a :: S)) rfl rfl (hb hc hd)
theorem Go.instN {K C : String} {idx : Nat} {a : Addr} (pc' : Nat) (hd : decode code pc = .ok (.instanceof idx, 3)) (hp : pc + 3 = pc') (w : (Jvm.Cond.classLink own idx K).before a0 Z = true) (E : Exa Z h a C) (F : ∃ c t, Z.vm.findClass C = some c ∧ Z.vm.findClass K = some t ∧ Z.vm.assignable c t = false) (g : Go nw p l e R s m args below meth c code ml nm ret Z a0 EL own P vm h k n pc' L (.int 0 :: S)) : Go nw p l e R s m args below meth c code ml nm ret Z a0 EL own P vm h k n pc L (.ref a :: S) := by
  subst hp
  exact g.note fun T locs cells slots X hh hx hc hm hon => instNo X hx hon.2.1 hon.2.2.1 w hh E F (g := mkF m pc L (.ref a :: S)) rfl rfl (hb hc hd)
theorem Go.ldc2_w {idx : Nat} {v : Int64} (w : (Jvm.Cond.constantLong own idx v).before a0 Z = true) (pc' : Nat) (hd : decode code pc = .ok (.ldc2_w idx, 3)) (hp : pc + 3 = pc') (g : Go nw p l e R s m args below meth c code ml nm ret Z a0 EL own P vm h k n pc' L (.long v :: S)) : Go nw p l e R s m args below meth c code ml nm ret Z a0 EL own P vm h k n pc L S := by
  subst hp
  exact g.note fun T locs cells slots X hh hx hc hm hon => ⟨T, X, hh, fun target q => ldc2J X hx hon.2.2.1 (mvT (s := s.setVm vm) hon.2.1 w) (g := mkF m pc L S) rfl (hb hc hd) q⟩
theorem Go.instNull {idx : Nat} (pc' : Nat) (hd : decode code pc = .ok (.instanceof idx, 3)) (hp : pc + 3 = pc') (g : Go nw p l e R s m args below meth c code ml nm ret Z a0 EL own P vm h k n pc' L (.int 0 :: S)) : Go nw p l e R s m args below meth c code ml nm ret Z a0 EL own P vm h k n pc L (.null :: S) := by
  subst hp
  exact g.note fun T locs cells slots X hh hx hc hm hon => ⟨T, X, hh, instanceofNull X hx (g := mkF m pc L (.null :: S)) rfl rfl (hb hc hd)⟩
theorem Go.anewarray {C : String} {idx : Nat} {z : Int32} (cap : Nat) (pc' : Nat) (hd : decode code pc = .ok (.anewarray idx, 3)) (hp : pc + 3 = pc') (w1 : (Jvm.Cond.classLink own idx C).before a0 Z = true) (w2 : (Jvm.Cond.arrayOver (.object C)).before a0 Z = true) (hz : ¬ z < 0) (hcap : z.toNatClampNeg ≤ cap) (hb8 : cap * 8 ≤ 536870912) (hk0 : k + 1 ≤ R.cells) (hn0 : n + cap ≤ R.slots)
    (g : ∀ a h', a = h.size → Ext h h' → (∃ cA, Arv Z h' a cA (.object C) z [] .null ∧ Ovr Z cA C) → Safe Z EL vm h' a → Z.heap.size ≤ a → CHr Z EL vm h vm h' → Go nw p l e R s m args below meth c code ml nm ret Z a0 EL own P vm h' (k + 1) (n + cap) pc' L (.ref a :: S)) : Go nw p l e R s m args below meth c code ml nm ret Z a0 EL own P vm h k n pc L (.int z :: S) := by
  subst hp
  refine Go.made (dk := 1) (dn := cap) (S' := fun a => .ref a :: S) (F := fun h' a => ∃ cA, Arv Z h' a cA (.object C) z [] .null ∧ Ovr Z cA C) hk0 hn0 (fun T locs cells slots X hh hx hc hm hon q1 q2 => ?_) g
  obtain ⟨T', h', cA, X', e', E, A, O, st⟩ := newR X hx hon.2.1 hon.2.2.1 w1 w2 hh (g := mkF m pc L (.int z :: S)) rfl (hb hc hd) rfl hz hcap hb8 q1 q2
  exact ⟨T', h', X', e', E, ⟨cA, Arv.new A hz, O⟩, st⟩
theorem Go.aastore {a y : Addr} {kA : ClassId} {C : String} {z j : Int32} {vs : List Value} {dv : Value} (i : Nat) (vs' : List Value) (pc' : Nat) (hd : decode code pc = .ok (.aastore, 1)) (hp : pc + 1 = pc') (A : Arv Z h a kA (.object C) z vs dv) (O : Ovr Z kA C) (I : Ins Z h y C true) (hj : ¬ j < 0 ∧ j < z) (hi : j.toNatClampNeg = i) (hl : i < vs.length) (hvs : vs.set i (.ref y) = vs') (Sa : Safe Z EL vm h a) (hz : Z.heap.size ≤ a)
    (g : ∀ h', Keep h h' [a] → Arv Z h' a kA (.object C) z vs' dv → Safe Z EL vm h' a → CHr Z EL vm h vm h' → Go nw p l e R s m args below meth c code ml nm ret Z a0 EL own P vm h' k n pc' L S) : Go nw p l e R s m args below meth c code ml nm ret Z a0 EL own P vm h k n pc L (.ref y :: .int j :: .ref a :: S) := by
  subst hp hvs
  obtain ⟨cl, A1, A2, A3, A4, A5, A6⟩ := A
  have hin := inb_of A3 hj
  refine Go.wrote Sa hz (sl := j.toNatClampNeg) (w := .ref y) (fun T locs cells slots X hh hx hc hm hnm hon => ?_) (fun h' W s2 ch => g h' (Keep.of_wr W) (Arv.set A1 A2 A3 A4 A5 A6 rfl W i hi hl) s2 ch)
  exact stR X hx hon.2.1 hh A1 hin rfl (Sto.ofV A1 A2 O I) (g := mkF m pc L (.ref y :: .int j :: .ref a :: S)) rfl rfl (hb hc hd)
theorem Go.invokeinterface {idx : Nat} {y : MethodName} {code' : ByteArray} {ml' : Nat} {ret' : Option FieldType} {rm : Room} {Q : Option Value → Vm → Heap → Prop} {ps : List FieldType} {r : Option FieldType} {rest : List Value} {xi : MethodName} {cls : String} {cnt : Nat} (W : Nat) (a : Addr) (argsL : List Value) (pc' : Nat) (hd : decode code pc = .ok (.invokeinterface idx cnt, 5)) (hp : pc + 5 = pc') (E : Exa Z h a cls) (w1 : (Jvm.Cond.methodLink own idx xi).before a0 Z = true) (w2 : (Jvm.Cond.declares xi).before a0 Z = true) (wf : ∀ s' : State, Z.Warmed39 s'.vm → (Jvm.Cond.interfaceMethod xi.cls xi.cls xi.name xi.desc).before args s' = true) (ws : (Jvm.Cond.selects cls xi y).before a0 Z = true) (wi : (Jvm.Cond.instanceMethod y).before a0 Z = true) (wp : (Jvm.Cond.publicMethod y).before a0 Z = true) (wu : (Jvm.Cond.unhidden cls xi.name xi.desc).before a0 Z = true) (wc : (Jvm.Cond.castable cls xi.cls).before a0 Z = true) (w3 : (Jvm.Cond.initialized y.cls).before a0 Z = true) (w4 : (Jvm.Cond.code y code' ml' ret').before a0 Z = true)
    (hy : xi.cls ≠ "java/lang/invoke/MethodHandle" ∧ xi.cls ≠ "java/lang/invoke/VarHandle") (C : Ctr nw l Z a0 EL y code' ml' ret' rm (.ref a :: argsL).toArray vm h Q) (hdesc : parseMethodDescriptor xi.desc = some ⟨ps, r⟩) (hlen : argsL.length = ps.length) (hst : S = argsL.reverse ++ .ref a :: rest) (hsz : L.size = ml) (hf : rm.frames + 1 ≤ R.frames) (hW : (rest.map fun v => v.category).sum ≤ W) (hl : W + (ml' + 11) + rm.locals ≤ R.locals) (hk0 : k + rm.cells ≤ R.cells) (hn0 : n + rm.slots ≤ R.slots)
    (g : ∀ v vm' h', Q v vm' h' → CHr Z EL vm h vm' h' → Go nw p l e R s m args below meth c code ml nm ret Z a0 EL own P vm' h' (k + rm.cells) (n + rm.slots) pc' L (v.toList ++ rest)) : Go nw p l e R s m args below meth c code ml nm ret Z a0 EL own P vm h k n pc L S := by
  refine Go.called (rm := rm) (Q := Q) (rest := rest) hp hk0 hn0 (fun T locs cells slots X hh hx hc hm hon q1 q2 => ?_) g
  obtain ⟨cB, kB, b1, b2, b3⟩ := isOf (s := s.setVm vm) hon.2.1 hh E
  exact X.interfaceBackS hx hon.2.2.1 (mvT (s := s.setVm vm) hon.2.1 w1) (mvT (s := s.setVm vm) hon.2.1 w2) (wf (s.setVm vm) hon.2.1) (mvT (s := s.setVm vm) hon.2.1 ws) (mvT (s := s.setVm vm) hon.2.1 wi) (mvT (s := s.setVm vm) hon.2.1 wp) (mvT (s := s.setVm vm) hon.2.1 wu) (mvT (s := s.setVm vm) hon.2.1 wc) hy (C.back hon w4 w3 hf hl) b1 b2 b3 (g := mkF m pc L S) rfl (hsz.trans hm.symm) (Steps.refl _) (argsL := argsL) (rest := rest) (lenOf hdesc hlen) hst (by show 2 * 0 + _ ≤ _; omega) (hb hc hd) (fun _ _ => ⟨rfl, hh, q1, q2⟩)
theorem Go.ldcI {idx : Nat} {v : Int32} (w : (Jvm.Cond.constant own idx v).before a0 Z = true) (pc' : Nat) (hd : decode code pc = .ok (.ldc idx, 2)) (hp : pc + 2 = pc') (g : Go nw p l e R s m args below meth c code ml nm ret Z a0 EL own P vm h k n pc' L (.int v :: S)) : Go nw p l e R s m args below meth c code ml nm ret Z a0 EL own P vm h k n pc L S := by
  subst hp
  exact g.note fun T locs cells slots X hh hx hc hm hon => ⟨T, X, hh, fun target q => Jvm.Stand.ldcI X hx hon.2.2.1 (mvT (s := s.setVm vm) hon.2.1 w) (g := mkF m pc L S) rfl (hb hc hd) q⟩
theorem Go.super {idx : Nat} {y : MethodName} {code' : ByteArray} {ml' : Nat} {ret' : Option FieldType} {rm : Room} {Q : Option Value → Vm → Heap → Prop} {ps : List FieldType} {r : Option FieldType} {rest : List Value} {K : String} (W : Nat) (a : Addr) (argsL : List Value) (pc' : Nat) (hd : decode code pc = .ok (.invokespecial idx, 3)) (hp : pc + 3 = pc') (hy1 : y.name ≠ "<init>") (w1 : (Jvm.Cond.methodLink own idx y).before a0 Z = true) (w2 : (Jvm.Cond.sameMethod y.cls y.cls y.name y.desc).before a0 Z = true) (wi : (Jvm.Cond.instanceMethod y).before a0 Z = true) (w5 : (Jvm.Cond.superclass own y.cls).before a0 Z = true) (w3 : (Jvm.Cond.initialized y.cls).before a0 Z = true) (w4 : (Jvm.Cond.code y code' ml' ret').before a0 Z = true) (F : Ins Z h a K true)
    (C : Ctr nw l Z a0 EL y code' ml' ret' rm (.ref a :: argsL).toArray vm h Q) (hdesc : parseMethodDescriptor y.desc = some ⟨ps, r⟩) (hlen : argsL.length = ps.length) (hst : S = argsL.reverse ++ .ref a :: rest) (hsz : L.size = ml) (hf : rm.frames + 1 ≤ R.frames) (hW : (rest.map fun v => v.category).sum ≤ W) (hl : W + (ml' + 11) + rm.locals ≤ R.locals) (hk0 : k + rm.cells ≤ R.cells) (hn0 : n + rm.slots ≤ R.slots)
    (g : ∀ v vm' h', Q v vm' h' → CHr Z EL vm h vm' h' → Go nw p l e R s m args below meth c code ml nm ret Z a0 EL own P vm' h' (k + rm.cells) (n + rm.slots) pc' L (v.toList ++ rest)) : Go nw p l e R s m args below meth c code ml nm ret Z a0 EL own P vm h k n pc L S := by
  refine Go.called (rm := rm) (Q := Q) (rest := rest) hp hk0 hn0 (fun T locs cells slots X hh hx hc hm hon q1 q2 => ?_) g
  exact superBackS X hx hon.2.1 hon.2.2.1 w1 w2 wi w5 hy1 (C.back hon w4 w3 hf hl) hh F (g := mkF m pc L S) rfl (hsz.trans hm.symm) w4 (argsL := argsL) (rest := rest) (lenOf hdesc hlen) hst (by show 2 * 0 + _ ≤ _; omega) (hb hc hd) (fun _ _ => ⟨rfl, hh, q1, q2⟩)
/-- declares, of a body with code -/
theorem declares_of {args : Array Value} {s : State} {y : MethodName} {bytes : ByteArray} {maxL : Nat} {ret : Option FieldType} (wi : (Jvm.Cond.instanceMethod y).before args s = true) (wc : (Jvm.Cond.code y bytes maxL ret).before args s = true) : (Jvm.Cond.declares y).before args s = true := by
  obtain ⟨mk, methM, hnamed, hmethM, hstM, habM⟩ := Cond.instanceMethod_spec wi
  obtain ⟨m2, cM, q1, -, -, -, -, -, -, hsig⟩ := Cond.code_spec hnamed wc
  cases hmethM.symm.trans q1
  simp [Cond.before, Cond.holds, Cond.value, hnamed, hmethM, hstM, hsig]
theorem same_of {args : Array Value} {s : State} {K : String} {y g : MethodName} (wi : (Jvm.Cond.instanceMethod y).before args s = true) (ws : (Jvm.Cond.selects K g g).before args s = true) (e : g.cls = y.cls) (hy : y.cls ≠ "java/lang/invoke/MethodHandle" ∧ y.cls ≠ "java/lang/invoke/VarHandle") : (Jvm.Cond.sameMethod y.cls y.cls y.name y.desc).before args s = true := by
  obtain ⟨mk, methM, hnamed, hmethM, hstM, habM⟩ := Cond.instanceMethod_spec wi
  obtain ⟨c2, r2, m2, q1, q2, q3, q4, kP, hkP, hkPi⟩ := Cond.selects_spec ws
  have f1 := findClass_of_methodNamed hnamed
  have f2 := findClass_of_methodNamed q3
  rw [e] at f2
  have f3 : m2.cls = mk.cls := Option.some.inj (f2.symm.trans f1)
  rw [f3] at hkP
  have f4 := State.methodFound?_of_named hnamed hy
  simp [Cond.before, Cond.holds, Cond.value, f1, f4, hnamed, hkP, hkPi]
/-- the cell that a copy leaves -/
theorem Arv.copied {dst : Addr} {k2 : ClassId} {z1 z2 : Int32} {vs ws vs' : List Value} {d1 d2 : Value} {cs cd : Cell} {o q z : Nat}
    (A : Has cs vs d1) (A3 : cs.slots.size = z1.toNatClampNeg) (A6 : ∀ i, i < cs.slots.size → fits .byte (vs.getD i d1) = true)
    (B : Arr Z h dst cd .byte) (B2 : cd.cls = k2) (B3 : cd.slots.size = z2.toNatClampNeg) (B4 : ¬ z2 < 0) (B5 : Has cd ws d2) (B6 : ∀ i, i < cd.slots.size → fits .byte (ws.getD i d2) = true)
    (hz1 : z1.toNatClampNeg < 2 ^ 31) (hz2 : z2.toNatClampNeg < 2 ^ 31) (q1 : o + z ≤ z1.toNatClampNeg) (q2 : q + z ≤ z2.toNatClampNeg)
    (hv : ∀ i, i < z2.toNatClampNeg → vs'.getD i d2 = if q ≤ i ∧ i < q + z then vs.getD (o + (i - q)) d1 else ws.getD i d2) :
    Keep h (h.setIfInBounds dst (Jvm.copied cs cd (Int32.ofNat o) (Int32.ofNat q) (Int32.ofNat z))) [dst] ∧ Arv Z (h.setIfInBounds dst (Jvm.copied cs cd (Int32.ofNat o) (Int32.ofNat q) (Int32.ofNat z))) dst k2 .byte z2 vs' d2 := by
  obtain ⟨f1, f2, f3⟩ := Jvm.Free.SB.copied_facts cs cd (Int32.ofNat o) (Int32.ofNat q) (Int32.ofNat z)
  have hlt : dst < h.size := B.lt
  have hg : ∀ j, (Jvm.copied cs cd (Int32.ofNat o) (Int32.ofNat q) (Int32.ofNat z)).slots[j]? = if q ≤ j ∧ j < q + z then some (cs.slots.getD (o + (j - q)) .null) else cd.slots[j]? :=
    fun j => Jvm.Free.Str.copied_at2 (by omega) (by omega) (by omega) (by omega) j
  refine ⟨⟨by simp, fun x c0 hx hn => ?_, fun x c0 hx => ?_⟩, ⟨Jvm.copied cs cd (Int32.ofNat o) (Int32.ofNat q) (Int32.ofNat z), ⟨by simp [hlt], ⟨fun kk => by rw [f2]; exact B.2.1.1 kk, by rw [f1]; exact B.2.1.2⟩, by rw [f2]; exact B.2.2⟩, by rw [f1]; exact B2, by rw [f3]; exact B3, B4, fun i hi => ?_, fun i hi => ?_⟩⟩
  · rw [Array.getElem?_setIfInBounds_ne (fun e => hn (by simp [e]))]; exact hx
  · by_cases e : dst = x
    · subst e
      refine ⟨Jvm.copied cs cd (Int32.ofNat o) (Int32.ofNat q) (Int32.ofNat z), by simp [hlt], ?_⟩
      cases hx.symm.trans B.1
      exact ⟨f1, f2, f3⟩
    · exact ⟨c0, by rw [Array.getElem?_setIfInBounds_ne e]; exact hx, rfl, rfl, rfl⟩
  · rw [f3, B3] at hi
    rw [hg, hv i hi]
    by_cases e : q ≤ i ∧ i < q + z
    · rw [if_pos e, if_pos e]
      have := A (o + (i - q)) (by omega)
      simp [Array.getD_eq_getD_getElem?, this]
    · rw [if_neg e, if_neg e]; exact B5 i (by omega)
  · rw [f3, B3] at hi
    rw [hv i hi]
    by_cases e : q ≤ i ∧ i < q + z
    · rw [if_pos e]; exact A6 _ (by omega)
    · rw [if_neg e]; exact B6 _ (by omega)
theorem clamp_lt (z : Int32) : z.toNatClampNeg < 2 ^ 31 := by
  have h2 := z.toInt_lt
  simp only [Int32.toNatClampNeg] at *; omega
/-- invokestatic System.arraycopy on bytes, into an array made in this walk -/
theorem Go.acopy {idx : Nat} {src dst : Addr} {k1 k2 : ClassId} {z1 z2 : Int32} {vs ws : List Value} {d1 d2 : Value} {rest : List Value} (o q z : Nat) (vs' : List Value) (pc' : Nat) (hd : decode code pc = .ok (.invokestatic idx, 3)) (hp : pc + 3 = pc')
    (w1 : (Jvm.Cond.methodLink own idx Jvm.Stand.acN).before a0 Z = true) (w2 : (Jvm.Cond.native Jvm.Stand.acN).before a0 Z = true) (w3 : (Jvm.Cond.static Jvm.Stand.acN).before a0 Z = true) (w4 : (Jvm.Cond.initialized "java/lang/System").before a0 Z = true)
    (A : Arv Z h src k1 .byte z1 vs d1) (B : Arv Z h dst k2 .byte z2 ws d2) (q1 : o + z ≤ z1.toNatClampNeg) (q2 : q + z ≤ z2.toNatClampNeg)
    (hv : ∀ i, i < z2.toNatClampNeg → vs'.getD i d2 = if q ≤ i ∧ i < q + z then vs.getD (o + (i - q)) d1 else ws.getD i d2)
    (hst : S = .int (Int32.ofNat z) :: .int (Int32.ofNat q) :: .ref dst :: .int (Int32.ofNat o) :: .ref src :: rest) (hsz : L.size = ml) (hfr : 1 ≤ R.frames) (hlo : (rest.map fun v => v.category).sum + 18 ≤ R.locals)
    (Sa : Safe Z EL vm h dst) (hz : Z.heap.size ≤ dst) (g : ∀ h', Keep h h' [dst] → Arv Z h' dst k2 .byte z2 vs' d2 → Safe Z EL vm h' dst → CHr Z EL vm h vm h' → Go nw p l e R s m args below meth c code ml nm ret Z a0 EL own P vm h' k n pc' L (rest)) : Go nw p l e R s m args below meth c code ml nm ret Z a0 EL own P vm h k n pc L (S) := by
  subst hp hst
  intro hx hc hm hl hnm hr hon T locs cells slots X hh hF hk hn
  have hlt := B.lt
  obtain ⟨cs, A1, A2, A3, A4, A5, A6⟩ := A
  obtain ⟨cd, B1, B2, B3, B4, B5, B6⟩ := B
  have l1 := clamp_lt z1
  have l2 := clamp_lt z2
  have to : ∀ x : Nat, x < 2 ^ 31 → (Int32.ofNat x).toNatClampNeg = x := fun x hx => Int32.toNatClampNeg_ofNat_of_lt hx
  have tI : ∀ x : Nat, x < 2 ^ 31 → (Int32.ofNat x).toInt = x := fun x hx => Int32.toInt_ofNat_of_lt hx
  have tn : ∀ x : Nat, x < 2 ^ 31 → ¬ Int32.ofNat x < 0 := fun x hx => by rw [Int32.lt_iff_toInt_lt, tI x hx]; have e1 : (0 : Int32).toInt = 0 := rfl; omega
  obtain ⟨ks, c1, comp1, c2⟩ := (State.isArrayOf_alike (s := Z) (T := s.setVm vm) hon.2.1.alike A1.2.1).2
  obtain ⟨kd, e1, comp2, e2⟩ := (State.isArrayOf_alike (s := Z) (T := s.setVm vm) hon.2.1.alike B1.2.1).2
  obtain ⟨K, AB⟩ := Arv.copied (o := o) (q := q) (z := z) A5 A3 A6 B1 B2 B3 B4 B5 B6 l1 l2 q1 q2 hv
  obtain ⟨vm₁, -, X', st⟩ := Jvm.Stand.arraycopyK X hx hon.2.2.1 (mvT (s := s.setVm vm) hon.2.1 w1) (mvT (s := s.setVm vm) hon.2.1 w2) (mvT (s := s.setVm vm) hon.2.1 w3) (mvT (s := s.setVm vm) hon.2.1 w4)
    (src := src) (dst := dst) (srcPos := Int32.ofNat o) (destPos := Int32.ofNat q) (n := Int32.ofNat z) (cs := cs) (cd := cd) (by rw [hh]; exact A1.1) (by rw [hh]; exact B1.1) A1.2.1.1 B1.2.1.1 A1.2.2 B1.2.2 c1 e1 c2 e2 (by decide) (tn _ (by omega)) (tn _ (by omega)) (tn _ (by omega))
    (by rw [tI _ (by omega), tI _ (by omega)]; omega) (by rw [tI _ (by omega), tI _ (by omega)]; omega)
    (fun vm₁ _ i hi => by
      rw [to _ (by omega)] at hi
      rw [to _ (by omega)]
      have a := A5 (o + i) (by omega)
      have b := A6 (o + i) (by omega)
      have e : cs.slots.getD (o + i) .null = vs.getD (o + i) d1 := by simp [Array.getD_eq_getD_getElem?, a]
      rw [e]
      refine ⟨b, ?_⟩
      generalize vs.getD (o + i) d1 = u at b
      cases u <;> simp [fits] at b <;> trivial)
    (g := mkF m pc L (.int (Int32.ofNat z) :: .int (Int32.ofNat q) :: .ref dst :: .int (Int32.ofNat o) :: .ref src :: rest)) rfl (hsz.trans hm.symm) (rest := rest) rfl (hb hc hd) hfr (by show 2 * 0 + _ + _ ≤ _; rw [nativeFrameWords_plain 5 (by decide)]; omega)
  have hU : ((T.setVm vm₁).setCell dst (Jvm.copied cs cd (Int32.ofNat o) (Int32.ofNat q) (Int32.ofNat z))).heap = h.setIfInBounds dst (Jvm.copied cs cd (Int32.ofNat o) (Int32.ofNat q) (Int32.ofNat z)) := by rw [← hh]; rfl
  have hs : ∀ x ∈ [dst], Safe Z EL vm h x := fun x hx => by cases List.mem_singleton.mp hx; exact Sa
  have hz' : ∀ x ∈ [dst], Z.heap.size ≤ x := fun x hx => by cases List.mem_singleton.mp hx; exact hz
  have ch : CHr Z EL vm h vm (h.setIfInBounds dst (Jvm.copied cs cd (Int32.ofNat o) (Int32.ofNat q) (Int32.ofNat z))) := CHr.keep K hs hon.2.2.2.1
  obtain ⟨s₂, v2, st3, r1, r2, r3, r4, r5⟩ := g _ K AB (CHr.safe ch hlt Sa) ch hx hc hm hl hnm hr (hon.keep K hs hz') _ _ _ _ X' hU (Fr.app hF fun y hy => by rw [Jvm.Stand.copyLocs_base hy]; exact hz) hk hn
  exact ⟨s₂, v2, st _ st3, r1, r2, r3, ch.trans r4, r5⟩

theorem Go.newarrayE {aty : ArrayType} {z : Int32} {ad : String} (had : "[" ++ (newarray.typeOf aty).toString = ad) (cap : Nat) (pc' : Nat) (hd : decode code pc = .ok (.newarray aty, 2)) (hp : pc + 2 = pc') (w : (Cond.arrayClass (newarray.typeOf aty)).before a0 Z = true) (hz : ¬ z < 0) (hcap : z.toNatClampNeg ≤ cap) (hb8 : cap * 8 ≤ 536870912) (hk0 : k + 1 ≤ R.cells) (hn0 : n + cap ≤ R.slots)
    (g : ∀ a h', a = h.size → Ext h h' → (∃ cA, Arv Z h' a cA (newarray.typeOf aty) z [] (defaultValue (newarray.typeOf aty)) ∧ Exa Z h' a ad) → Safe Z EL vm h' a → Z.heap.size ≤ a → CHr Z EL vm h vm h' → Go nw p l e R s m args below meth c code ml nm ret Z a0 EL own P vm h' (k + 1) (n + cap) pc' L (.ref a :: S)) : Go nw p l e R s m args below meth c code ml nm ret Z a0 EL own P vm h k n pc L (.int z :: S) := by
  subst hp
  refine Go.made (dk := 1) (dn := cap) (S' := fun a => .ref a :: S) (F := fun h' a => ∃ cA, Arv Z h' a cA (newarray.typeOf aty) z [] (defaultValue (newarray.typeOf aty)) ∧ Exa Z h' a ad) hk0 hn0 (fun T locs cells slots X hh hx hc hm hon q1 q2 => ?_) g
  obtain ⟨T', h', cA, X', e', E, A, Ex, st⟩ := newPE X hx hon.2.1 w hh (g := mkF m pc L (.int z :: S)) rfl (hb hc hd) rfl hz hcap hb8 q1 q2 had
  exact ⟨T', h', X', e', E, ⟨cA, Arv.new A hz, Ex⟩, st⟩
/-- invokevirtual clone() on an array -/
theorem Go.clone {idx : Nat} {ad : String} {a : Addr} {kA : ClassId} {ty : FieldType} {z : Int32} {vs : List Value} {dv : Value} {rest : List Value} (Wk cap : Nat) (pc' : Nat) (hd : decode code pc = .ok (.invokevirtual idx, 3)) (hp : pc + 3 = pc')
    (w1 : (Jvm.Cond.methodLink own idx ⟨ad, "clone", "()Ljava/lang/Object;"⟩).before a0 Z = true) (w2 : (Jvm.Cond.sameMethod ad "java/lang/Object" "clone" "()Ljava/lang/Object;").before a0 Z = true) (w3 : (Jvm.Cond.native ⟨"java/lang/Object", "clone", "()Ljava/lang/Object;"⟩).before a0 Z = true)
    (w4 : (Jvm.Cond.instanceMethod ⟨"java/lang/Object", "clone", "()Ljava/lang/Object;"⟩).before a0 Z = true) (w5 : (Jvm.Cond.selects ad ⟨ad, "clone", "()Ljava/lang/Object;"⟩ ⟨"java/lang/Object", "clone", "()Ljava/lang/Object;"⟩).before a0 Z = true) (w6 : (Jvm.Cond.castable ad "java/lang/Cloneable").before a0 Z = true)
    (A : Arv Z h a kA ty z vs dv) (E : Exa Z h a ad) (hst : S = .ref a :: rest) (hsz : L.size = ml) (hW : (rest.map fun v => v.category).sum ≤ Wk) (hfr : 1 ≤ R.frames) (hlo : Wk + 14 ≤ R.locals) (hcap : z.toNatClampNeg ≤ cap) (hk0 : k + 1 ≤ R.cells) (hn0 : n + cap ≤ R.slots)
    (g : ∀ r h', r = h.size → Ext h h' → (Arv Z h' r kA ty z vs dv ∧ Exa Z h' r ad) → Safe Z EL vm h' r → Z.heap.size ≤ r → CHr Z EL vm h vm h' → Go nw p l e R s m args below meth c code ml nm ret Z a0 EL own P vm h' (k + 1) (n + cap) pc' L (.ref r :: rest)) : Go nw p l e R s m args below meth c code ml nm ret Z a0 EL own P vm h k n pc L S := by
  subst hp hst
  refine Go.made (dk := 1) (dn := cap) (S' := fun a => .ref a :: rest) (F := fun h' r => Arv Z h' r kA ty z vs dv ∧ Exa Z h' r ad) hk0 hn0 (fun T locs cells slots X hh hx hc hm hon q1 q2 => ?_) g
  obtain ⟨T', h', X', e', E1, A1, E2, st⟩ := cloneH X hx hon.2.1 hon.2.2.1 w1 w2 w3 w4 w5 w6 hh A.arh E (g := mkF m pc L (.ref a :: rest)) rfl (hsz.trans hm.symm) rfl (hb hc hd) hfr (W := Wk) (cap := cap) (by show 2 * 0 + _ ≤ _; omega) hlo hcap q1 q2
  exact ⟨T', h', X', e', E1, ⟨A1, E2⟩, st⟩
/-- castore at the end of what a char[] holds -/
theorem Go.pushC {a : Addr} {kA : ClassId} {z j x : Int32} (xs : List Int32) (N : Nat) (pc' : Nat) (hd : decode code pc = .ok (.castore, 1)) (hp : pc + 1 = pc') (A : Arv Z h a kA .char z (xs.map Value.int) (.int 0)) (hN : z.toNatClampNeg = N) (hj : j = Int32.ofNat xs.length) (hl : xs.length < N) (hx1 : nar .char x = x) (Sa : Safe Z EL vm h a) (hz : Z.heap.size ≤ a)
    (g : ∀ h', Keep h h' [a] → Arv Z h' a kA .char z ((xs ++ [x]).map Value.int) (.int 0) → Safe Z EL vm h' a → CHr Z EL vm h vm h' → Go nw p l e R s m args below meth c code ml nm ret Z a0 EL own P vm h' k n pc' L S) : Go nw p l e R s m args below meth c code ml nm ret Z a0 EL own P vm h k n pc L (.int x :: .int j :: .ref a :: S) := by
  have hlt := clamp_lt z
  have c1 : j.toNatClampNeg = xs.length := by rw [hj]; exact Int32.toNatClampNeg_ofNat_of_lt (by omega)
  have A' : Arv Z h a kA .char z (xs.map Value.int ++ [.int 0]) (.int 0) := A.pad (pad_rep _ _ 1)
  have hneg : ¬ z < 0 := by obtain ⟨_, _, _, _, q, _⟩ := A; exact q
  refine Go.castore xs.length x ((xs ++ [x]).map Value.int) pc' hd hp A' ⟨?_, ?_⟩ c1 (by simp) hx1 (by simp) Sa hz g
  · rw [hj, Int32.lt_iff_toInt_lt, Int32.toInt_ofNat_of_lt (by omega)]; have e1 : (0 : Int32).toInt = 0 := rfl; omega
  · rw [hj, Int32.lt_iff_toInt_lt, Int32.toInt_ofNat_of_lt (by omega)]
    have e1 : (0 : Int32).toInt = 0 := rfl
    rw [Int32.lt_iff_toInt_lt] at hneg
    have e2 : z.toNatClampNeg = z.toInt.toNat := rfl
    omega
theorem Go.switchHit {k0 : Int32} {df : Int} {prs : Array (Int × Int)} {len : Nat} {a off : Int} (pc' : Nat) (hd : decode code pc = .ok (.lookupswitch df prs, len)) (hs : (prs.toList.zip (prs.toList.drop 1)).all (fun (a, next) => a.1 < next.1) = true) (hf : prs.find? (·.1 == k0.toInt) = some (a, off)) (ho : 0 ≤ (pc : Int) + off) (hp : ((pc : Int) + off).toNat = pc') (g : Go nw p l e R s m args below meth c code ml nm ret Z a0 EL own P vm h k n pc' L S) : Go nw p l e R s m args below meth c code ml nm ret Z a0 EL own P vm h k n pc L (.int k0 :: S) := by
  subst hp
  exact g.note fun T locs cells slots X hh hx hc hm hon => ⟨T, X, hh, fun target q => Jvm.Stand.lookupswitchHit X hx (g := mkF m pc L (.int k0 :: S)) rfl rfl (hb hc hd) hs hf ho target q⟩
theorem Go.switchMiss {k0 : Int32} {df : Int} {prs : Array (Int × Int)} {len : Nat} (pc' : Nat) (hd : decode code pc = .ok (.lookupswitch df prs, len)) (hs : (prs.toList.zip (prs.toList.drop 1)).all (fun (a, next) => a.1 < next.1) = true) (hf : prs.find? (·.1 == k0.toInt) = none) (ho : 0 ≤ (pc : Int) + df) (hp : ((pc : Int) + df).toNat = pc') (g : Go nw p l e R s m args below meth c code ml nm ret Z a0 EL own P vm h k n pc' L S) : Go nw p l e R s m args below meth c code ml nm ret Z a0 EL own P vm h k n pc L (.int k0 :: S) := by
  subst hp
  exact g.note fun T locs cells slots X hh hx hc hm hon => ⟨T, X, hh, fun target q => Jvm.Stand.lookupswitchMiss X hx (g := mkF m pc L (.int k0 :: S)) rfl rfl (hb hc hd) hs hf ho target q⟩
end Core
end Jvm.Own

namespace Jvm.Own
open Sem ClassFile Op Lib Bundle Jvm.Stand Jvm.Free Jvm.LawKit Jvm.RoadKit
section Facts
variable {Z : State} {a0 : Array Value} {EL : List (String × Nat)} {vm vm' : Vm} {h h' h0 h1 h2 : Heap} {a b x : Addr} {cs ds : List Int32} {ws : List Addr} {C : String} {n : Nat}
theorem Ext.rfl' (h : Heap) : Ext h h := ⟨Nat.le_refl _, fun _ _ q => q⟩
theorem Ext.tr (E : Ext h h1) (F : Ext h1 h2) : Ext h h2 := ⟨Nat.le_trans E.1 F.1, fun a c q => F.2 _ _ (E.2 _ _ q)⟩
/-- only new cells written: from the old heap's side nothing has changed -/
theorem Ext.kp (E : Ext h h1) (K : Keep h1 h2 ws) (q : ∀ x ∈ ws, h.size ≤ x) : Ext h h2 :=
  ⟨Nat.le_trans E.1 K.1, fun a c r => K.2.1 a c (E.2 _ _ r) fun z => absurd (Array.getElem?_eq_some_iff.mp r).1 (Nat.not_lt.mpr (q a z))⟩
theorem Ext.kp1 (E : Ext h h1) (K : Keep h1 h2 [x]) (e : x = h.size) : Ext h h2 := Ext.kp E K fun y hy => by cases List.mem_singleton.mp hy; exact Nat.le_of_eq e.symm
theorem Ext.kq1 (E : Ext h h1) (K : Keep h1 h2 [x]) (e : h.size ≤ x) : Ext h h2 := Ext.kp E K fun y hy => by cases List.mem_singleton.mp hy; exact e
theorem Ext.wr1 {sl : Nat} {v : Value} (E : Ext h h1) (W : Wr h1 h2 x sl v) (e : h.size ≤ x) : Ext h h2 := Ext.kq1 E (Keep.of_wr W) e
theorem Keep.ofExt (E : Ext h h') (ws : List Addr) : Keep h h' ws := (Keep.refl h ws).ext E
theorem Keep.e0 (K : Keep h h' []) : Ext h h' := ⟨K.1, fun a c q => K.2.1 a c q nin0⟩
theorem ne_of_new (q : a < h.size) (r : h.size ≤ b) : a ≠ b := Nat.ne_of_lt (Nat.lt_of_lt_of_le q r)
/-- a Latin-1 String of these chars -/
def Str (Z : State) (h : Heap) (a : Addr) (cs : List Int32) : Prop :=
  ∃ (b : Addr) (kb : ClassId), Exa Z h a "java/lang/String" ∧ Fld Z h a "java/lang/String" "coder" "B" (.int 0) ∧ Fld Z h a "java/lang/String" "value" "[B" (.ref b) ∧
    Arv Z h b kb .byte (Int32.ofNat cs.length) ((cs.map fun c => c.toInt8.toInt32).map Value.int) (.int 0) ∧ cs.length ≤ 4000 ∧ ∀ c ∈ cs, ¬ c < 0 ∧ ¬ (255 : Int32) < c
theorem Str.ext (S : Str Z h a cs) (E : Ext h h') : Str Z h' a cs := by
  obtain ⟨b, kb, s1, s2, s3, s4, s5⟩ := S
  exact ⟨b, kb, s1.ext E, s2.ext E, s3.ext E, s4.ext E, s5⟩
theorem Str.exa (S : Str Z h a cs) : Exa Z h a "java/lang/String" := by obtain ⟨b, kb, s1, -⟩ := S; exact s1
theorem Str.lt (S : Str Z h a cs) : a < h.size := S.exa.lt
/-- an object of another class is written -/
theorem Str.keepE (S : Str Z h a cs) (K : Keep h h' [x]) (E : Exa Z h x C) (hC : C ≠ "java/lang/String") (wi : (Jvm.Cond.instantiable C n).before a0 Z = true) : Str Z h' a cs := by
  obtain ⟨b, kb, s1, s2, s3, s4, s5⟩ := S
  have n1 : a ∉ [x] := ninS (fun q => (Exa.ne E s1 hC) q.symm) nin0
  have n2 : b ∉ [x] := ninS (fun q => (Exa.neArv E s4 wi) q.symm) nin0
  exact ⟨b, kb, s1.keep K, s2.keep K n1, s3.keep K n1, s4.keep K n2, s5⟩
theorem Str.wrE {sl : Nat} {v : Value} (S : Str Z h a cs) (W : Wr h h' x sl v) (E : Exa Z h x C) (hC : C ≠ "java/lang/String") (wi : (Jvm.Cond.instantiable C n).before a0 Z = true) : Str Z h' a cs := S.keepE (Keep.of_wr W) E hC wi
/-- an array of another kind is written -/
theorem Str.keepA {k : ClassId} {ty : FieldType} {z : Int32} {vs : List Value} {dv : Value} {nI : Nat} (S : Str Z h a cs) (K : Keep h h' [x]) (A : Arv Z h x k ty z vs dv) (ht : ty ≠ .byte) (wi : (Jvm.Cond.instantiable "java/lang/String" nI).before a0 Z = true) : Str Z h' a cs := by
  obtain ⟨b, kb, s1, s2, s3, s4, s5⟩ := S
  have n1 : a ∉ [x] := ninS (Exa.neArv s1 A wi) nin0
  have n2 : b ∉ [x] := ninS (fun q => by
    subst q
    obtain ⟨c1, ⟨e1, ⟨-, k1, f1, p1, g1⟩, -⟩, -⟩ := s4
    obtain ⟨c2, ⟨e2, ⟨-, k2, f2, p2, g2⟩, -⟩, -⟩ := A
    cases e1.symm.trans e2
    cases f1.symm.trans f2
    rw [g1] at g2
    cases g2
    exact ht rfl) nin0
  exact ⟨b, kb, s1.keep K, s2.keep K n1, s3.keep K n1, s4.keep K n2, s5⟩
theorem Exa.insOf (E : Exa Z h a C) : Ins Z h a C true := Ins.self E
theorem i2c255 (x : Int32) : (x &&& 255).toUInt32.toUInt16.toUInt32.toInt32 = x &&& 255 := i2c_mask x
theorem and255 (x : Int32) : ¬ (x &&& (255 : Int32)) < 0 ∧ ¬ (255 : Int32) < (x &&& (255 : Int32)) := by
  have t : ∀ k : Fin 256, ¬ (Int32.ofNat k.val) < 0 ∧ ¬ (255 : Int32) < Int32.ofNat k.val := by decide +kernel
  have h : (x &&& 255).toBitVec.toNat < 256 := by
    simp only [Int32.toBitVec_and, BitVec.toNat_and]
    exact Nat.lt_succ_of_le Nat.and_le_right
  have e : (x &&& 255) = Int32.ofNat (x &&& 255).toBitVec.toNat := by
    apply Int32.toBitVec_inj.mp
    show _ = BitVec.ofNat 32 _
    rw [BitVec.ofNat_toNat]; simp
  rw [e]
  exact t ⟨_, h⟩
theorem narC {x : Int32} (h : ¬ x < 0 ∧ ¬ (255 : Int32) < x) : nar .char x = x := by
  have e : x = x &&& 255 := by
    obtain ⟨h1, h2⟩ := h
    apply Int32.toInt_inj.mp
    rw [c_mask x 255 8 (by decide) (by decide)]
    rw [Int32.lt_iff_toInt_lt] at h1 h2
    have e1 : (0 : Int32).toInt = 0 := rfl
    have e2 : (255 : Int32).toInt = 255 := rfl
    omega
  rw [e]; exact i2c_mask x
theorem narZ {x : Int32} (h : x = 0 ∨ x = 1) : narrow .boolean (.int x) = .int x := by rcases h with rfl | rfl <;> rfl
theorem narCv {x : Int32} (h : ¬ x < 0 ∧ ¬ (255 : Int32) < x) : narrow .char (.int x) = .int x := (show narrow .char (.int x) = .int (nar .char x) from rfl).trans (by rw [narC h])
theorem l2i_mask {y m : Int64} {k : Nat} (hk : k ≤ 30) (hm : m.toBitVec.toNat = 2 ^ k - 1) : ((y &&& m).toInt32).toInt = y.toInt % (2 ^ k : Nat) := by
  have h1 := c_maskL y m k (by omega) hm
  have h2 := c_l2i (y &&& m)
  rw [h1] at h2
  have h3 := rng32 (y &&& m).toInt32
  have h4 : (2 ^ k : Nat) ≤ 2 ^ 30 := Nat.pow_le_pow_right (by decide) hk
  have h5 : 0 < (2 ^ k : Nat) := Nat.pow_pos (by decide)
  have h6 := Int.emod_nonneg y.toInt (b := ((2 ^ k : Nat) : Int)) (by omega)
  have h7 := Int.emod_lt_of_pos y.toInt (b := ((2 ^ k : Nat) : Int)) (by omega)
  omega
theorem b255L (y : Int64) : ¬ (y &&& (255 : Int64)).toInt32 < 0 ∧ ¬ (255 : Int32) < (y &&& (255 : Int64)).toInt32 := by
  have h := l2i_mask (y := y) (m := 255) (k := 8) (by decide) (by decide)
  rw [Int32.lt_iff_toInt_lt, Int32.lt_iff_toInt_lt, h]
  have e1 : (0 : Int32).toInt = 0 := rfl
  have e2 : (255 : Int32).toInt = 255 := rfl
  omega
theorem ofNat_toInt {n : Nat} (h : n < 2 ^ 31) : (Int32.ofNat n).toInt = n := len_toInt h
theorem ofNat_lt {i n : Nat} (hi : i < 2 ^ 31) (hn : n < 2 ^ 31) : Int32.ofNat i < Int32.ofNat n ↔ i < n := by
  rw [Int32.lt_iff_toInt_lt, ofNat_toInt hi, ofNat_toInt hn]; omega
theorem Str.at {i : Nat} (S : Str Z h a cs) (hi : i < cs.length) : ¬ cs.getD i 0 < 0 ∧ ¬ (255 : Int32) < cs.getD i 0 := by
  obtain ⟨b, kb, -, -, -, -, -, q⟩ := S
  have e : cs.getD i 0 = cs[i] := by simp [List.getD_eq_getElem?_getD, hi]
  rw [e]; exact q _ (List.getElem_mem _)
theorem Str.len (S : Str Z h a cs) : cs.length ≤ 4000 := by obtain ⟨b, kb, -, -, -, -, q, -⟩ := S; exact q
theorem refCat {v : Value} (h : v.isRef = true) : v.category = 1 := by rcases ref_cases h with rfl | ⟨a, rfl⟩ <;> rfl
/-- a truth as an int -/
def bi (P : Prop) [Decidable P] : Int32 := if P then 1 else 0
theorem bi_t {P : Prop} [Decidable P] (h : P) : bi P = 1 := if_pos h
theorem bi_f {P : Prop} [Decidable P] (h : ¬ P) : bi P = 0 := if_neg h
theorem bi0 {P : Prop} [Decidable P] : bi P = 0 ↔ ¬ P := by unfold bi; by_cases h : P <;> simp [h]
theorem bi1 {P : Prop} [Decidable P] : bi P = 1 ↔ P := by unfold bi; by_cases h : P <;> simp [h]
theorem bi_iff {P Q : Prop} [Decidable P] [Decidable Q] (h : P ↔ Q) : bi P = bi Q := by unfold bi; by_cases q : Q <;> simp [q, h]
theorem bi01 (P : Prop) [Decidable P] : bi P = 0 ∨ bi P = 1 := by unfold bi; by_cases h : P <;> simp [h]
theorem biZ (P : Prop) [Decidable P] : narrow .boolean (.int (bi P)) = .int (bi P) := narZ (bi01 P)
/-- a class that is no subclass of K -/
theorem noSub {C K O : String} {nk : Nat} (hC : (Jvm.Cond.superclass C O).before a0 Z = true) (hO : (Jvm.Cond.noSuperclass O).before a0 Z = true) (hK : (Jvm.Cond.instantiable K nk).before a0 Z = true) (n1 : C ≠ K) (n2 : O ≠ K) : ∃ c t, Z.vm.findClass C = some c ∧ Z.vm.findClass K = some t ∧ Z.vm.assignable c t = false := by
  obtain ⟨t, kt, g1, g2, g3, g4⟩ := Cond.instantiable_spec hK
  obtain ⟨o, ko, o1, o2, o3, -, -⟩ := Cond.noSuperclass_spec hO
  obtain ⟨c, h0⟩ := found_sup hC
  obtain ⟨p, k, kp, h1, h2, h3, h4, h5, -, h7⟩ := Cond.superclass_spec h0 hC
  cases o1.symm.trans h1
  have ne := ids_ne h0 g1 n1
  have no := ids_ne o1 g1 n2
  refine ⟨c, t, h0, g1, ?_⟩
  have sub : ∀ fuel, Z.vm.isSubclassAux fuel c t = false := fun fuel => by
    cases fuel with
    | zero => rfl
    | succ f =>
      cases f with
      | zero => simp [Vm.isSubclassAux, ne, h2, h4]
      | succ f => simp [Vm.isSubclassAux, ne, h2, h4, no, o2, o3]
  have g5 : kt.isInterface = false := by
    have q := g4.1
    simp only [Bool.or_eq_false_iff] at q
    exact q.1
  show Z.vm.assignableAux (255 + 1) c t = false
  simp [Vm.assignableAux, ne, h2, g2, h5, g3, g5, Vm.isSubclass, sub]
end Facts
end Jvm.Own
/- laws to paste: Road.backV, Road.lenW, Road.chN, Road.codOf (cut by pick.py; bodies as the Statement names them) -/
namespace Jvm.Pilot.@@N@@
namespace StrChars
open Jvm Sem ClassFile Op Lib Jvm.Stand Jvm.Free.XT Jvm.Free.ALB Jvm.Free.JM Jvm.Free
open Jvm.Lib.Cold (StaticIs)
/-- a char array whose places are chars -/
def Ch (a : Addr) (A : Cell) (U : State) : Prop := Arr .char a A U ∧ Typed .char A
theorem Ch.mv {a : Addr} {A : Cell} {U U' : State} (h : Ch a A U) (hal : U.vm.Alike U'.vm) (hh : U'.heap = U.heap) : Ch a A U' := ⟨h.1.mv hal hh, h.2⟩
theorem Ch.keep {a : Addr} {A : Cell} {U U' : State} (h : Ch a A U) (hal : U.vm.Alike U'.vm) (hk : U'.heap[a]? = some A) : Ch a A U' := ⟨h.1.keep hal hk, h.2⟩
/-- what place i of a char[]'s cell holds -/
def cv (A : Cell) (i : Nat) : Int32 := match A.slots[i]? with | some (.int x) => x | _ => 0
theorem Ch.get {a : Addr} {A : Cell} {U : State} (h : Ch a A U) {i : Nat} (hi : i < A.slots.size) : A.slots[i]? = some (.int (cv A i)) := by
  have e := Array.getElem?_eq_getElem hi
  have f := h.2 i _ e
  unfold cv; rw [e]
  generalize A.slots[i] = v at f
  cases v <;> simp [fits] at f ⊢
/-- the byte that i2b leaves of a char -/
def lo8 (x : Int32) : Int32 := x.toInt8.toInt32
theorem fits_lo8 (y : Int32) : fits .byte (.int (lo8 y)) = true := by
  have h1 := y.toInt8.le_toInt
  have h2 := y.toInt8.toInt_lt
  simp only [lo8, fits, Bool.and_eq_true, decide_eq_true_eq, Int32.le_iff_toInt_le, Int8.toInt_toInt32, show (-128 : Int32).toInt = -128 from by decide, show (127 : Int32).toInt = 127 from by decide]
  omega
/-- A' is A but that each place j of lo .. hi - 1 holds f j -/
def Laid (A A' : Cell) (lo hi : Nat) (f : Nat → Value) : Prop := A'.cls = A.cls ∧ A'.vm = A.vm ∧ A'.slots.size = A.slots.size ∧ ∀ i, A'.slots[i]? = if lo ≤ i ∧ i < hi then some (f i) else A.slots[i]?
theorem Laid.zero (A : Cell) (lo : Nat) (f : Nat → Value) : Laid A A lo (lo + 0) f := ⟨rfl, rfl, rfl, fun i => by rw [if_neg (by omega)]⟩
theorem Laid.step {A Ak : Cell} {lo k : Nat} {f : Nat → Value} {v : Value} (h : Laid A Ak lo k f) (hlo : lo ≤ k) (hk : k < Ak.slots.size) (hv : v = f k) : Laid A (Ak.setSlot k v) lo (k + 1) f := by
  refine ⟨h.1, h.2.1, by simpa [Cell.setSlot] using h.2.2.1, fun i => ?_⟩
  by_cases e : k = i
  · subst e; rw [Cell.slots_setSlot_self v hk, if_pos (by omega), hv]
  · rw [Cell.slots_setSlot_ne v e, h.2.2.2 i]
    by_cases q : lo ≤ i ∧ i < k
    · rw [if_pos q, if_pos (by omega)]
    · rw [if_neg q, if_neg (by omega)]
def U16 : String := "java/lang/StringUTF16"
namespace Cmp5
def yN : MethodName := ⟨"java/lang/StringUTF16", "compress", "([CI[BII)I"⟩
abbrev yB : ByteArray := jdk_52_method_21_code
theorem d0 : decode yB 0 = .ok (.iconst 0, 1) := by decide +kernel
theorem d1 : decode yB 1 = .ok (.istore 5, 2) := by decide +kernel
theorem d3 : decode yB 3 = .ok (.iload 5, 2) := by decide +kernel
theorem d5 : decode yB 5 = .ok (.iload 4, 2) := by decide +kernel
theorem d7 : decode yB 7 = .ok (.if_icmp (.ge) 37, 3) := by decide +kernel
theorem d10 : decode yB 10 = .ok (.aload_n 0, 1) := by decide +kernel
theorem d11 : decode yB 11 = .ok (.iload_n 1, 1) := by decide +kernel
theorem d12 : decode yB 12 = .ok (.caload, 1) := by decide +kernel
theorem d13 : decode yB 13 = .ok (.istore 6, 2) := by decide +kernel
theorem d15 : decode yB 15 = .ok (.iload 6, 2) := by decide +kernel
theorem d17 : decode yB 17 = .ok (.sipush 255, 3) := by decide +kernel
theorem d20 : decode yB 20 = .ok (.if_icmp (.le) 6, 3) := by decide +kernel
theorem d26 : decode yB 26 = .ok (.aload_n 2, 1) := by decide +kernel
theorem d27 : decode yB 27 = .ok (.iload_n 3, 1) := by decide +kernel
theorem d28 : decode yB 28 = .ok (.iload 6, 2) := by decide +kernel
theorem d30 : decode yB 30 = .ok (.i2b, 1) := by decide +kernel
theorem d31 : decode yB 31 = .ok (.bastore, 1) := by decide +kernel
theorem d32 : decode yB 32 = .ok (.iinc 1 1, 3) := by decide +kernel
theorem d35 : decode yB 35 = .ok (.iinc 3 1, 3) := by decide +kernel
theorem d38 : decode yB 38 = .ok (.iinc 5 1, 3) := by decide +kernel
theorem d41 : decode yB 41 = .ok (.goto (-38), 3) := by decide +kernel
theorem d44 : decode yB 44 = .ok (.iload 4, 2) := by decide +kernel
theorem d46 : decode yB 46 = .ok (.ireturn, 1) := by decide +kernel
def site : List Cond := []
def tab : Cond := tabOf yN yB 7 (some .int) site
def P (b : Addr) (A : Cell) (d : Addr) (B : Cell) (o q len : Nat) (args : Array Value) (s : State) : Prop := args = #[.ref b, .int (Int32.ofNat o), .ref d, .int (Int32.ofNat q), .int (Int32.ofNat len)] ∧ Ch b A s ∧ Arr .byte d B s ∧ b ≠ d ∧ o + len ≤ A.slots.size ∧ q + len ≤ B.slots.size ∧ ∀ i, i < len → ¬ 255 < cv A (o + i)
def E (b : Addr) (A : Cell) (d : Addr) (B : Cell) (o q len : Nat) (r : Option Value) (s u : State) : Prop := r = some (.int (Int32.ofNat len)) ∧ ∃ B', Put d B' s u ∧ Laid B B' q (q + len) (fun j => Value.int (lo8 (cv A (o + (j - q)))))
/-- no char of the range above 255: len; the places written hold each char's low byte -/
theorem law (l : Launch) (b : Addr) (A : Cell) (d : Addr) (B : Cell) (o q len : Nat) : Law l yN 5 5 0 0 yB 7 (some .int) site (P b A d B o q len) (E b A d B o q len) (copyLocs d q len) 0 0 := by
  refine Law.of_walk (plainFor_of_name (by decide +kernel)) (by decide +kernel) (by decide +kernel) (by decide) (fun _ _ h => by rw [h.1]; rfl) (fun _ U U' hal hh h => ⟨h.1, h.2.1.mv hal hh, h.2.2.1.mv hal hh, h.2.2.2⟩) (fun r U U' V V' h1 hal h2 h => ⟨h.1, h.2.elim fun B' q => ⟨B', q.1.mv h1 h2, q.2⟩⟩) ?_
  intro p e s m args below meth c s₁ X0 hexec hbytes hml hret hlk hnm hown hh0 W hP
  obtain ⟨rfl, hA, hB, hne, l1, l2, hp⟩ := hP
  have c1 : Steps p.tables e below (s₁.setTop (entryFrame m #[.ref b, .int (Int32.ofNat o), .ref d, .int (Int32.ofNat q), .int (Int32.ofNat len)] 7)) (s₁.setTop (mkF m 0 #[.val (.ref b), .val (.int (Int32.ofNat o)), .val (.ref d), .val (.int (Int32.ofNat q)), .val (.int (Int32.ofNat len)), .unset, .unset] [])) := entry rfl
  have hA0 := hA.1.mv X0.warmed.alike hh0
  have hB0 := hB.mv X0.warmed.alike hh0
  have a31 := hA.1.2.2.2
  have c2 : Steps p.tables e below (s₁.setTop (entryFrame m #[.ref b, .int (Int32.ofNat o), .ref d, .int (Int32.ofNat q), .int (Int32.ofNat len)] 7)) (s₁.setTop (mkF m 3 #[.val (.ref b), .val (.int (Int32.ofNat o)), .val (.ref d), .val (.int (Int32.ofNat q)), .val (.int (Int32.ofNat len)), .val (.int 0), .unset] [])) := c1.trans (by
    refine iconstV X0.here hexec rfl 0 (hb hbytes d0) (by decide) ?_
    refine XS.istore X0.here hexec rfl (hb hbytes d1) rfl rfl ?_
    exact Steps.refl _)
  have loop : ∀ (r i : Nat), i + r = len → ∀ (z : Slot), (z = .unset ∨ ∃ w, z = .val w ∧ w.category = 1) → ∀ (Tl : State) (Bk : Cell), Stand p l e { frames := 0, locals := 0, cells := 0, slots := 0 } s m #[.ref b, .int (Int32.ofNat o), .ref d, .int (Int32.ofNat q), .int (Int32.ofNat len)] below meth c Tl ([] ++ copyLocs d q i) 0 0 → Put d Bk s₁ Tl → Laid B Bk q (q + i) (fun j => Value.int (lo8 (cv A (o + (j - q))))) →
      Steps p.tables e below (s₁.setTop (entryFrame m #[.ref b, .int (Int32.ofNat o), .ref d, .int (Int32.ofNat q), .int (Int32.ofNat len)] 7)) (Tl.setTop (mkF m 3 #[.val (.ref b), .val (.int (Int32.ofNat (o + i))), .val (.ref d), .val (.int (Int32.ofNat (q + i))), .val (.int (Int32.ofNat len)), .val (.int (Int32.ofNat i)), z] [])) → ∃ (T' : State) (B' : Cell) (z' : Slot), Stand p l e { frames := 0, locals := 0, cells := 0, slots := 0 } s m #[.ref b, .int (Int32.ofNat o), .ref d, .int (Int32.ofNat q), .int (Int32.ofNat len)] below meth c T' ([] ++ copyLocs d q len) 0 0 ∧ Put d B' s₁ T' ∧ Laid B B' q (q + len) (fun j => Value.int (lo8 (cv A (o + (j - q))))) ∧
      Steps p.tables e below (s₁.setTop (entryFrame m #[.ref b, .int (Int32.ofNat o), .ref d, .int (Int32.ofNat q), .int (Int32.ofNat len)] 7)) (T'.setTop (mkF m 3 #[.val (.ref b), .val (.int (Int32.ofNat (o + len))), .val (.ref d), .val (.int (Int32.ofNat (q + len))), .val (.int (Int32.ofNat len)), .val (.int (Int32.ofNat len)), z'] [])) := by
    intro r
    induction r with
    | zero =>
      intro i hi z hz Tl Bk Xl pl fl cl
      have hil : i = len := by omega
      rw [hil] at Xl fl cl
      exact ⟨Tl, Bk, z, Xl, pl, fl, cl⟩
    | succ r ih =>
      intro i hi z hz Tl Bk Xl pl fl cl
      have all := X0.warmed.alike.symm.trans Xl.warmed.alike
      have hAl := hA0.keep all (pl.other hne hA0.1)
      have hBk := hB0.like all pl.1 fl.1 fl.2.1 fl.2.2.1
      have hlt : q + i < Bk.slots.size := by rw [fl.2.2.1]; omega
      have c3 : Steps p.tables e below (s₁.setTop (entryFrame m #[.ref b, .int (Int32.ofNat o), .ref d, .int (Int32.ofNat q), .int (Int32.ofNat len)] 7)) (Tl.setTop (mkF m 12 #[.val (.ref b), .val (.int (Int32.ofNat (o + i))), .val (.ref d), .val (.int (Int32.ofNat (q + i))), .val (.int (Int32.ofNat len)), .val (.int (Int32.ofNat i)), z] [.int (Int32.ofNat (o + i)), .ref b])) := cl.trans (by
        refine XS.iload Xl.here hexec rfl (hb hbytes d3) rfl ?_
        refine XS.iload Xl.here hexec rfl (hb hbytes d5) rfl ?_
        refine XS.icmpNo Xl.here hexec rfl (hb hbytes d7) rfl (ii_ge_f (lt32 (by omega) (by omega))) ?_
        refine XS.aloadN Xl.here hexec rfl (hb hbytes d10) rfl rfl ?_
        refine XS.iloadN Xl.here hexec rfl (hb hbytes d11) rfl ?_
        exact Steps.refl _)
      have c4 : Steps p.tables e below (s₁.setTop (entryFrame m #[.ref b, .int (Int32.ofNat o), .ref d, .int (Int32.ofNat q), .int (Int32.ofNat len)] 7)) (Tl.setTop (mkF m 13 #[.val (.ref b), .val (.int (Int32.ofNat (o + i))), .val (.ref d), .val (.int (Int32.ofNat (q + i))), .val (.int (Int32.ofNat len)), .val (.int (Int32.ofNat i)), z] [.int (cv A (o + i))])) := c3.trans (by
        refine Xl.aget hexec hAl rfl (hA.get (i := o + i) (by omega)) rfl rfl (hb hbytes d12) ?_
        exact Steps.refl _)
      have c5 : Steps p.tables e below (s₁.setTop (entryFrame m #[.ref b, .int (Int32.ofNat o), .ref d, .int (Int32.ofNat q), .int (Int32.ofNat len)] 7)) (Tl.setTop (mkF m 15 #[.val (.ref b), .val (.int (Int32.ofNat (o + i))), .val (.ref d), .val (.int (Int32.ofNat (q + i))), .val (.int (Int32.ofNat len)), .val (.int (Int32.ofNat i)), .val (.int (cv A (o + i)))] [])) := c4.trans (by
        refine XS.istoreS Xl.here hexec rfl (hb hbytes d13) rfl rfl hz ?_
        exact Steps.refl _)
      have c6 : Steps p.tables e below (s₁.setTop (entryFrame m #[.ref b, .int (Int32.ofNat o), .ref d, .int (Int32.ofNat q), .int (Int32.ofNat len)] 7)) (Tl.setTop (mkF m 31 #[.val (.ref b), .val (.int (Int32.ofNat (o + i))), .val (.ref d), .val (.int (Int32.ofNat (q + i))), .val (.int (Int32.ofNat len)), .val (.int (Int32.ofNat i)), .val (.int (cv A (o + i)))] [.int (lo8 (cv A (o + i))), .int (Int32.ofNat (q + i)), .ref d])) := c5.trans (by
        refine XS.iload Xl.here hexec rfl (hb hbytes d15) rfl ?_
        refine sipushV Xl.here hexec rfl 255 (hb hbytes d17) (by decide) ?_
        refine XS.icmpYes Xl.here hexec rfl (pc0 := 20) rfl (hb hbytes d20) rfl (ii_le_t (hp i (by omega))) (by decide) rfl ?_
        refine XS.aloadN Xl.here hexec rfl (hb hbytes d26) rfl rfl ?_
        refine XS.iloadN Xl.here hexec rfl (hb hbytes d27) rfl ?_
        refine XS.iload Xl.here hexec rfl (hb hbytes d28) rfl ?_
        refine i2b Xl.here hexec rfl (hb hbytes d30) rfl ?_
        exact Steps.refl _)
      obtain ⟨T7, X7, p7, st7⟩ := Xl.aput hexec hBk rfl hlt rfl (fits_lo8 (cv A (o + i))) (g := (mkF m 31 #[.val (.ref b), .val (.int (Int32.ofNat (o + i))), .val (.ref d), .val (.int (Int32.ofNat (q + i))), .val (.int (Int32.ofNat len)), .val (.int (Int32.ofNat i)), .val (.int (cv A (o + i)))] [.int (lo8 (cv A (o + i))), .int (Int32.ofNat (q + i)), .ref d])) rfl (rest := []) rfl (hb hbytes d31)
      have c8 : Steps p.tables e below (s₁.setTop (entryFrame m #[.ref b, .int (Int32.ofNat o), .ref d, .int (Int32.ofNat q), .int (Int32.ofNat len)] 7)) (T7.setTop (mkF m 32 #[.val (.ref b), .val (.int (Int32.ofNat (o + i))), .val (.ref d), .val (.int (Int32.ofNat (q + i))), .val (.int (Int32.ofNat len)), .val (.int (Int32.ofNat i)), .val (.int (cv A (o + i)))] [])) := c6.trans (st7 _ (Steps.refl _))
      have c9 : Steps p.tables e below (s₁.setTop (entryFrame m #[.ref b, .int (Int32.ofNat o), .ref d, .int (Int32.ofNat q), .int (Int32.ofNat len)] 7)) (T7.setTop (mkF m 3 #[.val (.ref b), .val (.int (Int32.ofNat (o + i) + 1)), .val (.ref d), .val (.int (Int32.ofNat (q + i) + 1)), .val (.int (Int32.ofNat len)), .val (.int (Int32.ofNat i + 1)), .val (.int (cv A (o + i)))] [])) := c8.trans (by
        refine iincV X7.here hexec rfl 1 (hb hbytes d32) (by decide) rfl rfl ?_
        refine iincV X7.here hexec rfl 1 (hb hbytes d35) (by decide) rfl rfl ?_
        refine iincV X7.here hexec rfl 1 (hb hbytes d38) (by decide) rfl rfl ?_
        refine XS.goto X7.here hexec rfl (pc0 := 41) rfl (hb hbytes d41) (by decide) rfl ?_
        exact Steps.refl _)
      have c10 : Steps p.tables e below (s₁.setTop (entryFrame m #[.ref b, .int (Int32.ofNat o), .ref d, .int (Int32.ofNat q), .int (Int32.ofNat len)] 7)) (T7.setTop (mkF m 3 #[.val (.ref b), .val (.int (Int32.ofNat (o + (i + 1)))), .val (.ref d), .val (.int (Int32.ofNat (q + (i + 1)))), .val (.int (Int32.ofNat len)), .val (.int (Int32.ofNat (i + 1))), .val (.int (cv A (o + i)))] [])) := by
        have := c9
        rw [succ32, succ32, succ32] at this
        exact this
      exact ih (i + 1) (by omega) _ (Or.inr ⟨_, rfl, rfl⟩) T7 _ (by rw [copyLocs_step, ← List.append_assoc]; exact X7) (pl.trans p7) (fl.step (by omega) hlt (by simp)) c10
  obtain ⟨T9, B9, z9, X9, p9, f9, g9⟩ := loop len 0 (by omega) .unset (Or.inl rfl) s₁ B (by simpa [copyLocs] using X0) ⟨hB0.1, fun _ _ => rfl, rfl⟩ (Laid.zero _ _ _) c2
  have c11 : Steps p.tables e below (s₁.setTop (entryFrame m #[.ref b, .int (Int32.ofNat o), .ref d, .int (Int32.ofNat q), .int (Int32.ofNat len)] 7)) (T9.setTop (mkF m 46 #[.val (.ref b), .val (.int (Int32.ofNat (o + len))), .val (.ref d), .val (.int (Int32.ofNat (q + len))), .val (.int (Int32.ofNat len)), .val (.int (Int32.ofNat len)), z9] [.int (Int32.ofNat len)])) := g9.trans (by
    refine XS.iload X9.here hexec rfl (hb hbytes d3) rfl ?_
    refine XS.iload X9.here hexec rfl (hb hbytes d5) rfl ?_
    refine XS.icmpYes X9.here hexec rfl (pc0 := 7) rfl (hb hbytes d7) rfl (ii_ge_t (nlt32 (by omega) (Nat.le_refl _))) (by decide) rfl ?_
    refine XS.iload X9.here hexec rfl (hb hbytes d44) rfl ?_
    exact Steps.refl _)
  exact ⟨T9, some (.int (Int32.ofNat len)), _, _, _, X9, by simp, rfl, rfl, (fun h => by cases h), ⟨rfl, B9, p9.from hh0, f9⟩, fun fs hl => c11.trans (X9.ireturnOut hexec hret rfl (Or.inl rfl) (hb hbytes d46) hl)⟩
end Cmp5
namespace Cmp3
def yN : MethodName := ⟨"java/lang/StringUTF16", "compress", "([CII)[B"⟩
abbrev yB : ByteArray := jdk_52_method_16_code
theorem d0 : decode yB 0 = .ok (.iload_n 2, 1) := by decide +kernel
theorem d1 : decode yB 1 = .ok (.newarray .byte, 2) := by decide +kernel
theorem d3 : decode yB 3 = .ok (.astore_n 3, 1) := by decide +kernel
theorem d4 : decode yB 4 = .ok (.aload_n 0, 1) := by decide +kernel
theorem d5 : decode yB 5 = .ok (.iload_n 1, 1) := by decide +kernel
theorem d6 : decode yB 6 = .ok (.aload_n 3, 1) := by decide +kernel
theorem d7 : decode yB 7 = .ok (.iconst 0, 1) := by decide +kernel
theorem d8 : decode yB 8 = .ok (.iload_n 2, 1) := by decide +kernel
theorem d9 : decode yB 9 = .ok (.invokestatic 115, 3) := by decide +kernel
theorem d12 : decode yB 12 = .ok (.istore 4, 2) := by decide +kernel
theorem d14 : decode yB 14 = .ok (.iload 4, 2) := by decide +kernel
theorem d16 : decode yB 16 = .ok (.iload_n 2, 1) := by decide +kernel
theorem d17 : decode yB 17 = .ok (.if_icmp (.eq) 40, 3) := by decide +kernel
theorem d57 : decode yB 57 = .ok (.aload_n 3, 1) := by decide +kernel
theorem d58 : decode yB 58 = .ok (.areturn, 1) := by decide +kernel
def site : List Cond := [.arrayClass .byte, Cmp5.tab] ++ staticW U16 115 Cmp5.yN
def tab : Cond := tabOf yN yB 6 (some (.array .byte)) site
def P (b : Addr) (A : Cell) (o len : Nat) (args : Array Value) (s : State) : Prop := args = #[.ref b, .int (Int32.ofNat o), .int (Int32.ofNat len)] ∧ Ch b A s ∧ o + len ≤ A.slots.size ∧ len ≤ 536870912 ∧ ∀ i, i < len → ¬ 255 < cv A (o + i)
def E (b : Addr) (A : Cell) (o len : Nat) (r : Option Value) (s u : State) : Prop := NewArr .byte "[B" len (fun j => .int (lo8 (cv A (o + j)))) r s u ∧ u.heap.size = s.heap.size + 1
/-- no char of the range above 255: a new byte[] of their low bytes -/
theorem law (l : Launch) (b : Addr) (A : Cell) (o len : Nat) : Law l yN 3 3 1 18 yB 6 (some (.array .byte)) site (P b A o len) (E b A o len) [] 1 len := by
  refine Law.of_walk (plainFor_of_name (by decide +kernel)) (by decide +kernel) (by decide +kernel) (by decide) (fun _ _ h => by rw [h.1]; rfl) (fun _ U U' hal hh h => ⟨h.1, h.2.1.mv hal hh, h.2.2⟩) (fun r U U' V V' h1 hal h2 h => ⟨NewArr.mv r U U' V V' h1 hal h2 h.1, by rw [h1, h2]; exact h.2⟩) ?_
  intro p e s m args below meth c s₁ X0 hexec hbytes hml hret hlk hnm hown hh0 W hP
  obtain ⟨rfl, hA, l1, l2, hp⟩ := hP
  have a31 := hA.1.2.2.2
  have c1 : Steps p.tables e below (s₁.setTop (entryFrame m #[.ref b, .int (Int32.ofNat o), .int (Int32.ofNat len)] 6)) (s₁.setTop (mkF m 0 #[.val (.ref b), .val (.int (Int32.ofNat o)), .val (.int (Int32.ofNat len)), .unset, .unset, .unset] [])) := entry rfl
  have c2 : Steps p.tables e below (s₁.setTop (entryFrame m #[.ref b, .int (Int32.ofNat o), .int (Int32.ofNat len)] 6)) (s₁.setTop (mkF m 1 #[.val (.ref b), .val (.int (Int32.ofNat o)), .val (.int (Int32.ofNat len)), .unset, .unset, .unset] [.int (Int32.ofNat len)])) := c1.trans (by
    refine XS.iloadN X0.here hexec rfl (hb hbytes d0) rfl ?_
    exact Steps.refl _)
  obtain ⟨T3, B3, X3, ba3, bs3, bv3, bh3, bf3, st3⟩ := X0.anew hexec (atype := .byte) (wk W (.arrayClass .byte)) rfl (by show len * 1 ≤ _; omega) (by omega) (g := (mkF m 1 #[.val (.ref b), .val (.int (Int32.ofNat o)), .val (.int (Int32.ofNat len)), .unset, .unset, .unset] [.int (Int32.ofNat len)])) rfl (hb hbytes d1) (rest := []) rfl (Nat.le_refl _) (by show 0 + len ≤ len; omega)
  rw [hh0] at ba3 st3
  have kp3 : XT.Kept s T3 := (XT.Kept.of_eq hh0).push bh3
  have hA3 := hA.keep X3.warmed.alike (kp3 _ _ hA.1.1)
  have hne : b ≠ s.heap.size := hA.1.ne
  have c4 : Steps p.tables e below (s₁.setTop (entryFrame m #[.ref b, .int (Int32.ofNat o), .int (Int32.ofNat len)] 6)) (T3.setTop (mkF m 3 #[.val (.ref b), .val (.int (Int32.ofNat o)), .val (.int (Int32.ofNat len)), .unset, .unset, .unset] [.ref s.heap.size])) := c2.trans (st3 _ (Steps.refl _))
  have c5 : Steps p.tables e below (s₁.setTop (entryFrame m #[.ref b, .int (Int32.ofNat o), .int (Int32.ofNat len)] 6)) (T3.setTop (mkF m 9 #[.val (.ref b), .val (.int (Int32.ofNat o)), .val (.int (Int32.ofNat len)), .val (.ref s.heap.size), .unset, .unset] [.int (Int32.ofNat len), .int 0, .ref s.heap.size, .int (Int32.ofNat o), .ref b])) := c4.trans (by
    refine XS.astoreN X3.here hexec rfl (hb hbytes d3) rfl rfl rfl ?_
    refine XS.aloadN X3.here hexec rfl (hb hbytes d4) rfl rfl ?_
    refine XS.iloadN X3.here hexec rfl (hb hbytes d5) rfl ?_
    refine XS.aloadN X3.here hexec rfl (hb hbytes d6) rfl rfl ?_
    refine iconstV X3.here hexec rfl 0 (hb hbytes d7) (by decide) ?_
    refine XS.iloadN X3.here hexec rfl (hb hbytes d8) rfl ?_
    exact Steps.refl _)
  obtain ⟨v6, T6, X6, E6, g6⟩ := X3.callS hexec (Cmp5.law l b A s.heap.size B3 o 0 len) hown (wks W (staticW U16 115 Cmp5.yN)) (wk W Cmp5.tab) (W := 0) (Nat.le_of_ble_eq_true rfl) (Nat.le_of_ble_eq_true rfl) (Nat.le_refl _) (by show 0 + len + 0 ≤ len; omega) (g := (mkF m 9 #[.val (.ref b), .val (.int (Int32.ofNat o)), .val (.int (Int32.ofNat len)), .val (.ref s.heap.size), .unset, .unset] [.int (Int32.ofNat len), .int (Int32.ofNat 0), .ref s.heap.size, .int (Int32.ofNat o), .ref b])) rfl (by rw [hml]; rfl) c5 (argsL := [.ref b, .int (Int32.ofNat o), .ref s.heap.size, .int (Int32.ofNat 0), .int (Int32.ofNat len)]) (rest := []) rfl rfl (by show 2 * 0 + 0 ≤ _; decide) (hb hbytes d9) (⟨rfl, hA3, ba3, hne, l1, by rw [bs3]; simp, hp⟩)
  obtain ⟨rfl, B6, p6, f6⟩ := E6
  have c7 : Steps p.tables e below (s₁.setTop (entryFrame m #[.ref b, .int (Int32.ofNat o), .int (Int32.ofNat len)] 6)) (T6.setTop (mkF m 12 #[.val (.ref b), .val (.int (Int32.ofNat o)), .val (.int (Int32.ofNat len)), .val (.ref s.heap.size), .unset, .unset] [.int (Int32.ofNat len)])) := g6
  have c8 : Steps p.tables e below (s₁.setTop (entryFrame m #[.ref b, .int (Int32.ofNat o), .int (Int32.ofNat len)] 6)) (T6.setTop (mkF m 58 #[.val (.ref b), .val (.int (Int32.ofNat o)), .val (.int (Int32.ofNat len)), .val (.ref s.heap.size), .val (.int (Int32.ofNat len)), .unset] [.ref s.heap.size])) := c7.trans (by
    refine XS.istore X6.here hexec rfl (hb hbytes d12) rfl rfl ?_
    refine XS.iload X6.here hexec rfl (hb hbytes d14) rfl ?_
    refine XS.iloadN X6.here hexec rfl (hb hbytes d16) rfl ?_
    refine XS.icmpYes X6.here hexec rfl (pc0 := 17) rfl (hb hbytes d17) rfl (ii_eq_t rfl) (by decide) rfl ?_
    refine XS.aloadN X6.here hexec rfl (hb hbytes d57) rfl rfl ?_
    exact Steps.refl _)
  have X8 := X6.wide (L' := []) (cells' := 1) (slots' := len) (fun x hx hlt => by
    simp only [List.nil_append, copyLocs, List.mem_map, List.mem_range] at hx
    obtain ⟨i, -, rfl⟩ := hx
    exact absurd hlt (Nat.lt_irrefl _)) (Nat.le_refl _) (by omega)
  exact ⟨T6, some (.ref s.heap.size), _, _, _, X8, rfl, rfl, rfl, (fun h => by cases h), ⟨⟨rfl, B6, ba3.like (X3.warmed.alike.symm.trans X6.warmed.alike) p6.1 f6.1 f6.2.1 f6.2.2.1, f6.2.1.trans bv3, by rw [X6.warmed.alike.findClass, f6.1]; exact bf3, by rw [f6.2.2.1, bs3]; simp, fun j hj => by rw [f6.2.2.2 j, if_pos (by omega)]; rfl, kp3.put p6 (Nat.le_refl _)⟩, by rw [p6.2.2, bh3, hh0]; simp⟩, fun fs hl => c8.trans (X8.areturnOut hexec rfl hret rfl (hb hbytes d58) hl)⟩
end Cmp3
namespace CodL
def yN : MethodName := ⟨"java/lang/StringUTF16", "coderFromArrayLen", "([BI)B"⟩
abbrev yB : ByteArray := jdk_52_method_15_code
theorem d0 : decode yB 0 = .ok (.iload_n 1, 1) := by decide +kernel
theorem d1 : decode yB 1 = .ok (.aload_n 0, 1) := by decide +kernel
theorem d2 : decode yB 2 = .ok (.arraylength, 1) := by decide +kernel
theorem d3 : decode yB 3 = .ok (.isub, 1) := by decide +kernel
theorem d4 : decode yB 4 = .ok (.bipush 31, 2) := by decide +kernel
theorem d6 : decode yB 6 = .ok (.iushr, 1) := by decide +kernel
theorem d7 : decode yB 7 = .ok (.i2b, 1) := by decide +kernel
theorem d8 : decode yB 8 = .ok (.ireturn, 1) := by decide +kernel
def site : List Cond := []
def tab : Cond := tabOf yN yB 2 (some .byte) site
def P (d : Addr) (B : Cell) (args : Array Value) (s : State) : Prop := args = #[.ref d, .int (Int32.ofNat B.slots.size)] ∧ Arr .byte d B s
def E (r : Option Value) (s u : State) : Prop := XT.PureE (some (.int 0)) r s u
/-- an array as long as the number of chars: LATIN1 -/
theorem law (l : Launch) (d : Addr) (B : Cell) : Law l yN 2 2 0 0 yB 2 (some .byte) site (P d B) E [] 0 0 := by
  refine Law.of_walk (plainFor_of_name (by decide +kernel)) (by decide +kernel) (by decide +kernel) (by decide) (fun _ _ h => by rw [h.1]; rfl) (fun _ U U' hal hh h => ⟨h.1, h.2.mv hal hh⟩) (fun r U U' V V' h1 hal h2 h => XT.PureE.mv r U U' V V' h1 hal h2 h) ?_
  intro p e s m args below meth c s₁ X0 hexec hbytes hml hret hlk hnm hown hh0 W hP
  obtain ⟨rfl, hB⟩ := hP
  have hB0 := hB.mv X0.warmed.alike hh0
  have c1 : Steps p.tables e below (s₁.setTop (entryFrame m #[.ref d, .int (Int32.ofNat B.slots.size)] 2)) (s₁.setTop (mkF m 0 #[.val (.ref d), .val (.int (Int32.ofNat B.slots.size))] [])) := entry rfl
  have c2 : Steps p.tables e below (s₁.setTop (entryFrame m #[.ref d, .int (Int32.ofNat B.slots.size)] 2)) (s₁.setTop (mkF m 2 #[.val (.ref d), .val (.int (Int32.ofNat B.slots.size))] [.ref d, .int (Int32.ofNat B.slots.size)])) := c1.trans (by
    refine XS.iloadN X0.here hexec rfl (hb hbytes d0) rfl ?_
    refine XS.aloadN X0.here hexec rfl (hb hbytes d1) rfl rfl ?_
    exact Steps.refl _)
  have c3 : Steps p.tables e below (s₁.setTop (entryFrame m #[.ref d, .int (Int32.ofNat B.slots.size)] 2)) (s₁.setTop (mkF m 8 #[.val (.ref d), .val (.int (Int32.ofNat B.slots.size))] [.int (lo8 (ushr (Int32.ofNat B.slots.size - Int32.ofNat B.slots.size) 31))])) := c2.trans (by
    refine X0.alen hexec hB0 rfl rfl (hb hbytes d2) ?_
    refine XS.isub X0.here hexec rfl (hb hbytes d3) rfl ?_
    refine bipushV X0.here hexec rfl 31 (hb hbytes d4) (by decide) ?_
    refine iushr X0.here hexec rfl (hb hbytes d6) rfl ?_
    refine i2b X0.here hexec rfl (hb hbytes d7) rfl ?_
    exact Steps.refl _)
  have e0 : lo8 (ushr (Int32.ofNat B.slots.size - Int32.ofNat B.slots.size) 31) = 0 := by rw [Int32.sub_self]; decide
  rw [e0] at c3
  exact ⟨s₁, some (.int 0), _, _, _, X0, rfl, rfl, rfl, (fun h => by cases h), ⟨rfl, hh0⟩, fun fs hl => c3.trans (X0.ireturnOut hexec hret rfl (Or.inr (Or.inr (Or.inl rfl))) (hb hbytes d8) hl)⟩
end CodL
/-- the String at a is Latin-1 over a new byte[] (the heap's one new cell): the low bytes of the len chars of A from o on; every cell but a is kept -/
def Got (a : Addr) (D : Cell) (fV fC : Field) (A : Cell) (o len : Nat) (r : Option Value) (s u : State) : Prop := r = none ∧ ∃ D' V : Cell, Blank "java/lang/String" a D' u ∧ Same D D' [fV.slot, fC.slot] ∧ D'.slots[fV.slot]? = some (.ref s.heap.size) ∧ D'.slots[fC.slot]? = some (.int 0) ∧ Arr .byte s.heap.size V u ∧ V.vm = .none ∧ u.vm.findClass "[B" = some V.cls ∧ V.slots.size = len ∧ (∀ j, j < len → V.slots[j]? = some (.int (lo8 (cv A (o + j))))) ∧ (∀ (y : Addr) (c : Cell), y ≠ a → s.heap[y]? = some c → u.heap[y]? = some c) ∧ u.heap.size = s.heap.size + 1
theorem Got.mv {a : Addr} {D A : Cell} {fV fC : Field} {o len : Nat} : ∀ r (U U' V V' : State), U'.heap = U.heap → V.vm.Alike V'.vm → V'.heap = V.heap → Got a D fV fC A o len r U V → Got a D fV fC A o len r U' V' :=
  fun r U U' V V' h1 hal h2 ⟨e0, D', X, a1, a2, a3, a4, a5, a6, a7, a8, a9, a10, a11⟩ => ⟨e0, D', X, a1.mv hal h2, a2, by rw [h1]; exact a3, a4, by rw [h1]; exact a5.mv hal h2, a6, by rw [hal.findClass]; exact a7, a8, a9, by rw [h1, h2]; exact a10, by rw [h1, h2]; exact a11⟩
namespace New4
def yN : MethodName := ⟨"java/lang/String", "<init>", "([CIILjava/lang/Void;)V"⟩
abbrev yB : ByteArray := jdk_42_method_149_code
theorem d0 : decode yB 0 = .ok (.aload_n 0, 1) := by decide +kernel
theorem d1 : decode yB 1 = .ok (.invokespecial 1, 3) := by decide +kernel
theorem d4 : decode yB 4 = .ok (.iload_n 3, 1) := by decide +kernel
theorem d5 : decode yB 5 = .ok (.ifCond (.ne) 22, 3) := by decide +kernel
theorem d27 : decode yB 27 = .ok (.getstatic 38, 3) := by decide +kernel
theorem d30 : decode yB 30 = .ok (.ifCond (.eq) 28, 3) := by decide +kernel
theorem d33 : decode yB 33 = .ok (.aload_n 1, 1) := by decide +kernel
theorem d34 : decode yB 34 = .ok (.iload_n 2, 1) := by decide +kernel
theorem d35 : decode yB 35 = .ok (.iload_n 3, 1) := by decide +kernel
theorem d36 : decode yB 36 = .ok (.invokestatic 177, 3) := by decide +kernel
theorem d39 : decode yB 39 = .ok (.astore 5, 2) := by decide +kernel
theorem d41 : decode yB 41 = .ok (.aload_n 0, 1) := by decide +kernel
theorem d42 : decode yB 42 = .ok (.aload 5, 2) := by decide +kernel
theorem d44 : decode yB 44 = .ok (.iload_n 3, 1) := by decide +kernel
theorem d45 : decode yB 45 = .ok (.invokestatic 47, 3) := by decide +kernel
theorem d48 : decode yB 48 = .ok (.putfield 15, 3) := by decide +kernel
theorem d51 : decode yB 51 = .ok (.aload_n 0, 1) := by decide +kernel
theorem d52 : decode yB 52 = .ok (.aload 5, 2) := by decide +kernel
theorem d54 : decode yB 54 = .ok (.putfield 9, 3) := by decide +kernel
theorem d57 : decode yB 57 = .ok (.return_, 1) := by decide +kernel
def site : List Cond := [.fieldLink "java/lang/String" 38 "java/lang/String" "COMPACT_STRINGS" "Z", Cmp3.tab, CodL.tab, .laysFinal "java/lang/String" "java/lang/String" "value" "[B", .fieldLink "java/lang/String" 9 "java/lang/String" "value" "[B", .laysFinal "java/lang/String" "java/lang/String" "coder" "B", .fieldLink "java/lang/String" 15 "java/lang/String" "coder" "B"] ++ objW "java/lang/String" 1 ++ staticW "java/lang/String" 177 Cmp3.yN ++ staticW "java/lang/String" 47 CodL.yN
def tab : Cond := tabOf yN yB 6 none site
def P (a : Addr) (D : Cell) (fV fC : Field) (b : Addr) (A : Cell) (z : Int32) (o len : Nat) (args : Array Value) (s : State) : Prop := args = #[.ref a, .ref b, .int (Int32.ofNat o), .int (Int32.ofNat len), .null] ∧ Blank "java/lang/String" a D s ∧ Found "java/lang/String" "value" "[B" fV s ∧ Found "java/lang/String" "coder" "B" fC s ∧ Ch b A s ∧ StaticIs s "java/lang/String" "COMPACT_STRINGS" "Z" (.int z) ∧ ¬ z = 0 ∧ 0 < len ∧ o + len ≤ A.slots.size ∧ len ≤ 536870912 ∧ ∀ i, i < len → ¬ 255 < cv A (o + i)
def E (a : Addr) (D : Cell) (fV fC : Field) (A : Cell) (o len : Nat) (r : Option Value) (s u : State) : Prop := Got a D fV fC A o len r s u
/-- len > 0, no char of the range above 255: a Latin-1 String of their low bytes -/
theorem law (l : Launch) (a : Addr) (D : Cell) (fV fC : Field) (b : Addr) (A : Cell) (z : Int32) (o len : Nat) : Law l yN 5 4 2 35 yB 6 none site (P a D fV fC b A z o len) (E a D fV fC A o len) [⟨a, fC.slot⟩, ⟨a, fV.slot⟩] 1 len := by
  refine Law.of_walk (plainFor_of_name (by decide +kernel)) (by decide +kernel) (by decide +kernel) (by decide) (fun _ _ h => by rw [h.1]; rfl) (fun _ U U' hal hh h => ⟨h.1, h.2.1.mv hal hh, h.2.2.1.al hal, h.2.2.2.1.al hal, h.2.2.2.2.1.mv hal hh, h.2.2.2.2.2.1.there hal hh, h.2.2.2.2.2.2⟩) (fun r U U' V V' h1 hal h2 h => Got.mv r U U' V V' h1 hal h2 h) ?_
  intro p e s m args below meth c s₁ X0 hexec hbytes hml hret hlk hnm hown hh0 W hP
  obtain ⟨rfl, hB, f1, f2, hA, s1, hz, l0, l1, l2, hp⟩ := hP
  have a31 := hA.1.2.2.2
  have c1 : Steps p.tables e below (s₁.setTop (entryFrame m #[.ref a, .ref b, .int (Int32.ofNat o), .int (Int32.ofNat len), .null] 6)) (s₁.setTop (mkF m 0 #[.val (.ref a), .val (.ref b), .val (.int (Int32.ofNat o)), .val (.int (Int32.ofNat len)), .val .null, .unset] [])) := entry rfl
  have c2 : Steps p.tables e below (s₁.setTop (entryFrame m #[.ref a, .ref b, .int (Int32.ofNat o), .int (Int32.ofNat len), .null] 6)) (s₁.setTop (mkF m 1 #[.val (.ref a), .val (.ref b), .val (.int (Int32.ofNat o)), .val (.int (Int32.ofNat len)), .val .null, .unset] [.ref a])) := c1.trans (by
    refine XS.aloadN X0.here hexec rfl (hb hbytes d0) rfl rfl ?_
    exact Steps.refl _)
  obtain ⟨T3, X3, q3, st3⟩ := X0.oinit hexec hown (wks W (objW "java/lang/String" 1)) (g := (mkF m 1 #[.val (.ref a), .val (.ref b), .val (.int (Int32.ofNat o)), .val (.int (Int32.ofNat len)), .val .null, .unset] [.ref a])) rfl (by rw [hml]; rfl) (rest := []) rfl (hb hbytes d1) (W := 0) (by show 2 * 0 + 0 ≤ _; decide) (Nat.le_of_ble_eq_true rfl) (Nat.le_of_ble_eq_true rfl)
  have hh3 := q3.trans hh0
  have c4 : Steps p.tables e below (s₁.setTop (entryFrame m #[.ref a, .ref b, .int (Int32.ofNat o), .int (Int32.ofNat len), .null] 6)) (T3.setTop (mkF m 27 #[.val (.ref a), .val (.ref b), .val (.int (Int32.ofNat o)), .val (.int (Int32.ofNat len)), .val .null, .unset] [])) := (c2.trans (st3 _ (Steps.refl _))).trans (by
    refine XS.iloadN X3.here hexec rfl (hb hbytes d4) rfl ?_
    refine XS.ifYes X3.here hexec rfl (pc0 := 5) rfl (hb hbytes d5) rfl (i0_ne_t (nz32 (by omega) l0)) (by decide) rfl ?_
    exact Steps.refl _)
  obtain ⟨T5, X5, q5, st5⟩ := X3.sget hexec hown (wk W (.fieldLink "java/lang/String" 38 "java/lang/String" "COMPACT_STRINGS" "Z")) s1 (fun _ _ h => by rw [hh3]; exact h) (g := (mkF m 27 #[.val (.ref a), .val (.ref b), .val (.int (Int32.ofNat o)), .val (.int (Int32.ofNat len)), .val .null, .unset] [])) rfl (hb hbytes d27)
  have hh5 := q5.trans hh3
  have c6 : Steps p.tables e below (s₁.setTop (entryFrame m #[.ref a, .ref b, .int (Int32.ofNat o), .int (Int32.ofNat len), .null] 6)) (T5.setTop (mkF m 30 #[.val (.ref a), .val (.ref b), .val (.int (Int32.ofNat o)), .val (.int (Int32.ofNat len)), .val .null, .unset] [.int z])) := c4.trans (st5 _ (Steps.refl _))
  have c7 : Steps p.tables e below (s₁.setTop (entryFrame m #[.ref a, .ref b, .int (Int32.ofNat o), .int (Int32.ofNat len), .null] 6)) (T5.setTop (mkF m 36 #[.val (.ref a), .val (.ref b), .val (.int (Int32.ofNat o)), .val (.int (Int32.ofNat len)), .val .null, .unset] [.int (Int32.ofNat len), .int (Int32.ofNat o), .ref b])) := c6.trans (by
    refine XS.ifNo X5.here hexec rfl (hb hbytes d30) rfl (i0_eq_f hz) ?_
    refine XS.aloadN X5.here hexec rfl (hb hbytes d33) rfl rfl ?_
    refine XS.iloadN X5.here hexec rfl (hb hbytes d34) rfl ?_
    refine XS.iloadN X5.here hexec rfl (hb hbytes d35) rfl ?_
    exact Steps.refl _)
  obtain ⟨v8, T8, X8, E8, g8⟩ := X5.callS hexec (Cmp3.law l b A o len) hown (wks W (staticW "java/lang/String" 177 Cmp3.yN)) (wk W Cmp3.tab) (W := 0) (Nat.le_of_ble_eq_true rfl) (Nat.le_of_ble_eq_true rfl) (Nat.le_refl _) (by show 0 + len ≤ len; omega) (g := (mkF m 36 #[.val (.ref a), .val (.ref b), .val (.int (Int32.ofNat o)), .val (.int (Int32.ofNat len)), .val .null, .unset] [.int (Int32.ofNat len), .int (Int32.ofNat o), .ref b])) rfl (by rw [hml]; rfl) c7 (argsL := [.ref b, .int (Int32.ofNat o), .int (Int32.ofNat len)]) (rest := []) rfl rfl (by show 2 * 0 + 0 ≤ _; decide) (hb hbytes d36) (⟨rfl, hA.mv X5.warmed.alike hh5, l1, l2, hp⟩)
  obtain ⟨e8, z8⟩ := E8
  obtain ⟨rfl, N, n1, n2, n3, n4, n5, n6⟩ := NewArr.mv _ T5 s _ _ hh5.symm (Vm.Alike.refl _) rfl e8
  rw [hh5] at z8
  have hB1 := hB.keep X8.warmed.alike (n6 _ _ hB.1)
  have hne : s.heap.size ≠ a := (Nat.ne_of_lt (Array.getElem?_eq_some_iff.mp hB.1).1).symm
  have c9 : Steps p.tables e below (s₁.setTop (entryFrame m #[.ref a, .ref b, .int (Int32.ofNat o), .int (Int32.ofNat len), .null] 6)) (T8.setTop (mkF m 39 #[.val (.ref a), .val (.ref b), .val (.int (Int32.ofNat o)), .val (.int (Int32.ofNat len)), .val .null, .unset] [.ref s.heap.size])) := g8
  have c10 : Steps p.tables e below (s₁.setTop (entryFrame m #[.ref a, .ref b, .int (Int32.ofNat o), .int (Int32.ofNat len), .null] 6)) (T8.setTop (mkF m 45 #[.val (.ref a), .val (.ref b), .val (.int (Int32.ofNat o)), .val (.int (Int32.ofNat len)), .val .null, .val (.ref s.heap.size)] [.int (Int32.ofNat N.slots.size), .ref s.heap.size, .ref a])) := by
    have hc : Steps p.tables e below (s₁.setTop (entryFrame m #[.ref a, .ref b, .int (Int32.ofNat o), .int (Int32.ofNat len), .null] 6)) (T8.setTop (mkF m 45 #[.val (.ref a), .val (.ref b), .val (.int (Int32.ofNat o)), .val (.int (Int32.ofNat len)), .val .null, .val (.ref s.heap.size)] [.int (Int32.ofNat len), .ref s.heap.size, .ref a])) := c9.trans (by
      refine XS.astore X8.here hexec rfl (hb hbytes d39) rfl rfl rfl ?_
      refine XS.aloadN X8.here hexec rfl (hb hbytes d41) rfl rfl ?_
      refine XS.aload X8.here hexec rfl (hb hbytes d42) rfl rfl ?_
      refine XS.iloadN X8.here hexec rfl (hb hbytes d44) rfl ?_
      exact Steps.refl _)
    rw [n4]; exact hc
  obtain ⟨v11, T11, X11, E11, g11⟩ := X8.callS hexec (CodL.law l s.heap.size N) hown (wks W (staticW "java/lang/String" 47 CodL.yN)) (wk W CodL.tab) (W := 1) (Nat.le_of_ble_eq_true rfl) (Nat.le_of_ble_eq_true rfl) (Nat.le_refl _) (by show 0 + len + 0 ≤ len; omega) (g := (mkF m 45 #[.val (.ref a), .val (.ref b), .val (.int (Int32.ofNat o)), .val (.int (Int32.ofNat len)), .val .null, .val (.ref s.heap.size)] [.int (Int32.ofNat N.slots.size), .ref s.heap.size, .ref a])) rfl (by rw [hml]; rfl) c10 (argsL := [.ref s.heap.size, .int (Int32.ofNat N.slots.size)]) (rest := [.ref a]) rfl rfl (by show 2 * 0 + (1 + 0) ≤ _; decide) (hb hbytes d45) (⟨rfl, n1⟩)
  obtain ⟨rfl, q11⟩ := E11
  have hB11 := hB1.mv (X8.warmed.alike.symm.trans X11.warmed.alike) q11
  have c12 : Steps p.tables e below (s₁.setTop (entryFrame m #[.ref a, .ref b, .int (Int32.ofNat o), .int (Int32.ofNat len), .null] 6)) (T11.setTop (mkF m 48 #[.val (.ref a), .val (.ref b), .val (.int (Int32.ofNat o)), .val (.int (Int32.ofNat len)), .val .null, .val (.ref s.heap.size)] [.int 0, .ref a])) := g11
  obtain ⟨T13, X13, p13, bl13, sl13, st13⟩ := X11.finit hexec hown (wk W (.fieldLink "java/lang/String" 15 "java/lang/String" "coder" "B")) (Or.inr ⟨_, (wk W (.laysFinal "java/lang/String" "java/lang/String" "coder" "B"))⟩) (Or.inl ⟨rfl, hnm⟩) f2 (Or.inl rfl) hB11 (t := .byte) (by decide +kernel) rfl (g := (mkF m 48 #[.val (.ref a), .val (.ref b), .val (.int (Int32.ofNat o)), .val (.int (Int32.ofNat len)), .val .null, .val (.ref s.heap.size)] [.int 0, .ref a])) rfl (rest := []) rfl (hb hbytes d48)
  have c14 : Steps p.tables e below (s₁.setTop (entryFrame m #[.ref a, .ref b, .int (Int32.ofNat o), .int (Int32.ofNat len), .null] 6)) (T13.setTop (mkF m 54 #[.val (.ref a), .val (.ref b), .val (.int (Int32.ofNat o)), .val (.int (Int32.ofNat len)), .val .null, .val (.ref s.heap.size)] [.ref s.heap.size, .ref a])) := (c12.trans (st13 _ (Steps.refl _))).trans (by
    refine XS.aloadN X13.here hexec rfl (hb hbytes d51) rfl rfl ?_
    refine XS.aload X13.here hexec rfl (hb hbytes d52) rfl rfl ?_
    exact Steps.refl _)
  obtain ⟨T15, X15, p15, bl15, sl15, st15⟩ := X13.finit hexec hown (wk W (.fieldLink "java/lang/String" 9 "java/lang/String" "value" "[B")) (Or.inr ⟨_, (wk W (.laysFinal "java/lang/String" "java/lang/String" "value" "[B"))⟩) (Or.inl ⟨rfl, hnm⟩) f1 (Or.inl rfl) bl13 (t := (.array .byte)) (by decide +kernel) rfl (g := (mkF m 54 #[.val (.ref a), .val (.ref b), .val (.int (Int32.ofNat o)), .val (.int (Int32.ofNat len)), .val .null, .val (.ref s.heap.size)] [.ref s.heap.size, .ref a])) rfl (rest := []) rfl (hb hbytes d54)
  have c16 : Steps p.tables e below (s₁.setTop (entryFrame m #[.ref a, .ref b, .int (Int32.ofNat o), .int (Int32.ofNat len), .null] 6)) (T15.setTop (mkF m 57 #[.val (.ref a), .val (.ref b), .val (.int (Int32.ofNat o)), .val (.int (Int32.ofNat len)), .val .null, .val (.ref s.heap.size)] [])) := c14.trans (st15 _ (Steps.refl _))
  have ap := apart (Or.inr ⟨_, (wk W (.laysFinal "java/lang/String" "java/lang/String" "value" "[B"))⟩) (Or.inr ⟨_, (wk W (.laysFinal "java/lang/String" "java/lang/String" "coder" "B"))⟩) f1 f2 (t₁ := .array .byte) (t₂ := .byte) (by decide +kernel) (by decide +kernel) (by decide)
  have al := X8.warmed.alike.symm.trans X15.warmed.alike
  have n7 : T11.heap[s.heap.size]? = some N := by rw [q11]; exact n1.1
  exact ⟨T15, none, _, _, _, X15, by simp, rfl, by omega, (fun _ => rfl), ⟨rfl, _, N, bl15, ((Same.refl D _).set _ (by simp)).set _ (by simp), sl15, (Cell.slots_setSlot_ne _ ap).trans sl13, n1.keep al (p15.other hne (p13.other hne n7)), n2, by rw [al.findClass]; exact n3, n4, n5, fun y c h1 h2 => p15.other h1 (p13.other h1 (by rw [q11]; exact n6 y c h2)), by rw [p15.2.2, p13.2.2, q11]; exact z8⟩, fun fs hl => c16.trans (X15.returnOut hexec hret (hb hbytes d57) hl)⟩
end New4
namespace New1
def yN : MethodName := ⟨"java/lang/String", "<init>", "([C)V"⟩
abbrev yB : ByteArray := jdk_42_method_3_code
theorem d0 : decode yB 0 = .ok (.aload_n 0, 1) := by decide +kernel
theorem d1 : decode yB 1 = .ok (.aload_n 1, 1) := by decide +kernel
theorem d2 : decode yB 2 = .ok (.iconst 0, 1) := by decide +kernel
theorem d3 : decode yB 3 = .ok (.aload_n 1, 1) := by decide +kernel
theorem d4 : decode yB 4 = .ok (.arraylength, 1) := by decide +kernel
theorem d5 : decode yB 5 = .ok (.aconst_null, 1) := by decide +kernel
theorem d6 : decode yB 6 = .ok (.invokespecial 27, 3) := by decide +kernel
theorem d9 : decode yB 9 = .ok (.return_, 1) := by decide +kernel
def site : List Cond := [New4.tab] ++ initW "java/lang/String" 27 New4.yN
def tab : Cond := tabOf yN yB 2 none site
def P (a : Addr) (D : Cell) (fV fC : Field) (b : Addr) (A : Cell) (z : Int32) (args : Array Value) (s : State) : Prop := args = #[.ref a, .ref b] ∧ Blank "java/lang/String" a D s ∧ Found "java/lang/String" "value" "[B" fV s ∧ Found "java/lang/String" "coder" "B" fC s ∧ Ch b A s ∧ StaticIs s "java/lang/String" "COMPACT_STRINGS" "Z" (.int z) ∧ ¬ z = 0 ∧ 0 < A.slots.size ∧ A.slots.size ≤ 536870912 ∧ ∀ i, i < A.slots.size → ¬ 255 < cv A i
def E (a : Addr) (D : Cell) (fV fC : Field) (A : Cell) (r : Option Value) (s u : State) : Prop := Got a D fV fC A 0 A.slots.size r s u
/-- new String(chars), not empty, no char above 255: a Latin-1 String of their low bytes -/
theorem law (l : Launch) (a : Addr) (D : Cell) (fV fC : Field) (b : Addr) (A : Cell) (z : Int32) : Law l yN 2 1 3 52 yB 2 none site (P a D fV fC b A z) (E a D fV fC A) [⟨a, fC.slot⟩, ⟨a, fV.slot⟩] 1 A.slots.size := by
  refine Law.of_walk (plainFor_of_name (by decide +kernel)) (by decide +kernel) (by decide +kernel) (by decide) (fun _ _ h => by rw [h.1]; rfl) (fun _ U U' hal hh h => ⟨h.1, h.2.1.mv hal hh, h.2.2.1.al hal, h.2.2.2.1.al hal, h.2.2.2.2.1.mv hal hh, h.2.2.2.2.2.1.there hal hh, h.2.2.2.2.2.2⟩) (fun r U U' V V' h1 hal h2 h => Got.mv r U U' V V' h1 hal h2 h) ?_
  intro p e s m args below meth c s₁ X0 hexec hbytes hml hret hlk hnm hown hh0 W hP
  obtain ⟨rfl, hB, f1, f2, hA, s1, hz, l0, l2, hp⟩ := hP
  have c1 : Steps p.tables e below (s₁.setTop (entryFrame m #[.ref a, .ref b] 2)) (s₁.setTop (mkF m 0 #[.val (.ref a), .val (.ref b)] [])) := entry rfl
  have c2 : Steps p.tables e below (s₁.setTop (entryFrame m #[.ref a, .ref b] 2)) (s₁.setTop (mkF m 6 #[.val (.ref a), .val (.ref b)] [.null, .int (Int32.ofNat A.slots.size), .int 0, .ref b, .ref a])) := c1.trans (by
    refine XS.aloadN X0.here hexec rfl (hb hbytes d0) rfl rfl ?_
    refine XS.aloadN X0.here hexec rfl (hb hbytes d1) rfl rfl ?_
    refine iconstV X0.here hexec rfl 0 (hb hbytes d2) (by decide) ?_
    refine XS.aloadN X0.here hexec rfl (hb hbytes d3) rfl rfl ?_
    refine X0.alen hexec (hA.1.mv X0.warmed.alike hh0) rfl rfl (hb hbytes d4) ?_
    refine XS.aconstNull X0.here hexec rfl (hb hbytes d5) ?_
    exact Steps.refl _)
  obtain ⟨v3, T3, X3, E3, g3⟩ := X0.callN hexec (New4.law l a D fV fC b A z 0 A.slots.size) rfl hown (wks W (initW "java/lang/String" 27 New4.yN)) (W New4.tab (by simp only [site, List.mem_cons, List.mem_append, true_or, or_true])) (W := 0) (Nat.le_of_ble_eq_true rfl) (Nat.le_of_ble_eq_true rfl) (Nat.le_refl _) (by show 0 + A.slots.size ≤ A.slots.size; omega) (g := (mkF m 6 #[.val (.ref a), .val (.ref b)] [.null, .int (Int32.ofNat A.slots.size), .int (Int32.ofNat 0), .ref b, .ref a])) rfl (by rw [hml]; rfl) c2 (argsL := [.ref b, .int (Int32.ofNat 0), .int (Int32.ofNat A.slots.size), .null]) (rest := []) rfl rfl (by show 2 * 0 + 0 ≤ _; decide) (hb hbytes d6) (⟨rfl, hB.mv X0.warmed.alike hh0, f1.al X0.warmed.alike, f2.al X0.warmed.alike, hA.mv X0.warmed.alike hh0, s1.there X0.warmed.alike hh0, hz, l0, by omega, l2, fun i hi => by rw [Nat.zero_add]; exact hp i hi⟩)
  have e0 := Got.mv _ s₁ s _ _ hh0.symm (Vm.Alike.refl _) rfl E3
  obtain rfl := e0.1
  have c4 : Steps p.tables e below (s₁.setTop (entryFrame m #[.ref a, .ref b] 2)) (T3.setTop (mkF m 9 #[.val (.ref a), .val (.ref b)] [])) := g3
  exact ⟨T3, none, _, _, _, X3, by simp, rfl, by omega, (fun _ => rfl), e0, fun fs hl => c4.trans (X3.returnOut hexec hret (hb hbytes d9) hl)⟩
theorem pays {l : Launch} {R : Room} {p : Program} {e : Env} {below : List Frame} {s : State} {sargs : Array Value} {len W : Nat} (a : Addr) (D : Cell) (fV fC : Field) (b : Addr) (A : Cell) (z : Int32) (htab : tab.before sargs s = true) (hfr : 4 ≤ R.frames) (hlo : W + 65 ≤ R.locals) :
    Back l R p e below s sargs yN len W (fun A₁ a₁ => A₁.cells + 1 ≤ R.cells ∧ A₁.slots + A.slots.size ≤ R.slots ∧ P a D fV fC b A z a₁ A₁.U) (fun A₁ _ v₁ B₁ => E a D fV fC A v₁ A₁.U B₁.U ∧ B₁.locs = A₁.locs ++ [⟨a, fC.slot⟩, ⟨a, fV.slot⟩] ∧ B₁.cells = A₁.cells + 1 ∧ B₁.slots = A₁.slots + A.slots.size) :=
  (law l a D fV fC b A z).pays htab hfr (by omega)
end New1
/-- the byte, read back as charAt reads it, is the char -/
theorem lo8_mask {x : Int32} (h0 : ¬ x < 0) (h1 : ¬ 255 < x) : lo8 x &&& 255 = x := by
  have t : ∀ k : Fin 256, lo8 (Int32.ofNat k.val) &&& 255 = Int32.ofNat k.val := by decide +kernel
  rw [Int32.lt_iff_toInt_lt] at h0 h1
  have e0 : (0 : Int32).toInt = 0 := rfl
  have e1 : (255 : Int32).toInt = 255 := rfl
  obtain ⟨k, hk⟩ : ∃ k : Nat, x.toInt = k := ⟨x.toInt.toNat, by omega⟩
  have hx : x = Int32.ofNat k := Int32.toInt_inj.mp (by rw [hk, Int32.toInt_ofNat_small (by omega)])
  rw [hx]
  exact t ⟨k, by omega⟩
end StrChars
namespace StrChars.Road
open Jvm Sem ClassFile Op Lib Jvm.Stand Jvm.Free Jvm.Free.XT
open Jvm.Lib.Cold (StaticIs)
abbrev ST : String := "java/lang/String"
/-- every table word that New1's law asks, flat -/
abbrev words : List Jvm.Cond := [.code New1.yN New1.yB 2 none, .initialized ST, .methodLink ST 27 New4.yN, .instanceMethod New4.yN,
  .code New4.yN New4.yB 6 none, .fieldLink ST 38 ST "COMPACT_STRINGS" "Z", .laysFinal ST ST "value" "[B", .fieldLink ST 9 ST "value" "[B", .laysFinal ST ST "coder" "B", .fieldLink ST 15 ST "coder" "B",
  .methodLink ST 1 Lib.objectInit, .instanceMethod Lib.objectInit, .code Lib.objectInit ⟨#[0xb1]⟩ 1 none, .methodLink ST 177 Cmp3.yN, .static Cmp3.yN, .methodLink ST 47 CodL.yN, .static CodL.yN,
  .code Cmp3.yN Cmp3.yB 6 (some (.array .byte)), .initialized U16, .arrayClass .byte, .methodLink U16 115 Cmp5.yN, .static Cmp5.yN, .code Cmp5.yN Cmp5.yB 7 (some .int), .code CodL.yN CodL.yB 2 (some .byte)]
theorem tab_of {a : Array Value} {s : State} (h : ∀ w ∈ words, w.before a s = true) : New1.tab.before a s = true := by
  have h5 : Cmp5.tab.before a s = true := unparts (wk h (.code Cmp5.yN Cmp5.yB 7 (some .int))) (wks h (.initialized Cmp5.yN.cls :: Cmp5.site))
  have hc : CodL.tab.before a s = true := unparts (wk h (.code CodL.yN CodL.yB 2 (some .byte))) (wks h (.initialized CodL.yN.cls :: CodL.site))
  have q5 : ∀ w ∈ Cmp5.tab :: words, w.before a s = true := fun w hw => (List.mem_cons.mp hw).elim (fun e => e ▸ h5) (h w)
  have h3 : Cmp3.tab.before a s = true := unparts (wk q5 (.code Cmp3.yN Cmp3.yB 6 (some (.array .byte)))) (wks q5 (.initialized Cmp3.yN.cls :: Cmp3.site))
  have q3 : ∀ w ∈ Cmp3.tab :: CodL.tab :: words, w.before a s = true := fun w hw => (List.mem_cons.mp hw).elim (fun e => e ▸ h3) fun hw => (List.mem_cons.mp hw).elim (fun e => e ▸ hc) (h w)
  have h4 : New4.tab.before a s = true := unparts (wk q3 (.code New4.yN New4.yB 6 none)) (wks q3 (.initialized New4.yN.cls :: New4.site))
  have q4 : ∀ w ∈ New4.tab :: words, w.before a s = true := fun w hw => (List.mem_cons.mp hw).elim (fun e => e ▸ h4) (h w)
  exact unparts (wk q4 (.code New1.yN New1.yB 2 none)) (wks q4 (.initialized New1.yN.cls :: New1.site))
/-- the words ride from the start Z to the walk's own state -/
theorem moved {Z s : State} {a0 args : Array Value} (hZ : Z.Warmed39 s.vm) (hw : ∀ d ∈ words, d.before a0 Z = true) : ∀ d ∈ words, d.before args s = true := fun d hd => by
  have q := hw d hd
  have t : ∀ d ∈ words, d = .arrayClass .byte ∨ (d.onTables && d.keepsFace) = true := by decide +kernel
  rcases t d hd with rfl | t
  · exact RoadKit.mvA hZ q
  · exact RoadKit.mv hZ q t
/-- WHAT COMES BACK, over the tables of the start Z: h the heap at the call, h' behind it -/
def Q (Z : State) (x : Addr) (A : Cell) (h : Heap) (v : Option Value) (h' : Heap) (L : List Loc) : Prop := v = none ∧ (∀ y ∈ L, y.base = x) ∧ RoadKit.Keep h h' [x] ∧ h'.size = h.size + 1 ∧ RoadKit.Exa Z h' x ST ∧ RoadKit.Fld Z h' x ST "value" "[B" (.ref h.size) ∧ RoadKit.Fld Z h' x ST "coder" "B" (.int 0) ∧
  (∃ V : Cell, RoadKit.Arr Z h' h.size V .byte ∧ V.vm = .none ∧ Z.vm.findClass "[B" = some V.cls ∧ V.slots.size = A.slots.size ∧ ∀ j, j < A.slots.size → V.slots[j]? = some (.int (lo8 (cv A j)))) ∧
  ∀ (O n d : String) (w : Value), RoadKit.Fld Z h x O n d w → RoadKit.slotOf Z O n d ≠ RoadKit.slotOf Z ST "value" "[B" → RoadKit.slotOf Z O n d ≠ RoadKit.slotOf Z ST "coder" "B" → RoadKit.Fld Z h' x O n d w
/-- **new String(chars) AT A CALL, IN THE ROAD'S FORM**: for specialBack behind newO: x the fresh String, b the char[] with the cell A -/
theorem back {p : Program} {l : Launch} {e : Env} {R : Room} {s : State} {args : Array Value} {below : List Frame} {len W : Nat} {Z : State} {a0 : Array Value} {h : Heap} (hZ : Z.Warmed39 s.vm) (hw : ∀ d ∈ words, d.before a0 Z = true) {kI : Nat} (wi : (Jvm.Cond.instantiable ST kI).before a0 Z = true)
    {x b : Addr} {A : Cell} {z : Int32} {v0 c0 : Value} (E : RoadKit.Exa Z h x ST) (V : RoadKit.Fld Z h x ST "value" "[B" v0) (C : RoadKit.Fld Z h x ST "coder" "B" c0) (K : RoadKit.Arr Z h b A .char) (hty : Typed .char A) (S : RoadKit.Sta Z h ST "COMPACT_STRINGS" "Z" (.int z)) (hz : ¬ z = 0)
    (l0 : 0 < A.slots.size) (l2 : A.slots.size ≤ 536870912) (hp : ∀ i, i < A.slots.size → ¬ 255 < cv A i) (hfr : 4 ≤ R.frames) (hlo : W + 65 ≤ R.locals) :
    Back l R p e below s args New1.yN len W (fun P a => a = #[.ref x, .ref b] ∧ P.U.heap = h ∧ P.cells + 1 ≤ R.cells ∧ P.slots + A.slots.size ≤ R.slots)
      (fun P _ v B => ∃ L, Q Z x A h v B.U.heap L ∧ B.locs = P.locs ++ L ∧ B.cells = P.cells + 1 ∧ B.slots = P.slots + A.slots.size) := by
  intro m meth c P g ig mk a X hg hsize hdg hW hn hp'
  obtain ⟨rfl, rfl, r1, r2⟩ := hp'
  have al : Z.vm.Alike P.U.vm := hZ.alike.trans X.warmed.alike
  obtain ⟨D, cfV, kV, iV, fV, hD, gV, stV, knV, obV, asV, slV⟩ := id V
  obtain ⟨D', cfC, kC, iC, fC, hD', gC, stC, -, -, asC, slC⟩ := id C
  cases hD.symm.trans hD'
  obtain ⟨D2, kD, e1, e2, e3, e4, e5⟩ := id E
  cases hD.symm.trans e1
  obtain ⟨c2, k2, i1, i2, i3, -⟩ := Cond.instantiable_spec wi
  cases e2.symm.trans i1
  cases e3.symm.trans i2
  obtain ⟨kU, u1, u2⟩ := al.2.2 _ _ e3
  have hB : Blank ST x D P.U := ⟨hD, ⟨knV, fun q hq => by rw [hq] at obV; cases obV⟩, by rw [al.findClass]; exact e2, kU, u1, by rw [u2]; exact i3, by rw [u2]; exact e5 i3⟩
  have F1 : Found ST "value" "[B" fV P.U := ⟨SBG.found_only al ⟨cfV, kV, iV, gV⟩, stV⟩
  have F2 : Found ST "coder" "B" fC P.U := ⟨SBG.found_only al ⟨cfC, kC, iC, gC⟩, stC⟩
  have hA : Ch b A P.U := ⟨⟨K.1, State.isArrayOf_alike al K.2.1, K.2.2, by omega⟩, hty⟩
  have hS : StaticIs P.U ST "COMPACT_STRINGS" "Z" (.int z) := by
    obtain ⟨cfS, iS, kS, fS, st, cS, t1, t2, t3, t4, t5, t6, t7⟩ := S
    exact StaticIs.there (s := { Z with heap := P.U.heap }) ⟨cfS, iS, kS, fS, st, cS, t1, t2, t3, t4, t5, (fun q => by rw [q] at t6; cases t6), t7⟩ al rfl
  obtain ⟨v, B, X', ⟨⟨hv, E', V', q1, q2, q3, q4, q5, q6, q7, q8, q9, q10, q11⟩, hl, hc, hs⟩, st⟩ := New1.pays x D fV fC b A z (tab_of (moved hZ hw)) hfr hlo m meth c P g ig mk _ X hg hsize hdg hW hn ⟨r1, r2, rfl, hB, F1, F2, hA, hS, hz, l0, l2, hp⟩
  have al' : Z.vm.Alike B.U.vm := hZ.alike.trans X'.warmed.alike
  have hsz : E'.slots.size = D.slots.size := by
    obtain ⟨-, -, -, kB, w1, w2, w3⟩ := q1
    obtain ⟨kB', y1, y2⟩ := al'.2.2 _ _ e3
    rw [q2.2.1] at w1
    cases w1.symm.trans y1
    rw [w3, e5 i3, y2]
  refine ⟨v, B, X', ⟨_, ⟨hv, ?_, ⟨by omega, fun y cy hy hn' => q10 y cy (by simpa using hn') hy, fun y cy hy => ?_⟩, q11, ⟨E', _, q1.1, by rw [q2.2.1]; exact e2, by rw [q2.2.1]; exact e3, by rw [q2.1]; exact obV, fun _ => by rw [hsz]; exact e5 i3⟩,
    ⟨E', cfV, kV, iV, fV, q1.1, gV, stV, by rw [q2.1]; exact knV, by rw [q2.1]; exact obV, by rw [q2.2.1]; exact asV, q3⟩, ⟨E', cfC, kC, iC, fC, q1.1, gC, stC, by rw [q2.1]; exact knV, by rw [q2.1]; exact obV, by rw [q2.2.1]; exact asC, q4⟩,
    ⟨V', ⟨q5.1, State.isArrayOf_alike al'.symm q5.2.1, q5.2.2.1⟩, q6, by rw [← al'.findClass]; exact q7, q8, fun j hj => by have := q9 j hj; rwa [Nat.zero_add] at this⟩, fun O n d w F n1 n2 => ?_⟩, hl, hc, hs⟩, st⟩
  · intro y hy
    simp only [List.mem_cons, List.not_mem_nil, or_false] at hy
    rcases hy with rfl | rfl <;> rfl
  · by_cases q : y = x
    · subst q
      cases hD.symm.trans hy
      exact ⟨E', q1.1, q2.2.1, q2.1, hsz⟩
    · exact ⟨cy, q10 y cy q hy, rfl, rfl, rfl⟩
  · obtain ⟨D3, cf, k, i, f, g1, g2, g3, g4, g5, g6, g7⟩ := F
    cases hD.symm.trans g1
    simp only [RoadKit.slotOf, g2, gV, gC, Option.map_some, Option.getD_some] at n1 n2
    exact ⟨E', cf, k, i, f, q1.1, g2, g3, by rw [q2.1]; exact g4, by rw [q2.1]; exact g5, by rw [q2.2.1]; exact g6, by rw [q2.2.2 f.slot (by simp [n1, n2])]; exact g7⟩
end StrChars.Road
namespace StrChars.Road
open Jvm Sem ClassFile Op Lib Jvm.Stand Jvm.Free Jvm.Free.XT
/-- WHAT COMES BACK, the byte[] as a list of values -/
def QA (Z : State) (x : Addr) (zn : Int32) (cs : List Int32) (h : Heap) (v : Option Value) (h' : Heap) (L : List Loc) : Prop := v = none ∧ (∀ y ∈ L, y.base = x) ∧ RoadKit.Keep h h' [x] ∧ h'.size = h.size + 1 ∧ RoadKit.Exa Z h' x ST ∧ RoadKit.Fld Z h' x ST "value" "[B" (.ref h.size) ∧ RoadKit.Fld Z h' x ST "coder" "B" (.int 0) ∧
  (∃ kb, Z.vm.findClass "[B" = some kb ∧ RoadKit.Arv Z h' h.size kb .byte zn (cs.map fun c => .int (lo8 c)) (.int 0)) ∧
  ∀ (O n d : String) (w : Value), RoadKit.Fld Z h x O n d w → RoadKit.slotOf Z O n d ≠ RoadKit.slotOf Z ST "value" "[B" → RoadKit.slotOf Z O n d ≠ RoadKit.slotOf Z ST "coder" "B" → RoadKit.Fld Z h' x O n d w
/-- **new String(chars) AT A CALL, THE ARRAYS AS LISTS**: the char[] at b holds cs, not empty, no char above 255 -/
theorem backArv {p : Program} {l : Launch} {e : Env} {R : Room} {s : State} {args : Array Value} {below : List Frame} {len W : Nat} {Z : State} {a0 : Array Value} {h : Heap} (hZ : Z.Warmed39 s.vm) (hw : ∀ d ∈ words, d.before a0 Z = true) {kI : Nat} (wi : (Jvm.Cond.instantiable ST kI).before a0 Z = true)
    {x b : Addr} {k : ClassId} {zn z : Int32} {cs : List Int32} {dv v0 c0 : Value} (E : RoadKit.Exa Z h x ST) (V : RoadKit.Fld Z h x ST "value" "[B" v0) (C : RoadKit.Fld Z h x ST "coder" "B" c0) (K : RoadKit.Arv Z h b k .char zn (cs.map Value.int) dv) (S : RoadKit.Sta Z h ST "COMPACT_STRINGS" "Z" (.int z)) (hz : ¬ z = 0)
    (hlen : zn.toNatClampNeg = cs.length) (h0 : 0 < cs.length) (hbig : cs.length ≤ 536870912) (hall : ∀ c ∈ cs, ¬ 255 < c) (hfr : 4 ≤ R.frames) (hlo : W + 65 ≤ R.locals) :
    Back l R p e below s args New1.yN len W (fun P a => a = #[.ref x, .ref b] ∧ P.U.heap = h ∧ P.cells + 1 ≤ R.cells ∧ P.slots + cs.length ≤ R.slots)
      (fun P _ v B => ∃ L, QA Z x zn cs h v B.U.heap L ∧ B.locs = P.locs ++ L ∧ B.cells = P.cells + 1 ∧ B.slots = P.slots + cs.length) := by
  obtain ⟨A, K1, K2, K3, K4, K5, K6⟩ := K
  have e : A.slots.size = cs.length := K3.trans hlen
  have hat : ∀ (i : Nat) (hi : i < cs.length), A.slots[i]? = some (.int cs[i]) := fun i hi => by rw [K5 i (by omega)]; simp [List.getD_eq_getElem?_getD, hi]
  have hcv : ∀ (i : Nat) (hi : i < cs.length), cv A i = cs[i] := fun i hi => by unfold cv; rw [hat i hi]
  have hty : Typed .char A := fun i v hv => by
    have hi : i < A.slots.size := (Array.getElem?_eq_some_iff.mp hv).1
    have q := K5 i hi
    rw [hv] at q
    rw [Option.some.inj q]
    exact K6 i hi
  refine Back.mono (back hZ hw wi E V C K1 hty S hz (by omega) (by omega) (fun i hi => by rw [hcv i (by omega)]; exact hall _ (List.getElem_mem _)) hfr hlo) (fun P a hp => ⟨hp.1, hp.2.1, hp.2.2.1, by rw [e]; exact hp.2.2.2⟩) (fun P a v B hp hq => ?_)
  obtain ⟨L, ⟨q1, q2, q3, q4, q5, q6, q7, ⟨V', v1, v2, v3, v4, v5⟩, q9⟩, hl, hc, hs⟩ := hq
  refine ⟨L, ⟨q1, q2, q3, q4, q5, q6, q7, ⟨V'.cls, v3, V', v1, rfl, by rw [v4, e, hlen], K4, fun i hi => ?_, fun i hi => ?_⟩, q9⟩, hl, hc, by rw [hs, e]⟩
  · have hi' : i < cs.length := by omega
    rw [v5 i (by omega), hcv i hi']; simp [List.getD_eq_getElem?_getD, hi']
  · have hi' : i < cs.length := by omega
    simp only [List.getD_eq_getElem?_getD, List.getElem?_map, List.getElem?_eq_getElem hi', Option.map_some, Option.getD_some]
    exact fits_lo8 _
end StrChars.Road
namespace StrChars.Road
open Jvm Sem ClassFile Op Lib Jvm.Stand Jvm.Free Jvm.Free.XT
/-- WHAT COMES BACK, in the writer's own shape -/
def QV (Z : State) (x : Addr) (N : Int32) (bs : List Int32) (h : Heap) (n0 : Nat) (v : Option Value) (h' : Heap) (L : List Loc) : Prop := v = none ∧ RoadKit.Fr n0 L ∧ RoadKit.Keep h h' [x] ∧ RoadKit.Exa Z h' x ST ∧ RoadKit.Fld Z h' x ST "coder" "B" (.int 0) ∧
  ∃ (t : Addr) (kb : ClassId), n0 ≤ t ∧ h.size ≤ t ∧ ¬ t = x ∧ RoadKit.Fld Z h' x ST "value" "[B" (.ref t) ∧ RoadKit.Arv Z h' t kb .byte N (bs.map Value.int) (.int 0)
/-- **new String(chars) AT A CALL, FOR THE WRITER**: a char[] of n known ints, each 0 to 255 -/
theorem backV {p : Program} {l : Launch} {e : Env} {R : Room} {s : State} {args : Array Value} {below : List Frame} {len W : Nat} {Z : State} {a0 : Array Value} {h : Heap} (hZ : Z.Warmed39 s.vm) (hw : ∀ d ∈ words, d.before a0 Z = true) {kI : Nat} (wi : (Jvm.Cond.instantiable ST kI).before a0 Z = true)
    {x b : Addr} {kC : ClassId} {cs bs : List Int32} {d v0 c0 : Value} {z N : Int32} {n n0 : Nat} (hx0 : n0 ≤ x) (hh0 : n0 ≤ h.size) (E : RoadKit.Exa Z h x ST) (V : RoadKit.Fld Z h x ST "value" "[B" v0) (C : RoadKit.Fld Z h x ST "coder" "B" c0) (K : RoadKit.Arv Z h b kC .char N (cs.map Value.int) d) (S : RoadKit.Sta Z h ST "COMPACT_STRINGS" "Z" (.int z)) (hz : ¬ z = 0)
    (hn : cs.length = n) (hN : N = Int32.ofNat n) (l0 : 0 < n) (l2 : n ≤ 4000) (hp : ∀ c ∈ cs, ¬ c < 0 ∧ ¬ (255 : Int32) < c) (hb : bs = cs.map (fun c => c.toInt8.toInt32)) (hfr : 4 ≤ R.frames) (hlo : W + 65 ≤ R.locals) :
    Back l R p e below s args (⟨"java/lang/String", "<init>", "([C)V"⟩ : MethodName) len W (fun P a => a = #[.ref x, .ref b] ∧ P.U.heap = h ∧ P.cells + 1 ≤ R.cells ∧ P.slots + n ≤ R.slots)
      (fun P _ v B => ∃ L, QV Z x N bs h n0 v B.U.heap L ∧ B.locs = P.locs ++ L ∧ B.cells = P.cells + 1 ∧ B.slots = P.slots + n) := by
  subst hn hN hb
  refine Back.mono (backArv hZ hw wi E V C K S hz (n32 (by omega)) l0 (by omega) (fun c hc => (hp c hc).2) hfr hlo) (fun P a hp => hp) (fun P a v B hp hq => ?_)
  obtain ⟨L, ⟨q1, q2, q3, q4, q5, q6, q7, ⟨kb, v1, v2⟩, q9⟩, hl, hc, hs⟩ := hq
  exact ⟨L, ⟨q1, fun y hy => by rw [q2 y hy]; exact hx0, q3, q5, q7, h.size, kb, hh0, Nat.le_refl _, Nat.ne_of_gt E.lt, q6, by rw [List.map_map]; exact v2⟩, hl, hc, hs⟩
end StrChars.Road
namespace StrChars
open Jvm Sem ClassFile Op Lib Jvm.Stand Jvm.Free.XT Jvm.Free.ALB Jvm.Free.JM Jvm.Free
open Jvm.Lib.Cold (StaticIs)
def hi8 (x : Int32) : Int32 := lo8 (x >>> ((8 : Int32) &&& 31))
/-- what StringUTF16.getChar makes of two bytes -/
def pairCh (u v : Int32) : Int32 := (((u &&& 255) <<< ((0 : Int32) &&& 31)) ||| ((v &&& 255) <<< ((8 : Int32) &&& 31))).toUInt32.toUInt16.toUInt32.toInt32
theorem shr0 (c : Int32) : c >>> ((0 : Int32) &&& 31) = c := by
  have e : ((0 : Int32) &&& 31) = 0 := by decide
  rw [e]
  apply Int32.toBitVec_inj.mp
  rw [Int32.toBitVec_shiftRight]
  have e1 : ((0 : Int32).toBitVec.smod 32) = 0#32 := by decide
  rw [e1, BitVec.sshiftRight_eq']
  exact BitVec.sshiftRight_zero
theorem lo8_and (x : Int32) : (lo8 x &&& 255).toBitVec.toNat = x.toBitVec.toNat % 256 := by
  have h : (lo8 x).toBitVec = (x.toBitVec.signExtend 8).signExtend 32 := by rw [lo8, Int8.toBitVec_toInt32, Int32.toBitVec_toInt8]
  rw [Int32.toBitVec_and, BitVec.toNat_and, h]
  have e : ((x.toBitVec.signExtend 8).signExtend 32).toNat % 256 = x.toBitVec.toNat % 256 := by
    rw [BitVec.toNat_signExtend]
    have hlt := x.toBitVec.isLt
    simp only [BitVec.toNat_setWidth, BitVec.toNat_signExtend]
    split <;> split <;> omega
  rw [← e]
  exact Nat.and_two_pow_sub_one_eq_mod _ 8
theorem pair_says {c : Int32} (h0 : ¬ c < 0) (h1 : ¬ 65535 < c) : pairCh (lo8 c) (hi8 c) = c := by
  rw [Int32.lt_iff_toInt_lt] at h0 h1
  have e0 : (0 : Int32).toInt = 0 := rfl
  have e1 : (65535 : Int32).toInt = 65535 := rfl
  have hc : c.toInt = c.toBitVec.toNat := by
    have := c.toBitVec.isLt
    have e : c.toInt = c.toBitVec.toInt := rfl
    rw [e] at h0 h1
    rw [e]
    rw [BitVec.toInt_eq_toNat_cond] at h0 h1 ⊢
    split at h0 <;> split <;> omega
  have hn : c.toBitVec.toNat < 65536 := by omega
  have a1 := lo8_and c
  have a2 : (hi8 c &&& 255).toBitVec.toNat = c.toBitVec.toNat / 256 := by
    rw [hi8, lo8_and]
    have e : ((8 : Int32) &&& 31) = 8 := by decide
    rw [e, Int32.toBitVec_shiftRight]
    have e2 : ((8 : Int32).toBitVec.smod 32) = 8#32 := by decide
    rw [e2, BitVec.sshiftRight_eq', BitVec.toNat_sshiftRight_of_msb_false (by rw [BitVec.msb_eq_false_iff_two_mul_lt]; omega)]
    show c.toBitVec.toNat >>> 8 % 256 = _
    rw [Nat.shiftRight_eq_div_pow]
    omega
  unfold pairCh
  apply Int32.toBitVec_inj.mp
  apply BitVec.eq_of_toNat_eq
  have f0 : ((0 : Int32) &&& 31) = 0 := by decide
  have f8 : ((8 : Int32) &&& 31) = 8 := by decide
  rw [f0, f8]
  have g : (((lo8 c &&& 255) <<< (0 : Int32)) ||| ((hi8 c &&& 255) <<< (8 : Int32))).toBitVec.toNat = c.toBitVec.toNat := by
    rw [Int32.toBitVec_or, Int32.toBitVec_shiftLeft, Int32.toBitVec_shiftLeft]
    have s0 : ((0 : Int32).toBitVec.smod 32) = 0#32 := by decide
    have s8 : ((8 : Int32).toBitVec.smod 32) = 8#32 := by decide
    rw [s0, s8, BitVec.toNat_or]
    simp only [BitVec.shiftLeft_eq', BitVec.toNat_shiftLeft, a1, a2]
    show (c.toBitVec.toNat % 256) <<< 0 % 2 ^ 32 ||| (c.toBitVec.toNat / 256) <<< 8 % 2 ^ 32 = _
    rw [Nat.shiftLeft_zero, Nat.mod_eq_of_lt (show c.toBitVec.toNat % 256 < 2 ^ 32 by omega), Nat.mod_eq_of_lt (show (c.toBitVec.toNat / 256) <<< 8 < 2 ^ 32 by rw [Nat.shiftLeft_eq]; omega), Nat.or_comm, ← Nat.shiftLeft_add_eq_or_of_lt (by omega), Nat.shiftLeft_eq]
    omega
  show BitVec.toNat (((((lo8 c &&& 255) <<< (0 : Int32)) ||| ((hi8 c &&& 255) <<< (8 : Int32))).toBitVec.setWidth 16).setWidth 32) = _
  rw [BitVec.toNat_setWidth, BitVec.toNat_setWidth, g]
  omega
end StrChars
namespace StrChars
open Jvm Sem ClassFile Op Lib Jvm.Stand Jvm.Free.XT Jvm.Free.ALB Jvm.Free.JM Jvm.Free
open Jvm.Lib.Cold (StaticIs)
theorem shr1 {n : Nat} (h : 2 * n < 2 ^ 31) : Int32.ofNat (2 * n) >>> ((1 : Int32) &&& 31) = Int32.ofNat n := by
  have e : ((1 : Int32) &&& 31) = 1 := by decide
  rw [e]
  apply Int32.toBitVec_inj.mp
  rw [Int32.toBitVec_shiftRight]
  have e1 : ((1 : Int32).toBitVec.smod 32) = 1#32 := by decide
  have hm : (BitVec.ofNat 32 (2 * n)).toNat = 2 * n := by rw [BitVec.toNat_ofNat, Nat.mod_eq_of_lt (by omega)]
  rw [e1, BitVec.sshiftRight_eq']
  apply BitVec.eq_of_toNat_eq
  show ((BitVec.ofNat 32 (2 * n)).sshiftRight 1).toNat = (BitVec.ofNat 32 n).toNat
  rw [BitVec.toNat_sshiftRight_of_msb_false (by rw [BitVec.msb_eq_false_iff_two_mul_lt, hm]; omega), hm, BitVec.toNat_ofNat, Nat.shiftRight_eq_div_pow]
  omega
/-- charAt's cast of a byte read back -/
def chr8 (u : Int32) : Int32 := (u &&& 255).toUInt32.toUInt16.toUInt32.toInt32
theorem chr8_lo8 {c : Int32} (h0 : ¬ c < 0) (h1 : ¬ 255 < c) : chr8 (lo8 c) = c := by
  have t : ∀ k : Fin 256, (Int32.ofNat k.val).toUInt32.toUInt16.toUInt32.toInt32 = Int32.ofNat k.val := by decide +kernel
  unfold chr8
  rw [lo8_mask h0 h1]
  rw [Int32.lt_iff_toInt_lt] at h0 h1
  have e0 : (0 : Int32).toInt = 0 := rfl
  have e1 : (255 : Int32).toInt = 255 := rfl
  obtain ⟨k, hk⟩ : ∃ k : Nat, c.toInt = k := ⟨c.toInt.toNat, by omega⟩
  have hx : c = Int32.ofNat k := Int32.toInt_inj.mp (by rw [hk, Int32.toInt_ofNat_small (by omega)])
  rw [hx]
  exact t ⟨k, by omega⟩
theorem narrow_ch {c : Int32} (h0 : ¬ c < 0) (h1 : ¬ 65535 < c) : narrow .char (.int c) = .int c := by
  have q : narrow .char (.int (pairCh (lo8 c) (hi8 c))) = .int (pairCh (lo8 c) (hi8 c)) := narrow_c _
  rwa [pair_says h0 h1] at q
/-- the array's cell V codes the n chars f 0 .. f (n - 1) by the coder cd, as the JDK does: coder 1 just where some char is above 255 -/
def Cod (cd : Int32) (n : Nat) (f : Nat → Int32) (V : Cell) : Prop := (cd = 0 ∧ V.slots.size = n ∧ ∀ j, j < n → V.slots[j]? = some (.int (lo8 (f j))) ∧ ¬ 255 < f j) ∨ (cd = 1 ∧ V.slots.size = 2 * n ∧ (∀ j, j < n → V.slots[2 * j]? = some (.int (lo8 (f j))) ∧ V.slots[2 * j + 1]? = some (.int (hi8 (f j)))) ∧ ∃ j, j < n ∧ 255 < f j)
theorem Cod.cd {cd : Int32} {n : Nat} {f : Nat → Int32} {V : Cell} (h : Cod cd n f V) : cd = 0 ∨ cd = 1 := h.imp (fun q => q.1) fun q => q.1
theorem Cod.len {cd : Int32} {n : Nat} {f : Nat → Int32} {V : Cell} (h : Cod cd n f V) (hs : V.slots.size < 2 ^ 31) : Int32.ofNat V.slots.size >>> (cd &&& 31) = Int32.ofNat n := by
  rcases h with ⟨rfl, h, -⟩ | ⟨rfl, h, -⟩
  · rw [shr0, h]
  · rw [h, shr1 (by omega)]
/-- **x is a String of the n chars f 0 .. f (n - 1)**, Latin-1 or UTF-16; its array at t has the cell V -/
def Txt (x t : Addr) (V : Cell) (cd : Int32) (n : Nat) (f : Nat → Int32) (U : State) : Prop := Exact "java/lang/String" x U ∧ Has x "java/lang/String" "value" "[B" (.ref t) U ∧ Has x "java/lang/String" "coder" "B" (.int cd) U ∧ XT.Arr .byte t V U ∧ Cod cd n f V ∧ ∀ j, j < n → ¬ f j < 0 ∧ ¬ 65535 < f j
theorem Txt.mv {x t : Addr} {V : Cell} {cd : Int32} {n : Nat} {f : Nat → Int32} {U U' : State} (h : Txt x t V cd n f U) (hal : U.vm.Alike U'.vm) (hh : U'.heap = U.heap) : Txt x t V cd n f U' := ⟨h.1.mv hal hh, h.2.1.mv hal hh, h.2.2.1.mv hal hh, h.2.2.2.1.mv hal hh, h.2.2.2.2⟩
namespace Cdr
def yN : MethodName := ⟨"java/lang/String", "coder", "()B"⟩
abbrev yB : ByteArray := jdk_42_method_152_code
theorem d0 : decode yB 0 = .ok (.getstatic 38, 3) := by decide +kernel
theorem d3 : decode yB 3 = .ok (.ifCond (.eq) 10, 3) := by decide +kernel
theorem d6 : decode yB 6 = .ok (.aload_n 0, 1) := by decide +kernel
theorem d7 : decode yB 7 = .ok (.getfield 15, 3) := by decide +kernel
theorem d10 : decode yB 10 = .ok (.goto 4, 3) := by decide +kernel
theorem d14 : decode yB 14 = .ok (.ireturn, 1) := by decide +kernel
def site : List Cond := [.fieldLink "java/lang/String" 38 "java/lang/String" "COMPACT_STRINGS" "Z", .fieldLink "java/lang/String" 15 "java/lang/String" "coder" "B"]
def tab : Cond := tabOf yN yB 1 (some .byte) site
def P (x : Addr) (cd z : Int32) (args : Array Value) (s : State) : Prop := args = #[.ref x] ∧ Has x "java/lang/String" "coder" "B" (.int cd) s ∧ (cd = 0 ∨ cd = 1) ∧ StaticIs s "java/lang/String" "COMPACT_STRINGS" "Z" (.int z) ∧ ¬ z = 0
def E (cd : Int32) (r : Option Value) (s u : State) : Prop := XT.PureE (some (.int cd)) r s u
theorem law (l : Launch) (x : Addr) (cd z : Int32) : Law l yN 1 0 0 0 yB 1 (some .byte) site (P x cd z) (E cd) [] 0 0 := by
  refine Law.of_walk (plainFor_of_name (by decide +kernel)) (by decide +kernel) (by decide +kernel) (by decide) (fun _ _ h => by rw [h.1]; rfl) (fun _ U U' hal hh h => ⟨h.1, h.2.1.mv hal hh, h.2.2.1, h.2.2.2.1.there hal hh, h.2.2.2.2⟩) (fun r U U' V V' h1 hal h2 h => XT.PureE.mv r U U' V V' h1 hal h2 h) ?_
  intro p e s m args below meth c s₁ X0 hexec hbytes hml hret hlk hnm hown hh0 W hP
  obtain ⟨rfl, hx, hc, s1, hz⟩ := hP
  have c1 : Steps p.tables e below (s₁.setTop (entryFrame m #[.ref x] 1)) (s₁.setTop (mkF m 0 #[.val (.ref x)] [])) := entry rfl
  obtain ⟨T2, X2, q2, st2⟩ := X0.sget hexec hown (wk W (.fieldLink "java/lang/String" 38 "java/lang/String" "COMPACT_STRINGS" "Z")) s1 (fun _ _ h => by rw [hh0]; exact h) (g := (mkF m 0 #[.val (.ref x)] [])) rfl (hb hbytes d0)
  have hh2 := q2.trans hh0
  have c3 : Steps p.tables e below (s₁.setTop (entryFrame m #[.ref x] 1)) (T2.setTop (mkF m 7 #[.val (.ref x)] [.ref x])) := (c1.trans (st2 _ (Steps.refl _))).trans (by
    refine XS.ifNo X2.here hexec rfl (hb hbytes d3) rfl (i0_eq_f hz) ?_
    refine XS.aloadN X2.here hexec rfl (hb hbytes d6) rfl rfl ?_
    exact Steps.refl _)
  obtain ⟨T4, X4, q4, st4⟩ := X2.hget hexec hown (wk W (.fieldLink "java/lang/String" 15 "java/lang/String" "coder" "B")) (hx.mv X2.warmed.alike hh2) (g := (mkF m 7 #[.val (.ref x)] [.ref x])) rfl (rest := []) rfl (hb hbytes d7)
  have c5 : Steps p.tables e below (s₁.setTop (entryFrame m #[.ref x] 1)) (T4.setTop (mkF m 14 #[.val (.ref x)] [.int cd])) := (c3.trans (st4 _ (Steps.refl _))).trans (by
    refine XS.goto X4.here hexec rfl (pc0 := 10) rfl (hb hbytes d10) (by decide) rfl ?_
    exact Steps.refl _)
  exact ⟨T4, some (.int cd), _, _, _, X4, rfl, rfl, rfl, (fun h => by cases h), ⟨rfl, q4.trans hh2⟩, fun fs hl => c5.trans (X4.ireturnOut hexec hret (by rcases hc with rfl | rfl <;> rfl) (Or.inr (Or.inr (Or.inl rfl))) (hb hbytes d14) hl)⟩
end Cdr
namespace Len
def yN : MethodName := ⟨"java/lang/String", "length", "()I"⟩
abbrev yB : ByteArray := jdk_42_method_54_code
theorem d0 : decode yB 0 = .ok (.aload_n 0, 1) := by decide +kernel
theorem d1 : decode yB 1 = .ok (.getfield 9, 3) := by decide +kernel
theorem d4 : decode yB 4 = .ok (.arraylength, 1) := by decide +kernel
theorem d5 : decode yB 5 = .ok (.aload_n 0, 1) := by decide +kernel
theorem d6 : decode yB 6 = .ok (.invokevirtual 335, 3) := by decide +kernel
theorem d9 : decode yB 9 = .ok (.ishr, 1) := by decide +kernel
theorem d10 : decode yB 10 = .ok (.ireturn, 1) := by decide +kernel
def site : List Cond := [.fieldLink "java/lang/String" 9 "java/lang/String" "value" "[B", Cdr.tab] ++ virtW "java/lang/String" 335 "java/lang/String" Cdr.yN Cdr.yN
def tab : Cond := tabOf yN yB 1 (some .int) site
def P (x t : Addr) (V : Cell) (cd : Int32) (n : Nat) (f : Nat → Int32) (z : Int32) (args : Array Value) (s : State) : Prop := args = #[.ref x] ∧ Txt x t V cd n f s ∧ StaticIs s "java/lang/String" "COMPACT_STRINGS" "Z" (.int z) ∧ ¬ z = 0
def E (n : Nat) (r : Option Value) (s u : State) : Prop := XT.PureE (some (.int (Int32.ofNat n))) r s u
/-- length() of a String of n chars, in either coding -/
theorem law (l : Launch) (x t : Addr) (V : Cell) (cd : Int32) (n : Nat) (f : Nat → Int32) (z : Int32) : Law l yN 1 0 1 13 yB 1 (some .int) site (P x t V cd n f z) (E n) [] 0 0 := by
  refine Law.of_walk (plainFor_of_name (by decide +kernel)) (by decide +kernel) (by decide +kernel) (by decide) (fun _ _ h => by rw [h.1]; rfl) (fun _ U U' hal hh h => ⟨h.1, h.2.1.mv hal hh, h.2.2.1.there hal hh, h.2.2.2⟩) (fun r U U' V V' h1 hal h2 h => XT.PureE.mv r U U' V V' h1 hal h2 h) ?_
  intro p e s m args below meth c s₁ X0 hexec hbytes hml hret hlk hnm hown hh0 W hP
  obtain ⟨rfl, hx, s1, hz⟩ := hP
  have v31 := hx.2.2.2.1.2.2.2
  have c1 : Steps p.tables e below (s₁.setTop (entryFrame m #[.ref x] 1)) (s₁.setTop (mkF m 1 #[.val (.ref x)] [.ref x])) := Steps.trans (entry rfl) (by
    show Steps p.tables e below (s₁.setTop (mkF m 0 #[.val (.ref x)] [])) _
    refine XS.aloadN X0.here hexec rfl (hb hbytes d0) rfl rfl ?_
    exact Steps.refl _)
  obtain ⟨T2, X2, q2, st2⟩ := X0.hget hexec hown (wk W (.fieldLink "java/lang/String" 9 "java/lang/String" "value" "[B")) (hx.mv X0.warmed.alike hh0).2.1 (g := (mkF m 1 #[.val (.ref x)] [.ref x])) rfl (rest := []) rfl (hb hbytes d1)
  have hh2 := q2.trans hh0
  have hx2 := hx.mv X2.warmed.alike hh2
  have c3 : Steps p.tables e below (s₁.setTop (entryFrame m #[.ref x] 1)) (T2.setTop (mkF m 6 #[.val (.ref x)] [.ref x, .int (Int32.ofNat V.slots.size)])) := (c1.trans (st2 _ (Steps.refl _))).trans (by
    refine X2.alen hexec hx2.2.2.2.1 rfl rfl (hb hbytes d4) ?_
    refine XS.aloadN X2.here hexec rfl (hb hbytes d5) rfl rfl ?_
    exact Steps.refl _)
  obtain ⟨v4, T4, X4, E4, g4⟩ := X2.callV hexec (Cdr.law l x cd z) hown (wks W (virtW "java/lang/String" 335 "java/lang/String" Cdr.yN Cdr.yN)) rfl (by decide) (wk W Cdr.tab) (W := 1) (Nat.le_of_ble_eq_true rfl) (Nat.le_of_ble_eq_true rfl) (Nat.le_refl _) (Nat.le_refl _) (hx2.1.fc X2.warmed.alike) hx2.1.is (g := (mkF m 6 #[.val (.ref x)] [.ref x, .int (Int32.ofNat V.slots.size)])) rfl (by rw [hml]; rfl) c3 (argsL := []) (rest := [.int (Int32.ofNat V.slots.size)]) rfl rfl (by show 2 * 0 + (1 + 0) ≤ _; decide) (hb hbytes d6) (⟨rfl, hx2.2.2.1, hx.2.2.2.2.1.cd, s1.there X2.warmed.alike hh2, hz⟩)
  obtain ⟨rfl, q4⟩ := E4
  have c5 : Steps p.tables e below (s₁.setTop (entryFrame m #[.ref x] 1)) (T4.setTop (mkF m 10 #[.val (.ref x)] [.int (Int32.ofNat V.slots.size >>> (cd &&& 31))])) := Steps.trans g4 (by
    refine ishr X4.here hexec rfl (hb hbytes d9) rfl ?_
    exact Steps.refl _)
  rw [hx.2.2.2.2.1.len v31] at c5
  exact ⟨T4, some (.int (Int32.ofNat n)), _, _, _, X4, rfl, rfl, rfl, (fun h => by cases h), ⟨rfl, q4.trans hh2⟩, fun fs hl => c5.trans (X4.ireturnOut hexec hret rfl (Or.inl rfl) (hb hbytes d10) hl)⟩
theorem pays {l : Launch} {R : Room} {p : Program} {e : Env} {below : List Frame} {s : State} {sargs : Array Value} {len W : Nat} (x t : Addr) (V : Cell) (cd : Int32) (n : Nat) (f : Nat → Int32) (z : Int32) (htab : tab.before sargs s = true) (hfr : 2 ≤ R.frames) (hlo : W + 25 ≤ R.locals) :
    Back l R p e below s sargs yN len W (fun A₁ a₁ => A₁.cells + 0 ≤ R.cells ∧ A₁.slots + 0 ≤ R.slots ∧ P x t V cd n f z a₁ A₁.U) (fun A₁ _ v₁ B₁ => E n v₁ A₁.U B₁.U ∧ B₁.locs = A₁.locs ++ [] ∧ B₁.cells = A₁.cells + 0 ∧ B₁.slots = A₁.slots + 0) :=
  (law l x t V cd n f z).pays htab hfr (by omega)
end Len
namespace IsL
def yN : MethodName := ⟨"java/lang/String", "isLatin1", "()Z"⟩
abbrev yB : ByteArray := jdk_42_method_154_code
theorem d0 : decode yB 0 = .ok (.getstatic 38, 3) := by decide +kernel
theorem d3 : decode yB 3 = .ok (.ifCond (.eq) 14, 3) := by decide +kernel
theorem d6 : decode yB 6 = .ok (.aload_n 0, 1) := by decide +kernel
theorem d7 : decode yB 7 = .ok (.getfield 15, 3) := by decide +kernel
theorem d10 : decode yB 10 = .ok (.ifCond (.ne) 7, 3) := by decide +kernel
theorem d13 : decode yB 13 = .ok (.iconst 1, 1) := by decide +kernel
theorem d14 : decode yB 14 = .ok (.goto 4, 3) := by decide +kernel
theorem d17 : decode yB 17 = .ok (.iconst 0, 1) := by decide +kernel
theorem d18 : decode yB 18 = .ok (.ireturn, 1) := by decide +kernel
def site : List Cond := [.fieldLink "java/lang/String" 38 "java/lang/String" "COMPACT_STRINGS" "Z", .fieldLink "java/lang/String" 15 "java/lang/String" "coder" "B"]
def tab : Cond := tabOf yN yB 1 (some .boolean) site
def P (x : Addr) (cd z : Int32) (args : Array Value) (s : State) : Prop := args = #[.ref x] ∧ Has x "java/lang/String" "coder" "B" (.int cd) s ∧ (cd = 0 ∨ cd = 1) ∧ StaticIs s "java/lang/String" "COMPACT_STRINGS" "Z" (.int z) ∧ ¬ z = 0
def E (cd : Int32) (r : Option Value) (s u : State) : Prop := XT.PureE (some (.int (1 - cd))) r s u
theorem law (l : Launch) (x : Addr) (cd z : Int32) : Law l yN 1 0 0 0 yB 1 (some .boolean) site (P x cd z) (E cd) [] 0 0 := by
  refine Law.of_walk (plainFor_of_name (by decide +kernel)) (by decide +kernel) (by decide +kernel) (by decide) (fun _ _ h => by rw [h.1]; rfl) (fun _ U U' hal hh h => ⟨h.1, h.2.1.mv hal hh, h.2.2.1, h.2.2.2.1.there hal hh, h.2.2.2.2⟩) (fun r U U' V V' h1 hal h2 h => XT.PureE.mv r U U' V V' h1 hal h2 h) ?_
  intro p e s m args below meth c s₁ X0 hexec hbytes hml hret hlk hnm hown hh0 W hP
  obtain ⟨rfl, hx, hc, s1, hz⟩ := hP
  have c1 : Steps p.tables e below (s₁.setTop (entryFrame m #[.ref x] 1)) (s₁.setTop (mkF m 0 #[.val (.ref x)] [])) := entry rfl
  obtain ⟨T2, X2, q2, st2⟩ := X0.sget hexec hown (wk W (.fieldLink "java/lang/String" 38 "java/lang/String" "COMPACT_STRINGS" "Z")) s1 (fun _ _ h => by rw [hh0]; exact h) (g := (mkF m 0 #[.val (.ref x)] [])) rfl (hb hbytes d0)
  have hh2 := q2.trans hh0
  have c3 : Steps p.tables e below (s₁.setTop (entryFrame m #[.ref x] 1)) (T2.setTop (mkF m 7 #[.val (.ref x)] [.ref x])) := (c1.trans (st2 _ (Steps.refl _))).trans (by
    refine XS.ifNo X2.here hexec rfl (hb hbytes d3) rfl (i0_eq_f hz) ?_
    refine XS.aloadN X2.here hexec rfl (hb hbytes d6) rfl rfl ?_
    exact Steps.refl _)
  obtain ⟨T4, X4, q4, st4⟩ := X2.hget hexec hown (wk W (.fieldLink "java/lang/String" 15 "java/lang/String" "coder" "B")) (hx.mv X2.warmed.alike hh2) (g := (mkF m 7 #[.val (.ref x)] [.ref x])) rfl (rest := []) rfl (hb hbytes d7)
  have c5 : Steps p.tables e below (s₁.setTop (entryFrame m #[.ref x] 1)) (T4.setTop (mkF m 10 #[.val (.ref x)] [.int cd])) := c3.trans (st4 _ (Steps.refl _))
  have c6 : Steps p.tables e below (s₁.setTop (entryFrame m #[.ref x] 1)) (T4.setTop (mkF m 18 #[.val (.ref x)] [.int (1 - cd)])) := by
    rcases hc with rfl | rfl
    · exact c5.trans (by
        refine XS.ifNo X4.here hexec rfl (hb hbytes d10) rfl (i0_ne_f rfl) ?_
        refine iconstV X4.here hexec rfl 1 (hb hbytes d13) (by decide) ?_
        refine XS.goto X4.here hexec rfl (pc0 := 14) rfl (hb hbytes d14) (by decide) rfl ?_
        exact Steps.refl _)
    · exact c5.trans (by
        refine XS.ifYes X4.here hexec rfl (pc0 := 10) rfl (hb hbytes d10) rfl (i0_ne_t (by decide)) (by decide) rfl ?_
        refine iconstV X4.here hexec rfl 0 (hb hbytes d17) (by decide) ?_
        exact Steps.refl _)
  exact ⟨T4, some (.int (1 - cd)), _, _, _, X4, rfl, rfl, rfl, (fun h => by cases h), ⟨rfl, q4.trans hh2⟩, fun fs hl => c6.trans (X4.ireturnOut hexec hret (by rcases hc with rfl | rfl <;> rfl) (Or.inr (Or.inl rfl)) (hb hbytes d18) hl)⟩
end IsL
namespace LChA
def yN : MethodName := ⟨"java/lang/StringLatin1", "charAt", "([BI)C"⟩
abbrev yB : ByteArray := jdk_43_method_2_code
theorem d0 : decode yB 0 = .ok (.iload_n 1, 1) := by decide +kernel
theorem d1 : decode yB 1 = .ok (.aload_n 0, 1) := by decide +kernel
theorem d2 : decode yB 2 = .ok (.arraylength, 1) := by decide +kernel
theorem d3 : decode yB 3 = .ok (.invokestatic 9, 3) := by decide +kernel
theorem d6 : decode yB 6 = .ok (.aload_n 0, 1) := by decide +kernel
theorem d7 : decode yB 7 = .ok (.iload_n 1, 1) := by decide +kernel
theorem d8 : decode yB 8 = .ok (.baload, 1) := by decide +kernel
theorem d9 : decode yB 9 = .ok (.sipush 255, 3) := by decide +kernel
theorem d12 : decode yB 12 = .ok (.iand, 1) := by decide +kernel
theorem d13 : decode yB 13 = .ok (.i2c, 1) := by decide +kernel
theorem d14 : decode yB 14 = .ok (.ireturn, 1) := by decide +kernel
def site : List Cond := [JO.Str_checkIndex.tab] ++ staticW "java/lang/StringLatin1" 9 JO.Str_checkIndex.yN
def tab : Cond := tabOf yN yB 2 (some .char) site
def P (t : Addr) (V : Cell) (i : Nat) (u : Int32) (fm : Value) (args : Array Value) (s : State) : Prop := args = #[.ref t, .int (Int32.ofNat i)] ∧ XT.Arr .byte t V s ∧ V.slots[i]? = some (.int u) ∧ (StaticIs s "jdk/internal/util/Preconditions" "SIOOBE_FORMATTER" "Ljava/util/function/BiFunction;" fm ∧ fm.isRef = true)
def E (u : Int32) (r : Option Value) (s w : State) : Prop := XT.PureE (some (.int (chr8 u))) r s w
theorem law (l : Launch) (t : Addr) (V : Cell) (i : Nat) (u : Int32) (fm : Value) : Law l yN 2 2 2 27 yB 2 (some .char) site (P t V i u fm) (E u) [] 0 0 := by
  refine Law.of_walk (plainFor_of_name (by decide +kernel)) (by decide +kernel) (by decide +kernel) (by decide) (fun _ _ h => by rw [h.1]; rfl) (fun _ U U' hal hh h => ⟨h.1, h.2.1.mv hal hh, h.2.2.1, h.2.2.2.1.there hal hh, h.2.2.2.2⟩) (fun r U U' V V' h1 hal h2 h => XT.PureE.mv r U U' V V' h1 hal h2 h) ?_
  intro p e s m args below meth c s₁ X0 hexec hbytes hml hret hlk hnm hown hh0 W hP
  obtain ⟨rfl, hV, hu, s1, rf⟩ := hP
  have v31 := hV.2.2.2
  have hi : i < V.slots.size := (Array.getElem?_eq_some_iff.mp hu).1
  have c1 : Steps p.tables e below (s₁.setTop (entryFrame m #[.ref t, .int (Int32.ofNat i)] 2)) (s₁.setTop (mkF m 0 #[.val (.ref t), .val (.int (Int32.ofNat i))] [])) := entry rfl
  have c2 : Steps p.tables e below (s₁.setTop (entryFrame m #[.ref t, .int (Int32.ofNat i)] 2)) (s₁.setTop (mkF m 3 #[.val (.ref t), .val (.int (Int32.ofNat i))] [.int (Int32.ofNat V.slots.size), .int (Int32.ofNat i)])) := c1.trans (by
    refine XS.iloadN X0.here hexec rfl (hb hbytes d0) rfl ?_
    refine XS.aloadN X0.here hexec rfl (hb hbytes d1) rfl rfl ?_
    refine X0.alen hexec (hV.mv X0.warmed.alike hh0) rfl rfl (hb hbytes d2) ?_
    exact Steps.refl _)
  obtain ⟨v3, T3, X3, E3, g3⟩ := X0.callS hexec (JO.Str_checkIndex.law l (Int32.ofNat i) (Int32.ofNat V.slots.size) fm) hown (wks W (staticW "java/lang/StringLatin1" 9 JO.Str_checkIndex.yN)) (wk W JO.Str_checkIndex.tab) (W := 0) (Nat.le_of_ble_eq_true rfl) (Nat.le_of_ble_eq_true rfl) (Nat.le_refl _) (Nat.le_refl _) (g := (mkF m 3 #[.val (.ref t), .val (.int (Int32.ofNat i))] [.int (Int32.ofNat V.slots.size), .int (Int32.ofNat i)])) rfl (by rw [hml]; rfl) c2 (argsL := [.int (Int32.ofNat i), .int (Int32.ofNat V.slots.size)]) (rest := []) rfl rfl (by show 2 * 0 + 0 ≤ _; decide) (hb hbytes d3) (⟨rfl, rf, s1.there X0.warmed.alike hh0, Int32.ofNat_not_neg (by omega), lt32 v31 hi⟩)
  obtain ⟨rfl, q3⟩ := E3
  have hh3 := q3.trans hh0
  have c4 : Steps p.tables e below (s₁.setTop (entryFrame m #[.ref t, .int (Int32.ofNat i)] 2)) (T3.setTop (mkF m 14 #[.val (.ref t), .val (.int (Int32.ofNat i))] [.int (chr8 u)])) := Steps.trans g3 (by
    refine XS.aloadN X3.here hexec rfl (hb hbytes d6) rfl rfl ?_
    refine XS.iloadN X3.here hexec rfl (hb hbytes d7) rfl ?_
    refine X3.aget hexec (hV.mv X3.warmed.alike hh3) rfl hu rfl rfl (hb hbytes d8) ?_
    refine sipushV X3.here hexec rfl 255 (hb hbytes d9) (by decide) ?_
    refine XS.iand X3.here hexec rfl (hb hbytes d12) rfl ?_
    refine i2c X3.here hexec rfl (hb hbytes d13) rfl ?_
    exact Steps.refl _)
  exact ⟨T3, some (.int (chr8 u)), _, _, _, X3, rfl, rfl, rfl, (fun h => by cases h), ⟨rfl, hh3⟩, fun fs hl => c4.trans (X3.ireturnOut hexec hret (narrow_c _) (Or.inr (Or.inr (Or.inr (Or.inl rfl)))) (hb hbytes d14) hl)⟩
end LChA
end StrChars
namespace StrChars.Road
open Jvm Sem ClassFile Op Lib Jvm.Stand Jvm.Free Jvm.Free.XT
open Jvm.Lib.Cold (StaticIs)
theorem consq {a : Array Value} {s : State} {c : Jvm.Cond} {L : List Jvm.Cond} (h0 : c.before a s = true) (h : ∀ w ∈ L, w.before a s = true) : ∀ w ∈ c :: L, w.before a s = true := fun w hw => (List.mem_cons.mp hw).elim (fun e => e ▸ h0) (h w)
/-- the words of String.length(), either coding -/
abbrev wordsLen : List Jvm.Cond := [.code Len.yN Len.yB 1 (some .int), .initialized ST, .fieldLink ST 9 ST "value" "[B", .fieldLink ST 38 ST "COMPACT_STRINGS" "Z", .fieldLink ST 15 ST "coder" "B", .code Cdr.yN Cdr.yB 1 (some .byte), .methodLink ST 335 Cdr.yN, .declares Cdr.yN, .selects ST Cdr.yN Cdr.yN, .instanceMethod Cdr.yN]
theorem tabLen_of {a : Array Value} {s : State} (h : ∀ w ∈ wordsLen, w.before a s = true) : Len.tab.before a s = true := by
  have hc : Cdr.tab.before a s = true := unparts (wk h (.code Cdr.yN Cdr.yB 1 (some .byte))) (wks h (.initialized Cdr.yN.cls :: Cdr.site))
  have q := consq hc h
  exact unparts (wk q (.code Len.yN Len.yB 1 (some .int))) (wks q (.initialized Len.yN.cls :: Len.site))
theorem movedLen {Z s : State} {a0 args : Array Value} (hZ : Z.Warmed39 s.vm) (hw : ∀ d ∈ wordsLen, d.before a0 Z = true) : ∀ d ∈ wordsLen, d.before args s = true := fun d hd => by
  have q := hw d hd
  have t : ∀ d ∈ wordsLen, d = .arrayClass .byte ∨ (d.onTables && d.keepsFace) = true := by decide +kernel
  rcases t d hd with rfl | t
  · exact RoadKit.mvA hZ q
  · exact RoadKit.mv hZ q t
/-- the bytes of the chars cs, low before high -/
def wideBytes : List Int32 → List Value
  | [] => []
  | c :: cs => .int (lo8 c) :: .int (hi8 c) :: wideBytes cs
theorem wide_lo (d : Value) : ∀ (cs : List Int32) (j : Nat), j < cs.length → (wideBytes cs).getD (2 * j) d = .int (lo8 (cs.getD j 0))
  | [], j, h => absurd h (Nat.not_lt_zero j)
  | c :: cs, 0, _ => rfl
  | c :: cs, j + 1, h => by
    have q := wide_lo d cs j (by simpa using h)
    rw [show 2 * (j + 1) = 2 * j + 1 + 1 from by omega]
    simpa [wideBytes] using q
theorem wide_hi (d : Value) : ∀ (cs : List Int32) (j : Nat), j < cs.length → (wideBytes cs).getD (2 * j + 1) d = .int (hi8 (cs.getD j 0))
  | [], j, h => absurd h (Nat.not_lt_zero j)
  | c :: cs, 0, _ => rfl
  | c :: cs, j + 1, h => by
    have q := wide_hi d cs j (by simpa using h)
    rw [show 2 * (j + 1) + 1 = 2 * j + 1 + 1 + 1 from by omega]
    simpa [wideBytes] using q
theorem low_at (d : Value) (cs : List Int32) (j : Nat) (h : j < cs.length) : (cs.map fun c => Value.int (lo8 c)).getD j d = .int (lo8 (cs.getD j 0)) := by
  simp [List.getD_eq_getElem?_getD, h]
/-- an array of N2 bytes vs codes the chars cs by the coder cd -/
def CodA (cs : List Int32) (cd N2 : Int32) (vs : List Value) : Prop := (cd = 0 ∧ N2 = Int32.ofNat cs.length ∧ vs = (cs.map fun c => Value.int (lo8 c)) ∧ ∀ c ∈ cs, ¬ 255 < c) ∨ (cd = 1 ∧ N2 = Int32.ofNat (2 * cs.length) ∧ vs = wideBytes cs ∧ ∃ c ∈ cs, 255 < c)
theorem CodA.cod {cs : List Int32} {cd N2 : Int32} {vs : List Value} {V : Cell} (h : CodA cs cd N2 vs) (hn : 2 * cs.length < 2 ^ 31) (hs : V.slots.size = N2.toNatClampNeg) (hv : RoadKit.Has V vs (.int 0)) : Cod cd cs.length (fun j => cs.getD j 0) V := by
  rcases h with ⟨rfl, rfl, rfl, h⟩ | ⟨rfl, rfl, rfl, c, hc, hw⟩
  · rw [n32 (by omega)] at hs
    exact Or.inl ⟨rfl, hs, fun j hj => ⟨by rw [hv j (by omega), low_at _ _ _ hj], by
      have e : cs.getD j 0 = cs[j] := by simp [List.getD_eq_getElem?_getD, hj]
      show ¬ 255 < cs.getD j 0
      rw [e]; exact h _ (List.getElem_mem _)⟩⟩
  · rw [n32 (by omega)] at hs
    obtain ⟨j, hj, rfl⟩ := List.getElem_of_mem hc
    exact Or.inr ⟨rfl, hs, fun j hj => ⟨by rw [hv _ (by omega), wide_lo _ _ _ hj], by rw [hv _ (by omega), wide_hi _ _ _ hj]⟩, j, hj, by
      have e : cs.getD j 0 = cs[j] := by simp [List.getD_eq_getElem?_getD, hj]
      show 255 < cs.getD j 0
      rw [e]; exact hw⟩
/-- an object of exactly java/lang/String, its two fields found: as the laws ask it -/
theorem strObj {Z U : State} {a0 : Array Value} {kI : Nat} (wi : (Jvm.Cond.instantiable ST kI).before a0 Z = true) (al : Z.vm.Alike U.vm) {x : Addr} {v0 c0 : Value} (E : RoadKit.Exa Z U.heap x ST) (V : RoadKit.Fld Z U.heap x ST "value" "[B" v0) (C : RoadKit.Fld Z U.heap x ST "coder" "B" c0) :
    ∃ (D : Cell) (fV fC : Field), Blank ST x D U ∧ Found ST "value" "[B" fV U ∧ Found ST "coder" "B" fC U ∧ D.slots[fV.slot]? = some v0 ∧ D.slots[fC.slot]? = some c0 ∧ RoadKit.slotOf Z ST "value" "[B" = fV.slot ∧ RoadKit.slotOf Z ST "coder" "B" = fC.slot := by
  obtain ⟨D, cfV, kV, iV, fV, hD, gV, stV, knV, obV, asV, slV⟩ := V
  obtain ⟨D', cfC, kC, iC, fC, hD', gC, stC, -, -, asC, slC⟩ := C
  cases hD.symm.trans hD'
  obtain ⟨D2, kD, e1, e2, e3, e4, e5⟩ := E
  cases hD.symm.trans e1
  obtain ⟨c2, k2, i1, i2, i3, -⟩ := Cond.instantiable_spec wi
  cases e2.symm.trans i1
  cases e3.symm.trans i2
  obtain ⟨kU, u1, u2⟩ := al.2.2 _ _ e3
  exact ⟨D, fV, fC, ⟨hD, ⟨knV, fun q hq => by rw [hq] at obV; cases obV⟩, by rw [al.findClass]; exact e2, kU, u1, by rw [u2]; exact i3, by rw [u2]; exact e5 i3⟩, ⟨SBG.found_only al ⟨cfV, kV, iV, gV⟩, stV⟩, ⟨SBG.found_only al ⟨cfC, kC, iC, gC⟩, stC⟩, slV, slC, by simp [RoadKit.slotOf, gV], by simp [RoadKit.slotOf, gC]⟩
theorem sta_is {Z U : State} (al : Z.vm.Alike U.vm) {C n d : String} {v : Value} (S : RoadKit.Sta Z U.heap C n d v) : StaticIs U C n d v := by
  obtain ⟨cfS, iS, kS, fS, st, cS, t1, t2, t3, t4, t5, t6, t7⟩ := S
  exact StaticIs.there (s := { Z with heap := U.heap }) ⟨cfS, iS, kS, fS, st, cS, t1, t2, t3, t4, t5, (fun q => by rw [q] at t6; cases t6), t7⟩ al rfl
/-- **length() OF SUCH A STRING** -/
theorem lenW {p : Program} {l : Launch} {e : Env} {R : Room} {s : State} {args : Array Value} {below : List Frame} {len W : Nat} {Z : State} {a0 : Array Value} {h : Heap} (hZ : Z.Warmed39 s.vm) (hw : ∀ d ∈ wordsLen, d.before a0 Z = true) {kI : Nat} (wi : (Jvm.Cond.instantiable ST kI).before a0 Z = true)
    {x t : Addr} {kb : ClassId} {cs : List Int32} {cd N2 z : Int32} {vs : List Value} (E : RoadKit.Exa Z h x ST) (V : RoadKit.Fld Z h x ST "value" "[B" (.ref t)) (C : RoadKit.Fld Z h x ST "coder" "B" (.int cd)) (K : RoadKit.Arv Z h t kb .byte N2 vs (.int 0)) (hc : CodA cs cd N2 vs) (hb : ∀ c ∈ cs, ¬ c < 0 ∧ ¬ (65535 : Int32) < c)
    (S : RoadKit.Sta Z h ST "COMPACT_STRINGS" "Z" (.int z)) (hz : ¬ z = 0) (l2 : cs.length ≤ 4000) (hfr : 2 ≤ R.frames) (hlo : W + 25 ≤ R.locals) :
    Back l R p e below s args (⟨"java/lang/String", "length", "()I"⟩ : MethodName) len W (fun P a => a = #[.ref x] ∧ P.U.heap = h ∧ P.cells + 0 ≤ R.cells ∧ P.slots + 0 ≤ R.slots)
      (fun P _ v B => ∃ L, (v = some (.int (Int32.ofNat cs.length)) ∧ L = [] ∧ B.U.heap = h) ∧ B.locs = P.locs ++ L ∧ B.cells = P.cells + 0 ∧ B.slots = P.slots + 0) := by
  obtain ⟨A, K1, K2, K3, K4, K5, K6⟩ := K
  have hcod := hc.cod (by omega) K3 K5
  intro m meth c P g ig mk a X hg hsize hdg hW hn hp'
  obtain ⟨rfl, rfl, r1, r2⟩ := hp'
  have al : Z.vm.Alike P.U.vm := hZ.alike.trans X.warmed.alike
  obtain ⟨D, fV, fC, hB, F1, F2, g1, g2, -, -⟩ := strObj wi al E V C
  have hx : Txt x t A cd cs.length (fun j => cs.getD j 0) P.U := ⟨⟨_, hB.2.2.1, D, hB.1, rfl, by cases q : D.vm <;> first | rfl | exact absurd q (hB.2.1.2 _)⟩, Has.of hB F1 g1, Has.of hB F2 g2, ⟨K1.1, State.isArrayOf_alike al K1.2.1, K1.2.2, by rcases hcod with ⟨-, q, -⟩ | ⟨-, q, -⟩ <;> omega⟩, hcod, fun j hj => by
    have e : cs.getD j 0 = cs[j] := by simp [List.getD_eq_getElem?_getD, hj]
    show ¬ cs.getD j 0 < 0 ∧ ¬ 65535 < cs.getD j 0
    rw [e]; exact hb _ (List.getElem_mem _)⟩
  obtain ⟨v, B, X', ⟨⟨hv, hh⟩, hl, hk, hs⟩, st⟩ := Len.pays x t A cd cs.length (fun j => cs.getD j 0) z (tabLen_of (movedLen hZ hw)) hfr hlo m meth c P g ig mk _ X hg hsize hdg hW hn ⟨r1, r2, rfl, hx, sta_is al S, hz⟩
  exact ⟨v, B, X', ⟨[], ⟨hv, rfl, hh⟩, hl, hk, hs⟩, st⟩
end StrChars.Road
namespace StrChars.Road
open Jvm Sem ClassFile Op Lib Jvm.Stand Jvm.Free Jvm.Free.XT
open Jvm.Lib.Cold (StaticIs)
/-- the road's facts of a String, as the laws ask it -/
theorem txt_of {Z U : State} {a0 : Array Value} {kI : Nat} (wi : (Jvm.Cond.instantiable ST kI).before a0 Z = true) (al : Z.vm.Alike U.vm) {x t : Addr} {kb : ClassId} {cs : List Int32} {cd N2 : Int32} {vs : List Value} (E : RoadKit.Exa Z U.heap x ST) (V : RoadKit.Fld Z U.heap x ST "value" "[B" (.ref t)) (C : RoadKit.Fld Z U.heap x ST "coder" "B" (.int cd)) (K : RoadKit.Arv Z U.heap t kb .byte N2 vs (.int 0)) (hc : CodA cs cd N2 vs) (hb : ∀ c ∈ cs, ¬ c < 0 ∧ ¬ (65535 : Int32) < c) (l2 : cs.length ≤ 4000) :
    ∃ A, Txt x t A cd cs.length (fun j => cs.getD j 0) U := by
  obtain ⟨A, K1, K2, K3, K4, K5, K6⟩ := K
  have hcod := hc.cod (by omega) K3 K5
  obtain ⟨D, fV, fC, hB, F1, F2, g1, g2, -, -⟩ := strObj wi al E V C
  exact ⟨A, ⟨_, hB.2.2.1, D, hB.1, rfl, by cases q : D.vm <;> first | rfl | exact absurd q (hB.2.1.2 _)⟩, Has.of hB F1 g1, Has.of hB F2 g2, ⟨K1.1, State.isArrayOf_alike al K1.2.1, K1.2.2, by rcases hcod with ⟨-, q, -⟩ | ⟨-, q, -⟩ <;> omega⟩, hcod, fun j hj => by
    have e : cs.getD j 0 = cs[j] := by simp [List.getD_eq_getElem?_getD, hj]
    show ¬ cs.getD j 0 < 0 ∧ ¬ 65535 < cs.getD j 0
    rw [e]; exact hb _ (List.getElem_mem _)⟩
end StrChars.Road
namespace StrChars
open Jvm Sem ClassFile Op Lib Jvm.Stand Jvm.Free.XT Jvm.Free.ALB Jvm.Free.JM Jvm.Free
open Jvm.Lib.Cold (StaticIs)
namespace ChN
def yN : MethodName := ⟨"java/lang/String", "charAt", "(I)C"⟩
abbrev yB : ByteArray := jdk_42_method_56_code
theorem d0 : decode yB 0 = .ok (.aload_n 0, 1) := by decide +kernel
theorem d1 : decode yB 1 = .ok (.invokevirtual 492, 3) := by decide +kernel
theorem d4 : decode yB 4 = .ok (.ifCond (.eq) 12, 3) := by decide +kernel
theorem d7 : decode yB 7 = .ok (.aload_n 0, 1) := by decide +kernel
theorem d8 : decode yB 8 = .ok (.getfield 9, 3) := by decide +kernel
theorem d11 : decode yB 11 = .ok (.iload_n 1, 1) := by decide +kernel
theorem d12 : decode yB 12 = .ok (.invokestatic 495, 3) := by decide +kernel
theorem d15 : decode yB 15 = .ok (.ireturn, 1) := by decide +kernel
def site : List Cond := [.fieldLink "java/lang/String" 9 "java/lang/String" "value" "[B", IsL.tab, LChA.tab] ++ virtW "java/lang/String" 492 "java/lang/String" IsL.yN IsL.yN ++ staticW "java/lang/String" 495 LChA.yN
def tab : Cond := tabOf yN yB 2 (some .char) site
def P (x t : Addr) (V : Cell) (n : Nat) (f : Nat → Int32) (z : Int32) (fm : Value) (i : Nat) (args : Array Value) (s : State) : Prop := args = #[.ref x, .int (Int32.ofNat i)] ∧ Txt x t V 0 n f s ∧ i < n ∧ StaticIs s "java/lang/String" "COMPACT_STRINGS" "Z" (.int z) ∧ ¬ z = 0 ∧ StaticIs s "jdk/internal/util/Preconditions" "SIOOBE_FORMATTER" "Ljava/util/function/BiFunction;" fm ∧ fm.isRef = true
def E (f : Nat → Int32) (i : Nat) (r : Option Value) (s u : State) : Prop := XT.PureE (some (.int (f i))) r s u
/-- charAt(i) of a Latin-1 String of n chars, i < n: f i -/
theorem law (l : Launch) (x t : Addr) (V : Cell) (n : Nat) (f : Nat → Int32) (z : Int32) (fm : Value) (i : Nat) : Law l yN 2 1 3 40 yB 2 (some .char) site (P x t V n f z fm i) (E f i) [] 0 0 := by
  refine Law.of_walk (plainFor_of_name (by decide +kernel)) (by decide +kernel) (by decide +kernel) (by decide) (fun _ _ h => by rw [h.1]; rfl) (fun _ U U' hal hh h => ⟨h.1, h.2.1.mv hal hh, h.2.2.1, h.2.2.2.1.there hal hh, h.2.2.2.2.1, h.2.2.2.2.2.1.there hal hh, h.2.2.2.2.2.2⟩) (fun r U U' V V' h1 hal h2 h => XT.PureE.mv r U U' V V' h1 hal h2 h) ?_
  intro p e s m args below meth c s₁ X0 hexec hbytes hml hret hlk hnm hown hh0 W hP
  obtain ⟨rfl, hx, hi, s1, hz, s3, rf⟩ := hP
  have v31 := hx.2.2.2.1.2.2.2
  have hr := hx.2.2.2.2.2 i hi
  have hx0 := hx.mv X0.warmed.alike hh0
  have c1 : Steps p.tables e below (s₁.setTop (entryFrame m #[.ref x, .int (Int32.ofNat i)] 2)) (s₁.setTop (mkF m 1 #[.val (.ref x), .val (.int (Int32.ofNat i))] [.ref x])) := Steps.trans (entry rfl) (by
    show Steps p.tables e below (s₁.setTop (mkF m 0 #[.val (.ref x), .val (.int (Int32.ofNat i))] [])) _
    refine XS.aloadN X0.here hexec rfl (hb hbytes d0) rfl rfl ?_
    exact Steps.refl _)
  obtain ⟨v2, T2, X2, E2, g2⟩ := X0.callV hexec (IsL.law l x 0 z) hown (wks W (virtW "java/lang/String" 492 "java/lang/String" IsL.yN IsL.yN)) rfl (by decide) (wk W IsL.tab) (W := 0) (Nat.le_of_ble_eq_true rfl) (Nat.le_of_ble_eq_true rfl) (Nat.le_refl _) (Nat.le_refl _) (hx0.1.fc X0.warmed.alike) hx0.1.is (g := (mkF m 1 #[.val (.ref x), .val (.int (Int32.ofNat i))] [.ref x])) rfl (by rw [hml]; rfl) c1 (argsL := []) (rest := []) rfl rfl (by show 2 * 0 + 0 ≤ _; decide) (hb hbytes d1) (⟨rfl, hx0.2.2.1, hx.2.2.2.2.1.cd, s1.there X0.warmed.alike hh0, hz⟩)
  obtain ⟨rfl, q2⟩ := E2
  have hh2 := q2.trans hh0
  have hx2 := hx.mv X2.warmed.alike hh2
  obtain ⟨-, k1, k2⟩ | ⟨k0, -⟩ := hx.2.2.2.2.1
  · have c3 : Steps p.tables e below (s₁.setTop (entryFrame m #[.ref x, .int (Int32.ofNat i)] 2)) (T2.setTop (mkF m 8 #[.val (.ref x), .val (.int (Int32.ofNat i))] [.ref x])) := Steps.trans g2 (by
      refine XS.ifNo X2.here hexec rfl (hb hbytes d4) rfl (i0_eq_f (by decide)) ?_
      refine XS.aloadN X2.here hexec rfl (hb hbytes d7) rfl rfl ?_
      exact Steps.refl _)
    obtain ⟨T4, X4, q4, st4⟩ := X2.hget hexec hown (wk W (.fieldLink "java/lang/String" 9 "java/lang/String" "value" "[B")) hx2.2.1 (g := (mkF m 8 #[.val (.ref x), .val (.int (Int32.ofNat i))] [.ref x])) rfl (rest := []) rfl (hb hbytes d8)
    have hh4 := q4.trans hh2
    have c5 : Steps p.tables e below (s₁.setTop (entryFrame m #[.ref x, .int (Int32.ofNat i)] 2)) (T4.setTop (mkF m 12 #[.val (.ref x), .val (.int (Int32.ofNat i))] [.int (Int32.ofNat i), .ref t])) := (c3.trans (st4 _ (Steps.refl _))).trans (by
      refine XS.iloadN X4.here hexec rfl (hb hbytes d11) rfl ?_
      exact Steps.refl _)
    obtain ⟨v6, T6, X6, E6, g6⟩ := X4.callS hexec (LChA.law l t V i (lo8 (f i)) fm) hown (wks W (staticW "java/lang/String" 495 LChA.yN)) (wk W LChA.tab) (W := 0) (Nat.le_of_ble_eq_true rfl) (Nat.le_of_ble_eq_true rfl) (Nat.le_refl _) (Nat.le_refl _) (g := (mkF m 12 #[.val (.ref x), .val (.int (Int32.ofNat i))] [.int (Int32.ofNat i), .ref t])) rfl (by rw [hml]; rfl) c5 (argsL := [.ref t, .int (Int32.ofNat i)]) (rest := []) rfl rfl (by show 2 * 0 + 0 ≤ _; decide) (hb hbytes d12) (⟨rfl, hx.2.2.2.1.mv X4.warmed.alike hh4, (k2 i hi).1, s3.there X4.warmed.alike hh4, rf⟩)
    obtain ⟨rfl, q6⟩ := E6
    rw [chr8_lo8 hr.1 (k2 i hi).2] at g6
    exact ⟨T6, some (.int (f i)), _, _, _, X6, rfl, rfl, rfl, (fun h => by cases h), ⟨rfl, q6.trans hh4⟩, fun fs hl => Steps.trans g6 (X6.ireturnOut hexec hret (narrow_ch hr.1 hr.2) (Or.inr (Or.inr (Or.inr (Or.inl rfl)))) (hb hbytes d15) hl)⟩
  · exact absurd k0 (by decide)
theorem pays {l : Launch} {R : Room} {p : Program} {e : Env} {below : List Frame} {s : State} {sargs : Array Value} {len W : Nat} (x t : Addr) (V : Cell) (n : Nat) (f : Nat → Int32) (z : Int32) (fm : Value) (i : Nat) (htab : tab.before sargs s = true) (hfr : 4 ≤ R.frames) (hlo : W + 53 ≤ R.locals) :
    Back l R p e below s sargs yN len W (fun A₁ a₁ => A₁.cells + 0 ≤ R.cells ∧ A₁.slots + 0 ≤ R.slots ∧ P x t V n f z fm i a₁ A₁.U) (fun A₁ _ v₁ B₁ => E f i v₁ A₁.U B₁.U ∧ B₁.locs = A₁.locs ++ [] ∧ B₁.cells = A₁.cells + 0 ∧ B₁.slots = A₁.slots + 0) :=
  (law l x t V n f z fm i).pays htab hfr (by omega)
end ChN
end StrChars
namespace StrChars.Road
open Jvm Sem ClassFile Op Lib Jvm.Stand Jvm.Free Jvm.Free.XT
open Jvm.Lib.Cold (StaticIs)
/-- the words of String.charAt(int), the Latin-1 road alone -/
abbrev wordsChN : List Jvm.Cond := [.code ChN.yN ChN.yB 2 (some .char), .initialized ST, .fieldLink ST 9 ST "value" "[B", .fieldLink ST 38 ST "COMPACT_STRINGS" "Z", .fieldLink ST 15 ST "coder" "B", .code IsL.yN IsL.yB 1 (some .boolean), .methodLink ST 492 IsL.yN, .declares IsL.yN, .selects ST IsL.yN IsL.yN, .instanceMethod IsL.yN,
  .methodLink ST 495 LChA.yN, .static LChA.yN, .code LChA.yN LChA.yB 2 (some .char), .initialized "java/lang/StringLatin1", .methodLink "java/lang/StringLatin1" 9 JO.Str_checkIndex.yN, .static JO.Str_checkIndex.yN, .code JO.Str_checkIndex.yN JO.Str_checkIndex.yB 2 none,
  .fieldLink ST 1053 "jdk/internal/util/Preconditions" "SIOOBE_FORMATTER" "Ljava/util/function/BiFunction;", .methodLink ST 1059 JC.PreCheck.yN, .static JC.PreCheck.yN, .code JC.PreCheck.yN JC.PreCheck.yB 3 (some .int), .initialized "jdk/internal/util/Preconditions"]
theorem tabChN_of {a : Array Value} {s : State} (h : ∀ w ∈ wordsChN, w.before a s = true) : ChN.tab.before a s = true := by
  have hp : JC.PreCheck.tab.before a s = true := unparts (wk h (.code JC.PreCheck.yN JC.PreCheck.yB 3 (some .int))) (wks h (.initialized JC.PreCheck.yN.cls :: JC.PreCheck.site))
  have qk := consq hp h
  have hk : JO.Str_checkIndex.tab.before a s = true := unparts (wk qk (.code JO.Str_checkIndex.yN JO.Str_checkIndex.yB 2 none)) (wks qk (.initialized JO.Str_checkIndex.yN.cls :: JO.Str_checkIndex.site))
  have ql := consq hk h
  have hl : LChA.tab.before a s = true := unparts (wk ql (.code LChA.yN LChA.yB 2 (some .char))) (wks ql (.initialized LChA.yN.cls :: LChA.site))
  have hi : IsL.tab.before a s = true := unparts (wk h (.code IsL.yN IsL.yB 1 (some .boolean))) (wks h (.initialized IsL.yN.cls :: IsL.site))
  have q := consq hi (consq hl h)
  exact unparts (wk q (.code ChN.yN ChN.yB 2 (some .char))) (wks q (.initialized ChN.yN.cls :: ChN.site))
theorem movedChN {Z s : State} {a0 args : Array Value} (hZ : Z.Warmed39 s.vm) (hw : ∀ d ∈ wordsChN, d.before a0 Z = true) : ∀ d ∈ wordsChN, d.before args s = true := fun d hd => by
  have t : ∀ d ∈ wordsChN, (d.onTables && d.keepsFace) = true := by decide +kernel
  exact RoadKit.mv hZ (hw d hd) (t d hd)
/-- **charAt(i) OF A LATIN-1 STRING**, i < n: the char -/
theorem chN {p : Program} {l : Launch} {e : Env} {R : Room} {s : State} {args : Array Value} {below : List Frame} {len W : Nat} {Z : State} {a0 : Array Value} {h : Heap} (hZ : Z.Warmed39 s.vm) (hw : ∀ d ∈ wordsChN, d.before a0 Z = true) {kI : Nat} (wi : (Jvm.Cond.instantiable ST kI).before a0 Z = true)
    {x t : Addr} {kb : ClassId} {cs : List Int32} {N2 z : Int32} {vs : List Value} {fm : Value} {i : Nat} {j : Int32} (E : RoadKit.Exa Z h x ST) (V : RoadKit.Fld Z h x ST "value" "[B" (.ref t)) (C : RoadKit.Fld Z h x ST "coder" "B" (.int 0)) (K : RoadKit.Arv Z h t kb .byte N2 vs (.int 0)) (hc : CodA cs 0 N2 vs) (hb : ∀ c ∈ cs, ¬ c < 0 ∧ ¬ (65535 : Int32) < c)
    (S : RoadKit.Sta Z h ST "COMPACT_STRINGS" "Z" (.int z)) (hz : ¬ z = 0) (F : RoadKit.Sta Z h "jdk/internal/util/Preconditions" "SIOOBE_FORMATTER" "Ljava/util/function/BiFunction;" fm) (rf : fm.isRef = true) (l2 : cs.length ≤ 4000) (hi : i < cs.length) (hj : j = Int32.ofNat i) (hfr : 4 ≤ R.frames) (hlo : W + 53 ≤ R.locals) :
    Back l R p e below s args (⟨"java/lang/String", "charAt", "(I)C"⟩ : MethodName) len W (fun P a => a = #[.ref x, .int j] ∧ P.U.heap = h ∧ P.cells + 0 ≤ R.cells ∧ P.slots + 0 ≤ R.slots)
      (fun P _ v B => ∃ L, (v = some (.int (cs.getD i 0)) ∧ L = [] ∧ B.U.heap = h) ∧ B.locs = P.locs ++ L ∧ B.cells = P.cells + 0 ∧ B.slots = P.slots + 0) := by
  subst hj
  intro m meth c P g ig mk a X hg hsize hdg hW hn hp'
  obtain ⟨rfl, rfl, r1, r2⟩ := hp'
  have al : Z.vm.Alike P.U.vm := hZ.alike.trans X.warmed.alike
  obtain ⟨A, hx⟩ := txt_of wi al E V C K hc hb l2
  obtain ⟨v, B, X', ⟨⟨hv, hh⟩, hl, hk, hs⟩, st⟩ := ChN.pays x t A cs.length (fun j => cs.getD j 0) z fm i (tabChN_of (movedChN hZ hw)) hfr hlo m meth c P g ig mk _ X hg hsize hdg hW hn ⟨r1, r2, rfl, hx, hi, sta_is al S, hz, sta_is al F, rf⟩
  exact ⟨v, B, X', ⟨[], ⟨hv, rfl, hh⟩, hl, hk, hs⟩, st⟩
/-- what backV says of its String, as the contracts of this text ask it: cs's low bytes, coder 0 -/
theorem codOf {cs : List Int32} {n : Nat} (hn : cs.length = n) (hb : ∀ c ∈ cs, ¬ 255 < c) : CodA cs 0 (Int32.ofNat n) ((cs.map lo8).map Value.int) := Or.inl ⟨rfl, by rw [hn], by simp [List.map_map, Function.comp_def], hb⟩
end StrChars.Road
end Jvm.Pilot.@@N@@
namespace Jvm.Pilot.@@N@@
open Jvm Jvm.ClassFile Sem Op Lib Jvm.Free Jvm.Stand Jvm.LawKit Jvm.RoadKit Bundle Jvm.Pilot.@@N@@.Jvm.D Jvm.Own
/-- what the case says of its start -/
def Wd (Z : State) (a0 : Array Value) : Prop := (∀ (k : Nat) {d : Jvm.Cond}, tables_1[k]? = some d → d.before a0 Z = true) ∧ (∃ z : Int32, Sta Z Z.heap "java/lang/String" "COMPACT_STRINGS" "Z" (.int z) ∧ ¬ z = 0) ∧ ∃ fm : Value, Sta Z Z.heap "jdk/internal/util/Preconditions" "SIOOBE_FORMATTER" "Ljava/util/function/BiFunction;" fm ∧ fm.isRef = true
theorem Wd.hw {Z : State} {a0 : Array Value} (W : Wd Z a0) : ∀ d ∈ tables_1, d.before a0 Z = true := fun d hd => by
  obtain ⟨i, hi⟩ := List.mem_iff_getElem?.mp hd
  exact W.1 i hi
theorem Wd.sub {Z : State} {a0 : Array Value} (W : Wd Z a0) {ws : List Jvm.Cond} (h : ∀ d ∈ ws, d ∈ tables_1) : ∀ d ∈ ws, d.before a0 Z = true := fun d hd => W.hw d (h d hd)
theorem pdC : parseMethodDescriptor "([C)V" = some ⟨[(.array .char)], none⟩ := by decide +kernel
theorem up255 {cs : List Int32} (h : ∀ c ∈ cs, ¬ c < 0 ∧ ¬ (255 : Int32) < c) : ∀ c ∈ cs, ¬ c < 0 ∧ ¬ (65535 : Int32) < c := fun c hc => ⟨(h c hc).1, fun q => (h c hc).2 (by rw [Int32.lt_iff_toInt_lt] at q ⊢; have e1 : (65535 : Int32).toInt = 65535 := rfl; have e2 : (255 : Int32).toInt = 255 := rfl; omega)⟩
section StrGo
variable {nw : Bool} {p : Program} {l : Launch} {e : Env} {R : Room} {s : State} {m : MethodId} {args : Array Value} {below : List Frame} {meth : Method} {c : Code} {code : ByteArray} {ml : Nat} {nm : String} {ret : Option FieldType} {Z : State} {a0 : Array Value} {EL : List (String × Nat)} {own : String} {P : Option Value → Vm → Heap → Prop}
variable {vm vm' : Vm} {h h' h0 h1 h2 : Heap} {k n pc : Nat} {L : Array Slot} {S : List Value}
/-- new String(chars), one to 4,000 of them, each 0 to 255 -/
theorem goStrNew (W : Wd Z a0) {idx : Nat} {x b : Addr} {kC : ClassId} {N : Int32} {v0 c0 dv : Value} {rest : List Value} (Wk : Nat) (cs : List Int32) (pc' : Nat) (hd : decode code pc = .ok (.invokespecial idx, 3)) (hp : pc + 3 = pc') (w1 : (Jvm.Cond.methodLink own idx (⟨"java/lang/String", "<init>", "([C)V"⟩ : MethodName)).before a0 Z = true)
    (E : Exa Z h x "java/lang/String") (V : Fld Z h x "java/lang/String" "value" "[B" v0) (C : Fld Z h x "java/lang/String" "coder" "B" c0) (K : Arv Z h b kC .char N (cs.map Value.int) dv) (hN : N = Int32.ofNat cs.length) (l0 : 0 < cs.length) (l2 : cs.length ≤ 4000) (hcs : ∀ c ∈ cs, ¬ c < 0 ∧ ¬ (255 : Int32) < c)
    (hst : S = .ref b :: .ref x :: rest) (hsz : L.size = ml) (hW : (rest.map fun v => v.category).sum ≤ Wk) (hfr : 4 ≤ R.frames) (hlo : Wk + 65 ≤ R.locals) (hk0 : k + 1 ≤ R.cells) (hn0 : n + cs.length ≤ R.slots) (Sx : Safe Z EL vm h x) (hz : Z.heap.size ≤ x)
    (g : ∀ h', Keep h h' [x] → Str Z h' x cs → CHr Z EL vm h vm h' → Go nw p l e R s m args below meth c code ml nm ret Z a0 EL own P vm h' (k + 1) (n + cs.length) pc' L rest) : Go nw p l e R s m args below meth c code ml nm ret Z a0 EL own P vm h k n pc L S := by
  obtain ⟨z, Cz, hz0⟩ := W.2.1
  refine Go.specB (Q := fun v h' L => StrChars.Road.QV Z x N (cs.map fun c => c.toInt8.toInt32) h Z.heap.size v h' L) (dk := 1) (dn := cs.length) (rest := rest) Wk x [.ref b] pc' hd hp rfl w1 (W.1 9 rfl) (W.1 10 rfl) (by decide)
    (fun hZ hE => StrChars.Road.backV hZ (W.sub (by decide +kernel)) (W.1 5 rfl) (bs := cs.map fun c => c.toInt8.toInt32) hz hE.1 E V C K (Cz.ext hE) hz0 rfl hN l0 l2 hcs rfl hfr hlo) pdC rfl hst hsz hW hk0 hn0
    (fun v h' L q => ⟨q.2.1, [x], q.2.2.1, fun y hy => by cases List.mem_singleton.mp hy; exact Sx, fun y hy => by cases List.mem_singleton.mp hy; exact hz⟩) (fun v h' L q ch => ?_)
  obtain ⟨rfl, q2, q3, q4, q5, t, kb, q6, q7, q8, q9, q10⟩ := q
  exact g h' q3 ⟨t, kb, q4, q5, q9, by rw [← hN]; exact q10, l2, hcs⟩ ch
theorem pdI0 : parseMethodDescriptor "()I" = some ⟨[], some .int⟩ := by decide +kernel
theorem goStrLen (W : Wd Z a0) {idx : Nat} {x : Addr} {cs : List Int32} {rest : List Value} (Wk : Nat) (pc' : Nat) (hd : decode code pc = .ok (.invokevirtual idx, 3)) (hp : pc + 3 = pc') (w1 : (Jvm.Cond.methodLink own idx (⟨"java/lang/String", "length", "()I"⟩ : MethodName)).before a0 Z = true)
    (T : Str Z h x cs) (hst : S = .ref x :: rest) (hsz : L.size = ml) (hW : (rest.map fun v => v.category).sum ≤ Wk) (hfr : 2 ≤ R.frames) (hlo : Wk + 25 ≤ R.locals) (hk0 : k ≤ R.cells) (hn0 : n ≤ R.slots) (g : Go nw p l e R s m args below meth c code ml nm ret Z a0 EL own P vm h k n pc' L (.int (Int32.ofNat cs.length) :: rest)) : Go nw p l e R s m args below meth c code ml nm ret Z a0 EL own P vm h k n pc L S := by
  obtain ⟨z, Cz, hz0⟩ := W.2.1
  obtain ⟨b, kb, t1, t2, t3, t4, t5, t6⟩ := T
  refine Go.virtB (Q := fun v h' L => v = some (.int (Int32.ofNat cs.length)) ∧ L = [] ∧ h' = h) (dk := 0) (dn := 0) (rest := rest) Wk x [] pc' hd hp t1 w1 (W.1 87 rfl) (fun s hs => notFace_of_selects (args := #[]) (mvT hs (W.1 89 rfl))) (W.1 89 rfl) (W.1 88 rfl) (by decide)
    (fun hZ hE => StrChars.Road.lenW hZ (W.sub (by decide +kernel)) (W.1 5 rfl) t1 t3 t2 t4 (StrChars.Road.codOf rfl (fun c hc => (t6 c hc).2)) (up255 t6) (Cz.ext hE) hz0 t5 hfr hlo) pdI0 rfl hst hsz hW hk0 hn0
    (fun v h' L q => ⟨by rw [q.2.1]; exact Fr.nil _, [], by rw [q.2.2]; exact Keep.refl _ _, sf0, fun _ q => nomatch q⟩) (fun v h' L q ch => ?_)
  obtain ⟨rfl, rfl, rfl⟩ := q
  exact g
theorem pdIC : parseMethodDescriptor "(I)C" = some ⟨[.int], some .char⟩ := by decide +kernel
theorem goStrAt (W : Wd Z a0) {idx : Nat} {x : Addr} {cs : List Int32} {j : Int32} {rest : List Value} (Wk : Nat) (i : Nat) (y : Int32) (pc' : Nat) (hd : decode code pc = .ok (.invokevirtual idx, 3)) (hp : pc + 3 = pc') (w1 : (Jvm.Cond.methodLink own idx (⟨"java/lang/String", "charAt", "(I)C"⟩ : MethodName)).before a0 Z = true)
    (T : Str Z h x cs) (hi : i < cs.length) (hj : j = Int32.ofNat i) (hy : cs.getD i 0 = y) (hst : S = .int j :: .ref x :: rest) (hsz : L.size = ml) (hW : (rest.map fun v => v.category).sum ≤ Wk) (hfr : 4 ≤ R.frames) (hlo : Wk + 53 ≤ R.locals) (hk0 : k ≤ R.cells) (hn0 : n ≤ R.slots) (g : Go nw p l e R s m args below meth c code ml nm ret Z a0 EL own P vm h k n pc' L (.int y :: rest)) : Go nw p l e R s m args below meth c code ml nm ret Z a0 EL own P vm h k n pc L S := by
  obtain ⟨z, Cz, hz0⟩ := W.2.1
  obtain ⟨fm, Fz, hr0⟩ := W.2.2
  obtain ⟨b, kb, t1, t2, t3, t4, t5, t6⟩ := T
  refine Go.virtB (Q := fun v h' L => v = some (.int (cs.getD i 0)) ∧ L = [] ∧ h' = h) (dk := 0) (dn := 0) (rest := rest) Wk x [.int j] pc' hd hp t1 w1 (W.1 174 rfl) (fun s hs => notFace_of_selects (args := #[]) (mvT hs (W.1 176 rfl))) (W.1 176 rfl) (W.1 175 rfl) (by decide)
    (fun hZ hE => StrChars.Road.chN hZ (W.sub (by decide +kernel)) (W.1 5 rfl) t1 t3 t2 t4 (StrChars.Road.codOf rfl (fun c hc => (t6 c hc).2)) (up255 t6) (Cz.ext hE) hz0 (Fz.ext hE) hr0 t5 hi hj hfr hlo) pdIC rfl hst hsz hW hk0 hn0
    (fun v h' L q => ⟨by rw [q.2.1]; exact Fr.nil _, [], by rw [q.2.2]; exact Keep.refl _ _, sf0, fun _ q => nomatch q⟩) (fun v h' L q ch => ?_)
  obtain ⟨rfl, rfl, rfl⟩ := q
  subst hy
  exact g
end StrGo
end Jvm.Pilot.@@N@@
namespace Jvm.Pilot.@@N@@
open Jvm Jvm.ClassFile Sem Op Lib Jvm.Free Jvm.Stand Jvm.LawKit Jvm.RoadKit Bundle Jvm.Pilot.@@N@@.Jvm.D Jvm.Own

/-- a builder of 16 places that holds the chars cs -/
def Bld (Z : State) (h : Heap) (b d : Addr) (kd : ClassId) (cs : List Int32) : Prop :=
  Exa Z h b "java/lang/StringBuilder" ∧ Fld Z h b "java/lang/AbstractStringBuilder" "coder" "B" (.int 0) ∧ Fld Z h b "java/lang/AbstractStringBuilder" "value" "[B" (.ref d) ∧ Fld Z h b "java/lang/AbstractStringBuilder" "count" "I" (.int (Int32.ofNat cs.length)) ∧
  Arv Z h d kd .byte (16 : Int32) ((cs.map fun c => c.toInt8.toInt32).map Value.int) (.int 0) ∧ cs.length ≤ 16 ∧ ∀ c ∈ cs, ¬ c < 0 ∧ ¬ (255 : Int32) < c
theorem Bld.ext {Z : State} {h h' : Heap} {b d : Addr} {kd : ClassId} {cs : List Int32} (B : Bld Z h b d kd cs) (E : Ext h h') : Bld Z h' b d kd cs := by
  obtain ⟨b1, b2, b3, b4, b5, b6⟩ := B
  exact ⟨b1.ext E, b2.ext E, b3.ext E, b4.ext E, b5.ext E, b6⟩
theorem ens16 : ∀ n : Fin 17, ¬ 0 < Int32.ofNat n.val - ((16 : Int32) >>> ((0 : Int32) &&& 31)) := by decide +kernel
theorem ofNat_add' (a b : Nat) : Int32.ofNat a + Int32.ofNat b = Int32.ofNat (a + b) := (Int32.ofNat_add a b).symm
theorem clampN {n : Nat} (h : n < 2 ^ 31) : (Int32.ofNat n).toNatClampNeg = n := Int32.toNatClampNeg_ofNat_of_lt h
theorem app_get (ds cs : List Int32) (i : Nat) : (((ds ++ cs).map fun c => c.toInt8.toInt32).map Value.int).getD i (.int 0) = if ds.length ≤ i ∧ i < ds.length + cs.length then ((cs.map fun c => c.toInt8.toInt32).map Value.int).getD (0 + (i - ds.length)) (.int 0) else ((ds.map fun c => c.toInt8.toInt32).map Value.int).getD i (.int 0) := by
  simp only [List.getD_eq_getElem?_getD, List.map_append, Nat.zero_add]
  by_cases q : i < ds.length
  · rw [if_neg (by omega), List.getElem?_append_left (by simpa using q)]
  · rw [List.getElem?_append_right (by simpa using Nat.le_of_not_lt q)]
    by_cases r : i < ds.length + cs.length
    · rw [if_pos ⟨Nat.le_of_not_lt q, r⟩]; simp
    · rw [if_neg (fun z => r z.2), List.getElem?_eq_none (by simp; omega), List.getElem?_eq_none (by simp; omega)]
theorem strChars {Z : State} {h : Heap} {a : Addr} {cs : List Int32} (T : Str Z h a cs) : ∀ c ∈ cs, ¬ c < 0 ∧ ¬ (255 : Int32) < c := by obtain ⟨_, _, _, _, _, _, _, t6⟩ := T; exact t6
theorem shl0 (x : Int32) : x <<< ((0 : Int32) &&& 31) = x := by
  apply Int32.toBitVec_inj.mp
  simp

theorem notFaceC {args : Array Value} {s : State} {K : String} {x g : MethodName} (ws : (Jvm.Cond.selects K g g).before args s = true) (e : g.cls = x.cls) : NotFace s x := fun r0 h0 => by
  obtain ⟨c2, r2, m2, q1, q2, q3, q4, kP, hkP, hkPi⟩ := Cond.selects_spec ws
  have f1 := findClass_of_methodNamed h0
  have f2 := findClass_of_methodNamed q3
  rw [e] at f2
  have f3 : m2.cls = r0.cls := Option.some.inj (f2.symm.trans f1)
  exact ⟨kP, f3 ▸ hkP, hkPi⟩
theorem n16 : ∀ n : Fin 16, ¬ Int32.ofNat n.val < 0 ∧ Int32.ofNat n.val < 16 ∧ ¬ Int32.ofNat n.val = 16 := by decide +kernel
theorem cr_get {n_ : Nat} {vs : List Value} (hn : n_ < 16) : ∀ i, i < (Int32.ofNat n_).toNatClampNeg → vs.getD i (.int 0) = if 0 ≤ i ∧ i < 0 + n_ then vs.getD (0 + (i - 0)) (.int 0) else ([] : List Value).getD i (.int 0) := fun i hi => by
  rw [clampN (by omega)] at hi
  rw [if_pos ⟨Nat.zero_le _, by omega⟩]; simp

def mkV (l c0 c1 : Int32) : List Int32 := if l = 0 then [] else if l = 1 then [c0] else [c0, c1]
def txt (la lr a0 a1 r0 r1 : Int32) : List Int32 := (mkV la a0 a1 ++ [32, 111, 110, 32]) ++ mkV lr r0 r1
def expV (i la a0 a1 r0 r1 : Int32) : Int32 := if i < la then (if i = 0 then a0 else a1) else if i - la < 4 then (if i - la = 0 then 32 else if i - la = 1 then 111 else if i - la = 2 then 110 else 32) else if i - la - 4 = 0 then r0 else r1
theorem Ext.kp2 {h h1 h2 : Heap} {x y : Addr} (E : Ext h h1) (K : Keep h1 h2 [x, y]) (e : h.size ≤ x) (f : h.size ≤ y) : Ext h h2 := Ext.kp E K fun z hz => by
  simp only [List.mem_cons, List.not_mem_nil, or_false] at hz
  rcases hz with rfl | rfl
  · exact e
  · exact f
theorem and3 (y : Int32) : y &&& (3 : Int32) = 0 ∨ y &&& (3 : Int32) = 1 ∨ y &&& (3 : Int32) = 2 ∨ y &&& (3 : Int32) = 3 := by
  have h := c_mask y 3 2 (by decide) (by decide)
  have h3 : (y &&& 3).toInt = 0 ∨ (y &&& 3).toInt = 1 ∨ (y &&& 3).toInt = 2 ∨ (y &&& 3).toInt = 3 := by rw [h]; omega
  rcases h3 with h | h | h | h
  · exact Or.inl (Int32.toInt_inj.mp h)
  · exact Or.inr (Or.inl (Int32.toInt_inj.mp h))
  · exact Or.inr (Or.inr (Or.inl (Int32.toInt_inj.mp h)))
  · exact Or.inr (Or.inr (Or.inr (Int32.toInt_inj.mp h)))
theorem mod3 (y : Int32) : (y &&& (3 : Int32)) % (3 : Int32) = 0 ∨ (y &&& (3 : Int32)) % (3 : Int32) = 1 ∨ (y &&& (3 : Int32)) % (3 : Int32) = 2 := by
  rcases and3 y with h | h | h | h <;> rw [h] <;> decide
theorem lenT {la lr a0 a1 r0 r1 : Int32} (p : la = 0 ∨ la = 1 ∨ la = 2) (q : lr = 0 ∨ lr = 1 ∨ lr = 2) : (txt la lr a0 a1 r0 r1).length < 16 ∧ Int32.ofNat (txt la lr a0 a1 r0 r1).length = la + 4 + lr := by
  rcases p with rfl | rfl | rfl <;> rcases q with rfl | rfl | rfl <;> exact ⟨Nat.le_of_ble_eq_true rfl, rfl⟩
theorem getT {la lr a0 a1 r0 r1 : Int32} (p : la = 0 ∨ la = 1 ∨ la = 2) (q : lr = 0 ∨ lr = 1 ∨ lr = 2) (i : Nat) (hi : i < (txt la lr a0 a1 r0 r1).length) (h8 : i < 8) : (txt la lr a0 a1 r0 r1).getD i 0 = expV (Int32.ofNat i) la a0 a1 r0 r1 := by
  have : i = 0 ∨ i = 1 ∨ i = 2 ∨ i = 3 ∨ i = 4 ∨ i = 5 ∨ i = 6 ∨ i = 7 := by omega
  rcases p with rfl | rfl | rfl <;> rcases q with rfl | rfl | rfl <;> rcases this with rfl | rfl | rfl | rfl | rfl | rfl | rfl | rfl <;> first | rfl | (exfalso; simp [txt, mkV] at hi)
theorem mk3 {la c0 c1 : Int32} (h0 : ¬ c0 < 0 ∧ ¬ (255 : Int32) < c0) (h1 : ¬ c1 < 0 ∧ ¬ (255 : Int32) < c1) : (mkV la c0 c1).length ≤ 2 := by
  unfold mkV; split
  · simp
  · split <;> simp
theorem lit_ok_ : ((∀ c ∈ ("" : String).toList, c.toNat < 256) ∧ ("" : String).toList.map (fun c => Value.int (Jvm.Lit.byteI c.toNat.toUInt16)) = []) ∧ 4 * ("" : String).toList.length ≤ 0 := by decide +kernel
theorem lit_ok__20on_20 : ((∀ c ∈ (" on " : String).toList, c.toNat < 256) ∧ (" on " : String).toList.map (fun c => Value.int (Jvm.Lit.byteI c.toNat.toUInt16)) = [.int (32), .int (111), .int (110), .int (32)]) ∧ 4 * (" on " : String).toList.length ≤ 16 := by decide +kernel
theorem d_jdk_42_m149_0 : decode jdk_42_method_149_code 0 = .ok (.aload_n 0, 1) := by decide +kernel
theorem d_jdk_42_m149_1 : decode jdk_42_method_149_code 1 = .ok (.invokespecial 1, 3) := by decide +kernel
theorem d_jdk_42_m149_4 : decode jdk_42_method_149_code 4 = .ok (.iload_n 3, 1) := by decide +kernel
theorem d_jdk_42_m149_5 : decode jdk_42_method_149_code 5 = .ok (.ifCond .ne 22, 3) := by decide +kernel
theorem d_jdk_42_m149_8 : decode jdk_42_method_149_code 8 = .ok (.aload_n 0, 1) := by decide +kernel
theorem d_jdk_42_m149_9 : decode jdk_42_method_149_code 9 = .ok (.ldc 7, 2) := by decide +kernel
theorem d_jdk_42_m149_11 : decode jdk_42_method_149_code 11 = .ok (.getfield 9, 3) := by decide +kernel
theorem d_jdk_42_m149_14 : decode jdk_42_method_149_code 14 = .ok (.putfield 9, 3) := by decide +kernel
theorem d_jdk_42_m149_17 : decode jdk_42_method_149_code 17 = .ok (.aload_n 0, 1) := by decide +kernel
theorem d_jdk_42_m149_18 : decode jdk_42_method_149_code 18 = .ok (.ldc 7, 2) := by decide +kernel
theorem d_jdk_42_m149_20 : decode jdk_42_method_149_code 20 = .ok (.getfield 15, 3) := by decide +kernel
theorem d_jdk_42_m149_23 : decode jdk_42_method_149_code 23 = .ok (.putfield 15, 3) := by decide +kernel
theorem d_jdk_42_m149_26 : decode jdk_42_method_149_code 26 = .ok (.return_, 1) := by decide +kernel
theorem d_jdk_42_m149_27 : decode jdk_42_method_149_code 27 = .ok (.getstatic 38, 3) := by decide +kernel
theorem d_jdk_42_m149_30 : decode jdk_42_method_149_code 30 = .ok (.ifCond .eq 28, 3) := by decide +kernel
theorem d_jdk_42_m149_33 : decode jdk_42_method_149_code 33 = .ok (.aload_n 1, 1) := by decide +kernel
theorem d_jdk_42_m149_34 : decode jdk_42_method_149_code 34 = .ok (.iload_n 2, 1) := by decide +kernel
theorem d_jdk_42_m149_35 : decode jdk_42_method_149_code 35 = .ok (.iload_n 3, 1) := by decide +kernel
theorem d_jdk_42_m149_36 : decode jdk_42_method_149_code 36 = .ok (.invokestatic 177, 3) := by decide +kernel
theorem d_jdk_42_m149_39 : decode jdk_42_method_149_code 39 = .ok (.astore 5, 2) := by decide +kernel
theorem d_jdk_42_m149_41 : decode jdk_42_method_149_code 41 = .ok (.aload_n 0, 1) := by decide +kernel
theorem d_jdk_42_m149_42 : decode jdk_42_method_149_code 42 = .ok (.aload 5, 2) := by decide +kernel
theorem d_jdk_42_m149_44 : decode jdk_42_method_149_code 44 = .ok (.iload_n 3, 1) := by decide +kernel
theorem d_jdk_42_m149_45 : decode jdk_42_method_149_code 45 = .ok (.invokestatic 47, 3) := by decide +kernel
theorem d_jdk_42_m149_48 : decode jdk_42_method_149_code 48 = .ok (.putfield 15, 3) := by decide +kernel
theorem d_jdk_42_m149_51 : decode jdk_42_method_149_code 51 = .ok (.aload_n 0, 1) := by decide +kernel
theorem d_jdk_42_m149_52 : decode jdk_42_method_149_code 52 = .ok (.aload 5, 2) := by decide +kernel
theorem d_jdk_42_m149_54 : decode jdk_42_method_149_code 54 = .ok (.putfield 9, 3) := by decide +kernel
theorem d_jdk_42_m149_57 : decode jdk_42_method_149_code 57 = .ok (.return_, 1) := by decide +kernel
theorem d_jdk_42_m149_58 : decode jdk_42_method_149_code 58 = .ok (.aload_n 0, 1) := by decide +kernel
theorem d_jdk_42_m149_59 : decode jdk_42_method_149_code 59 = .ok (.iconst 1, 1) := by decide +kernel
theorem d_jdk_42_m149_60 : decode jdk_42_method_149_code 60 = .ok (.putfield 15, 3) := by decide +kernel
theorem d_jdk_42_m149_63 : decode jdk_42_method_149_code 63 = .ok (.aload_n 0, 1) := by decide +kernel
theorem d_jdk_42_m149_64 : decode jdk_42_method_149_code 64 = .ok (.aload_n 1, 1) := by decide +kernel
theorem d_jdk_42_m149_65 : decode jdk_42_method_149_code 65 = .ok (.iload_n 2, 1) := by decide +kernel
theorem d_jdk_42_m149_66 : decode jdk_42_method_149_code 66 = .ok (.iload_n 3, 1) := by decide +kernel
theorem d_jdk_42_m149_67 : decode jdk_42_method_149_code 67 = .ok (.invokestatic 180, 3) := by decide +kernel
theorem d_jdk_42_m149_70 : decode jdk_42_method_149_code 70 = .ok (.putfield 9, 3) := by decide +kernel
theorem d_jdk_42_m149_73 : decode jdk_42_method_149_code 73 = .ok (.return_, 1) := by decide +kernel
set_option maxRecDepth 65536 in
set_option maxHeartbeats 40000000 in
theorem cEmp4 {l : Launch} {Z : State} {a0 : Array Value} (W : Wd Z a0) {EL : List (String × Nat)} {vm : Vm} {h : Heap} {a b : Addr} {v0 c0 : Value} (hm : ("java/lang/String", 7) ∈ EL) (E : Exa Z h a "java/lang/String") (F1 : Fld Z h a "java/lang/String" "value" "[B" (v0)) (F2 : Fld Z h a "java/lang/String" "coder" "B" (c0)) (Sa : Safe Z EL vm h a) (hz : Z.heap.size ≤ a) :
    Ctr false l Z a0 EL (⟨"java/lang/String", "<init>", "([CIILjava/lang/Void;)V"⟩ : MethodName) jdk_42_method_149_code 6 none ({ frames := 1, cells := 4, slots := 8, locals := 12 } : Room) #[.ref a, .ref b, .int (0 : Int32), .int (0 : Int32), .null] vm h (fun v vm' h' => v = none ∧ Keep h h' [a] ∧ Str Z h' a []) := by
  refine Ctr.of_go (L0 := #[.val (.ref a), .val (.ref b), .val (.int (0 : Int32)), .val (.int (0 : Int32)), .val (.null), .unset]) (by first | exact plainFor_of_name (by first | (simp [plainName, overriddenIn]; done) | decide +kernel) | decide +kernel) (fun m => by first | (simp [entryFrame, mkF, argsToLocals, Value.category, maxLocals]; done) | rfl) (fun p e s m below meth c vmi chi => ?_)
  refine Go.aload_n 1 d_jdk_42_m149_0 rfl rfl rfl ?_
  refine Go.initObject 0 4 d_jdk_42_m149_1 rfl (W.1 15 rfl) (W.1 16 rfl) (W.1 17 rfl) rfl (nl rfl) (nl rfl) (nl rfl) ?_
  refine Go.iload_n 5 d_jdk_42_m149_4 rfl rfl ?_
  refine Go.ifne 27 8 d_jdk_42_m149_5 (by decide) rfl rfl (fun q1 => absurd rfl q1) (fun q1 => ?_)
  refine Go.aload_n 9 d_jdk_42_m149_8 rfl rfl rfl ?_
  refine Go.ldcS (text := "") (vs := []) (z := (0 : Int32)) 0 11 d_jdk_42_m149_9 rfl rfl (W.1 34 rfl) (W.sub (by decide +kernel)) hm lit_ok_.1 (by decide) (by decide) lit_ok_.2 (by decide) (nl rfl) (nl rfl) (fun y1 b2 k2 vm2 h2 E2 A2 C2 V2 B2 N2 c2 => ?_)
  have T2 : Str Z h2 y1 [] := ⟨b2, k2, A2, C2, V2, B2, by decide, by decide⟩
  refine Go.getfield 14 d_jdk_42_m149_11 rfl (W.1 32 rfl) V2 ?_
  have f3 := F1.ext E2
  have f4 := E.ext E2
  have f5 := CHr.safe (CHr.trans chi c2) E.lt Sa
  have L5 := Nat.lt_of_lt_of_le E.lt (CHr.trans chi c2).2.1
  refine Go.putfield 17 d_jdk_42_m149_14 rfl (W.1 32 rfl) f3 f4 (Or.inr ⟨(W.1 33 rfl), rfl, rfl⟩) (W.1 5 rfl) (ty := (.array .byte)) (by decide) rfl rfl f5 hz (fun h6 X6 S6 c6 => ?_)
  have Ea := f4.wr X6
  have G1 := f3.same X6
  have F2a := (F2.ext E2).other X6 (Or.inr (slot_ne (a0 := a0) (C := "java/lang/String") (Or.inr (W.1 31 rfl)) (Or.inr (W.1 33 rfl)) (by decide) (t := .byte) (t' := (.array .byte)) (by decide) (by decide)))
  have K1 := Arv.other B2 X6 (Ne.symm (N2 _ f5).2)
  have ba := (N2 _ f5).2
  refine Go.aload_n 18 d_jdk_42_m149_17 rfl rfl rfl ?_
  refine Go.ldcS (text := "") (vs := []) (z := (0 : Int32)) 0 20 d_jdk_42_m149_18 rfl rfl (W.1 34 rfl) (W.sub (by decide +kernel)) hm lit_ok_.1 (by decide) (by decide) lit_ok_.2 (by decide) (nl rfl) (nl rfl) (fun y2 b7 k7 vm7 h7 E7 A7 C7 V7 B7 N7 c7 => ?_)
  have T7 : Str Z h7 y2 [] := ⟨b7, k7, A7, C7, V7, B7, by decide, by decide⟩
  refine Go.getfield 23 d_jdk_42_m149_20 rfl (W.1 30 rfl) C7 ?_
  have f8 := CHr.safe c7 Ea.lt S6
  have L8 := Nat.lt_of_lt_of_le Ea.lt c7.2.1
  refine Go.putfield 26 d_jdk_42_m149_23 rfl (W.1 30 rfl) (F2a.ext E7) (Ea.ext E7) (Or.inr ⟨(W.1 31 rfl), rfl, rfl⟩) (W.1 5 rfl) (ty := .byte) (by decide) rfl rfl f8 hz (fun h9 X9 S9 c9 => ?_)
  exact Go.return_ d_jdk_42_m149_26 rfl (nl rfl) (nl rfl) (fun vm' ch => ⟨rfl, (((Keep.ofExt E2 [a]).wr X6 (Or.inl (by simp))).ext E7).wr X9 (Or.inl (by simp)), ⟨_, _, (Ea.ext E7).wr X9, (F2a.ext E7).same X9, (G1.ext E7).other X9 (Or.inr (slot_ne (a0 := a0) (C := "java/lang/String") (Or.inr (W.1 33 rfl)) (Or.inr (W.1 31 rfl)) (by decide) (t := (.array .byte)) (t' := .byte) (by decide) (by decide))), Arv.other (K1.ext E7) X9 (Ne.symm ba), by decide, fun _ q => nomatch q⟩⟩)
theorem d_jdk_42_m3_0 : decode jdk_42_method_3_code 0 = .ok (.aload_n 0, 1) := by decide +kernel
theorem d_jdk_42_m3_1 : decode jdk_42_method_3_code 1 = .ok (.aload_n 1, 1) := by decide +kernel
theorem d_jdk_42_m3_2 : decode jdk_42_method_3_code 2 = .ok (.iconst 0, 1) := by decide +kernel
theorem d_jdk_42_m3_3 : decode jdk_42_method_3_code 3 = .ok (.aload_n 1, 1) := by decide +kernel
theorem d_jdk_42_m3_4 : decode jdk_42_method_3_code 4 = .ok (.arraylength, 1) := by decide +kernel
theorem d_jdk_42_m3_5 : decode jdk_42_method_3_code 5 = .ok (.aconst_null, 1) := by decide +kernel
theorem d_jdk_42_m3_6 : decode jdk_42_method_3_code 6 = .ok (.invokespecial 27, 3) := by decide +kernel
theorem d_jdk_42_m3_9 : decode jdk_42_method_3_code 9 = .ok (.return_, 1) := by decide +kernel
set_option maxRecDepth 65536 in
set_option maxHeartbeats 40000000 in
theorem cEmp1 {l : Launch} {Z : State} {a0 : Array Value} (W : Wd Z a0) {EL : List (String × Nat)} {vm : Vm} {h : Heap} {a b : Addr} {v0 c0 dv : Value} {kC : ClassId} {vs : List Value} (hm : ("java/lang/String", 7) ∈ EL) (E : Exa Z h a "java/lang/String") (F1 : Fld Z h a "java/lang/String" "value" "[B" (v0)) (F2 : Fld Z h a "java/lang/String" "coder" "B" (c0)) (A : Arv Z h b kC .char (0 : Int32) vs dv) (Sa : Safe Z EL vm h a) (hz : Z.heap.size ≤ a) :
    Ctr false l Z a0 EL (⟨"java/lang/String", "<init>", "([C)V"⟩ : MethodName) jdk_42_method_3_code 2 none ({ frames := 2, cells := 4, slots := 8, locals := 29 } : Room) #[.ref a, .ref b] vm h (fun v vm' h' => v = none ∧ Keep h h' [a] ∧ Str Z h' a []) := by
  refine Ctr.of_go (L0 := #[.val (.ref a), .val (.ref b)]) (by first | exact plainFor_of_name (by first | (simp [plainName, overriddenIn]; done) | decide +kernel) | decide +kernel) (fun m => by first | (simp [entryFrame, mkF, argsToLocals, Value.category, maxLocals]; done) | rfl) (fun p e s m below meth c vmi chi => ?_)
  refine Go.aload_n 1 d_jdk_42_m3_0 rfl rfl rfl ?_
  refine Go.aload_n 2 d_jdk_42_m3_1 rfl rfl rfl ?_
  refine Go.iconst (0) 3 d_jdk_42_m3_2 rfl rfl ?_
  refine Go.aload_n 4 d_jdk_42_m3_3 rfl rfl rfl ?_
  refine Go.arraylength 5 d_jdk_42_m3_4 rfl A ?_
  refine Go.aconst_null 6 d_jdk_42_m3_5 rfl ?_
  refine Go.invokespecial (rest := []) 0 a [.ref b, .int (0 : Int32), .int (0 : Int32), .null] 9 d_jdk_42_m3_6 rfl rfl (W.1 11 rfl) (W.1 12 rfl) (W.1 6 rfl) (W.1 14 rfl) (by decide) (cEmp4 W hm E F1 F2 (chi.safe E.lt Sa) hz) (by decide +kernel : parseMethodDescriptor "([CIILjava/lang/Void;)V" = some ⟨[(.array .char), .int, .int, (.object "java/lang/Void")], none⟩) rfl rfl rfl (nl rfl) (nl rfl) (nl rfl) (nl rfl) (nl rfl) (fun v1 vm1 h1 ⟨rv, K, T⟩ c1 => ?_)
  subst rv
  exact Go.return_ d_jdk_42_m3_9 rfl (nl rfl) (nl rfl) (fun vm' ch => ⟨rfl, K, T⟩)
theorem d_jdk_68_m2_0 : decode jdk_68_method_2_code 0 = .ok (.aload_n 0, 1) := by decide +kernel
theorem d_jdk_68_m2_1 : decode jdk_68_method_2_code 1 = .ok (.invokespecial 3, 3) := by decide +kernel
theorem d_jdk_68_m2_4 : decode jdk_68_method_2_code 4 = .ok (.getstatic 18, 3) := by decide +kernel
theorem d_jdk_68_m2_7 : decode jdk_68_method_2_code 7 = .ok (.ifCond .eq 18, 3) := by decide +kernel
theorem d_jdk_68_m2_10 : decode jdk_68_method_2_code 10 = .ok (.aload_n 0, 1) := by decide +kernel
theorem d_jdk_68_m2_11 : decode jdk_68_method_2_code 11 = .ok (.iload_n 1, 1) := by decide +kernel
theorem d_jdk_68_m2_12 : decode jdk_68_method_2_code 12 = .ok (.newarray .byte, 2) := by decide +kernel
theorem d_jdk_68_m2_14 : decode jdk_68_method_2_code 14 = .ok (.putfield 15, 3) := by decide +kernel
theorem d_jdk_68_m2_17 : decode jdk_68_method_2_code 17 = .ok (.aload_n 0, 1) := by decide +kernel
theorem d_jdk_68_m2_18 : decode jdk_68_method_2_code 18 = .ok (.iconst 0, 1) := by decide +kernel
theorem d_jdk_68_m2_19 : decode jdk_68_method_2_code 19 = .ok (.putfield 22, 3) := by decide +kernel
theorem d_jdk_68_m2_22 : decode jdk_68_method_2_code 22 = .ok (.goto 16, 3) := by decide +kernel
theorem d_jdk_68_m2_25 : decode jdk_68_method_2_code 25 = .ok (.aload_n 0, 1) := by decide +kernel
theorem d_jdk_68_m2_26 : decode jdk_68_method_2_code 26 = .ok (.iload_n 1, 1) := by decide +kernel
theorem d_jdk_68_m2_27 : decode jdk_68_method_2_code 27 = .ok (.invokestatic 26, 3) := by decide +kernel
theorem d_jdk_68_m2_30 : decode jdk_68_method_2_code 30 = .ok (.putfield 15, 3) := by decide +kernel
theorem d_jdk_68_m2_33 : decode jdk_68_method_2_code 33 = .ok (.aload_n 0, 1) := by decide +kernel
theorem d_jdk_68_m2_34 : decode jdk_68_method_2_code 34 = .ok (.iconst 1, 1) := by decide +kernel
theorem d_jdk_68_m2_35 : decode jdk_68_method_2_code 35 = .ok (.putfield 22, 3) := by decide +kernel
theorem d_jdk_68_m2_38 : decode jdk_68_method_2_code 38 = .ok (.return_, 1) := by decide +kernel
set_option maxRecDepth 65536 in
set_option maxHeartbeats 40000000 in
theorem cSbA {l : Launch} {Z : State} {a0 : Array Value} (W : Wd Z a0) {EL : List (String × Nat)} {vm : Vm} {h : Heap} {b : Addr} {v0 c0 : Value} (E : Exa Z h b "java/lang/StringBuilder") (F1 : Fld Z h b "java/lang/AbstractStringBuilder" "value" "[B" (v0)) (F2 : Fld Z h b "java/lang/AbstractStringBuilder" "coder" "B" (c0)) (F3 : Fld Z h b "java/lang/AbstractStringBuilder" "count" "I" (.int 0)) (Sa : Safe Z EL vm h b) (hz : Z.heap.size ≤ b) :
    Ctr false l Z a0 EL (⟨"java/lang/AbstractStringBuilder", "<init>", "(I)V"⟩ : MethodName) jdk_68_method_2_code 2 none ({ frames := 1, cells := 1, slots := 16, locals := 12 } : Room) #[.ref b, .int (16 : Int32)] vm h (fun v vm' h' => v = none ∧ Keep h h' [b] ∧ ∃ d kd, Bld Z h' b d kd [] ∧ h.size ≤ d ∧ Safe Z EL vm' h' d) := by
  refine Ctr.of_go (L0 := #[.val (.ref b), .val (.int (16 : Int32))]) (by first | exact plainFor_of_name (by first | (simp [plainName, overriddenIn]; done) | decide +kernel) | decide +kernel) (fun m => by first | (simp [entryFrame, mkF, argsToLocals, Value.category, maxLocals]; done) | rfl) (fun p e s m below meth c vmi chi => ?_)
  refine Go.aload_n 1 d_jdk_68_m2_0 rfl rfl rfl ?_
  refine Go.initObject 0 4 d_jdk_68_m2_1 rfl (W.1 70 rfl) (W.1 16 rfl) (W.1 17 rfl) rfl (nl rfl) (nl rfl) (nl rfl) ?_
  refine Go.know fun hE1 _ _ => ?_
  obtain ⟨zc1, Cz1, hc1⟩ := W.2.1
  refine Go.getstatic 7 d_jdk_68_m2_4 rfl (W.1 71 rfl) (Cz1.ext hE1) ?_
  refine Go.ifeq 25 10 d_jdk_68_m2_7 (by decide) rfl rfl (fun q1 => absurd q1 hc1) (fun q1 => ?_)
  refine Go.aload_n 11 d_jdk_68_m2_10 rfl rfl rfl ?_
  refine Go.iload_n 12 d_jdk_68_m2_11 rfl rfl ?_
  refine Go.newarray (aty := .byte) (z := (16 : Int32)) 16 14 d_jdk_68_m2_12 rfl (W.1 23 rfl) (by decide) (by decide) (by decide) (nl rfl) (nl rfl) (fun d1 h2 e2 E2 ⟨k2, B2⟩ S2 z2 c2 => ?_)
  have f3 := F1.ext E2
  have f4 := E.ext E2
  have f5 := CHr.safe (CHr.trans chi c2) E.lt Sa
  have L5 := Nat.lt_of_lt_of_le E.lt (CHr.trans chi c2).2.1
  refine Go.putfield 17 d_jdk_68_m2_14 rfl (W.1 72 rfl) f3 f4 (Or.inl (W.1 73 rfl)) (W.1 59 rfl) (ty := (.array .byte)) (by decide) rfl rfl f5 hz (fun h6 X6 S6 c6 => ?_)
  have nd : d1 ≠ b := fun q => absurd (q ▸ e2 : b = h.size) (Nat.ne_of_lt E.lt)
  have Ea := f4.wr X6
  have G1 := f3.same X6
  have G2 := (F2.ext E2).other X6 (Or.inr (slot_ne (a0 := a0) (C := "java/lang/StringBuilder") (Or.inl (W.1 75 rfl)) (Or.inl (W.1 73 rfl)) (by decide) (t := .byte) (t' := (.array .byte)) (by decide) (by decide)))
  have G3 := (F3.ext E2).other X6 (Or.inr (slot_ne (a0 := a0) (C := "java/lang/StringBuilder") (Or.inl (W.1 97 rfl)) (Or.inl (W.1 73 rfl)) (by decide) (t := .int) (t' := (.array .byte)) (by decide) (by decide)))
  have A1 := Arv.other B2 X6 nd
  refine Go.aload_n 18 d_jdk_68_m2_17 rfl rfl rfl ?_
  refine Go.iconst (0) 19 d_jdk_68_m2_18 rfl rfl ?_
  refine Go.putfield 22 d_jdk_68_m2_19 rfl (W.1 74 rfl) G2 Ea (Or.inl (W.1 75 rfl)) (W.1 59 rfl) (ty := .byte) (by decide) rfl rfl S6 hz (fun h7 X7 S7 c7 => ?_)
  refine Go.goto 38 d_jdk_68_m2_22 (by decide) rfl ?_
  have A2 := Arv.other A1 X7 nd
  have f8 := CHr.safe (CHr.trans c6 c7) B2.lt S2
  have L8 := Nat.lt_of_lt_of_le B2.lt (CHr.trans c6 c7).2.1
  exact Go.return_ d_jdk_68_m2_38 rfl (nl rfl) (nl rfl) (fun vm' ch => ⟨rfl, ((Keep.ofExt E2 [b]).wr X6 (Or.inl (by simp))).wr X7 (Or.inl (by simp)), d1, k2, ⟨Ea.wr X7, G2.same X7, G1.other X7 (Or.inr (slot_ne (a0 := a0) (C := "java/lang/StringBuilder") (Or.inl (W.1 73 rfl)) (Or.inl (W.1 75 rfl)) (by decide) (t := (.array .byte)) (t' := .byte) (by decide) (by decide))), G3.other X7 (Or.inr (slot_ne (a0 := a0) (C := "java/lang/StringBuilder") (Or.inl (W.1 97 rfl)) (Or.inl (W.1 75 rfl)) (by decide) (t := .int) (t' := .byte) (by decide) (by decide))), A2, by decide, fun _ q => nomatch q⟩, Nat.le_of_eq e2.symm, ch.safe A2.lt f8⟩)
theorem d_jdk_67_m1_0 : decode jdk_67_method_1_code 0 = .ok (.aload_n 0, 1) := by decide +kernel
theorem d_jdk_67_m1_1 : decode jdk_67_method_1_code 1 = .ok (.bipush 16, 2) := by decide +kernel
theorem d_jdk_67_m1_3 : decode jdk_67_method_1_code 3 = .ok (.invokespecial 1, 3) := by decide +kernel
theorem d_jdk_67_m1_6 : decode jdk_67_method_1_code 6 = .ok (.return_, 1) := by decide +kernel
set_option maxRecDepth 65536 in
set_option maxHeartbeats 40000000 in
theorem cSb0 {l : Launch} {Z : State} {a0 : Array Value} (W : Wd Z a0) {EL : List (String × Nat)} {vm : Vm} {h : Heap} {b : Addr} {v0 c0 : Value} (E : Exa Z h b "java/lang/StringBuilder") (F1 : Fld Z h b "java/lang/AbstractStringBuilder" "value" "[B" (v0)) (F2 : Fld Z h b "java/lang/AbstractStringBuilder" "coder" "B" (c0)) (F3 : Fld Z h b "java/lang/AbstractStringBuilder" "count" "I" (.int 0)) (Sa : Safe Z EL vm h b) (hz : Z.heap.size ≤ b) :
    Ctr false l Z a0 EL (⟨"java/lang/StringBuilder", "<init>", "()V"⟩ : MethodName) jdk_67_method_1_code 1 none ({ frames := 2, cells := 1, slots := 16, locals := 25 } : Room) #[.ref b] vm h (fun v vm' h' => v = none ∧ Keep h h' [b] ∧ ∃ d kd, Bld Z h' b d kd [] ∧ h.size ≤ d ∧ Safe Z EL vm' h' d) := by
  refine Ctr.of_go (L0 := #[.val (.ref b)]) (by first | exact plainFor_of_name (by first | (simp [plainName, overriddenIn]; done) | decide +kernel) | decide +kernel) (fun m => by first | (simp [entryFrame, mkF, argsToLocals, Value.category, maxLocals]; done) | rfl) (fun p e s m below meth c vmi chi => ?_)
  refine Go.aload_n 1 d_jdk_67_m1_0 rfl rfl rfl ?_
  refine Go.bipush (16) 3 d_jdk_67_m1_1 rfl rfl ?_
  refine Go.invokespecial (rest := []) 0 b [.int (16 : Int32)] 6 d_jdk_67_m1_3 rfl rfl (W.1 64 rfl) (W.1 65 rfl) (W.1 68 rfl) (W.1 69 rfl) (by decide) (cSbA W E F1 F2 F3 (chi.safe E.lt Sa) hz) (by decide +kernel : parseMethodDescriptor "(I)V" = some ⟨[.int], none⟩) rfl rfl rfl (nl rfl) (nl rfl) (nl rfl) (nl rfl) (nl rfl) (fun v1 vm1 h1 ⟨rv, K, d, kd, B, hd, Sd⟩ c1 => ?_)
  subst rv
  exact Go.return_ d_jdk_67_m1_6 rfl (nl rfl) (nl rfl) (fun vm' ch => ⟨rfl, K, d, kd, B, hd, ch.safe B.2.2.2.2.1.lt Sd⟩)
theorem d_jdk_68_m9_0 : decode jdk_68_method_9_code 0 = .ok (.aload_n 0, 1) := by decide +kernel
theorem d_jdk_68_m9_1 : decode jdk_68_method_9_code 1 = .ok (.getfield 15, 3) := by decide +kernel
theorem d_jdk_68_m9_4 : decode jdk_68_method_9_code 4 = .ok (.arraylength, 1) := by decide +kernel
theorem d_jdk_68_m9_5 : decode jdk_68_method_9_code 5 = .ok (.aload_n 0, 1) := by decide +kernel
theorem d_jdk_68_m9_6 : decode jdk_68_method_9_code 6 = .ok (.getfield 22, 3) := by decide +kernel
theorem d_jdk_68_m9_9 : decode jdk_68_method_9_code 9 = .ok (.ishr, 1) := by decide +kernel
theorem d_jdk_68_m9_10 : decode jdk_68_method_9_code 10 = .ok (.istore_n 2, 1) := by decide +kernel
theorem d_jdk_68_m9_11 : decode jdk_68_method_9_code 11 = .ok (.iload_n 1, 1) := by decide +kernel
theorem d_jdk_68_m9_12 : decode jdk_68_method_9_code 12 = .ok (.iload_n 2, 1) := by decide +kernel
theorem d_jdk_68_m9_13 : decode jdk_68_method_9_code 13 = .ok (.isub, 1) := by decide +kernel
theorem d_jdk_68_m9_14 : decode jdk_68_method_9_code 14 = .ok (.ifCond .le 24, 3) := by decide +kernel
theorem d_jdk_68_m9_17 : decode jdk_68_method_9_code 17 = .ok (.aload_n 0, 1) := by decide +kernel
theorem d_jdk_68_m9_18 : decode jdk_68_method_9_code 18 = .ok (.aload_n 0, 1) := by decide +kernel
theorem d_jdk_68_m9_19 : decode jdk_68_method_9_code 19 = .ok (.getfield 15, 3) := by decide +kernel
theorem d_jdk_68_m9_22 : decode jdk_68_method_9_code 22 = .ok (.aload_n 0, 1) := by decide +kernel
theorem d_jdk_68_m9_23 : decode jdk_68_method_9_code 23 = .ok (.iload_n 1, 1) := by decide +kernel
theorem d_jdk_68_m9_24 : decode jdk_68_method_9_code 24 = .ok (.invokevirtual 104, 3) := by decide +kernel
theorem d_jdk_68_m9_27 : decode jdk_68_method_9_code 27 = .ok (.aload_n 0, 1) := by decide +kernel
theorem d_jdk_68_m9_28 : decode jdk_68_method_9_code 28 = .ok (.getfield 22, 3) := by decide +kernel
theorem d_jdk_68_m9_31 : decode jdk_68_method_9_code 31 = .ok (.ishl, 1) := by decide +kernel
theorem d_jdk_68_m9_32 : decode jdk_68_method_9_code 32 = .ok (.invokestatic 108, 3) := by decide +kernel
theorem d_jdk_68_m9_35 : decode jdk_68_method_9_code 35 = .ok (.putfield 15, 3) := by decide +kernel
theorem d_jdk_68_m9_38 : decode jdk_68_method_9_code 38 = .ok (.return_, 1) := by decide +kernel
set_option maxRecDepth 65536 in
set_option maxHeartbeats 40000000 in
theorem cEns {l : Launch} {Z : State} {a0 : Array Value} (W : Wd Z a0) {EL : List (String × Nat)} {vm : Vm} {h : Heap} {nw : Bool} {n_ : Nat} (hn : n_ < 17) {b d : Addr} {kd : ClassId} {ds : List Int32} (B : Bld Z h b d kd ds) :
    Ctr nw l Z a0 EL (⟨"java/lang/AbstractStringBuilder", "ensureCapacityInternal", "(I)V"⟩ : MethodName) jdk_68_method_9_code 3 none ({ frames := 0, cells := 0, slots := 0, locals := 0 } : Room) #[.ref b, .int (Int32.ofNat n_)] vm h (fun v vm' h' => v = none ∧ h' = h) := by
  refine Ctr.of_go (L0 := #[.val (.ref b), .val (.int (Int32.ofNat n_)), .unset]) (by first | exact plainFor_of_name (by first | (simp [plainName, overriddenIn]; done) | decide +kernel) | decide +kernel) (fun m => by first | (simp [entryFrame, mkF, argsToLocals, Value.category, maxLocals]; done) | rfl) (fun p e s m below meth c vmi chi => ?_)
  refine Go.aload_n 1 d_jdk_68_m9_0 rfl rfl rfl ?_
  refine Go.getfield 4 d_jdk_68_m9_1 rfl (W.1 72 rfl) B.2.2.1 ?_
  refine Go.arraylength 5 d_jdk_68_m9_4 rfl B.2.2.2.2.1 ?_
  refine Go.aload_n 6 d_jdk_68_m9_5 rfl rfl rfl ?_
  refine Go.getfield 9 d_jdk_68_m9_6 rfl (W.1 74 rfl) B.2.1 ?_
  refine Go.ishr ((16 : Int32) >>> ((0 : Int32) &&& 31)) 10 d_jdk_68_m9_9 rfl rfl ?_
  refine Go.istore_n #[.val (.ref b), .val (.int (Int32.ofNat n_)), .val (.int ((16 : Int32) >>> ((0 : Int32) &&& 31)))] 11 d_jdk_68_m9_10 rfl rfl ?_
  refine Go.iload_n 12 d_jdk_68_m9_11 rfl rfl ?_
  refine Go.iload_n 13 d_jdk_68_m9_12 rfl rfl ?_
  refine Go.isub ((Int32.ofNat n_) - ((16 : Int32) >>> ((0 : Int32) &&& 31))) 14 d_jdk_68_m9_13 rfl rfl ?_
  refine Go.ifle 38 17 d_jdk_68_m9_14 (by decide) rfl rfl (fun q1 => ?_) (fun q1 => absurd q1 (ens16 ⟨n_, hn⟩))
  exact Go.return_ d_jdk_68_m9_38 rfl (nl rfl) (nl rfl) (fun vm' ch => ⟨rfl, rfl⟩)
theorem d_jdk_42_m152_0 : decode jdk_42_method_152_code 0 = .ok (.getstatic 38, 3) := by decide +kernel
theorem d_jdk_42_m152_3 : decode jdk_42_method_152_code 3 = .ok (.ifCond .eq 10, 3) := by decide +kernel
theorem d_jdk_42_m152_6 : decode jdk_42_method_152_code 6 = .ok (.aload_n 0, 1) := by decide +kernel
theorem d_jdk_42_m152_7 : decode jdk_42_method_152_code 7 = .ok (.getfield 15, 3) := by decide +kernel
theorem d_jdk_42_m152_10 : decode jdk_42_method_152_code 10 = .ok (.goto 4, 3) := by decide +kernel
theorem d_jdk_42_m152_13 : decode jdk_42_method_152_code 13 = .ok (.iconst 1, 1) := by decide +kernel
theorem d_jdk_42_m152_14 : decode jdk_42_method_152_code 14 = .ok (.ireturn, 1) := by decide +kernel
set_option maxRecDepth 65536 in
set_option maxHeartbeats 40000000 in
theorem cCod {l : Launch} {Z : State} {a0 : Array Value} (W : Wd Z a0) {EL : List (String × Nat)} {vm : Vm} {h : Heap} {nw : Bool} {a : Addr} {cs : List Int32} (T : Str Z h a cs) :
    Ctr nw l Z a0 EL (⟨"java/lang/String", "coder", "()B"⟩ : MethodName) jdk_42_method_152_code 1 (some .byte) ({ frames := 0, cells := 0, slots := 0, locals := 0 } : Room) #[.ref a] vm h (fun v vm' h' => v = some (.int 0) ∧ h' = h) := by
  refine Ctr.of_go (L0 := #[.val (.ref a)]) (by first | exact plainFor_of_name (by first | (simp [plainName, overriddenIn]; done) | decide +kernel) | decide +kernel) (fun m => by first | (simp [entryFrame, mkF, argsToLocals, Value.category, maxLocals]; done) | rfl) (fun p e s m below meth c vmi chi => ?_)
  obtain ⟨b_, kb_, t1, t2, t3, t4, t5, t6⟩ := T
  refine Go.know fun hE1 _ _ => ?_
  obtain ⟨zc1, Cz1, hc1⟩ := W.2.1
  refine Go.getstatic 3 d_jdk_42_m152_0 rfl (W.1 18 rfl) (Cz1.ext hE1) ?_
  refine Go.ifeq 13 6 d_jdk_42_m152_3 (by decide) rfl rfl (fun q1 => absurd q1 hc1) (fun q1 => ?_)
  refine Go.aload_n 7 d_jdk_42_m152_6 rfl rfl rfl ?_
  refine Go.getfield 10 d_jdk_42_m152_7 rfl (W.1 30 rfl) t2 ?_
  refine Go.goto 14 d_jdk_42_m152_10 (by decide) rfl ?_
  exact Go.ireturn d_jdk_42_m152_14 rfl rfl (by simp) (nl rfl) (nl rfl) (fun vm' ch => ⟨rfl, rfl⟩)
theorem d_jdk_68_m71_0 : decode jdk_68_method_71_code 0 = .ok (.getstatic 18, 3) := by decide +kernel
theorem d_jdk_68_m71_3 : decode jdk_68_method_71_code 3 = .ok (.ifCond .eq 18, 3) := by decide +kernel
theorem d_jdk_68_m71_6 : decode jdk_68_method_71_code 6 = .ok (.aload_n 0, 1) := by decide +kernel
theorem d_jdk_68_m71_7 : decode jdk_68_method_71_code 7 = .ok (.getfield 22, 3) := by decide +kernel
theorem d_jdk_68_m71_10 : decode jdk_68_method_71_code 10 = .ok (.aload_n 1, 1) := by decide +kernel
theorem d_jdk_68_m71_11 : decode jdk_68_method_71_code 11 = .ok (.invokevirtual 40, 3) := by decide +kernel
theorem d_jdk_68_m71_14 : decode jdk_68_method_71_code 14 = .ok (.if_icmp .eq 7, 3) := by decide +kernel
theorem d_jdk_68_m71_17 : decode jdk_68_method_71_code 17 = .ok (.aload_n 0, 1) := by decide +kernel
theorem d_jdk_68_m71_18 : decode jdk_68_method_71_code 18 = .ok (.invokevirtual 195, 3) := by decide +kernel
theorem d_jdk_68_m71_21 : decode jdk_68_method_71_code 21 = .ok (.return_, 1) := by decide +kernel
set_option maxRecDepth 65536 in
set_option maxHeartbeats 40000000 in
theorem cInf {l : Launch} {Z : State} {a0 : Array Value} (W : Wd Z a0) {EL : List (String × Nat)} {vm : Vm} {h : Heap} {nw : Bool} {a : Addr} {cs : List Int32} (T : Str Z h a cs) {b d : Addr} {kd : ClassId} {ds : List Int32} (B : Bld Z h b d kd ds) :
    Ctr nw l Z a0 EL (⟨"java/lang/AbstractStringBuilder", "inflateIfNeededFor", "(Ljava/lang/String;)V"⟩ : MethodName) jdk_68_method_71_code 2 none ({ frames := 1, cells := 0, slots := 0, locals := 13 } : Room) #[.ref b, .ref a] vm h (fun v vm' h' => v = none ∧ h' = h) := by
  refine Ctr.of_go (L0 := #[.val (.ref b), .val (.ref a)]) (by first | exact plainFor_of_name (by first | (simp [plainName, overriddenIn]; done) | decide +kernel) | decide +kernel) (fun m => by first | (simp [entryFrame, mkF, argsToLocals, Value.category, maxLocals]; done) | rfl) (fun p e s m below meth c vmi chi => ?_)
  refine Go.know fun hE1 _ _ => ?_
  obtain ⟨zc1, Cz1, hc1⟩ := W.2.1
  refine Go.getstatic 3 d_jdk_68_m71_0 rfl (W.1 71 rfl) (Cz1.ext hE1) ?_
  refine Go.ifeq 21 6 d_jdk_68_m71_3 (by decide) rfl rfl (fun q1 => absurd q1 hc1) (fun q1 => ?_)
  refine Go.aload_n 7 d_jdk_68_m71_6 rfl rfl rfl ?_
  refine Go.getfield 10 d_jdk_68_m71_7 rfl (W.1 74 rfl) B.2.1 ?_
  refine Go.aload_n 11 d_jdk_68_m71_10 rfl rfl rfl ?_
  refine Go.invokevirtual (rest := [.int (0 : Int32)]) 1 a [] 14 d_jdk_68_m71_11 rfl T.exa (W.1 113 rfl) (W.1 92 rfl) (fun s hs => notFace_of_selects (args := #[]) (mvT hs (W.1 94 rfl))) (W.1 94 rfl) (W.1 93 rfl) (W.1 6 rfl) (W.1 95 rfl) (by decide) (cCod W T) (by decide +kernel : parseMethodDescriptor "()B" = some ⟨[], (some .byte)⟩) rfl rfl rfl (nl rfl) (nl rfl) (nl rfl) (nl rfl) (nl rfl) (fun v2 vm2 h2 ⟨rv, hh⟩ c2 => ?_)
  subst rv; replace hh := hh.symm; subst hh
  refine Go.if_icmpeq 21 17 d_jdk_68_m71_14 (by decide) rfl rfl (fun q3 => ?_) (fun q3 => absurd rfl q3)
  exact Go.return_ d_jdk_68_m71_21 rfl (nl rfl) (nl rfl) (fun vm' ch => ⟨rfl, rfl⟩)
theorem d_jdk_42_m147_0 : decode jdk_42_method_147_code 0 = .ok (.aload_n 0, 1) := by decide +kernel
theorem d_jdk_42_m147_1 : decode jdk_42_method_147_code 1 = .ok (.invokevirtual 335, 3) := by decide +kernel
theorem d_jdk_42_m147_4 : decode jdk_42_method_147_code 4 = .ok (.iload_n 3, 1) := by decide +kernel
theorem d_jdk_42_m147_5 : decode jdk_42_method_147_code 5 = .ok (.if_icmp .ne 23, 3) := by decide +kernel
theorem d_jdk_42_m147_8 : decode jdk_42_method_147_code 8 = .ok (.aload_n 0, 1) := by decide +kernel
theorem d_jdk_42_m147_9 : decode jdk_42_method_147_code 9 = .ok (.getfield 9, 3) := by decide +kernel
theorem d_jdk_42_m147_12 : decode jdk_42_method_147_code 12 = .ok (.iconst 0, 1) := by decide +kernel
theorem d_jdk_42_m147_13 : decode jdk_42_method_147_code 13 = .ok (.aload_n 1, 1) := by decide +kernel
theorem d_jdk_42_m147_14 : decode jdk_42_method_147_code 14 = .ok (.iload_n 2, 1) := by decide +kernel
theorem d_jdk_42_m147_15 : decode jdk_42_method_147_code 15 = .ok (.iload_n 3, 1) := by decide +kernel
theorem d_jdk_42_m147_16 : decode jdk_42_method_147_code 16 = .ok (.ishl, 1) := by decide +kernel
theorem d_jdk_42_m147_17 : decode jdk_42_method_147_code 17 = .ok (.aload_n 0, 1) := by decide +kernel
theorem d_jdk_42_m147_18 : decode jdk_42_method_147_code 18 = .ok (.getfield 9, 3) := by decide +kernel
theorem d_jdk_42_m147_21 : decode jdk_42_method_147_code 21 = .ok (.arraylength, 1) := by decide +kernel
theorem d_jdk_42_m147_22 : decode jdk_42_method_147_code 22 = .ok (.invokestatic 212, 3) := by decide +kernel
theorem d_jdk_42_m147_25 : decode jdk_42_method_147_code 25 = .ok (.goto 18, 3) := by decide +kernel
theorem d_jdk_42_m147_28 : decode jdk_42_method_147_code 28 = .ok (.aload_n 0, 1) := by decide +kernel
theorem d_jdk_42_m147_29 : decode jdk_42_method_147_code 29 = .ok (.getfield 9, 3) := by decide +kernel
theorem d_jdk_42_m147_32 : decode jdk_42_method_147_code 32 = .ok (.iconst 0, 1) := by decide +kernel
theorem d_jdk_42_m147_33 : decode jdk_42_method_147_code 33 = .ok (.aload_n 1, 1) := by decide +kernel
theorem d_jdk_42_m147_34 : decode jdk_42_method_147_code 34 = .ok (.iload_n 2, 1) := by decide +kernel
theorem d_jdk_42_m147_35 : decode jdk_42_method_147_code 35 = .ok (.aload_n 0, 1) := by decide +kernel
theorem d_jdk_42_m147_36 : decode jdk_42_method_147_code 36 = .ok (.getfield 9, 3) := by decide +kernel
theorem d_jdk_42_m147_39 : decode jdk_42_method_147_code 39 = .ok (.arraylength, 1) := by decide +kernel
theorem d_jdk_42_m147_40 : decode jdk_42_method_147_code 40 = .ok (.invokestatic 106, 3) := by decide +kernel
theorem d_jdk_42_m147_43 : decode jdk_42_method_147_code 43 = .ok (.return_, 1) := by decide +kernel
set_option maxRecDepth 65536 in
set_option maxHeartbeats 40000000 in
theorem cGB {l : Launch} {Z : State} {a0 : Array Value} (W : Wd Z a0) {EL : List (String × Nat)} {vm : Vm} {h : Heap} {a d : Addr} {kd : ClassId} {ds cs : List Int32} (T : Str Z h a cs) (A : Arv Z h d kd .byte (16 : Int32) ((ds.map fun c => c.toInt8.toInt32).map Value.int) (.int 0)) (hl : ds.length + cs.length ≤ 16) (Sd : Safe Z EL vm h d) (hz : Z.heap.size ≤ d) :
    Ctr false l Z a0 EL (⟨"java/lang/String", "getBytes", "([BIB)V"⟩ : MethodName) jdk_42_method_147_code 4 none ({ frames := 1, cells := 0, slots := 0, locals := 18 } : Room) #[.ref a, .ref d, .int (Int32.ofNat ds.length), .int (0 : Int32)] vm h (fun v vm' h' => v = none ∧ Keep h h' [d] ∧ Arv Z h' d kd .byte (16 : Int32) (((ds ++ cs).map fun c => c.toInt8.toInt32).map Value.int) (.int 0)) := by
  refine Ctr.of_go (L0 := #[.val (.ref a), .val (.ref d), .val (.int (Int32.ofNat ds.length)), .val (.int (0 : Int32))]) (by first | exact plainFor_of_name (by first | (simp [plainName, overriddenIn]; done) | decide +kernel) | decide +kernel) (fun m => by first | (simp [entryFrame, mkF, argsToLocals, Value.category, maxLocals]; done) | rfl) (fun p e s m below meth c vmi chi => ?_)
  refine Go.aload_n 1 d_jdk_42_m147_0 rfl rfl rfl ?_
  refine Go.invokevirtual (rest := []) 0 a [] 4 d_jdk_42_m147_1 rfl T.exa (W.1 91 rfl) (W.1 92 rfl) (fun s hs => notFace_of_selects (args := #[]) (mvT hs (W.1 94 rfl))) (W.1 94 rfl) (W.1 93 rfl) (W.1 6 rfl) (W.1 95 rfl) (by decide) (cCod W T) (by decide +kernel : parseMethodDescriptor "()B" = some ⟨[], (some .byte)⟩) rfl rfl rfl (nl rfl) (nl rfl) (nl rfl) (nl rfl) (nl rfl) (fun v1 vm1 h1 ⟨rv, hh⟩ c1 => ?_)
  subst rv; replace hh := hh.symm; subst hh
  refine Go.iload_n 5 d_jdk_42_m147_4 rfl rfl ?_
  refine Go.if_icmpne 28 8 d_jdk_42_m147_5 (by decide) rfl rfl (fun q2 => absurd rfl q2) (fun q2 => ?_)
  refine Go.aload_n 9 d_jdk_42_m147_8 rfl rfl rfl ?_
  obtain ⟨b_, kb_, t1, t2, t3, t4, t5, t6⟩ := T
  refine Go.getfield 12 d_jdk_42_m147_9 rfl (W.1 32 rfl) t3 ?_
  refine Go.iconst (0) 13 d_jdk_42_m147_12 rfl rfl ?_
  refine Go.aload_n 14 d_jdk_42_m147_13 rfl rfl rfl ?_
  refine Go.iload_n 15 d_jdk_42_m147_14 rfl rfl ?_
  refine Go.iload_n 16 d_jdk_42_m147_15 rfl rfl ?_
  refine Go.ishl (Int32.ofNat ds.length) 17 d_jdk_42_m147_16 rfl (shl0 _) ?_
  refine Go.aload_n 18 d_jdk_42_m147_17 rfl rfl rfl ?_
  refine Go.getfield 21 d_jdk_42_m147_18 rfl (W.1 32 rfl) t3 ?_
  refine Go.arraylength 22 d_jdk_42_m147_21 rfl t4 ?_
  have f3 := CHr.safe (CHr.trans chi c1) A.lt Sd
  have L3 := Nat.lt_of_lt_of_le A.lt (CHr.trans chi c1).2.1
  refine Go.acopy 0 ds.length cs.length (((ds ++ cs).map fun c => c.toInt8.toInt32).map Value.int) 25 d_jdk_42_m147_22 rfl (W.1 119 rfl) (W.1 122 rfl) (W.1 120 rfl) (W.1 121 rfl) t4 A (by rw [clampN (by omega)]; omega) (by show _ ≤ 16; omega) (fun i _ => app_get ds cs i) rfl rfl (nl rfl) (nl rfl) f3 hz (fun h1 K A1 S1 c1 => ?_)
  refine Go.goto 43 d_jdk_42_m147_25 (by decide) rfl ?_
  exact Go.return_ d_jdk_42_m147_43 rfl (nl rfl) (nl rfl) (fun vm' ch => ⟨rfl, K, A1⟩)
theorem d_jdk_68_m73_0 : decode jdk_68_method_73_code 0 = .ok (.aload_n 0, 1) := by decide +kernel
theorem d_jdk_68_m73_1 : decode jdk_68_method_73_code 1 = .ok (.aload_n 2, 1) := by decide +kernel
theorem d_jdk_68_m73_2 : decode jdk_68_method_73_code 2 = .ok (.invokevirtual 397, 3) := by decide +kernel
theorem d_jdk_68_m73_5 : decode jdk_68_method_73_code 5 = .ok (.aload_n 2, 1) := by decide +kernel
theorem d_jdk_68_m73_6 : decode jdk_68_method_73_code 6 = .ok (.aload_n 0, 1) := by decide +kernel
theorem d_jdk_68_m73_7 : decode jdk_68_method_73_code 7 = .ok (.getfield 15, 3) := by decide +kernel
theorem d_jdk_68_m73_10 : decode jdk_68_method_73_code 10 = .ok (.iload_n 1, 1) := by decide +kernel
theorem d_jdk_68_m73_11 : decode jdk_68_method_73_code 11 = .ok (.aload_n 0, 1) := by decide +kernel
theorem d_jdk_68_m73_12 : decode jdk_68_method_73_code 12 = .ok (.getfield 22, 3) := by decide +kernel
theorem d_jdk_68_m73_15 : decode jdk_68_method_73_code 15 = .ok (.invokevirtual 399, 3) := by decide +kernel
theorem d_jdk_68_m73_18 : decode jdk_68_method_73_code 18 = .ok (.return_, 1) := by decide +kernel
set_option maxRecDepth 65536 in
set_option maxHeartbeats 40000000 in
theorem cPut {l : Launch} {Z : State} {a0 : Array Value} (W : Wd Z a0) {EL : List (String × Nat)} {vm : Vm} {h : Heap} {a : Addr} {cs : List Int32} (T : Str Z h a cs) {b d : Addr} {kd : ClassId} {ds : List Int32} (B : Bld Z h b d kd ds) (hl : ds.length + cs.length ≤ 16) (Sd : Safe Z EL vm h d) (hz : Z.heap.size ≤ d) :
    Ctr false l Z a0 EL (⟨"java/lang/AbstractStringBuilder", "putStringAt", "(ILjava/lang/String;)V"⟩ : MethodName) jdk_68_method_73_code 3 none ({ frames := 2, cells := 0, slots := 0, locals := 33 } : Room) #[.ref b, .int (Int32.ofNat ds.length), .ref a] vm h (fun v vm' h' => v = none ∧ Keep h h' [d] ∧ Arv Z h' d kd .byte (16 : Int32) (((ds ++ cs).map fun c => c.toInt8.toInt32).map Value.int) (.int 0)) := by
  refine Ctr.of_go (L0 := #[.val (.ref b), .val (.int (Int32.ofNat ds.length)), .val (.ref a)]) (by first | exact plainFor_of_name (by first | (simp [plainName, overriddenIn]; done) | decide +kernel) | decide +kernel) (fun m => by first | (simp [entryFrame, mkF, argsToLocals, Value.category, maxLocals]; done) | rfl) (fun p e s m below meth c vmi chi => ?_)
  refine Go.aload_n 1 d_jdk_68_m73_0 rfl rfl rfl ?_
  refine Go.aload_n 2 d_jdk_68_m73_1 rfl rfl rfl ?_
  refine Go.invokevirtual (rest := []) 0 b [.ref a] 5 d_jdk_68_m73_2 rfl B.1 (W.1 108 rfl) (declares_of (W.1 109 rfl) (W.1 112 rfl)) (fun s hs => notFace_of_selects (args := #[]) (mvT hs (W.1 111 rfl))) (W.1 111 rfl) (W.1 109 rfl) (W.1 68 rfl) (W.1 112 rfl) (by decide) (cInf W T B) (by decide +kernel : parseMethodDescriptor "(Ljava/lang/String;)V" = some ⟨[(.object "java/lang/String")], none⟩) rfl rfl rfl (nl rfl) (nl rfl) (nl rfl) (nl rfl) (nl rfl) (fun v1 vm1 h1 ⟨rv, hh⟩ c1 => ?_)
  subst rv; replace hh := hh.symm; subst hh
  refine Go.aload_n 6 d_jdk_68_m73_5 rfl rfl rfl ?_
  refine Go.aload_n 7 d_jdk_68_m73_6 rfl rfl rfl ?_
  refine Go.getfield 10 d_jdk_68_m73_7 rfl (W.1 72 rfl) B.2.2.1 ?_
  refine Go.iload_n 11 d_jdk_68_m73_10 rfl rfl ?_
  refine Go.aload_n 12 d_jdk_68_m73_11 rfl rfl rfl ?_
  refine Go.getfield 15 d_jdk_68_m73_12 rfl (W.1 74 rfl) B.2.1 ?_
  have f2 := CHr.safe (CHr.trans chi c1) B.2.2.2.2.1.lt Sd
  have L2 := Nat.lt_of_lt_of_le B.2.2.2.2.1.lt (CHr.trans chi c1).2.1
  refine Go.invokevirtual (rest := []) 0 a [.ref d, .int (Int32.ofNat ds.length), .int (0 : Int32)] 18 d_jdk_68_m73_15 rfl T.exa (W.1 114 rfl) (W.1 115 rfl) (fun s hs => notFace_of_selects (args := #[]) (mvT hs (W.1 117 rfl))) (W.1 117 rfl) (W.1 116 rfl) (W.1 6 rfl) (W.1 118 rfl) (by decide) (cGB W T B.2.2.2.2.1 hl f2 hz) (by decide +kernel : parseMethodDescriptor "([BIB)V" = some ⟨[(.array .byte), .int, .byte], none⟩) rfl rfl rfl (nl rfl) (nl rfl) (nl rfl) (nl rfl) (nl rfl) (fun v3 vm3 h3 ⟨rv, K, A⟩ c3 => ?_)
  subst rv
  exact Go.return_ d_jdk_68_m73_18 rfl (nl rfl) (nl rfl) (fun vm' ch => ⟨rfl, K, A⟩)
theorem d_jdk_68_m22_0 : decode jdk_68_method_22_code 0 = .ok (.aload_n 1, 1) := by decide +kernel
theorem d_jdk_68_m22_1 : decode jdk_68_method_22_code 1 = .ok (.ifnonnull 8, 3) := by decide +kernel
theorem d_jdk_68_m22_4 : decode jdk_68_method_22_code 4 = .ok (.aload_n 0, 1) := by decide +kernel
theorem d_jdk_68_m22_5 : decode jdk_68_method_22_code 5 = .ok (.invokevirtual 204, 3) := by decide +kernel
theorem d_jdk_68_m22_8 : decode jdk_68_method_22_code 8 = .ok (.areturn, 1) := by decide +kernel
theorem d_jdk_68_m22_9 : decode jdk_68_method_22_code 9 = .ok (.aload_n 1, 1) := by decide +kernel
theorem d_jdk_68_m22_10 : decode jdk_68_method_22_code 10 = .ok (.invokevirtual 32, 3) := by decide +kernel
theorem d_jdk_68_m22_13 : decode jdk_68_method_22_code 13 = .ok (.istore_n 2, 1) := by decide +kernel
theorem d_jdk_68_m22_14 : decode jdk_68_method_22_code 14 = .ok (.aload_n 0, 1) := by decide +kernel
theorem d_jdk_68_m22_15 : decode jdk_68_method_22_code 15 = .ok (.aload_n 0, 1) := by decide +kernel
theorem d_jdk_68_m22_16 : decode jdk_68_method_22_code 16 = .ok (.getfield 79, 3) := by decide +kernel
theorem d_jdk_68_m22_19 : decode jdk_68_method_22_code 19 = .ok (.iload_n 2, 1) := by decide +kernel
theorem d_jdk_68_m22_20 : decode jdk_68_method_22_code 20 = .ok (.iadd, 1) := by decide +kernel
theorem d_jdk_68_m22_21 : decode jdk_68_method_22_code 21 = .ok (.invokevirtual 100, 3) := by decide +kernel
theorem d_jdk_68_m22_24 : decode jdk_68_method_22_code 24 = .ok (.aload_n 0, 1) := by decide +kernel
theorem d_jdk_68_m22_25 : decode jdk_68_method_22_code 25 = .ok (.aload_n 0, 1) := by decide +kernel
theorem d_jdk_68_m22_26 : decode jdk_68_method_22_code 26 = .ok (.getfield 79, 3) := by decide +kernel
theorem d_jdk_68_m22_29 : decode jdk_68_method_22_code 29 = .ok (.aload_n 1, 1) := by decide +kernel
theorem d_jdk_68_m22_30 : decode jdk_68_method_22_code 30 = .ok (.invokevirtual 208, 3) := by decide +kernel
theorem d_jdk_68_m22_33 : decode jdk_68_method_22_code 33 = .ok (.aload_n 0, 1) := by decide +kernel
theorem d_jdk_68_m22_34 : decode jdk_68_method_22_code 34 = .ok (.dup, 1) := by decide +kernel
theorem d_jdk_68_m22_35 : decode jdk_68_method_22_code 35 = .ok (.getfield 79, 3) := by decide +kernel
theorem d_jdk_68_m22_38 : decode jdk_68_method_22_code 38 = .ok (.iload_n 2, 1) := by decide +kernel
theorem d_jdk_68_m22_39 : decode jdk_68_method_22_code 39 = .ok (.iadd, 1) := by decide +kernel
theorem d_jdk_68_m22_40 : decode jdk_68_method_22_code 40 = .ok (.putfield 79, 3) := by decide +kernel
theorem d_jdk_68_m22_43 : decode jdk_68_method_22_code 43 = .ok (.aload_n 0, 1) := by decide +kernel
theorem d_jdk_68_m22_44 : decode jdk_68_method_22_code 44 = .ok (.areturn, 1) := by decide +kernel
set_option maxRecDepth 65536 in
set_option maxHeartbeats 40000000 in
theorem cApp {l : Launch} {Z : State} {a0 : Array Value} (W : Wd Z a0) {EL : List (String × Nat)} {vm : Vm} {h : Heap} {a : Addr} {cs : List Int32} (T : Str Z h a cs) {b d : Addr} {kd : ClassId} {ds : List Int32} (B : Bld Z h b d kd ds) (hl : ds.length + cs.length ≤ 16) (Sb : Safe Z EL vm h b) (zb : Z.heap.size ≤ b) (Sd : Safe Z EL vm h d) (hz : Z.heap.size ≤ d) (nd : d ≠ b) :
    Ctr false l Z a0 EL (⟨"java/lang/AbstractStringBuilder", "append", "(Ljava/lang/String;)Ljava/lang/AbstractStringBuilder;"⟩ : MethodName) jdk_68_method_22_code 3 (some (.object "java/lang/AbstractStringBuilder")) ({ frames := 3, cells := 0, slots := 0, locals := 47 } : Room) #[.ref b, .ref a] vm h (fun v vm' h' => v = some (.ref b) ∧ Keep h h' [b, d] ∧ Bld Z h' b d kd (ds ++ cs)) := by
  refine Ctr.of_go (L0 := #[.val (.ref b), .val (.ref a), .unset]) (by first | exact plainFor_of_name (by first | (simp [plainName, overriddenIn]; done) | decide +kernel) | decide +kernel) (fun m => by first | (simp [entryFrame, mkF, argsToLocals, Value.category, maxLocals]; done) | rfl) (fun p e s m below meth c vmi chi => ?_)
  refine Go.aload_n 1 d_jdk_68_m22_0 rfl rfl rfl ?_
  refine Go.ifnonnull_y 9 d_jdk_68_m22_1 (by decide) rfl ?_
  refine Go.aload_n 10 d_jdk_68_m22_9 rfl rfl rfl ?_
  refine goStrLen W 0 13 d_jdk_68_m22_10 rfl (W.1 86 rfl) T rfl rfl (nl rfl) (nl rfl) (nl rfl) (nl rfl) (nl rfl) ?_
  refine Go.istore_n #[.val (.ref b), .val (.ref a), .val (.int (Int32.ofNat cs.length))] 14 d_jdk_68_m22_13 rfl rfl ?_
  refine Go.aload_n 15 d_jdk_68_m22_14 rfl rfl rfl ?_
  refine Go.aload_n 16 d_jdk_68_m22_15 rfl rfl rfl ?_
  refine Go.getfield 19 d_jdk_68_m22_16 rfl (W.1 96 rfl) B.2.2.2.1 ?_
  refine Go.iload_n 20 d_jdk_68_m22_19 rfl rfl ?_
  refine Go.iadd (Int32.ofNat (ds.length + cs.length)) 21 d_jdk_68_m22_20 rfl (ofNat_add' _ _) ?_
  refine Go.invokevirtual (rest := []) 0 b [.int (Int32.ofNat (ds.length + cs.length))] 24 d_jdk_68_m22_21 rfl B.1 (W.1 98 rfl) (declares_of (W.1 99 rfl) (W.1 102 rfl)) (fun s hs => notFace_of_selects (args := #[]) (mvT hs (W.1 101 rfl))) (W.1 101 rfl) (W.1 99 rfl) (W.1 68 rfl) (W.1 102 rfl) (by decide) (cEns W (n_ := ds.length + cs.length) (by omega) B) (by decide +kernel : parseMethodDescriptor "(I)V" = some ⟨[.int], none⟩) rfl rfl rfl (nl rfl) (nl rfl) (nl rfl) (nl rfl) (nl rfl) (fun v1 vm1 h1 ⟨rv, hh⟩ c1 => ?_)
  subst rv; replace hh := hh.symm; subst hh
  refine Go.aload_n 25 d_jdk_68_m22_24 rfl rfl rfl ?_
  refine Go.aload_n 26 d_jdk_68_m22_25 rfl rfl rfl ?_
  refine Go.getfield 29 d_jdk_68_m22_26 rfl (W.1 96 rfl) B.2.2.2.1 ?_
  refine Go.aload_n 30 d_jdk_68_m22_29 rfl rfl rfl ?_
  have f2 := CHr.safe (CHr.trans chi c1) B.2.2.2.2.1.lt Sd
  have L2 := Nat.lt_of_lt_of_le B.2.2.2.2.1.lt (CHr.trans chi c1).2.1
  refine Go.invokevirtual (rest := []) 0 b [.int (Int32.ofNat ds.length), .ref a] 33 d_jdk_68_m22_30 rfl B.1 (W.1 103 rfl) (declares_of (W.1 104 rfl) (W.1 107 rfl)) (fun s hs => notFace_of_selects (args := #[]) (mvT hs (W.1 106 rfl))) (W.1 106 rfl) (W.1 104 rfl) (W.1 68 rfl) (W.1 107 rfl) (by decide) (cPut W T B hl f2 hz) (by decide +kernel : parseMethodDescriptor "(ILjava/lang/String;)V" = some ⟨[.int, (.object "java/lang/String")], none⟩) rfl rfl rfl (nl rfl) (nl rfl) (nl rfl) (nl rfl) (nl rfl) (fun v3 vm3 h3 ⟨rv, K, A⟩ c3 => ?_)
  subst rv
  refine Go.aload_n 34 d_jdk_68_m22_33 rfl rfl rfl ?_
  refine Go.dup 35 d_jdk_68_m22_34 rfl rfl ?_
  have nb : b ∉ [d] := fun q => nd (List.mem_singleton.mp q).symm
  have b1 := B.1.keep K
  have b2 := B.2.1.keep K nb
  have b3 := B.2.2.1.keep K nb
  have b4 := B.2.2.2.1.keep K nb
  refine Go.getfield 38 d_jdk_68_m22_35 rfl (W.1 96 rfl) b4 ?_
  refine Go.iload_n 39 d_jdk_68_m22_38 rfl rfl ?_
  refine Go.iadd (Int32.ofNat (ds.length + cs.length)) 40 d_jdk_68_m22_39 rfl (ofNat_add' _ _) ?_
  have f4 := CHr.safe (CHr.trans chi (CHr.trans c1 c3)) B.1.lt Sb
  have L4 := Nat.lt_of_lt_of_le B.1.lt (CHr.trans chi (CHr.trans c1 c3)).2.1
  refine Go.putfield 43 d_jdk_68_m22_40 rfl (W.1 96 rfl) b4 b1 (Or.inl (W.1 97 rfl)) (W.1 59 rfl) (ty := .int) (by decide) rfl rfl f4 zb (fun h5 X5 S5 c5 => ?_)
  refine Go.aload_n 44 d_jdk_68_m22_43 rfl rfl rfl ?_
  have len : (ds ++ cs).length = ds.length + cs.length := List.length_append
  exact Go.areturn d_jdk_68_m22_44 rfl rfl rfl (nl rfl) (nl rfl) (fun vm' ch => ⟨rfl, ((Keep.refl h [b, d]).trans K (fun x q => Or.inl (by cases List.mem_singleton.mp q; simp))).wr X5 (Or.inl (by simp)), b1.wr X5, b2.other X5 (Or.inr (slot_ne (a0 := a0) (C := "java/lang/StringBuilder") (Or.inl (W.1 75 rfl)) (Or.inl (W.1 97 rfl)) (by decide) (t := .byte) (t' := .int) (by decide) (by decide))), b3.other X5 (Or.inr (slot_ne (a0 := a0) (C := "java/lang/StringBuilder") (Or.inl (W.1 73 rfl)) (Or.inl (W.1 97 rfl)) (by decide) (t := (.array .byte)) (t' := .int) (by decide) (by decide))), by rw [len]; exact b4.same X5, Arv.other A X5 nd, by rw [len]; exact hl, fun c hc => (List.mem_append.mp hc).elim (B.2.2.2.2.2.2 c) (strChars T c)⟩)
theorem d_jdk_67_m7_0 : decode jdk_67_method_7_code 0 = .ok (.aload_n 0, 1) := by decide +kernel
theorem d_jdk_67_m7_1 : decode jdk_67_method_7_code 1 = .ok (.aload_n 1, 1) := by decide +kernel
theorem d_jdk_67_m7_2 : decode jdk_67_method_7_code 2 = .ok (.invokespecial 29, 3) := by decide +kernel
theorem d_jdk_67_m7_5 : decode jdk_67_method_7_code 5 = .ok (.pop, 1) := by decide +kernel
theorem d_jdk_67_m7_6 : decode jdk_67_method_7_code 6 = .ok (.aload_n 0, 1) := by decide +kernel
theorem d_jdk_67_m7_7 : decode jdk_67_method_7_code 7 = .ok (.areturn, 1) := by decide +kernel
set_option maxRecDepth 65536 in
set_option maxHeartbeats 40000000 in
theorem cAppS {l : Launch} {Z : State} {a0 : Array Value} (W : Wd Z a0) {EL : List (String × Nat)} {vm : Vm} {h : Heap} {a : Addr} {cs : List Int32} (T : Str Z h a cs) {b d : Addr} {kd : ClassId} {ds : List Int32} (B : Bld Z h b d kd ds) (hl : ds.length + cs.length ≤ 16) (Sb : Safe Z EL vm h b) (zb : Z.heap.size ≤ b) (Sd : Safe Z EL vm h d) (hz : Z.heap.size ≤ d) (nd : d ≠ b) :
    Ctr false l Z a0 EL (⟨"java/lang/StringBuilder", "append", "(Ljava/lang/String;)Ljava/lang/StringBuilder;"⟩ : MethodName) jdk_67_method_7_code 2 (some (.object "java/lang/StringBuilder")) ({ frames := 4, cells := 0, slots := 0, locals := 61 } : Room) #[.ref b, .ref a] vm h (fun v vm' h' => v = some (.ref b) ∧ Keep h h' [b, d] ∧ Bld Z h' b d kd (ds ++ cs)) := by
  refine Ctr.of_go (L0 := #[.val (.ref b), .val (.ref a)]) (by first | exact plainFor_of_name (by first | (simp [plainName, overriddenIn]; done) | decide +kernel) | decide +kernel) (fun m => by first | (simp [entryFrame, mkF, argsToLocals, Value.category, maxLocals]; done) | rfl) (fun p e s m below meth c vmi chi => ?_)
  refine Go.aload_n 1 d_jdk_67_m7_0 rfl rfl rfl ?_
  refine Go.aload_n 2 d_jdk_67_m7_1 rfl rfl rfl ?_
  refine Go.super (rest := []) 0 b [.ref a] 5 d_jdk_67_m7_2 rfl (by decide) (W.1 81 rfl) (same_of (W.1 82 rfl) (W.1 139 rfl) rfl (by decide)) (W.1 82 rfl) (W.1 83 rfl) (W.1 68 rfl) (W.1 85 rfl) (Ins.of_exa B.1 (W.1 67 rfl)) (cApp W T B hl (chi.safe B.1.lt Sb) zb (chi.safe B.2.2.2.2.1.lt Sd) hz nd) (by decide +kernel : parseMethodDescriptor "(Ljava/lang/String;)Ljava/lang/AbstractStringBuilder;" = some ⟨[(.object "java/lang/String")], (some (.object "java/lang/AbstractStringBuilder"))⟩) rfl rfl rfl (nl rfl) (nl rfl) (nl rfl) (nl rfl) (nl rfl) (fun v1 vm1 h1 ⟨rv, K, B1⟩ c1 => ?_)
  subst rv
  refine Go.pop 6 d_jdk_67_m7_5 rfl rfl ?_
  refine Go.aload_n 7 d_jdk_67_m7_6 rfl rfl rfl ?_
  exact Go.areturn d_jdk_67_m7_7 rfl rfl rfl (nl rfl) (nl rfl) (fun vm' ch => ⟨rfl, K, B1⟩)
theorem d_jdk_68_m64_0 : decode jdk_68_method_64_code 0 = .ok (.aload_n 0, 1) := by decide +kernel
theorem d_jdk_68_m64_1 : decode jdk_68_method_64_code 1 = .ok (.getfield 15, 3) := by decide +kernel
theorem d_jdk_68_m64_4 : decode jdk_68_method_64_code 4 = .ok (.areturn, 1) := by decide +kernel
set_option maxRecDepth 65536 in
set_option maxHeartbeats 40000000 in
theorem cGV {l : Launch} {Z : State} {a0 : Array Value} (W : Wd Z a0) {EL : List (String × Nat)} {vm : Vm} {h : Heap} {nw : Bool} {b d : Addr} {kd : ClassId} {cs : List Int32} (B : Bld Z h b d kd cs) :
    Ctr nw l Z a0 EL (⟨"java/lang/AbstractStringBuilder", "getValue", "()[B"⟩ : MethodName) jdk_68_method_64_code 1 (some (.array .byte)) ({ frames := 0, cells := 0, slots := 0, locals := 0 } : Room) #[.ref b] vm h (fun v vm' h' => v = some (.ref d) ∧ h' = h) := by
  refine Ctr.of_go (L0 := #[.val (.ref b)]) (by first | exact plainFor_of_name (by first | (simp [plainName, overriddenIn]; done) | decide +kernel) | decide +kernel) (fun m => by first | (simp [entryFrame, mkF, argsToLocals, Value.category, maxLocals]; done) | rfl) (fun p e s m below meth c vmi chi => ?_)
  refine Go.aload_n 1 d_jdk_68_m64_0 rfl rfl rfl ?_
  refine Go.getfield 4 d_jdk_68_m64_1 rfl (W.1 72 rfl) B.2.2.1 ?_
  exact Go.areturn d_jdk_68_m64_4 rfl rfl rfl (nl rfl) (nl rfl) (fun vm' ch => ⟨rfl, rfl⟩)
theorem d_jdk_68_m6_0 : decode jdk_68_method_6_code 0 = .ok (.aload_n 0, 1) := by decide +kernel
theorem d_jdk_68_m6_1 : decode jdk_68_method_6_code 1 = .ok (.getfield 79, 3) := by decide +kernel
theorem d_jdk_68_m6_4 : decode jdk_68_method_6_code 4 = .ok (.ireturn, 1) := by decide +kernel
set_option maxRecDepth 65536 in
set_option maxHeartbeats 40000000 in
theorem cLn {l : Launch} {Z : State} {a0 : Array Value} (W : Wd Z a0) {EL : List (String × Nat)} {vm : Vm} {h : Heap} {nw : Bool} {b d : Addr} {kd : ClassId} {cs : List Int32} (B : Bld Z h b d kd cs) :
    Ctr nw l Z a0 EL (⟨"java/lang/AbstractStringBuilder", "length", "()I"⟩ : MethodName) jdk_68_method_6_code 1 (some .int) ({ frames := 0, cells := 0, slots := 0, locals := 0 } : Room) #[.ref b] vm h (fun v vm' h' => v = some (.int (Int32.ofNat cs.length)) ∧ h' = h) := by
  refine Ctr.of_go (L0 := #[.val (.ref b)]) (by first | exact plainFor_of_name (by first | (simp [plainName, overriddenIn]; done) | decide +kernel) | decide +kernel) (fun m => by first | (simp [entryFrame, mkF, argsToLocals, Value.category, maxLocals]; done) | rfl) (fun p e s m below meth c vmi chi => ?_)
  refine Go.aload_n 1 d_jdk_68_m6_0 rfl rfl rfl ?_
  refine Go.getfield 4 d_jdk_68_m6_1 rfl (W.1 96 rfl) B.2.2.2.1 ?_
  exact Go.ireturn d_jdk_68_m6_4 rfl rfl (by simp) (nl rfl) (nl rfl) (fun vm' ch => ⟨rfl, rfl⟩)
theorem d_jdk_67_m93_0 : decode jdk_67_method_93_code 0 = .ok (.aload_n 0, 1) := by decide +kernel
theorem d_jdk_67_m93_1 : decode jdk_67_method_93_code 1 = .ok (.invokespecial 343, 3) := by decide +kernel
theorem d_jdk_67_m93_4 : decode jdk_67_method_93_code 4 = .ok (.ireturn, 1) := by decide +kernel
set_option maxRecDepth 65536 in
set_option maxHeartbeats 40000000 in
theorem cLnS {l : Launch} {Z : State} {a0 : Array Value} (W : Wd Z a0) {EL : List (String × Nat)} {vm : Vm} {h : Heap} {nw : Bool} {b d : Addr} {kd : ClassId} {cs : List Int32} (B : Bld Z h b d kd cs) :
    Ctr nw l Z a0 EL (⟨"java/lang/StringBuilder", "length", "()I"⟩ : MethodName) jdk_67_method_93_code 1 (some .int) ({ frames := 1, cells := 0, slots := 0, locals := 12 } : Room) #[.ref b] vm h (fun v vm' h' => v = some (.int (Int32.ofNat cs.length)) ∧ h' = h) := by
  refine Ctr.of_go (L0 := #[.val (.ref b)]) (by first | exact plainFor_of_name (by first | (simp [plainName, overriddenIn]; done) | decide +kernel) | decide +kernel) (fun m => by first | (simp [entryFrame, mkF, argsToLocals, Value.category, maxLocals]; done) | rfl) (fun p e s m below meth c vmi chi => ?_)
  refine Go.aload_n 1 d_jdk_67_m93_0 rfl rfl rfl ?_
  refine Go.super (rest := []) 0 b [] 4 d_jdk_67_m93_1 rfl (by decide) (W.1 147 rfl) (same_of (W.1 143 rfl) (W.1 139 rfl) rfl (by decide)) (W.1 143 rfl) (W.1 83 rfl) (W.1 68 rfl) (W.1 148 rfl) (Ins.of_exa B.1 (W.1 67 rfl)) (cLn W B) (by decide +kernel : parseMethodDescriptor "()I" = some ⟨[], (some .int)⟩) rfl rfl rfl (nl rfl) (nl rfl) (nl rfl) (nl rfl) (nl rfl) (fun v1 vm1 h1 ⟨rv, hh⟩ c1 => ?_)
  subst rv; replace hh := hh.symm; subst hh
  exact Go.ireturn d_jdk_67_m93_4 rfl rfl (by simp) (nl rfl) (nl rfl) (fun vm' ch => ⟨rfl, rfl⟩)
theorem d_jdk_68_m68_0 : decode jdk_68_method_68_code 0 = .ok (.getstatic 18, 3) := by decide +kernel
theorem d_jdk_68_m68_3 : decode jdk_68_method_68_code 3 = .ok (.ifCond .eq 14, 3) := by decide +kernel
theorem d_jdk_68_m68_6 : decode jdk_68_method_68_code 6 = .ok (.aload_n 0, 1) := by decide +kernel
theorem d_jdk_68_m68_7 : decode jdk_68_method_68_code 7 = .ok (.getfield 22, 3) := by decide +kernel
theorem d_jdk_68_m68_10 : decode jdk_68_method_68_code 10 = .ok (.ifCond .ne 7, 3) := by decide +kernel
theorem d_jdk_68_m68_13 : decode jdk_68_method_68_code 13 = .ok (.iconst 1, 1) := by decide +kernel
theorem d_jdk_68_m68_14 : decode jdk_68_method_68_code 14 = .ok (.goto 4, 3) := by decide +kernel
theorem d_jdk_68_m68_17 : decode jdk_68_method_68_code 17 = .ok (.iconst 0, 1) := by decide +kernel
theorem d_jdk_68_m68_18 : decode jdk_68_method_68_code 18 = .ok (.ireturn, 1) := by decide +kernel
set_option maxRecDepth 65536 in
set_option maxHeartbeats 40000000 in
theorem cIsL {l : Launch} {Z : State} {a0 : Array Value} (W : Wd Z a0) {EL : List (String × Nat)} {vm : Vm} {h : Heap} {nw : Bool} {b d : Addr} {kd : ClassId} {cs : List Int32} (B : Bld Z h b d kd cs) :
    Ctr nw l Z a0 EL (⟨"java/lang/AbstractStringBuilder", "isLatin1", "()Z"⟩ : MethodName) jdk_68_method_68_code 1 (some .boolean) ({ frames := 0, cells := 0, slots := 0, locals := 0 } : Room) #[.ref b] vm h (fun v vm' h' => v = some (.int 1) ∧ h' = h) := by
  refine Ctr.of_go (L0 := #[.val (.ref b)]) (by first | exact plainFor_of_name (by first | (simp [plainName, overriddenIn]; done) | decide +kernel) | decide +kernel) (fun m => by first | (simp [entryFrame, mkF, argsToLocals, Value.category, maxLocals]; done) | rfl) (fun p e s m below meth c vmi chi => ?_)
  refine Go.know fun hE1 _ _ => ?_
  obtain ⟨zc1, Cz1, hc1⟩ := W.2.1
  refine Go.getstatic 3 d_jdk_68_m68_0 rfl (W.1 71 rfl) (Cz1.ext hE1) ?_
  refine Go.ifeq 17 6 d_jdk_68_m68_3 (by decide) rfl rfl (fun q1 => absurd q1 hc1) (fun q1 => ?_)
  refine Go.aload_n 7 d_jdk_68_m68_6 rfl rfl rfl ?_
  refine Go.getfield 10 d_jdk_68_m68_7 rfl (W.1 74 rfl) B.2.1 ?_
  refine Go.ifne 17 13 d_jdk_68_m68_10 (by decide) rfl rfl (fun q2 => absurd rfl q2) (fun q2 => ?_)
  refine Go.iconst (1) 14 d_jdk_68_m68_13 rfl rfl ?_
  refine Go.goto 18 d_jdk_68_m68_14 (by decide) rfl ?_
  exact Go.ireturn d_jdk_68_m68_18 rfl rfl (by simp) (nl rfl) (nl rfl) (fun vm' ch => ⟨rfl, rfl⟩)
theorem d_jdk_29_m69_0 : decode jdk_29_method_69_code 0 = .ok (.iload_n 0, 1) := by decide +kernel
theorem d_jdk_29_m69_1 : decode jdk_29_method_69_code 1 = .ok (.iload_n 1, 1) := by decide +kernel
theorem d_jdk_29_m69_2 : decode jdk_29_method_69_code 2 = .ok (.if_icmp .gt 7, 3) := by decide +kernel
theorem d_jdk_29_m69_5 : decode jdk_29_method_69_code 5 = .ok (.iload_n 0, 1) := by decide +kernel
theorem d_jdk_29_m69_6 : decode jdk_29_method_69_code 6 = .ok (.goto 4, 3) := by decide +kernel
theorem d_jdk_29_m69_9 : decode jdk_29_method_69_code 9 = .ok (.iload_n 1, 1) := by decide +kernel
theorem d_jdk_29_m69_10 : decode jdk_29_method_69_code 10 = .ok (.ireturn, 1) := by decide +kernel
set_option maxRecDepth 65536 in
set_option maxHeartbeats 40000000 in
theorem cMin {l : Launch} {Z : State} {a0 : Array Value} (W : Wd Z a0) {EL : List (String × Nat)} {vm : Vm} {h : Heap} {nw : Bool} {x y : Int32} (q : y < x) :
    Ctr nw l Z a0 EL (⟨"java/lang/Math", "min", "(II)I"⟩ : MethodName) jdk_29_method_69_code 2 (some .int) ({ frames := 0, cells := 0, slots := 0, locals := 0 } : Room) #[.int x, .int y] vm h (fun v vm' h' => v = some (.int y) ∧ h' = h) := by
  refine Ctr.of_go (L0 := #[.val (.int x), .val (.int y)]) (by first | exact plainFor_of_name (by first | (simp [plainName, overriddenIn]; done) | decide +kernel) | decide +kernel) (fun m => by first | (simp [entryFrame, mkF, argsToLocals, Value.category, maxLocals]; done) | rfl) (fun p e s m below meth c vmi chi => ?_)
  refine Go.iload_n 1 d_jdk_29_m69_0 rfl rfl ?_
  refine Go.iload_n 2 d_jdk_29_m69_1 rfl rfl ?_
  refine Go.if_icmpgt 9 5 d_jdk_29_m69_2 (by decide) rfl rfl (fun q9 => ?_) (fun q9 => absurd q q9)
  refine Go.iload_n 10 d_jdk_29_m69_9 rfl rfl ?_
  exact Go.ireturn d_jdk_29_m69_10 rfl rfl (by simp) (nl rfl) (nl rfl) (fun vm' ch => ⟨rfl, rfl⟩)
theorem d_jdk_65_m131_0 : decode jdk_65_method_131_code 0 = .ok (.iload_n 1, 1) := by decide +kernel
theorem d_jdk_65_m131_1 : decode jdk_65_method_131_code 1 = .ok (.iload_n 0, 1) := by decide +kernel
theorem d_jdk_65_m131_2 : decode jdk_65_method_131_code 2 = .ok (.if_icmp .ge 35, 3) := by decide +kernel
theorem d_jdk_65_m131_5 : decode jdk_65_method_131_code 5 = .ok (.new 43, 3) := by decide +kernel
theorem d_jdk_65_m131_8 : decode jdk_65_method_131_code 8 = .ok (.dup, 1) := by decide +kernel
theorem d_jdk_65_m131_9 : decode jdk_65_method_131_code 9 = .ok (.new 45, 3) := by decide +kernel
theorem d_jdk_65_m131_12 : decode jdk_65_method_131_code 12 = .ok (.dup, 1) := by decide +kernel
theorem d_jdk_65_m131_13 : decode jdk_65_method_131_code 13 = .ok (.invokespecial 47, 3) := by decide +kernel
theorem d_jdk_65_m131_16 : decode jdk_65_method_131_code 16 = .ok (.iload_n 0, 1) := by decide +kernel
theorem d_jdk_65_m131_17 : decode jdk_65_method_131_code 17 = .ok (.invokevirtual 54, 3) := by decide +kernel
theorem d_jdk_65_m131_20 : decode jdk_65_method_131_code 20 = .ok (.ldc_w 337, 3) := by decide +kernel
theorem d_jdk_65_m131_23 : decode jdk_65_method_131_code 23 = .ok (.invokevirtual 50, 3) := by decide +kernel
theorem d_jdk_65_m131_26 : decode jdk_65_method_131_code 26 = .ok (.iload_n 1, 1) := by decide +kernel
theorem d_jdk_65_m131_27 : decode jdk_65_method_131_code 27 = .ok (.invokevirtual 54, 3) := by decide +kernel
theorem d_jdk_65_m131_30 : decode jdk_65_method_131_code 30 = .ok (.invokevirtual 61, 3) := by decide +kernel
theorem d_jdk_65_m131_33 : decode jdk_65_method_131_code 33 = .ok (.invokespecial 65, 3) := by decide +kernel
theorem d_jdk_65_m131_36 : decode jdk_65_method_131_code 36 = .ok (.athrow, 1) := by decide +kernel
theorem d_jdk_65_m131_37 : decode jdk_65_method_131_code 37 = .ok (.return_, 1) := by decide +kernel
set_option maxRecDepth 65536 in
set_option maxHeartbeats 40000000 in
theorem cChk {l : Launch} {Z : State} {a0 : Array Value} (W : Wd Z a0) {EL : List (String × Nat)} {vm : Vm} {h : Heap} {nw : Bool} {x : Int32} (q : ¬ x < 0) :
    Ctr nw l Z a0 EL (⟨"java/util/Arrays", "checkLength", "(II)V"⟩ : MethodName) jdk_65_method_131_code 2 none ({ frames := 0, cells := 0, slots := 0, locals := 0 } : Room) #[.int (0 : Int32), .int x] vm h (fun v vm' h' => v = none ∧ h' = h) := by
  refine Ctr.of_go (L0 := #[.val (.int (0 : Int32)), .val (.int x)]) (by first | exact plainFor_of_name (by first | (simp [plainName, overriddenIn]; done) | decide +kernel) | decide +kernel) (fun m => by first | (simp [entryFrame, mkF, argsToLocals, Value.category, maxLocals]; done) | rfl) (fun p e s m below meth c vmi chi => ?_)
  refine Go.iload_n 1 d_jdk_65_m131_0 rfl rfl ?_
  refine Go.iload_n 2 d_jdk_65_m131_1 rfl rfl ?_
  refine Go.if_icmpge 37 5 d_jdk_65_m131_2 (by decide) rfl rfl (fun q9 => ?_) (fun q9 => absurd q9 q)
  exact Go.return_ d_jdk_65_m131_37 rfl (nl rfl) (nl rfl) (fun vm' ch => ⟨rfl, rfl⟩)
theorem d_jdk_65_m133_0 : decode jdk_65_method_133_code 0 = .ok (.iload_n 1, 1) := by decide +kernel
theorem d_jdk_65_m133_1 : decode jdk_65_method_133_code 1 = .ok (.iload_n 2, 1) := by decide +kernel
theorem d_jdk_65_m133_2 : decode jdk_65_method_133_code 2 = .ok (.invokestatic 343, 3) := by decide +kernel
theorem d_jdk_65_m133_5 : decode jdk_65_method_133_code 5 = .ok (.iload_n 2, 1) := by decide +kernel
theorem d_jdk_65_m133_6 : decode jdk_65_method_133_code 6 = .ok (.iload_n 1, 1) := by decide +kernel
theorem d_jdk_65_m133_7 : decode jdk_65_method_133_code 7 = .ok (.isub, 1) := by decide +kernel
theorem d_jdk_65_m133_8 : decode jdk_65_method_133_code 8 = .ok (.istore_n 3, 1) := by decide +kernel
theorem d_jdk_65_m133_9 : decode jdk_65_method_133_code 9 = .ok (.iload_n 3, 1) := by decide +kernel
theorem d_jdk_65_m133_10 : decode jdk_65_method_133_code 10 = .ok (.newarray .byte, 2) := by decide +kernel
theorem d_jdk_65_m133_12 : decode jdk_65_method_133_code 12 = .ok (.astore 4, 2) := by decide +kernel
theorem d_jdk_65_m133_14 : decode jdk_65_method_133_code 14 = .ok (.aload_n 0, 1) := by decide +kernel
theorem d_jdk_65_m133_15 : decode jdk_65_method_133_code 15 = .ok (.iload_n 1, 1) := by decide +kernel
theorem d_jdk_65_m133_16 : decode jdk_65_method_133_code 16 = .ok (.aload 4, 2) := by decide +kernel
theorem d_jdk_65_m133_18 : decode jdk_65_method_133_code 18 = .ok (.iconst 0, 1) := by decide +kernel
theorem d_jdk_65_m133_19 : decode jdk_65_method_133_code 19 = .ok (.aload_n 0, 1) := by decide +kernel
theorem d_jdk_65_m133_20 : decode jdk_65_method_133_code 20 = .ok (.arraylength, 1) := by decide +kernel
theorem d_jdk_65_m133_21 : decode jdk_65_method_133_code 21 = .ok (.iload_n 1, 1) := by decide +kernel
theorem d_jdk_65_m133_22 : decode jdk_65_method_133_code 22 = .ok (.isub, 1) := by decide +kernel
theorem d_jdk_65_m133_23 : decode jdk_65_method_133_code 23 = .ok (.iload_n 3, 1) := by decide +kernel
theorem d_jdk_65_m133_24 : decode jdk_65_method_133_code 24 = .ok (.invokestatic 304, 3) := by decide +kernel
theorem d_jdk_65_m133_27 : decode jdk_65_method_133_code 27 = .ok (.invokestatic 150, 3) := by decide +kernel
theorem d_jdk_65_m133_30 : decode jdk_65_method_133_code 30 = .ok (.aload 4, 2) := by decide +kernel
theorem d_jdk_65_m133_32 : decode jdk_65_method_133_code 32 = .ok (.areturn, 1) := by decide +kernel
set_option maxRecDepth 65536 in
set_option maxHeartbeats 40000000 in
theorem cCRB {l : Launch} {Z : State} {a0 : Array Value} (W : Wd Z a0) {EL : List (String × Nat)} {vm : Vm} {h : Heap} {d : Addr} {kd : ClassId} {n_ : Nat} {vs : List Value} (hn : n_ < 16) (A : Arv Z h d kd .byte (16 : Int32) vs (.int 0)) :
    Ctr false l Z a0 EL (⟨"java/util/Arrays", "copyOfRangeByte", "([BII)[B"⟩ : MethodName) jdk_65_method_133_code 5 (some (.array .byte)) ({ frames := 1, cells := 1, slots := 16, locals := 18 } : Room) #[.ref d, .int (0 : Int32), .int (Int32.ofNat n_)] vm h (fun v vm' h' => ∃ r kr, v = some (.ref r) ∧ Ext h h' ∧ Arv Z h' r kr .byte (Int32.ofNat n_) vs (.int 0) ∧ h.size ≤ r) := by
  refine Ctr.of_go (L0 := #[.val (.ref d), .val (.int (0 : Int32)), .val (.int (Int32.ofNat n_)), .unset, .unset]) (by first | exact plainFor_of_name (by first | (simp [plainName, overriddenIn]; done) | decide +kernel) | decide +kernel) (fun m => by first | (simp [entryFrame, mkF, argsToLocals, Value.category, maxLocals]; done) | rfl) (fun p e s m below meth c vmi chi => ?_)
  refine Go.iload_n 1 d_jdk_65_m133_0 rfl rfl ?_
  refine Go.iload_n 2 d_jdk_65_m133_1 rfl rfl ?_
  refine Go.invokestatic (rest := []) 0 [.int (0 : Int32), .int (Int32.ofNat n_)] 5 d_jdk_65_m133_2 rfl (W.1 161 rfl) (W.1 162 rfl) (W.1 156 rfl) (W.1 163 rfl) (by decide) (cChk W (n16 ⟨n_, hn⟩).1) (by decide +kernel : parseMethodDescriptor "(II)V" = some ⟨[.int, .int], none⟩) rfl rfl rfl (nl rfl) (nl rfl) (nl rfl) (nl rfl) (nl rfl) (fun v1 vm1 h1 ⟨rv, hh⟩ c1 => ?_)
  subst rv; replace hh := hh.symm; subst hh
  refine Go.iload_n 6 d_jdk_65_m133_5 rfl rfl ?_
  refine Go.iload_n 7 d_jdk_65_m133_6 rfl rfl ?_
  refine Go.isub (Int32.ofNat n_) 8 d_jdk_65_m133_7 rfl (Int32.sub_zero _) ?_
  refine Go.istore_n #[.val (.ref d), .val (.int (0 : Int32)), .val (.int (Int32.ofNat n_)), .val (.int (Int32.ofNat n_)), .unset] 9 d_jdk_65_m133_8 rfl rfl ?_
  refine Go.iload_n 10 d_jdk_65_m133_9 rfl rfl ?_
  refine Go.newarray (aty := .byte) (z := (Int32.ofNat n_)) 16 12 d_jdk_65_m133_10 rfl (W.1 23 rfl) (n16 ⟨n_, hn⟩).1 (by rw [clampN (by omega)]; omega) (by decide) (nl rfl) (nl rfl) (fun r1 h2 e2 E2 ⟨k2, B2⟩ S2 z2 c2 => ?_)
  refine Go.astore #[.val (.ref d), .val (.int (0 : Int32)), .val (.int (Int32.ofNat n_)), .val (.int (Int32.ofNat n_)), .val (.ref r1)] 14 d_jdk_65_m133_12 rfl rfl rfl ?_
  refine Go.aload_n 15 d_jdk_65_m133_14 rfl rfl rfl ?_
  refine Go.iload_n 16 d_jdk_65_m133_15 rfl rfl ?_
  refine Go.aload 18 d_jdk_65_m133_16 rfl rfl rfl ?_
  refine Go.iconst (0) 19 d_jdk_65_m133_18 rfl rfl ?_
  refine Go.aload_n 20 d_jdk_65_m133_19 rfl rfl rfl ?_
  have f3 := A.ext E2
  refine Go.arraylength 21 d_jdk_65_m133_20 rfl f3 ?_
  refine Go.iload_n 22 d_jdk_65_m133_21 rfl rfl ?_
  refine Go.isub (16 : Int32) 23 d_jdk_65_m133_22 rfl rfl ?_
  refine Go.iload_n 24 d_jdk_65_m133_23 rfl rfl ?_
  refine Go.invokestatic (rest := [.int (0 : Int32), .ref r1, .int (0 : Int32), .ref d]) 4 [.int (16 : Int32), .int (Int32.ofNat n_)] 27 d_jdk_65_m133_24 rfl (W.1 164 rfl) (W.1 165 rfl) (W.1 166 rfl) (W.1 167 rfl) (by decide) (cMin W (n16 ⟨n_, hn⟩).2.1) (by decide +kernel : parseMethodDescriptor "(II)I" = some ⟨[.int, .int], (some .int)⟩) rfl rfl rfl (nl rfl) (nl rfl) (nl rfl) (nl rfl) (nl rfl) (fun v4 vm4 h4 ⟨rv, hh⟩ c4 => ?_)
  subst rv; replace hh := hh.symm; subst hh
  have f5 := CHr.safe c4 B2.lt S2
  have L5 := Nat.lt_of_lt_of_le B2.lt c4.2.1
  refine Go.acopy 0 0 n_ vs 30 d_jdk_65_m133_27 rfl (W.1 168 rfl) (W.1 122 rfl) (W.1 120 rfl) (W.1 121 rfl) f3 B2 (by show _ ≤ 16; omega) (by rw [clampN (by omega)]; omega) (cr_get hn) rfl rfl (nl rfl) (nl rfl) f5 z2 (fun h1_ K A1 S1 c1_ => ?_)
  refine Go.aload 32 d_jdk_65_m133_30 rfl rfl rfl ?_
  exact Go.areturn d_jdk_65_m133_32 rfl rfl rfl (nl rfl) (nl rfl) (fun vm' ch => ⟨r1, k2, rfl, Ext.kp1 E2 K e2, A1, Nat.le_of_eq e2.symm⟩)
theorem d_jdk_65_m132_0 : decode jdk_65_method_132_code 0 = .ok (.iload_n 1, 1) := by decide +kernel
theorem d_jdk_65_m132_1 : decode jdk_65_method_132_code 1 = .ok (.ifCond .ne 9, 3) := by decide +kernel
theorem d_jdk_65_m132_4 : decode jdk_65_method_132_code 4 = .ok (.iload_n 2, 1) := by decide +kernel
theorem d_jdk_65_m132_5 : decode jdk_65_method_132_code 5 = .ok (.aload_n 0, 1) := by decide +kernel
theorem d_jdk_65_m132_6 : decode jdk_65_method_132_code 6 = .ok (.arraylength, 1) := by decide +kernel
theorem d_jdk_65_m132_7 : decode jdk_65_method_132_code 7 = .ok (.if_icmp .eq 10, 3) := by decide +kernel
theorem d_jdk_65_m132_10 : decode jdk_65_method_132_code 10 = .ok (.aload_n 0, 1) := by decide +kernel
theorem d_jdk_65_m132_11 : decode jdk_65_method_132_code 11 = .ok (.iload_n 1, 1) := by decide +kernel
theorem d_jdk_65_m132_12 : decode jdk_65_method_132_code 12 = .ok (.iload_n 2, 1) := by decide +kernel
theorem d_jdk_65_m132_13 : decode jdk_65_method_132_code 13 = .ok (.invokestatic 339, 3) := by decide +kernel
theorem d_jdk_65_m132_16 : decode jdk_65_method_132_code 16 = .ok (.areturn, 1) := by decide +kernel
theorem d_jdk_65_m132_17 : decode jdk_65_method_132_code 17 = .ok (.aload_n 0, 1) := by decide +kernel
theorem d_jdk_65_m132_18 : decode jdk_65_method_132_code 18 = .ok (.invokevirtual 310, 3) := by decide +kernel
theorem d_jdk_65_m132_21 : decode jdk_65_method_132_code 21 = .ok (.checkcast 311, 3) := by decide +kernel
theorem d_jdk_65_m132_24 : decode jdk_65_method_132_code 24 = .ok (.areturn, 1) := by decide +kernel
set_option maxRecDepth 65536 in
set_option maxHeartbeats 40000000 in
theorem cCR {l : Launch} {Z : State} {a0 : Array Value} (W : Wd Z a0) {EL : List (String × Nat)} {vm : Vm} {h : Heap} {d : Addr} {kd : ClassId} {n_ : Nat} {vs : List Value} (hn : n_ < 16) (A : Arv Z h d kd .byte (16 : Int32) vs (.int 0)) :
    Ctr false l Z a0 EL (⟨"java/util/Arrays", "copyOfRange", "([BII)[B"⟩ : MethodName) jdk_65_method_132_code 3 (some (.array .byte)) ({ frames := 2, cells := 1, slots := 16, locals := 34 } : Room) #[.ref d, .int (0 : Int32), .int (Int32.ofNat n_)] vm h (fun v vm' h' => ∃ r kr, v = some (.ref r) ∧ Ext h h' ∧ Arv Z h' r kr .byte (Int32.ofNat n_) vs (.int 0) ∧ h.size ≤ r) := by
  refine Ctr.of_go (L0 := #[.val (.ref d), .val (.int (0 : Int32)), .val (.int (Int32.ofNat n_))]) (by first | exact plainFor_of_name (by first | (simp [plainName, overriddenIn]; done) | decide +kernel) | decide +kernel) (fun m => by first | (simp [entryFrame, mkF, argsToLocals, Value.category, maxLocals]; done) | rfl) (fun p e s m below meth c vmi chi => ?_)
  refine Go.iload_n 1 d_jdk_65_m132_0 rfl rfl ?_
  refine Go.ifne 10 4 d_jdk_65_m132_1 (by decide) rfl rfl (fun q1 => absurd rfl q1) (fun q1 => ?_)
  refine Go.iload_n 5 d_jdk_65_m132_4 rfl rfl ?_
  refine Go.aload_n 6 d_jdk_65_m132_5 rfl rfl rfl ?_
  refine Go.arraylength 7 d_jdk_65_m132_6 rfl A ?_
  refine Go.if_icmpeq 17 10 d_jdk_65_m132_7 (by decide) rfl rfl (fun q2 => absurd q2 (n16 ⟨n_, hn⟩).2.2) (fun q2 => ?_)
  refine Go.aload_n 11 d_jdk_65_m132_10 rfl rfl rfl ?_
  refine Go.iload_n 12 d_jdk_65_m132_11 rfl rfl ?_
  refine Go.iload_n 13 d_jdk_65_m132_12 rfl rfl ?_
  refine Go.invokestatic (rest := []) 0 [.ref d, .int (0 : Int32), .int (Int32.ofNat n_)] 16 d_jdk_65_m132_13 rfl (W.1 158 rfl) (W.1 159 rfl) (W.1 156 rfl) (W.1 160 rfl) (by decide) (cCRB W hn A) (by decide +kernel : parseMethodDescriptor "([BII)[B" = some ⟨[(.array .byte), .int, .int], (some (.array .byte))⟩) rfl rfl rfl (nl rfl) (nl rfl) (nl rfl) (nl rfl) (nl rfl) (fun v3 vm3 h3 ⟨r, kr, rv, E, A1, hr⟩ c3 => ?_)
  subst rv
  exact Go.areturn d_jdk_65_m132_16 rfl rfl rfl (nl rfl) (nl rfl) (fun vm' ch => ⟨r, kr, rfl, E, A1, hr⟩)
theorem d_jdk_42_m150_0 : decode jdk_42_method_150_code 0 = .ok (.aload_n 0, 1) := by decide +kernel
theorem d_jdk_42_m150_1 : decode jdk_42_method_150_code 1 = .ok (.invokespecial 1, 3) := by decide +kernel
theorem d_jdk_42_m150_4 : decode jdk_42_method_150_code 4 = .ok (.aload_n 1, 1) := by decide +kernel
theorem d_jdk_42_m150_5 : decode jdk_42_method_150_code 5 = .ok (.invokevirtual 552, 3) := by decide +kernel
theorem d_jdk_42_m150_8 : decode jdk_42_method_150_code 8 = .ok (.astore_n 3, 1) := by decide +kernel
theorem d_jdk_42_m150_9 : decode jdk_42_method_150_code 9 = .ok (.aload_n 1, 1) := by decide +kernel
theorem d_jdk_42_m150_10 : decode jdk_42_method_150_code 10 = .ok (.invokevirtual 549, 3) := by decide +kernel
theorem d_jdk_42_m150_13 : decode jdk_42_method_150_code 13 = .ok (.istore 4, 2) := by decide +kernel
theorem d_jdk_42_m150_15 : decode jdk_42_method_150_code 15 = .ok (.aload_n 1, 1) := by decide +kernel
theorem d_jdk_42_m150_16 : decode jdk_42_method_150_code 16 = .ok (.invokevirtual 1047, 3) := by decide +kernel
theorem d_jdk_42_m150_19 : decode jdk_42_method_150_code 19 = .ok (.ifCond .eq 22, 3) := by decide +kernel
theorem d_jdk_42_m150_22 : decode jdk_42_method_150_code 22 = .ok (.aload_n 0, 1) := by decide +kernel
theorem d_jdk_42_m150_23 : decode jdk_42_method_150_code 23 = .ok (.iconst 0, 1) := by decide +kernel
theorem d_jdk_42_m150_24 : decode jdk_42_method_150_code 24 = .ok (.putfield 15, 3) := by decide +kernel
theorem d_jdk_42_m150_27 : decode jdk_42_method_150_code 27 = .ok (.aload_n 0, 1) := by decide +kernel
theorem d_jdk_42_m150_28 : decode jdk_42_method_150_code 28 = .ok (.aload_n 3, 1) := by decide +kernel
theorem d_jdk_42_m150_29 : decode jdk_42_method_150_code 29 = .ok (.iconst 0, 1) := by decide +kernel
theorem d_jdk_42_m150_30 : decode jdk_42_method_150_code 30 = .ok (.iload 4, 2) := by decide +kernel
theorem d_jdk_42_m150_32 : decode jdk_42_method_150_code 32 = .ok (.invokestatic 54, 3) := by decide +kernel
theorem d_jdk_42_m150_35 : decode jdk_42_method_150_code 35 = .ok (.putfield 9, 3) := by decide +kernel
theorem d_jdk_42_m150_38 : decode jdk_42_method_150_code 38 = .ok (.goto 59, 3) := by decide +kernel
theorem d_jdk_42_m150_41 : decode jdk_42_method_150_code 41 = .ok (.getstatic 38, 3) := by decide +kernel
theorem d_jdk_42_m150_44 : decode jdk_42_method_150_code 44 = .ok (.ifCond .eq 35, 3) := by decide +kernel
theorem d_jdk_42_m150_47 : decode jdk_42_method_150_code 47 = .ok (.aload_n 1, 1) := by decide +kernel
theorem d_jdk_42_m150_48 : decode jdk_42_method_150_code 48 = .ok (.getfield 1048, 3) := by decide +kernel
theorem d_jdk_42_m150_51 : decode jdk_42_method_150_code 51 = .ok (.ifCond .eq 28, 3) := by decide +kernel
theorem d_jdk_42_m150_54 : decode jdk_42_method_150_code 54 = .ok (.aload_n 0, 1) := by decide +kernel
theorem d_jdk_42_m150_55 : decode jdk_42_method_150_code 55 = .ok (.aload_n 3, 1) := by decide +kernel
theorem d_jdk_42_m150_56 : decode jdk_42_method_150_code 56 = .ok (.iconst 0, 1) := by decide +kernel
theorem d_jdk_42_m150_57 : decode jdk_42_method_150_code 57 = .ok (.iload 4, 2) := by decide +kernel
theorem d_jdk_42_m150_59 : decode jdk_42_method_150_code 59 = .ok (.invokestatic 1051, 3) := by decide +kernel
theorem d_jdk_42_m150_62 : decode jdk_42_method_150_code 62 = .ok (.putfield 9, 3) := by decide +kernel
theorem d_jdk_42_m150_65 : decode jdk_42_method_150_code 65 = .ok (.aload_n 0, 1) := by decide +kernel
theorem d_jdk_42_m150_66 : decode jdk_42_method_150_code 66 = .ok (.aload_n 0, 1) := by decide +kernel
theorem d_jdk_42_m150_67 : decode jdk_42_method_150_code 67 = .ok (.getfield 9, 3) := by decide +kernel
theorem d_jdk_42_m150_70 : decode jdk_42_method_150_code 70 = .ok (.iload 4, 2) := by decide +kernel
theorem d_jdk_42_m150_72 : decode jdk_42_method_150_code 72 = .ok (.invokestatic 47, 3) := by decide +kernel
theorem d_jdk_42_m150_75 : decode jdk_42_method_150_code 75 = .ok (.putfield 15, 3) := by decide +kernel
theorem d_jdk_42_m150_78 : decode jdk_42_method_150_code 78 = .ok (.return_, 1) := by decide +kernel
theorem d_jdk_42_m150_79 : decode jdk_42_method_150_code 79 = .ok (.aload_n 0, 1) := by decide +kernel
theorem d_jdk_42_m150_80 : decode jdk_42_method_150_code 80 = .ok (.iconst 1, 1) := by decide +kernel
theorem d_jdk_42_m150_81 : decode jdk_42_method_150_code 81 = .ok (.putfield 15, 3) := by decide +kernel
theorem d_jdk_42_m150_84 : decode jdk_42_method_150_code 84 = .ok (.aload_n 0, 1) := by decide +kernel
theorem d_jdk_42_m150_85 : decode jdk_42_method_150_code 85 = .ok (.aload_n 3, 1) := by decide +kernel
theorem d_jdk_42_m150_86 : decode jdk_42_method_150_code 86 = .ok (.iconst 0, 1) := by decide +kernel
theorem d_jdk_42_m150_87 : decode jdk_42_method_150_code 87 = .ok (.iload 4, 2) := by decide +kernel
theorem d_jdk_42_m150_89 : decode jdk_42_method_150_code 89 = .ok (.iconst 1, 1) := by decide +kernel
theorem d_jdk_42_m150_90 : decode jdk_42_method_150_code 90 = .ok (.ishl, 1) := by decide +kernel
theorem d_jdk_42_m150_91 : decode jdk_42_method_150_code 91 = .ok (.invokestatic 54, 3) := by decide +kernel
theorem d_jdk_42_m150_94 : decode jdk_42_method_150_code 94 = .ok (.putfield 9, 3) := by decide +kernel
theorem d_jdk_42_m150_97 : decode jdk_42_method_150_code 97 = .ok (.return_, 1) := by decide +kernel
set_option maxRecDepth 65536 in
set_option maxHeartbeats 40000000 in
theorem cSI2 {l : Launch} {Z : State} {a0 : Array Value} (W : Wd Z a0) {EL : List (String × Nat)} {vm : Vm} {h : Heap} {a : Addr} {v0 c0 : Value} (E : Exa Z h a "java/lang/String") (F1 : Fld Z h a "java/lang/String" "value" "[B" (v0)) (F2 : Fld Z h a "java/lang/String" "coder" "B" (c0)) (Sa : Safe Z EL vm h a) (hz : Z.heap.size ≤ a) {b d : Addr} {kd : ClassId} {cs : List Int32} (B : Bld Z h b d kd cs) (hn : cs.length < 16) (na : d ≠ a) :
    Ctr false l Z a0 EL (⟨"java/lang/String", "<init>", "(Ljava/lang/AbstractStringBuilder;Ljava/lang/Void;)V"⟩ : MethodName) jdk_42_method_150_code 5 none ({ frames := 3, cells := 1, slots := 16, locals := 49 } : Room) #[.ref a, .ref b, .null] vm h (fun v vm' h' => v = none ∧ Keep h h' [a] ∧ Str Z h' a cs) := by
  refine Ctr.of_go (L0 := #[.val (.ref a), .val (.ref b), .val (.null), .unset, .unset]) (by first | exact plainFor_of_name (by first | (simp [plainName, overriddenIn]; done) | decide +kernel) | decide +kernel) (fun m => by first | (simp [entryFrame, mkF, argsToLocals, Value.category, maxLocals]; done) | rfl) (fun p e s m below meth c vmi chi => ?_)
  refine Go.aload_n 1 d_jdk_42_m150_0 rfl rfl rfl ?_
  refine Go.initObject 0 4 d_jdk_42_m150_1 rfl (W.1 15 rfl) (W.1 16 rfl) (W.1 17 rfl) rfl (nl rfl) (nl rfl) (nl rfl) ?_
  refine Go.aload_n 5 d_jdk_42_m150_4 rfl rfl rfl ?_
  refine Go.invokevirtual (rest := []) 0 b [] 8 d_jdk_42_m150_5 rfl B.1 (W.1 136 rfl) (W.1 137 rfl) (fun s hs => notFace_of_selects (args := #[]) (mvT hs (W.1 139 rfl))) (W.1 139 rfl) (W.1 138 rfl) (W.1 68 rfl) (W.1 140 rfl) (by decide) (cGV W B) (by decide +kernel : parseMethodDescriptor "()[B" = some ⟨[], (some (.array .byte))⟩) rfl rfl rfl (nl rfl) (nl rfl) (nl rfl) (nl rfl) (nl rfl) (fun v1 vm1 h1 ⟨rv, hh⟩ c1 => ?_)
  subst rv; replace hh := hh.symm; subst hh
  refine Go.astore_n #[.val (.ref a), .val (.ref b), .val (.null), .val (.ref d), .unset] 9 d_jdk_42_m150_8 rfl rfl rfl ?_
  refine Go.aload_n 10 d_jdk_42_m150_9 rfl rfl rfl ?_
  refine Go.invokevirtual (rest := []) 0 b [] 13 d_jdk_42_m150_10 rfl B.1 (W.1 141 rfl) (W.1 142 rfl) (fun s hs => notFaceC (args := #[]) (x := ⟨"java/lang/AbstractStringBuilder", "length", "()I"⟩) (mvT hs (W.1 139 rfl)) rfl) (W.1 144 rfl) (W.1 145 rfl) (W.1 60 rfl) (W.1 146 rfl) (by decide) (cLnS W B) (by decide +kernel : parseMethodDescriptor "()I" = some ⟨[], (some .int)⟩) rfl rfl rfl (nl rfl) (nl rfl) (nl rfl) (nl rfl) (nl rfl) (fun v2 vm2 h2 ⟨rv, hh⟩ c2 => ?_)
  subst rv; replace hh := hh.symm; subst hh
  refine Go.istore #[.val (.ref a), .val (.ref b), .val (.null), .val (.ref d), .val (.int (Int32.ofNat cs.length))] 15 d_jdk_42_m150_13 rfl rfl ?_
  refine Go.aload_n 16 d_jdk_42_m150_15 rfl rfl rfl ?_
  refine Go.invokevirtual (rest := []) 0 b [] 19 d_jdk_42_m150_16 rfl B.1 (W.1 149 rfl) (W.1 150 rfl) (fun s hs => notFace_of_selects (args := #[]) (mvT hs (W.1 152 rfl))) (W.1 152 rfl) (W.1 151 rfl) (W.1 68 rfl) (W.1 153 rfl) (by decide) (cIsL W B) (by decide +kernel : parseMethodDescriptor "()Z" = some ⟨[], (some .boolean)⟩) rfl rfl rfl (nl rfl) (nl rfl) (nl rfl) (nl rfl) (nl rfl) (fun v3 vm3 h3 ⟨rv, hh⟩ c3 => ?_)
  subst rv; replace hh := hh.symm; subst hh
  refine Go.ifeq 41 22 d_jdk_42_m150_19 (by decide) rfl rfl (fun q4 => absurd q4 (by decide)) (fun q4 => ?_)
  refine Go.aload_n 23 d_jdk_42_m150_22 rfl rfl rfl ?_
  refine Go.iconst (0) 24 d_jdk_42_m150_23 rfl rfl ?_
  have f5 := CHr.safe (CHr.trans chi (CHr.trans c1 (CHr.trans c2 c3))) E.lt Sa
  have L5 := Nat.lt_of_lt_of_le E.lt (CHr.trans chi (CHr.trans c1 (CHr.trans c2 c3))).2.1
  refine Go.putfield 27 d_jdk_42_m150_24 rfl (W.1 30 rfl) F2 E (Or.inr ⟨(W.1 31 rfl), rfl, rfl⟩) (W.1 5 rfl) (ty := .byte) (by decide) rfl rfl f5 hz (fun h6 X6 S6 c6 => ?_)
  have Ea := E.wr X6
  have G2 := F2.same X6
  have G1 := F1.other X6 (Or.inr (slot_ne (a0 := a0) (C := "java/lang/String") (Or.inr (W.1 33 rfl)) (Or.inr (W.1 31 rfl)) (by decide) (t := (.array .byte)) (t' := .byte) (by decide) (by decide)))
  have A1 := Arv.other B.2.2.2.2.1 X6 na
  refine Go.aload_n 28 d_jdk_42_m150_27 rfl rfl rfl ?_
  refine Go.aload_n 29 d_jdk_42_m150_28 rfl rfl rfl ?_
  refine Go.iconst (0) 30 d_jdk_42_m150_29 rfl rfl ?_
  refine Go.iload 32 d_jdk_42_m150_30 rfl rfl ?_
  refine Go.invokestatic (rest := [.ref a]) 1 [.ref d, .int (0 : Int32), .int (Int32.ofNat cs.length)] 35 d_jdk_42_m150_32 rfl (W.1 154 rfl) (W.1 155 rfl) (W.1 156 rfl) (W.1 157 rfl) (by decide) (cCR W hn A1) (by decide +kernel : parseMethodDescriptor "([BII)[B" = some ⟨[(.array .byte), .int, .int], (some (.array .byte))⟩) rfl rfl rfl (nl rfl) (nl rfl) (nl rfl) (nl rfl) (nl rfl) (fun v7 vm7 h7 ⟨r, kr, rv, E1, A2, hr⟩ c7 => ?_)
  subst rv
  have f8 := CHr.safe c7 Ea.lt S6
  have L8 := Nat.lt_of_lt_of_le Ea.lt c7.2.1
  refine Go.putfield 38 d_jdk_42_m150_35 rfl (W.1 32 rfl) (G1.ext E1) (Ea.ext E1) (Or.inr ⟨(W.1 33 rfl), rfl, rfl⟩) (W.1 5 rfl) (ty := (.array .byte)) (by decide) rfl rfl f8 hz (fun h9 X9 S9 c9 => ?_)
  refine Go.goto 97 d_jdk_42_m150_38 (by decide) rfl ?_
  have nr : r ≠ a := fun q => absurd Ea.lt (by rw [← q]; exact Nat.not_lt.mpr hr)
  exact Go.return_ d_jdk_42_m150_97 rfl (nl rfl) (nl rfl) (fun vm' ch => ⟨rfl, ((Keep.of_wr X6).ext E1).wr X9 (Or.inl (by simp)), r, kr, (Ea.ext E1).wr X9, (G2.ext E1).other X9 (Or.inr (slot_ne (a0 := a0) (C := "java/lang/String") (Or.inr (W.1 31 rfl)) (Or.inr (W.1 33 rfl)) (by decide) (t := .byte) (t' := (.array .byte)) (by decide) (by decide))), (G1.ext E1).same X9, Arv.other A2 X9 nr, by omega, B.2.2.2.2.2.2⟩)
theorem d_jdk_42_m53_0 : decode jdk_42_method_53_code 0 = .ok (.aload_n 0, 1) := by decide +kernel
theorem d_jdk_42_m53_1 : decode jdk_42_method_53_code 1 = .ok (.aload_n 1, 1) := by decide +kernel
theorem d_jdk_42_m53_2 : decode jdk_42_method_53_code 2 = .ok (.aconst_null, 1) := by decide +kernel
theorem d_jdk_42_m53_3 : decode jdk_42_method_53_code 3 = .ok (.invokespecial 489, 3) := by decide +kernel
theorem d_jdk_42_m53_6 : decode jdk_42_method_53_code 6 = .ok (.return_, 1) := by decide +kernel
set_option maxRecDepth 65536 in
set_option maxHeartbeats 40000000 in
theorem cSI1 {l : Launch} {Z : State} {a0 : Array Value} (W : Wd Z a0) {EL : List (String × Nat)} {vm : Vm} {h : Heap} {a : Addr} {v0 c0 : Value} (E : Exa Z h a "java/lang/String") (F1 : Fld Z h a "java/lang/String" "value" "[B" (v0)) (F2 : Fld Z h a "java/lang/String" "coder" "B" (c0)) (Sa : Safe Z EL vm h a) (hz : Z.heap.size ≤ a) {b d : Addr} {kd : ClassId} {cs : List Int32} (B : Bld Z h b d kd cs) (hn : cs.length < 16) (na : d ≠ a) :
    Ctr false l Z a0 EL (⟨"java/lang/String", "<init>", "(Ljava/lang/StringBuilder;)V"⟩ : MethodName) jdk_42_method_53_code 2 none ({ frames := 4, cells := 1, slots := 16, locals := 65 } : Room) #[.ref a, .ref b] vm h (fun v vm' h' => v = none ∧ Keep h h' [a] ∧ Str Z h' a cs) := by
  refine Ctr.of_go (L0 := #[.val (.ref a), .val (.ref b)]) (by first | exact plainFor_of_name (by first | (simp [plainName, overriddenIn]; done) | decide +kernel) | decide +kernel) (fun m => by first | (simp [entryFrame, mkF, argsToLocals, Value.category, maxLocals]; done) | rfl) (fun p e s m below meth c vmi chi => ?_)
  refine Go.aload_n 1 d_jdk_42_m53_0 rfl rfl rfl ?_
  refine Go.aload_n 2 d_jdk_42_m53_1 rfl rfl rfl ?_
  refine Go.aconst_null 3 d_jdk_42_m53_2 rfl ?_
  refine Go.invokespecial (rest := []) 0 a [.ref b, .null] 6 d_jdk_42_m53_3 rfl rfl (W.1 133 rfl) (W.1 134 rfl) (W.1 6 rfl) (W.1 135 rfl) (by decide) (cSI2 W E F1 F2 (chi.safe E.lt Sa) hz B hn na) (by decide +kernel : parseMethodDescriptor "(Ljava/lang/AbstractStringBuilder;Ljava/lang/Void;)V" = some ⟨[(.object "java/lang/AbstractStringBuilder"), (.object "java/lang/Void")], none⟩) rfl rfl rfl (nl rfl) (nl rfl) (nl rfl) (nl rfl) (nl rfl) (fun v1 vm1 h1 ⟨rv, K, T⟩ c1 => ?_)
  subst rv
  exact Go.return_ d_jdk_42_m53_6 rfl (nl rfl) (nl rfl) (fun vm' ch => ⟨rfl, K, T⟩)
theorem d_jdk_67_m42_0 : decode jdk_67_method_42_code 0 = .ok (.new 18, 3) := by decide +kernel
theorem d_jdk_67_m42_3 : decode jdk_67_method_42_code 3 = .ok (.dup, 1) := by decide +kernel
theorem d_jdk_67_m42_4 : decode jdk_67_method_42_code 4 = .ok (.aload_n 0, 1) := by decide +kernel
theorem d_jdk_67_m42_5 : decode jdk_67_method_42_code 5 = .ok (.invokespecial 137, 3) := by decide +kernel
theorem d_jdk_67_m42_8 : decode jdk_67_method_42_code 8 = .ok (.areturn, 1) := by decide +kernel
set_option maxRecDepth 65536 in
set_option maxHeartbeats 40000000 in
theorem cTS {l : Launch} {Z : State} {a0 : Array Value} (W : Wd Z a0) {EL : List (String × Nat)} {vm : Vm} {h : Heap} {b d : Addr} {kd : ClassId} {cs : List Int32} (B : Bld Z h b d kd cs) (hn : cs.length < 16) :
    Ctr false l Z a0 EL (⟨"java/lang/StringBuilder", "toString", "()Ljava/lang/String;"⟩ : MethodName) jdk_67_method_42_code 1 (some (.object "java/lang/String")) ({ frames := 5, cells := 2, slots := 20, locals := 79 } : Room) #[.ref b] vm h (fun v vm' h' => ∃ a, v = some (.ref a) ∧ Ext h h' ∧ Str Z h' a cs) := by
  refine Ctr.of_go (L0 := #[.val (.ref b)]) (by first | exact plainFor_of_name (by first | (simp [plainName, overriddenIn]; done) | decide +kernel) | decide +kernel) (fun m => by first | (simp [entryFrame, mkF, argsToLocals, Value.category, maxLocals]; done) | rfl) (fun p e s m below meth c vmi chi => ?_)
  refine Go.new 3 d_jdk_67_m42_0 rfl (W.1 129 rfl) (W.1 5 rfl) (W.1 6 rfl) (nl rfl) (nl rfl) (fun x1 h1 e1 E1 ⟨A1, D1⟩ S1 z1 c1 => ?_)
  refine Go.dup 4 d_jdk_67_m42_3 rfl rfl ?_
  refine Go.aload_n 5 d_jdk_67_m42_4 rfl rfl rfl ?_
  have f2 := D1 (Or.inr (W.1 33 rfl)) (ty := (.array .byte)) (by decide)
  have f3 := D1 (Or.inr (W.1 31 rfl)) (ty := .byte) (by decide)
  have na : d ≠ x1 := fun q => absurd B.2.2.2.2.1.lt (by rw [q, e1]; exact Nat.lt_irrefl _)
  have f4 := B.ext E1
  refine Go.invokespecial (rest := [.ref x1]) 1 x1 [.ref b] 8 d_jdk_67_m42_5 rfl rfl (W.1 130 rfl) (W.1 131 rfl) (W.1 6 rfl) (W.1 132 rfl) (by decide) (cSI1 W A1 f2 f3 S1 z1 f4 hn na) (by decide +kernel : parseMethodDescriptor "(Ljava/lang/StringBuilder;)V" = some ⟨[(.object "java/lang/StringBuilder")], none⟩) rfl rfl rfl (nl rfl) (nl rfl) (nl rfl) (nl rfl) (nl rfl) (fun v5 vm5 h5 ⟨rv, K, T⟩ c5 => ?_)
  subst rv
  exact Go.areturn d_jdk_67_m42_8 rfl rfl rfl (nl rfl) (nl rfl) (fun vm' ch => ⟨x1, rfl, Ext.kp1 E1 K e1, T⟩)
theorem d_prog_34_m2_0 : decode prog_34_method_2_code 0 = .ok (.aload_n 0, 1) := by decide +kernel
theorem d_prog_34_m2_1 : decode prog_34_method_2_code 1 = .ok (.invokespecial 7, 3) := by decide +kernel
theorem d_prog_34_m2_4 : decode prog_34_method_2_code 4 = .ok (.aload_n 0, 1) := by decide +kernel
theorem d_prog_34_m2_5 : decode prog_34_method_2_code 5 = .ok (.aload_n 1, 1) := by decide +kernel
theorem d_prog_34_m2_6 : decode prog_34_method_2_code 6 = .ok (.putfield 12, 3) := by decide +kernel
theorem d_prog_34_m2_9 : decode prog_34_method_2_code 9 = .ok (.aload_n 0, 1) := by decide +kernel
theorem d_prog_34_m2_10 : decode prog_34_method_2_code 10 = .ok (.aload_n 2, 1) := by decide +kernel
theorem d_prog_34_m2_11 : decode prog_34_method_2_code 11 = .ok (.putfield 16, 3) := by decide +kernel
theorem d_prog_34_m2_14 : decode prog_34_method_2_code 14 = .ok (.aload_n 0, 1) := by decide +kernel
theorem d_prog_34_m2_15 : decode prog_34_method_2_code 15 = .ok (.iload_n 3, 1) := by decide +kernel
theorem d_prog_34_m2_16 : decode prog_34_method_2_code 16 = .ok (.putfield 19, 3) := by decide +kernel
theorem d_prog_34_m2_19 : decode prog_34_method_2_code 19 = .ok (.return_, 1) := by decide +kernel
set_option maxRecDepth 65536 in
set_option maxHeartbeats 40000000 in
theorem cPeInit {l : Launch} {Z : State} {a0 : Array Value} (W : Wd Z a0) {EL : List (String × Nat)} {vm : Vm} {h : Heap} {nw : Bool} {a s1 s2 : Addr} {r : Int32} (hr : r = 0 ∨ r = 1) (E : Exa Z h a "com/example/token_to_key/tokentokey/s3/Permission") (F0 : Fld Z h a "com/example/token_to_key/tokentokey/s3/Permission" "action" "Ljava/lang/String;" (.null)) (F1 : Fld Z h a "com/example/token_to_key/tokentokey/s3/Permission" "resource" "Ljava/lang/String;" (.null)) (F2 : Fld Z h a "com/example/token_to_key/tokentokey/s3/Permission" "mustBeAllowed" "Z" (.int 0)) (Sa : Safe Z EL vm h a) (hz : Z.heap.size ≤ a) :
    Ctr nw l Z a0 EL (⟨"com/example/token_to_key/tokentokey/s3/Permission", "<init>", "(Ljava/lang/String;Ljava/lang/String;Z)V"⟩ : MethodName) prog_34_method_2_code 4 none ({ frames := 1, cells := 0, slots := 0, locals := 12 } : Room) #[.ref a, .ref s1, .ref s2, .int r] vm h (fun v vm' h' => v = none ∧ Keep h h' [a] ∧ Exa Z h' a "com/example/token_to_key/tokentokey/s3/Permission" ∧ Fld Z h' a "com/example/token_to_key/tokentokey/s3/Permission" "action" "Ljava/lang/String;" (.ref s1) ∧ Fld Z h' a "com/example/token_to_key/tokentokey/s3/Permission" "resource" "Ljava/lang/String;" (.ref s2) ∧ Fld Z h' a "com/example/token_to_key/tokentokey/s3/Permission" "mustBeAllowed" "Z" (.int r)) := by
  refine Ctr.of_go (L0 := #[.val (.ref a), .val (.ref s1), .val (.ref s2), .val (.int r)]) (by first | exact plainFor_of_name (by first | (simp [plainName, overriddenIn]; done) | decide +kernel) | decide +kernel) (fun m => by first | (simp [entryFrame, mkF, argsToLocals, Value.category, maxLocals]; done) | rfl) (fun p e s m below meth c vmi chi => ?_)
  refine Go.aload_n 1 d_prog_34_m2_0 rfl rfl rfl ?_
  refine Go.initObject 0 4 d_prog_34_m2_1 rfl (W.1 46 rfl) (W.1 16 rfl) (W.1 17 rfl) rfl (nl rfl) (nl rfl) (nl rfl) ?_
  refine Go.aload_n 5 d_prog_34_m2_4 rfl rfl rfl ?_
  refine Go.aload_n 6 d_prog_34_m2_5 rfl rfl rfl ?_
  have f1 := CHr.safe chi E.lt Sa
  have L1 := Nat.lt_of_lt_of_le E.lt chi.2.1
  refine Go.putfield 9 d_prog_34_m2_6 rfl (W.1 47 rfl) F0 E (Or.inr ⟨(W.1 48 rfl), rfl, rfl⟩) (W.1 38 rfl) (ty := (.object "java/lang/String")) (by decide) rfl rfl f1 hz (fun h2 X2 S2 c2 => ?_)
  have E_0 := E.wr X2
  have G0_0 := F0.same X2
  have G1_0 := F1.other X2 (Or.inr (slot_ne (a0 := a0) (C := "com/example/token_to_key/tokentokey/s3/Permission") (Or.inr (W.1 50 rfl)) (Or.inr (W.1 48 rfl)) (by decide) (t := (.object "java/lang/String")) (t' := (.object "java/lang/String")) (by decide) (by decide)))
  have G2_0 := F2.other X2 (Or.inr (slot_ne (a0 := a0) (C := "com/example/token_to_key/tokentokey/s3/Permission") (Or.inr (W.1 52 rfl)) (Or.inr (W.1 48 rfl)) (by decide) (t := .boolean) (t' := (.object "java/lang/String")) (by decide) (by decide)))
  refine Go.aload_n 10 d_prog_34_m2_9 rfl rfl rfl ?_
  refine Go.aload_n 11 d_prog_34_m2_10 rfl rfl rfl ?_
  refine Go.putfield 14 d_prog_34_m2_11 rfl (W.1 49 rfl) G1_0 E_0 (Or.inr ⟨(W.1 50 rfl), rfl, rfl⟩) (W.1 38 rfl) (ty := (.object "java/lang/String")) (by decide) rfl rfl S2 hz (fun h3 X3 S3 c3 => ?_)
  have E_1 := E_0.wr X3
  have G0_1 := G0_0.other X3 (Or.inr (slot_ne (a0 := a0) (C := "com/example/token_to_key/tokentokey/s3/Permission") (Or.inr (W.1 48 rfl)) (Or.inr (W.1 50 rfl)) (by decide) (t := (.object "java/lang/String")) (t' := (.object "java/lang/String")) (by decide) (by decide)))
  have G1_1 := G1_0.same X3
  have G2_1 := G2_0.other X3 (Or.inr (slot_ne (a0 := a0) (C := "com/example/token_to_key/tokentokey/s3/Permission") (Or.inr (W.1 52 rfl)) (Or.inr (W.1 50 rfl)) (by decide) (t := .boolean) (t' := (.object "java/lang/String")) (by decide) (by decide)))
  refine Go.aload_n 15 d_prog_34_m2_14 rfl rfl rfl ?_
  refine Go.iload_n 16 d_prog_34_m2_15 rfl rfl ?_
  refine Go.putfield 19 d_prog_34_m2_16 rfl (W.1 51 rfl) G2_1 E_1 (Or.inr ⟨(W.1 52 rfl), rfl, rfl⟩) (W.1 38 rfl) (ty := .boolean) (by decide) (narZ hr) (by rcases hr with rfl | rfl <;> rfl) S3 hz (fun h4 X4 S4 c4 => ?_)
  have E_2 := E_1.wr X4
  have G0_2 := G0_1.other X4 (Or.inr (slot_ne (a0 := a0) (C := "com/example/token_to_key/tokentokey/s3/Permission") (Or.inr (W.1 48 rfl)) (Or.inr (W.1 52 rfl)) (by decide) (t := (.object "java/lang/String")) (t' := .boolean) (by decide) (by decide)))
  have G1_2 := G1_1.other X4 (Or.inr (slot_ne (a0 := a0) (C := "com/example/token_to_key/tokentokey/s3/Permission") (Or.inr (W.1 50 rfl)) (Or.inr (W.1 52 rfl)) (by decide) (t := (.object "java/lang/String")) (t' := .boolean) (by decide) (by decide)))
  have G2_2 := G2_1.same X4
  exact Go.return_ d_prog_34_m2_19 rfl (nl rfl) (nl rfl) (fun vm' ch => ⟨rfl, ((((Keep.refl h [a]).wr X2 (Or.inl (by simp))).wr X3 (Or.inl (by simp))).wr X4 (Or.inl (by simp))), E_2, G0_2, G1_2, G2_2⟩)
theorem d_prog_34_m1_0 : decode prog_34_method_1_code 0 = .ok (.aload_n 0, 1) := by decide +kernel
theorem d_prog_34_m1_1 : decode prog_34_method_1_code 1 = .ok (.aload_n 1, 1) := by decide +kernel
theorem d_prog_34_m1_2 : decode prog_34_method_1_code 2 = .ok (.aload_n 2, 1) := by decide +kernel
theorem d_prog_34_m1_3 : decode prog_34_method_1_code 3 = .ok (.iconst 1, 1) := by decide +kernel
theorem d_prog_34_m1_4 : decode prog_34_method_1_code 4 = .ok (.invokespecial 1, 3) := by decide +kernel
theorem d_prog_34_m1_7 : decode prog_34_method_1_code 7 = .ok (.return_, 1) := by decide +kernel
set_option maxRecDepth 65536 in
set_option maxHeartbeats 40000000 in
theorem cPeInit2 {l : Launch} {Z : State} {a0 : Array Value} (W : Wd Z a0) {EL : List (String × Nat)} {vm : Vm} {h : Heap} {nw : Bool} {a s1 s2 : Addr} (E : Exa Z h a "com/example/token_to_key/tokentokey/s3/Permission") (F0 : Fld Z h a "com/example/token_to_key/tokentokey/s3/Permission" "action" "Ljava/lang/String;" (.null)) (F1 : Fld Z h a "com/example/token_to_key/tokentokey/s3/Permission" "resource" "Ljava/lang/String;" (.null)) (F2 : Fld Z h a "com/example/token_to_key/tokentokey/s3/Permission" "mustBeAllowed" "Z" (.int 0)) (Sa : Safe Z EL vm h a) (hz : Z.heap.size ≤ a) :
    Ctr nw l Z a0 EL (⟨"com/example/token_to_key/tokentokey/s3/Permission", "<init>", "(Ljava/lang/String;Ljava/lang/String;)V"⟩ : MethodName) prog_34_method_1_code 3 none ({ frames := 2, cells := 0, slots := 0, locals := 27 } : Room) #[.ref a, .ref s1, .ref s2] vm h (fun v vm' h' => v = none ∧ Keep h h' [a] ∧ Exa Z h' a "com/example/token_to_key/tokentokey/s3/Permission" ∧ Fld Z h' a "com/example/token_to_key/tokentokey/s3/Permission" "action" "Ljava/lang/String;" (.ref s1) ∧ Fld Z h' a "com/example/token_to_key/tokentokey/s3/Permission" "resource" "Ljava/lang/String;" (.ref s2) ∧ Fld Z h' a "com/example/token_to_key/tokentokey/s3/Permission" "mustBeAllowed" "Z" (.int 1)) := by
  refine Ctr.of_go (L0 := #[.val (.ref a), .val (.ref s1), .val (.ref s2)]) (by first | exact plainFor_of_name (by first | (simp [plainName, overriddenIn]; done) | decide +kernel) | decide +kernel) (fun m => by first | (simp [entryFrame, mkF, argsToLocals, Value.category, maxLocals]; done) | rfl) (fun p e s m below meth c vmi chi => ?_)
  refine Go.aload_n 1 d_prog_34_m1_0 rfl rfl rfl ?_
  refine Go.aload_n 2 d_prog_34_m1_1 rfl rfl rfl ?_
  refine Go.aload_n 3 d_prog_34_m1_2 rfl rfl rfl ?_
  refine Go.iconst (1) 4 d_prog_34_m1_3 rfl rfl ?_
  have f1 := CHr.safe chi E.lt Sa
  have L1 := Nat.lt_of_lt_of_le E.lt chi.2.1
  refine Go.invokespecial (rest := []) 0 a [.ref s1, .ref s2, .int (1 : Int32)] 7 d_prog_34_m1_4 rfl rfl (W.1 43 rfl) (W.1 44 rfl) (W.1 39 rfl) (W.1 45 rfl) (by decide) (cPeInit W (Or.inr rfl) E F0 F1 F2 f1 hz) (by decide +kernel : parseMethodDescriptor "(Ljava/lang/String;Ljava/lang/String;Z)V" = some ⟨[(.object "java/lang/String"), (.object "java/lang/String"), .boolean], none⟩) rfl rfl rfl (nl rfl) (nl rfl) (nl rfl) (nl rfl) (nl rfl) (fun v2 vm2 h2 ⟨rv, q⟩ c2 => ?_)
  subst rv
  exact Go.return_ d_prog_34_m1_7 rfl (nl rfl) (nl rfl) (fun vm' ch => ⟨rfl, q⟩)
theorem d_m3_0 : decode method_3_code 0 = .ok (.iload_n 0, 1) := by decide +kernel
theorem d_m3_1 : decode method_3_code 1 = .ok (.ifCond .ne 14, 3) := by decide +kernel
theorem d_m3_4 : decode method_3_code 4 = .ok (.new 23, 3) := by decide +kernel
theorem d_m3_7 : decode method_3_code 7 = .ok (.dup, 1) := by decide +kernel
theorem d_m3_8 : decode method_3_code 8 = .ok (.iconst 0, 1) := by decide +kernel
theorem d_m3_9 : decode method_3_code 9 = .ok (.newarray .char, 2) := by decide +kernel
theorem d_m3_11 : decode method_3_code 11 = .ok (.invokespecial 32, 3) := by decide +kernel
theorem d_m3_14 : decode method_3_code 14 = .ok (.areturn, 1) := by decide +kernel
theorem d_m3_15 : decode method_3_code 15 = .ok (.iload_n 0, 1) := by decide +kernel
theorem d_m3_16 : decode method_3_code 16 = .ok (.iconst 1, 1) := by decide +kernel
theorem d_m3_17 : decode method_3_code 17 = .ok (.if_icmp .ne 18, 3) := by decide +kernel
theorem d_m3_20 : decode method_3_code 20 = .ok (.new 23, 3) := by decide +kernel
theorem d_m3_23 : decode method_3_code 23 = .ok (.dup, 1) := by decide +kernel
theorem d_m3_24 : decode method_3_code 24 = .ok (.iconst 1, 1) := by decide +kernel
theorem d_m3_25 : decode method_3_code 25 = .ok (.newarray .char, 2) := by decide +kernel
theorem d_m3_27 : decode method_3_code 27 = .ok (.dup, 1) := by decide +kernel
theorem d_m3_28 : decode method_3_code 28 = .ok (.iconst 0, 1) := by decide +kernel
theorem d_m3_29 : decode method_3_code 29 = .ok (.iload_n 1, 1) := by decide +kernel
theorem d_m3_30 : decode method_3_code 30 = .ok (.castore, 1) := by decide +kernel
theorem d_m3_31 : decode method_3_code 31 = .ok (.invokespecial 32, 3) := by decide +kernel
theorem d_m3_34 : decode method_3_code 34 = .ok (.areturn, 1) := by decide +kernel
theorem d_m3_35 : decode method_3_code 35 = .ok (.new 23, 3) := by decide +kernel
theorem d_m3_38 : decode method_3_code 38 = .ok (.dup, 1) := by decide +kernel
theorem d_m3_39 : decode method_3_code 39 = .ok (.iconst 2, 1) := by decide +kernel
theorem d_m3_40 : decode method_3_code 40 = .ok (.newarray .char, 2) := by decide +kernel
theorem d_m3_42 : decode method_3_code 42 = .ok (.dup, 1) := by decide +kernel
theorem d_m3_43 : decode method_3_code 43 = .ok (.iconst 0, 1) := by decide +kernel
theorem d_m3_44 : decode method_3_code 44 = .ok (.iload_n 1, 1) := by decide +kernel
theorem d_m3_45 : decode method_3_code 45 = .ok (.castore, 1) := by decide +kernel
theorem d_m3_46 : decode method_3_code 46 = .ok (.dup, 1) := by decide +kernel
theorem d_m3_47 : decode method_3_code 47 = .ok (.iconst 1, 1) := by decide +kernel
theorem d_m3_48 : decode method_3_code 48 = .ok (.iload_n 2, 1) := by decide +kernel
theorem d_m3_49 : decode method_3_code 49 = .ok (.castore, 1) := by decide +kernel
theorem d_m3_50 : decode method_3_code 50 = .ok (.invokespecial 32, 3) := by decide +kernel
theorem d_m3_53 : decode method_3_code 53 = .ok (.areturn, 1) := by decide +kernel
set_option maxRecDepth 65536 in
set_option maxHeartbeats 40000000 in
theorem cMk {l : Launch} {Z : State} {a0 : Array Value} (W : Wd Z a0) {EL : List (String × Nat)} {vm : Vm} {h : Heap} {l_ x y : Int32} (hm : ("java/lang/String", 7) ∈ EL) (bx : ¬ x < 0 ∧ ¬ (255 : Int32) < x) (hy : ¬ y < 0 ∧ ¬ (255 : Int32) < y) :
    Ctr false l Z a0 EL (⟨"com/example/token_to_key/tokentokey/s3/PermissionToStringPinLaw", "make", "(ICC)Ljava/lang/String;"⟩ : MethodName) method_3_code 3 (some (.object "java/lang/String")) ({ frames := 4, cells := 6, slots := 12, locals := 66 } : Room) #[.int l_, .int x, .int y] vm h (fun v vm' h' => ∃ a, v = some (.ref a) ∧ Ext h h' ∧ Str Z h' a (mkV l_ x y)) := by
  refine Ctr.of_go (L0 := #[.val (.int l_), .val (.int x), .val (.int y)]) (by first | exact plainFor_of_name (by first | (simp [plainName, overriddenIn]; done) | decide +kernel) | decide +kernel) (fun m => by first | (simp [entryFrame, mkF, argsToLocals, Value.category, maxLocals]; done) | rfl) (fun p e s m below meth c vmi chi => ?_)
  refine Go.iload_n 1 d_m3_0 rfl rfl ?_
  refine Go.ifne 15 4 d_m3_1 (by decide) rfl rfl (fun q0 => ?_) (fun q0 => ?_)
  · refine Go.iload_n 16 d_m3_15 rfl rfl ?_
    refine Go.iconst (1) 17 d_m3_16 rfl rfl ?_
    refine Go.if_icmpne 35 20 d_m3_17 (by decide) rfl rfl (fun q1 => ?_) (fun q1 => ?_)
    · refine Go.new 38 d_m3_35 rfl (W.1 4 rfl) (W.1 5 rfl) (W.1 6 rfl) (nl rfl) (nl rfl) (fun x1 h1 e1 E1 ⟨A1, D1⟩ S1 z1 c1 => ?_)
      refine Go.dup 39 d_m3_38 rfl rfl ?_
      refine Go.iconst (2) 40 d_m3_39 rfl rfl ?_
      refine Go.newarray 2 42 d_m3_40 rfl (W.1 7 rfl) (by decide) (by decide) (by decide) (nl rfl) (nl rfl) (fun b1 h2 e2 E2 ⟨k2, B2⟩ S2 z2 c2 => ?_)
      have A2 : Arv Z h2 b1 k2 .char (2 : Int32) [.int 0, .int 0] (.int 0) := B2.pad (pad_rep [] (.int 0) 2)
      refine Go.dup 43 d_m3_42 rfl rfl ?_
      refine Go.iconst (0) 44 d_m3_43 rfl rfl ?_
      refine Go.iload_n 45 d_m3_44 rfl rfl ?_
      refine Go.castore 0 x [.int x, .int 0] 46 d_m3_45 rfl A2 (by decide) rfl (nl rfl) (narC bx) rfl S2 z2 (fun h3 K3 A3 S3 c3 => ?_)
      have E3 := Ext.kp1 E2 K3 e2
      refine Go.dup 47 d_m3_46 rfl rfl ?_
      refine Go.iconst (1) 48 d_m3_47 rfl rfl ?_
      refine Go.iload_n 49 d_m3_48 rfl rfl ?_
      refine Go.castore 1 y [.int x, .int y] 50 d_m3_49 rfl A3 (by decide) rfl (nl rfl) (narC hy) rfl S3 z2 (fun h4 K4 A4 S4 c4 => ?_)
      have E4 := Ext.kp1 E3 K4 e2
      have f6 := D1 (Or.inr (W.1 33 rfl)) (ty := (.array .byte)) (by decide)
      have f7 := D1 (Or.inr (W.1 31 rfl)) (ty := .byte) (by decide)
      have f8 := A1.ext E4
      have f9 := f6.ext E4
      have f10 := f7.ext E4
      have f11 := CHr.safe (CHr.trans c2 (CHr.trans c3 c4)) A1.lt S1
      have L11 := Nat.lt_of_lt_of_le A1.lt (CHr.trans c2 (CHr.trans c3 c4)).2.1
      refine goStrNew W 1 [x, y] 53 d_m3_50 rfl (W.1 8 rfl) f8 f9 f10 A4 rfl (nl rfl) (nl rfl) (by intro c hc; simp only [List.mem_cons, List.not_mem_nil, or_false] at hc; rcases hc with rfl | rfl <;> assumption) rfl rfl (nl rfl) (nl rfl) (nl rfl) (nl rfl) (nl rfl) f11 z1 (fun h5 K5 T5 c5 => ?_)
      have E5 := Ext.kp1 (Ext.tr E1 E4) K5 e1
      have R : mkV l_ x y = [x, y] := by unfold mkV; rw [if_neg q0, if_neg q1]
      exact Go.areturn d_m3_53 rfl rfl rfl (nl rfl) (nl rfl) (fun vm' ch => ⟨_, rfl, E5, R ▸ T5⟩)
    · refine Go.new 23 d_m3_20 rfl (W.1 4 rfl) (W.1 5 rfl) (W.1 6 rfl) (nl rfl) (nl rfl) (fun x1 h12 e12 E12 ⟨A12, D12⟩ S12 z12 c12 => ?_)
      refine Go.dup 24 d_m3_23 rfl rfl ?_
      refine Go.iconst (1) 25 d_m3_24 rfl rfl ?_
      refine Go.newarray 1 27 d_m3_25 rfl (W.1 7 rfl) (by decide) (by decide) (by decide) (nl rfl) (nl rfl) (fun b1 h13 e13 E13 ⟨k13, B13⟩ S13 z13 c13 => ?_)
      have A13 : Arv Z h13 b1 k13 .char (1 : Int32) [.int 0] (.int 0) := B13.pad (pad_rep [] (.int 0) 1)
      refine Go.dup 28 d_m3_27 rfl rfl ?_
      refine Go.iconst (0) 29 d_m3_28 rfl rfl ?_
      refine Go.iload_n 30 d_m3_29 rfl rfl ?_
      refine Go.castore 0 x [.int x] 31 d_m3_30 rfl A13 (by decide) rfl (nl rfl) (narC bx) rfl S13 z13 (fun h14 K14 A14 S14 c14 => ?_)
      have E14 := Ext.kp1 E13 K14 e13
      have f16 := D12 (Or.inr (W.1 33 rfl)) (ty := (.array .byte)) (by decide)
      have f17 := D12 (Or.inr (W.1 31 rfl)) (ty := .byte) (by decide)
      have f18 := A12.ext E14
      have f19 := f16.ext E14
      have f20 := f17.ext E14
      have f21 := CHr.safe (CHr.trans c13 c14) A12.lt S12
      have L21 := Nat.lt_of_lt_of_le A12.lt (CHr.trans c13 c14).2.1
      refine goStrNew W 1 [x] 34 d_m3_31 rfl (W.1 8 rfl) f18 f19 f20 A14 rfl (nl rfl) (nl rfl) (by intro c hc; simp only [List.mem_cons, List.not_mem_nil, or_false] at hc; rcases hc with rfl <;> assumption) rfl rfl (nl rfl) (nl rfl) (nl rfl) (nl rfl) (nl rfl) f21 z12 (fun h15 K15 T15 c15 => ?_)
      have E15 := Ext.kp1 (Ext.tr E12 E14) K15 e12
      have R : mkV l_ x y = [x] := by unfold mkV; rw [if_neg q0, if_pos q1]
      exact Go.areturn d_m3_34 rfl rfl rfl (nl rfl) (nl rfl) (fun vm' ch => ⟨_, rfl, E15, R ▸ T15⟩)
  · refine Go.new 7 d_m3_4 rfl (W.1 4 rfl) (W.1 5 rfl) (W.1 6 rfl) (nl rfl) (nl rfl) (fun x1 h22 e22 E22 ⟨A22, D22⟩ S22 z22 c22 => ?_)
    refine Go.dup 8 d_m3_7 rfl rfl ?_
    refine Go.iconst (0) 9 d_m3_8 rfl rfl ?_
    refine Go.newarray 0 11 d_m3_9 rfl (W.1 7 rfl) (by decide) (by decide) (by decide) (nl rfl) (nl rfl) (fun b1 h23 e23 E23 ⟨k23, B23⟩ S23 z23 c23 => ?_)
    have A23 : Arv Z h23 b1 k23 .char (0 : Int32) [] (.int 0) := B23.pad (pad_rep [] (.int 0) 0)
    have f24 := D22 (Or.inr (W.1 33 rfl)) (ty := (.array .byte)) (by decide)
    have f25 := D22 (Or.inr (W.1 31 rfl)) (ty := .byte) (by decide)
    have f26 := A22.ext E23
    have f27 := f24.ext E23
    have f28 := f25.ext E23
    have f29 := CHr.safe c23 A22.lt S22
    have L29 := Nat.lt_of_lt_of_le A22.lt c23.2.1
    refine Go.invokespecial (rest := [.ref x1]) 1 x1 [.ref b1] 14 d_m3_11 rfl rfl (W.1 8 rfl) (W.1 9 rfl) (W.1 6 rfl) (W.1 10 rfl) (by decide) (cEmp1 W hm f26 f27 f28 A23 f29 z22) (by decide +kernel : parseMethodDescriptor "([C)V" = some ⟨[(.array .char)], none⟩) rfl rfl rfl (nl rfl) (nl rfl) (nl rfl) (nl rfl) (nl rfl) (fun v30 vm30 h30 ⟨rv, K30, T30⟩ c30 => ?_)
    subst rv
    have E30 := Ext.kp1 (Ext.tr E22 E23) K30 e22
    have R : mkV l_ x y = [] := by unfold mkV; rw [if_pos q0]
    exact Go.areturn d_m3_14 rfl rfl rfl (nl rfl) (nl rfl) (fun vm' ch => ⟨_, rfl, E30, R ▸ T30⟩)
theorem d_prog_34_m7_0 : decode prog_34_method_7_code 0 = .ok (.new 50, 3) := by decide +kernel
theorem d_prog_34_m7_3 : decode prog_34_method_7_code 3 = .ok (.dup, 1) := by decide +kernel
theorem d_prog_34_m7_4 : decode prog_34_method_7_code 4 = .ok (.invokespecial 52, 3) := by decide +kernel
theorem d_prog_34_m7_7 : decode prog_34_method_7_code 7 = .ok (.aload_n 0, 1) := by decide +kernel
theorem d_prog_34_m7_8 : decode prog_34_method_7_code 8 = .ok (.getfield 12, 3) := by decide +kernel
theorem d_prog_34_m7_11 : decode prog_34_method_7_code 11 = .ok (.invokevirtual 53, 3) := by decide +kernel
theorem d_prog_34_m7_14 : decode prog_34_method_7_code 14 = .ok (.ldc 57, 2) := by decide +kernel
theorem d_prog_34_m7_16 : decode prog_34_method_7_code 16 = .ok (.invokevirtual 53, 3) := by decide +kernel
theorem d_prog_34_m7_19 : decode prog_34_method_7_code 19 = .ok (.aload_n 0, 1) := by decide +kernel
theorem d_prog_34_m7_20 : decode prog_34_method_7_code 20 = .ok (.getfield 16, 3) := by decide +kernel
theorem d_prog_34_m7_23 : decode prog_34_method_7_code 23 = .ok (.invokevirtual 53, 3) := by decide +kernel
theorem d_prog_34_m7_26 : decode prog_34_method_7_code 26 = .ok (.invokevirtual 59, 3) := by decide +kernel
theorem d_prog_34_m7_29 : decode prog_34_method_7_code 29 = .ok (.areturn, 1) := by decide +kernel
set_option maxRecDepth 65536 in
set_option maxHeartbeats 40000000 in
theorem cPT {l : Launch} {Z : State} {a0 : Array Value} (W : Wd Z a0) {EL : List (String × Nat)} {vm : Vm} {h : Heap} {a s1 s2 : Addr} {r : Int32} {d1 d2 : List Int32} (hm : ("com/example/token_to_key/tokentokey/s3/Permission", 57) ∈ EL) (P : Exa Z h a "com/example/token_to_key/tokentokey/s3/Permission" ∧ Fld Z h a "com/example/token_to_key/tokentokey/s3/Permission" "action" "Ljava/lang/String;" (.ref s1) ∧ Fld Z h a "com/example/token_to_key/tokentokey/s3/Permission" "resource" "Ljava/lang/String;" (.ref s2) ∧ Fld Z h a "com/example/token_to_key/tokentokey/s3/Permission" "mustBeAllowed" "Z" (.int r)) (T1 : Str Z h s1 d1) (T2 : Str Z h s2 d2) (hl : d1.length + 4 + d2.length < 16) :
    Ctr false l Z a0 EL (⟨"com/example/token_to_key/tokentokey/s3/Permission", "toString", "()Ljava/lang/String;"⟩ : MethodName) prog_34_method_7_code 1 (some (.object "java/lang/String")) ({ frames := 6, cells := 6, slots := 60, locals := 91 } : Room) #[.ref a] vm h (fun v vm' h' => ∃ z, v = some (.ref z) ∧ Ext h h' ∧ Str Z h' z ((d1 ++ [32, 111, 110, 32]) ++ d2)) := by
  refine Ctr.of_go (L0 := #[.val (.ref a)]) (by first | exact plainFor_of_name (by first | (simp [plainName, overriddenIn]; done) | decide +kernel) | decide +kernel) (fun m => by first | (simp [entryFrame, mkF, argsToLocals, Value.category, maxLocals]; done) | rfl) (fun p e s m below meth c vmi chi => ?_)
  refine Go.new 3 d_prog_34_m7_0 rfl (W.1 58 rfl) (W.1 59 rfl) (W.1 60 rfl) (nl rfl) (nl rfl) (fun b h1 e1 E1 ⟨A1, D1⟩ S1 z1 c1 => ?_)
  refine Go.dup 4 d_prog_34_m7_3 rfl rfl ?_
  have f2 := D1 (Or.inl (W.1 73 rfl)) (ty := (.array .byte)) (by decide)
  have f3 := D1 (Or.inl (W.1 75 rfl)) (ty := .byte) (by decide)
  have f4 := D1 (Or.inl (W.1 97 rfl)) (ty := .int) (by decide)
  refine Go.invokespecial (rest := [.ref b]) 1 b [] 7 d_prog_34_m7_4 rfl rfl (W.1 61 rfl) (W.1 62 rfl) (W.1 60 rfl) (W.1 63 rfl) (by decide) (cSb0 W A1 f2 f3 f4 S1 z1) (by decide +kernel : parseMethodDescriptor "()V" = some ⟨[], none⟩) rfl rfl rfl (nl rfl) (nl rfl) (nl rfl) (nl rfl) (nl rfl) (fun v5 vm5 h5 ⟨rv, K0, d, kd, B0, hd, Sd0⟩ c5 => ?_)
  subst rv
  have EE0 := Ext.kp1 E1 K0 e1
  have hb : h.size ≤ b := Nat.le_of_eq e1.symm
  have hdh : h.size ≤ d := Nat.le_trans hb (Nat.le_trans (Nat.le_of_lt A1.lt) hd)
  have zd : Z.heap.size ≤ d := Nat.le_trans z1 (Nat.le_trans (Nat.le_of_lt A1.lt) hd)
  have nd : d ≠ b := fun q => absurd A1.lt (by rw [← q]; exact Nat.not_lt.mpr hd)
  refine Go.aload_n 8 d_prog_34_m7_7 rfl rfl rfl ?_
  have f6 := P.2.1.ext EE0
  refine Go.getfield 11 d_prog_34_m7_8 rfl (W.1 47 rfl) f6 ?_
  have f7 := T1.ext EE0
  have f8 := CHr.safe c5 A1.lt S1
  have L8 := Nat.lt_of_lt_of_le A1.lt c5.2.1
  refine Go.invokevirtual (rest := []) 0 b [.ref s1] 14 d_prog_34_m7_11 rfl B0.1 (W.1 76 rfl) (W.1 77 rfl) (fun s hs => notFace_of_selects (args := #[]) (mvT hs (W.1 79 rfl))) (W.1 79 rfl) (W.1 78 rfl) (W.1 60 rfl) (W.1 80 rfl) (by decide) (cAppS W f7 B0 (by simp only [List.length_append, List.length_cons, List.length_nil]; omega) f8 z1 Sd0 zd nd) (by decide +kernel : parseMethodDescriptor "(Ljava/lang/String;)Ljava/lang/StringBuilder;" = some ⟨[(.object "java/lang/String")], (some (.object "java/lang/StringBuilder"))⟩) rfl rfl rfl (nl rfl) (nl rfl) (nl rfl) (nl rfl) (nl rfl) (fun v9 vm9 h9 ⟨rv, KK1, BB1⟩ c9 => ?_)
  subst rv
  have EE1 := Ext.kp2 EE0 KK1 hb hdh
  refine Go.ldcS (text := " on ") (vs := [.int (32), .int (111), .int (110), .int (32)]) (z := (4 : Int32)) 16 16 d_prog_34_m7_14 rfl rfl (W.1 123 rfl) (W.sub (by decide +kernel)) hm lit_ok__20on_20.1 (by decide) (by decide) lit_ok__20on_20.2 (by decide) (nl rfl) (nl rfl) (fun y1 b10 k10 vm10 h10 E10 A10 C10 V10 B10 N10 c10 => ?_)
  have T10 : Str Z h10 y1 [32, 111, 110, 32] := ⟨b10, k10, A10, C10, V10, B10, by decide, by decide⟩
  have f11 := BB1.ext E10
  have f12 := CHr.safe (CHr.trans c9 c10) L8 f8
  have L12 := Nat.lt_of_lt_of_le L8 (CHr.trans c9 c10).2.1
  have f13 := CHr.safe (CHr.trans c9 c10) B0.2.2.2.2.1.lt Sd0
  have L13 := Nat.lt_of_lt_of_le B0.2.2.2.2.1.lt (CHr.trans c9 c10).2.1
  refine Go.invokevirtual (rest := []) 0 b [.ref y1] 19 d_prog_34_m7_16 rfl f11.1 (W.1 76 rfl) (W.1 77 rfl) (fun s hs => notFace_of_selects (args := #[]) (mvT hs (W.1 79 rfl))) (W.1 79 rfl) (W.1 78 rfl) (W.1 60 rfl) (W.1 80 rfl) (by decide) (cAppS W T10 f11 (by simp only [List.length_append, List.length_cons, List.length_nil]; omega) f12 z1 f13 zd nd) (by decide +kernel : parseMethodDescriptor "(Ljava/lang/String;)Ljava/lang/StringBuilder;" = some ⟨[(.object "java/lang/String")], (some (.object "java/lang/StringBuilder"))⟩) rfl rfl rfl (nl rfl) (nl rfl) (nl rfl) (nl rfl) (nl rfl) (fun v14 vm14 h14 ⟨rv, KK2, BB2⟩ c14 => ?_)
  subst rv
  have EE2 := Ext.kp2 (Ext.tr EE1 E10) KK2 hb hdh
  refine Go.aload_n 20 d_prog_34_m7_19 rfl rfl rfl ?_
  have f15 := P.2.2.1.ext EE2
  refine Go.getfield 23 d_prog_34_m7_20 rfl (W.1 49 rfl) f15 ?_
  have f16 := T2.ext EE2
  have f17 := CHr.safe c14 L12 f12
  have L17 := Nat.lt_of_lt_of_le L12 c14.2.1
  have f18 := CHr.safe c14 L13 f13
  have L18 := Nat.lt_of_lt_of_le L13 c14.2.1
  refine Go.invokevirtual (rest := []) 0 b [.ref s2] 26 d_prog_34_m7_23 rfl BB2.1 (W.1 76 rfl) (W.1 77 rfl) (fun s hs => notFace_of_selects (args := #[]) (mvT hs (W.1 79 rfl))) (W.1 79 rfl) (W.1 78 rfl) (W.1 60 rfl) (W.1 80 rfl) (by decide) (cAppS W f16 BB2 (by simp only [List.length_append, List.length_cons, List.length_nil]; omega) f17 z1 f18 zd nd) (by decide +kernel : parseMethodDescriptor "(Ljava/lang/String;)Ljava/lang/StringBuilder;" = some ⟨[(.object "java/lang/String")], (some (.object "java/lang/StringBuilder"))⟩) rfl rfl rfl (nl rfl) (nl rfl) (nl rfl) (nl rfl) (nl rfl) (fun v19 vm19 h19 ⟨rv, KK3, BB3⟩ c19 => ?_)
  subst rv
  have EE3 := Ext.kp2 EE2 KK3 hb hdh
  refine Go.invokevirtual (rest := []) 0 b [] 29 d_prog_34_m7_26 rfl BB3.1 (W.1 124 rfl) (W.1 125 rfl) (fun s hs => notFace_of_selects (args := #[]) (mvT hs (W.1 127 rfl))) (W.1 127 rfl) (W.1 126 rfl) (W.1 60 rfl) (W.1 128 rfl) (by decide) (cTS W BB3 (by simp only [List.length_append, List.length_cons, List.length_nil]; omega)) (by decide +kernel : parseMethodDescriptor "()Ljava/lang/String;" = some ⟨[], (some (.object "java/lang/String"))⟩) rfl rfl rfl (nl rfl) (nl rfl) (nl rfl) (nl rfl) (nl rfl) (fun v20 vm20 h20 ⟨z, rv, E9, T9⟩ c20 => ?_)
  subst rv
  exact Go.areturn d_prog_34_m7_29 rfl rfl rfl (nl rfl) (nl rfl) (fun vm' ch => ⟨z, rfl, (Ext.tr EE3 E9), T9⟩)
theorem d_m5_0 : decode method_5_code 0 = .ok (.iload_n 0, 1) := by decide +kernel
theorem d_m5_1 : decode method_5_code 1 = .ok (.iload_n 1, 1) := by decide +kernel
theorem d_m5_2 : decode method_5_code 2 = .ok (.if_icmp .ge 13, 3) := by decide +kernel
theorem d_m5_5 : decode method_5_code 5 = .ok (.iload_n 0, 1) := by decide +kernel
theorem d_m5_6 : decode method_5_code 6 = .ok (.ifCond .ne 7, 3) := by decide +kernel
theorem d_m5_9 : decode method_5_code 9 = .ok (.iload_n 2, 1) := by decide +kernel
theorem d_m5_10 : decode method_5_code 10 = .ok (.goto 4, 3) := by decide +kernel
theorem d_m5_13 : decode method_5_code 13 = .ok (.iload_n 3, 1) := by decide +kernel
theorem d_m5_14 : decode method_5_code 14 = .ok (.ireturn, 1) := by decide +kernel
theorem d_m5_15 : decode method_5_code 15 = .ok (.iload_n 0, 1) := by decide +kernel
theorem d_m5_16 : decode method_5_code 16 = .ok (.iload_n 1, 1) := by decide +kernel
theorem d_m5_17 : decode method_5_code 17 = .ok (.isub, 1) := by decide +kernel
theorem d_m5_18 : decode method_5_code 18 = .ok (.istore 6, 2) := by decide +kernel
theorem d_m5_20 : decode method_5_code 20 = .ok (.iload 6, 2) := by decide +kernel
theorem d_m5_22 : decode method_5_code 22 = .ok (.iconst 4, 1) := by decide +kernel
theorem d_m5_23 : decode method_5_code 23 = .ok (.if_icmp .ge 32, 3) := by decide +kernel
theorem d_m5_26 : decode method_5_code 26 = .ok (.iload 6, 2) := by decide +kernel
theorem d_m5_28 : decode method_5_code 28 = .ok (.ifCond .ne 6, 3) := by decide +kernel
theorem d_m5_31 : decode method_5_code 31 = .ok (.bipush 32, 2) := by decide +kernel
theorem d_m5_33 : decode method_5_code 33 = .ok (.ireturn, 1) := by decide +kernel
theorem d_m5_34 : decode method_5_code 34 = .ok (.iload 6, 2) := by decide +kernel
theorem d_m5_36 : decode method_5_code 36 = .ok (.iconst 1, 1) := by decide +kernel
theorem d_m5_37 : decode method_5_code 37 = .ok (.if_icmp .ne 6, 3) := by decide +kernel
theorem d_m5_40 : decode method_5_code 40 = .ok (.bipush 111, 2) := by decide +kernel
theorem d_m5_42 : decode method_5_code 42 = .ok (.ireturn, 1) := by decide +kernel
theorem d_m5_43 : decode method_5_code 43 = .ok (.iload 6, 2) := by decide +kernel
theorem d_m5_45 : decode method_5_code 45 = .ok (.iconst 2, 1) := by decide +kernel
theorem d_m5_46 : decode method_5_code 46 = .ok (.if_icmp .ne 6, 3) := by decide +kernel
theorem d_m5_49 : decode method_5_code 49 = .ok (.bipush 110, 2) := by decide +kernel
theorem d_m5_51 : decode method_5_code 51 = .ok (.ireturn, 1) := by decide +kernel
theorem d_m5_52 : decode method_5_code 52 = .ok (.bipush 32, 2) := by decide +kernel
theorem d_m5_54 : decode method_5_code 54 = .ok (.ireturn, 1) := by decide +kernel
theorem d_m5_55 : decode method_5_code 55 = .ok (.iload 6, 2) := by decide +kernel
theorem d_m5_57 : decode method_5_code 57 = .ok (.iconst 4, 1) := by decide +kernel
theorem d_m5_58 : decode method_5_code 58 = .ok (.isub, 1) := by decide +kernel
theorem d_m5_59 : decode method_5_code 59 = .ok (.istore 7, 2) := by decide +kernel
theorem d_m5_61 : decode method_5_code 61 = .ok (.iload 7, 2) := by decide +kernel
theorem d_m5_63 : decode method_5_code 63 = .ok (.ifCond .ne 8, 3) := by decide +kernel
theorem d_m5_66 : decode method_5_code 66 = .ok (.iload 4, 2) := by decide +kernel
theorem d_m5_68 : decode method_5_code 68 = .ok (.goto 5, 3) := by decide +kernel
theorem d_m5_71 : decode method_5_code 71 = .ok (.iload 5, 2) := by decide +kernel
theorem d_m5_73 : decode method_5_code 73 = .ok (.ireturn, 1) := by decide +kernel
set_option maxRecDepth 65536 in
set_option maxHeartbeats 40000000 in
theorem cExp {l : Launch} {Z : State} {a0 : Array Value} (W : Wd Z a0) {EL : List (String × Nat)} {vm : Vm} {h : Heap} {nw : Bool} {i_ la a0_ a1_ r0_ r1_ : Int32} (ba0_ : ¬ a0_ < 0 ∧ ¬ (255 : Int32) < a0_) (ba1_ : ¬ a1_ < 0 ∧ ¬ (255 : Int32) < a1_) (br0_ : ¬ r0_ < 0 ∧ ¬ (255 : Int32) < r0_) (br1_ : ¬ r1_ < 0 ∧ ¬ (255 : Int32) < r1_) :
    Ctr nw l Z a0 EL (⟨"com/example/token_to_key/tokentokey/s3/PermissionToStringPinLaw", "expected", "(IICCCC)C"⟩ : MethodName) method_5_code 8 (some .char) ({ frames := 0, cells := 0, slots := 0, locals := 0 } : Room) #[.int i_, .int la, .int a0_, .int a1_, .int r0_, .int r1_] vm h (fun v vm' h' => v = some (.int (expV i_ la a0_ a1_ r0_ r1_)) ∧ h' = h) := by
  refine Ctr.of_go (L0 := #[.val (.int i_), .val (.int la), .val (.int a0_), .val (.int a1_), .val (.int r0_), .val (.int r1_), .unset, .unset]) (by first | exact plainFor_of_name (by first | (simp [plainName, overriddenIn]; done) | decide +kernel) | decide +kernel) (fun m => by first | (simp [entryFrame, mkF, argsToLocals, Value.category, maxLocals]; done) | rfl) (fun p e s m below meth c vmi chi => ?_)
  refine Go.iload_n 1 d_m5_0 rfl rfl ?_
  refine Go.iload_n 2 d_m5_1 rfl rfl ?_
  refine Go.if_icmpge 15 5 d_m5_2 (by decide) rfl rfl (fun g1 => ?_) (fun g1 => ?_)
  · refine Go.iload_n 16 d_m5_15 rfl rfl ?_
    refine Go.iload_n 17 d_m5_16 rfl rfl ?_
    refine Go.isub (i_ - la) 18 d_m5_17 rfl rfl ?_
    refine Go.istore #[.val (.int i_), .val (.int la), .val (.int a0_), .val (.int a1_), .val (.int r0_), .val (.int r1_), .val (.int (i_ - la)), .unset] 20 d_m5_18 rfl rfl ?_
    refine Go.iload 22 d_m5_20 rfl rfl ?_
    refine Go.iconst (4) 23 d_m5_22 rfl rfl ?_
    refine Go.if_icmpge 55 26 d_m5_23 (by decide) rfl rfl (fun g2 => ?_) (fun g2 => ?_)
    · refine Go.iload 57 d_m5_55 rfl rfl ?_
      refine Go.iconst (4) 58 d_m5_57 rfl rfl ?_
      refine Go.isub ((i_ - la) - (4 : Int32)) 59 d_m5_58 rfl rfl ?_
      refine Go.istore #[.val (.int i_), .val (.int la), .val (.int a0_), .val (.int a1_), .val (.int r0_), .val (.int r1_), .val (.int (i_ - la)), .val (.int ((i_ - la) - (4 : Int32)))] 61 d_m5_59 rfl rfl ?_
      refine Go.iload 63 d_m5_61 rfl rfl ?_
      refine Go.ifne 71 66 d_m5_63 (by decide) rfl rfl (fun g7 => ?_) (fun g7 => ?_)
      · refine Go.iload 73 d_m5_71 rfl rfl ?_
        have R : expV i_ la a0_ a1_ r0_ r1_ = r1_ := by unfold expV; rw [if_neg g1, if_neg g2, if_neg g7]
        exact Go.ireturn d_m5_73 rfl (narCv br1_) (by simp) (nl rfl) (nl rfl) (fun vm' ch => ⟨congrArg (fun z => some (Value.int z)) R.symm, rfl⟩)
      · refine Go.iload 68 d_m5_66 rfl rfl ?_
        refine Go.goto 73 d_m5_68 (by decide) rfl ?_
        have R : expV i_ la a0_ a1_ r0_ r1_ = r0_ := by unfold expV; rw [if_neg g1, if_neg g2, if_pos g7]
        exact Go.ireturn d_m5_73 rfl (narCv br0_) (by simp) (nl rfl) (nl rfl) (fun vm' ch => ⟨congrArg (fun z => some (Value.int z)) R.symm, rfl⟩)
    · refine Go.iload 28 d_m5_26 rfl rfl ?_
      refine Go.ifne 34 31 d_m5_28 (by decide) rfl rfl (fun g3 => ?_) (fun g3 => ?_)
      · refine Go.iload 36 d_m5_34 rfl rfl ?_
        refine Go.iconst (1) 37 d_m5_36 rfl rfl ?_
        refine Go.if_icmpne 43 40 d_m5_37 (by decide) rfl rfl (fun g4 => ?_) (fun g4 => ?_)
        · refine Go.iload 45 d_m5_43 rfl rfl ?_
          refine Go.iconst (2) 46 d_m5_45 rfl rfl ?_
          refine Go.if_icmpne 52 49 d_m5_46 (by decide) rfl rfl (fun g5 => ?_) (fun g5 => ?_)
          · refine Go.bipush (32) 54 d_m5_52 rfl rfl ?_
            have R : expV i_ la a0_ a1_ r0_ r1_ = (32 : Int32) := by unfold expV; rw [if_neg g1, if_pos g2, if_neg g3, if_neg g4, if_neg g5]
            exact Go.ireturn d_m5_54 rfl (narCv (by decide)) (by simp) (nl rfl) (nl rfl) (fun vm' ch => ⟨congrArg (fun z => some (Value.int z)) R.symm, rfl⟩)
          · refine Go.bipush (110) 51 d_m5_49 rfl rfl ?_
            have R : expV i_ la a0_ a1_ r0_ r1_ = (110 : Int32) := by unfold expV; rw [if_neg g1, if_pos g2, if_neg g3, if_neg g4, if_pos g5]
            exact Go.ireturn d_m5_51 rfl (narCv (by decide)) (by simp) (nl rfl) (nl rfl) (fun vm' ch => ⟨congrArg (fun z => some (Value.int z)) R.symm, rfl⟩)
        · refine Go.bipush (111) 42 d_m5_40 rfl rfl ?_
          have R : expV i_ la a0_ a1_ r0_ r1_ = (111 : Int32) := by unfold expV; rw [if_neg g1, if_pos g2, if_neg g3, if_pos g4]
          exact Go.ireturn d_m5_42 rfl (narCv (by decide)) (by simp) (nl rfl) (nl rfl) (fun vm' ch => ⟨congrArg (fun z => some (Value.int z)) R.symm, rfl⟩)
      · refine Go.bipush (32) 33 d_m5_31 rfl rfl ?_
        have R : expV i_ la a0_ a1_ r0_ r1_ = (32 : Int32) := by unfold expV; rw [if_neg g1, if_pos g2, if_pos g3]
        exact Go.ireturn d_m5_33 rfl (narCv (by decide)) (by simp) (nl rfl) (nl rfl) (fun vm' ch => ⟨congrArg (fun z => some (Value.int z)) R.symm, rfl⟩)
  · refine Go.iload_n 6 d_m5_5 rfl rfl ?_
    refine Go.ifne 13 9 d_m5_6 (by decide) rfl rfl (fun g8 => ?_) (fun g8 => ?_)
    · refine Go.iload_n 14 d_m5_13 rfl rfl ?_
      have R : expV i_ la a0_ a1_ r0_ r1_ = a1_ := by unfold expV; rw [if_pos g1, if_neg g8]
      exact Go.ireturn d_m5_14 rfl (narCv ba1_) (by simp) (nl rfl) (nl rfl) (fun vm' ch => ⟨congrArg (fun z => some (Value.int z)) R.symm, rfl⟩)
    · refine Go.iload_n 10 d_m5_9 rfl rfl ?_
      refine Go.goto 14 d_m5_10 (by decide) rfl ?_
      have R : expV i_ la a0_ a1_ r0_ r1_ = a0_ := by unfold expV; rw [if_pos g1, if_pos g8]
      exact Go.ireturn d_m5_14 rfl (narCv ba0_) (by simp) (nl rfl) (nl rfl) (fun vm' ch => ⟨congrArg (fun z => some (Value.int z)) R.symm, rfl⟩)
theorem d_m4_0 : decode method_4_code 0 = .ok (.iload_n 1, 1) := by decide +kernel
theorem d_m4_1 : decode method_4_code 1 = .ok (.iload_n 2, 1) := by decide +kernel
theorem d_m4_2 : decode method_4_code 2 = .ok (.if_icmp .lt 5, 3) := by decide +kernel
theorem d_m4_5 : decode method_4_code 5 = .ok (.iconst 1, 1) := by decide +kernel
theorem d_m4_6 : decode method_4_code 6 = .ok (.ireturn, 1) := by decide +kernel
theorem d_m4_7 : decode method_4_code 7 = .ok (.aload_n 0, 1) := by decide +kernel
theorem d_m4_8 : decode method_4_code 8 = .ok (.iload_n 1, 1) := by decide +kernel
theorem d_m4_9 : decode method_4_code 9 = .ok (.invokevirtual 35, 3) := by decide +kernel
theorem d_m4_12 : decode method_4_code 12 = .ok (.iload_n 1, 1) := by decide +kernel
theorem d_m4_13 : decode method_4_code 13 = .ok (.iload_n 3, 1) := by decide +kernel
theorem d_m4_14 : decode method_4_code 14 = .ok (.iload 4, 2) := by decide +kernel
theorem d_m4_16 : decode method_4_code 16 = .ok (.iload 5, 2) := by decide +kernel
theorem d_m4_18 : decode method_4_code 18 = .ok (.iload 6, 2) := by decide +kernel
theorem d_m4_20 : decode method_4_code 20 = .ok (.iload 7, 2) := by decide +kernel
theorem d_m4_22 : decode method_4_code 22 = .ok (.invokestatic 39, 3) := by decide +kernel
theorem d_m4_25 : decode method_4_code 25 = .ok (.if_icmp .ne 7, 3) := by decide +kernel
theorem d_m4_28 : decode method_4_code 28 = .ok (.iconst 1, 1) := by decide +kernel
theorem d_m4_29 : decode method_4_code 29 = .ok (.goto 4, 3) := by decide +kernel
theorem d_m4_32 : decode method_4_code 32 = .ok (.iconst 0, 1) := by decide +kernel
theorem d_m4_33 : decode method_4_code 33 = .ok (.ireturn, 1) := by decide +kernel
set_option maxRecDepth 65536 in
set_option maxHeartbeats 40000000 in
theorem cAt {l : Launch} {Z : State} {a0 : Array Value} (W : Wd Z a0) {EL : List (String × Nat)} {vm : Vm} {h : Heap} {nw : Bool} {s_ : Addr} {i : Nat} {cs : List Int32} {la a0_ a1_ r0_ r1_ : Int32} (ba0_ : ¬ a0_ < 0 ∧ ¬ (255 : Int32) < a0_) (ba1_ : ¬ a1_ < 0 ∧ ¬ (255 : Int32) < a1_) (br0_ : ¬ r0_ < 0 ∧ ¬ (255 : Int32) < r0_) (br1_ : ¬ r1_ < 0 ∧ ¬ (255 : Int32) < r1_) (hi : i < 8) (T : Str Z h s_ cs) (hq : i < cs.length → cs.getD i 0 = expV (Int32.ofNat i) la a0_ a1_ r0_ r1_) :
    Ctr nw l Z a0 EL (⟨"com/example/token_to_key/tokentokey/s3/PermissionToStringPinLaw", "at", "(Ljava/lang/String;IIICCCC)Z"⟩ : MethodName) method_4_code 8 (some .boolean) ({ frames := 4, cells := 0, slots := 0, locals := 53 } : Room) #[.ref s_, .int (Int32.ofNat i), .int (Int32.ofNat cs.length), .int la, .int a0_, .int a1_, .int r0_, .int r1_] vm h (fun v vm' h' => v = some (.int 1) ∧ h' = h) := by
  refine Ctr.of_go (L0 := #[.val (.ref s_), .val (.int (Int32.ofNat i)), .val (.int (Int32.ofNat cs.length)), .val (.int la), .val (.int a0_), .val (.int a1_), .val (.int r0_), .val (.int r1_)]) (by first | exact plainFor_of_name (by first | (simp [plainName, overriddenIn]; done) | decide +kernel) | decide +kernel) (fun m => by first | (simp [entryFrame, mkF, argsToLocals, Value.category, maxLocals]; done) | rfl) (fun p e s m below meth c vmi chi => ?_)
  refine Go.iload_n 1 d_m4_0 rfl rfl ?_
  refine Go.iload_n 2 d_m4_1 rfl rfl ?_
  refine Go.if_icmplt 7 5 d_m4_2 (by decide) rfl rfl (fun ql => ?_) (fun ql => ?_)
  · refine Go.aload_n 8 d_m4_7 rfl rfl rfl ?_
    refine Go.iload_n 9 d_m4_8 rfl rfl ?_
    have hl : i < cs.length := (ofNat_lt (by omega) (by have := T.len; omega)).mp ql
    refine goStrAt W 0 i (cs.getD i 0) 12 d_m4_9 rfl (W.1 173 rfl) T hl rfl rfl rfl rfl (nl rfl) (nl rfl) (nl rfl) (nl rfl) (nl rfl) ?_
    refine Go.iload_n 13 d_m4_12 rfl rfl ?_
    refine Go.iload_n 14 d_m4_13 rfl rfl ?_
    refine Go.iload 16 d_m4_14 rfl rfl ?_
    refine Go.iload 18 d_m4_16 rfl rfl ?_
    refine Go.iload 20 d_m4_18 rfl rfl ?_
    refine Go.iload 22 d_m4_20 rfl rfl ?_
    refine Go.invokestatic (rest := [.int (cs.getD i 0)]) 1 [.int (Int32.ofNat i), .int la, .int a0_, .int a1_, .int r0_, .int r1_] 25 d_m4_22 rfl (W.1 195 rfl) (W.1 196 rfl) (W.1 2 rfl) (W.1 197 rfl) (by decide) (cExp W ba0_ ba1_ br0_ br1_) (by decide +kernel : parseMethodDescriptor "(IICCCC)C" = some ⟨[.int, .int, .char, .char, .char, .char], (some .char)⟩) rfl rfl rfl (nl rfl) (nl rfl) (nl rfl) (nl rfl) (nl rfl) (fun v1 vm1 h1 ⟨rv, hh⟩ c1 => ?_)
    subst rv; replace hh := hh.symm; subst hh
    refine Go.if_icmpne 32 28 d_m4_25 (by decide) rfl rfl (fun q2 => absurd (hq hl) q2) (fun q2 => ?_)
    refine Go.iconst (1) 29 d_m4_28 rfl rfl ?_
    refine Go.goto 33 d_m4_29 (by decide) rfl ?_
    exact Go.ireturn d_m4_33 rfl rfl (by simp) (nl rfl) (nl rfl) (fun vm' ch => ⟨rfl, rfl⟩)
  · refine Go.iconst (1) 6 d_m4_5 rfl rfl ?_
    exact Go.ireturn d_m4_6 rfl rfl (by simp) (nl rfl) (nl rfl) (fun vm' ch => ⟨rfl, rfl⟩)
set_option maxRecDepth 65536 in
set_option maxHeartbeats 40000000 in
theorem cLaw {l : Launch} {Z : State} {a0 : Array Value} (W : Wd Z a0)  {vm : Vm} {h : Heap} {xa ya za : Int32} :
    Ctr false l Z a0 consts_1 x code maxLocals ret room_1 #[.int xa, .int ya, .int za] vm h (fun v vm' h' => v = some (.int 1)) := by
  refine Ctr.of_go (L0 := #[.val (.int xa), .val (.int ya), .val (.int za), .unset, .unset, .unset, .unset, .unset, .unset, .unset, .unset, .unset, .unset, .unset]) (by first | exact plainFor_of_name (by first | (simp [plainName, overriddenIn]; done) | decide +kernel) | decide +kernel) (fun m => by first | (simp [entryFrame, mkF, argsToLocals, Value.category, maxLocals]; done) | rfl) (fun p e s m below meth c vmi chi => ?_)
  refine Go.iload_n 1 at_0 rfl rfl ?_
  refine Go.iconst (3) 2 at_1 rfl rfl ?_
  refine Go.iand (za &&& (3 : Int32)) 3 at_2 rfl rfl ?_
  refine Go.iconst (3) 4 at_3 rfl rfl ?_
  refine Go.irem ((za &&& (3 : Int32)) % (3 : Int32)) 5 at_4 rfl (by decide) (irem_eq_mod _ _) ?_
  refine Go.istore_n #[.val (.int xa), .val (.int ya), .val (.int za), .val (.int ((za &&& (3 : Int32)) % (3 : Int32))), .unset, .unset, .unset, .unset, .unset, .unset, .unset, .unset, .unset, .unset] 6 at_5 rfl rfl ?_
  refine Go.iload_n 7 at_6 rfl rfl ?_
  refine Go.iconst (2) 8 at_7 rfl rfl ?_
  refine Go.iushr (XT.ushr za (2 : Int32)) 9 at_8 rfl rfl ?_
  refine Go.iconst (3) 10 at_9 rfl rfl ?_
  refine Go.iand ((XT.ushr za (2 : Int32)) &&& (3 : Int32)) 11 at_10 rfl rfl ?_
  refine Go.iconst (3) 12 at_11 rfl rfl ?_
  refine Go.irem (((XT.ushr za (2 : Int32)) &&& (3 : Int32)) % (3 : Int32)) 13 at_12 rfl (by decide) (irem_eq_mod _ _) ?_
  refine Go.istore #[.val (.int xa), .val (.int ya), .val (.int za), .val (.int ((za &&& (3 : Int32)) % (3 : Int32))), .val (.int (((XT.ushr za (2 : Int32)) &&& (3 : Int32)) % (3 : Int32))), .unset, .unset, .unset, .unset, .unset, .unset, .unset, .unset, .unset] 15 at_13 rfl rfl ?_
  refine Go.iload_n 16 at_15 rfl rfl ?_
  refine Go.sipush (255) 19 at_16 rfl rfl ?_
  refine Go.iand (xa &&& (255 : Int32)) 20 at_19 rfl rfl ?_
  refine Go.i2c (xa &&& (255 : Int32)) 21 at_20 rfl (i2c_mask _) ?_
  refine Go.istore #[.val (.int xa), .val (.int ya), .val (.int za), .val (.int ((za &&& (3 : Int32)) % (3 : Int32))), .val (.int (((XT.ushr za (2 : Int32)) &&& (3 : Int32)) % (3 : Int32))), .val (.int (xa &&& (255 : Int32))), .unset, .unset, .unset, .unset, .unset, .unset, .unset, .unset] 23 at_21 rfl rfl ?_
  refine Go.iload_n 24 at_23 rfl rfl ?_
  refine Go.bipush (8) 26 at_24 rfl rfl ?_
  refine Go.iushr (XT.ushr xa (8 : Int32)) 27 at_26 rfl rfl ?_
  refine Go.sipush (255) 30 at_27 rfl rfl ?_
  refine Go.iand ((XT.ushr xa (8 : Int32)) &&& (255 : Int32)) 31 at_30 rfl rfl ?_
  refine Go.i2c ((XT.ushr xa (8 : Int32)) &&& (255 : Int32)) 32 at_31 rfl (i2c_mask _) ?_
  refine Go.istore #[.val (.int xa), .val (.int ya), .val (.int za), .val (.int ((za &&& (3 : Int32)) % (3 : Int32))), .val (.int (((XT.ushr za (2 : Int32)) &&& (3 : Int32)) % (3 : Int32))), .val (.int (xa &&& (255 : Int32))), .val (.int ((XT.ushr xa (8 : Int32)) &&& (255 : Int32))), .unset, .unset, .unset, .unset, .unset, .unset, .unset] 34 at_32 rfl rfl ?_
  refine Go.iload_n 35 at_34 rfl rfl ?_
  refine Go.sipush (255) 38 at_35 rfl rfl ?_
  refine Go.iand (ya &&& (255 : Int32)) 39 at_38 rfl rfl ?_
  refine Go.i2c (ya &&& (255 : Int32)) 40 at_39 rfl (i2c_mask _) ?_
  refine Go.istore #[.val (.int xa), .val (.int ya), .val (.int za), .val (.int ((za &&& (3 : Int32)) % (3 : Int32))), .val (.int (((XT.ushr za (2 : Int32)) &&& (3 : Int32)) % (3 : Int32))), .val (.int (xa &&& (255 : Int32))), .val (.int ((XT.ushr xa (8 : Int32)) &&& (255 : Int32))), .val (.int (ya &&& (255 : Int32))), .unset, .unset, .unset, .unset, .unset, .unset] 42 at_40 rfl rfl ?_
  refine Go.iload_n 43 at_42 rfl rfl ?_
  refine Go.bipush (8) 45 at_43 rfl rfl ?_
  refine Go.iushr (XT.ushr ya (8 : Int32)) 46 at_45 rfl rfl ?_
  refine Go.sipush (255) 49 at_46 rfl rfl ?_
  refine Go.iand ((XT.ushr ya (8 : Int32)) &&& (255 : Int32)) 50 at_49 rfl rfl ?_
  refine Go.i2c ((XT.ushr ya (8 : Int32)) &&& (255 : Int32)) 51 at_50 rfl (i2c_mask _) ?_
  refine Go.istore #[.val (.int xa), .val (.int ya), .val (.int za), .val (.int ((za &&& (3 : Int32)) % (3 : Int32))), .val (.int (((XT.ushr za (2 : Int32)) &&& (3 : Int32)) % (3 : Int32))), .val (.int (xa &&& (255 : Int32))), .val (.int ((XT.ushr xa (8 : Int32)) &&& (255 : Int32))), .val (.int (ya &&& (255 : Int32))), .val (.int ((XT.ushr ya (8 : Int32)) &&& (255 : Int32))), .unset, .unset, .unset, .unset, .unset] 53 at_51 rfl rfl ?_
  refine Go.iload_n 54 at_53 rfl rfl ?_
  refine Go.iload 56 at_54 rfl rfl ?_
  refine Go.iload 58 at_56 rfl rfl ?_
  refine Go.invokestatic (rest := []) 0 [.int ((za &&& (3 : Int32)) % (3 : Int32)), .int (xa &&& (255 : Int32)), .int ((XT.ushr xa (8 : Int32)) &&& (255 : Int32))] 61 at_58 rfl (W.1 0 rfl) (W.1 1 rfl) (W.1 2 rfl) (W.1 3 rfl) (by decide) (cMk W (by decide : ("java/lang/String", 7) ∈ consts_1) (and255 _) (and255 _)) (by decide +kernel : parseMethodDescriptor "(ICC)Ljava/lang/String;" = some ⟨[.int, .char, .char], (some (.object "java/lang/String"))⟩) rfl rfl rfl (nl rfl) (nl rfl) (nl rfl) (nl rfl) (nl rfl) (fun v1 vm1 h1 ⟨u1, rv, E1_, T1_⟩ c1 => ?_)
  subst rv
  refine Go.astore #[.val (.int xa), .val (.int ya), .val (.int za), .val (.int ((za &&& (3 : Int32)) % (3 : Int32))), .val (.int (((XT.ushr za (2 : Int32)) &&& (3 : Int32)) % (3 : Int32))), .val (.int (xa &&& (255 : Int32))), .val (.int ((XT.ushr xa (8 : Int32)) &&& (255 : Int32))), .val (.int (ya &&& (255 : Int32))), .val (.int ((XT.ushr ya (8 : Int32)) &&& (255 : Int32))), .val (.ref u1), .unset, .unset, .unset, .unset] 63 at_61 rfl rfl rfl ?_
  refine Go.iload 65 at_63 rfl rfl ?_
  refine Go.iload 67 at_65 rfl rfl ?_
  refine Go.iload 69 at_67 rfl rfl ?_
  refine Go.invokestatic (rest := []) 0 [.int (((XT.ushr za (2 : Int32)) &&& (3 : Int32)) % (3 : Int32)), .int (ya &&& (255 : Int32)), .int ((XT.ushr ya (8 : Int32)) &&& (255 : Int32))] 72 at_69 rfl (W.1 0 rfl) (W.1 1 rfl) (W.1 2 rfl) (W.1 3 rfl) (by decide) (cMk W (by decide : ("java/lang/String", 7) ∈ consts_1) (and255 _) (and255 _)) (by decide +kernel : parseMethodDescriptor "(ICC)Ljava/lang/String;" = some ⟨[.int, .char, .char], (some (.object "java/lang/String"))⟩) rfl rfl rfl (nl rfl) (nl rfl) (nl rfl) (nl rfl) (nl rfl) (fun v2 vm2 h2 ⟨u2, rv, E2_, T2_⟩ c2 => ?_)
  subst rv
  refine Go.astore #[.val (.int xa), .val (.int ya), .val (.int za), .val (.int ((za &&& (3 : Int32)) % (3 : Int32))), .val (.int (((XT.ushr za (2 : Int32)) &&& (3 : Int32)) % (3 : Int32))), .val (.int (xa &&& (255 : Int32))), .val (.int ((XT.ushr xa (8 : Int32)) &&& (255 : Int32))), .val (.int (ya &&& (255 : Int32))), .val (.int ((XT.ushr ya (8 : Int32)) &&& (255 : Int32))), .val (.ref u1), .val (.ref u2), .unset, .unset, .unset] 74 at_72 rfl rfl rfl ?_
  refine Go.new 77 at_74 rfl (W.1 37 rfl) (W.1 38 rfl) (W.1 39 rfl) (nl rfl) (nl rfl) (fun pp h3 e3 E3 ⟨A3, D3⟩ S3 z3 c3 => ?_)
  refine Go.dup 78 at_77 rfl rfl ?_
  refine Go.aload 80 at_78 rfl rfl rfl ?_
  refine Go.aload 82 at_80 rfl rfl rfl ?_
  have f4 := D3 (Or.inr (W.1 48 rfl)) (ty := (.object "java/lang/String")) (by decide)
  have f5 := D3 (Or.inr (W.1 50 rfl)) (ty := (.object "java/lang/String")) (by decide)
  have f6 := D3 (Or.inr (W.1 52 rfl)) (ty := .boolean) (by decide)
  refine Go.invokespecial (rest := [.ref pp]) 1 pp [.ref u1, .ref u2] 85 at_82 rfl rfl (W.1 40 rfl) (W.1 41 rfl) (W.1 39 rfl) (W.1 42 rfl) (by decide) (cPeInit2 W  A3 f4 f5 f6 S3 z3) (by decide +kernel : parseMethodDescriptor "(Ljava/lang/String;Ljava/lang/String;)V" = some ⟨[(.object "java/lang/String"), (.object "java/lang/String")], none⟩) rfl rfl rfl (nl rfl) (nl rfl) (nl rfl) (nl rfl) (nl rfl) (fun v7 vm7 h7 ⟨rv, K16, Q16⟩ c7 => ?_)
  subst rv
  have EE16 := Ext.kp1 E3 K16 e3
  refine Go.astore #[.val (.int xa), .val (.int ya), .val (.int za), .val (.int ((za &&& (3 : Int32)) % (3 : Int32))), .val (.int (((XT.ushr za (2 : Int32)) &&& (3 : Int32)) % (3 : Int32))), .val (.int (xa &&& (255 : Int32))), .val (.int ((XT.ushr xa (8 : Int32)) &&& (255 : Int32))), .val (.int (ya &&& (255 : Int32))), .val (.int ((XT.ushr ya (8 : Int32)) &&& (255 : Int32))), .val (.ref u1), .val (.ref u2), .val (.ref pp), .unset, .unset] 87 at_85 rfl rfl rfl ?_
  refine Go.aload 89 at_87 rfl rfl rfl ?_
  have pA := mod3 za
  have pR := mod3 (XT.ushr za (2 : Int32))
  have ln := lenT (a0 := (xa &&& (255 : Int32))) (a1 := ((XT.ushr xa (8 : Int32)) &&& (255 : Int32))) (r0 := (ya &&& (255 : Int32))) (r1 := ((XT.ushr ya (8 : Int32)) &&& (255 : Int32))) pA pR
  have f8 := T1_.ext (Ext.tr E2_ EE16)
  have f9 := T2_.ext EE16
  refine Go.invokevirtual (rest := []) 0 pp [] 92 at_89 rfl Q16.1 (W.1 53 rfl) (W.1 54 rfl) (fun s hs => notFace_of_selects (args := #[]) (mvT hs (W.1 56 rfl))) (W.1 56 rfl) (W.1 55 rfl) (W.1 39 rfl) (W.1 57 rfl) (by decide) (cPT W (by decide : ("com/example/token_to_key/tokentokey/s3/Permission", 57) ∈ consts_1) Q16 f8 f9 (by have := ln.1; simp [txt] at this; omega)) (by decide +kernel : parseMethodDescriptor "()Ljava/lang/String;" = some ⟨[], (some (.object "java/lang/String"))⟩) rfl rfl rfl (nl rfl) (nl rfl) (nl rfl) (nl rfl) (nl rfl) (fun v10 vm10 h10 ⟨s_, rv, E3_, T3_⟩ c10 => ?_)
  subst rv
  refine Go.astore #[.val (.int xa), .val (.int ya), .val (.int za), .val (.int ((za &&& (3 : Int32)) % (3 : Int32))), .val (.int (((XT.ushr za (2 : Int32)) &&& (3 : Int32)) % (3 : Int32))), .val (.int (xa &&& (255 : Int32))), .val (.int ((XT.ushr xa (8 : Int32)) &&& (255 : Int32))), .val (.int (ya &&& (255 : Int32))), .val (.int ((XT.ushr ya (8 : Int32)) &&& (255 : Int32))), .val (.ref u1), .val (.ref u2), .val (.ref pp), .val (.ref s_), .unset] 94 at_92 rfl rfl rfl ?_
  refine Go.aload 96 at_94 rfl rfl rfl ?_
  have T4 : Str Z h10 s_ (txt ((za &&& (3 : Int32)) % (3 : Int32)) (((XT.ushr za (2 : Int32)) &&& (3 : Int32)) % (3 : Int32)) (xa &&& (255 : Int32)) ((XT.ushr xa (8 : Int32)) &&& (255 : Int32)) (ya &&& (255 : Int32)) ((XT.ushr ya (8 : Int32)) &&& (255 : Int32))) := T3_
  refine Go.ifnonnull_y 101 at_96 (by decide) rfl ?_
  refine Go.iload_n 102 at_101 rfl rfl ?_
  refine Go.iconst (4) 103 at_102 rfl rfl ?_
  refine Go.iadd (((za &&& (3 : Int32)) % (3 : Int32)) + (4 : Int32)) 104 at_103 rfl rfl ?_
  refine Go.iload 106 at_104 rfl rfl ?_
  refine Go.iadd (Int32.ofNat (txt ((za &&& (3 : Int32)) % (3 : Int32)) (((XT.ushr za (2 : Int32)) &&& (3 : Int32)) % (3 : Int32)) (xa &&& (255 : Int32)) ((XT.ushr xa (8 : Int32)) &&& (255 : Int32)) (ya &&& (255 : Int32)) ((XT.ushr ya (8 : Int32)) &&& (255 : Int32))).length) 107 at_106 rfl ln.2.symm ?_
  refine Go.istore #[.val (.int xa), .val (.int ya), .val (.int za), .val (.int ((za &&& (3 : Int32)) % (3 : Int32))), .val (.int (((XT.ushr za (2 : Int32)) &&& (3 : Int32)) % (3 : Int32))), .val (.int (xa &&& (255 : Int32))), .val (.int ((XT.ushr xa (8 : Int32)) &&& (255 : Int32))), .val (.int (ya &&& (255 : Int32))), .val (.int ((XT.ushr ya (8 : Int32)) &&& (255 : Int32))), .val (.ref u1), .val (.ref u2), .val (.ref pp), .val (.ref s_), .val (.int (Int32.ofNat (txt ((za &&& (3 : Int32)) % (3 : Int32)) (((XT.ushr za (2 : Int32)) &&& (3 : Int32)) % (3 : Int32)) (xa &&& (255 : Int32)) ((XT.ushr xa (8 : Int32)) &&& (255 : Int32)) (ya &&& (255 : Int32)) ((XT.ushr ya (8 : Int32)) &&& (255 : Int32))).length))] 109 at_107 rfl rfl ?_
  refine Go.aload 111 at_109 rfl rfl rfl ?_
  refine goStrLen W 0 114 at_111 rfl (W.1 169 rfl) T4 rfl rfl (nl rfl) (nl rfl) (nl rfl) (nl rfl) (nl rfl) ?_
  refine Go.iload 116 at_114 rfl rfl ?_
  refine Go.if_icmpeq 121 119 at_116 (by decide) rfl rfl (fun q11 => ?_) (fun q11 => absurd rfl q11)
  refine Go.aload 123 at_121 rfl rfl rfl ?_
  refine Go.iconst (0) 124 at_123 rfl rfl ?_
  refine Go.iload 126 at_124 rfl rfl ?_
  refine Go.iload_n 127 at_126 rfl rfl ?_
  refine Go.iload 129 at_127 rfl rfl ?_
  refine Go.iload 131 at_129 rfl rfl ?_
  refine Go.iload 133 at_131 rfl rfl ?_
  refine Go.iload 135 at_133 rfl rfl ?_
  refine Go.invokestatic (rest := []) 0 [.ref s_, .int (0 : Int32), .int (Int32.ofNat (txt ((za &&& (3 : Int32)) % (3 : Int32)) (((XT.ushr za (2 : Int32)) &&& (3 : Int32)) % (3 : Int32)) (xa &&& (255 : Int32)) ((XT.ushr xa (8 : Int32)) &&& (255 : Int32)) (ya &&& (255 : Int32)) ((XT.ushr ya (8 : Int32)) &&& (255 : Int32))).length), .int ((za &&& (3 : Int32)) % (3 : Int32)), .int (xa &&& (255 : Int32)), .int ((XT.ushr xa (8 : Int32)) &&& (255 : Int32)), .int (ya &&& (255 : Int32)), .int ((XT.ushr ya (8 : Int32)) &&& (255 : Int32))] 138 at_135 rfl (W.1 170 rfl) (W.1 171 rfl) (W.1 2 rfl) (W.1 172 rfl) (by decide) (cAt W (i := 0) (and255 _) (and255 _) (and255 _) (and255 _) (by decide) T4 (fun hi => getT pA pR 0 hi (by decide))) (by decide +kernel : parseMethodDescriptor "(Ljava/lang/String;IIICCCC)Z" = some ⟨[(.object "java/lang/String"), .int, .int, .int, .char, .char, .char, .char], (some .boolean)⟩) rfl rfl rfl (nl rfl) (nl rfl) (nl rfl) (nl rfl) (nl rfl) (fun v12 vm12 h12 ⟨rv, hh⟩ c12 => ?_)
  subst rv; replace hh := hh.symm; subst hh
  refine Go.ifeq 287 141 at_138 (by decide) rfl rfl (fun q13 => absurd q13 (by decide)) (fun q13 => ?_)
  refine Go.aload 143 at_141 rfl rfl rfl ?_
  refine Go.iconst (1) 144 at_143 rfl rfl ?_
  refine Go.iload 146 at_144 rfl rfl ?_
  refine Go.iload_n 147 at_146 rfl rfl ?_
  refine Go.iload 149 at_147 rfl rfl ?_
  refine Go.iload 151 at_149 rfl rfl ?_
  refine Go.iload 153 at_151 rfl rfl ?_
  refine Go.iload 155 at_153 rfl rfl ?_
  refine Go.invokestatic (rest := []) 0 [.ref s_, .int (1 : Int32), .int (Int32.ofNat (txt ((za &&& (3 : Int32)) % (3 : Int32)) (((XT.ushr za (2 : Int32)) &&& (3 : Int32)) % (3 : Int32)) (xa &&& (255 : Int32)) ((XT.ushr xa (8 : Int32)) &&& (255 : Int32)) (ya &&& (255 : Int32)) ((XT.ushr ya (8 : Int32)) &&& (255 : Int32))).length), .int ((za &&& (3 : Int32)) % (3 : Int32)), .int (xa &&& (255 : Int32)), .int ((XT.ushr xa (8 : Int32)) &&& (255 : Int32)), .int (ya &&& (255 : Int32)), .int ((XT.ushr ya (8 : Int32)) &&& (255 : Int32))] 158 at_155 rfl (W.1 170 rfl) (W.1 171 rfl) (W.1 2 rfl) (W.1 172 rfl) (by decide) (cAt W (i := 1) (and255 _) (and255 _) (and255 _) (and255 _) (by decide) T4 (fun hi => getT pA pR 1 hi (by decide))) (by decide +kernel : parseMethodDescriptor "(Ljava/lang/String;IIICCCC)Z" = some ⟨[(.object "java/lang/String"), .int, .int, .int, .char, .char, .char, .char], (some .boolean)⟩) rfl rfl rfl (nl rfl) (nl rfl) (nl rfl) (nl rfl) (nl rfl) (fun v14 vm14 h14 ⟨rv, hh⟩ c14 => ?_)
  subst rv; replace hh := hh.symm; subst hh
  refine Go.ifeq 287 161 at_158 (by decide) rfl rfl (fun q15 => absurd q15 (by decide)) (fun q15 => ?_)
  refine Go.aload 163 at_161 rfl rfl rfl ?_
  refine Go.iconst (2) 164 at_163 rfl rfl ?_
  refine Go.iload 166 at_164 rfl rfl ?_
  refine Go.iload_n 167 at_166 rfl rfl ?_
  refine Go.iload 169 at_167 rfl rfl ?_
  refine Go.iload 171 at_169 rfl rfl ?_
  refine Go.iload 173 at_171 rfl rfl ?_
  refine Go.iload 175 at_173 rfl rfl ?_
  refine Go.invokestatic (rest := []) 0 [.ref s_, .int (2 : Int32), .int (Int32.ofNat (txt ((za &&& (3 : Int32)) % (3 : Int32)) (((XT.ushr za (2 : Int32)) &&& (3 : Int32)) % (3 : Int32)) (xa &&& (255 : Int32)) ((XT.ushr xa (8 : Int32)) &&& (255 : Int32)) (ya &&& (255 : Int32)) ((XT.ushr ya (8 : Int32)) &&& (255 : Int32))).length), .int ((za &&& (3 : Int32)) % (3 : Int32)), .int (xa &&& (255 : Int32)), .int ((XT.ushr xa (8 : Int32)) &&& (255 : Int32)), .int (ya &&& (255 : Int32)), .int ((XT.ushr ya (8 : Int32)) &&& (255 : Int32))] 178 at_175 rfl (W.1 170 rfl) (W.1 171 rfl) (W.1 2 rfl) (W.1 172 rfl) (by decide) (cAt W (i := 2) (and255 _) (and255 _) (and255 _) (and255 _) (by decide) T4 (fun hi => getT pA pR 2 hi (by decide))) (by decide +kernel : parseMethodDescriptor "(Ljava/lang/String;IIICCCC)Z" = some ⟨[(.object "java/lang/String"), .int, .int, .int, .char, .char, .char, .char], (some .boolean)⟩) rfl rfl rfl (nl rfl) (nl rfl) (nl rfl) (nl rfl) (nl rfl) (fun v16 vm16 h16 ⟨rv, hh⟩ c16 => ?_)
  subst rv; replace hh := hh.symm; subst hh
  refine Go.ifeq 287 181 at_178 (by decide) rfl rfl (fun q17 => absurd q17 (by decide)) (fun q17 => ?_)
  refine Go.aload 183 at_181 rfl rfl rfl ?_
  refine Go.iconst (3) 184 at_183 rfl rfl ?_
  refine Go.iload 186 at_184 rfl rfl ?_
  refine Go.iload_n 187 at_186 rfl rfl ?_
  refine Go.iload 189 at_187 rfl rfl ?_
  refine Go.iload 191 at_189 rfl rfl ?_
  refine Go.iload 193 at_191 rfl rfl ?_
  refine Go.iload 195 at_193 rfl rfl ?_
  refine Go.invokestatic (rest := []) 0 [.ref s_, .int (3 : Int32), .int (Int32.ofNat (txt ((za &&& (3 : Int32)) % (3 : Int32)) (((XT.ushr za (2 : Int32)) &&& (3 : Int32)) % (3 : Int32)) (xa &&& (255 : Int32)) ((XT.ushr xa (8 : Int32)) &&& (255 : Int32)) (ya &&& (255 : Int32)) ((XT.ushr ya (8 : Int32)) &&& (255 : Int32))).length), .int ((za &&& (3 : Int32)) % (3 : Int32)), .int (xa &&& (255 : Int32)), .int ((XT.ushr xa (8 : Int32)) &&& (255 : Int32)), .int (ya &&& (255 : Int32)), .int ((XT.ushr ya (8 : Int32)) &&& (255 : Int32))] 198 at_195 rfl (W.1 170 rfl) (W.1 171 rfl) (W.1 2 rfl) (W.1 172 rfl) (by decide) (cAt W (i := 3) (and255 _) (and255 _) (and255 _) (and255 _) (by decide) T4 (fun hi => getT pA pR 3 hi (by decide))) (by decide +kernel : parseMethodDescriptor "(Ljava/lang/String;IIICCCC)Z" = some ⟨[(.object "java/lang/String"), .int, .int, .int, .char, .char, .char, .char], (some .boolean)⟩) rfl rfl rfl (nl rfl) (nl rfl) (nl rfl) (nl rfl) (nl rfl) (fun v18 vm18 h18 ⟨rv, hh⟩ c18 => ?_)
  subst rv; replace hh := hh.symm; subst hh
  refine Go.ifeq 287 201 at_198 (by decide) rfl rfl (fun q19 => absurd q19 (by decide)) (fun q19 => ?_)
  refine Go.aload 203 at_201 rfl rfl rfl ?_
  refine Go.iconst (4) 204 at_203 rfl rfl ?_
  refine Go.iload 206 at_204 rfl rfl ?_
  refine Go.iload_n 207 at_206 rfl rfl ?_
  refine Go.iload 209 at_207 rfl rfl ?_
  refine Go.iload 211 at_209 rfl rfl ?_
  refine Go.iload 213 at_211 rfl rfl ?_
  refine Go.iload 215 at_213 rfl rfl ?_
  refine Go.invokestatic (rest := []) 0 [.ref s_, .int (4 : Int32), .int (Int32.ofNat (txt ((za &&& (3 : Int32)) % (3 : Int32)) (((XT.ushr za (2 : Int32)) &&& (3 : Int32)) % (3 : Int32)) (xa &&& (255 : Int32)) ((XT.ushr xa (8 : Int32)) &&& (255 : Int32)) (ya &&& (255 : Int32)) ((XT.ushr ya (8 : Int32)) &&& (255 : Int32))).length), .int ((za &&& (3 : Int32)) % (3 : Int32)), .int (xa &&& (255 : Int32)), .int ((XT.ushr xa (8 : Int32)) &&& (255 : Int32)), .int (ya &&& (255 : Int32)), .int ((XT.ushr ya (8 : Int32)) &&& (255 : Int32))] 218 at_215 rfl (W.1 170 rfl) (W.1 171 rfl) (W.1 2 rfl) (W.1 172 rfl) (by decide) (cAt W (i := 4) (and255 _) (and255 _) (and255 _) (and255 _) (by decide) T4 (fun hi => getT pA pR 4 hi (by decide))) (by decide +kernel : parseMethodDescriptor "(Ljava/lang/String;IIICCCC)Z" = some ⟨[(.object "java/lang/String"), .int, .int, .int, .char, .char, .char, .char], (some .boolean)⟩) rfl rfl rfl (nl rfl) (nl rfl) (nl rfl) (nl rfl) (nl rfl) (fun v20 vm20 h20 ⟨rv, hh⟩ c20 => ?_)
  subst rv; replace hh := hh.symm; subst hh
  refine Go.ifeq 287 221 at_218 (by decide) rfl rfl (fun q21 => absurd q21 (by decide)) (fun q21 => ?_)
  refine Go.aload 223 at_221 rfl rfl rfl ?_
  refine Go.iconst (5) 224 at_223 rfl rfl ?_
  refine Go.iload 226 at_224 rfl rfl ?_
  refine Go.iload_n 227 at_226 rfl rfl ?_
  refine Go.iload 229 at_227 rfl rfl ?_
  refine Go.iload 231 at_229 rfl rfl ?_
  refine Go.iload 233 at_231 rfl rfl ?_
  refine Go.iload 235 at_233 rfl rfl ?_
  refine Go.invokestatic (rest := []) 0 [.ref s_, .int (5 : Int32), .int (Int32.ofNat (txt ((za &&& (3 : Int32)) % (3 : Int32)) (((XT.ushr za (2 : Int32)) &&& (3 : Int32)) % (3 : Int32)) (xa &&& (255 : Int32)) ((XT.ushr xa (8 : Int32)) &&& (255 : Int32)) (ya &&& (255 : Int32)) ((XT.ushr ya (8 : Int32)) &&& (255 : Int32))).length), .int ((za &&& (3 : Int32)) % (3 : Int32)), .int (xa &&& (255 : Int32)), .int ((XT.ushr xa (8 : Int32)) &&& (255 : Int32)), .int (ya &&& (255 : Int32)), .int ((XT.ushr ya (8 : Int32)) &&& (255 : Int32))] 238 at_235 rfl (W.1 170 rfl) (W.1 171 rfl) (W.1 2 rfl) (W.1 172 rfl) (by decide) (cAt W (i := 5) (and255 _) (and255 _) (and255 _) (and255 _) (by decide) T4 (fun hi => getT pA pR 5 hi (by decide))) (by decide +kernel : parseMethodDescriptor "(Ljava/lang/String;IIICCCC)Z" = some ⟨[(.object "java/lang/String"), .int, .int, .int, .char, .char, .char, .char], (some .boolean)⟩) rfl rfl rfl (nl rfl) (nl rfl) (nl rfl) (nl rfl) (nl rfl) (fun v22 vm22 h22 ⟨rv, hh⟩ c22 => ?_)
  subst rv; replace hh := hh.symm; subst hh
  refine Go.ifeq 287 241 at_238 (by decide) rfl rfl (fun q23 => absurd q23 (by decide)) (fun q23 => ?_)
  refine Go.aload 243 at_241 rfl rfl rfl ?_
  refine Go.bipush (6) 245 at_243 rfl rfl ?_
  refine Go.iload 247 at_245 rfl rfl ?_
  refine Go.iload_n 248 at_247 rfl rfl ?_
  refine Go.iload 250 at_248 rfl rfl ?_
  refine Go.iload 252 at_250 rfl rfl ?_
  refine Go.iload 254 at_252 rfl rfl ?_
  refine Go.iload 256 at_254 rfl rfl ?_
  refine Go.invokestatic (rest := []) 0 [.ref s_, .int (6 : Int32), .int (Int32.ofNat (txt ((za &&& (3 : Int32)) % (3 : Int32)) (((XT.ushr za (2 : Int32)) &&& (3 : Int32)) % (3 : Int32)) (xa &&& (255 : Int32)) ((XT.ushr xa (8 : Int32)) &&& (255 : Int32)) (ya &&& (255 : Int32)) ((XT.ushr ya (8 : Int32)) &&& (255 : Int32))).length), .int ((za &&& (3 : Int32)) % (3 : Int32)), .int (xa &&& (255 : Int32)), .int ((XT.ushr xa (8 : Int32)) &&& (255 : Int32)), .int (ya &&& (255 : Int32)), .int ((XT.ushr ya (8 : Int32)) &&& (255 : Int32))] 259 at_256 rfl (W.1 170 rfl) (W.1 171 rfl) (W.1 2 rfl) (W.1 172 rfl) (by decide) (cAt W (i := 6) (and255 _) (and255 _) (and255 _) (and255 _) (by decide) T4 (fun hi => getT pA pR 6 hi (by decide))) (by decide +kernel : parseMethodDescriptor "(Ljava/lang/String;IIICCCC)Z" = some ⟨[(.object "java/lang/String"), .int, .int, .int, .char, .char, .char, .char], (some .boolean)⟩) rfl rfl rfl (nl rfl) (nl rfl) (nl rfl) (nl rfl) (nl rfl) (fun v24 vm24 h24 ⟨rv, hh⟩ c24 => ?_)
  subst rv; replace hh := hh.symm; subst hh
  refine Go.ifeq 287 262 at_259 (by decide) rfl rfl (fun q25 => absurd q25 (by decide)) (fun q25 => ?_)
  refine Go.aload 264 at_262 rfl rfl rfl ?_
  refine Go.bipush (7) 266 at_264 rfl rfl ?_
  refine Go.iload 268 at_266 rfl rfl ?_
  refine Go.iload_n 269 at_268 rfl rfl ?_
  refine Go.iload 271 at_269 rfl rfl ?_
  refine Go.iload 273 at_271 rfl rfl ?_
  refine Go.iload 275 at_273 rfl rfl ?_
  refine Go.iload 277 at_275 rfl rfl ?_
  refine Go.invokestatic (rest := []) 0 [.ref s_, .int (7 : Int32), .int (Int32.ofNat (txt ((za &&& (3 : Int32)) % (3 : Int32)) (((XT.ushr za (2 : Int32)) &&& (3 : Int32)) % (3 : Int32)) (xa &&& (255 : Int32)) ((XT.ushr xa (8 : Int32)) &&& (255 : Int32)) (ya &&& (255 : Int32)) ((XT.ushr ya (8 : Int32)) &&& (255 : Int32))).length), .int ((za &&& (3 : Int32)) % (3 : Int32)), .int (xa &&& (255 : Int32)), .int ((XT.ushr xa (8 : Int32)) &&& (255 : Int32)), .int (ya &&& (255 : Int32)), .int ((XT.ushr ya (8 : Int32)) &&& (255 : Int32))] 280 at_277 rfl (W.1 170 rfl) (W.1 171 rfl) (W.1 2 rfl) (W.1 172 rfl) (by decide) (cAt W (i := 7) (and255 _) (and255 _) (and255 _) (and255 _) (by decide) T4 (fun hi => getT pA pR 7 hi (by decide))) (by decide +kernel : parseMethodDescriptor "(Ljava/lang/String;IIICCCC)Z" = some ⟨[(.object "java/lang/String"), .int, .int, .int, .char, .char, .char, .char], (some .boolean)⟩) rfl rfl rfl (nl rfl) (nl rfl) (nl rfl) (nl rfl) (nl rfl) (fun v26 vm26 h26 ⟨rv, hh⟩ c26 => ?_)
  subst rv; replace hh := hh.symm; subst hh
  refine Go.ifeq 287 283 at_280 (by decide) rfl rfl (fun q27 => absurd q27 (by decide)) (fun q27 => ?_)
  refine Go.iconst (1) 284 at_283 rfl rfl ?_
  refine Go.goto 288 at_284 (by decide) rfl ?_
  exact Go.ireturn at_288 rfl rfl (by simp) (nl rfl) (nl rfl) (fun vm' ch => rfl)
set_option maxRecDepth 65536 in
theorem comes_1 {Post : Tables → Env → Array Value → State → Outcome → State → Prop} (hpost : ∀ tb e args s v u, (limb_1_1.after args s (.returned v) u = true ∧ limb_1_2.after args s (.returned v) u = true ∧ True) → Jvm.D.FramedW s (.returned v) u (Jvm.fieldLocs frame_1_writes args s ++ Jvm.arrayLocs frame_1_arrays args s ++ Jvm.staticLocs frame_1_statics s) 40 2240 → Post tb e args s (.returned v) u) :
    ArmFor flags0 classFile x code maxLocals ret World_1 tables_1 room_1 Calls_1 rest_1 Pre_1 Post := by
  intro l hfl _ _ p e ha hc hk s m args below hf hA hF happ hP
  obtain ⟨hcalls, hrest, hpre⟩ := hP
  obtain ⟨-, -, -, hnamed, -, -, -, hat⟩ := (Spec.applies_iff hf).mp happ
  obtain ⟨hg, hn⟩ := and_e (Cond.before_iff.mp (show (Jvm.Cond.and given_1 narrow_1).before args s = true from hpre))
  obtain ⟨g0, r0⟩ := and_e hg
  obtain ⟨g1, r1⟩ := and_e r0
  obtain ⟨g2, r2⟩ := and_e r1
  obtain ⟨w0, w1, w2, rfl⟩ : ∃ w0 w1 w2 : Value, args = #[w0, w1, w2] := by
    have hs : args.size = 3 := by simpa [Cond.value, given_1] using g0
    obtain ⟨L⟩ := args
    match L, hs with
    | [w0, w1, w2], _ => exact ⟨w0, w1, w2, rfl⟩
  have hw := fun d (hd : d ∈ tables_1) => atoms_spec (ws := Jvm.Cond.code x code maxLocals ret :: tables_1) hat d (List.mem_cons_of_mem _ hd)
  obtain ⟨hsets, hown0⟩ := atoms_of _ (rest_1_c_eq ▸ (show rest_1_c.before _ s = true from hrest))
  obtain ⟨i0, ei0⟩ := is_v g1
  obtain rfl : w0 = (.int i0) := Option.some.inj ei0
  obtain ⟨i1, ei1⟩ := is_v g2
  obtain rfl : w1 = (.int i1) := Option.some.inj ei1
  obtain ⟨i2, ei2⟩ := is_v r2
  obtain rfl : w2 = (.int i2) := Option.some.inj ei2
  have n5 := not_v (Cond.before_iff.mp (hsets _ (List.mem_of_getElem? (i := 2) rfl)))
  obtain ⟨zz, ez⟩ := is_v (Cond.before_iff.mp (hsets _ (List.mem_of_getElem? (i := 1) rfl)))
  have Sz : Sta s s.heap "java/lang/String" "COMPACT_STRINGS" "Z" (.int zz) := Sta.start ez (Or.inl (hsets _ (List.mem_of_getElem? (i := 0) rfl)))
  obtain ⟨vf, ef, rf⟩ := isR_v (Cond.before_iff.mp (hsets _ (List.mem_of_getElem? (i := 8) rfl)))
  have Sf : Sta s s.heap "jdk/internal/util/Preconditions" "SIOOBE_FORMATTER" "Ljava/util/function/BiFunction;" vf := Sta.start ef (Or.inl (hsets _ (List.mem_of_getElem? (i := 7) rfl)))
  have cz : ¬ (zz = (0 : Int32)) := gotF (Cond.eq_ints ez (Term.int_eval (0))) n5
  have W : Wd s #[.int i0, .int i1, .int i2] := ⟨fun k _ q => hw _ (List.mem_of_getElem? q), ⟨zz, Sz, cz⟩, vf, Sf, rf⟩
  have hEW : EW s #[.int i0, .int i1, .int i2] consts_1 := (EW.cons (W.1 123 rfl) (by decide +kernel) (EW.cons (W.1 34 rfl) (by decide +kernel) EW.nil))
  have H : CHv s consts_1 s.vm s.heap := CHv.start hEW (fun p hp => hcalls.1 p hp) (hsets _ (List.mem_of_getElem? (i := 2) rfl)) (W.1 23 rfl) (W.1 5 rfl)
  obtain ⟨n, o, h1, h2, h3, v, L, rfl, q1, -, -, N, hq, hnw⟩ := cLaw W (xa := i0) (ya := i1) (za := i2) (l := l) tables_1 p e ha hc hk s m _ below hf ((Spec.applies_iff_loose hf).mp happ).1 ⟨rfl, State.Warmed39.refl s, rfl, CHr.refl H, Ext.rfl' _, hEW⟩ trivial
  subst q1
  obtain ⟨a1, a2, a3, a4⟩ := hq
  refine ⟨n, _, h1, h2, h3, hpost _ _ _ _ _ _ ⟨Cond.after_iff.mpr rfl, Cond.after_iff.mpr (eq_i res_at (Term.int_eval (1)) rfl), trivial⟩ ⟨a1, a2, a3, (a4.sift fun y hy => Or.inr (N y hy)).mono (by decide) (by decide)⟩⟩
theorem main_1_1 : Claimed_1_1 := comes_1 fun _ _ _ _ _ _ h hF => ⟨h.1, hF⟩
theorem main_1_2 : Claimed_1_2 := comes_1 fun _ _ _ _ _ _ h hF => ⟨h.2.1, hF⟩
end Jvm.Pilot.@@N@@
namespace Jvm.Pilot.@@N@@
open Jvm Jvm.ClassFile Sem Op Lib Jvm.Free Jvm.Stand Jvm.Pilot.@@N@@.Jvm.D
/-! MADE BY PROGRAM (witnessworld.py) out of the Statement's table words and the real class files: 26 classes; the members and pool entries that the words name. The judged class is class 1, her method 1. -/
namespace start1
open Jvm.ClassFile
def u (s : String) : CpInfo := .utf8 (stringToUtf16 s)
/-- a pool by its gaps: so many unusable entries, then the entry; so many at the end -/
def gap : Nat → List CpInfo → List CpInfo
  | 0, r => r
  | n + 1, r => .unusable :: gap n r
def poolList (es : List (Nat × CpInfo)) (last : Nat) : List CpInfo := es.foldr (fun e r => gap e.1 (e.2 :: r)) (gap last [])
def pool (es : List (Nat × CpInfo)) (last : Nat) : Array CpInfo := ⟨poolList es last⟩
def fileOf (pool : Array CpInfo) (this : Nat) (attrs : Array Attribute := #[]) (ms : Array MethodInfo := #[]) (fl : Nat := 33) (sup : Nat := 0) (ifs : Array Nat := #[]) (fds : Array FieldInfo := #[]) : ClassFile where
  minorVersion := 0
  majorVersion := 65
  constantPool := pool
  accessFlags := fl
  thisClass := this
  superClass := sup
  interfaces := ifs
  fields := fds
  methods := ms
  attributes := attrs
def plain (name : String) (sup : Option ClassId) : Class where
  name := name
  kind := .ordinary
  loader := none
  accessFlags := 33
  super := sup
  interfaces := #[]
  cf := none
  fields := #[]
  methods := #[]
  instanceTypes := #[]
  staticTypes := #[]
  resolved := #[]
  callSites := []
  init := .initialized
  statics := none
  mirror := none

def pool0 : Array CpInfo := pool [(5, u "<init>"), (0, u "()V"), (1, .class_ 10), (1, u "java/lang/Object")] 113

def k0c0 : Code := { maxStack := 0, maxLocals := 1, code := object_method_1_code, exceptionTable := #[], attributes := #[] }
def k0m0 : Method := { name := "<init>", desc := "()V", sig := { parameters := [], returnType := none }, accessFlags := 1, code := some k0c0 }
/-- java/lang/Object -/
def k0 : Class := { plain "java/lang/Object" none with
  accessFlags := 33
  interfaces := #[]
  cf := some (fileOf pool0 8 #[] #[{ accessFlags := 1, nameIndex := 5, descriptorIndex := 6, attributes := #[] }] 33 0 #[] #[])
  fields := #[]
  methods := #[k0m0]
  instanceTypes := #[]
  staticTypes := #[]
  resolved := Array.replicate 124 none
  statics := none }

def pool1 : Array CpInfo := pool [(2, .class_ 4), (1, u "java/lang/Object"), (0, u "<init>"), (0, u "()V"), (0, .methodref 8 9), (0, .class_ 10), (0, .nameAndType 11 12), (0, u "com/example/token_to_key/tokentokey/s3/PermissionToStringPinLaw"), (0, u "make"), (0, u "(ICC)Ljava/lang/String;"), (0, .class_ 14), (0, u "com/example/token_to_key/tokentokey/s3/Permission"), (0, .methodref 13 16), (0, .nameAndType 5 17), (0, u "(Ljava/lang/String;Ljava/lang/String;)V"), (0, .methodref 13 19), (0, .nameAndType 20 21), (0, u "toString"), (0, u "()Ljava/lang/String;"), (0, .methodref 23 24), (0, .class_ 25), (0, .nameAndType 26 27), (0, u "java/lang/String"), (0, u "length"), (0, u "()I"), (0, .methodref 8 29), (0, .nameAndType 30 31), (0, u "at"), (0, u "(Ljava/lang/String;IIICCCC)Z"), (0, .methodref 23 33), (0, .nameAndType 5 34), (0, u "([C)V"), (0, .methodref 23 36), (0, .nameAndType 37 38), (0, u "charAt"), (0, u "(I)C"), (0, .methodref 8 40), (0, .nameAndType 41 42), (0, u "expected"), (0, u "(IICCCC)C"), (2, u "law"), (0, u "(III)Z")] 3

def k1m0 : Method := { name := "<init>", desc := "()V", sig := { parameters := [], returnType := none }, accessFlags := 1, code := none }
def k1c1 : Code := { maxStack := 8, maxLocals := 14, code := code, exceptionTable := #[], attributes := #[] }
def k1m1 : Method := { name := "law", desc := "(III)Z", sig := { parameters := [.int, .int, .int], returnType := some .boolean }, accessFlags := 9, code := some k1c1 }
def k1c2 : Code := { maxStack := 6, maxLocals := 3, code := method_3_code, exceptionTable := #[], attributes := #[] }
def k1m2 : Method := { name := "make", desc := "(ICC)Ljava/lang/String;", sig := { parameters := [.int, .char, .char], returnType := some (.object "java/lang/String") }, accessFlags := 10, code := some k1c2 }
def k1c3 : Code := { maxStack := 7, maxLocals := 8, code := method_4_code, exceptionTable := #[], attributes := #[] }
def k1m3 : Method := { name := "at", desc := "(Ljava/lang/String;IIICCCC)Z", sig := { parameters := [(.object "java/lang/String"), .int, .int, .int, .char, .char, .char, .char], returnType := some .boolean }, accessFlags := 10, code := some k1c3 }
def k1c4 : Code := { maxStack := 2, maxLocals := 8, code := method_5_code, exceptionTable := #[], attributes := #[] }
def k1m4 : Method := { name := "expected", desc := "(IICCCC)C", sig := { parameters := [.int, .int, .char, .char, .char, .char], returnType := some .char }, accessFlags := 10, code := some k1c4 }
/-- com/example/token_to_key/tokentokey/s3/PermissionToStringPinLaw -/
def k1 : Class := { plain "com/example/token_to_key/tokentokey/s3/PermissionToStringPinLaw" (some 0) with
  accessFlags := 49
  interfaces := #[]
  cf := some (fileOf pool1 8 #[] #[{ accessFlags := 1, nameIndex := 5, descriptorIndex := 6, attributes := #[] }, { accessFlags := 9, nameIndex := 45, descriptorIndex := 46, attributes := #[] }, { accessFlags := 10, nameIndex := 11, descriptorIndex := 12, attributes := #[] }, { accessFlags := 10, nameIndex := 30, descriptorIndex := 31, attributes := #[] }, { accessFlags := 10, nameIndex := 41, descriptorIndex := 42, attributes := #[] }] 49 2 #[] #[])
  fields := #[]
  methods := #[k1m0, k1m1, k1m2, k1m3, k1m4]
  instanceTypes := #[]
  staticTypes := #[]
  resolved := Array.replicate 50 none
  statics := none }

def pool2 : Array CpInfo := pool [(1, .class_ 2), (0, u "java/io/Serializable"), (0, .class_ 4), (0, u "java/lang/Object")] 2

/-- java/io/Serializable -/
def k2 : Class := { plain "java/io/Serializable" (some 0) with
  accessFlags := 1537
  interfaces := #[]
  cf := some (fileOf pool2 1 #[] #[] 1537 3 #[] #[])
  fields := #[]
  methods := #[]
  instanceTypes := #[]
  staticTypes := #[]
  resolved := Array.replicate 7 none
  statics := none }

def pool3 : Array CpInfo := pool [(1, .class_ 2), (0, u "java/lang/Comparable"), (0, .class_ 4), (0, u "java/lang/Object")] 7

/-- java/lang/Comparable -/
def k3 : Class := { plain "java/lang/Comparable" (some 0) with
  accessFlags := 1537
  interfaces := #[]
  cf := some (fileOf pool3 1 #[] #[] 1537 3 #[] #[])
  fields := #[]
  methods := #[]
  instanceTypes := #[]
  staticTypes := #[]
  resolved := Array.replicate 12 none
  statics := none }

def pool4 : Array CpInfo := pool [(2, .class_ 4), (1, u "java/lang/CharSequence"), (42, .class_ 48), (0, u "java/lang/CharSequence$1CodePointIterator"), (10, .class_ 60), (0, u "java/lang/CharSequence$1CharIterator"), (5, .class_ 67), (0, u "java/lang/Object")] 63

/-- java/lang/CharSequence -/
def k4 : Class := { plain "java/lang/CharSequence" (some 0) with
  accessFlags := 1537
  interfaces := #[]
  cf := some (fileOf pool4 2 #[.nestMembers #[47, 59]] #[] 1537 66 #[] #[])
  fields := #[]
  methods := #[]
  instanceTypes := #[]
  staticTypes := #[]
  resolved := Array.replicate 131 none
  statics := none }

def pool5 : Array CpInfo := pool [(1, .class_ 2), (0, u "java/lang/constant/Constable"), (0, .class_ 4), (0, u "java/lang/Object")] 6

/-- java/lang/constant/Constable -/
def k5 : Class := { plain "java/lang/constant/Constable" (some 0) with
  accessFlags := 1537
  interfaces := #[]
  cf := some (fileOf pool5 1 #[] #[] 1537 3 #[] #[])
  fields := #[]
  methods := #[]
  instanceTypes := #[]
  staticTypes := #[]
  resolved := Array.replicate 11 none
  statics := none }

def pool6 : Array CpInfo := pool [(1, .class_ 2), (0, u "java/lang/constant/ConstantDesc"), (0, .class_ 4), (0, u "java/lang/Object")] 32

/-- java/lang/constant/ConstantDesc -/
def k6 : Class := { plain "java/lang/constant/ConstantDesc" (some 0) with
  accessFlags := 1537
  interfaces := #[]
  cf := some (fileOf pool6 1 #[] #[] 1537 3 #[] #[])
  fields := #[]
  methods := #[]
  instanceTypes := #[]
  staticTypes := #[]
  resolved := Array.replicate 37 none
  statics := none }

def pool7 : Array CpInfo := pool [(1, .methodref 2 3), (0, .class_ 4), (0, .nameAndType 5 6), (0, u "java/lang/Object"), (0, u "<init>"), (0, u "()V"), (0, .string 8), (0, u ""), (0, .fieldref 10 11), (0, .class_ 12), (0, .nameAndType 13 14), (0, u "java/lang/String"), (0, u "value"), (0, u "[B"), (0, .fieldref 10 16), (0, .nameAndType 17 18), (0, u "coder"), (0, u "B"), (2, u "hash"), (0, u "I"), (2, u "hashIsZero"), (0, u "Z"), (0, .methodref 10 28), (0, .nameAndType 5 29), (0, u "([CIILjava/lang/Void;)V"), (8, .fieldref 10 39), (0, .nameAndType 40 26), (0, u "COMPACT_STRINGS"), (1, .class_ 44), (1, u "java/lang/StringUTF16"), (0, u "compress"), (1, .methodref 42 48), (0, .nameAndType 49 50), (0, u "coderFromArrayLen"), (0, u "([BI)B"), (3, .methodref 55 56), (0, .class_ 57), (0, .nameAndType 58 59), (0, u "java/util/Arrays"), (0, u "copyOfRange"), (0, u "([BII)[B"), (47, .class_ 109), (1, u "java/lang/StringLatin1"), (32, u "()Z"), (34, .methodref 42 178), (0, .nameAndType 45 179), (0, u "([CII)[B"), (13, .class_ 195), (1, u "java/lang/System"), (16, .methodref 193 213), (0, .nameAndType 214 215), (0, u "arraycopy"), (0, u "(Ljava/lang/Object;ILjava/lang/Object;II)V"), (118, u "()I"), (0, .methodref 10 336), (0, .nameAndType 17 337), (0, u "()B"), (2, u "()[B"), (22, u "([BI)C"), (27, u "(II)V"), (35, u "(I)C"), (61, .methodref 10 490), (0, .nameAndType 5 491), (0, u "(Ljava/lang/AbstractStringBuilder;Ljava/lang/Void;)V"), (0, .methodref 10 493), (0, .nameAndType 494 142), (0, u "isLatin1"), (0, .methodref 107 496), (0, .nameAndType 497 363), (0, u "charAt"), (3, u "checkIndex"), (4, .nameAndType 507 334), (0, u "length"), (24, u "getBytes"), (16, .methodref 550 506), (0, .class_ 551), (0, u "java/lang/AbstractStringBuilder"), (0, .methodref 550 553), (0, .nameAndType 554 340), (0, u "getValue"), (20, .class_ 576), (0, u "java/lang/CharSequence"), (22, u "CASE_INSENSITIVE_ORDER"), (0, u "Ljava/util/Comparator;"), (220, u "([BIB)V"), (188, u "([C)V"), (36, .methodref 550 493), (5, .fieldref 1054 1055), (0, .class_ 1056), (0, .nameAndType 1057 1058), (0, u "jdk/internal/util/Preconditions"), (0, u "SIOOBE_FORMATTER"), (0, u "Ljava/util/function/BiFunction;"), (0, .methodref 1054 1060), (0, .nameAndType 501 1061), (0, u "(IILjava/util/function/BiFunction;)I"), (39, u "serialPersistentFields"), (0, u "[Ljava/io/ObjectStreamField;"), (0, .class_ 1104), (0, u "java/lang/String$CaseInsensitiveComparator"), (1, .class_ 1107), (0, u "java/io/Serializable"), (0, .class_ 1109), (0, u "java/lang/Comparable"), (0, .class_ 1111), (0, u "java/lang/constant/Constable"), (0, .class_ 1113), (0, u "java/lang/constant/ConstantDesc"), (2, u "serialVersionUID"), (0, u "J"), (3, u "REPL"), (0, u "C"), (2, u "LATIN1"), (1, u "UTF16"), (105, u "(Ljava/lang/StringBuilder;)V")] 217

def k7m0 : Method := { name := "<init>", desc := "()V", sig := { parameters := [], returnType := none }, accessFlags := 1, code := none }
def k7c1 : Code := { maxStack := 5, maxLocals := 2, code := jdk_42_method_3_code, exceptionTable := #[], attributes := #[] }
def k7m1 : Method := { name := "<init>", desc := "([C)V", sig := { parameters := [(.array .char)], returnType := none }, accessFlags := 1, code := some k7c1 }
def k7c2 : Code := { maxStack := 3, maxLocals := 2, code := jdk_42_method_53_code, exceptionTable := #[], attributes := #[] }
def k7m2 : Method := { name := "<init>", desc := "(Ljava/lang/StringBuilder;)V", sig := { parameters := [(.object "java/lang/StringBuilder")], returnType := none }, accessFlags := 1, code := some k7c2 }
def k7c3 : Code := { maxStack := 2, maxLocals := 1, code := jdk_42_method_54_code, exceptionTable := #[], attributes := #[] }
def k7m3 : Method := { name := "length", desc := "()I", sig := { parameters := [], returnType := some .int }, accessFlags := 1, code := some k7c3 }
def k7c4 : Code := { maxStack := 2, maxLocals := 2, code := jdk_42_method_56_code, exceptionTable := #[], attributes := #[] }
def k7m4 : Method := { name := "charAt", desc := "(I)C", sig := { parameters := [.int], returnType := some .char }, accessFlags := 1, code := some k7c4 }
def k7c5 : Code := { maxStack := 5, maxLocals := 4, code := jdk_42_method_147_code, exceptionTable := #[], attributes := #[] }
def k7m5 : Method := { name := "getBytes", desc := "([BIB)V", sig := { parameters := [(.array .byte), .int, .byte], returnType := none }, accessFlags := 0, code := some k7c5 }
def k7c6 : Code := { maxStack := 4, maxLocals := 6, code := jdk_42_method_149_code, exceptionTable := #[], attributes := #[] }
def k7m6 : Method := { name := "<init>", desc := "([CIILjava/lang/Void;)V", sig := { parameters := [(.array .char), .int, .int, (.object "java/lang/Void")], returnType := none }, accessFlags := 2, code := some k7c6 }
def k7c7 : Code := { maxStack := 5, maxLocals := 5, code := jdk_42_method_150_code, exceptionTable := #[], attributes := #[] }
def k7m7 : Method := { name := "<init>", desc := "(Ljava/lang/AbstractStringBuilder;Ljava/lang/Void;)V", sig := { parameters := [(.object "java/lang/AbstractStringBuilder"), (.object "java/lang/Void")], returnType := none }, accessFlags := 0, code := some k7c7 }
def k7c8 : Code := { maxStack := 1, maxLocals := 1, code := jdk_42_method_152_code, exceptionTable := #[], attributes := #[] }
def k7m8 : Method := { name := "coder", desc := "()B", sig := { parameters := [], returnType := some .byte }, accessFlags := 0, code := some k7c8 }
def k7c9 : Code := { maxStack := 1, maxLocals := 1, code := jdk_42_method_154_code, exceptionTable := #[], attributes := #[] }
def k7m9 : Method := { name := "isLatin1", desc := "()Z", sig := { parameters := [], returnType := some .boolean }, accessFlags := 0, code := some k7c9 }
def k7c10 : Code := { maxStack := 3, maxLocals := 2, code := jdk_42_method_155_code, exceptionTable := #[], attributes := #[] }
def k7m10 : Method := { name := "checkIndex", desc := "(II)V", sig := { parameters := [.int, .int], returnType := none }, accessFlags := 8, code := some k7c10 }
/-- java/lang/String -/
def k7 : Class := { plain "java/lang/String" (some 0) with
  accessFlags := 49
  interfaces := #[2, 3, 4, 5, 6]
  cf := some (fileOf pool7 10 #[.nestMembers #[1103]] #[{ accessFlags := 1, nameIndex := 5, descriptorIndex := 6, attributes := #[] }, { accessFlags := 1, nameIndex := 5, descriptorIndex := 1010, attributes := #[] }, { accessFlags := 1, nameIndex := 5, descriptorIndex := 1233, attributes := #[] }, { accessFlags := 1, nameIndex := 507, descriptorIndex := 334, attributes := #[] }, { accessFlags := 1, nameIndex := 497, descriptorIndex := 427, attributes := #[] }, { accessFlags := 0, nameIndex := 532, descriptorIndex := 821, attributes := #[] }, { accessFlags := 2, nameIndex := 5, descriptorIndex := 29, attributes := #[] }, { accessFlags := 0, nameIndex := 5, descriptorIndex := 491, attributes := #[] }, { accessFlags := 0, nameIndex := 17, descriptorIndex := 337, attributes := #[] }, { accessFlags := 0, nameIndex := 494, descriptorIndex := 142, attributes := #[] }, { accessFlags := 8, nameIndex := 501, descriptorIndex := 391, attributes := #[] }] 49 2 #[1106, 1108, 575, 1110, 1112] #[{ accessFlags := 18, nameIndex := 13, descriptorIndex := 14, attributes := #[] }, { accessFlags := 18, nameIndex := 17, descriptorIndex := 18, attributes := #[] }, { accessFlags := 2, nameIndex := 21, descriptorIndex := 22, attributes := #[] }, { accessFlags := 2, nameIndex := 25, descriptorIndex := 26, attributes := #[] }, { accessFlags := 26, nameIndex := 1116, descriptorIndex := 1117, attributes := #[] }, { accessFlags := 24, nameIndex := 40, descriptorIndex := 26, attributes := #[] }, { accessFlags := 26, nameIndex := 1101, descriptorIndex := 1102, attributes := #[] }, { accessFlags := 26, nameIndex := 1121, descriptorIndex := 1122, attributes := #[] }, { accessFlags := 25, nameIndex := 599, descriptorIndex := 600, attributes := #[] }, { accessFlags := 24, nameIndex := 1125, descriptorIndex := 18, attributes := #[] }, { accessFlags := 24, nameIndex := 1127, descriptorIndex := 18, attributes := #[] }])
  fields := #[{ name := "value", type := (.array .byte), accessFlags := 18, slot := 0, constantValue := 0 }, { name := "coder", type := .byte, accessFlags := 18, slot := 1, constantValue := 0 }, { name := "hash", type := .int, accessFlags := 2, slot := 2, constantValue := 0 }, { name := "hashIsZero", type := .boolean, accessFlags := 2, slot := 3, constantValue := 0 }, { name := "serialVersionUID", type := .long, accessFlags := 26, slot := 0, constantValue := 0 }, { name := "COMPACT_STRINGS", type := .boolean, accessFlags := 24, slot := 1, constantValue := 0 }, { name := "serialPersistentFields", type := (.array (.object "java/io/ObjectStreamField")), accessFlags := 26, slot := 2, constantValue := 0 }, { name := "REPL", type := .char, accessFlags := 26, slot := 3, constantValue := 0 }, { name := "CASE_INSENSITIVE_ORDER", type := (.object "java/util/Comparator"), accessFlags := 25, slot := 4, constantValue := 0 }, { name := "LATIN1", type := .byte, accessFlags := 24, slot := 5, constantValue := 0 }, { name := "UTF16", type := .byte, accessFlags := 24, slot := 6, constantValue := 0 }]
  methods := #[k7m0, k7m1, k7m2, k7m3, k7m4, k7m5, k7m6, k7m7, k7m8, k7m9, k7m10]
  instanceTypes := #[(.array .byte), .byte, .int, .boolean]
  staticTypes := #[.long, .boolean, (.array (.object "java/io/ObjectStreamField")), .char, (.object "java/util/Comparator"), .byte, .byte]
  resolved := Array.replicate 1451 none
  statics := some 0 }

def pool8 : Array CpInfo := pool [(6, .class_ 8), (1, u "java/lang/Object"), (0, u "<init>"), (0, u "()V"), (1, .class_ 14), (1, u "java/lang/StringUTF16"), (31, u "$assertionsDisabled"), (0, u "Z"), (13, u "HI_BYTE_SHIFT"), (0, u "I"), (2, u "LO_BYTE_SHIFT"), (49, .methodref 12 116), (0, .nameAndType 117 118), (0, u "compress"), (0, u "([CI[BII)I"), (3, u "([CII)[B"), (138, u "coderFromArrayLen"), (0, u "([BI)B"), (106, .class_ 371), (1, u "java/lang/StringUTF16$LinesSpliterator"), (58, u "MAX_LENGTH"), (196, .class_ 628), (0, u "java/lang/StringUTF16$CodePointsSpliterator"), (0, .class_ 630), (0, u "java/lang/StringUTF16$CharsSpliterator")] 4

def k8m0 : Method := { name := "<init>", desc := "()V", sig := { parameters := [], returnType := none }, accessFlags := 0, code := none }
def k8c1 : Code := { maxStack := 2, maxLocals := 2, code := jdk_52_method_15_code, exceptionTable := #[], attributes := #[] }
def k8m1 : Method := { name := "coderFromArrayLen", desc := "([BI)B", sig := { parameters := [(.array .byte), .int], returnType := some .byte }, accessFlags := 8, code := some k8c1 }
def k8c2 : Code := { maxStack := 5, maxLocals := 6, code := jdk_52_method_16_code, exceptionTable := #[], attributes := #[] }
def k8m2 : Method := { name := "compress", desc := "([CII)[B", sig := { parameters := [(.array .char), .int, .int], returnType := some (.array .byte) }, accessFlags := 9, code := some k8c2 }
def k8c3 : Code := { maxStack := 3, maxLocals := 7, code := jdk_52_method_21_code, exceptionTable := #[], attributes := #[] }
def k8m3 : Method := { name := "compress", desc := "([CI[BII)I", sig := { parameters := [(.array .char), .int, (.array .byte), .int, .int], returnType := some .int }, accessFlags := 9, code := some k8c3 }
/-- java/lang/StringUTF16 -/
def k8 : Class := { plain "java/lang/StringUTF16" (some 0) with
  accessFlags := 48
  interfaces := #[]
  cf := some (fileOf pool8 12 #[.nestMembers #[627, 629, 369]] #[{ accessFlags := 0, nameIndex := 9, descriptorIndex := 10, attributes := #[] }, { accessFlags := 8, nameIndex := 261, descriptorIndex := 262, attributes := #[] }, { accessFlags := 9, nameIndex := 117, descriptorIndex := 122, attributes := #[] }, { accessFlags := 9, nameIndex := 117, descriptorIndex := 118, attributes := #[] }] 48 6 #[] #[{ accessFlags := 26, nameIndex := 61, descriptorIndex := 62, attributes := #[] }, { accessFlags := 26, nameIndex := 65, descriptorIndex := 62, attributes := #[] }, { accessFlags := 24, nameIndex := 430, descriptorIndex := 62, attributes := #[] }, { accessFlags := 4120, nameIndex := 46, descriptorIndex := 47, attributes := #[] }])
  fields := #[{ name := "HI_BYTE_SHIFT", type := .int, accessFlags := 26, slot := 0, constantValue := 0 }, { name := "LO_BYTE_SHIFT", type := .int, accessFlags := 26, slot := 1, constantValue := 0 }, { name := "MAX_LENGTH", type := .int, accessFlags := 24, slot := 2, constantValue := 0 }, { name := "$assertionsDisabled", type := .boolean, accessFlags := 4120, slot := 3, constantValue := 0 }]
  methods := #[k8m0, k8m1, k8m2, k8m3]
  instanceTypes := #[]
  staticTypes := #[.int, .int, .int, .boolean]
  resolved := Array.replicate 635 none
  statics := none }

def pool9 : Array CpInfo := pool [(1, .methodref 2 3), (0, .class_ 4), (0, .nameAndType 5 6), (0, u "com/example/token_to_key/tokentokey/s3/Permission"), (0, u "<init>"), (0, u "(Ljava/lang/String;Ljava/lang/String;Z)V"), (0, .methodref 8 9), (0, .class_ 10), (0, .nameAndType 5 11), (0, u "java/lang/Object"), (0, u "()V"), (0, .fieldref 2 13), (0, .nameAndType 14 15), (0, u "action"), (0, u "Ljava/lang/String;"), (0, .fieldref 2 17), (0, .nameAndType 18 15), (0, u "resource"), (0, .fieldref 2 20), (0, .nameAndType 21 22), (0, u "mustBeAllowed"), (0, u "Z"), (27, .class_ 51), (0, u "java/lang/StringBuilder"), (0, .methodref 50 9), (0, .methodref 50 54), (0, .nameAndType 55 56), (0, u "append"), (0, u "(Ljava/lang/String;)Ljava/lang/StringBuilder;"), (0, .string 58), (0, u " on "), (0, .methodref 50 60), (0, .nameAndType 61 62), (0, u "toString"), (0, u "()Ljava/lang/String;"), (0, u "(Ljava/lang/String;Ljava/lang/String;)V")] 11

def k9c0 : Code := { maxStack := 4, maxLocals := 3, code := prog_34_method_1_code, exceptionTable := #[], attributes := #[] }
def k9m0 : Method := { name := "<init>", desc := "(Ljava/lang/String;Ljava/lang/String;)V", sig := { parameters := [(.object "java/lang/String"), (.object "java/lang/String")], returnType := none }, accessFlags := 0, code := some k9c0 }
def k9c1 : Code := { maxStack := 2, maxLocals := 4, code := prog_34_method_2_code, exceptionTable := #[], attributes := #[] }
def k9m1 : Method := { name := "<init>", desc := "(Ljava/lang/String;Ljava/lang/String;Z)V", sig := { parameters := [(.object "java/lang/String"), (.object "java/lang/String"), .boolean], returnType := none }, accessFlags := 2, code := some k9c1 }
def k9c2 : Code := { maxStack := 2, maxLocals := 1, code := prog_34_method_7_code, exceptionTable := #[], attributes := #[] }
def k9m2 : Method := { name := "toString", desc := "()Ljava/lang/String;", sig := { parameters := [], returnType := some (.object "java/lang/String") }, accessFlags := 1, code := some k9c2 }
/-- com/example/token_to_key/tokentokey/s3/Permission -/
def k9 : Class := { plain "com/example/token_to_key/tokentokey/s3/Permission" (some 0) with
  accessFlags := 32
  interfaces := #[]
  cf := some (fileOf pool9 2 #[] #[{ accessFlags := 0, nameIndex := 5, descriptorIndex := 63, attributes := #[] }, { accessFlags := 2, nameIndex := 5, descriptorIndex := 6, attributes := #[] }, { accessFlags := 1, nameIndex := 61, descriptorIndex := 62, attributes := #[] }] 32 8 #[] #[{ accessFlags := 18, nameIndex := 14, descriptorIndex := 15, attributes := #[] }, { accessFlags := 18, nameIndex := 18, descriptorIndex := 15, attributes := #[] }, { accessFlags := 18, nameIndex := 21, descriptorIndex := 22, attributes := #[] }])
  fields := #[{ name := "action", type := (.object "java/lang/String"), accessFlags := 18, slot := 0, constantValue := 0 }, { name := "resource", type := (.object "java/lang/String"), accessFlags := 18, slot := 1, constantValue := 0 }, { name := "mustBeAllowed", type := .boolean, accessFlags := 18, slot := 2, constantValue := 0 }]
  methods := #[k9m0, k9m1, k9m2]
  instanceTypes := #[(.object "java/lang/String"), (.object "java/lang/String"), .boolean]
  staticTypes := #[]
  resolved := Array.replicate 75 none
  statics := none }

def pool10 : Array CpInfo := pool [(1, .class_ 2), (0, u "java/lang/Appendable"), (0, .class_ 4), (0, u "java/lang/Object")] 9

/-- java/lang/Appendable -/
def k10 : Class := { plain "java/lang/Appendable" (some 0) with
  accessFlags := 1537
  interfaces := #[]
  cf := some (fileOf pool10 1 #[] #[] 1537 3 #[] #[])
  fields := #[]
  methods := #[]
  instanceTypes := #[]
  staticTypes := #[]
  resolved := Array.replicate 14 none
  statics := none }

def pool11 : Array CpInfo := pool [(1, .class_ 2), (0, u "java/lang/String"), (0, .methodref 4 5), (0, .class_ 6), (0, .nameAndType 7 8), (0, u "java/lang/Object"), (0, u "<init>"), (0, u "()V"), (1, .class_ 12), (1, u "java/lang/AbstractStringBuilder"), (0, u "EMPTYVALUE"), (0, u "[B"), (0, .fieldref 10 16), (0, .nameAndType 17 14), (0, u "value"), (0, .fieldref 1 19), (0, .nameAndType 20 21), (0, u "COMPACT_STRINGS"), (0, u "Z"), (0, .fieldref 10 23), (0, .nameAndType 24 25), (0, u "coder"), (0, u "B"), (6, .methodref 1 33), (0, .nameAndType 34 35), (0, u "length"), (0, u "()I"), (4, .methodref 1 41), (0, .nameAndType 24 42), (0, u "()B"), (2, u "append"), (0, u "(Ljava/lang/String;)Ljava/lang/AbstractStringBuilder;"), (1, .class_ 49), (0, u "java/lang/CharSequence"), (19, u "(Ljava/lang/String;)V"), (5, u "maybeLatin1"), (3, .fieldref 10 80), (0, .nameAndType 81 82), (0, u "count"), (0, u "I"), (2, u "isLatin1"), (0, u "()Z"), (13, .methodref 10 101), (0, .nameAndType 102 103), (0, u "ensureCapacityInternal"), (0, u "(I)V"), (104, .methodref 10 209), (0, .nameAndType 210 211), (0, u "putStringAt"), (0, u "(ILjava/lang/String;)V"), (5, u "inflateIfNeededFor"), (2, .nameAndType 221 222), (0, u "getBytes"), (0, u "([BIB)V"), (174, .methodref 10 398), (0, .nameAndType 217 69), (0, .methodref 1 220), (3, u "()[B"), (40, .class_ 445), (0, u "java/lang/Appendable"), (106, u "getValue")] 56

def k11m0 : Method := { name := "<init>", desc := "()V", sig := { parameters := [], returnType := none }, accessFlags := 0, code := none }
def k11c1 : Code := { maxStack := 2, maxLocals := 2, code := jdk_68_method_2_code, exceptionTable := #[], attributes := #[] }
def k11m1 : Method := { name := "<init>", desc := "(I)V", sig := { parameters := [.int], returnType := none }, accessFlags := 0, code := some k11c1 }
def k11c2 : Code := { maxStack := 1, maxLocals := 1, code := jdk_68_method_6_code, exceptionTable := #[], attributes := #[] }
def k11m2 : Method := { name := "length", desc := "()I", sig := { parameters := [], returnType := some .int }, accessFlags := 1, code := some k11c2 }
def k11c3 : Code := { maxStack := 4, maxLocals := 3, code := jdk_68_method_9_code, exceptionTable := #[], attributes := #[] }
def k11m3 : Method := { name := "ensureCapacityInternal", desc := "(I)V", sig := { parameters := [.int], returnType := none }, accessFlags := 2, code := some k11c3 }
def k11c4 : Code := { maxStack := 3, maxLocals := 3, code := jdk_68_method_22_code, exceptionTable := #[], attributes := #[] }
def k11m4 : Method := { name := "append", desc := "(Ljava/lang/String;)Ljava/lang/AbstractStringBuilder;", sig := { parameters := [(.object "java/lang/String")], returnType := some (.object "java/lang/AbstractStringBuilder") }, accessFlags := 1, code := some k11c4 }
def k11c5 : Code := { maxStack := 1, maxLocals := 1, code := jdk_68_method_64_code, exceptionTable := #[], attributes := #[] }
def k11m5 : Method := { name := "getValue", desc := "()[B", sig := { parameters := [], returnType := some (.array .byte) }, accessFlags := 16, code := some k11c5 }
def k11c6 : Code := { maxStack := 1, maxLocals := 1, code := jdk_68_method_68_code, exceptionTable := #[], attributes := #[] }
def k11m6 : Method := { name := "isLatin1", desc := "()Z", sig := { parameters := [], returnType := some .boolean }, accessFlags := 16, code := some k11c6 }
def k11c7 : Code := { maxStack := 2, maxLocals := 2, code := jdk_68_method_71_code, exceptionTable := #[], attributes := #[] }
def k11m7 : Method := { name := "inflateIfNeededFor", desc := "(Ljava/lang/String;)V", sig := { parameters := [(.object "java/lang/String")], returnType := none }, accessFlags := 2, code := some k11c7 }
def k11c8 : Code := { maxStack := 4, maxLocals := 3, code := jdk_68_method_73_code, exceptionTable := #[], attributes := #[] }
def k11m8 : Method := { name := "putStringAt", desc := "(ILjava/lang/String;)V", sig := { parameters := [.int, (.object "java/lang/String")], returnType := none }, accessFlags := 2, code := some k11c8 }
/-- java/lang/AbstractStringBuilder -/
def k11 : Class := { plain "java/lang/AbstractStringBuilder" (some 0) with
  accessFlags := 1056
  interfaces := #[10, 4]
  cf := some (fileOf pool11 10 #[] #[{ accessFlags := 0, nameIndex := 7, descriptorIndex := 8, attributes := #[] }, { accessFlags := 0, nameIndex := 7, descriptorIndex := 103, attributes := #[] }, { accessFlags := 1, nameIndex := 34, descriptorIndex := 35, attributes := #[] }, { accessFlags := 2, nameIndex := 102, descriptorIndex := 103, attributes := #[] }, { accessFlags := 1, nameIndex := 45, descriptorIndex := 46, attributes := #[] }, { accessFlags := 16, nameIndex := 552, descriptorIndex := 403, attributes := #[] }, { accessFlags := 16, nameIndex := 85, descriptorIndex := 86, attributes := #[] }, { accessFlags := 2, nameIndex := 217, descriptorIndex := 69, attributes := #[] }, { accessFlags := 2, nameIndex := 210, descriptorIndex := 211, attributes := #[] }] 1056 4 #[444, 48] #[{ accessFlags := 0, nameIndex := 17, descriptorIndex := 14, attributes := #[] }, { accessFlags := 0, nameIndex := 24, descriptorIndex := 25, attributes := #[] }, { accessFlags := 0, nameIndex := 75, descriptorIndex := 21, attributes := #[] }, { accessFlags := 0, nameIndex := 81, descriptorIndex := 82, attributes := #[] }, { accessFlags := 26, nameIndex := 13, descriptorIndex := 14, attributes := #[] }])
  fields := #[{ name := "value", type := (.array .byte), accessFlags := 0, slot := 0, constantValue := 0 }, { name := "coder", type := .byte, accessFlags := 0, slot := 1, constantValue := 0 }, { name := "maybeLatin1", type := .boolean, accessFlags := 0, slot := 2, constantValue := 0 }, { name := "count", type := .int, accessFlags := 0, slot := 3, constantValue := 0 }, { name := "EMPTYVALUE", type := (.array .byte), accessFlags := 26, slot := 0, constantValue := 0 }]
  methods := #[k11m0, k11m1, k11m2, k11m3, k11m4, k11m5, k11m6, k11m7, k11m8]
  instanceTypes := #[(.array .byte), .byte, .boolean, .int]
  staticTypes := #[(.array .byte)]
  resolved := Array.replicate 609 none
  statics := none }

def pool12 : Array CpInfo := pool [(1, .methodref 2 3), (0, .class_ 4), (0, .nameAndType 5 6), (0, u "java/lang/AbstractStringBuilder"), (0, u "<init>"), (0, u "(I)V"), (11, .class_ 20), (1, u "java/lang/String"), (3, .class_ 26), (1, u "java/lang/StringBuilder"), (0, u "append"), (0, u "(Ljava/lang/String;)Ljava/lang/StringBuilder;"), (0, .methodref 2 30), (0, .nameAndType 27 31), (0, u "(Ljava/lang/String;)Ljava/lang/AbstractStringBuilder;"), (105, .methodref 18 138), (0, .nameAndType 5 139), (0, u "(Ljava/lang/StringBuilder;)V"), (5, u "()V"), (10, u "()I"), (186, .methodref 2 344), (0, .nameAndType 345 156), (0, u "length"), (3, .class_ 350), (0, u "java/lang/Appendable"), (0, .class_ 352), (0, u "java/io/Serializable"), (0, .class_ 354), (0, u "java/lang/Comparable"), (0, .class_ 356), (0, u "java/lang/CharSequence"), (0, u "serialVersionUID"), (0, u "J"), (40, u "toString"), (0, u "()Ljava/lang/String;")] 21

def k12c0 : Code := { maxStack := 2, maxLocals := 1, code := jdk_67_method_1_code, exceptionTable := #[], attributes := #[] }
def k12m0 : Method := { name := "<init>", desc := "()V", sig := { parameters := [], returnType := none }, accessFlags := 1, code := some k12c0 }
def k12c1 : Code := { maxStack := 2, maxLocals := 2, code := jdk_67_method_7_code, exceptionTable := #[], attributes := #[] }
def k12m1 : Method := { name := "append", desc := "(Ljava/lang/String;)Ljava/lang/StringBuilder;", sig := { parameters := [(.object "java/lang/String")], returnType := some (.object "java/lang/StringBuilder") }, accessFlags := 1, code := some k12c1 }
def k12c2 : Code := { maxStack := 3, maxLocals := 1, code := jdk_67_method_42_code, exceptionTable := #[], attributes := #[] }
def k12m2 : Method := { name := "toString", desc := "()Ljava/lang/String;", sig := { parameters := [], returnType := some (.object "java/lang/String") }, accessFlags := 1, code := some k12c2 }
def k12c3 : Code := { maxStack := 1, maxLocals := 1, code := jdk_67_method_93_code, exceptionTable := #[], attributes := #[] }
def k12m3 : Method := { name := "length", desc := "()I", sig := { parameters := [], returnType := some .int }, accessFlags := 4161, code := some k12c3 }
/-- java/lang/StringBuilder -/
def k12 : Class := { plain "java/lang/StringBuilder" (some 11) with
  accessFlags := 49
  interfaces := #[10, 2, 3, 4]
  cf := some (fileOf pool12 24 #[] #[{ accessFlags := 1, nameIndex := 5, descriptorIndex := 145, attributes := #[] }, { accessFlags := 1, nameIndex := 27, descriptorIndex := 28, attributes := #[] }, { accessFlags := 1, nameIndex := 399, descriptorIndex := 400, attributes := #[] }, { accessFlags := 4161, nameIndex := 345, descriptorIndex := 156, attributes := #[] }] 49 2 #[349, 351, 353, 355] #[{ accessFlags := 24, nameIndex := 357, descriptorIndex := 358, attributes := #[] }])
  fields := #[{ name := "serialVersionUID", type := .long, accessFlags := 24, slot := 0, constantValue := 0 }]
  methods := #[k12m0, k12m1, k12m2, k12m3]
  instanceTypes := #[(.array .byte), .byte, .boolean, .int]
  staticTypes := #[.long]
  resolved := Array.replicate 422 none
  statics := none }

def pool13 : Array CpInfo := pool [(2, .class_ 4), (1, u "java/lang/Object"), (0, u "<init>"), (0, u "()V"), (1, .class_ 10), (1, u "java/lang/System"), (0, u "allowSecurityManager"), (0, u "I"), (16, u "cons"), (0, u "Ljava/io/Console;"), (77, .class_ 110), (1, u "java/lang/System$CallersHolder"), (43, u "initialErrStream"), (0, u "Ljava/io/PrintStream;"), (19, u "security"), (0, u "Ljava/lang/SecurityManager;"), (31, .class_ 209), (0, u "java/lang/System$1"), (7, u "props"), (0, u "Ljava/util/Properties;"), (2, u "lineSeparator"), (0, u "Ljava/lang/String;"), (96, .class_ 321), (1, u "java/lang/System$LoggerFinder"), (5, .class_ 328), (0, u "java/lang/System$Logger"), (67, u "err"), (2, u "out"), (91, u "notSupportedJnuEncoding"), (15, u "in"), (17, u "initialIn"), (0, u "Ljava/io/InputStream;"), (35, u "bootLayer"), (0, u "Ljava/lang/ModuleLayer;"), (99, .class_ 664), (0, u "java/lang/System$2"), (9, u "NEVER"), (2, u "MAYBE"), (49, u "arraycopy"), (0, u "(Ljava/lang/Object;ILjava/lang/Object;II)V"), (72, .class_ 802), (0, u "java/lang/System$Logger$Level")] 31

def k13m0 : Method := { name := "<init>", desc := "()V", sig := { parameters := [], returnType := none }, accessFlags := 2, code := none }
def k13m1 : Method := { name := "arraycopy", desc := "(Ljava/lang/Object;ILjava/lang/Object;II)V", sig := { parameters := [(.object "java/lang/Object"), .int, (.object "java/lang/Object"), .int, .int], returnType := none }, accessFlags := 265, code := none }
/-- java/lang/System -/
def k13 : Class := { plain "java/lang/System" (some 0) with
  accessFlags := 49
  interfaces := #[]
  cf := some (fileOf pool13 8 #[.nestMembers #[319, 327, 801, 108, 663, 208]] #[{ accessFlags := 2, nameIndex := 5, descriptorIndex := 6, attributes := #[] }, { accessFlags := 265, nameIndex := 727, descriptorIndex := 728, attributes := #[] }] 49 2 #[] #[{ accessFlags := 25, nameIndex := 507, descriptorIndex := 526, attributes := #[] }, { accessFlags := 25, nameIndex := 399, descriptorIndex := 155, attributes := #[] }, { accessFlags := 25, nameIndex := 396, descriptorIndex := 155, attributes := #[] }, { accessFlags := 10, nameIndex := 525, descriptorIndex := 526, attributes := #[] }, { accessFlags := 26, nameIndex := 674, descriptorIndex := 12, attributes := #[] }, { accessFlags := 26, nameIndex := 677, descriptorIndex := 12, attributes := #[] }, { accessFlags := 10, nameIndex := 11, descriptorIndex := 12, attributes := #[] }, { accessFlags := 74, nameIndex := 175, descriptorIndex := 176, attributes := #[] }, { accessFlags := 10, nameIndex := 491, descriptorIndex := 222, attributes := #[] }, { accessFlags := 74, nameIndex := 29, descriptorIndex := 30, attributes := #[] }, { accessFlags := 74, nameIndex := 154, descriptorIndex := 155, attributes := #[] }, { accessFlags := 10, nameIndex := 217, descriptorIndex := 218, attributes := #[] }, { accessFlags := 10, nameIndex := 221, descriptorIndex := 222, attributes := #[] }, { accessFlags := 8, nameIndex := 562, descriptorIndex := 563, attributes := #[] }])
  fields := #[{ name := "in", type := (.object "java/io/InputStream"), accessFlags := 25, slot := 0, constantValue := 0 }, { name := "out", type := (.object "java/io/PrintStream"), accessFlags := 25, slot := 1, constantValue := 0 }, { name := "err", type := (.object "java/io/PrintStream"), accessFlags := 25, slot := 2, constantValue := 0 }, { name := "initialIn", type := (.object "java/io/InputStream"), accessFlags := 10, slot := 3, constantValue := 0 }, { name := "NEVER", type := .int, accessFlags := 26, slot := 4, constantValue := 0 }, { name := "MAYBE", type := .int, accessFlags := 26, slot := 5, constantValue := 0 }, { name := "allowSecurityManager", type := .int, accessFlags := 10, slot := 6, constantValue := 0 }, { name := "security", type := (.object "java/lang/SecurityManager"), accessFlags := 74, slot := 7, constantValue := 0 }, { name := "notSupportedJnuEncoding", type := (.object "java/lang/String"), accessFlags := 10, slot := 8, constantValue := 0 }, { name := "cons", type := (.object "java/io/Console"), accessFlags := 74, slot := 9, constantValue := 0 }, { name := "initialErrStream", type := (.object "java/io/PrintStream"), accessFlags := 74, slot := 10, constantValue := 0 }, { name := "props", type := (.object "java/util/Properties"), accessFlags := 10, slot := 11, constantValue := 0 }, { name := "lineSeparator", type := (.object "java/lang/String"), accessFlags := 10, slot := 12, constantValue := 0 }, { name := "bootLayer", type := (.object "java/lang/ModuleLayer"), accessFlags := 8, slot := 13, constantValue := 0 }]
  methods := #[k13m0, k13m1]
  instanceTypes := #[]
  staticTypes := #[(.object "java/io/InputStream"), (.object "java/io/PrintStream"), (.object "java/io/PrintStream"), (.object "java/io/InputStream"), .int, .int, .int, (.object "java/lang/SecurityManager"), (.object "java/lang/String"), (.object "java/io/Console"), (.object "java/io/PrintStream"), (.object "java/util/Properties"), (.object "java/lang/String"), (.object "java/lang/ModuleLayer")]
  resolved := Array.replicate 834 none
  statics := none }

def pool14 : Array CpInfo := pool [(2, .class_ 4), (1, u "java/lang/Object"), (0, u "<init>"), (0, u "()V"), (7, .class_ 16), (1, u "java/util/Arrays"), (57, .class_ 76), (1, u "java/util/Arrays$NaturalOrder"), (36, .class_ 115), (1, u "java/util/Arrays$LegacyMergeSort"), (1, u "Z"), (21, u "copyOfRange"), (10, .methodref 151 152), (0, .class_ 153), (0, .nameAndType 154 155), (0, u "java/lang/System"), (0, u "arraycopy"), (0, u "(Ljava/lang/Object;ILjava/lang/Object;II)V"), (148, .methodref 305 306), (0, .class_ 307), (0, .nameAndType 308 309), (0, u "java/lang/Math"), (0, u "min"), (0, u "(II)I"), (29, .methodref 14 340), (0, .nameAndType 341 342), (0, u "copyOfRangeByte"), (0, u "([BII)[B"), (0, .methodref 14 344), (0, .nameAndType 345 346), (0, u "checkLength"), (0, u "(II)V"), (28, .class_ 376), (0, u "java/util/Arrays$ArrayList"), (68, u "$assertionsDisabled"), (269, u "MIN_ARRAY_SORT_GRAN"), (0, u "I"), (2, u "INSERTIONSORT_THRESHOLD"), (255, .class_ 976), (0, u "java/util/Arrays$ArrayItr")] 52

def k14m0 : Method := { name := "<init>", desc := "()V", sig := { parameters := [], returnType := none }, accessFlags := 2, code := none }
def k14c1 : Code := { maxStack := 4, maxLocals := 2, code := jdk_65_method_131_code, exceptionTable := #[], attributes := #[] }
def k14m1 : Method := { name := "checkLength", desc := "(II)V", sig := { parameters := [.int, .int], returnType := none }, accessFlags := 10, code := some k14c1 }
def k14c2 : Code := { maxStack := 3, maxLocals := 3, code := jdk_65_method_132_code, exceptionTable := #[], attributes := #[] }
def k14m2 : Method := { name := "copyOfRange", desc := "([BII)[B", sig := { parameters := [(.array .byte), .int, .int], returnType := some (.array .byte) }, accessFlags := 9, code := some k14c2 }
def k14c3 : Code := { maxStack := 6, maxLocals := 5, code := jdk_65_method_133_code, exceptionTable := #[], attributes := #[] }
def k14m3 : Method := { name := "copyOfRangeByte", desc := "([BII)[B", sig := { parameters := [(.array .byte), .int, .int], returnType := some (.array .byte) }, accessFlags := 10, code := some k14c3 }
/-- java/util/Arrays -/
def k14 : Class := { plain "java/util/Arrays" (some 0) with
  accessFlags := 49
  interfaces := #[]
  cf := some (fileOf pool14 14 #[.nestMembers #[975, 375, 113, 74]] #[{ accessFlags := 2, nameIndex := 5, descriptorIndex := 6, attributes := #[] }, { accessFlags := 10, nameIndex := 345, descriptorIndex := 346, attributes := #[] }, { accessFlags := 9, nameIndex := 139, descriptorIndex := 342, attributes := #[] }, { accessFlags := 10, nameIndex := 341, descriptorIndex := 342, attributes := #[] }] 49 2 #[] #[{ accessFlags := 26, nameIndex := 715, descriptorIndex := 716, attributes := #[] }, { accessFlags := 26, nameIndex := 719, descriptorIndex := 716, attributes := #[] }, { accessFlags := 4120, nameIndex := 445, descriptorIndex := 117, attributes := #[] }])
  fields := #[{ name := "MIN_ARRAY_SORT_GRAN", type := .int, accessFlags := 26, slot := 0, constantValue := 0 }, { name := "INSERTIONSORT_THRESHOLD", type := .int, accessFlags := 26, slot := 1, constantValue := 0 }, { name := "$assertionsDisabled", type := .boolean, accessFlags := 4120, slot := 2, constantValue := 0 }]
  methods := #[k14m0, k14m1, k14m2, k14m3]
  instanceTypes := #[]
  staticTypes := #[.int, .int, .boolean]
  resolved := Array.replicate 1029 none
  statics := none }

def pool15 : Array CpInfo := pool [(1, .class_ 2), (0, u "java/lang/Math"), (1, .class_ 6), (1, u "java/lang/Object"), (0, u "<init>"), (0, u "()V"), (89, .class_ 100), (1, u "java/lang/Math$RandomNumberGeneratorHolder"), (71, u "negativeZeroFloatBits"), (0, u "J"), (2, u "negativeZeroDoubleBits"), (24, u "min"), (43, u "$assertionsDisabled"), (0, u "Z"), (88, u "(II)I"), (2, u "twoToTheDoubleScaleDown"), (0, u "D"), (4, u "twoToTheDoubleScaleUp"), (9, u "E"), (3, u "PI"), (2, u "TAU"), (2, u "DEGREES_TO_RADIANS"), (0, u "RADIANS_TO_DEGREES")] 94

def k15m0 : Method := { name := "<init>", desc := "()V", sig := { parameters := [], returnType := none }, accessFlags := 2, code := none }
def k15c1 : Code := { maxStack := 2, maxLocals := 2, code := jdk_29_method_69_code, exceptionTable := #[], attributes := #[] }
def k15m1 : Method := { name := "min", desc := "(II)I", sig := { parameters := [.int, .int], returnType := some .int }, accessFlags := 9, code := some k15c1 }
/-- java/lang/Math -/
def k15 : Class := { plain "java/lang/Math" (some 0) with
  accessFlags := 49
  interfaces := #[]
  cf := some (fileOf pool15 1 #[.nestMembers #[98]] #[{ accessFlags := 2, nameIndex := 7, descriptorIndex := 8, attributes := #[] }, { accessFlags := 9, nameIndex := 201, descriptorIndex := 335, attributes := #[] }] 49 4 #[] #[{ accessFlags := 25, nameIndex := 354, descriptorIndex := 339, attributes := #[] }, { accessFlags := 25, nameIndex := 358, descriptorIndex := 339, attributes := #[] }, { accessFlags := 25, nameIndex := 361, descriptorIndex := 339, attributes := #[] }, { accessFlags := 26, nameIndex := 364, descriptorIndex := 339, attributes := #[] }, { accessFlags := 26, nameIndex := 365, descriptorIndex := 339, attributes := #[] }, { accessFlags := 26, nameIndex := 172, descriptorIndex := 173, attributes := #[] }, { accessFlags := 26, nameIndex := 176, descriptorIndex := 173, attributes := #[] }, { accessFlags := 8, nameIndex := 344, descriptorIndex := 339, attributes := #[] }, { accessFlags := 8, nameIndex := 338, descriptorIndex := 339, attributes := #[] }, { accessFlags := 4120, nameIndex := 245, descriptorIndex := 246, attributes := #[] }])
  fields := #[{ name := "E", type := .double, accessFlags := 25, slot := 0, constantValue := 0 }, { name := "PI", type := .double, accessFlags := 25, slot := 1, constantValue := 0 }, { name := "TAU", type := .double, accessFlags := 25, slot := 2, constantValue := 0 }, { name := "DEGREES_TO_RADIANS", type := .double, accessFlags := 26, slot := 3, constantValue := 0 }, { name := "RADIANS_TO_DEGREES", type := .double, accessFlags := 26, slot := 4, constantValue := 0 }, { name := "negativeZeroFloatBits", type := .long, accessFlags := 26, slot := 5, constantValue := 0 }, { name := "negativeZeroDoubleBits", type := .long, accessFlags := 26, slot := 6, constantValue := 0 }, { name := "twoToTheDoubleScaleUp", type := .double, accessFlags := 8, slot := 7, constantValue := 0 }, { name := "twoToTheDoubleScaleDown", type := .double, accessFlags := 8, slot := 8, constantValue := 0 }, { name := "$assertionsDisabled", type := .boolean, accessFlags := 4120, slot := 9, constantValue := 0 }]
  methods := #[k15m0, k15m1]
  instanceTypes := #[]
  staticTypes := #[.double, .double, .double, .double, .double, .long, .long, .double, .double, .boolean]
  resolved := Array.replicate 460 none
  statics := none }

def pool16 : Array CpInfo := pool [(1, .class_ 2), (0, u "java/lang/String"), (1, .class_ 6), (1, u "java/lang/Object"), (0, u "<init>"), (0, u "()V"), (0, .methodref 1 10), (0, .nameAndType 11 12), (0, u "checkIndex"), (0, u "(II)V"), (1, .class_ 16), (1, u "java/lang/StringLatin1"), (36, u "([BI)C"), (67, u "$assertionsDisabled"), (0, u "Z"), (98, .class_ 223), (1, u "java/lang/StringLatin1$LinesSpliterator"), (28, u "charAt"), (137, .class_ 391), (0, u "java/lang/StringLatin1$CharsSpliterator")] 3

def k16m0 : Method := { name := "<init>", desc := "()V", sig := { parameters := [], returnType := none }, accessFlags := 0, code := none }
def k16c1 : Code := { maxStack := 2, maxLocals := 2, code := jdk_43_method_2_code, exceptionTable := #[], attributes := #[] }
def k16m1 : Method := { name := "charAt", desc := "([BI)C", sig := { parameters := [(.array .byte), .int], returnType := some .char }, accessFlags := 9, code := some k16c1 }
/-- java/lang/StringLatin1 -/
def k16 : Class := { plain "java/lang/StringLatin1" (some 0) with
  accessFlags := 48
  interfaces := #[]
  cf := some (fileOf pool16 14 #[.nestMembers #[390, 221]] #[{ accessFlags := 0, nameIndex := 7, descriptorIndex := 8, attributes := #[] }, { accessFlags := 9, nameIndex := 252, descriptorIndex := 53, attributes := #[] }] 48 4 #[] #[{ accessFlags := 4120, nameIndex := 121, descriptorIndex := 122, attributes := #[] }])
  fields := #[{ name := "$assertionsDisabled", type := .boolean, accessFlags := 4120, slot := 0, constantValue := 0 }]
  methods := #[k16m0, k16m1]
  instanceTypes := #[]
  staticTypes := #[.boolean]
  resolved := Array.replicate 395 none
  statics := none }

def pool17 : Array CpInfo := pool [(2, .class_ 4), (1, u "java/lang/Object"), (0, u "<init>"), (0, u "()V"), (17, .class_ 26), (1, u "jdk/internal/util/Preconditions"), (6, u "checkIndex"), (21, .class_ 56), (0, u "jdk/internal/util/Preconditions$4"), (57, .class_ 115), (0, u "jdk/internal/util/Preconditions$1"), (7, u "SIOOBE_FORMATTER"), (0, u "Ljava/util/function/BiFunction;"), (0, .class_ 126), (0, u "jdk/internal/util/Preconditions$2"), (3, u "AIOOBE_FORMATTER"), (0, .class_ 132), (0, u "jdk/internal/util/Preconditions$3"), (3, u "IOOBE_FORMATTER"), (41, u "(IILjava/util/function/BiFunction;)I")] 15

def k17m0 : Method := { name := "<init>", desc := "()V", sig := { parameters := [], returnType := none }, accessFlags := 1, code := none }
def k17c1 : Code := { maxStack := 3, maxLocals := 3, code := jdk_41_method_11_code, exceptionTable := #[], attributes := #[] }
def k17m1 : Method := { name := "checkIndex", desc := "(IILjava/util/function/BiFunction;)I", sig := { parameters := [.int, .int, (.object "java/util/function/BiFunction")], returnType := some .int }, accessFlags := 9, code := some k17c1 }
/-- jdk/internal/util/Preconditions -/
def k17 : Class := { plain "jdk/internal/util/Preconditions" (some 0) with
  accessFlags := 33
  interfaces := #[]
  cf := some (fileOf pool17 24 #[.nestMembers #[55, 131, 125, 114]] #[{ accessFlags := 1, nameIndex := 5, descriptorIndex := 6, attributes := #[] }, { accessFlags := 9, nameIndex := 33, descriptorIndex := 178, attributes := #[] }] 33 2 #[] #[{ accessFlags := 25, nameIndex := 123, descriptorIndex := 124, attributes := #[] }, { accessFlags := 25, nameIndex := 130, descriptorIndex := 124, attributes := #[] }, { accessFlags := 25, nameIndex := 136, descriptorIndex := 124, attributes := #[] }])
  fields := #[{ name := "SIOOBE_FORMATTER", type := (.object "java/util/function/BiFunction"), accessFlags := 25, slot := 0, constantValue := 0 }, { name := "AIOOBE_FORMATTER", type := (.object "java/util/function/BiFunction"), accessFlags := 25, slot := 1, constantValue := 0 }, { name := "IOOBE_FORMATTER", type := (.object "java/util/function/BiFunction"), accessFlags := 25, slot := 2, constantValue := 0 }]
  methods := #[k17m0, k17m1]
  instanceTypes := #[]
  staticTypes := #[(.object "java/util/function/BiFunction"), (.object "java/util/function/BiFunction"), (.object "java/util/function/BiFunction")]
  resolved := Array.replicate 194 none
  statics := some 1 }

def pool18 : Array CpInfo := pool [(9, u "<init>"), (6, .class_ 18), (1, u "java/lang/Object"), (0, u "()V"), (1, .class_ 23), (1, u "jdk/internal/util/ArraysSupport"), (0, u "LOG2_ARRAY_LONG_INDEX_SCALE"), (0, u "I"), (2, u "U"), (0, u "Ljdk/internal/misc/Unsafe;"), (8, u "BIG_ENDIAN"), (0, u "Z"), (8, u "LOG2_BYTE_BIT_SIZE"), (4, u "LOG2_ARRAY_INT_INDEX_SCALE"), (54, u "JLA"), (0, u "Ljdk/internal/access/JavaLangAccess;"), (11, u "LOG2_ARRAY_BOOLEAN_INDEX_SCALE"), (9, u "LOG2_ARRAY_BYTE_INDEX_SCALE"), (5, u "LOG2_ARRAY_CHAR_INDEX_SCALE"), (5, u "LOG2_ARRAY_SHORT_INDEX_SCALE"), (18, u "LOG2_ARRAY_FLOAT_INDEX_SCALE"), (24, u "LOG2_ARRAY_DOUBLE_INDEX_SCALE"), (89, u "T_BOOLEAN"), (2, u "T_CHAR"), (1, u "T_FLOAT"), (1, u "T_DOUBLE"), (1, u "T_BYTE"), (1, u "T_SHORT"), (1, u "T_INT"), (1, u "T_LONG"), (1, u "SOFT_MAX_ARRAY_LENGTH")] 83

def k18m0 : Method := { name := "<init>", desc := "()V", sig := { parameters := [], returnType := none }, accessFlags := 2, code := none }
/-- jdk/internal/util/ArraysSupport -/
def k18 : Class := { plain "jdk/internal/util/ArraysSupport" (some 0) with
  accessFlags := 33
  interfaces := #[]
  cf := some (fileOf pool18 21 #[] #[{ accessFlags := 2, nameIndex := 9, descriptorIndex := 19, attributes := #[] }] 33 16 #[] #[{ accessFlags := 24, nameIndex := 28, descriptorIndex := 29, attributes := #[] }, { accessFlags := 26, nameIndex := 38, descriptorIndex := 39, attributes := #[] }, { accessFlags := 25, nameIndex := 121, descriptorIndex := 25, attributes := #[] }, { accessFlags := 25, nameIndex := 131, descriptorIndex := 25, attributes := #[] }, { accessFlags := 25, nameIndex := 137, descriptorIndex := 25, attributes := #[] }, { accessFlags := 25, nameIndex := 143, descriptorIndex := 25, attributes := #[] }, { accessFlags := 25, nameIndex := 53, descriptorIndex := 25, attributes := #[] }, { accessFlags := 25, nameIndex := 24, descriptorIndex := 25, attributes := #[] }, { accessFlags := 25, nameIndex := 162, descriptorIndex := 25, attributes := #[] }, { accessFlags := 25, nameIndex := 187, descriptorIndex := 25, attributes := #[] }, { accessFlags := 26, nameIndex := 48, descriptorIndex := 25, attributes := #[] }, { accessFlags := 25, nameIndex := 277, descriptorIndex := 25, attributes := #[] }, { accessFlags := 25, nameIndex := 280, descriptorIndex := 25, attributes := #[] }, { accessFlags := 25, nameIndex := 282, descriptorIndex := 25, attributes := #[] }, { accessFlags := 25, nameIndex := 284, descriptorIndex := 25, attributes := #[] }, { accessFlags := 25, nameIndex := 286, descriptorIndex := 25, attributes := #[] }, { accessFlags := 25, nameIndex := 288, descriptorIndex := 25, attributes := #[] }, { accessFlags := 25, nameIndex := 290, descriptorIndex := 25, attributes := #[] }, { accessFlags := 25, nameIndex := 292, descriptorIndex := 25, attributes := #[] }, { accessFlags := 26, nameIndex := 108, descriptorIndex := 109, attributes := #[] }, { accessFlags := 25, nameIndex := 294, descriptorIndex := 25, attributes := #[] }])
  fields := #[{ name := "U", type := (.object "jdk/internal/misc/Unsafe"), accessFlags := 24, slot := 0, constantValue := 0 }, { name := "BIG_ENDIAN", type := .boolean, accessFlags := 26, slot := 1, constantValue := 0 }, { name := "LOG2_ARRAY_BOOLEAN_INDEX_SCALE", type := .int, accessFlags := 25, slot := 2, constantValue := 0 }, { name := "LOG2_ARRAY_BYTE_INDEX_SCALE", type := .int, accessFlags := 25, slot := 3, constantValue := 0 }, { name := "LOG2_ARRAY_CHAR_INDEX_SCALE", type := .int, accessFlags := 25, slot := 4, constantValue := 0 }, { name := "LOG2_ARRAY_SHORT_INDEX_SCALE", type := .int, accessFlags := 25, slot := 5, constantValue := 0 }, { name := "LOG2_ARRAY_INT_INDEX_SCALE", type := .int, accessFlags := 25, slot := 6, constantValue := 0 }, { name := "LOG2_ARRAY_LONG_INDEX_SCALE", type := .int, accessFlags := 25, slot := 7, constantValue := 0 }, { name := "LOG2_ARRAY_FLOAT_INDEX_SCALE", type := .int, accessFlags := 25, slot := 8, constantValue := 0 }, { name := "LOG2_ARRAY_DOUBLE_INDEX_SCALE", type := .int, accessFlags := 25, slot := 9, constantValue := 0 }, { name := "LOG2_BYTE_BIT_SIZE", type := .int, accessFlags := 26, slot := 10, constantValue := 0 }, { name := "T_BOOLEAN", type := .int, accessFlags := 25, slot := 11, constantValue := 0 }, { name := "T_CHAR", type := .int, accessFlags := 25, slot := 12, constantValue := 0 }, { name := "T_FLOAT", type := .int, accessFlags := 25, slot := 13, constantValue := 0 }, { name := "T_DOUBLE", type := .int, accessFlags := 25, slot := 14, constantValue := 0 }, { name := "T_BYTE", type := .int, accessFlags := 25, slot := 15, constantValue := 0 }, { name := "T_SHORT", type := .int, accessFlags := 25, slot := 16, constantValue := 0 }, { name := "T_INT", type := .int, accessFlags := 25, slot := 17, constantValue := 0 }, { name := "T_LONG", type := .int, accessFlags := 25, slot := 18, constantValue := 0 }, { name := "JLA", type := (.object "jdk/internal/access/JavaLangAccess"), accessFlags := 26, slot := 19, constantValue := 0 }, { name := "SOFT_MAX_ARRAY_LENGTH", type := .int, accessFlags := 25, slot := 20, constantValue := 0 }]
  methods := #[k18m0]
  instanceTypes := #[]
  staticTypes := #[(.object "jdk/internal/misc/Unsafe"), .boolean, .int, .int, .int, .int, .int, .int, .int, .int, .int, .int, .int, .int, .int, .int, .int, .int, .int, (.object "jdk/internal/access/JavaLangAccess"), .int]
  resolved := Array.replicate 378 none
  statics := none }

def pool19 : Array CpInfo := pool [(1, u "java/lang/Cloneable"), (0, .class_ 1), (0, u "java/lang/Object"), (0, .class_ 3)] 3

/-- java/lang/Cloneable -/
def k19 : Class := { plain "java/lang/Cloneable" (some 0) with
  accessFlags := 1537
  interfaces := #[]
  cf := some (fileOf pool19 2 #[] #[] 1537 4 #[] #[])
  fields := #[]
  methods := #[]
  instanceTypes := #[]
  staticTypes := #[]
  resolved := Array.replicate 8 none
  statics := none }

/-- the primitive byte -/
def k20 : Class := { plain "byte" none with kind := .primitive 'B', accessFlags := 0x411 }
/-- [B -/
def k21 : Class := { plain "[B" (some 0) with kind := .array 20 .byte, interfaces := #[19, 2], accessFlags := 1041 }

/-- the primitive char -/
def k22 : Class := { plain "char" none with kind := .primitive 'C', accessFlags := 0x411 }
/-- [C -/
def k23 : Class := { plain "[C" (some 0) with kind := .array 22 .char, interfaces := #[19, 2], accessFlags := 1041 }

/-- the primitive int -/
def k24 : Class := { plain "int" none with kind := .primitive 'I', accessFlags := 0x411 }
/-- [I -/
def k25 : Class := { plain "[I" (some 0) with kind := .array 24 .int, interfaces := #[19, 2], accessFlags := 1041 }

def heap : Heap := #[{ cls := 7, slots := #[.long 0, .int 1, .null, .int 0, .null, .int 0, .int 0], vm := .statics 7 },
  { cls := 17, slots := #[.null, .null, .null], vm := .statics 17 }]
def classes : Array Class := #[k0, k1, k2, k3, k4, k5, k6, k7, k8, k9, k10, k11, k12, k13, k14, k15, k16, k17, k18, k19, k20, k21, k22, k23, k24, k25]
def interned : List (Array UInt16 × Addr) := []
def slotsUsed : Nat := 10
def theMethod : MethodId := ⟨1, 1⟩
def args0 : Array Value := #[.int 5, .int 6, .int 7]
def aboutOver (below : List Frame) : State where
  vm := { classes := classes, interned := interned.toArray }
  heap := heap
  slotsUsed := slotsUsed
  threads := #[{ frames := .invoking theMethod args0 :: below }]
def below0 : List Frame := [.native { method := ⟨0, 0⟩, args := #[] }]
def about1 : State := aboutOver below0
def p0 : Program := .bare "" "" ""
def e0 : Env := launch0.env 0 0 0
theorem w_frames : about1.frames = Frame.invoking theMethod args0 :: below0 := rfl
set_option maxRecDepth 65536 in
theorem w_args : argsFit about1.vm theMethod args0 = true := by decide +kernel
set_option maxRecDepth 65536 in
theorem w_heap : heapFits about1 = true := by decide +kernel
set_option maxRecDepth 65536 in
theorem w_runnable : about1.curStatus? = some .runnable := by decide +kernel
set_option maxRecDepth 65536 in
theorem w_alone : about1.alone = true := by decide +kernel
set_option maxRecDepth 65536 in
theorem w_named : about1.methodNamed? x = some theMethod := by decide +kernel
set_option maxRecDepth 65536 in
theorem w_hears : about1.hears theMethod below0 = true := by decide +kernel
set_option maxRecDepth 65536 in
theorem w_ripe : about1.ripe theMethod args0 below0 = true := by decide +kernel
theorem w_running : about1.status = .running := rfl
set_option maxRecDepth 65536 in
theorem w_room : about1.hasRoom e0.platform room_1 = true :=
  launch0.hasRoom_least _ room_1 (by decide +kernel) (by decide +kernel) (by decide +kernel) (by decide +kernel) (by decide +kernel) (by decide +kernel)
theorem allAtoms_all (ts : List Jvm.Cond) (a : Array Jvm.Value) (st : Jvm.State) : (allAtoms ts).before a st = ts.all (fun c => c.before a st) := by
  induction ts with
  | nil => rfl
  | cons c t ih =>
    show (Jvm.Cond.and c (allAtoms t)).before a st = _
    rw [Jvm.Cond.before_and, ih, List.all_cons]
def words1 : List Jvm.Cond := Jvm.Cond.code x code maxLocals ret :: tables_1
/-- a 'code' word, met by the world's own term for the bytes: nothing is compared byte by byte -/
theorem code_word {y : MethodName} {bytes : ByteArray} {mx : Nat} {rt : Option FieldType} {a : Array Value} {s : State} {m : MethodId} {meth : Method} {c : Code} (h1 : s.methodNamed? y = some m) (h2 : s.vm.method? m = some meth) (h3 : meth.code = some c) (h4 : c.code = bytes)
    (h5 : (c.maxLocals == mx && c.exceptionTable.isEmpty && decide (c.maxStack ≤ mostOperands) && decide (meth.sig.returnType = rt) && !meth.locks && decide (parseMethodDescriptor y.desc = some meth.sig)) = true) : (Jvm.Cond.code y bytes mx rt).before a s = true := by
  simp only [Bool.and_eq_true, beq_iff_eq, Bool.not_eq_true', decide_eq_true_eq] at h5
  obtain ⟨⟨⟨⟨⟨g1, g2⟩, g3⟩, g4⟩, g5⟩, g6⟩ := h5
  simp [Cond.before, Cond.holds, Cond.value, h1, h2, h3, h4, g1, g2, g3, g4, g5, g6]
def isCode : Jvm.Cond → Bool
  | .code _ _ _ _ => true
  | _ => false
theorem all_split {L : List Jvm.Cond} {P : Jvm.Cond → Bool} (h1 : L.all (fun c => isCode c || P c) = true) (h2 : ∀ c ∈ L.filter isCode, P c = true) : L.all P = true := by
  refine List.all_eq_true.mpr fun c hc => ?_
  have h := List.all_eq_true.mp h1 c hc
  rcases Bool.eq_false_or_eq_true (isCode c) with hi | hi
  · exact h2 c (List.mem_filter.mpr ⟨hc, hi⟩)
  · simpa [hi] using h
set_option maxRecDepth 65536 in
theorem w_c0 : (Jvm.Cond.code x code maxLocals ret).before args0 about1 = true := code_word (m := ⟨1, 1⟩) (meth := k1m1) (c := k1c1) (by decide +kernel) rfl rfl rfl (by decide +kernel)
set_option maxRecDepth 65536 in
theorem w_c1 : (Jvm.Cond.code ({ cls := "com/example/token_to_key/tokentokey/s3/PermissionToStringPinLaw", name := "make", desc := "(ICC)Ljava/lang/String;" } : Jvm.MethodName) method_3_code (3 : Nat) (Option.some (Jvm.ClassFile.FieldType.object "java/lang/String"))).before args0 about1 = true := code_word (m := ⟨1, 2⟩) (meth := k1m2) (c := k1c2) (by decide +kernel) rfl rfl rfl (by decide +kernel)
set_option maxRecDepth 65536 in
theorem w_c2 : (Jvm.Cond.code ({ cls := "java/lang/String", name := "<init>", desc := "([C)V" } : Jvm.MethodName) jdk_42_method_3_code (2 : Nat) (Option.none : Option Jvm.ClassFile.FieldType)).before args0 about1 = true := code_word (m := ⟨7, 1⟩) (meth := k7m1) (c := k7c1) (by decide +kernel) rfl rfl rfl (by decide +kernel)
set_option maxRecDepth 65536 in
theorem w_c3 : (Jvm.Cond.code ({ cls := "java/lang/String", name := "<init>", desc := "([CIILjava/lang/Void;)V" } : Jvm.MethodName) jdk_42_method_149_code (6 : Nat) (Option.none : Option Jvm.ClassFile.FieldType)).before args0 about1 = true := code_word (m := ⟨7, 6⟩) (meth := k7m6) (c := k7c6) (by decide +kernel) rfl rfl rfl (by decide +kernel)
set_option maxRecDepth 65536 in
theorem w_c4 : (Jvm.Cond.code ({ cls := "java/lang/Object", name := "<init>", desc := "()V" } : Jvm.MethodName) object_method_1_code (1 : Nat) (Option.none : Option Jvm.ClassFile.FieldType)).before args0 about1 = true := code_word (m := ⟨0, 0⟩) (meth := k0m0) (c := k0c0) (by decide +kernel) rfl rfl rfl (by decide +kernel)
set_option maxRecDepth 65536 in
theorem w_c5 : (Jvm.Cond.code ({ cls := "java/lang/StringUTF16", name := "compress", desc := "([CII)[B" } : Jvm.MethodName) jdk_52_method_16_code (6 : Nat) (Option.some (Jvm.ClassFile.FieldType.array Jvm.ClassFile.FieldType.byte))).before args0 about1 = true := code_word (m := ⟨8, 2⟩) (meth := k8m2) (c := k8c2) (by decide +kernel) rfl rfl rfl (by decide +kernel)
set_option maxRecDepth 65536 in
theorem w_c6 : (Jvm.Cond.code ({ cls := "java/lang/StringUTF16", name := "compress", desc := "([CI[BII)I" } : Jvm.MethodName) jdk_52_method_21_code (7 : Nat) (Option.some Jvm.ClassFile.FieldType.int)).before args0 about1 = true := code_word (m := ⟨8, 3⟩) (meth := k8m3) (c := k8c3) (by decide +kernel) rfl rfl rfl (by decide +kernel)
set_option maxRecDepth 65536 in
theorem w_c7 : (Jvm.Cond.code ({ cls := "java/lang/StringUTF16", name := "coderFromArrayLen", desc := "([BI)B" } : Jvm.MethodName) jdk_52_method_15_code (2 : Nat) (Option.some Jvm.ClassFile.FieldType.byte)).before args0 about1 = true := code_word (m := ⟨8, 1⟩) (meth := k8m1) (c := k8c1) (by decide +kernel) rfl rfl rfl (by decide +kernel)
set_option maxRecDepth 65536 in
theorem w_c8 : (Jvm.Cond.code ({ cls := "com/example/token_to_key/tokentokey/s3/Permission", name := "<init>", desc := "(Ljava/lang/String;Ljava/lang/String;)V" } : Jvm.MethodName) prog_34_method_1_code (3 : Nat) (Option.none : Option Jvm.ClassFile.FieldType)).before args0 about1 = true := code_word (m := ⟨9, 0⟩) (meth := k9m0) (c := k9c0) (by decide +kernel) rfl rfl rfl (by decide +kernel)
set_option maxRecDepth 65536 in
theorem w_c9 : (Jvm.Cond.code ({ cls := "com/example/token_to_key/tokentokey/s3/Permission", name := "<init>", desc := "(Ljava/lang/String;Ljava/lang/String;Z)V" } : Jvm.MethodName) prog_34_method_2_code (4 : Nat) (Option.none : Option Jvm.ClassFile.FieldType)).before args0 about1 = true := code_word (m := ⟨9, 1⟩) (meth := k9m1) (c := k9c1) (by decide +kernel) rfl rfl rfl (by decide +kernel)
set_option maxRecDepth 65536 in
theorem w_c10 : (Jvm.Cond.code ({ cls := "com/example/token_to_key/tokentokey/s3/Permission", name := "toString", desc := "()Ljava/lang/String;" } : Jvm.MethodName) prog_34_method_7_code (1 : Nat) (Option.some (Jvm.ClassFile.FieldType.object "java/lang/String"))).before args0 about1 = true := code_word (m := ⟨9, 2⟩) (meth := k9m2) (c := k9c2) (by decide +kernel) rfl rfl rfl (by decide +kernel)
set_option maxRecDepth 65536 in
theorem w_c11 : (Jvm.Cond.code ({ cls := "java/lang/StringBuilder", name := "<init>", desc := "()V" } : Jvm.MethodName) jdk_67_method_1_code (1 : Nat) (Option.none : Option Jvm.ClassFile.FieldType)).before args0 about1 = true := code_word (m := ⟨12, 0⟩) (meth := k12m0) (c := k12c0) (by decide +kernel) rfl rfl rfl (by decide +kernel)
set_option maxRecDepth 65536 in
theorem w_c12 : (Jvm.Cond.code ({ cls := "java/lang/AbstractStringBuilder", name := "<init>", desc := "(I)V" } : Jvm.MethodName) jdk_68_method_2_code (2 : Nat) (Option.none : Option Jvm.ClassFile.FieldType)).before args0 about1 = true := code_word (m := ⟨11, 1⟩) (meth := k11m1) (c := k11c1) (by decide +kernel) rfl rfl rfl (by decide +kernel)
set_option maxRecDepth 65536 in
theorem w_c13 : (Jvm.Cond.code ({ cls := "java/lang/StringBuilder", name := "append", desc := "(Ljava/lang/String;)Ljava/lang/StringBuilder;" } : Jvm.MethodName) jdk_67_method_7_code (2 : Nat) (Option.some (Jvm.ClassFile.FieldType.object "java/lang/StringBuilder"))).before args0 about1 = true := code_word (m := ⟨12, 1⟩) (meth := k12m1) (c := k12c1) (by decide +kernel) rfl rfl rfl (by decide +kernel)
set_option maxRecDepth 65536 in
theorem w_c14 : (Jvm.Cond.code ({ cls := "java/lang/AbstractStringBuilder", name := "append", desc := "(Ljava/lang/String;)Ljava/lang/AbstractStringBuilder;" } : Jvm.MethodName) jdk_68_method_22_code (3 : Nat) (Option.some (Jvm.ClassFile.FieldType.object "java/lang/AbstractStringBuilder"))).before args0 about1 = true := code_word (m := ⟨11, 4⟩) (meth := k11m4) (c := k11c4) (by decide +kernel) rfl rfl rfl (by decide +kernel)
set_option maxRecDepth 65536 in
theorem w_c15 : (Jvm.Cond.code ({ cls := "java/lang/String", name := "length", desc := "()I" } : Jvm.MethodName) jdk_42_method_54_code (1 : Nat) (Option.some Jvm.ClassFile.FieldType.int)).before args0 about1 = true := code_word (m := ⟨7, 3⟩) (meth := k7m3) (c := k7c3) (by decide +kernel) rfl rfl rfl (by decide +kernel)
set_option maxRecDepth 65536 in
theorem w_c16 : (Jvm.Cond.code ({ cls := "java/lang/String", name := "coder", desc := "()B" } : Jvm.MethodName) jdk_42_method_152_code (1 : Nat) (Option.some Jvm.ClassFile.FieldType.byte)).before args0 about1 = true := code_word (m := ⟨7, 8⟩) (meth := k7m8) (c := k7c8) (by decide +kernel) rfl rfl rfl (by decide +kernel)
set_option maxRecDepth 65536 in
theorem w_c17 : (Jvm.Cond.code ({ cls := "java/lang/AbstractStringBuilder", name := "ensureCapacityInternal", desc := "(I)V" } : Jvm.MethodName) jdk_68_method_9_code (3 : Nat) (Option.none : Option Jvm.ClassFile.FieldType)).before args0 about1 = true := code_word (m := ⟨11, 3⟩) (meth := k11m3) (c := k11c3) (by decide +kernel) rfl rfl rfl (by decide +kernel)
set_option maxRecDepth 65536 in
theorem w_c18 : (Jvm.Cond.code ({ cls := "java/lang/AbstractStringBuilder", name := "putStringAt", desc := "(ILjava/lang/String;)V" } : Jvm.MethodName) jdk_68_method_73_code (3 : Nat) (Option.none : Option Jvm.ClassFile.FieldType)).before args0 about1 = true := code_word (m := ⟨11, 8⟩) (meth := k11m8) (c := k11c8) (by decide +kernel) rfl rfl rfl (by decide +kernel)
set_option maxRecDepth 65536 in
theorem w_c19 : (Jvm.Cond.code ({ cls := "java/lang/AbstractStringBuilder", name := "inflateIfNeededFor", desc := "(Ljava/lang/String;)V" } : Jvm.MethodName) jdk_68_method_71_code (2 : Nat) (Option.none : Option Jvm.ClassFile.FieldType)).before args0 about1 = true := code_word (m := ⟨11, 7⟩) (meth := k11m7) (c := k11c7) (by decide +kernel) rfl rfl rfl (by decide +kernel)
set_option maxRecDepth 65536 in
theorem w_c20 : (Jvm.Cond.code ({ cls := "java/lang/String", name := "getBytes", desc := "([BIB)V" } : Jvm.MethodName) jdk_42_method_147_code (4 : Nat) (Option.none : Option Jvm.ClassFile.FieldType)).before args0 about1 = true := code_word (m := ⟨7, 5⟩) (meth := k7m5) (c := k7c5) (by decide +kernel) rfl rfl rfl (by decide +kernel)
set_option maxRecDepth 65536 in
theorem w_c21 : (Jvm.Cond.code ({ cls := "java/lang/StringBuilder", name := "toString", desc := "()Ljava/lang/String;" } : Jvm.MethodName) jdk_67_method_42_code (1 : Nat) (Option.some (Jvm.ClassFile.FieldType.object "java/lang/String"))).before args0 about1 = true := code_word (m := ⟨12, 2⟩) (meth := k12m2) (c := k12c2) (by decide +kernel) rfl rfl rfl (by decide +kernel)
set_option maxRecDepth 65536 in
theorem w_c22 : (Jvm.Cond.code ({ cls := "java/lang/String", name := "<init>", desc := "(Ljava/lang/StringBuilder;)V" } : Jvm.MethodName) jdk_42_method_53_code (2 : Nat) (Option.none : Option Jvm.ClassFile.FieldType)).before args0 about1 = true := code_word (m := ⟨7, 2⟩) (meth := k7m2) (c := k7c2) (by decide +kernel) rfl rfl rfl (by decide +kernel)
set_option maxRecDepth 65536 in
theorem w_c23 : (Jvm.Cond.code ({ cls := "java/lang/String", name := "<init>", desc := "(Ljava/lang/AbstractStringBuilder;Ljava/lang/Void;)V" } : Jvm.MethodName) jdk_42_method_150_code (5 : Nat) (Option.none : Option Jvm.ClassFile.FieldType)).before args0 about1 = true := code_word (m := ⟨7, 7⟩) (meth := k7m7) (c := k7c7) (by decide +kernel) rfl rfl rfl (by decide +kernel)
set_option maxRecDepth 65536 in
theorem w_c24 : (Jvm.Cond.code ({ cls := "java/lang/AbstractStringBuilder", name := "getValue", desc := "()[B" } : Jvm.MethodName) jdk_68_method_64_code (1 : Nat) (Option.some (Jvm.ClassFile.FieldType.array Jvm.ClassFile.FieldType.byte))).before args0 about1 = true := code_word (m := ⟨11, 5⟩) (meth := k11m5) (c := k11c5) (by decide +kernel) rfl rfl rfl (by decide +kernel)
set_option maxRecDepth 65536 in
theorem w_c25 : (Jvm.Cond.code ({ cls := "java/lang/StringBuilder", name := "length", desc := "()I" } : Jvm.MethodName) jdk_67_method_93_code (1 : Nat) (Option.some Jvm.ClassFile.FieldType.int)).before args0 about1 = true := code_word (m := ⟨12, 3⟩) (meth := k12m3) (c := k12c3) (by decide +kernel) rfl rfl rfl (by decide +kernel)
set_option maxRecDepth 65536 in
theorem w_c26 : (Jvm.Cond.code ({ cls := "java/lang/AbstractStringBuilder", name := "length", desc := "()I" } : Jvm.MethodName) jdk_68_method_6_code (1 : Nat) (Option.some Jvm.ClassFile.FieldType.int)).before args0 about1 = true := code_word (m := ⟨11, 2⟩) (meth := k11m2) (c := k11c2) (by decide +kernel) rfl rfl rfl (by decide +kernel)
set_option maxRecDepth 65536 in
theorem w_c27 : (Jvm.Cond.code ({ cls := "java/lang/AbstractStringBuilder", name := "isLatin1", desc := "()Z" } : Jvm.MethodName) jdk_68_method_68_code (1 : Nat) (Option.some Jvm.ClassFile.FieldType.boolean)).before args0 about1 = true := code_word (m := ⟨11, 6⟩) (meth := k11m6) (c := k11c6) (by decide +kernel) rfl rfl rfl (by decide +kernel)
set_option maxRecDepth 65536 in
theorem w_c28 : (Jvm.Cond.code ({ cls := "java/util/Arrays", name := "copyOfRange", desc := "([BII)[B" } : Jvm.MethodName) jdk_65_method_132_code (3 : Nat) (Option.some (Jvm.ClassFile.FieldType.array Jvm.ClassFile.FieldType.byte))).before args0 about1 = true := code_word (m := ⟨14, 2⟩) (meth := k14m2) (c := k14c2) (by decide +kernel) rfl rfl rfl (by decide +kernel)
set_option maxRecDepth 65536 in
theorem w_c29 : (Jvm.Cond.code ({ cls := "java/util/Arrays", name := "copyOfRangeByte", desc := "([BII)[B" } : Jvm.MethodName) jdk_65_method_133_code (5 : Nat) (Option.some (Jvm.ClassFile.FieldType.array Jvm.ClassFile.FieldType.byte))).before args0 about1 = true := code_word (m := ⟨14, 3⟩) (meth := k14m3) (c := k14c3) (by decide +kernel) rfl rfl rfl (by decide +kernel)
set_option maxRecDepth 65536 in
theorem w_c30 : (Jvm.Cond.code ({ cls := "java/util/Arrays", name := "checkLength", desc := "(II)V" } : Jvm.MethodName) jdk_65_method_131_code (2 : Nat) (Option.none : Option Jvm.ClassFile.FieldType)).before args0 about1 = true := code_word (m := ⟨14, 1⟩) (meth := k14m1) (c := k14c1) (by decide +kernel) rfl rfl rfl (by decide +kernel)
set_option maxRecDepth 65536 in
theorem w_c31 : (Jvm.Cond.code ({ cls := "java/lang/Math", name := "min", desc := "(II)I" } : Jvm.MethodName) jdk_29_method_69_code (2 : Nat) (Option.some Jvm.ClassFile.FieldType.int)).before args0 about1 = true := code_word (m := ⟨15, 1⟩) (meth := k15m1) (c := k15c1) (by decide +kernel) rfl rfl rfl (by decide +kernel)
set_option maxRecDepth 65536 in
theorem w_c32 : (Jvm.Cond.code ({ cls := "com/example/token_to_key/tokentokey/s3/PermissionToStringPinLaw", name := "at", desc := "(Ljava/lang/String;IIICCCC)Z" } : Jvm.MethodName) method_4_code (8 : Nat) (Option.some Jvm.ClassFile.FieldType.boolean)).before args0 about1 = true := code_word (m := ⟨1, 3⟩) (meth := k1m3) (c := k1c3) (by decide +kernel) rfl rfl rfl (by decide +kernel)
set_option maxRecDepth 65536 in
theorem w_c33 : (Jvm.Cond.code ({ cls := "java/lang/String", name := "charAt", desc := "(I)C" } : Jvm.MethodName) jdk_42_method_56_code (2 : Nat) (Option.some Jvm.ClassFile.FieldType.char)).before args0 about1 = true := code_word (m := ⟨7, 4⟩) (meth := k7m4) (c := k7c4) (by decide +kernel) rfl rfl rfl (by decide +kernel)
set_option maxRecDepth 65536 in
theorem w_c34 : (Jvm.Cond.code ({ cls := "java/lang/String", name := "isLatin1", desc := "()Z" } : Jvm.MethodName) jdk_42_method_154_code (1 : Nat) (Option.some Jvm.ClassFile.FieldType.boolean)).before args0 about1 = true := code_word (m := ⟨7, 9⟩) (meth := k7m9) (c := k7c9) (by decide +kernel) rfl rfl rfl (by decide +kernel)
set_option maxRecDepth 65536 in
theorem w_c35 : (Jvm.Cond.code ({ cls := "java/lang/StringLatin1", name := "charAt", desc := "([BI)C" } : Jvm.MethodName) jdk_43_method_2_code (2 : Nat) (Option.some Jvm.ClassFile.FieldType.char)).before args0 about1 = true := code_word (m := ⟨16, 1⟩) (meth := k16m1) (c := k16c1) (by decide +kernel) rfl rfl rfl (by decide +kernel)
set_option maxRecDepth 65536 in
theorem w_c36 : (Jvm.Cond.code ({ cls := "java/lang/String", name := "checkIndex", desc := "(II)V" } : Jvm.MethodName) jdk_42_method_155_code (2 : Nat) (Option.none : Option Jvm.ClassFile.FieldType)).before args0 about1 = true := code_word (m := ⟨7, 10⟩) (meth := k7m10) (c := k7c10) (by decide +kernel) rfl rfl rfl (by decide +kernel)
set_option maxRecDepth 65536 in
theorem w_c37 : (Jvm.Cond.code ({ cls := "jdk/internal/util/Preconditions", name := "checkIndex", desc := "(IILjava/util/function/BiFunction;)I" } : Jvm.MethodName) jdk_41_method_11_code (3 : Nat) (Option.some Jvm.ClassFile.FieldType.int)).before args0 about1 = true := code_word (m := ⟨17, 1⟩) (meth := k17m1) (c := k17c1) (by decide +kernel) rfl rfl rfl (by decide +kernel)
set_option maxRecDepth 65536 in
theorem w_c38 : (Jvm.Cond.code ({ cls := "com/example/token_to_key/tokentokey/s3/PermissionToStringPinLaw", name := "expected", desc := "(IICCCC)C" } : Jvm.MethodName) method_5_code (8 : Nat) (Option.some Jvm.ClassFile.FieldType.char)).before args0 about1 = true := code_word (m := ⟨1, 4⟩) (meth := k1m4) (c := k1c4) (by decide +kernel) rfl rfl rfl (by decide +kernel)
def codes1 : List Jvm.Cond := [Jvm.Cond.code x code maxLocals ret, Jvm.Cond.code ({ cls := "com/example/token_to_key/tokentokey/s3/PermissionToStringPinLaw", name := "make", desc := "(ICC)Ljava/lang/String;" } : Jvm.MethodName) method_3_code (3 : Nat) (Option.some (Jvm.ClassFile.FieldType.object "java/lang/String")), Jvm.Cond.code ({ cls := "java/lang/String", name := "<init>", desc := "([C)V" } : Jvm.MethodName) jdk_42_method_3_code (2 : Nat) (Option.none : Option Jvm.ClassFile.FieldType), Jvm.Cond.code ({ cls := "java/lang/String", name := "<init>", desc := "([CIILjava/lang/Void;)V" } : Jvm.MethodName) jdk_42_method_149_code (6 : Nat) (Option.none : Option Jvm.ClassFile.FieldType), Jvm.Cond.code ({ cls := "java/lang/Object", name := "<init>", desc := "()V" } : Jvm.MethodName) object_method_1_code (1 : Nat) (Option.none : Option Jvm.ClassFile.FieldType), Jvm.Cond.code ({ cls := "java/lang/StringUTF16", name := "compress", desc := "([CII)[B" } : Jvm.MethodName) jdk_52_method_16_code (6 : Nat) (Option.some (Jvm.ClassFile.FieldType.array Jvm.ClassFile.FieldType.byte)), Jvm.Cond.code ({ cls := "java/lang/StringUTF16", name := "compress", desc := "([CI[BII)I" } : Jvm.MethodName) jdk_52_method_21_code (7 : Nat) (Option.some Jvm.ClassFile.FieldType.int), Jvm.Cond.code ({ cls := "java/lang/StringUTF16", name := "coderFromArrayLen", desc := "([BI)B" } : Jvm.MethodName) jdk_52_method_15_code (2 : Nat) (Option.some Jvm.ClassFile.FieldType.byte), Jvm.Cond.code ({ cls := "com/example/token_to_key/tokentokey/s3/Permission", name := "<init>", desc := "(Ljava/lang/String;Ljava/lang/String;)V" } : Jvm.MethodName) prog_34_method_1_code (3 : Nat) (Option.none : Option Jvm.ClassFile.FieldType), Jvm.Cond.code ({ cls := "com/example/token_to_key/tokentokey/s3/Permission", name := "<init>", desc := "(Ljava/lang/String;Ljava/lang/String;Z)V" } : Jvm.MethodName) prog_34_method_2_code (4 : Nat) (Option.none : Option Jvm.ClassFile.FieldType), Jvm.Cond.code ({ cls := "com/example/token_to_key/tokentokey/s3/Permission", name := "toString", desc := "()Ljava/lang/String;" } : Jvm.MethodName) prog_34_method_7_code (1 : Nat) (Option.some (Jvm.ClassFile.FieldType.object "java/lang/String")), Jvm.Cond.code ({ cls := "java/lang/StringBuilder", name := "<init>", desc := "()V" } : Jvm.MethodName) jdk_67_method_1_code (1 : Nat) (Option.none : Option Jvm.ClassFile.FieldType), Jvm.Cond.code ({ cls := "java/lang/AbstractStringBuilder", name := "<init>", desc := "(I)V" } : Jvm.MethodName) jdk_68_method_2_code (2 : Nat) (Option.none : Option Jvm.ClassFile.FieldType), Jvm.Cond.code ({ cls := "java/lang/StringBuilder", name := "append", desc := "(Ljava/lang/String;)Ljava/lang/StringBuilder;" } : Jvm.MethodName) jdk_67_method_7_code (2 : Nat) (Option.some (Jvm.ClassFile.FieldType.object "java/lang/StringBuilder")), Jvm.Cond.code ({ cls := "java/lang/AbstractStringBuilder", name := "append", desc := "(Ljava/lang/String;)Ljava/lang/AbstractStringBuilder;" } : Jvm.MethodName) jdk_68_method_22_code (3 : Nat) (Option.some (Jvm.ClassFile.FieldType.object "java/lang/AbstractStringBuilder")), Jvm.Cond.code ({ cls := "java/lang/String", name := "length", desc := "()I" } : Jvm.MethodName) jdk_42_method_54_code (1 : Nat) (Option.some Jvm.ClassFile.FieldType.int), Jvm.Cond.code ({ cls := "java/lang/String", name := "coder", desc := "()B" } : Jvm.MethodName) jdk_42_method_152_code (1 : Nat) (Option.some Jvm.ClassFile.FieldType.byte), Jvm.Cond.code ({ cls := "java/lang/AbstractStringBuilder", name := "ensureCapacityInternal", desc := "(I)V" } : Jvm.MethodName) jdk_68_method_9_code (3 : Nat) (Option.none : Option Jvm.ClassFile.FieldType), Jvm.Cond.code ({ cls := "java/lang/AbstractStringBuilder", name := "putStringAt", desc := "(ILjava/lang/String;)V" } : Jvm.MethodName) jdk_68_method_73_code (3 : Nat) (Option.none : Option Jvm.ClassFile.FieldType), Jvm.Cond.code ({ cls := "java/lang/AbstractStringBuilder", name := "inflateIfNeededFor", desc := "(Ljava/lang/String;)V" } : Jvm.MethodName) jdk_68_method_71_code (2 : Nat) (Option.none : Option Jvm.ClassFile.FieldType), Jvm.Cond.code ({ cls := "java/lang/String", name := "getBytes", desc := "([BIB)V" } : Jvm.MethodName) jdk_42_method_147_code (4 : Nat) (Option.none : Option Jvm.ClassFile.FieldType), Jvm.Cond.code ({ cls := "java/lang/StringBuilder", name := "toString", desc := "()Ljava/lang/String;" } : Jvm.MethodName) jdk_67_method_42_code (1 : Nat) (Option.some (Jvm.ClassFile.FieldType.object "java/lang/String")), Jvm.Cond.code ({ cls := "java/lang/String", name := "<init>", desc := "(Ljava/lang/StringBuilder;)V" } : Jvm.MethodName) jdk_42_method_53_code (2 : Nat) (Option.none : Option Jvm.ClassFile.FieldType), Jvm.Cond.code ({ cls := "java/lang/String", name := "<init>", desc := "(Ljava/lang/AbstractStringBuilder;Ljava/lang/Void;)V" } : Jvm.MethodName) jdk_42_method_150_code (5 : Nat) (Option.none : Option Jvm.ClassFile.FieldType), Jvm.Cond.code ({ cls := "java/lang/AbstractStringBuilder", name := "getValue", desc := "()[B" } : Jvm.MethodName) jdk_68_method_64_code (1 : Nat) (Option.some (Jvm.ClassFile.FieldType.array Jvm.ClassFile.FieldType.byte)), Jvm.Cond.code ({ cls := "java/lang/StringBuilder", name := "length", desc := "()I" } : Jvm.MethodName) jdk_67_method_93_code (1 : Nat) (Option.some Jvm.ClassFile.FieldType.int), Jvm.Cond.code ({ cls := "java/lang/AbstractStringBuilder", name := "length", desc := "()I" } : Jvm.MethodName) jdk_68_method_6_code (1 : Nat) (Option.some Jvm.ClassFile.FieldType.int), Jvm.Cond.code ({ cls := "java/lang/AbstractStringBuilder", name := "isLatin1", desc := "()Z" } : Jvm.MethodName) jdk_68_method_68_code (1 : Nat) (Option.some Jvm.ClassFile.FieldType.boolean), Jvm.Cond.code ({ cls := "java/util/Arrays", name := "copyOfRange", desc := "([BII)[B" } : Jvm.MethodName) jdk_65_method_132_code (3 : Nat) (Option.some (Jvm.ClassFile.FieldType.array Jvm.ClassFile.FieldType.byte)), Jvm.Cond.code ({ cls := "java/util/Arrays", name := "copyOfRangeByte", desc := "([BII)[B" } : Jvm.MethodName) jdk_65_method_133_code (5 : Nat) (Option.some (Jvm.ClassFile.FieldType.array Jvm.ClassFile.FieldType.byte)), Jvm.Cond.code ({ cls := "java/util/Arrays", name := "checkLength", desc := "(II)V" } : Jvm.MethodName) jdk_65_method_131_code (2 : Nat) (Option.none : Option Jvm.ClassFile.FieldType), Jvm.Cond.code ({ cls := "java/lang/Math", name := "min", desc := "(II)I" } : Jvm.MethodName) jdk_29_method_69_code (2 : Nat) (Option.some Jvm.ClassFile.FieldType.int), Jvm.Cond.code ({ cls := "com/example/token_to_key/tokentokey/s3/PermissionToStringPinLaw", name := "at", desc := "(Ljava/lang/String;IIICCCC)Z" } : Jvm.MethodName) method_4_code (8 : Nat) (Option.some Jvm.ClassFile.FieldType.boolean), Jvm.Cond.code ({ cls := "java/lang/String", name := "charAt", desc := "(I)C" } : Jvm.MethodName) jdk_42_method_56_code (2 : Nat) (Option.some Jvm.ClassFile.FieldType.char), Jvm.Cond.code ({ cls := "java/lang/String", name := "isLatin1", desc := "()Z" } : Jvm.MethodName) jdk_42_method_154_code (1 : Nat) (Option.some Jvm.ClassFile.FieldType.boolean), Jvm.Cond.code ({ cls := "java/lang/StringLatin1", name := "charAt", desc := "([BI)C" } : Jvm.MethodName) jdk_43_method_2_code (2 : Nat) (Option.some Jvm.ClassFile.FieldType.char), Jvm.Cond.code ({ cls := "java/lang/String", name := "checkIndex", desc := "(II)V" } : Jvm.MethodName) jdk_42_method_155_code (2 : Nat) (Option.none : Option Jvm.ClassFile.FieldType), Jvm.Cond.code ({ cls := "jdk/internal/util/Preconditions", name := "checkIndex", desc := "(IILjava/util/function/BiFunction;)I" } : Jvm.MethodName) jdk_41_method_11_code (3 : Nat) (Option.some Jvm.ClassFile.FieldType.int), Jvm.Cond.code ({ cls := "com/example/token_to_key/tokentokey/s3/PermissionToStringPinLaw", name := "expected", desc := "(IICCCC)C" } : Jvm.MethodName) method_5_code (8 : Nat) (Option.some Jvm.ClassFile.FieldType.char)]
set_option maxRecDepth 65536 in
theorem codes_eq : words1.filter isCode = codes1 := rfl
theorem w_codes : ∀ c ∈ words1.filter isCode, c.before args0 about1 = true := by
  rw [codes_eq]
  intro c hc
  simp only [codes1, List.mem_cons, List.not_mem_nil, or_false] at hc
  rcases hc with rfl | rfl | rfl | rfl | rfl | rfl | rfl | rfl | rfl | rfl | rfl | rfl | rfl | rfl | rfl | rfl | rfl | rfl | rfl | rfl | rfl | rfl | rfl | rfl | rfl | rfl | rfl | rfl | rfl | rfl | rfl | rfl | rfl | rfl | rfl | rfl | rfl | rfl | rfl
  · exact w_c0
  · exact w_c1
  · exact w_c2
  · exact w_c3
  · exact w_c4
  · exact w_c5
  · exact w_c6
  · exact w_c7
  · exact w_c8
  · exact w_c9
  · exact w_c10
  · exact w_c11
  · exact w_c12
  · exact w_c13
  · exact w_c14
  · exact w_c15
  · exact w_c16
  · exact w_c17
  · exact w_c18
  · exact w_c19
  · exact w_c20
  · exact w_c21
  · exact w_c22
  · exact w_c23
  · exact w_c24
  · exact w_c25
  · exact w_c26
  · exact w_c27
  · exact w_c28
  · exact w_c29
  · exact w_c30
  · exact w_c31
  · exact w_c32
  · exact w_c33
  · exact w_c34
  · exact w_c35
  · exact w_c36
  · exact w_c37
  · exact w_c38
set_option maxRecDepth 65536 in
theorem w_t1 : (words1.take 24).all (fun c => isCode c || c.before args0 about1) = true := by decide +kernel
set_option maxRecDepth 65536 in
theorem w_t2 : ((words1.drop 24).take 24).all (fun c => isCode c || c.before args0 about1) = true := by decide +kernel
set_option maxRecDepth 65536 in
theorem w_t3 : (((words1.drop 24).drop 24).take 24).all (fun c => isCode c || c.before args0 about1) = true := by decide +kernel
set_option maxRecDepth 65536 in
theorem w_t4 : ((((words1.drop 24).drop 24).drop 24).take 24).all (fun c => isCode c || c.before args0 about1) = true := by decide +kernel
set_option maxRecDepth 65536 in
theorem w_t5 : (((((words1.drop 24).drop 24).drop 24).drop 24).take 24).all (fun c => isCode c || c.before args0 about1) = true := by decide +kernel
set_option maxRecDepth 65536 in
theorem w_t6 : ((((((words1.drop 24).drop 24).drop 24).drop 24).drop 24).take 24).all (fun c => isCode c || c.before args0 about1) = true := by decide +kernel
set_option maxRecDepth 65536 in
theorem w_t7 : (((((((words1.drop 24).drop 24).drop 24).drop 24).drop 24).drop 24).take 24).all (fun c => isCode c || c.before args0 about1) = true := by decide +kernel
set_option maxRecDepth 65536 in
theorem w_t8 : ((((((((words1.drop 24).drop 24).drop 24).drop 24).drop 24).drop 24).drop 24).take 24).all (fun c => isCode c || c.before args0 about1) = true := by decide +kernel
set_option maxRecDepth 65536 in
theorem w_t9 : ((((((((words1.drop 24).drop 24).drop 24).drop 24).drop 24).drop 24).drop 24).drop 24).all (fun c => isCode c || c.before args0 about1) = true := by decide +kernel
theorem w_tables : (allAtoms (Jvm.Cond.code x code maxLocals ret :: tables_1)).before args0 about1 = true := by
  rw [allAtoms_all]
  show words1.all (fun c => c.before args0 about1) = true
  refine all_split ?_ w_codes
  rw [← List.take_append_drop 24 words1, List.all_append, w_t1, ← List.take_append_drop 24 (words1.drop 24), List.all_append, w_t2, ← List.take_append_drop 24 ((words1.drop 24).drop 24), List.all_append, w_t3, ← List.take_append_drop 24 (((words1.drop 24).drop 24).drop 24), List.all_append, w_t4, ← List.take_append_drop 24 ((((words1.drop 24).drop 24).drop 24).drop 24), List.all_append, w_t5, ← List.take_append_drop 24 (((((words1.drop 24).drop 24).drop 24).drop 24).drop 24), List.all_append, w_t6, ← List.take_append_drop 24 ((((((words1.drop 24).drop 24).drop 24).drop 24).drop 24).drop 24), List.all_append, w_t7, ← List.take_append_drop 24 (((((((words1.drop 24).drop 24).drop 24).drop 24).drop 24).drop 24).drop 24), List.all_append, w_t8, w_t9]
  rfl
set_option maxRecDepth 65536 in
theorem w_rest : rest_1_c.before args0 about1 = true := by decide +kernel
set_option maxRecDepth 65536 in
theorem w_case : (Jvm.Cond.and given_1 narrow_1).before args0 about1 = true := by decide +kernel
set_option maxRecDepth 65536 in
theorem w_consts : constsHeld consts_1 about1 := Jvm.Lit.constsHeldB_iff.mp (by decide +kernel)
theorem w_applies : (headSpec (Jvm.Cond.code x code maxLocals ret :: tables_1) room_1).applies x e0.platform about1 = true :=
  (Spec.applies_iff w_frames).mpr ⟨w_running, w_runnable, w_alone, w_named, w_hears, w_ripe, w_room, w_tables⟩
theorem atStart : AtStart classFile x code maxLocals ret World_1 tables_1 room_1 Calls_1 rest_1 Pre_1 launch0 p0 e0 about1 theMethod args0 below0 :=
  ⟨lists_1, trivial, launch0.admits_env _ _ _, launch0.least_env, fairChoices_fair.cas, fairChoices_fair.clock, w_frames, w_args, w_heap, w_applies, ⟨w_consts, trivial⟩, w_rest, w_case⟩
end start1
theorem witness_1 : WitnessClaimed_1 := ⟨start1.p0, start1.e0, start1.about1, start1.theMethod, start1.args0, start1.below0, start1.atStart⟩
end Jvm.Pilot.@@N@@
