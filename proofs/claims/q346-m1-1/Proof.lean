import JvmDerived
import JvmDerived.Pilot.@@N@@Statement
import JvmDerived.Pilot.@@N@@Code
set_option linter.unusedVariables false
set_option linter.unusedSimpArgs false
namespace Jvm.Own
open Sem ClassFile Op Lib Bundle Jvm.Stand Jvm.Free Jvm.LawKit Jvm.RoadKit
theorem nl {a b : Nat} (h : Nat.ble a b = true) : a ≤ b := Nat.le_of_ble_eq_true h
section Core
variable {nw : Bool} {p : Program} {l : Launch} {e : Env} {R : Room} {s : State} {m : MethodId} {args : Array Value} {below : List Frame} {meth : Method} {c : Code} {code : ByteArray} {ml : Nat} {nm : String} {ret : Option FieldType} {Z : State} {a0 : Array Value} {EL : List (String × Nat)} {own : String} {P : Option Value → Vm → Heap → Prop}
variable {vm vm' : Vm} {h h' h0 h1 h2 : Heap} {k n pc : Nat} {L : Array Slot} {S : List Value}
/-- what the walk knows of its tables and heap -/
def On (nw : Bool) (s : State) (m : MethodId) (Z : State) (a0 : Array Value) (EL : List (String × Nat)) (own : String) (vm : Vm) (h : Heap) : Prop :=
  (∃ k0, s.Since vm k0 ∧ k0 ≤ h.size) ∧ Z.Warmed39 vm ∧ vm.findClass own = some m.cls ∧ CHv Z EL vm h ∧ Ext Z.heap h ∧ EW Z a0 EL ∧ (nw = true → s.WarmedH vm)
/-- from the heap h, the tables vm and this frame the body returns, and P holds of what it leaves -/
def Go (nw : Bool) (p : Program) (l : Launch) (e : Env) (R : Room) (s : State) (m : MethodId) (args : Array Value) (below : List Frame) (meth : Method) (c : Code) (code : ByteArray) (ml : Nat) (nm : String) (ret : Option FieldType) (Z : State) (a0 : Array Value) (EL : List (String × Nat)) (own : String) (P : Option Value → Vm → Heap → Prop)
    (vm : Vm) (h : Heap) (k n pc : Nat) (L : Array Slot) (S : List Value) : Prop :=
  p.tables.exec = Jvm.exec → c.code = code → c.maxLocals = ml → meth.locks = false → meth.name = nm → meth.sig.returnType = ret → On nw s m Z a0 EL own vm h →
  ∀ (T : State) (locs : List Loc) (cells slots : Nat), Stand p l e R (s.setVm vm) m args below meth c T locs cells slots → T.heap = h → Fr Z.heap.size locs → cells ≤ k → slots ≤ n →
  ∃ (s₂ : State) (v : Option Value), Steps p.tables e below (T.setTop (mkF m pc L S)) s₂ ∧ s₂.status = .running ∧ Ended s₂ below (.returned v) ∧ P v s₂.vm s₂.heap ∧ CHr Z EL vm h s₂.vm s₂.heap ∧ Ext Z.heap s₂.heap ∧
    ∃ L', Fr Z.heap.size L' ∧ ReturnedEndW s (.returned v) s₂ L' R.cells R.slots ∧ (nw = true → s.WarmedH s₂.vm)
theorem Go.mono {k' n' : Nat} (hk : k ≤ k') (hn : n ≤ n') (g : Go nw p l e R s m args below meth c code ml nm ret Z a0 EL own P vm h k' n' pc L S) : Go nw p l e R s m args below meth c code ml nm ret Z a0 EL own P vm h k n pc L S :=
  fun hx hc hm hl hnm hr hon T locs cells slots X hh hF q1 q2 => g hx hc hm hl hnm hr hon T locs cells slots X hh hF (Nat.le_trans q1 hk) (Nat.le_trans q2 hn)
theorem Go.know (g : Ext Z.heap h → Z.Warmed39 vm → CHv Z EL vm h → Go nw p l e R s m args below meth c code ml nm ret Z a0 EL own P vm h k n pc L S) : Go nw p l e R s m args below meth c code ml nm ret Z a0 EL own P vm h k n pc L S :=
  fun hx hc hm hl hnm hr hon => g hon.2.2.2.2.1 hon.2.1 hon.2.2.2.1 hx hc hm hl hnm hr hon
theorem Go.step {pc' : Nat} {L' : Array Slot} {S' : List Value} (st : ∀ T, At T m c below → p.tables.exec = Jvm.exec → c.code = code → ∀ target, Steps p.tables e below (T.setTop (mkF m pc' L' S')) target → Steps p.tables e below (T.setTop (mkF m pc L S)) target)
    (g : Go nw p l e R s m args below meth c code ml nm ret Z a0 EL own P vm h k n pc' L' S') : Go nw p l e R s m args below meth c code ml nm ret Z a0 EL own P vm h k n pc L S := by
  intro hx hc hm hl hnm hr hon T locs cells slots X hh hF hk hn
  obtain ⟨s₂, v, st2, r⟩ := g hx hc hm hl hnm hr hon T locs cells slots X hh hF hk hn
  exact ⟨s₂, v, st T X.here hx hc _ st2, r⟩
/-- a step that may note an entry of the pool, the heap as it was -/
theorem Go.note {pc' : Nat} {L' : Array Slot} {S' : List Value} (st : ∀ T locs cells slots, Stand p l e R (s.setVm vm) m args below meth c T locs cells slots → T.heap = h → p.tables.exec = Jvm.exec → c.code = code → c.maxLocals = ml → On nw s m Z a0 EL own vm h →
      ∃ T', Stand p l e R (s.setVm vm) m args below meth c T' locs cells slots ∧ T'.heap = h ∧ ∀ target, Steps p.tables e below (T'.setTop (mkF m pc' L' S')) target → Steps p.tables e below (T.setTop (mkF m pc L S)) target)
    (g : Go nw p l e R s m args below meth c code ml nm ret Z a0 EL own P vm h k n pc' L' S') : Go nw p l e R s m args below meth c code ml nm ret Z a0 EL own P vm h k n pc L S := by
  intro hx hc hm hl hnm hr hon T locs cells slots X hh hF hk hn
  obtain ⟨T', X', hh', st2⟩ := st T locs cells slots X hh hx hc hm hon
  obtain ⟨s₂, v, st3, r⟩ := g hx hc hm hl hnm hr hon T' locs cells slots X' hh' hF hk hn
  exact ⟨s₂, v, st2 _ st3, r⟩
theorem On.ext (hon : On nw s m Z a0 EL own vm h) (E : Ext h h') : On nw s m Z a0 EL own vm h' := by
  obtain ⟨⟨k0, a1, a2⟩, a3, a4, a5, a6, a7, a8⟩ := hon
  exact ⟨⟨k0, a1, Nat.le_trans a2 E.1⟩, a3, a4, a5.ext E, ⟨Nat.le_trans a6.1 E.1, fun a c q => E.2 _ _ (a6.2 _ _ q)⟩, a7, a8⟩
theorem On.wr {a : Addr} {sl : Nat} {v : Value} (hon : On nw s m Z a0 EL own vm h) (W : Wr h h' a sl v) (Sa : Safe Z EL vm h a) (hz : Z.heap.size ≤ a) : On nw s m Z a0 EL own vm h' := by
  obtain ⟨⟨k0, a1, a2⟩, a3, a4, a5, a6, a7, a8⟩ := hon
  have O : Old Z Z.heap.size h' := Old.wr (Z := Z) ⟨rfl, a6⟩ W hz
  exact ⟨⟨k0, a1, by rw [W.size]; exact a2⟩, a3, a4, a5.wr W Sa, O.2, a7, a8⟩
/-- a step that makes a cell -/
theorem Go.made {pc' dk dn : Nat} {L' : Array Slot} {S' : Addr → List Value} {F : Heap → Addr → Prop} (hk0 : k + dk ≤ R.cells) (hn0 : n + dn ≤ R.slots)
    (st : ∀ T locs cells slots, Stand p l e R (s.setVm vm) m args below meth c T locs cells slots → T.heap = h → p.tables.exec = Jvm.exec → c.code = code → c.maxLocals = ml → On nw s m Z a0 EL own vm h → cells + dk ≤ R.cells → slots + dn ≤ R.slots →
      ∃ T' h', Stand p l e R (s.setVm vm) m args below meth c T' locs (cells + dk) (slots + dn) ∧ T'.heap = h' ∧ Ext h h' ∧ F h' h.size ∧ ∀ target, Steps p.tables e below (T'.setTop (mkF m pc' L' (S' h.size))) target → Steps p.tables e below (T.setTop (mkF m pc L S)) target)
    (g : ∀ a h', a = h.size → Ext h h' → F h' a → Safe Z EL vm h' a → Z.heap.size ≤ a → CHr Z EL vm h vm h' → Go nw p l e R s m args below meth c code ml nm ret Z a0 EL own P vm h' (k + dk) (n + dn) pc' L' (S' a)) : Go nw p l e R s m args below meth c code ml nm ret Z a0 EL own P vm h k n pc L S := by
  intro hx hc hm hl hnm hr hon T locs cells slots X hh hF hk hn
  obtain ⟨T', h', X', hh', E, Fh, st2⟩ := st T locs cells slots X hh hx hc hm hon (by omega) (by omega)
  have ch : CHr Z EL vm h vm h' := CHr.ext E hon.2.2.2.1
  obtain ⟨s₂, v, st3, r1, r2, r3, r4, r5⟩ := g h.size h' rfl E Fh (Safe.ext E hon.2.2.2.1 (Safe.new (Nat.le_refl _))) hon.2.2.2.2.1.1 ch hx hc hm hl hnm hr (hon.ext E) T' locs (cells + dk) (slots + dn) X' hh' hF (by omega) (by omega)
  exact ⟨s₂, v, st2 _ st3, r1, r2, r3, ch.trans r4, r5⟩
/-- a step that writes one slot of a cell made since the law began -/
theorem Go.wrote {pc' : Nat} {L' : Array Slot} {S' : List Value} {a : Addr} {sl : Nat} {w : Value} (Sa : Safe Z EL vm h a) (hz : Z.heap.size ≤ a)
    (st : ∀ T locs cells slots, Stand p l e R (s.setVm vm) m args below meth c T locs cells slots → T.heap = h → p.tables.exec = Jvm.exec → c.code = code → c.maxLocals = ml → meth.name = nm → On nw s m Z a0 EL own vm h →
      ∃ T' h', Stand p l e R (s.setVm vm) m args below meth c T' (locs ++ [⟨a, sl⟩]) cells slots ∧ T'.heap = h' ∧ Wr h h' a sl w ∧ ∀ target, Steps p.tables e below (T'.setTop (mkF m pc' L' S')) target → Steps p.tables e below (T.setTop (mkF m pc L S)) target)
    (g : ∀ h', Wr h h' a sl w → Safe Z EL vm h' a → CHr Z EL vm h vm h' → Go nw p l e R s m args below meth c code ml nm ret Z a0 EL own P vm h' k n pc' L' S') : Go nw p l e R s m args below meth c code ml nm ret Z a0 EL own P vm h k n pc L S := by
  intro hx hc hm hl hnm hr hon T locs cells slots X hh hF hk hn
  obtain ⟨T', h', X', hh', W, st2⟩ := st T locs cells slots X hh hx hc hm hnm hon
  have ch : CHr Z EL vm h vm h' := CHr.wr W Sa hon.2.2.2.1
  obtain ⟨s₂, v, st3, r1, r2, r3, r4, r5⟩ := g h' W (Safe.wr W Sa hon.2.2.2.1 Sa) ch hx hc hm hl hnm hr (hon.wr W Sa hz) T' _ cells slots X' hh' (Fr.snoc X' hF hz) hk hn
  exact ⟨s₂, v, st2 _ st3, r1, r2, r3, ch.trans r4, r5⟩
theorem Go.iload_n {i : Fin 4} {v : Int32} (pc' : Nat) (hd : decode code pc = .ok (.iload_n i, 1)) (hp : pc + 1 = pc') (hl : L[i.val]? = some (.val (.int v))) (g : Go nw p l e R s m args below meth c code ml nm ret Z a0 EL own P vm h k n pc' L (.int v :: S)) : Go nw p l e R s m args below meth c code ml nm ret Z a0 EL own P vm h k n pc L S := by
  subst hp; exact g.step fun T hT hx hc _ q => XS.iloadN (g := mkF m pc L (S)) hT hx rfl (hb hc hd) hl q
theorem Go.iload {i : Nat} {v : Int32} (pc' : Nat) (hd : decode code pc = .ok (.iload i, 2)) (hp : pc + 2 = pc') (hl : L[i]? = some (.val (.int v))) (g : Go nw p l e R s m args below meth c code ml nm ret Z a0 EL own P vm h k n pc' L (.int v :: S)) : Go nw p l e R s m args below meth c code ml nm ret Z a0 EL own P vm h k n pc L S := by
  subst hp; exact g.step fun T hT hx hc _ q => XS.iload (g := mkF m pc L (S)) hT hx rfl (hb hc hd) hl q
theorem Go.lload_n {i : Fin 4} {v : Int64} (pc' : Nat) (hd : decode code pc = .ok (.lload_n i, 1)) (hp : pc + 1 = pc') (hl : L[i.val]? = some (.val (.long v))) (g : Go nw p l e R s m args below meth c code ml nm ret Z a0 EL own P vm h k n pc' L (.long v :: S)) : Go nw p l e R s m args below meth c code ml nm ret Z a0 EL own P vm h k n pc L S := by
  subst hp; exact g.step fun T hT hx hc _ q => XS.lloadN (g := mkF m pc L (S)) hT hx rfl (hb hc hd) hl q
theorem Go.lload {i : Nat} {v : Int64} (pc' : Nat) (hd : decode code pc = .ok (.lload i, 2)) (hp : pc + 2 = pc') (hl : L[i]? = some (.val (.long v))) (g : Go nw p l e R s m args below meth c code ml nm ret Z a0 EL own P vm h k n pc' L (.long v :: S)) : Go nw p l e R s m args below meth c code ml nm ret Z a0 EL own P vm h k n pc L S := by
  subst hp; exact g.step fun T hT hx hc _ q => XS.lload (g := mkF m pc L (S)) hT hx rfl (hb hc hd) hl q
theorem Go.aload_n {i : Fin 4} {v : Value} (pc' : Nat) (hd : decode code pc = .ok (.aload_n i, 1)) (hp : pc + 1 = pc') (hl : L[i.val]? = some (.val v)) (hv : v.isRef = true) (g : Go nw p l e R s m args below meth c code ml nm ret Z a0 EL own P vm h k n pc' L (v :: S)) : Go nw p l e R s m args below meth c code ml nm ret Z a0 EL own P vm h k n pc L S := by
  subst hp; exact g.step fun T hT hx hc _ q => XS.aloadN (g := mkF m pc L (S)) hT hx rfl (hb hc hd) hl hv q
theorem Go.aload {i : Nat} {v : Value} (pc' : Nat) (hd : decode code pc = .ok (.aload i, 2)) (hp : pc + 2 = pc') (hl : L[i]? = some (.val v)) (hv : v.isRef = true) (g : Go nw p l e R s m args below meth c code ml nm ret Z a0 EL own P vm h k n pc' L (v :: S)) : Go nw p l e R s m args below meth c code ml nm ret Z a0 EL own P vm h k n pc L S := by
  subst hp; exact g.step fun T hT hx hc _ q => XS.aload (g := mkF m pc L (S)) hT hx rfl (hb hc hd) hl hv q
theorem Go.iconst {i : Int} (v : Int32) (pc' : Nat) (hd : decode code pc = .ok (.iconst i, 1)) (hp : pc + 1 = pc') (hv : Int32.ofInt i = v) (g : Go nw p l e R s m args below meth c code ml nm ret Z a0 EL own P vm h k n pc' L (.int v :: S)) : Go nw p l e R s m args below meth c code ml nm ret Z a0 EL own P vm h k n pc L S := by
  subst hp hv; exact g.step fun T hT hx hc _ q => XS.iconst hT hx rfl (hb hc hd) q
theorem Go.bipush {i : Int} (v : Int32) (pc' : Nat) (hd : decode code pc = .ok (.bipush i, 2)) (hp : pc + 2 = pc') (hv : (Int8.ofInt i).toInt32 = v) (g : Go nw p l e R s m args below meth c code ml nm ret Z a0 EL own P vm h k n pc' L (.int v :: S)) : Go nw p l e R s m args below meth c code ml nm ret Z a0 EL own P vm h k n pc L S := by
  subst hp hv; exact g.step fun T hT hx hc _ q => XS.bipush hT hx rfl (hb hc hd) q
theorem Go.sipush {i : Int} (v : Int32) (pc' : Nat) (hd : decode code pc = .ok (.sipush i, 3)) (hp : pc + 3 = pc') (hv : (Int16.ofInt i).toInt32 = v) (g : Go nw p l e R s m args below meth c code ml nm ret Z a0 EL own P vm h k n pc' L (.int v :: S)) : Go nw p l e R s m args below meth c code ml nm ret Z a0 EL own P vm h k n pc L S := by
  subst hp hv; exact g.step fun T hT hx hc _ q => XS.sipush hT hx rfl (hb hc hd) q
theorem Go.lconst {i : Fin 2} (v : Int64) (pc' : Nat) (hd : decode code pc = .ok (.lconst i, 1)) (hp : pc + 1 = pc') (hv : Int64.ofNat i = v) (g : Go nw p l e R s m args below meth c code ml nm ret Z a0 EL own P vm h k n pc' L (.long v :: S)) : Go nw p l e R s m args below meth c code ml nm ret Z a0 EL own P vm h k n pc L S := by
  subst hp hv; exact g.step fun T hT hx hc _ q => XS.lconst hT hx rfl (hb hc hd) q
theorem Go.aconst_null  (pc' : Nat) (hd : decode code pc = .ok (.aconst_null, 1)) (hp : pc + 1 = pc') (g : Go nw p l e R s m args below meth c code ml nm ret Z a0 EL own P vm h k n pc' L (.null :: S)) : Go nw p l e R s m args below meth c code ml nm ret Z a0 EL own P vm h k n pc L S := by
  subst hp; exact g.step fun T hT hx hc _ q => XS.aconstNull (g := mkF m pc L (S)) hT hx rfl (hb hc hd)  q
theorem Go.istore_n {i : Fin 4} {v : Int32} (L' : Array Slot) (pc' : Nat) (hd : decode code pc = .ok (.istore_n i, 1)) (hp : pc + 1 = pc') (hl : storeLocals L i.val (.int v) = some L') (g : Go nw p l e R s m args below meth c code ml nm ret Z a0 EL own P vm h k n pc' L' S) : Go nw p l e R s m args below meth c code ml nm ret Z a0 EL own P vm h k n pc L (.int v :: S) := by
  subst hp; exact g.step fun T hT hx hc _ q => XS.istoreN hT hx rfl (hb hc hd) rfl hl q
theorem Go.istore {i : Nat} {v : Int32} (L' : Array Slot) (pc' : Nat) (hd : decode code pc = .ok (.istore i, 2)) (hp : pc + 2 = pc') (hl : storeLocals L i (.int v) = some L') (g : Go nw p l e R s m args below meth c code ml nm ret Z a0 EL own P vm h k n pc' L' S) : Go nw p l e R s m args below meth c code ml nm ret Z a0 EL own P vm h k n pc L (.int v :: S) := by
  subst hp; exact g.step fun T hT hx hc _ q => XS.istore hT hx rfl (hb hc hd) rfl hl q
theorem Go.lstore_n {i : Fin 4} {v : Int64} (L' : Array Slot) (pc' : Nat) (hd : decode code pc = .ok (.lstore_n i, 1)) (hp : pc + 1 = pc') (hl : storeLocals L i.val (.long v) = some L') (g : Go nw p l e R s m args below meth c code ml nm ret Z a0 EL own P vm h k n pc' L' S) : Go nw p l e R s m args below meth c code ml nm ret Z a0 EL own P vm h k n pc L (.long v :: S) := by
  subst hp; exact g.step fun T hT hx hc _ q => XS.lstoreN hT hx rfl (hb hc hd) rfl hl q
theorem Go.lstore {i : Nat} {v : Int64} (L' : Array Slot) (pc' : Nat) (hd : decode code pc = .ok (.lstore i, 2)) (hp : pc + 2 = pc') (hl : storeLocals L i (.long v) = some L') (g : Go nw p l e R s m args below meth c code ml nm ret Z a0 EL own P vm h k n pc' L' S) : Go nw p l e R s m args below meth c code ml nm ret Z a0 EL own P vm h k n pc L (.long v :: S) := by
  subst hp; exact g.step fun T hT hx hc _ q => XS.lstore hT hx rfl (hb hc hd) rfl hl q
theorem Go.astore_n {i : Fin 4} {v : Value} (L' : Array Slot) (pc' : Nat) (hd : decode code pc = .ok (.astore_n i, 1)) (hp : pc + 1 = pc') (hv : v.isRef = true) (hl : storeLocals L i.val v = some L') (g : Go nw p l e R s m args below meth c code ml nm ret Z a0 EL own P vm h k n pc' L' S) : Go nw p l e R s m args below meth c code ml nm ret Z a0 EL own P vm h k n pc L (v :: S) := by
  subst hp; exact g.step fun T hT hx hc _ q => XS.astoreN hT hx rfl (hb hc hd) rfl hv hl q
theorem Go.astore {i : Nat} {v : Value} (L' : Array Slot) (pc' : Nat) (hd : decode code pc = .ok (.astore i, 2)) (hp : pc + 2 = pc') (hv : v.isRef = true) (hl : storeLocals L i v = some L') (g : Go nw p l e R s m args below meth c code ml nm ret Z a0 EL own P vm h k n pc' L' S) : Go nw p l e R s m args below meth c code ml nm ret Z a0 EL own P vm h k n pc L (v :: S) := by
  subst hp; exact g.step fun T hT hx hc _ q => XS.astore hT hx rfl (hb hc hd) rfl hv hl q
theorem Go.iinc {i : Nat} {cst : Int} {x : Int32} (w : Int32) (L' : Array Slot) (pc' : Nat) (hd : decode code pc = .ok (.iinc i cst, 3)) (hp : pc + 3 = pc') (hl : L[i]? = some (.val (.int x))) (hw : x + Int32.ofInt cst = w) (hl' : storeLocals L i (.int w) = some L') (g : Go nw p l e R s m args below meth c code ml nm ret Z a0 EL own P vm h k n pc' L' S) : Go nw p l e R s m args below meth c code ml nm ret Z a0 EL own P vm h k n pc L S := by
  subst hp hw; exact g.step fun T hT hx hc _ q => XS.iinc hT hx rfl (hb hc hd) hl hl' q
theorem Go.iadd {x y : Int32} (z : Int32) (pc' : Nat) (hd : decode code pc = .ok (.iadd, 1)) (hp : pc + 1 = pc') (hz : x + y = z) (g : Go nw p l e R s m args below meth c code ml nm ret Z a0 EL own P vm h k n pc' L (.int z :: S)) : Go nw p l e R s m args below meth c code ml nm ret Z a0 EL own P vm h k n pc L (.int y :: .int x :: S) := by
  subst hp hz; exact g.step fun T hT hx hc _ q => XS.iadd hT hx rfl (hb hc hd) rfl  q
theorem Go.isub {x y : Int32} (z : Int32) (pc' : Nat) (hd : decode code pc = .ok (.isub, 1)) (hp : pc + 1 = pc') (hz : x - y = z) (g : Go nw p l e R s m args below meth c code ml nm ret Z a0 EL own P vm h k n pc' L (.int z :: S)) : Go nw p l e R s m args below meth c code ml nm ret Z a0 EL own P vm h k n pc L (.int y :: .int x :: S) := by
  subst hp hz; exact g.step fun T hT hx hc _ q => XS.isub hT hx rfl (hb hc hd) rfl  q
theorem Go.imul {x y : Int32} (z : Int32) (pc' : Nat) (hd : decode code pc = .ok (.imul, 1)) (hp : pc + 1 = pc') (hz : x * y = z) (g : Go nw p l e R s m args below meth c code ml nm ret Z a0 EL own P vm h k n pc' L (.int z :: S)) : Go nw p l e R s m args below meth c code ml nm ret Z a0 EL own P vm h k n pc L (.int y :: .int x :: S) := by
  subst hp hz; exact g.step fun T hT hx hc _ q => XS.imul hT hx rfl (hb hc hd) rfl  q
theorem Go.iand {x y : Int32} (z : Int32) (pc' : Nat) (hd : decode code pc = .ok (.iand, 1)) (hp : pc + 1 = pc') (hz : x &&& y = z) (g : Go nw p l e R s m args below meth c code ml nm ret Z a0 EL own P vm h k n pc' L (.int z :: S)) : Go nw p l e R s m args below meth c code ml nm ret Z a0 EL own P vm h k n pc L (.int y :: .int x :: S) := by
  subst hp hz; exact g.step fun T hT hx hc _ q => XS.iand hT hx rfl (hb hc hd) rfl  q
theorem Go.ior {x y : Int32} (z : Int32) (pc' : Nat) (hd : decode code pc = .ok (.ior, 1)) (hp : pc + 1 = pc') (hz : x ||| y = z) (g : Go nw p l e R s m args below meth c code ml nm ret Z a0 EL own P vm h k n pc' L (.int z :: S)) : Go nw p l e R s m args below meth c code ml nm ret Z a0 EL own P vm h k n pc L (.int y :: .int x :: S) := by
  subst hp hz; exact g.step fun T hT hx hc _ q => XS.ior hT hx rfl (hb hc hd) rfl  q
theorem Go.ixor {x y : Int32} (z : Int32) (pc' : Nat) (hd : decode code pc = .ok (.ixor, 1)) (hp : pc + 1 = pc') (hz : x ^^^ y = z) (g : Go nw p l e R s m args below meth c code ml nm ret Z a0 EL own P vm h k n pc' L (.int z :: S)) : Go nw p l e R s m args below meth c code ml nm ret Z a0 EL own P vm h k n pc L (.int y :: .int x :: S) := by
  subst hp hz; exact g.step fun T hT hx hc _ q => XS.ixor hT hx rfl (hb hc hd) rfl  q
theorem Go.ishl {x y : Int32} (z : Int32) (pc' : Nat) (hd : decode code pc = .ok (.ishl, 1)) (hp : pc + 1 = pc') (hz : x <<< (y &&& 31) = z) (g : Go nw p l e R s m args below meth c code ml nm ret Z a0 EL own P vm h k n pc' L (.int z :: S)) : Go nw p l e R s m args below meth c code ml nm ret Z a0 EL own P vm h k n pc L (.int y :: .int x :: S) := by
  subst hp hz; exact g.step fun T hT hx hc _ q => XS.ishl hT hx rfl (hb hc hd) rfl  q
theorem Go.ishr {x y : Int32} (z : Int32) (pc' : Nat) (hd : decode code pc = .ok (.ishr, 1)) (hp : pc + 1 = pc') (hz : x >>> (y &&& 31) = z) (g : Go nw p l e R s m args below meth c code ml nm ret Z a0 EL own P vm h k n pc' L (.int z :: S)) : Go nw p l e R s m args below meth c code ml nm ret Z a0 EL own P vm h k n pc L (.int y :: .int x :: S) := by
  subst hp hz; exact g.step fun T hT hx hc _ q => XS.ishr hT hx rfl (hb hc hd) rfl  q
theorem Go.iushr {x y : Int32} (z : Int32) (pc' : Nat) (hd : decode code pc = .ok (.iushr, 1)) (hp : pc + 1 = pc') (hz : XT.ushr x y = z) (g : Go nw p l e R s m args below meth c code ml nm ret Z a0 EL own P vm h k n pc' L (.int z :: S)) : Go nw p l e R s m args below meth c code ml nm ret Z a0 EL own P vm h k n pc L (.int y :: .int x :: S) := by
  subst hp hz; exact g.step fun T hT hx hc _ q => XS.iushr hT hx rfl (hb hc hd) rfl  q
theorem Go.idiv {x y : Int32} (z : Int32) (pc' : Nat) (hd : decode code pc = .ok (.idiv, 1)) (hp : pc + 1 = pc') (hy : y ≠ 0) (hz : x / y = z) (g : Go nw p l e R s m args below meth c code ml nm ret Z a0 EL own P vm h k n pc' L (.int z :: S)) : Go nw p l e R s m args below meth c code ml nm ret Z a0 EL own P vm h k n pc L (.int y :: .int x :: S) := by
  subst hp hz; exact g.step fun T hT hx hc _ q => XS.idiv hT hx rfl (hb hc hd) rfl hy q
theorem Go.irem {x y : Int32} (z : Int32) (pc' : Nat) (hd : decode code pc = .ok (.irem, 1)) (hp : pc + 1 = pc') (hy : y ≠ 0) (hz : x - (x / y) * y = z) (g : Go nw p l e R s m args below meth c code ml nm ret Z a0 EL own P vm h k n pc' L (.int z :: S)) : Go nw p l e R s m args below meth c code ml nm ret Z a0 EL own P vm h k n pc L (.int y :: .int x :: S) := by
  subst hp hz; exact g.step fun T hT hx hc _ q => XS.irem hT hx rfl (hb hc hd) rfl hy q
theorem Go.ladd {x y : Int64} (z : Int64) (pc' : Nat) (hd : decode code pc = .ok (.ladd, 1)) (hp : pc + 1 = pc') (hz : x + y = z) (g : Go nw p l e R s m args below meth c code ml nm ret Z a0 EL own P vm h k n pc' L (.long z :: S)) : Go nw p l e R s m args below meth c code ml nm ret Z a0 EL own P vm h k n pc L (.long y :: .long x :: S) := by
  subst hp hz; exact g.step fun T hT hx hc _ q => XS.ladd hT hx rfl (hb hc hd) rfl q
theorem Go.lsub {x y : Int64} (z : Int64) (pc' : Nat) (hd : decode code pc = .ok (.lsub, 1)) (hp : pc + 1 = pc') (hz : x - y = z) (g : Go nw p l e R s m args below meth c code ml nm ret Z a0 EL own P vm h k n pc' L (.long z :: S)) : Go nw p l e R s m args below meth c code ml nm ret Z a0 EL own P vm h k n pc L (.long y :: .long x :: S) := by
  subst hp hz; exact g.step fun T hT hx hc _ q => XS.lsub hT hx rfl (hb hc hd) rfl q
theorem Go.lmul {x y : Int64} (z : Int64) (pc' : Nat) (hd : decode code pc = .ok (.lmul, 1)) (hp : pc + 1 = pc') (hz : x * y = z) (g : Go nw p l e R s m args below meth c code ml nm ret Z a0 EL own P vm h k n pc' L (.long z :: S)) : Go nw p l e R s m args below meth c code ml nm ret Z a0 EL own P vm h k n pc L (.long y :: .long x :: S) := by
  subst hp hz; exact g.step fun T hT hx hc _ q => XS.lmul hT hx rfl (hb hc hd) rfl q
theorem Go.land {x y : Int64} (z : Int64) (pc' : Nat) (hd : decode code pc = .ok (.land, 1)) (hp : pc + 1 = pc') (hz : x &&& y = z) (g : Go nw p l e R s m args below meth c code ml nm ret Z a0 EL own P vm h k n pc' L (.long z :: S)) : Go nw p l e R s m args below meth c code ml nm ret Z a0 EL own P vm h k n pc L (.long y :: .long x :: S) := by
  subst hp hz; exact g.step fun T hT hx hc _ q => XS.land hT hx rfl (hb hc hd) rfl q
theorem Go.lor {x y : Int64} (z : Int64) (pc' : Nat) (hd : decode code pc = .ok (.lor, 1)) (hp : pc + 1 = pc') (hz : x ||| y = z) (g : Go nw p l e R s m args below meth c code ml nm ret Z a0 EL own P vm h k n pc' L (.long z :: S)) : Go nw p l e R s m args below meth c code ml nm ret Z a0 EL own P vm h k n pc L (.long y :: .long x :: S) := by
  subst hp hz; exact g.step fun T hT hx hc _ q => XS.lor hT hx rfl (hb hc hd) rfl q
theorem Go.lxor {x y : Int64} (z : Int64) (pc' : Nat) (hd : decode code pc = .ok (.lxor, 1)) (hp : pc + 1 = pc') (hz : x ^^^ y = z) (g : Go nw p l e R s m args below meth c code ml nm ret Z a0 EL own P vm h k n pc' L (.long z :: S)) : Go nw p l e R s m args below meth c code ml nm ret Z a0 EL own P vm h k n pc L (.long y :: .long x :: S) := by
  subst hp hz; exact g.step fun T hT hx hc _ q => XS.lxor hT hx rfl (hb hc hd) rfl q
theorem Go.lshl {x : Int64} {y : Int32} (z : Int64) (pc' : Nat) (hd : decode code pc = .ok (.lshl, 1)) (hp : pc + 1 = pc') (hz : x <<< (y.toInt64 &&& 63) = z) (g : Go nw p l e R s m args below meth c code ml nm ret Z a0 EL own P vm h k n pc' L (.long z :: S)) : Go nw p l e R s m args below meth c code ml nm ret Z a0 EL own P vm h k n pc L (.int y :: .long x :: S) := by
  subst hp hz; exact g.step fun T hT hx hc _ q => XT.lshl hT hx rfl (hb hc hd) rfl q
theorem Go.lshr {x : Int64} {y : Int32} (z : Int64) (pc' : Nat) (hd : decode code pc = .ok (.lshr, 1)) (hp : pc + 1 = pc') (hz : x >>> (y.toInt64 &&& 63) = z) (g : Go nw p l e R s m args below meth c code ml nm ret Z a0 EL own P vm h k n pc' L (.long z :: S)) : Go nw p l e R s m args below meth c code ml nm ret Z a0 EL own P vm h k n pc L (.int y :: .long x :: S) := by
  subst hp hz; exact g.step fun T hT hx hc _ q => XT.lshr hT hx rfl (hb hc hd) rfl q
theorem Go.lushr {x : Int64} {y : Int32} (z : Int64) (pc' : Nat) (hd : decode code pc = .ok (.lushr, 1)) (hp : pc + 1 = pc') (hz : XT.ushrL x y = z) (g : Go nw p l e R s m args below meth c code ml nm ret Z a0 EL own P vm h k n pc' L (.long z :: S)) : Go nw p l e R s m args below meth c code ml nm ret Z a0 EL own P vm h k n pc L (.int y :: .long x :: S) := by
  subst hp hz; exact g.step fun T hT hx hc _ q => XT.lushr hT hx rfl (hb hc hd) rfl q
theorem Go.lcmp {x y : Int64} (z : Int32) (pc' : Nat) (hd : decode code pc = .ok (.lcmp, 1)) (hp : pc + 1 = pc') (hz : XT.cmpL x y = z) (g : Go nw p l e R s m args below meth c code ml nm ret Z a0 EL own P vm h k n pc' L (.int z :: S)) : Go nw p l e R s m args below meth c code ml nm ret Z a0 EL own P vm h k n pc L (.long y :: .long x :: S) := by
  subst hp hz; exact g.step fun T hT hx hc _ q => XS.lcmp hT hx rfl (hb hc hd) rfl q
theorem Go.ineg {x : Int32} (z : Int32) (pc' : Nat) (hd : decode code pc = .ok (.ineg, 1)) (hp : pc + 1 = pc') (hz : -x = z) (g : Go nw p l e R s m args below meth c code ml nm ret Z a0 EL own P vm h k n pc' L (.int z :: S)) : Go nw p l e R s m args below meth c code ml nm ret Z a0 EL own P vm h k n pc L (.int x :: S) := by
  subst hp hz; exact g.step fun T hT hx hc _ q => XS.ineg hT hx rfl (hb hc hd) rfl q
theorem Go.i2b {x : Int32} (z : Int32) (pc' : Nat) (hd : decode code pc = .ok (.i2b, 1)) (hp : pc + 1 = pc') (hz : x.toInt8.toInt32 = z) (g : Go nw p l e R s m args below meth c code ml nm ret Z a0 EL own P vm h k n pc' L (.int z :: S)) : Go nw p l e R s m args below meth c code ml nm ret Z a0 EL own P vm h k n pc L (.int x :: S) := by
  subst hp hz; exact g.step fun T hT hx hc _ q => XS.i2b hT hx rfl (hb hc hd) rfl q
theorem Go.i2c {x : Int32} (z : Int32) (pc' : Nat) (hd : decode code pc = .ok (.i2c, 1)) (hp : pc + 1 = pc') (hz : x.toUInt32.toUInt16.toUInt32.toInt32 = z) (g : Go nw p l e R s m args below meth c code ml nm ret Z a0 EL own P vm h k n pc' L (.int z :: S)) : Go nw p l e R s m args below meth c code ml nm ret Z a0 EL own P vm h k n pc L (.int x :: S) := by
  subst hp hz; exact g.step fun T hT hx hc _ q => XS.i2c hT hx rfl (hb hc hd) rfl q
theorem Go.i2s {x : Int32} (z : Int32) (pc' : Nat) (hd : decode code pc = .ok (.i2s, 1)) (hp : pc + 1 = pc') (hz : x.toInt16.toInt32 = z) (g : Go nw p l e R s m args below meth c code ml nm ret Z a0 EL own P vm h k n pc' L (.int z :: S)) : Go nw p l e R s m args below meth c code ml nm ret Z a0 EL own P vm h k n pc L (.int x :: S) := by
  subst hp hz; exact g.step fun T hT hx hc _ q => XS.i2s hT hx rfl (hb hc hd) rfl q
theorem Go.i2l {x : Int32} (z : Int64) (pc' : Nat) (hd : decode code pc = .ok (.i2l, 1)) (hp : pc + 1 = pc') (hz : x.toInt64 = z) (g : Go nw p l e R s m args below meth c code ml nm ret Z a0 EL own P vm h k n pc' L (.long z :: S)) : Go nw p l e R s m args below meth c code ml nm ret Z a0 EL own P vm h k n pc L (.int x :: S) := by
  subst hp hz; exact g.step fun T hT hx hc _ q => XS.i2l hT hx rfl (hb hc hd) rfl q
theorem Go.l2i {x : Int64} (z : Int32) (pc' : Nat) (hd : decode code pc = .ok (.l2i, 1)) (hp : pc + 1 = pc') (hz : x.toInt32 = z) (g : Go nw p l e R s m args below meth c code ml nm ret Z a0 EL own P vm h k n pc' L (.int z :: S)) : Go nw p l e R s m args below meth c code ml nm ret Z a0 EL own P vm h k n pc L (.long x :: S) := by
  subst hp hz; exact g.step fun T hT hx hc _ q => XS.l2i hT hx rfl (hb hc hd) rfl q
theorem Go.lneg {x : Int64} (z : Int64) (pc' : Nat) (hd : decode code pc = .ok (.lneg, 1)) (hp : pc + 1 = pc') (hz : -x = z) (g : Go nw p l e R s m args below meth c code ml nm ret Z a0 EL own P vm h k n pc' L (.long z :: S)) : Go nw p l e R s m args below meth c code ml nm ret Z a0 EL own P vm h k n pc L (.long x :: S) := by
  subst hp hz; exact g.step fun T hT hx hc _ q => XS.lneg hT hx rfl (hb hc hd) rfl q
theorem Go.dup {x : Value} (pc' : Nat) (hd : decode code pc = .ok (.dup, 1)) (hp : pc + 1 = pc') (hx1 : x.category = 1) (g : Go nw p l e R s m args below meth c code ml nm ret Z a0 EL own P vm h k n pc' L (x :: x :: S)) : Go nw p l e R s m args below meth c code ml nm ret Z a0 EL own P vm h k n pc L (x :: S) := by
  subst hp; exact g.step fun T hT hx hc _ q => XS.dup (g := mkF m pc L (x :: S)) hT hx rfl (hb hc hd) rfl hx1 q
theorem Go.pop {x : Value} (pc' : Nat) (hd : decode code pc = .ok (.pop, 1)) (hp : pc + 1 = pc') (hx1 : x.category = 1) (g : Go nw p l e R s m args below meth c code ml nm ret Z a0 EL own P vm h k n pc' L S) : Go nw p l e R s m args below meth c code ml nm ret Z a0 EL own P vm h k n pc L (x :: S) := by
  subst hp; exact g.step fun T hT hx hc _ q => XS.pop (g := mkF m pc L (x :: S)) hT hx rfl (hb hc hd) rfl hx1 q
theorem Go.dup_x1 {x y : Value} (pc' : Nat) (hd : decode code pc = .ok (.dup_x1, 1)) (hp : pc + 1 = pc') (hx1 : x.category = 1) (hx2 : y.category = 1) (g : Go nw p l e R s m args below meth c code ml nm ret Z a0 EL own P vm h k n pc' L (x :: y :: x :: S)) : Go nw p l e R s m args below meth c code ml nm ret Z a0 EL own P vm h k n pc L (x :: y :: S) := by
  subst hp; exact g.step fun T hT hx hc _ q => XS.dupX1 (g := mkF m pc L (x :: y :: S)) hT hx rfl (hb hc hd) rfl hx1 hx2 q
theorem Go.dup2 {x y : Value} (pc' : Nat) (hd : decode code pc = .ok (.dup2, 1)) (hp : pc + 1 = pc') (hx1 : x.category = 1) (hx2 : y.category = 1) (g : Go nw p l e R s m args below meth c code ml nm ret Z a0 EL own P vm h k n pc' L (x :: y :: x :: y :: S)) : Go nw p l e R s m args below meth c code ml nm ret Z a0 EL own P vm h k n pc L (x :: y :: S) := by
  subst hp; exact g.step fun T hT hx hc _ q => XT.dup2 (g := mkF m pc L (x :: y :: S)) hT hx rfl (hb hc hd) rfl hx1 hx2 q
theorem Go.goto {o : Int} (pc' : Nat) (hd : decode code pc = .ok (.goto o, 3)) (ho : 0 ≤ (pc : Int) + o) (hp : ((pc : Int) + o).toNat = pc') (g : Go nw p l e R s m args below meth c code ml nm ret Z a0 EL own P vm h k n pc' L S) : Go nw p l e R s m args below meth c code ml nm ret Z a0 EL own P vm h k n pc L S :=
  g.step fun T hT hx hc _ q => XS.goto hT hx rfl rfl (hb hc hd) ho hp q
theorem Go.ifB {cd : ClassFile.Cond} {x : Int32} {o : Int} (pc' pc'' : Nat) (hd : decode code pc = .ok (.ifCond cd o, 3)) (ho : 0 ≤ (pc : Int) + o) (hp : ((pc : Int) + o).toNat = pc') (hq : pc + 3 = pc'')
    (gt : ifCond.holds cd x = true → Go nw p l e R s m args below meth c code ml nm ret Z a0 EL own P vm h k n pc' L S) (gf : ifCond.holds cd x = false → Go nw p l e R s m args below meth c code ml nm ret Z a0 EL own P vm h k n pc'' L S) : Go nw p l e R s m args below meth c code ml nm ret Z a0 EL own P vm h k n pc L (.int x :: S) := by
  subst hq
  cases hh : ifCond.holds cd x
  · exact (gf hh).step fun T hT hx hc _ q => XS.ifNo hT hx rfl (hb hc hd) rfl hh q
  · exact (gt hh).step fun T hT hx hc _ q => XS.ifYes hT hx rfl rfl (hb hc hd) rfl hh ho hp q
theorem Go.icmpB {cd : ClassFile.Cond} {x y : Int32} {o : Int} (pc' pc'' : Nat) (hd : decode code pc = .ok (.if_icmp cd o, 3)) (ho : 0 ≤ (pc : Int) + o) (hp : ((pc : Int) + o).toNat = pc') (hq : pc + 3 = pc'')
    (gt : if_icmp.holds cd x y = true → Go nw p l e R s m args below meth c code ml nm ret Z a0 EL own P vm h k n pc' L S) (gf : if_icmp.holds cd x y = false → Go nw p l e R s m args below meth c code ml nm ret Z a0 EL own P vm h k n pc'' L S) : Go nw p l e R s m args below meth c code ml nm ret Z a0 EL own P vm h k n pc L (.int y :: .int x :: S) := by
  subst hq
  cases hh : if_icmp.holds cd x y
  · exact (gf hh).step fun T hT hx hc _ q => XS.icmpNo hT hx rfl (hb hc hd) rfl hh q
  · exact (gt hh).step fun T hT hx hc _ q => XS.icmpYes hT hx rfl rfl (hb hc hd) rfl hh ho hp q
theorem Go.if_icmpeq {x y : Int32} {o : Int} (pc' pc'' : Nat) (hd : decode code pc = .ok (.if_icmp .eq o, 3)) (ho : 0 ≤ (pc : Int) + o) (hp : ((pc : Int) + o).toNat = pc') (hq : pc + 3 = pc'')
    (gt : x = y → Go nw p l e R s m args below meth c code ml nm ret Z a0 EL own P vm h k n pc' L S) (gf : ¬ x = y → Go nw p l e R s m args below meth c code ml nm ret Z a0 EL own P vm h k n pc'' L S) : Go nw p l e R s m args below meth c code ml nm ret Z a0 EL own P vm h k n pc L (.int y :: .int x :: S) := by
  by_cases q : x = y
  · exact Go.icmpB pc' pc'' hd ho hp hq (fun r => by first | exact gt q | exact absurd (r.symm.trans (teq q).1) (by simp)) (fun r => by first | exact gf q | exact absurd (r.symm.trans (teq q).1) (by simp))
  · exact Go.icmpB pc' pc'' hd ho hp hq (fun r => by first | exact gt q | exact absurd (r.symm.trans (feq q).1) (by simp)) (fun r => by first | exact gf q | exact absurd (r.symm.trans (feq q).1) (by simp))
theorem Go.ifeq {x : Int32} {o : Int} (pc' pc'' : Nat) (hd : decode code pc = .ok (.ifCond .eq o, 3)) (ho : 0 ≤ (pc : Int) + o) (hp : ((pc : Int) + o).toNat = pc') (hq : pc + 3 = pc'')
    (gt : x = 0 → Go nw p l e R s m args below meth c code ml nm ret Z a0 EL own P vm h k n pc' L S) (gf : ¬ x = 0 → Go nw p l e R s m args below meth c code ml nm ret Z a0 EL own P vm h k n pc'' L S) : Go nw p l e R s m args below meth c code ml nm ret Z a0 EL own P vm h k n pc L (.int x :: S) := by
  by_cases q : x = 0
  · exact Go.ifB pc' pc'' hd ho hp hq (fun r => by first | exact gt q | exact absurd (r.symm.trans ((if0 _ _).trans (teq q).1)) (by simp)) (fun r => by first | exact gf q | exact absurd (r.symm.trans ((if0 _ _).trans (teq q).1)) (by simp))
  · exact Go.ifB pc' pc'' hd ho hp hq (fun r => by first | exact gt q | exact absurd (r.symm.trans ((if0 _ _).trans (feq q).1)) (by simp)) (fun r => by first | exact gf q | exact absurd (r.symm.trans ((if0 _ _).trans (feq q).1)) (by simp))
theorem Go.if_icmpne {x y : Int32} {o : Int} (pc' pc'' : Nat) (hd : decode code pc = .ok (.if_icmp .ne o, 3)) (ho : 0 ≤ (pc : Int) + o) (hp : ((pc : Int) + o).toNat = pc') (hq : pc + 3 = pc'')
    (gt : ¬ x = y → Go nw p l e R s m args below meth c code ml nm ret Z a0 EL own P vm h k n pc' L S) (gf : x = y → Go nw p l e R s m args below meth c code ml nm ret Z a0 EL own P vm h k n pc'' L S) : Go nw p l e R s m args below meth c code ml nm ret Z a0 EL own P vm h k n pc L (.int y :: .int x :: S) := by
  by_cases q : x = y
  · exact Go.icmpB pc' pc'' hd ho hp hq (fun r => by first | exact gt q | exact absurd (r.symm.trans (teq q).2) (by simp)) (fun r => by first | exact gf q | exact absurd (r.symm.trans (teq q).2) (by simp))
  · exact Go.icmpB pc' pc'' hd ho hp hq (fun r => by first | exact gt q | exact absurd (r.symm.trans (feq q).2) (by simp)) (fun r => by first | exact gf q | exact absurd (r.symm.trans (feq q).2) (by simp))
theorem Go.ifne {x : Int32} {o : Int} (pc' pc'' : Nat) (hd : decode code pc = .ok (.ifCond .ne o, 3)) (ho : 0 ≤ (pc : Int) + o) (hp : ((pc : Int) + o).toNat = pc') (hq : pc + 3 = pc'')
    (gt : ¬ x = 0 → Go nw p l e R s m args below meth c code ml nm ret Z a0 EL own P vm h k n pc' L S) (gf : x = 0 → Go nw p l e R s m args below meth c code ml nm ret Z a0 EL own P vm h k n pc'' L S) : Go nw p l e R s m args below meth c code ml nm ret Z a0 EL own P vm h k n pc L (.int x :: S) := by
  by_cases q : x = 0
  · exact Go.ifB pc' pc'' hd ho hp hq (fun r => by first | exact gt q | exact absurd (r.symm.trans ((if0 _ _).trans (teq q).2)) (by simp)) (fun r => by first | exact gf q | exact absurd (r.symm.trans ((if0 _ _).trans (teq q).2)) (by simp))
  · exact Go.ifB pc' pc'' hd ho hp hq (fun r => by first | exact gt q | exact absurd (r.symm.trans ((if0 _ _).trans (feq q).2)) (by simp)) (fun r => by first | exact gf q | exact absurd (r.symm.trans ((if0 _ _).trans (feq q).2)) (by simp))
theorem Go.if_icmplt {x y : Int32} {o : Int} (pc' pc'' : Nat) (hd : decode code pc = .ok (.if_icmp .lt o, 3)) (ho : 0 ≤ (pc : Int) + o) (hp : ((pc : Int) + o).toNat = pc') (hq : pc + 3 = pc'')
    (gt : x < y → Go nw p l e R s m args below meth c code ml nm ret Z a0 EL own P vm h k n pc' L S) (gf : ¬ x < y → Go nw p l e R s m args below meth c code ml nm ret Z a0 EL own P vm h k n pc'' L S) : Go nw p l e R s m args below meth c code ml nm ret Z a0 EL own P vm h k n pc L (.int y :: .int x :: S) := by
  by_cases q : x < y
  · exact Go.icmpB pc' pc'' hd ho hp hq (fun r => by first | exact gt q | exact absurd (r.symm.trans (tlt q).1) (by simp)) (fun r => by first | exact gf q | exact absurd (r.symm.trans (tlt q).1) (by simp))
  · exact Go.icmpB pc' pc'' hd ho hp hq (fun r => by first | exact gt q | exact absurd (r.symm.trans (flt q).1) (by simp)) (fun r => by first | exact gf q | exact absurd (r.symm.trans (flt q).1) (by simp))
theorem Go.iflt {x : Int32} {o : Int} (pc' pc'' : Nat) (hd : decode code pc = .ok (.ifCond .lt o, 3)) (ho : 0 ≤ (pc : Int) + o) (hp : ((pc : Int) + o).toNat = pc') (hq : pc + 3 = pc'')
    (gt : x < 0 → Go nw p l e R s m args below meth c code ml nm ret Z a0 EL own P vm h k n pc' L S) (gf : ¬ x < 0 → Go nw p l e R s m args below meth c code ml nm ret Z a0 EL own P vm h k n pc'' L S) : Go nw p l e R s m args below meth c code ml nm ret Z a0 EL own P vm h k n pc L (.int x :: S) := by
  by_cases q : x < 0
  · exact Go.ifB pc' pc'' hd ho hp hq (fun r => by first | exact gt q | exact absurd (r.symm.trans ((if0 _ _).trans (tlt q).1)) (by simp)) (fun r => by first | exact gf q | exact absurd (r.symm.trans ((if0 _ _).trans (tlt q).1)) (by simp))
  · exact Go.ifB pc' pc'' hd ho hp hq (fun r => by first | exact gt q | exact absurd (r.symm.trans ((if0 _ _).trans (flt q).1)) (by simp)) (fun r => by first | exact gf q | exact absurd (r.symm.trans ((if0 _ _).trans (flt q).1)) (by simp))
theorem Go.if_icmpge {x y : Int32} {o : Int} (pc' pc'' : Nat) (hd : decode code pc = .ok (.if_icmp .ge o, 3)) (ho : 0 ≤ (pc : Int) + o) (hp : ((pc : Int) + o).toNat = pc') (hq : pc + 3 = pc'')
    (gt : ¬ x < y → Go nw p l e R s m args below meth c code ml nm ret Z a0 EL own P vm h k n pc' L S) (gf : x < y → Go nw p l e R s m args below meth c code ml nm ret Z a0 EL own P vm h k n pc'' L S) : Go nw p l e R s m args below meth c code ml nm ret Z a0 EL own P vm h k n pc L (.int y :: .int x :: S) := by
  by_cases q : x < y
  · exact Go.icmpB pc' pc'' hd ho hp hq (fun r => by first | exact gt q | exact absurd (r.symm.trans (tlt q).2.1) (by simp)) (fun r => by first | exact gf q | exact absurd (r.symm.trans (tlt q).2.1) (by simp))
  · exact Go.icmpB pc' pc'' hd ho hp hq (fun r => by first | exact gt q | exact absurd (r.symm.trans (flt q).2.1) (by simp)) (fun r => by first | exact gf q | exact absurd (r.symm.trans (flt q).2.1) (by simp))
theorem Go.ifge {x : Int32} {o : Int} (pc' pc'' : Nat) (hd : decode code pc = .ok (.ifCond .ge o, 3)) (ho : 0 ≤ (pc : Int) + o) (hp : ((pc : Int) + o).toNat = pc') (hq : pc + 3 = pc'')
    (gt : ¬ x < 0 → Go nw p l e R s m args below meth c code ml nm ret Z a0 EL own P vm h k n pc' L S) (gf : x < 0 → Go nw p l e R s m args below meth c code ml nm ret Z a0 EL own P vm h k n pc'' L S) : Go nw p l e R s m args below meth c code ml nm ret Z a0 EL own P vm h k n pc L (.int x :: S) := by
  by_cases q : x < 0
  · exact Go.ifB pc' pc'' hd ho hp hq (fun r => by first | exact gt q | exact absurd (r.symm.trans ((if0 _ _).trans (tlt q).2.1)) (by simp)) (fun r => by first | exact gf q | exact absurd (r.symm.trans ((if0 _ _).trans (tlt q).2.1)) (by simp))
  · exact Go.ifB pc' pc'' hd ho hp hq (fun r => by first | exact gt q | exact absurd (r.symm.trans ((if0 _ _).trans (flt q).2.1)) (by simp)) (fun r => by first | exact gf q | exact absurd (r.symm.trans ((if0 _ _).trans (flt q).2.1)) (by simp))
theorem Go.if_icmpgt {x y : Int32} {o : Int} (pc' pc'' : Nat) (hd : decode code pc = .ok (.if_icmp .gt o, 3)) (ho : 0 ≤ (pc : Int) + o) (hp : ((pc : Int) + o).toNat = pc') (hq : pc + 3 = pc'')
    (gt : y < x → Go nw p l e R s m args below meth c code ml nm ret Z a0 EL own P vm h k n pc' L S) (gf : ¬ y < x → Go nw p l e R s m args below meth c code ml nm ret Z a0 EL own P vm h k n pc'' L S) : Go nw p l e R s m args below meth c code ml nm ret Z a0 EL own P vm h k n pc L (.int y :: .int x :: S) := by
  by_cases q : y < x
  · exact Go.icmpB pc' pc'' hd ho hp hq (fun r => by first | exact gt q | exact absurd (r.symm.trans (tlt q).2.2.1) (by simp)) (fun r => by first | exact gf q | exact absurd (r.symm.trans (tlt q).2.2.1) (by simp))
  · exact Go.icmpB pc' pc'' hd ho hp hq (fun r => by first | exact gt q | exact absurd (r.symm.trans (flt q).2.2.1) (by simp)) (fun r => by first | exact gf q | exact absurd (r.symm.trans (flt q).2.2.1) (by simp))
theorem Go.ifgt {x : Int32} {o : Int} (pc' pc'' : Nat) (hd : decode code pc = .ok (.ifCond .gt o, 3)) (ho : 0 ≤ (pc : Int) + o) (hp : ((pc : Int) + o).toNat = pc') (hq : pc + 3 = pc'')
    (gt : 0 < x → Go nw p l e R s m args below meth c code ml nm ret Z a0 EL own P vm h k n pc' L S) (gf : ¬ 0 < x → Go nw p l e R s m args below meth c code ml nm ret Z a0 EL own P vm h k n pc'' L S) : Go nw p l e R s m args below meth c code ml nm ret Z a0 EL own P vm h k n pc L (.int x :: S) := by
  by_cases q : 0 < x
  · exact Go.ifB pc' pc'' hd ho hp hq (fun r => by first | exact gt q | exact absurd (r.symm.trans ((if0 _ _).trans (tlt q).2.2.1)) (by simp)) (fun r => by first | exact gf q | exact absurd (r.symm.trans ((if0 _ _).trans (tlt q).2.2.1)) (by simp))
  · exact Go.ifB pc' pc'' hd ho hp hq (fun r => by first | exact gt q | exact absurd (r.symm.trans ((if0 _ _).trans (flt q).2.2.1)) (by simp)) (fun r => by first | exact gf q | exact absurd (r.symm.trans ((if0 _ _).trans (flt q).2.2.1)) (by simp))
theorem Go.if_icmple {x y : Int32} {o : Int} (pc' pc'' : Nat) (hd : decode code pc = .ok (.if_icmp .le o, 3)) (ho : 0 ≤ (pc : Int) + o) (hp : ((pc : Int) + o).toNat = pc') (hq : pc + 3 = pc'')
    (gt : ¬ y < x → Go nw p l e R s m args below meth c code ml nm ret Z a0 EL own P vm h k n pc' L S) (gf : y < x → Go nw p l e R s m args below meth c code ml nm ret Z a0 EL own P vm h k n pc'' L S) : Go nw p l e R s m args below meth c code ml nm ret Z a0 EL own P vm h k n pc L (.int y :: .int x :: S) := by
  by_cases q : y < x
  · exact Go.icmpB pc' pc'' hd ho hp hq (fun r => by first | exact gt q | exact absurd (r.symm.trans (tlt q).2.2.2) (by simp)) (fun r => by first | exact gf q | exact absurd (r.symm.trans (tlt q).2.2.2) (by simp))
  · exact Go.icmpB pc' pc'' hd ho hp hq (fun r => by first | exact gt q | exact absurd (r.symm.trans (flt q).2.2.2) (by simp)) (fun r => by first | exact gf q | exact absurd (r.symm.trans (flt q).2.2.2) (by simp))
theorem Go.ifle {x : Int32} {o : Int} (pc' pc'' : Nat) (hd : decode code pc = .ok (.ifCond .le o, 3)) (ho : 0 ≤ (pc : Int) + o) (hp : ((pc : Int) + o).toNat = pc') (hq : pc + 3 = pc'')
    (gt : ¬ 0 < x → Go nw p l e R s m args below meth c code ml nm ret Z a0 EL own P vm h k n pc' L S) (gf : 0 < x → Go nw p l e R s m args below meth c code ml nm ret Z a0 EL own P vm h k n pc'' L S) : Go nw p l e R s m args below meth c code ml nm ret Z a0 EL own P vm h k n pc L (.int x :: S) := by
  by_cases q : 0 < x
  · exact Go.ifB pc' pc'' hd ho hp hq (fun r => by first | exact gt q | exact absurd (r.symm.trans ((if0 _ _).trans (tlt q).2.2.2)) (by simp)) (fun r => by first | exact gf q | exact absurd (r.symm.trans ((if0 _ _).trans (tlt q).2.2.2)) (by simp))
  · exact Go.ifB pc' pc'' hd ho hp hq (fun r => by first | exact gt q | exact absurd (r.symm.trans ((if0 _ _).trans (flt q).2.2.2)) (by simp)) (fun r => by first | exact gf q | exact absurd (r.symm.trans ((if0 _ _).trans (flt q).2.2.2)) (by simp))
theorem Go.ifnull_y {o : Int} (pc' : Nat) (hd : decode code pc = .ok (.ifnull o, 3)) (ho : 0 ≤ (pc : Int) + o) (hp : ((pc : Int) + o).toNat = pc') (g : Go nw p l e R s m args below meth c code ml nm ret Z a0 EL own P vm h k n pc' L S) : Go nw p l e R s m args below meth c code ml nm ret Z a0 EL own P vm h k n pc L (.null :: S) :=
  g.step fun T hT hx hc _ q => XS.ifnullYes hT hx rfl rfl (hb hc hd) rfl ho hp q
theorem Go.ifnull_n {o : Int} {b : Addr} (pc' : Nat) (hd : decode code pc = .ok (.ifnull o, 3)) (hp : pc + 3 = pc') (g : Go nw p l e R s m args below meth c code ml nm ret Z a0 EL own P vm h k n pc' L S) : Go nw p l e R s m args below meth c code ml nm ret Z a0 EL own P vm h k n pc L (.ref b :: S) := by
  subst hp; exact g.step fun T hT hx hc _ q => XS.ifnullNo hT hx rfl (hb hc hd) rfl q
theorem Go.ifnonnull_y {o : Int} {b : Addr} (pc' : Nat) (hd : decode code pc = .ok (.ifnonnull o, 3)) (ho : 0 ≤ (pc : Int) + o) (hp : ((pc : Int) + o).toNat = pc') (g : Go nw p l e R s m args below meth c code ml nm ret Z a0 EL own P vm h k n pc' L S) : Go nw p l e R s m args below meth c code ml nm ret Z a0 EL own P vm h k n pc L (.ref b :: S) :=
  g.step fun T hT hx hc _ q => XS.ifnonnullYes hT hx rfl rfl (hb hc hd) rfl ho hp q
theorem Go.ifnonnull_n {o : Int} (pc' : Nat) (hd : decode code pc = .ok (.ifnonnull o, 3)) (hp : pc + 3 = pc') (g : Go nw p l e R s m args below meth c code ml nm ret Z a0 EL own P vm h k n pc' L S) : Go nw p l e R s m args below meth c code ml nm ret Z a0 EL own P vm h k n pc L (.null :: S) := by
  subst hp; exact g.step fun T hT hx hc _ q => XS.ifnonnullNo hT hx rfl (hb hc hd) rfl q
theorem Go.acmp_y {cd : ClassFile.ACond} {x y : Value} {o : Int} (pc' : Nat) (hd : decode code pc = .ok (.if_acmp cd o, 3)) (ho : 0 ≤ (pc : Int) + o) (hp : ((pc : Int) + o).toNat = pc') (h1 : x.isRef = true) (h2 : y.isRef = true) (hq : XT.acmp cd x y = true) (g : Go nw p l e R s m args below meth c code ml nm ret Z a0 EL own P vm h k n pc' L S) : Go nw p l e R s m args below meth c code ml nm ret Z a0 EL own P vm h k n pc L (y :: x :: S) :=
  g.step fun T hT hx hc _ q => XT.acmpYes hT hx rfl rfl (hb hc hd) rfl h1 h2 hq ho hp q
theorem Go.acmp_n {cd : ClassFile.ACond} {x y : Value} {o : Int} (pc' : Nat) (hd : decode code pc = .ok (.if_acmp cd o, 3)) (hp : pc + 3 = pc') (h1 : x.isRef = true) (h2 : y.isRef = true) (hq : XT.acmp cd x y = false) (g : Go nw p l e R s m args below meth c code ml nm ret Z a0 EL own P vm h k n pc' L S) : Go nw p l e R s m args below meth c code ml nm ret Z a0 EL own P vm h k n pc L (y :: x :: S) := by
  subst hp; exact g.step fun T hT hx hc _ q => XT.acmpNo hT hx rfl (hb hc hd) rfl h1 h2 hq q
theorem Go.getfield {O n' d : String} {idx : Nat} {a : Addr} {v : Value} (pc' : Nat) (hd : decode code pc = .ok (.getfield idx, 3)) (hp : pc + 3 = pc') (w : (Cond.fieldLink own idx O n' d).before a0 Z = true) (F : Fld Z h a O n' d v) (g : Go nw p l e R s m args below meth c code ml nm ret Z a0 EL own P vm h k n pc' L (v :: S)) : Go nw p l e R s m args below meth c code ml nm ret Z a0 EL own P vm h k n pc L (.ref a :: S) := by
  subst hp
  exact g.note fun T locs cells slots X hh hx hc hm hon => getF X hx hon.2.1 (host := "") hon.2.2.1 (Or.inl w) Via.refl hh F (g := mkF m pc L (.ref a :: S)) rfl rfl (hb hc hd)
theorem Go.getfieldV {R0 O n' d : String} {idx : Nat} {a : Addr} {v : Value} (pc' : Nat) (hd : decode code pc = .ok (.getfield idx, 3)) (hp : pc + 3 = pc') (w : (Cond.fieldLink own idx R0 n' d).before a0 Z = true) (via : (Cond.sameField R0 O n' d).before a0 Z = true) (F : Fld Z h a O n' d v) (g : Go nw p l e R s m args below meth c code ml nm ret Z a0 EL own P vm h k n pc' L (v :: S)) : Go nw p l e R s m args below meth c code ml nm ret Z a0 EL own P vm h k n pc L (.ref a :: S) := by
  subst hp
  exact g.note fun T locs cells slots X hh hx hc hm hon => getF X hx hon.2.1 (host := "") hon.2.2.1 (Or.inl w) (Via.of via) hh F (g := mkF m pc L (.ref a :: S)) rfl rfl (hb hc hd)
theorem Go.getstatic {O n' d : String} {idx : Nat} {v : Value} (pc' : Nat) (hd : decode code pc = .ok (.getstatic idx, 3)) (hp : pc + 3 = pc') (w : (Cond.fieldLink own idx O n' d).before a0 Z = true) (F : Sta Z h O n' d v) (g : Go nw p l e R s m args below meth c code ml nm ret Z a0 EL own P vm h k n pc' L (v :: S)) : Go nw p l e R s m args below meth c code ml nm ret Z a0 EL own P vm h k n pc L S := by
  subst hp
  exact g.note fun T locs cells slots X hh hx hc hm hon => getS X hx hon.2.1 (host := "") hon.2.2.1 w Via.refl hh F (g := mkF m pc L S) rfl (hb hc hd)
theorem Go.putfield {O n' d C : String} {idx kk : Nat} {ty : FieldType} {a : Addr} {v v0 : Value} (pc' : Nat) (hd : decode code pc = .ok (.putfield idx, 3)) (hp : pc + 3 = pc') (w : (Cond.fieldLink own idx O n' d).before a0 Z = true) (F : Fld Z h a O n' d v0) (E : Exa Z h a C)
    (Lf : (Cond.lays C O n' d).before a0 Z = true ∨ ((Cond.laysFinal C O n' d).before a0 Z = true ∧ own = O ∧ nm = "<init>")) (wi : (Cond.instantiable C kk).before a0 Z = true) (hty : parseFieldDescriptor d = some ty) (hn' : narrow ty v = v) (hf : fits ty v = true)
    (Sa : Safe Z EL vm h a) (hz : Z.heap.size ≤ a) (g : ∀ h', Wr h h' a (RoadKit.slotOf Z O n' d) v → Safe Z EL vm h' a → CHr Z EL vm h vm h' → Go nw p l e R s m args below meth c code ml nm ret Z a0 EL own P vm h' k n pc' L S) : Go nw p l e R s m args below meth c code ml nm ret Z a0 EL own P vm h k n pc L (v :: .ref a :: S) := by
  subst hp
  refine Go.wrote Sa hz (fun T locs cells slots X hh hx hc hm hnm hon => ?_) g
  exact putF X hx hon.2.1 (host := "") hon.2.2.1 (Or.inl w) Via.refl hh F E (Lf.imp id fun q => ⟨q.1, q.2.1, hnm.trans q.2.2⟩) wi hty hn' hf (g := mkF m pc L (v :: .ref a :: S)) rfl rfl (hb hc hd)
theorem Go.putfieldV {R0 O n' d C : String} {idx kk : Nat} {ty : FieldType} {a : Addr} {v v0 : Value} (pc' : Nat) (hd : decode code pc = .ok (.putfield idx, 3)) (hp : pc + 3 = pc') (w : (Cond.fieldLink own idx R0 n' d).before a0 Z = true) (via : (Cond.sameField R0 O n' d).before a0 Z = true) (F : Fld Z h a O n' d v0) (E : Exa Z h a C)
    (Lf : (Cond.lays C O n' d).before a0 Z = true ∨ ((Cond.laysFinal C O n' d).before a0 Z = true ∧ own = O ∧ nm = "<init>")) (wi : (Cond.instantiable C kk).before a0 Z = true) (hty : parseFieldDescriptor d = some ty) (hn' : narrow ty v = v) (hf : fits ty v = true)
    (Sa : Safe Z EL vm h a) (hz : Z.heap.size ≤ a) (g : ∀ h', Wr h h' a (RoadKit.slotOf Z O n' d) v → Safe Z EL vm h' a → CHr Z EL vm h vm h' → Go nw p l e R s m args below meth c code ml nm ret Z a0 EL own P vm h' k n pc' L S) : Go nw p l e R s m args below meth c code ml nm ret Z a0 EL own P vm h k n pc L (v :: .ref a :: S) := by
  subst hp
  refine Go.wrote Sa hz (fun T locs cells slots X hh hx hc hm hnm hon => ?_) g
  exact putF X hx hon.2.1 (host := "") hon.2.2.1 (Or.inl w) (Via.of via) hh F E (Lf.imp id fun q => ⟨q.1, q.2.1, hnm.trans q.2.2⟩) wi hty hn' hf (g := mkF m pc L (v :: .ref a :: S)) rfl rfl (hb hc hd)
theorem Go.new {C : String} {idx nf : Nat} (pc' : Nat) (hd : decode code pc = .ok (.new idx, 3)) (hp : pc + 3 = pc') (w : (Cond.classLink own idx C).before a0 Z = true) (wi : (Cond.instantiable C nf).before a0 Z = true) (wz : (Cond.initialized C).before a0 Z = true) (hk0 : k + 1 ≤ R.cells) (hn0 : n + nf ≤ R.slots)
    (g : ∀ a h', a = h.size → Ext h h' → (Exa Z h' a C ∧ ∀ {O n' d : String} {ty : FieldType}, Laid Z a0 C O n' d → parseFieldDescriptor d = some ty → Fld Z h' a O n' d (defaultValue ty)) → Safe Z EL vm h' a → Z.heap.size ≤ a → CHr Z EL vm h vm h' → Go nw p l e R s m args below meth c code ml nm ret Z a0 EL own P vm h' (k + 1) (n + nf) pc' L (.ref a :: S)) : Go nw p l e R s m args below meth c code ml nm ret Z a0 EL own P vm h k n pc L S := by
  subst hp
  refine Go.made (dk := 1) (dn := nf) (S' := fun a => .ref a :: S) (F := fun h' a => Exa Z h' a C ∧ ∀ {O n' d : String} {ty : FieldType}, Laid Z a0 C O n' d → parseFieldDescriptor d = some ty → Fld Z h' a O n' d (defaultValue ty)) hk0 hn0 (fun T locs cells slots X hh hx hc hm hon q1 q2 => ?_) g
  obtain ⟨T', h', X', e', E, A, D, -, st⟩ := newO X hx hon.2.1 hon.2.2.1 w wi wz hh (g := mkF m pc L S) rfl (hb hc hd) q1 q2
  exact ⟨T', h', X', e', E, ⟨A, D⟩, st⟩
theorem Go.newarray {aty : ArrayType} {z : Int32} (cap : Nat) (pc' : Nat) (hd : decode code pc = .ok (.newarray aty, 2)) (hp : pc + 2 = pc') (w : (Cond.arrayClass (newarray.typeOf aty)).before a0 Z = true) (hz : ¬ z < 0) (hcap : z.toNatClampNeg ≤ cap) (hb8 : cap * 8 ≤ 536870912) (hk0 : k + 1 ≤ R.cells) (hn0 : n + cap ≤ R.slots)
    (g : ∀ a h', a = h.size → Ext h h' → (∃ cA, Arv Z h' a cA (newarray.typeOf aty) z [] (defaultValue (newarray.typeOf aty))) → Safe Z EL vm h' a → Z.heap.size ≤ a → CHr Z EL vm h vm h' → Go nw p l e R s m args below meth c code ml nm ret Z a0 EL own P vm h' (k + 1) (n + cap) pc' L (.ref a :: S)) : Go nw p l e R s m args below meth c code ml nm ret Z a0 EL own P vm h k n pc L (.int z :: S) := by
  subst hp
  refine Go.made (dk := 1) (dn := cap) (S' := fun a => .ref a :: S) (F := fun h' a => ∃ cA, Arv Z h' a cA (newarray.typeOf aty) z [] (defaultValue (newarray.typeOf aty))) hk0 hn0 (fun T locs cells slots X hh hx hc hm hon q1 q2 => ?_) g
  obtain ⟨T', h', cA, X', e', E, A, st⟩ := newP X hx hon.2.1 w hh (g := mkF m pc L (.int z :: S)) rfl (hb hc hd) rfl hz hcap hb8 q1 q2
  exact ⟨T', h', X', e', E, ⟨cA, Arv.new A hz⟩, st⟩
theorem Go.arraylength {a : Addr} {kA : ClassId} {ty : FieldType} {z : Int32} {vs : List Value} {dv : Value} (pc' : Nat) (hd : decode code pc = .ok (.arraylength, 1)) (hp : pc + 1 = pc') (A : Arv Z h a kA ty z vs dv) (g : Go nw p l e R s m args below meth c code ml nm ret Z a0 EL own P vm h k n pc' L (.int z :: S)) : Go nw p l e R s m args below meth c code ml nm ret Z a0 EL own P vm h k n pc L (.ref a :: S) := by
  subst hp
  refine g.note fun T locs cells slots X hh hx hc hm hon => ⟨T, X, hh, fun target q => ?_⟩
  obtain ⟨cl, A1, A2, A3, A4, A5, A6⟩ := A
  refine X.arraylength hx (cell := cl) (by rw [hh]; exact A1.1) (State.isArrayOf_alike hon.2.1.alike A1.2.1) (g := mkF m pc L (.ref a :: S)) rfl (rest := S) rfl (hb hc hd) _ ?_
  rw [len_of A3 A4]; exact q
theorem Go.caload {a : Addr} {kA : ClassId} {z j : Int32} {vs : List Value} {dv : Value} (v : Value) (pc' : Nat) (hd : decode code pc = .ok (.caload, 1)) (hp : pc + 1 = pc') (A : Arv Z h a kA .char z vs dv) (hj : ¬ j < 0 ∧ j < z) (hv : vs.getD j.toNatClampNeg dv = v) (g : Go nw p l e R s m args below meth c code ml nm ret Z a0 EL own P vm h k n pc' L (v :: S)) : Go nw p l e R s m args below meth c code ml nm ret Z a0 EL own P vm h k n pc L (.int j :: .ref a :: S) := by
  subst hp
  refine g.note fun T locs cells slots X hh hx hc hm hon => ⟨T, X, hh, fun target q => ?_⟩
  obtain ⟨cl, A1, A2, A3, A4, A5, A6⟩ := A
  have hin := inb_of A3 hj
  exact X.caload hx (by rw [hh]; exact A1.1) (State.isArrayOf_alike hon.2.1.alike A1.2.1) A1.2.2 hin (A5.at hin hv) (g := mkF m pc L (.int j :: .ref a :: S)) rfl rfl (hb hc hd) _ q
theorem Go.iaload {a : Addr} {kA : ClassId} {z j : Int32} {vs : List Value} {dv : Value} (v : Value) (pc' : Nat) (hd : decode code pc = .ok (.iaload, 1)) (hp : pc + 1 = pc') (A : Arv Z h a kA .int z vs dv) (hj : ¬ j < 0 ∧ j < z) (hv : vs.getD j.toNatClampNeg dv = v) (g : Go nw p l e R s m args below meth c code ml nm ret Z a0 EL own P vm h k n pc' L (v :: S)) : Go nw p l e R s m args below meth c code ml nm ret Z a0 EL own P vm h k n pc L (.int j :: .ref a :: S) := by
  subst hp
  refine g.note fun T locs cells slots X hh hx hc hm hon => ⟨T, X, hh, fun target q => ?_⟩
  obtain ⟨cl, A1, A2, A3, A4, A5, A6⟩ := A
  have hin := inb_of A3 hj
  exact X.iaload hx (by rw [hh]; exact A1.1) (State.isArrayOf_alike hon.2.1.alike A1.2.1) A1.2.2 hin (A5.at hin hv) (g := mkF m pc L (.int j :: .ref a :: S)) rfl rfl (hb hc hd) _ q
theorem Go.baload {a : Addr} {kA : ClassId} {z j : Int32} {vs : List Value} {dv : Value} (v : Value) (pc' : Nat) (hd : decode code pc = .ok (.baload, 1)) (hp : pc + 1 = pc') (A : Arv Z h a kA .byte z vs dv) (hj : ¬ j < 0 ∧ j < z) (hv : vs.getD j.toNatClampNeg dv = v) (g : Go nw p l e R s m args below meth c code ml nm ret Z a0 EL own P vm h k n pc' L (v :: S)) : Go nw p l e R s m args below meth c code ml nm ret Z a0 EL own P vm h k n pc L (.int j :: .ref a :: S) := by
  subst hp
  refine g.note fun T locs cells slots X hh hx hc hm hon => ⟨T, X, hh, fun target q => ?_⟩
  obtain ⟨cl, A1, A2, A3, A4, A5, A6⟩ := A
  have hin := inb_of A3 hj
  exact X.baloadBytes hx (by rw [hh]; exact A1.1) (State.isArrayOf_alike hon.2.1.alike A1.2.1) A1.2.2 hin (A5.at hin hv) (g := mkF m pc L (.int j :: .ref a :: S)) rfl rfl (hb hc hd) _ q
theorem Go.aaload {a : Addr} {kA : ClassId} {ty : FieldType} {z j : Int32} {vs : List Value} {dv : Value} (v : Value) (pc' : Nat) (hd : decode code pc = .ok (.aaload, 1)) (hp : pc + 1 = pc') (A : Arv Z h a kA ty z vs dv) (hty : ty.isReference = true) (hj : ¬ j < 0 ∧ j < z) (hv : vs.getD j.toNatClampNeg dv = v) (g : Go nw p l e R s m args below meth c code ml nm ret Z a0 EL own P vm h k n pc' L (v :: S)) : Go nw p l e R s m args below meth c code ml nm ret Z a0 EL own P vm h k n pc L (.int j :: .ref a :: S) := by
  subst hp
  refine g.note fun T locs cells slots X hh hx hc hm hon => ⟨T, X, hh, fun target q => ?_⟩
  obtain ⟨cl, A1, A2, A3, A4, A5, A6⟩ := A
  have hin := inb_of A3 hj
  exact X.aaload hx (by rw [hh]; exact A1.1) (State.isArrayOf_alike hon.2.1.alike A1.2.1) hty A1.2.2 hin (A5.at hin hv) (g := mkF m pc L (.int j :: .ref a :: S)) rfl rfl (hb hc hd) _ q
theorem Go.castore {a : Addr} {kA : ClassId} {z j x : Int32} {vs : List Value} {dv : Value} (i : Nat) (y : Int32) (vs' : List Value) (pc' : Nat) (hd : decode code pc = .ok (.castore, 1)) (hp : pc + 1 = pc') (A : Arv Z h a kA .char z vs dv) (hj : ¬ j < 0 ∧ j < z) (hi : j.toNatClampNeg = i) (hl : i < vs.length) (hy : nar .char x = y) (hvs : vs.set i (.int y) = vs') (Sa : Safe Z EL vm h a) (hz : Z.heap.size ≤ a)
    (g : ∀ h', Keep h h' [a] → Arv Z h' a kA .char z vs' dv → Safe Z EL vm h' a → CHr Z EL vm h vm h' → Go nw p l e R s m args below meth c code ml nm ret Z a0 EL own P vm h' k n pc' L S) : Go nw p l e R s m args below meth c code ml nm ret Z a0 EL own P vm h k n pc L (.int x :: .int j :: .ref a :: S) := by
  subst hp hy hvs
  obtain ⟨cl, A1, A2, A3, A4, A5, A6⟩ := A
  have hin := inb_of A3 hj
  refine Go.wrote Sa hz (sl := j.toNatClampNeg) (w := .int (nar .char x)) (fun T locs cells slots X hh hx hc hm hnm hon => ?_) (fun h' W s2 ch => g h' (Keep.of_wr W) (Arv.set A1 A2 A3 A4 A5 A6 (fits_nar_char _) W i hi hl) s2 ch)
  exact stC X hx hon.2.1 hh A1 hin (g := mkF m pc L (.int x :: .int j :: .ref a :: S)) rfl rfl (hb hc hd)
theorem Go.iastore {a : Addr} {kA : ClassId} {z j x : Int32} {vs : List Value} {dv : Value} (i : Nat) (y : Int32) (vs' : List Value) (pc' : Nat) (hd : decode code pc = .ok (.iastore, 1)) (hp : pc + 1 = pc') (A : Arv Z h a kA .int z vs dv) (hj : ¬ j < 0 ∧ j < z) (hi : j.toNatClampNeg = i) (hl : i < vs.length) (hy : x = y) (hvs : vs.set i (.int y) = vs') (Sa : Safe Z EL vm h a) (hz : Z.heap.size ≤ a)
    (g : ∀ h', Keep h h' [a] → Arv Z h' a kA .int z vs' dv → Safe Z EL vm h' a → CHr Z EL vm h vm h' → Go nw p l e R s m args below meth c code ml nm ret Z a0 EL own P vm h' k n pc' L S) : Go nw p l e R s m args below meth c code ml nm ret Z a0 EL own P vm h k n pc L (.int x :: .int j :: .ref a :: S) := by
  subst hp hy hvs
  obtain ⟨cl, A1, A2, A3, A4, A5, A6⟩ := A
  have hin := inb_of A3 hj
  refine Go.wrote Sa hz (sl := j.toNatClampNeg) (w := .int (x)) (fun T locs cells slots X hh hx hc hm hnm hon => ?_) (fun h' W s2 ch => g h' (Keep.of_wr W) (Arv.set A1 A2 A3 A4 A5 A6 (rfl) W i hi hl) s2 ch)
  exact stI X hx hon.2.1 hh A1 hin (g := mkF m pc L (.int x :: .int j :: .ref a :: S)) rfl rfl (hb hc hd)
theorem Go.bastore {a : Addr} {kA : ClassId} {z j x : Int32} {vs : List Value} {dv : Value} (i : Nat) (y : Int32) (vs' : List Value) (pc' : Nat) (hd : decode code pc = .ok (.bastore, 1)) (hp : pc + 1 = pc') (A : Arv Z h a kA .byte z vs dv) (hj : ¬ j < 0 ∧ j < z) (hi : j.toNatClampNeg = i) (hl : i < vs.length) (hy : x.toInt8.toInt32 = y) (hvs : vs.set i (.int y) = vs') (Sa : Safe Z EL vm h a) (hz : Z.heap.size ≤ a)
    (g : ∀ h', Keep h h' [a] → Arv Z h' a kA .byte z vs' dv → Safe Z EL vm h' a → CHr Z EL vm h vm h' → Go nw p l e R s m args below meth c code ml nm ret Z a0 EL own P vm h' k n pc' L S) : Go nw p l e R s m args below meth c code ml nm ret Z a0 EL own P vm h k n pc L (.int x :: .int j :: .ref a :: S) := by
  subst hp hy hvs
  obtain ⟨cl, A1, A2, A3, A4, A5, A6⟩ := A
  have hin := inb_of A3 hj
  refine Go.wrote Sa hz (sl := j.toNatClampNeg) (w := .int (x.toInt8.toInt32)) (fun T locs cells slots X hh hx hc hm hnm hon => ?_) (fun h' W s2 ch => g h' (Keep.of_wr W) (Arv.set A1 A2 A3 A4 A5 A6 (fits_nar_byte _) W i hi hl) s2 ch)
  exact stB X hx hon.2.1 hh A1 hin (g := mkF m pc L (.int x :: .int j :: .ref a :: S)) rfl rfl (hb hc hd)
theorem Go.fin {v : Option Value} (hk0 : k ≤ R.cells) (hn0 : n ≤ R.slots) (hv : ret = none → v = none) (hP : ∀ vm', CHr Z EL vm h vm' h → P v vm' h)
    (st : ∀ (T : State) (locs : List Loc) (cells slots : Nat), Stand p l e R (s.setVm vm) m args below meth c T locs cells slots → p.tables.exec = Jvm.exec → c.code = code → meth.sig.returnType = ret → ∀ fs : List Frame, (∀ (f : JFrame) (acts : List Action), f.method = m → f.locked = none → f.entered = [] → (doReturn e (T.setTop f) acts v).1 = T.setFrames fs) → Steps p.tables e below (T.setTop (mkF m pc L S)) (T.setFrames fs)) : Go nw p l e R s m args below meth c code ml nm ret Z a0 EL own P vm h k n pc L S := by
  intro hx hc hm hl hnm hr hon T locs cells slots X hh hF hk hn
  obtain ⟨⟨k0, a1, a2⟩, a3, a4, a5, a6, a7, a8⟩ := hon
  obtain ⟨fs, h1, h2, h3, h4⟩ := X.leaveW a1 (by rw [hh]; exact a2) (v := v) (fun q => hv (hr ▸ q)) hl
  have ch : CHr Z EL vm h T.vm h := CHv.at X a3 a7 a5
  have hh' : (T.setFrames fs).heap = h := hh
  refine ⟨_, v, st T locs cells slots X hx hc hr fs h1, h2, h3, by rw [hh']; exact hP _ ch, by rw [hh']; exact ch, by rw [hh']; exact a6, locs, hF, ?_, fun q => ?_⟩
  · obtain ⟨q1, q2, q3, q4⟩ := h4
    exact ⟨q1, q2, q3, q4.mono (Nat.le_trans hk hk0) (Nat.le_trans hn hn0)⟩
  · exact State.WarmedH.trans (t := s.setVm vm) (a8 q) X.warmed
theorem Go.return_ (hd : decode code pc = .ok (.return_, 1)) (hr : ret = none) (hk0 : k ≤ R.cells) (hn0 : n ≤ R.slots) (hP : ∀ vm', CHr Z EL vm h vm' h → P none vm' h) : Go nw p l e R s m args below meth c code ml nm ret Z a0 EL own P vm h k n pc L ([]) :=
  Go.fin (v := none) hk0 hn0 (fun _ => rfl) hP fun T locs cells slots X hx hc hrt fs hl => X.returnOut hx (hrt.trans hr) (hb hc hd) hl
theorem Go.areturn {t : FieldType} {w : Value} (hd : decode code pc = .ok (.areturn, 1)) (hr : ret = some t) (ht : t.isReference = true) (hw : w.isRef = true) (hk0 : k ≤ R.cells) (hn0 : n ≤ R.slots) (hP : ∀ vm', CHr Z EL vm h vm' h → P (some w) vm' h) : Go nw p l e R s m args below meth c code ml nm ret Z a0 EL own P vm h k n pc L (w :: S) :=
  Go.fin (v := some w) hk0 hn0 (fun q => by rw [hr] at q; cases q) hP fun T locs cells slots X hx hc hrt fs hl => retOut X hx (hrt.trans hr) (by cases t <;> first | rfl | cases ht) (Or.inr (Or.inr (Or.inr (Or.inr ⟨rfl, ht, hw⟩)))) (hb hc hd) hl
theorem Go.ireturn {t : FieldType} {x : Int32} (hd : decode code pc = .ok (.ireturn, 1)) (hr : ret = some t) (hn' : narrow t (.int x) = .int x) (ht : t = .int ∨ t = .boolean ∨ t = .byte ∨ t = .char ∨ t = .short) (hk0 : k ≤ R.cells) (hn0 : n ≤ R.slots) (hP : ∀ vm', CHr Z EL vm h vm' h → P (some (.int x)) vm' h) : Go nw p l e R s m args below meth c code ml nm ret Z a0 EL own P vm h k n pc L (.int x :: S) :=
  Go.fin (v := some (.int x)) hk0 hn0 (fun q => by rw [hr] at q; cases q) hP fun T locs cells slots X hx hc hrt fs hl => retOut X hx (hrt.trans hr) hn' (Or.inl ⟨rfl, ht, _, rfl⟩) (hb hc hd) hl
theorem Go.initObject {idx : Nat} {a : Addr} (W : Nat) (pc' : Nat) (hd : decode code pc = .ok (.invokespecial idx, 3)) (hp : pc + 3 = pc') (w1 : (Cond.methodLink own idx Lib.objectInit).before a0 Z = true) (w2 : (Cond.instanceMethod Lib.objectInit).before a0 Z = true) (w3 : (Cond.code Lib.objectInit ⟨#[0xb1]⟩ 1 none).before a0 Z = true)
    (hsz : L.size = ml) (hf : 1 ≤ R.frames) (hW : (S.map fun v => v.category).sum ≤ W) (hl : W + 12 ≤ R.locals) (g : Go nw p l e R s m args below meth c code ml nm ret Z a0 EL own P vm h k n pc' L S) : Go nw p l e R s m args below meth c code ml nm ret Z a0 EL own P vm h k n pc L (.ref a :: S) := by
  subst hp
  exact g.note fun T locs cells slots X hh hx hc hm hon => initO X hx hon.2.1 hon.2.2.1 w1 w2 w3 hh (g := mkF m pc L (.ref a :: S)) rfl (hsz.trans hm.symm) rfl (hb hc hd) hf (by show 2 * 0 + _ ≤ _; omega) hl
/-- what a callee promises: at the heap h and tables that have booked no more than vm -/
def Ctr (nw : Bool) (l : Launch) (Z : State) (a0 : Array Value) (EL : List (String × Nat)) (y : MethodName) (code : ByteArray) (ml : Nat) (ret : Option FieldType) (rm : Room) (as' : Array Value) (vm : Vm) (h : Heap) (Q : Option Value → Vm → Heap → Prop) : Prop :=
  ∀ ws : List Jvm.Cond, MetFree l y (head1 (Jvm.Cond.code y code ml ret :: ws) rm) (fun a U => a = as' ∧ Z.Warmed39 U.vm ∧ U.heap = h ∧ CHr Z EL vm h U.vm h ∧ Ext Z.heap h ∧ EW Z a0 EL) (fun _ _ _ _ _ => True)
    (fun _ U o U' => ∃ v L, o = .returned v ∧ Q v U'.vm U'.heap ∧ CHr Z EL U.vm h U'.vm U'.heap ∧ Ext Z.heap U'.heap ∧ Fr Z.heap.size L ∧ ReturnedEndW U o U' L rm.cells rm.slots ∧ (nw = true → U.WarmedH U'.vm))
theorem Ctr.of_go {y : MethodName} {rm : Room} {as' : Array Value} {Q : Option Value → Vm → Heap → Prop} {L0 : Array Slot} (hpn : plainFor y = true) (hent : ∀ m, entryFrame m as' ml = mkF m 0 L0 [])
    (body : ∀ (p : Program) (e : Env) (s : State) (m : MethodId) (below : List Frame) (meth : Method) (c : Code) (vm1 : Vm), CHr Z EL vm h vm1 h → Go nw p l e rm s m as' below meth c code ml y.name ret Z a0 EL y.cls Q vm1 h 0 0 0 L0 []) : Ctr nw l Z a0 EL y code ml ret rm as' vm h Q := by
  intro ws
  refine MetFree.of_bodySF hpn hisR ?_
  intro p e s m args below meth c s₁ Bd hml0 hP hK
  obtain ⟨rfl, hZ, hh, hch, hext, hew⟩ := hP
  have e0 : s₁.heap = h := by rw [← hh, Bd.state]; rfl
  have X0 : Stand p l e rm (s.setVm s.vm) m args below meth c s₁ [] 0 0 := Stand.of_body Bd
  obtain ⟨s₂, v, st, h1, h2, h3, h4, hE, L', h5, h6, h7⟩ := body p e s m below meth c s.vm hch Bd.exec Bd.bytes hml0 Bd.notSynchronized (name_of_methodNamed Bd.named Bd.method).1 Bd.returns
    ⟨⟨0, (State.WarmedH.refl s).since _, Nat.zero_le _⟩, hZ, findClass_of_methodNamed Bd.named, hch.1, hext, hew, fun _ => State.WarmedH.refl s⟩ s₁ [] 0 0 X0 e0 (Fr.nil _) (Nat.le_refl _) (Nat.le_refl _)
  exact ⟨s₂, _, castTop (hent m) st, h1, h2, v, L', rfl, h3, h4, hE, h5, h6, h7⟩
/-- the callee's contract, as a call wants it -/
theorem Ctr.back {y : MethodName} {code' : ByteArray} {ml' : Nat} {ret' : Option FieldType} {rm : Room} {as' : Array Value} {Q : Option Value → Vm → Heap → Prop} {len W : Nat} (C : Ctr nw l Z a0 EL y code' ml' ret' rm as' vm h Q) (hon : On nw s m Z a0 EL own vm h)
    (wc : (Jvm.Cond.code y code' ml' ret').before a0 Z = true) (wz : (Jvm.Cond.initialized y.cls).before a0 Z = true) (hf : rm.frames + 1 ≤ R.frames) (hl : W + (ml' + 11) + rm.locals ≤ R.locals) :
    BackS l R p e below (s.setVm vm) args y len W (fun A a => a = as' ∧ A.U.heap = h ∧ A.cells + rm.cells ≤ R.cells ∧ A.slots + rm.slots ≤ R.slots)
      (fun A _ v B => ∃ L, Q v B.U.vm B.U.heap ∧ CHr Z EL vm h B.U.vm B.U.heap ∧ Ext Z.heap B.U.heap ∧ Fr Z.heap.size L ∧ B.locs = A.locs ++ L ∧ B.cells = A.cells + rm.cells ∧ B.slots = A.slots + rm.slots ∧ (nw = true → s.WarmedH B.U.vm)) := by
  obtain ⟨⟨k0, a1, a2⟩, a3, a4, a5, a6, a7, a8⟩ := hon
  refine BackS.of_freeW (bytes := code') (maxL := ml') (ret := ret') (E := fun _ first o t L k n => k = rm.cells ∧ n = rm.slots ∧ (∃ v, o = .returned v ∧ Q v t.vm t.heap) ∧ CHr Z EL first.vm h t.vm t.heap ∧ Ext Z.heap t.heap ∧ Fr Z.heap.size L ∧ (nw = true → first.WarmedH t.vm)) (C []) hf hl
    (fun m meth c A a Y hp => have hU : Z.Warmed39 A.U.vm := wtrans (s := s.setVm vm) a3 Y.warmed
      ⟨by show (Jvm.Cond.and _ .tt).before a A.U = true; rw [Cond.before_and, mv hU wc]; rfl, mv hU wc, mv hU wz, hp.2.2.1, hp.2.2.2⟩)
    (fun m meth c A a g mk Y hp => ⟨hp.1, wtrans (s := s.setVm vm) a3 Y.warmed, hp.2.1, (show CHr Z EL vm h A.U.vm h from CHv.at Y a3 a7 a5), a6, a7⟩) (fun _ _ _ _ _ _ _ _ _ => trivial)
    (fun _ _ _ _ ⟨v, L, h1, h2, h3, hE, h4, h5, h6⟩ => ⟨L, _, _, h5, rfl, rfl, ⟨v, h1, h2⟩, h3, hE, h4, h6⟩)
    (fun m meth c A a g mk v t L k n Y hp _ _ hE => ?_)
  obtain ⟨e1, e2, ⟨v', e3, e4⟩, e5, e5', e6, e7⟩ := hE
  cases e3; subst e1 e2
  refine ⟨L, e4, (CHv.at Y a3 a7 a5).trans e5, e5', e6, rfl, rfl, rfl, fun q => ?_⟩
  have w1 : s.WarmedH A.U.vm := State.WarmedH.trans (t := s.setVm vm) (a8 q) Y.warmed
  exact State.WarmedH.trans (t := A.U) w1 (e7 q)
/-- behind a call that a BackS pays -/
theorem Go.called {rm : Room} {Q : Option Value → Vm → Heap → Prop} {len pc' : Nat} {rest : List Value} (hp : pc + len = pc') (hk0 : k + rm.cells ≤ R.cells) (hn0 : n + rm.slots ≤ R.slots)
    (st : ∀ T locs cells slots, Stand p l e R (s.setVm vm) m args below meth c T locs cells slots → T.heap = h → p.tables.exec = Jvm.exec → c.code = code → c.maxLocals = ml → On nw s m Z a0 EL own vm h → cells + rm.cells ≤ R.cells → slots + rm.slots ≤ R.slots →
      ∃ (v : Option Value) (vm₁ : Vm) (B : Pt), (s.setVm vm).WarmedH vm₁ ∧ Stand p l e R ((s.setVm vm).setVm B.U.vm) m args below meth c B.U B.locs B.cells B.slots ∧ (s.setVm vm).Since B.U.vm B.U.heap.size ∧ T.heap.size ≤ B.U.heap.size ∧
        (∃ L, Q v B.U.vm B.U.heap ∧ CHr Z EL vm h B.U.vm B.U.heap ∧ Ext Z.heap B.U.heap ∧ Fr Z.heap.size L ∧ B.locs = locs ++ L ∧ B.cells = cells + rm.cells ∧ B.slots = slots + rm.slots ∧ (nw = true → s.WarmedH B.U.vm)) ∧
        Steps p.tables e below (T.setTop (mkF m pc L S)) (B.U.setTop { mkF m pc L S with pc := pc + len, stack := v.toList ++ rest }))
    (g : ∀ v vm' h', Q v vm' h' → CHr Z EL vm h vm' h' → Go nw p l e R s m args below meth c code ml nm ret Z a0 EL own P vm' h' (k + rm.cells) (n + rm.slots) pc' L (v.toList ++ rest)) : Go nw p l e R s m args below meth c code ml nm ret Z a0 EL own P vm h k n pc L S := by
  intro hx hc hm hl hnm hr hon T locs cells slots X hh hF hk hn
  obtain ⟨v, vm₁, B, -, X', hS, hg, ⟨L1, hQ, hC, hE, hFr, e1, e2, e3, hW⟩, st2⟩ := st T locs cells slots X hh hx hc hm hon (by omega) (by omega)
  obtain ⟨U, Ls, c1, s1⟩ := B
  dsimp only [Pt.U, Pt.locs, Pt.cells, Pt.slots] at X' hS hg hQ hC hE e1 e2 e3 hW st2
  subst e1 e2 e3 hp
  obtain ⟨⟨k0, a1, a2⟩, a3, a4, a5, a6, a7, a8⟩ := hon
  have hon' : On nw s m Z a0 EL own U.vm U.heap := ⟨⟨U.heap.size, a1.trans hS (Nat.le_trans a2 hC.2.1), Nat.le_refl _⟩, State.Warmed39.trans (t := s.setVm vm) a3 hS.1, (hS.1.alike.findClass _ _).trans a4, hC.1, hE, a7, hW⟩
  obtain ⟨s₂, v2, st3, r1, r2, r3, r4, r5⟩ := g v U.vm U.heap hQ hC hx hc hm hl hnm hr hon' U _ _ _ X' rfl (Fr.app hF hFr) (by omega) (by omega)
  exact ⟨s₂, v2, st2.trans st3, r1, r2, r3, hC.trans r4, r5⟩
theorem Go.invokestatic {idx : Nat} {y : MethodName} {code' : ByteArray} {ml' : Nat} {ret' : Option FieldType} {rm : Room} {Q : Option Value → Vm → Heap → Prop} {ps : List FieldType} {r : Option FieldType} {rest : List Value} (W : Nat) (argsL : List Value) (pc' : Nat) (hd : decode code pc = .ok (.invokestatic idx, 3)) (hp : pc + 3 = pc') (w1 : (Jvm.Cond.methodLink own idx y).before a0 Z = true) (w2 : (Jvm.Cond.static y).before a0 Z = true) (w3 : (Jvm.Cond.initialized y.cls).before a0 Z = true) (w4 : (Jvm.Cond.code y code' ml' ret').before a0 Z = true) (hy : y.cls ≠ "java/lang/invoke/MethodHandle" ∧ y.cls ≠ "java/lang/invoke/VarHandle")
    (C : Ctr nw l Z a0 EL y code' ml' ret' rm argsL.toArray vm h Q) (hdesc : parseMethodDescriptor y.desc = some ⟨ps, r⟩) (hlen : argsL.length = ps.length) (hst : S = argsL.reverse ++ rest) (hsz : L.size = ml) (hf : rm.frames + 1 ≤ R.frames) (hW : (rest.map fun v => v.category).sum ≤ W) (hl : W + (ml' + 11) + rm.locals ≤ R.locals) (hk0 : k + rm.cells ≤ R.cells) (hn0 : n + rm.slots ≤ R.slots)
    (g : ∀ v vm' h', Q v vm' h' → CHr Z EL vm h vm' h' → Go nw p l e R s m args below meth c code ml nm ret Z a0 EL own P vm' h' (k + rm.cells) (n + rm.slots) pc' L (v.toList ++ rest)) : Go nw p l e R s m args below meth c code ml nm ret Z a0 EL own P vm h k n pc L S := by
  refine Go.called (rm := rm) (Q := Q) (rest := rest) hp hk0 hn0 (fun T locs cells slots X hh hx hc hm hon q1 q2 => ?_) g
  exact callSS X hx hon.2.2.1 (mvT (s := s.setVm vm) hon.2.1 w1) (mvT (s := s.setVm vm) hon.2.1 w2) (mvT (s := s.setVm vm) hon.2.1 w3) (mvT (s := s.setVm vm) hon.2.1 w4) hy (C.back hon w4 w3 hf hl) (g := mkF m pc L S) rfl (hsz.trans hm.symm) (argsL := argsL) (rest := rest) (lenOf hdesc hlen) hst (by show 2 * 0 + _ ≤ _; omega) (hb hc hd) (fun _ _ => ⟨rfl, hh, q1, q2⟩)
theorem Go.invokespecial {idx : Nat} {y : MethodName} {code' : ByteArray} {ml' : Nat} {rm : Room} {Q : Option Value → Vm → Heap → Prop} {ps : List FieldType} {r : Option FieldType} {rest : List Value} (W : Nat) (a : Addr) (argsL : List Value) (pc' : Nat) (hd : decode code pc = .ok (.invokespecial idx, 3)) (hp : pc + 3 = pc') (hy1 : y.name = "<init>") (w1 : (Jvm.Cond.methodLink own idx y).before a0 Z = true) (w2 : (Jvm.Cond.instanceMethod y).before a0 Z = true) (w3 : (Jvm.Cond.initialized y.cls).before a0 Z = true) (w4 : (Jvm.Cond.code y code' ml' none).before a0 Z = true) (hy : y.cls ≠ "java/lang/invoke/MethodHandle" ∧ y.cls ≠ "java/lang/invoke/VarHandle")
    (C : Ctr nw l Z a0 EL y code' ml' none rm (.ref a :: argsL).toArray vm h Q) (hdesc : parseMethodDescriptor y.desc = some ⟨ps, r⟩) (hlen : argsL.length = ps.length) (hst : S = argsL.reverse ++ .ref a :: rest) (hsz : L.size = ml) (hf : rm.frames + 1 ≤ R.frames) (hW : (rest.map fun v => v.category).sum ≤ W) (hl : W + (ml' + 11) + rm.locals ≤ R.locals) (hk0 : k + rm.cells ≤ R.cells) (hn0 : n + rm.slots ≤ R.slots)
    (g : ∀ v vm' h', Q v vm' h' → CHr Z EL vm h vm' h' → Go nw p l e R s m args below meth c code ml nm ret Z a0 EL own P vm' h' (k + rm.cells) (n + rm.slots) pc' L (v.toList ++ rest)) : Go nw p l e R s m args below meth c code ml nm ret Z a0 EL own P vm h k n pc L S := by
  refine Go.called (rm := rm) (Q := Q) (rest := rest) hp hk0 hn0 (fun T locs cells slots X hh hx hc hm hon q1 q2 => ?_) g
  exact X.specialBackS hx hy1 hon.2.2.1 (mvT (s := s.setVm vm) hon.2.1 w1) (mvT (s := s.setVm vm) hon.2.1 w2) (mvT (s := s.setVm vm) hon.2.1 w4) hy (C.back hon w4 w3 hf hl) (g := mkF m pc L S) rfl (hsz.trans hm.symm) (Steps.refl _) (a := a) (argsL := argsL) (rest := rest) (lenOf hdesc hlen) hst (by show 2 * 0 + _ ≤ _; omega) (hb hc hd) (fun _ _ => ⟨rfl, hh, q1, q2⟩)
theorem Go.invokevirtual {idx : Nat} {y : MethodName} {code' : ByteArray} {ml' : Nat} {ret' : Option FieldType} {rm : Room} {Q : Option Value → Vm → Heap → Prop} {ps : List FieldType} {r : Option FieldType} {rest : List Value} {x : MethodName} {cls : String} (W : Nat) (a : Addr) (argsL : List Value) (pc' : Nat) (hd : decode code pc = .ok (.invokevirtual idx, 3)) (hp : pc + 3 = pc') (E : Exa Z h a cls) (w1 : (Jvm.Cond.methodLink own idx x).before a0 Z = true) (w2 : (Jvm.Cond.declares x).before a0 Z = true) (nf : ∀ s : State, Z.Warmed39 s.vm → NotFace s x) (ws : (Jvm.Cond.selects cls x y).before a0 Z = true) (wi : (Jvm.Cond.instanceMethod y).before a0 Z = true) (w3 : (Jvm.Cond.initialized y.cls).before a0 Z = true) (w4 : (Jvm.Cond.code y code' ml' ret').before a0 Z = true)
    (hy : x.cls ≠ "java/lang/invoke/MethodHandle" ∧ x.cls ≠ "java/lang/invoke/VarHandle") (C : Ctr nw l Z a0 EL y code' ml' ret' rm (.ref a :: argsL).toArray vm h Q) (hdesc : parseMethodDescriptor x.desc = some ⟨ps, r⟩) (hlen : argsL.length = ps.length) (hst : S = argsL.reverse ++ .ref a :: rest) (hsz : L.size = ml) (hf : rm.frames + 1 ≤ R.frames) (hW : (rest.map fun v => v.category).sum ≤ W) (hl : W + (ml' + 11) + rm.locals ≤ R.locals) (hk0 : k + rm.cells ≤ R.cells) (hn0 : n + rm.slots ≤ R.slots)
    (g : ∀ v vm' h', Q v vm' h' → CHr Z EL vm h vm' h' → Go nw p l e R s m args below meth c code ml nm ret Z a0 EL own P vm' h' (k + rm.cells) (n + rm.slots) pc' L (v.toList ++ rest)) : Go nw p l e R s m args below meth c code ml nm ret Z a0 EL own P vm h k n pc L S := by
  refine Go.called (rm := rm) (Q := Q) (rest := rest) hp hk0 hn0 (fun T locs cells slots X hh hx hc hm hon q1 q2 => ?_) g
  obtain ⟨cB, kB, b1, b2, b3⟩ := isOf (s := s.setVm vm) hon.2.1 hh E
  exact X.virtualBackS hx hon.2.2.1 (mvT (s := s.setVm vm) hon.2.1 w1) (mvT (s := s.setVm vm) hon.2.1 w2) (nf (s.setVm vm) hon.2.1) (mvT (s := s.setVm vm) hon.2.1 ws) (mvT (s := s.setVm vm) hon.2.1 wi) hy (C.back hon w4 w3 hf hl) b1 b3 (g := mkF m pc L S) rfl (hsz.trans hm.symm) (Steps.refl _) (argsL := argsL) (rest := rest) (lenOf hdesc hlen) hst (by show 2 * 0 + _ ≤ _; omega) (hb hc hd) (fun _ _ => ⟨rfl, hh, q1, q2⟩)
theorem On.keep {ws : List Addr} (hon : On nw s m Z a0 EL own vm h) (K : Keep h h' ws) (hs : ∀ x ∈ ws, Safe Z EL vm h x) (hz : ∀ x ∈ ws, Z.heap.size ≤ x) : On nw s m Z a0 EL own vm h' := by
  obtain ⟨⟨k0, a1, a2⟩, a3, a4, a5, a6, a7, a8⟩ := hon
  exact ⟨⟨k0, a1, Nat.le_trans a2 K.1⟩, a3, a4, a5.keep K hs, (Old.keep (Z := Z) ⟨rfl, a6⟩ K hz).2, a7, a8⟩
/-- behind a call that a Back pays: the tables' base as it was -/
theorem Go.calledB {Q : Option Value → Heap → List Loc → Prop} {dk dn len pc' : Nat} {rest : List Value} (hp : pc + len = pc') (hk0 : k + dk ≤ R.cells) (hn0 : n + dn ≤ R.slots)
    (st : ∀ T locs cells slots, Stand p l e R (s.setVm vm) m args below meth c T locs cells slots → T.heap = h → p.tables.exec = Jvm.exec → c.code = code → c.maxLocals = ml → On nw s m Z a0 EL own vm h → cells + dk ≤ R.cells → slots + dn ≤ R.slots →
      ∃ (v : Option Value) (vm₁ : Vm) (B : Pt), (s.setVm vm).WarmedH vm₁ ∧ Stand p l e R (s.setVm vm) m args below meth c B.U B.locs B.cells B.slots ∧ (∃ L, Q v B.U.heap L ∧ B.locs = locs ++ L ∧ B.cells = cells + dk ∧ B.slots = slots + dn) ∧
        Steps p.tables e below (T.setTop (mkF m pc L S)) (B.U.setTop { mkF m pc L S with pc := pc + len, stack := v.toList ++ rest }))
    (hQ : ∀ v h' lc, Q v h' lc → Fr Z.heap.size lc ∧ ∃ ws, Keep h h' ws ∧ (∀ x ∈ ws, Safe Z EL vm h x) ∧ ∀ x ∈ ws, Z.heap.size ≤ x)
    (g : ∀ v h' lc, Q v h' lc → CHr Z EL vm h vm h' → Go nw p l e R s m args below meth c code ml nm ret Z a0 EL own P vm h' (k + dk) (n + dn) pc' L (v.toList ++ rest)) : Go nw p l e R s m args below meth c code ml nm ret Z a0 EL own P vm h k n pc L S := by
  intro hx hc hm hl hnm hr hon T locs cells slots X hh hF hk hn
  obtain ⟨v, vm₁, B, -, X', ⟨L1, hq, e1, e2, e3⟩, st2⟩ := st T locs cells slots X hh hx hc hm hon (by omega) (by omega)
  obtain ⟨U, Ls, c1, s1⟩ := B
  dsimp only [Pt.U, Pt.locs, Pt.cells, Pt.slots] at X' hq e1 e2 e3 st2
  subst e1 e2 e3 hp
  obtain ⟨hFr, ws, K, hs, hz⟩ := hQ _ _ _ hq
  have ch : CHr Z EL vm h vm U.heap := CHr.keep K hs hon.2.2.2.1
  obtain ⟨s₂, v2, st3, r1, r2, r3, r4, r5⟩ := g v U.heap L1 hq ch hx hc hm hl hnm hr (hon.keep K hs hz) U _ _ _ X' rfl (Fr.app hF hFr) (by omega) (by omega)
  exact ⟨s₂, v2, st2.trans st3, r1, r2, r3, ch.trans r4, r5⟩
theorem Go.virtB {idx : Nat} {x y : MethodName} {cls : String} {Q : Option Value → Heap → List Loc → Prop} {dk dn : Nat} {ps : List FieldType} {r : Option FieldType} {rest : List Value} (W : Nat) (a : Addr) (argsL : List Value) (pc' : Nat) (hd : decode code pc = .ok (.invokevirtual idx, 3)) (hp : pc + 3 = pc') (E : Exa Z h a cls)
    (w1 : (Jvm.Cond.methodLink own idx x).before a0 Z = true) (w2 : (Jvm.Cond.declares x).before a0 Z = true) (nf : ∀ s : State, Z.Warmed39 s.vm → NotFace s x) (ws : (Jvm.Cond.selects cls x y).before a0 Z = true) (wi : (Jvm.Cond.instanceMethod y).before a0 Z = true) (hy : x.cls ≠ "java/lang/invoke/MethodHandle" ∧ x.cls ≠ "java/lang/invoke/VarHandle")
    (B : Z.Warmed39 (s.setVm vm).vm → Ext Z.heap h → Back l R p e below (s.setVm vm) args y 3 W (fun A as => as = (.ref a :: argsL).toArray ∧ A.U.heap = h ∧ A.cells + dk ≤ R.cells ∧ A.slots + dn ≤ R.slots) (fun A _ v B => ∃ L, Q v B.U.heap L ∧ B.locs = A.locs ++ L ∧ B.cells = A.cells + dk ∧ B.slots = A.slots + dn))
    (hdesc : parseMethodDescriptor x.desc = some ⟨ps, r⟩) (hlen : argsL.length = ps.length) (hst : S = argsL.reverse ++ .ref a :: rest) (hsz : L.size = ml) (hW : (rest.map fun v => v.category).sum ≤ W) (hk0 : k + dk ≤ R.cells) (hn0 : n + dn ≤ R.slots)
    (hQ : ∀ v h' lc, Q v h' lc → Fr Z.heap.size lc ∧ ∃ ws, Keep h h' ws ∧ (∀ x ∈ ws, Safe Z EL vm h x) ∧ ∀ x ∈ ws, Z.heap.size ≤ x) (g : ∀ v h' lc, Q v h' lc → CHr Z EL vm h vm h' → Go nw p l e R s m args below meth c code ml nm ret Z a0 EL own P vm h' (k + dk) (n + dn) pc' L (v.toList ++ rest)) : Go nw p l e R s m args below meth c code ml nm ret Z a0 EL own P vm h k n pc L S := by
  refine Go.calledB (rest := rest) hp hk0 hn0 (fun T locs cells slots X hh hx hc hm hon q1 q2 => ?_) hQ g
  obtain ⟨cB, kB, b1, b2, b3⟩ := isOf (s := s.setVm vm) hon.2.1 hh E
  exact X.virtualBack hx hon.2.2.1 (mvT (s := s.setVm vm) hon.2.1 w1) (mvT (s := s.setVm vm) hon.2.1 w2) (nf (s.setVm vm) hon.2.1) (mvT (s := s.setVm vm) hon.2.1 ws) (mvT (s := s.setVm vm) hon.2.1 wi) hy (B hon.2.1 hon.2.2.2.2.1) b1 b3 (g := mkF m pc L S) rfl (hsz.trans hm.symm) (Steps.refl _) (argsL := argsL) (rest := rest) (lenOf hdesc hlen) hst (by show 2 * 0 + _ ≤ _; omega) (hb hc hd) (fun _ _ => ⟨rfl, hh, q1, q2⟩)
theorem Go.specB {idx : Nat} {y : MethodName} {code' : ByteArray} {ml' : Nat} {Q : Option Value → Heap → List Loc → Prop} {dk dn : Nat} {ps : List FieldType} {r : Option FieldType} {rest : List Value} (W : Nat) (a : Addr) (argsL : List Value) (pc' : Nat) (hd : decode code pc = .ok (.invokespecial idx, 3)) (hp : pc + 3 = pc') (hy1 : y.name = "<init>")
    (w1 : (Jvm.Cond.methodLink own idx y).before a0 Z = true) (w2 : (Jvm.Cond.instanceMethod y).before a0 Z = true) (w4 : (Jvm.Cond.code y code' ml' none).before a0 Z = true) (hy : y.cls ≠ "java/lang/invoke/MethodHandle" ∧ y.cls ≠ "java/lang/invoke/VarHandle")
    (B : Z.Warmed39 (s.setVm vm).vm → Ext Z.heap h → Back l R p e below (s.setVm vm) args y 3 W (fun A as => as = (.ref a :: argsL).toArray ∧ A.U.heap = h ∧ A.cells + dk ≤ R.cells ∧ A.slots + dn ≤ R.slots) (fun A _ v B => ∃ L, Q v B.U.heap L ∧ B.locs = A.locs ++ L ∧ B.cells = A.cells + dk ∧ B.slots = A.slots + dn))
    (hdesc : parseMethodDescriptor y.desc = some ⟨ps, r⟩) (hlen : argsL.length = ps.length) (hst : S = argsL.reverse ++ .ref a :: rest) (hsz : L.size = ml) (hW : (rest.map fun v => v.category).sum ≤ W) (hk0 : k + dk ≤ R.cells) (hn0 : n + dn ≤ R.slots)
    (hQ : ∀ v h' lc, Q v h' lc → Fr Z.heap.size lc ∧ ∃ ws, Keep h h' ws ∧ (∀ x ∈ ws, Safe Z EL vm h x) ∧ ∀ x ∈ ws, Z.heap.size ≤ x) (g : ∀ v h' lc, Q v h' lc → CHr Z EL vm h vm h' → Go nw p l e R s m args below meth c code ml nm ret Z a0 EL own P vm h' (k + dk) (n + dn) pc' L (v.toList ++ rest)) : Go nw p l e R s m args below meth c code ml nm ret Z a0 EL own P vm h k n pc L S := by
  refine Go.calledB (rest := rest) hp hk0 hn0 (fun T locs cells slots X hh hx hc hm hon q1 q2 => ?_) hQ g
  exact X.specialBack hx hy1 hon.2.2.1 (mvT (s := s.setVm vm) hon.2.1 w1) (mvT (s := s.setVm vm) hon.2.1 w2) (mvT (s := s.setVm vm) hon.2.1 w4) hy (B hon.2.1 hon.2.2.2.2.1) (g := mkF m pc L S) rfl (hsz.trans hm.symm) (Steps.refl _) (a := a) (argsL := argsL) (rest := rest) (lenOf hdesc hlen) hst (by show 2 * 0 + _ ≤ _; omega) (hb hc hd) (fun _ _ => ⟨rfl, hh, q1, q2⟩)
/-- ldc of a String constant that EL lists, its text read -/
theorem Go.ldcS {idx : Nat} {text : String} {vs : List Value} {z : Int32} (cap : Nat) (pc' : Nat) (hd : decode code pc = .ok (.ldc idx, 2)) (hp : pc + 2 = pc') (hnw : nw = false) (w : (Jvm.Cond.stringLink own idx text).before a0 Z = true) (wS : ∀ a ∈ Bundle.stringAtoms, a.before a0 Z = true) (hmem : (own, idx) ∈ EL)
    (ht : (∀ c ∈ text.toList, c.toNat < 256) ∧ text.toList.map (fun c => Value.int (Jvm.Lit.byteI c.toNat.toUInt16)) = vs) (hz : ¬ z < 0) (hl : z.toNatClampNeg = vs.length) (hcap : 4 * text.toList.length ≤ cap) (hbig : cap ≤ 536870912) (hk0 : k + 2 ≤ R.cells) (hn0 : n + (cap + 4) ≤ R.slots)
    (g : ∀ (a b : Addr) (kb : ClassId) (vm' : Vm) (h' : Heap), Ext h h' → Exa Z h' a "java/lang/String" → Fld Z h' a "java/lang/String" "coder" "B" (.int 0) → Fld Z h' a "java/lang/String" "value" "[B" (.ref b) → Arv Z h' b kb .byte z vs (.int 0) → (∀ x, Safe Z EL vm' h' x → x ≠ a ∧ x ≠ b) → CHr Z EL vm h vm' h' → Go nw p l e R s m args below meth c code ml nm ret Z a0 EL own P vm' h' (k + 2) (n + (cap + 4)) pc' L (.ref a :: S)) : Go nw p l e R s m args below meth c code ml nm ret Z a0 EL own P vm h k n pc L S := by
  subst hp
  intro hx hc hm hl' hnm hr hon T locs cells slots X hh hF hk hn
  obtain ⟨⟨k0, a1, a2⟩, a3, a4, a5, a6, a7, a8⟩ := hon
  obtain ⟨a, T', h', k1, b, kb, X', e', E, hS, hk1, hZ', hf', A, C1, V1, K1, -, -, ch, -, hne, st⟩ := ldcCH X hx a3 a4 w wS hh a1 a2 a7 hmem a5 ht hz hl (g := mkF m pc L S) rfl (hb hc hd) hcap hbig (by omega) (by omega)
  have hon' : On nw s m Z a0 EL own T'.vm h' := ⟨⟨k1, hS, hk1⟩, hZ', hf', ch.1, ⟨Nat.le_trans a6.1 E.1, fun a c q => E.2 _ _ (a6.2 _ _ q)⟩, a7, fun q => by rw [hnw] at q; cases q⟩
  obtain ⟨s₂, v2, st3, r1, r2, r3, r4, r5⟩ := g a b kb T'.vm h' E A C1 V1 K1 hne ch hx hc hm hl' hnm hr hon' T' _ _ _ X' e' hF (by omega) (by omega)
  exact ⟨s₂, v2, st _ st3, r1, r2, r3, ch.trans r4, r5⟩
theorem Go.castY {K : String} {idx : Nat} {a : Addr} (pc' : Nat) (hd : decode code pc = .ok (.checkcast idx, 3)) (hp : pc + 3 = pc') (w : (Jvm.Cond.classLink own idx K).before a0 Z = true) (F : Ins Z h a K true) (g : Go nw p l e R s m args below meth c code ml nm ret Z a0 EL own P vm h k n pc' L (.ref a :: S)) : Go nw p l e R s m args below meth c code ml nm ret Z a0 EL own P vm h k n pc L (.ref a :: S) := by
  subst hp
  exact g.note fun T locs cells slots X hh hx hc hm hon => RoadKit.castY X hx hon.2.1 hon.2.2.1 w hh F (g := mkF m pc L (.ref a :: S)) rfl rfl (hb hc hd)
theorem Go.instY {K : String} {idx : Nat} {a : Addr} (pc' : Nat) (hd : decode code pc = .ok (.instanceof idx, 3)) (hp : pc + 3 = pc') (w : (Jvm.Cond.classLink own idx K).before a0 Z = true) (F : Ins Z h a K true) (g : Go nw p l e R s m args below meth c code ml nm ret Z a0 EL own P vm h k n pc' L (.int 1 :: S)) : Go nw p l e R s m args below meth c code ml nm ret Z a0 EL own P vm h k n pc L (.ref a :: S) := by
  subst hp
  exact g.note fun T locs cells slots X hh hx hc hm hon => RoadKit.instY X hx hon.2.1 hon.2.2.1 w hh F (g := mkF m pc L (.ref a :: S)) rfl rfl (hb hc hd)
theorem Go.instN {K C : String} {idx : Nat} {a : Addr} (pc' : Nat) (hd : decode code pc = .ok (.instanceof idx, 3)) (hp : pc + 3 = pc') (w : (Jvm.Cond.classLink own idx K).before a0 Z = true) (E : Exa Z h a C) (F : ∃ c t, Z.vm.findClass C = some c ∧ Z.vm.findClass K = some t ∧ Z.vm.assignable c t = false) (g : Go nw p l e R s m args below meth c code ml nm ret Z a0 EL own P vm h k n pc' L (.int 0 :: S)) : Go nw p l e R s m args below meth c code ml nm ret Z a0 EL own P vm h k n pc L (.ref a :: S) := by
  subst hp
  exact g.note fun T locs cells slots X hh hx hc hm hon => instNo X hx hon.2.1 hon.2.2.1 w hh E F (g := mkF m pc L (.ref a :: S)) rfl rfl (hb hc hd)
theorem Go.ldc2_w {idx : Nat} {v : Int64} (w : (Jvm.Cond.constantLong own idx v).before a0 Z = true) (pc' : Nat) (hd : decode code pc = .ok (.ldc2_w idx, 3)) (hp : pc + 3 = pc') (g : Go nw p l e R s m args below meth c code ml nm ret Z a0 EL own P vm h k n pc' L (.long v :: S)) : Go nw p l e R s m args below meth c code ml nm ret Z a0 EL own P vm h k n pc L S := by
  subst hp
  exact g.note fun T locs cells slots X hh hx hc hm hon => ⟨T, X, hh, fun target q => ldc2J X hx hon.2.2.1 (mvT (s := s.setVm vm) hon.2.1 w) (g := mkF m pc L S) rfl (hb hc hd) q⟩
theorem Go.instNull {idx : Nat} (pc' : Nat) (hd : decode code pc = .ok (.instanceof idx, 3)) (hp : pc + 3 = pc') (g : Go nw p l e R s m args below meth c code ml nm ret Z a0 EL own P vm h k n pc' L (.int 0 :: S)) : Go nw p l e R s m args below meth c code ml nm ret Z a0 EL own P vm h k n pc L (.null :: S) := by
  subst hp
  exact g.note fun T locs cells slots X hh hx hc hm hon => ⟨T, X, hh, instanceofNull X hx (g := mkF m pc L (.null :: S)) rfl rfl (hb hc hd)⟩
theorem Go.anewarray {C : String} {idx : Nat} {z : Int32} (cap : Nat) (pc' : Nat) (hd : decode code pc = .ok (.anewarray idx, 3)) (hp : pc + 3 = pc') (w1 : (Jvm.Cond.classLink own idx C).before a0 Z = true) (w2 : (Jvm.Cond.arrayOver (.object C)).before a0 Z = true) (hz : ¬ z < 0) (hcap : z.toNatClampNeg ≤ cap) (hb8 : cap * 8 ≤ 536870912) (hk0 : k + 1 ≤ R.cells) (hn0 : n + cap ≤ R.slots)
    (g : ∀ a h', a = h.size → Ext h h' → (∃ cA, Arv Z h' a cA (.object C) z [] .null ∧ Ovr Z cA C) → Safe Z EL vm h' a → Z.heap.size ≤ a → CHr Z EL vm h vm h' → Go nw p l e R s m args below meth c code ml nm ret Z a0 EL own P vm h' (k + 1) (n + cap) pc' L (.ref a :: S)) : Go nw p l e R s m args below meth c code ml nm ret Z a0 EL own P vm h k n pc L (.int z :: S) := by
  subst hp
  refine Go.made (dk := 1) (dn := cap) (S' := fun a => .ref a :: S) (F := fun h' a => ∃ cA, Arv Z h' a cA (.object C) z [] .null ∧ Ovr Z cA C) hk0 hn0 (fun T locs cells slots X hh hx hc hm hon q1 q2 => ?_) g
  obtain ⟨T', h', cA, X', e', E, A, O, st⟩ := newR X hx hon.2.1 hon.2.2.1 w1 w2 hh (g := mkF m pc L (.int z :: S)) rfl (hb hc hd) rfl hz hcap hb8 q1 q2
  exact ⟨T', h', X', e', E, ⟨cA, Arv.new A hz, O⟩, st⟩
theorem Go.aastore {a y : Addr} {kA : ClassId} {C : String} {z j : Int32} {vs : List Value} {dv : Value} (i : Nat) (vs' : List Value) (pc' : Nat) (hd : decode code pc = .ok (.aastore, 1)) (hp : pc + 1 = pc') (A : Arv Z h a kA (.object C) z vs dv) (O : Ovr Z kA C) (I : Ins Z h y C true) (hj : ¬ j < 0 ∧ j < z) (hi : j.toNatClampNeg = i) (hl : i < vs.length) (hvs : vs.set i (.ref y) = vs') (Sa : Safe Z EL vm h a) (hz : Z.heap.size ≤ a)
    (g : ∀ h', Keep h h' [a] → Arv Z h' a kA (.object C) z vs' dv → Safe Z EL vm h' a → CHr Z EL vm h vm h' → Go nw p l e R s m args below meth c code ml nm ret Z a0 EL own P vm h' k n pc' L S) : Go nw p l e R s m args below meth c code ml nm ret Z a0 EL own P vm h k n pc L (.ref y :: .int j :: .ref a :: S) := by
  subst hp hvs
  obtain ⟨cl, A1, A2, A3, A4, A5, A6⟩ := A
  have hin := inb_of A3 hj
  refine Go.wrote Sa hz (sl := j.toNatClampNeg) (w := .ref y) (fun T locs cells slots X hh hx hc hm hnm hon => ?_) (fun h' W s2 ch => g h' (Keep.of_wr W) (Arv.set A1 A2 A3 A4 A5 A6 rfl W i hi hl) s2 ch)
  exact stR X hx hon.2.1 hh A1 hin rfl (Sto.ofV A1 A2 O I) (g := mkF m pc L (.ref y :: .int j :: .ref a :: S)) rfl rfl (hb hc hd)
theorem Go.invokeinterface {idx : Nat} {y : MethodName} {code' : ByteArray} {ml' : Nat} {ret' : Option FieldType} {rm : Room} {Q : Option Value → Vm → Heap → Prop} {ps : List FieldType} {r : Option FieldType} {rest : List Value} {xi : MethodName} {cls : String} {cnt : Nat} (W : Nat) (a : Addr) (argsL : List Value) (pc' : Nat) (hd : decode code pc = .ok (.invokeinterface idx cnt, 5)) (hp : pc + 5 = pc') (E : Exa Z h a cls) (w1 : (Jvm.Cond.methodLink own idx xi).before a0 Z = true) (w2 : (Jvm.Cond.declares xi).before a0 Z = true) (wf : ∀ s' : State, Z.Warmed39 s'.vm → (Jvm.Cond.interfaceMethod xi.cls xi.cls xi.name xi.desc).before args s' = true) (ws : (Jvm.Cond.selects cls xi y).before a0 Z = true) (wi : (Jvm.Cond.instanceMethod y).before a0 Z = true) (wp : (Jvm.Cond.publicMethod y).before a0 Z = true) (wu : (Jvm.Cond.unhidden cls xi.name xi.desc).before a0 Z = true) (wc : (Jvm.Cond.castable cls xi.cls).before a0 Z = true) (w3 : (Jvm.Cond.initialized y.cls).before a0 Z = true) (w4 : (Jvm.Cond.code y code' ml' ret').before a0 Z = true)
    (hy : xi.cls ≠ "java/lang/invoke/MethodHandle" ∧ xi.cls ≠ "java/lang/invoke/VarHandle") (C : Ctr nw l Z a0 EL y code' ml' ret' rm (.ref a :: argsL).toArray vm h Q) (hdesc : parseMethodDescriptor xi.desc = some ⟨ps, r⟩) (hlen : argsL.length = ps.length) (hst : S = argsL.reverse ++ .ref a :: rest) (hsz : L.size = ml) (hf : rm.frames + 1 ≤ R.frames) (hW : (rest.map fun v => v.category).sum ≤ W) (hl : W + (ml' + 11) + rm.locals ≤ R.locals) (hk0 : k + rm.cells ≤ R.cells) (hn0 : n + rm.slots ≤ R.slots)
    (g : ∀ v vm' h', Q v vm' h' → CHr Z EL vm h vm' h' → Go nw p l e R s m args below meth c code ml nm ret Z a0 EL own P vm' h' (k + rm.cells) (n + rm.slots) pc' L (v.toList ++ rest)) : Go nw p l e R s m args below meth c code ml nm ret Z a0 EL own P vm h k n pc L S := by
  refine Go.called (rm := rm) (Q := Q) (rest := rest) hp hk0 hn0 (fun T locs cells slots X hh hx hc hm hon q1 q2 => ?_) g
  obtain ⟨cB, kB, b1, b2, b3⟩ := isOf (s := s.setVm vm) hon.2.1 hh E
  exact X.interfaceBackS hx hon.2.2.1 (mvT (s := s.setVm vm) hon.2.1 w1) (mvT (s := s.setVm vm) hon.2.1 w2) (wf (s.setVm vm) hon.2.1) (mvT (s := s.setVm vm) hon.2.1 ws) (mvT (s := s.setVm vm) hon.2.1 wi) (mvT (s := s.setVm vm) hon.2.1 wp) (mvT (s := s.setVm vm) hon.2.1 wu) (mvT (s := s.setVm vm) hon.2.1 wc) hy (C.back hon w4 w3 hf hl) b1 b2 b3 (g := mkF m pc L S) rfl (hsz.trans hm.symm) (Steps.refl _) (argsL := argsL) (rest := rest) (lenOf hdesc hlen) hst (by show 2 * 0 + _ ≤ _; omega) (hb hc hd) (fun _ _ => ⟨rfl, hh, q1, q2⟩)
theorem Go.ldcI {idx : Nat} {v : Int32} (w : (Jvm.Cond.constant own idx v).before a0 Z = true) (pc' : Nat) (hd : decode code pc = .ok (.ldc idx, 2)) (hp : pc + 2 = pc') (g : Go nw p l e R s m args below meth c code ml nm ret Z a0 EL own P vm h k n pc' L (.int v :: S)) : Go nw p l e R s m args below meth c code ml nm ret Z a0 EL own P vm h k n pc L S := by
  subst hp
  exact g.note fun T locs cells slots X hh hx hc hm hon => ⟨T, X, hh, fun target q => Jvm.Stand.ldcI X hx hon.2.2.1 (mvT (s := s.setVm vm) hon.2.1 w) (g := mkF m pc L S) rfl (hb hc hd) q⟩
end Core
end Jvm.Own

namespace Jvm.Own
open Sem ClassFile Op Lib Bundle Jvm.Stand Jvm.Free Jvm.LawKit Jvm.RoadKit
section Facts
variable {Z : State} {a0 : Array Value} {EL : List (String × Nat)} {vm vm' : Vm} {h h' h0 h1 h2 : Heap} {a b x : Addr} {cs ds : List Int32} {ws : List Addr} {C : String} {n : Nat}
theorem Ext.rfl' (h : Heap) : Ext h h := ⟨Nat.le_refl _, fun _ _ q => q⟩
theorem Ext.tr (E : Ext h h1) (F : Ext h1 h2) : Ext h h2 := ⟨Nat.le_trans E.1 F.1, fun a c q => F.2 _ _ (E.2 _ _ q)⟩
/-- only new cells written: from the old heap's side nothing has changed -/
theorem Ext.kp (E : Ext h h1) (K : Keep h1 h2 ws) (q : ∀ x ∈ ws, h.size ≤ x) : Ext h h2 :=
  ⟨Nat.le_trans E.1 K.1, fun a c r => K.2.1 a c (E.2 _ _ r) fun z => absurd (Array.getElem?_eq_some_iff.mp r).1 (Nat.not_lt.mpr (q a z))⟩
theorem Ext.kp1 (E : Ext h h1) (K : Keep h1 h2 [x]) (e : x = h.size) : Ext h h2 := Ext.kp E K fun y hy => by cases List.mem_singleton.mp hy; exact Nat.le_of_eq e.symm
theorem Ext.kq1 (E : Ext h h1) (K : Keep h1 h2 [x]) (e : h.size ≤ x) : Ext h h2 := Ext.kp E K fun y hy => by cases List.mem_singleton.mp hy; exact e
theorem Ext.wr1 {sl : Nat} {v : Value} (E : Ext h h1) (W : Wr h1 h2 x sl v) (e : h.size ≤ x) : Ext h h2 := Ext.kq1 E (Keep.of_wr W) e
theorem Keep.ofExt (E : Ext h h') (ws : List Addr) : Keep h h' ws := (Keep.refl h ws).ext E
theorem Keep.e0 (K : Keep h h' []) : Ext h h' := ⟨K.1, fun a c q => K.2.1 a c q nin0⟩
theorem ne_of_new (q : a < h.size) (r : h.size ≤ b) : a ≠ b := Nat.ne_of_lt (Nat.lt_of_lt_of_le q r)
/-- a Latin-1 String of these chars -/
def Str (Z : State) (h : Heap) (a : Addr) (cs : List Int32) : Prop :=
  ∃ (b : Addr) (kb : ClassId), Exa Z h a "java/lang/String" ∧ Fld Z h a "java/lang/String" "coder" "B" (.int 0) ∧ Fld Z h a "java/lang/String" "value" "[B" (.ref b) ∧
    Arv Z h b kb .byte (Int32.ofNat cs.length) ((cs.map fun c => c.toInt8.toInt32).map Value.int) (.int 0) ∧ cs.length ≤ 4000 ∧ ∀ c ∈ cs, ¬ c < 0 ∧ ¬ (255 : Int32) < c
theorem Str.ext (S : Str Z h a cs) (E : Ext h h') : Str Z h' a cs := by
  obtain ⟨b, kb, s1, s2, s3, s4, s5⟩ := S
  exact ⟨b, kb, s1.ext E, s2.ext E, s3.ext E, s4.ext E, s5⟩
theorem Str.exa (S : Str Z h a cs) : Exa Z h a "java/lang/String" := by obtain ⟨b, kb, s1, -⟩ := S; exact s1
theorem Str.lt (S : Str Z h a cs) : a < h.size := S.exa.lt
/-- an object of another class is written -/
theorem Str.keepE (S : Str Z h a cs) (K : Keep h h' [x]) (E : Exa Z h x C) (hC : C ≠ "java/lang/String") (wi : (Jvm.Cond.instantiable C n).before a0 Z = true) : Str Z h' a cs := by
  obtain ⟨b, kb, s1, s2, s3, s4, s5⟩ := S
  have n1 : a ∉ [x] := ninS (fun q => (Exa.ne E s1 hC) q.symm) nin0
  have n2 : b ∉ [x] := ninS (fun q => (Exa.neArv E s4 wi) q.symm) nin0
  exact ⟨b, kb, s1.keep K, s2.keep K n1, s3.keep K n1, s4.keep K n2, s5⟩
theorem Str.wrE {sl : Nat} {v : Value} (S : Str Z h a cs) (W : Wr h h' x sl v) (E : Exa Z h x C) (hC : C ≠ "java/lang/String") (wi : (Jvm.Cond.instantiable C n).before a0 Z = true) : Str Z h' a cs := S.keepE (Keep.of_wr W) E hC wi
/-- an array of another kind is written -/
theorem Str.keepA {k : ClassId} {ty : FieldType} {z : Int32} {vs : List Value} {dv : Value} {nI : Nat} (S : Str Z h a cs) (K : Keep h h' [x]) (A : Arv Z h x k ty z vs dv) (ht : ty ≠ .byte) (wi : (Jvm.Cond.instantiable "java/lang/String" nI).before a0 Z = true) : Str Z h' a cs := by
  obtain ⟨b, kb, s1, s2, s3, s4, s5⟩ := S
  have n1 : a ∉ [x] := ninS (Exa.neArv s1 A wi) nin0
  have n2 : b ∉ [x] := ninS (fun q => by
    subst q
    obtain ⟨c1, ⟨e1, ⟨-, k1, f1, p1, g1⟩, -⟩, -⟩ := s4
    obtain ⟨c2, ⟨e2, ⟨-, k2, f2, p2, g2⟩, -⟩, -⟩ := A
    cases e1.symm.trans e2
    cases f1.symm.trans f2
    rw [g1] at g2
    cases g2
    exact ht rfl) nin0
  exact ⟨b, kb, s1.keep K, s2.keep K n1, s3.keep K n1, s4.keep K n2, s5⟩
theorem Exa.insOf (E : Exa Z h a C) : Ins Z h a C true := Ins.self E
theorem i2c255 (x : Int32) : (x &&& 255).toUInt32.toUInt16.toUInt32.toInt32 = x &&& 255 := i2c_mask x
theorem and255 (x : Int32) : ¬ (x &&& (255 : Int32)) < 0 ∧ ¬ (255 : Int32) < (x &&& (255 : Int32)) := by
  have t : ∀ k : Fin 256, ¬ (Int32.ofNat k.val) < 0 ∧ ¬ (255 : Int32) < Int32.ofNat k.val := by decide +kernel
  have h : (x &&& 255).toBitVec.toNat < 256 := by
    simp only [Int32.toBitVec_and, BitVec.toNat_and]
    exact Nat.lt_succ_of_le Nat.and_le_right
  have e : (x &&& 255) = Int32.ofNat (x &&& 255).toBitVec.toNat := by
    apply Int32.toBitVec_inj.mp
    show _ = BitVec.ofNat 32 _
    rw [BitVec.ofNat_toNat]; simp
  rw [e]
  exact t ⟨_, h⟩
theorem narC {x : Int32} (h : ¬ x < 0 ∧ ¬ (255 : Int32) < x) : nar .char x = x := by
  have e : x = x &&& 255 := by
    obtain ⟨h1, h2⟩ := h
    apply Int32.toInt_inj.mp
    rw [c_mask x 255 8 (by decide) (by decide)]
    rw [Int32.lt_iff_toInt_lt] at h1 h2
    have e1 : (0 : Int32).toInt = 0 := rfl
    have e2 : (255 : Int32).toInt = 255 := rfl
    omega
  rw [e]; exact i2c_mask x
theorem narZ {x : Int32} (h : x = 0 ∨ x = 1) : narrow .boolean (.int x) = .int x := by rcases h with rfl | rfl <;> rfl
theorem narCv {x : Int32} (h : ¬ x < 0 ∧ ¬ (255 : Int32) < x) : narrow .char (.int x) = .int x := (show narrow .char (.int x) = .int (nar .char x) from rfl).trans (by rw [narC h])
theorem l2i_mask {y m : Int64} {k : Nat} (hk : k ≤ 30) (hm : m.toBitVec.toNat = 2 ^ k - 1) : ((y &&& m).toInt32).toInt = y.toInt % (2 ^ k : Nat) := by
  have h1 := c_maskL y m k (by omega) hm
  have h2 := c_l2i (y &&& m)
  rw [h1] at h2
  have h3 := rng32 (y &&& m).toInt32
  have h4 : (2 ^ k : Nat) ≤ 2 ^ 30 := Nat.pow_le_pow_right (by decide) hk
  have h5 : 0 < (2 ^ k : Nat) := Nat.pow_pos (by decide)
  have h6 := Int.emod_nonneg y.toInt (b := ((2 ^ k : Nat) : Int)) (by omega)
  have h7 := Int.emod_lt_of_pos y.toInt (b := ((2 ^ k : Nat) : Int)) (by omega)
  omega
theorem b255L (y : Int64) : ¬ (y &&& (255 : Int64)).toInt32 < 0 ∧ ¬ (255 : Int32) < (y &&& (255 : Int64)).toInt32 := by
  have h := l2i_mask (y := y) (m := 255) (k := 8) (by decide) (by decide)
  rw [Int32.lt_iff_toInt_lt, Int32.lt_iff_toInt_lt, h]
  have e1 : (0 : Int32).toInt = 0 := rfl
  have e2 : (255 : Int32).toInt = 255 := rfl
  omega
theorem ofNat_toInt {n : Nat} (h : n < 2 ^ 31) : (Int32.ofNat n).toInt = n := len_toInt h
theorem ofNat_lt {i n : Nat} (hi : i < 2 ^ 31) (hn : n < 2 ^ 31) : Int32.ofNat i < Int32.ofNat n ↔ i < n := by
  rw [Int32.lt_iff_toInt_lt, ofNat_toInt hi, ofNat_toInt hn]; omega
theorem Str.at {i : Nat} (S : Str Z h a cs) (hi : i < cs.length) : ¬ cs.getD i 0 < 0 ∧ ¬ (255 : Int32) < cs.getD i 0 := by
  obtain ⟨b, kb, -, -, -, -, -, q⟩ := S
  have e : cs.getD i 0 = cs[i] := by simp [List.getD_eq_getElem?_getD, hi]
  rw [e]; exact q _ (List.getElem_mem _)
theorem Str.len (S : Str Z h a cs) : cs.length ≤ 4000 := by obtain ⟨b, kb, -, -, -, -, q, -⟩ := S; exact q
theorem refCat {v : Value} (h : v.isRef = true) : v.category = 1 := by rcases ref_cases h with rfl | ⟨a, rfl⟩ <;> rfl
/-- a truth as an int -/
def bi (P : Prop) [Decidable P] : Int32 := if P then 1 else 0
theorem bi_t {P : Prop} [Decidable P] (h : P) : bi P = 1 := if_pos h
theorem bi_f {P : Prop} [Decidable P] (h : ¬ P) : bi P = 0 := if_neg h
theorem bi0 {P : Prop} [Decidable P] : bi P = 0 ↔ ¬ P := by unfold bi; by_cases h : P <;> simp [h]
theorem bi1 {P : Prop} [Decidable P] : bi P = 1 ↔ P := by unfold bi; by_cases h : P <;> simp [h]
theorem bi_iff {P Q : Prop} [Decidable P] [Decidable Q] (h : P ↔ Q) : bi P = bi Q := by unfold bi; by_cases q : Q <;> simp [q, h]
theorem bi01 (P : Prop) [Decidable P] : bi P = 0 ∨ bi P = 1 := by unfold bi; by_cases h : P <;> simp [h]
theorem biZ (P : Prop) [Decidable P] : narrow .boolean (.int (bi P)) = .int (bi P) := narZ (bi01 P)
/-- a class that is no subclass of K -/
theorem noSub {C K O : String} {nk : Nat} (hC : (Jvm.Cond.superclass C O).before a0 Z = true) (hO : (Jvm.Cond.noSuperclass O).before a0 Z = true) (hK : (Jvm.Cond.instantiable K nk).before a0 Z = true) (n1 : C ≠ K) (n2 : O ≠ K) : ∃ c t, Z.vm.findClass C = some c ∧ Z.vm.findClass K = some t ∧ Z.vm.assignable c t = false := by
  obtain ⟨t, kt, g1, g2, g3, g4⟩ := Cond.instantiable_spec hK
  obtain ⟨o, ko, o1, o2, o3, -, -⟩ := Cond.noSuperclass_spec hO
  obtain ⟨c, h0⟩ := found_sup hC
  obtain ⟨p, k, kp, h1, h2, h3, h4, h5, -, h7⟩ := Cond.superclass_spec h0 hC
  cases o1.symm.trans h1
  have ne := ids_ne h0 g1 n1
  have no := ids_ne o1 g1 n2
  refine ⟨c, t, h0, g1, ?_⟩
  have sub : ∀ fuel, Z.vm.isSubclassAux fuel c t = false := fun fuel => by
    cases fuel with
    | zero => rfl
    | succ f =>
      cases f with
      | zero => simp [Vm.isSubclassAux, ne, h2, h4]
      | succ f => simp [Vm.isSubclassAux, ne, h2, h4, no, o2, o3]
  have g5 : kt.isInterface = false := by
    have q := g4.1
    simp only [Bool.or_eq_false_iff] at q
    exact q.1
  show Z.vm.assignableAux (255 + 1) c t = false
  simp [Vm.assignableAux, ne, h2, g2, h5, g3, g5, Vm.isSubclass, sub]
end Facts
end Jvm.Own
/- laws to paste: Road.backV, Road.eqW, Road.codOf (cut by pick.py; bodies as the Statement names them) -/
namespace Jvm.Pilot.@@N@@
namespace StrChars
open Jvm Sem ClassFile Op Lib Jvm.Stand Jvm.Free.XT Jvm.Free.ALB Jvm.Free.JM Jvm.Free
open Jvm.Lib.Cold (StaticIs)
/-- a char array whose places are chars -/
def Ch (a : Addr) (A : Cell) (U : State) : Prop := Arr .char a A U ∧ Typed .char A
theorem Ch.mv {a : Addr} {A : Cell} {U U' : State} (h : Ch a A U) (hal : U.vm.Alike U'.vm) (hh : U'.heap = U.heap) : Ch a A U' := ⟨h.1.mv hal hh, h.2⟩
theorem Ch.keep {a : Addr} {A : Cell} {U U' : State} (h : Ch a A U) (hal : U.vm.Alike U'.vm) (hk : U'.heap[a]? = some A) : Ch a A U' := ⟨h.1.keep hal hk, h.2⟩
/-- what place i of a char[]'s cell holds -/
def cv (A : Cell) (i : Nat) : Int32 := match A.slots[i]? with | some (.int x) => x | _ => 0
theorem Ch.get {a : Addr} {A : Cell} {U : State} (h : Ch a A U) {i : Nat} (hi : i < A.slots.size) : A.slots[i]? = some (.int (cv A i)) := by
  have e := Array.getElem?_eq_getElem hi
  have f := h.2 i _ e
  unfold cv; rw [e]
  generalize A.slots[i] = v at f
  cases v <;> simp [fits] at f ⊢
/-- the byte that i2b leaves of a char -/
def lo8 (x : Int32) : Int32 := x.toInt8.toInt32
theorem fits_lo8 (y : Int32) : fits .byte (.int (lo8 y)) = true := by
  have h1 := y.toInt8.le_toInt
  have h2 := y.toInt8.toInt_lt
  simp only [lo8, fits, Bool.and_eq_true, decide_eq_true_eq, Int32.le_iff_toInt_le, Int8.toInt_toInt32, show (-128 : Int32).toInt = -128 from by decide, show (127 : Int32).toInt = 127 from by decide]
  omega
/-- A' is A but that each place j of lo .. hi - 1 holds f j -/
def Laid (A A' : Cell) (lo hi : Nat) (f : Nat → Value) : Prop := A'.cls = A.cls ∧ A'.vm = A.vm ∧ A'.slots.size = A.slots.size ∧ ∀ i, A'.slots[i]? = if lo ≤ i ∧ i < hi then some (f i) else A.slots[i]?
theorem Laid.zero (A : Cell) (lo : Nat) (f : Nat → Value) : Laid A A lo (lo + 0) f := ⟨rfl, rfl, rfl, fun i => by rw [if_neg (by omega)]⟩
theorem Laid.step {A Ak : Cell} {lo k : Nat} {f : Nat → Value} {v : Value} (h : Laid A Ak lo k f) (hlo : lo ≤ k) (hk : k < Ak.slots.size) (hv : v = f k) : Laid A (Ak.setSlot k v) lo (k + 1) f := by
  refine ⟨h.1, h.2.1, by simpa [Cell.setSlot] using h.2.2.1, fun i => ?_⟩
  by_cases e : k = i
  · subst e; rw [Cell.slots_setSlot_self v hk, if_pos (by omega), hv]
  · rw [Cell.slots_setSlot_ne v e, h.2.2.2 i]
    by_cases q : lo ≤ i ∧ i < k
    · rw [if_pos q, if_pos (by omega)]
    · rw [if_neg q, if_neg (by omega)]
def U16 : String := "java/lang/StringUTF16"
namespace Cmp5
def yN : MethodName := ⟨"java/lang/StringUTF16", "compress", "([CI[BII)I"⟩
abbrev yB : ByteArray := jdk_52_method_21_code
theorem d0 : decode yB 0 = .ok (.iconst 0, 1) := by decide +kernel
theorem d1 : decode yB 1 = .ok (.istore 5, 2) := by decide +kernel
theorem d3 : decode yB 3 = .ok (.iload 5, 2) := by decide +kernel
theorem d5 : decode yB 5 = .ok (.iload 4, 2) := by decide +kernel
theorem d7 : decode yB 7 = .ok (.if_icmp (.ge) 37, 3) := by decide +kernel
theorem d10 : decode yB 10 = .ok (.aload_n 0, 1) := by decide +kernel
theorem d11 : decode yB 11 = .ok (.iload_n 1, 1) := by decide +kernel
theorem d12 : decode yB 12 = .ok (.caload, 1) := by decide +kernel
theorem d13 : decode yB 13 = .ok (.istore 6, 2) := by decide +kernel
theorem d15 : decode yB 15 = .ok (.iload 6, 2) := by decide +kernel
theorem d17 : decode yB 17 = .ok (.sipush 255, 3) := by decide +kernel
theorem d20 : decode yB 20 = .ok (.if_icmp (.le) 6, 3) := by decide +kernel
theorem d26 : decode yB 26 = .ok (.aload_n 2, 1) := by decide +kernel
theorem d27 : decode yB 27 = .ok (.iload_n 3, 1) := by decide +kernel
theorem d28 : decode yB 28 = .ok (.iload 6, 2) := by decide +kernel
theorem d30 : decode yB 30 = .ok (.i2b, 1) := by decide +kernel
theorem d31 : decode yB 31 = .ok (.bastore, 1) := by decide +kernel
theorem d32 : decode yB 32 = .ok (.iinc 1 1, 3) := by decide +kernel
theorem d35 : decode yB 35 = .ok (.iinc 3 1, 3) := by decide +kernel
theorem d38 : decode yB 38 = .ok (.iinc 5 1, 3) := by decide +kernel
theorem d41 : decode yB 41 = .ok (.goto (-38), 3) := by decide +kernel
theorem d44 : decode yB 44 = .ok (.iload 4, 2) := by decide +kernel
theorem d46 : decode yB 46 = .ok (.ireturn, 1) := by decide +kernel
def site : List Cond := []
def tab : Cond := tabOf yN yB 7 (some .int) site
def P (b : Addr) (A : Cell) (d : Addr) (B : Cell) (o q len : Nat) (args : Array Value) (s : State) : Prop := args = #[.ref b, .int (Int32.ofNat o), .ref d, .int (Int32.ofNat q), .int (Int32.ofNat len)] ∧ Ch b A s ∧ Arr .byte d B s ∧ b ≠ d ∧ o + len ≤ A.slots.size ∧ q + len ≤ B.slots.size ∧ ∀ i, i < len → ¬ 255 < cv A (o + i)
def E (b : Addr) (A : Cell) (d : Addr) (B : Cell) (o q len : Nat) (r : Option Value) (s u : State) : Prop := r = some (.int (Int32.ofNat len)) ∧ ∃ B', Put d B' s u ∧ Laid B B' q (q + len) (fun j => Value.int (lo8 (cv A (o + (j - q)))))
/-- no char of the range above 255: len; the places written hold each char's low byte -/
theorem law (l : Launch) (b : Addr) (A : Cell) (d : Addr) (B : Cell) (o q len : Nat) : Law l yN 5 5 0 0 yB 7 (some .int) site (P b A d B o q len) (E b A d B o q len) (copyLocs d q len) 0 0 := by
  refine Law.of_walk (plainFor_of_name (by decide +kernel)) (by decide +kernel) (by decide +kernel) (by decide) (fun _ _ h => by rw [h.1]; rfl) (fun _ U U' hal hh h => ⟨h.1, h.2.1.mv hal hh, h.2.2.1.mv hal hh, h.2.2.2⟩) (fun r U U' V V' h1 hal h2 h => ⟨h.1, h.2.elim fun B' q => ⟨B', q.1.mv h1 h2, q.2⟩⟩) ?_
  intro p e s m args below meth c s₁ X0 hexec hbytes hml hret hlk hnm hown hh0 W hP
  obtain ⟨rfl, hA, hB, hne, l1, l2, hp⟩ := hP
  have c1 : Steps p.tables e below (s₁.setTop (entryFrame m #[.ref b, .int (Int32.ofNat o), .ref d, .int (Int32.ofNat q), .int (Int32.ofNat len)] 7)) (s₁.setTop (mkF m 0 #[.val (.ref b), .val (.int (Int32.ofNat o)), .val (.ref d), .val (.int (Int32.ofNat q)), .val (.int (Int32.ofNat len)), .unset, .unset] [])) := entry rfl
  have hA0 := hA.1.mv X0.warmed.alike hh0
  have hB0 := hB.mv X0.warmed.alike hh0
  have a31 := hA.1.2.2.2
  have c2 : Steps p.tables e below (s₁.setTop (entryFrame m #[.ref b, .int (Int32.ofNat o), .ref d, .int (Int32.ofNat q), .int (Int32.ofNat len)] 7)) (s₁.setTop (mkF m 3 #[.val (.ref b), .val (.int (Int32.ofNat o)), .val (.ref d), .val (.int (Int32.ofNat q)), .val (.int (Int32.ofNat len)), .val (.int 0), .unset] [])) := c1.trans (by
    refine iconstV X0.here hexec rfl 0 (hb hbytes d0) (by decide) ?_
    refine XS.istore X0.here hexec rfl (hb hbytes d1) rfl rfl ?_
    exact Steps.refl _)
  have loop : ∀ (r i : Nat), i + r = len → ∀ (z : Slot), (z = .unset ∨ ∃ w, z = .val w ∧ w.category = 1) → ∀ (Tl : State) (Bk : Cell), Stand p l e { frames := 0, locals := 0, cells := 0, slots := 0 } s m #[.ref b, .int (Int32.ofNat o), .ref d, .int (Int32.ofNat q), .int (Int32.ofNat len)] below meth c Tl ([] ++ copyLocs d q i) 0 0 → Put d Bk s₁ Tl → Laid B Bk q (q + i) (fun j => Value.int (lo8 (cv A (o + (j - q))))) →
      Steps p.tables e below (s₁.setTop (entryFrame m #[.ref b, .int (Int32.ofNat o), .ref d, .int (Int32.ofNat q), .int (Int32.ofNat len)] 7)) (Tl.setTop (mkF m 3 #[.val (.ref b), .val (.int (Int32.ofNat (o + i))), .val (.ref d), .val (.int (Int32.ofNat (q + i))), .val (.int (Int32.ofNat len)), .val (.int (Int32.ofNat i)), z] [])) → ∃ (T' : State) (B' : Cell) (z' : Slot), Stand p l e { frames := 0, locals := 0, cells := 0, slots := 0 } s m #[.ref b, .int (Int32.ofNat o), .ref d, .int (Int32.ofNat q), .int (Int32.ofNat len)] below meth c T' ([] ++ copyLocs d q len) 0 0 ∧ Put d B' s₁ T' ∧ Laid B B' q (q + len) (fun j => Value.int (lo8 (cv A (o + (j - q))))) ∧
      Steps p.tables e below (s₁.setTop (entryFrame m #[.ref b, .int (Int32.ofNat o), .ref d, .int (Int32.ofNat q), .int (Int32.ofNat len)] 7)) (T'.setTop (mkF m 3 #[.val (.ref b), .val (.int (Int32.ofNat (o + len))), .val (.ref d), .val (.int (Int32.ofNat (q + len))), .val (.int (Int32.ofNat len)), .val (.int (Int32.ofNat len)), z'] [])) := by
    intro r
    induction r with
    | zero =>
      intro i hi z hz Tl Bk Xl pl fl cl
      have hil : i = len := by omega
      rw [hil] at Xl fl cl
      exact ⟨Tl, Bk, z, Xl, pl, fl, cl⟩
    | succ r ih =>
      intro i hi z hz Tl Bk Xl pl fl cl
      have all := X0.warmed.alike.symm.trans Xl.warmed.alike
      have hAl := hA0.keep all (pl.other hne hA0.1)
      have hBk := hB0.like all pl.1 fl.1 fl.2.1 fl.2.2.1
      have hlt : q + i < Bk.slots.size := by rw [fl.2.2.1]; omega
      have c3 : Steps p.tables e below (s₁.setTop (entryFrame m #[.ref b, .int (Int32.ofNat o), .ref d, .int (Int32.ofNat q), .int (Int32.ofNat len)] 7)) (Tl.setTop (mkF m 12 #[.val (.ref b), .val (.int (Int32.ofNat (o + i))), .val (.ref d), .val (.int (Int32.ofNat (q + i))), .val (.int (Int32.ofNat len)), .val (.int (Int32.ofNat i)), z] [.int (Int32.ofNat (o + i)), .ref b])) := cl.trans (by
        refine XS.iload Xl.here hexec rfl (hb hbytes d3) rfl ?_
        refine XS.iload Xl.here hexec rfl (hb hbytes d5) rfl ?_
        refine XS.icmpNo Xl.here hexec rfl (hb hbytes d7) rfl (ii_ge_f (lt32 (by omega) (by omega))) ?_
        refine XS.aloadN Xl.here hexec rfl (hb hbytes d10) rfl rfl ?_
        refine XS.iloadN Xl.here hexec rfl (hb hbytes d11) rfl ?_
        exact Steps.refl _)
      have c4 : Steps p.tables e below (s₁.setTop (entryFrame m #[.ref b, .int (Int32.ofNat o), .ref d, .int (Int32.ofNat q), .int (Int32.ofNat len)] 7)) (Tl.setTop (mkF m 13 #[.val (.ref b), .val (.int (Int32.ofNat (o + i))), .val (.ref d), .val (.int (Int32.ofNat (q + i))), .val (.int (Int32.ofNat len)), .val (.int (Int32.ofNat i)), z] [.int (cv A (o + i))])) := c3.trans (by
        refine Xl.aget hexec hAl rfl (hA.get (i := o + i) (by omega)) rfl rfl (hb hbytes d12) ?_
        exact Steps.refl _)
      have c5 : Steps p.tables e below (s₁.setTop (entryFrame m #[.ref b, .int (Int32.ofNat o), .ref d, .int (Int32.ofNat q), .int (Int32.ofNat len)] 7)) (Tl.setTop (mkF m 15 #[.val (.ref b), .val (.int (Int32.ofNat (o + i))), .val (.ref d), .val (.int (Int32.ofNat (q + i))), .val (.int (Int32.ofNat len)), .val (.int (Int32.ofNat i)), .val (.int (cv A (o + i)))] [])) := c4.trans (by
        refine XS.istoreS Xl.here hexec rfl (hb hbytes d13) rfl rfl hz ?_
        exact Steps.refl _)
      have c6 : Steps p.tables e below (s₁.setTop (entryFrame m #[.ref b, .int (Int32.ofNat o), .ref d, .int (Int32.ofNat q), .int (Int32.ofNat len)] 7)) (Tl.setTop (mkF m 31 #[.val (.ref b), .val (.int (Int32.ofNat (o + i))), .val (.ref d), .val (.int (Int32.ofNat (q + i))), .val (.int (Int32.ofNat len)), .val (.int (Int32.ofNat i)), .val (.int (cv A (o + i)))] [.int (lo8 (cv A (o + i))), .int (Int32.ofNat (q + i)), .ref d])) := c5.trans (by
        refine XS.iload Xl.here hexec rfl (hb hbytes d15) rfl ?_
        refine sipushV Xl.here hexec rfl 255 (hb hbytes d17) (by decide) ?_
        refine XS.icmpYes Xl.here hexec rfl (pc0 := 20) rfl (hb hbytes d20) rfl (ii_le_t (hp i (by omega))) (by decide) rfl ?_
        refine XS.aloadN Xl.here hexec rfl (hb hbytes d26) rfl rfl ?_
        refine XS.iloadN Xl.here hexec rfl (hb hbytes d27) rfl ?_
        refine XS.iload Xl.here hexec rfl (hb hbytes d28) rfl ?_
        refine i2b Xl.here hexec rfl (hb hbytes d30) rfl ?_
        exact Steps.refl _)
      obtain ⟨T7, X7, p7, st7⟩ := Xl.aput hexec hBk rfl hlt rfl (fits_lo8 (cv A (o + i))) (g := (mkF m 31 #[.val (.ref b), .val (.int (Int32.ofNat (o + i))), .val (.ref d), .val (.int (Int32.ofNat (q + i))), .val (.int (Int32.ofNat len)), .val (.int (Int32.ofNat i)), .val (.int (cv A (o + i)))] [.int (lo8 (cv A (o + i))), .int (Int32.ofNat (q + i)), .ref d])) rfl (rest := []) rfl (hb hbytes d31)
      have c8 : Steps p.tables e below (s₁.setTop (entryFrame m #[.ref b, .int (Int32.ofNat o), .ref d, .int (Int32.ofNat q), .int (Int32.ofNat len)] 7)) (T7.setTop (mkF m 32 #[.val (.ref b), .val (.int (Int32.ofNat (o + i))), .val (.ref d), .val (.int (Int32.ofNat (q + i))), .val (.int (Int32.ofNat len)), .val (.int (Int32.ofNat i)), .val (.int (cv A (o + i)))] [])) := c6.trans (st7 _ (Steps.refl _))
      have c9 : Steps p.tables e below (s₁.setTop (entryFrame m #[.ref b, .int (Int32.ofNat o), .ref d, .int (Int32.ofNat q), .int (Int32.ofNat len)] 7)) (T7.setTop (mkF m 3 #[.val (.ref b), .val (.int (Int32.ofNat (o + i) + 1)), .val (.ref d), .val (.int (Int32.ofNat (q + i) + 1)), .val (.int (Int32.ofNat len)), .val (.int (Int32.ofNat i + 1)), .val (.int (cv A (o + i)))] [])) := c8.trans (by
        refine iincV X7.here hexec rfl 1 (hb hbytes d32) (by decide) rfl rfl ?_
        refine iincV X7.here hexec rfl 1 (hb hbytes d35) (by decide) rfl rfl ?_
        refine iincV X7.here hexec rfl 1 (hb hbytes d38) (by decide) rfl rfl ?_
        refine XS.goto X7.here hexec rfl (pc0 := 41) rfl (hb hbytes d41) (by decide) rfl ?_
        exact Steps.refl _)
      have c10 : Steps p.tables e below (s₁.setTop (entryFrame m #[.ref b, .int (Int32.ofNat o), .ref d, .int (Int32.ofNat q), .int (Int32.ofNat len)] 7)) (T7.setTop (mkF m 3 #[.val (.ref b), .val (.int (Int32.ofNat (o + (i + 1)))), .val (.ref d), .val (.int (Int32.ofNat (q + (i + 1)))), .val (.int (Int32.ofNat len)), .val (.int (Int32.ofNat (i + 1))), .val (.int (cv A (o + i)))] [])) := by
        have := c9
        rw [succ32, succ32, succ32] at this
        exact this
      exact ih (i + 1) (by omega) _ (Or.inr ⟨_, rfl, rfl⟩) T7 _ (by rw [copyLocs_step, ← List.append_assoc]; exact X7) (pl.trans p7) (fl.step (by omega) hlt (by simp)) c10
  obtain ⟨T9, B9, z9, X9, p9, f9, g9⟩ := loop len 0 (by omega) .unset (Or.inl rfl) s₁ B (by simpa [copyLocs] using X0) ⟨hB0.1, fun _ _ => rfl, rfl⟩ (Laid.zero _ _ _) c2
  have c11 : Steps p.tables e below (s₁.setTop (entryFrame m #[.ref b, .int (Int32.ofNat o), .ref d, .int (Int32.ofNat q), .int (Int32.ofNat len)] 7)) (T9.setTop (mkF m 46 #[.val (.ref b), .val (.int (Int32.ofNat (o + len))), .val (.ref d), .val (.int (Int32.ofNat (q + len))), .val (.int (Int32.ofNat len)), .val (.int (Int32.ofNat len)), z9] [.int (Int32.ofNat len)])) := g9.trans (by
    refine XS.iload X9.here hexec rfl (hb hbytes d3) rfl ?_
    refine XS.iload X9.here hexec rfl (hb hbytes d5) rfl ?_
    refine XS.icmpYes X9.here hexec rfl (pc0 := 7) rfl (hb hbytes d7) rfl (ii_ge_t (nlt32 (by omega) (Nat.le_refl _))) (by decide) rfl ?_
    refine XS.iload X9.here hexec rfl (hb hbytes d44) rfl ?_
    exact Steps.refl _)
  exact ⟨T9, some (.int (Int32.ofNat len)), _, _, _, X9, by simp, rfl, rfl, (fun h => by cases h), ⟨rfl, B9, p9.from hh0, f9⟩, fun fs hl => c11.trans (X9.ireturnOut hexec hret rfl (Or.inl rfl) (hb hbytes d46) hl)⟩
end Cmp5
namespace Cmp3
def yN : MethodName := ⟨"java/lang/StringUTF16", "compress", "([CII)[B"⟩
abbrev yB : ByteArray := jdk_52_method_16_code
theorem d0 : decode yB 0 = .ok (.iload_n 2, 1) := by decide +kernel
theorem d1 : decode yB 1 = .ok (.newarray .byte, 2) := by decide +kernel
theorem d3 : decode yB 3 = .ok (.astore_n 3, 1) := by decide +kernel
theorem d4 : decode yB 4 = .ok (.aload_n 0, 1) := by decide +kernel
theorem d5 : decode yB 5 = .ok (.iload_n 1, 1) := by decide +kernel
theorem d6 : decode yB 6 = .ok (.aload_n 3, 1) := by decide +kernel
theorem d7 : decode yB 7 = .ok (.iconst 0, 1) := by decide +kernel
theorem d8 : decode yB 8 = .ok (.iload_n 2, 1) := by decide +kernel
theorem d9 : decode yB 9 = .ok (.invokestatic 115, 3) := by decide +kernel
theorem d12 : decode yB 12 = .ok (.istore 4, 2) := by decide +kernel
theorem d14 : decode yB 14 = .ok (.iload 4, 2) := by decide +kernel
theorem d16 : decode yB 16 = .ok (.iload_n 2, 1) := by decide +kernel
theorem d17 : decode yB 17 = .ok (.if_icmp (.eq) 40, 3) := by decide +kernel
theorem d57 : decode yB 57 = .ok (.aload_n 3, 1) := by decide +kernel
theorem d58 : decode yB 58 = .ok (.areturn, 1) := by decide +kernel
def site : List Cond := [.arrayClass .byte, Cmp5.tab] ++ staticW U16 115 Cmp5.yN
def tab : Cond := tabOf yN yB 6 (some (.array .byte)) site
def P (b : Addr) (A : Cell) (o len : Nat) (args : Array Value) (s : State) : Prop := args = #[.ref b, .int (Int32.ofNat o), .int (Int32.ofNat len)] ∧ Ch b A s ∧ o + len ≤ A.slots.size ∧ len ≤ 536870912 ∧ ∀ i, i < len → ¬ 255 < cv A (o + i)
def E (b : Addr) (A : Cell) (o len : Nat) (r : Option Value) (s u : State) : Prop := NewArr .byte "[B" len (fun j => .int (lo8 (cv A (o + j)))) r s u ∧ u.heap.size = s.heap.size + 1
/-- no char of the range above 255: a new byte[] of their low bytes -/
theorem law (l : Launch) (b : Addr) (A : Cell) (o len : Nat) : Law l yN 3 3 1 18 yB 6 (some (.array .byte)) site (P b A o len) (E b A o len) [] 1 len := by
  refine Law.of_walk (plainFor_of_name (by decide +kernel)) (by decide +kernel) (by decide +kernel) (by decide) (fun _ _ h => by rw [h.1]; rfl) (fun _ U U' hal hh h => ⟨h.1, h.2.1.mv hal hh, h.2.2⟩) (fun r U U' V V' h1 hal h2 h => ⟨NewArr.mv r U U' V V' h1 hal h2 h.1, by rw [h1, h2]; exact h.2⟩) ?_
  intro p e s m args below meth c s₁ X0 hexec hbytes hml hret hlk hnm hown hh0 W hP
  obtain ⟨rfl, hA, l1, l2, hp⟩ := hP
  have a31 := hA.1.2.2.2
  have c1 : Steps p.tables e below (s₁.setTop (entryFrame m #[.ref b, .int (Int32.ofNat o), .int (Int32.ofNat len)] 6)) (s₁.setTop (mkF m 0 #[.val (.ref b), .val (.int (Int32.ofNat o)), .val (.int (Int32.ofNat len)), .unset, .unset, .unset] [])) := entry rfl
  have c2 : Steps p.tables e below (s₁.setTop (entryFrame m #[.ref b, .int (Int32.ofNat o), .int (Int32.ofNat len)] 6)) (s₁.setTop (mkF m 1 #[.val (.ref b), .val (.int (Int32.ofNat o)), .val (.int (Int32.ofNat len)), .unset, .unset, .unset] [.int (Int32.ofNat len)])) := c1.trans (by
    refine XS.iloadN X0.here hexec rfl (hb hbytes d0) rfl ?_
    exact Steps.refl _)
  obtain ⟨T3, B3, X3, ba3, bs3, bv3, bh3, bf3, st3⟩ := X0.anew hexec (atype := .byte) (wk W (.arrayClass .byte)) rfl (by show len * 1 ≤ _; omega) (by omega) (g := (mkF m 1 #[.val (.ref b), .val (.int (Int32.ofNat o)), .val (.int (Int32.ofNat len)), .unset, .unset, .unset] [.int (Int32.ofNat len)])) rfl (hb hbytes d1) (rest := []) rfl (Nat.le_refl _) (by show 0 + len ≤ len; omega)
  rw [hh0] at ba3 st3
  have kp3 : XT.Kept s T3 := (XT.Kept.of_eq hh0).push bh3
  have hA3 := hA.keep X3.warmed.alike (kp3 _ _ hA.1.1)
  have hne : b ≠ s.heap.size := hA.1.ne
  have c4 : Steps p.tables e below (s₁.setTop (entryFrame m #[.ref b, .int (Int32.ofNat o), .int (Int32.ofNat len)] 6)) (T3.setTop (mkF m 3 #[.val (.ref b), .val (.int (Int32.ofNat o)), .val (.int (Int32.ofNat len)), .unset, .unset, .unset] [.ref s.heap.size])) := c2.trans (st3 _ (Steps.refl _))
  have c5 : Steps p.tables e below (s₁.setTop (entryFrame m #[.ref b, .int (Int32.ofNat o), .int (Int32.ofNat len)] 6)) (T3.setTop (mkF m 9 #[.val (.ref b), .val (.int (Int32.ofNat o)), .val (.int (Int32.ofNat len)), .val (.ref s.heap.size), .unset, .unset] [.int (Int32.ofNat len), .int 0, .ref s.heap.size, .int (Int32.ofNat o), .ref b])) := c4.trans (by
    refine XS.astoreN X3.here hexec rfl (hb hbytes d3) rfl rfl rfl ?_
    refine XS.aloadN X3.here hexec rfl (hb hbytes d4) rfl rfl ?_
    refine XS.iloadN X3.here hexec rfl (hb hbytes d5) rfl ?_
    refine XS.aloadN X3.here hexec rfl (hb hbytes d6) rfl rfl ?_
    refine iconstV X3.here hexec rfl 0 (hb hbytes d7) (by decide) ?_
    refine XS.iloadN X3.here hexec rfl (hb hbytes d8) rfl ?_
    exact Steps.refl _)
  obtain ⟨v6, T6, X6, E6, g6⟩ := X3.callS hexec (Cmp5.law l b A s.heap.size B3 o 0 len) hown (wks W (staticW U16 115 Cmp5.yN)) (wk W Cmp5.tab) (W := 0) (Nat.le_of_ble_eq_true rfl) (Nat.le_of_ble_eq_true rfl) (Nat.le_refl _) (by show 0 + len + 0 ≤ len; omega) (g := (mkF m 9 #[.val (.ref b), .val (.int (Int32.ofNat o)), .val (.int (Int32.ofNat len)), .val (.ref s.heap.size), .unset, .unset] [.int (Int32.ofNat len), .int (Int32.ofNat 0), .ref s.heap.size, .int (Int32.ofNat o), .ref b])) rfl (by rw [hml]; rfl) c5 (argsL := [.ref b, .int (Int32.ofNat o), .ref s.heap.size, .int (Int32.ofNat 0), .int (Int32.ofNat len)]) (rest := []) rfl rfl (by show 2 * 0 + 0 ≤ _; decide) (hb hbytes d9) (⟨rfl, hA3, ba3, hne, l1, by rw [bs3]; simp, hp⟩)
  obtain ⟨rfl, B6, p6, f6⟩ := E6
  have c7 : Steps p.tables e below (s₁.setTop (entryFrame m #[.ref b, .int (Int32.ofNat o), .int (Int32.ofNat len)] 6)) (T6.setTop (mkF m 12 #[.val (.ref b), .val (.int (Int32.ofNat o)), .val (.int (Int32.ofNat len)), .val (.ref s.heap.size), .unset, .unset] [.int (Int32.ofNat len)])) := g6
  have c8 : Steps p.tables e below (s₁.setTop (entryFrame m #[.ref b, .int (Int32.ofNat o), .int (Int32.ofNat len)] 6)) (T6.setTop (mkF m 58 #[.val (.ref b), .val (.int (Int32.ofNat o)), .val (.int (Int32.ofNat len)), .val (.ref s.heap.size), .val (.int (Int32.ofNat len)), .unset] [.ref s.heap.size])) := c7.trans (by
    refine XS.istore X6.here hexec rfl (hb hbytes d12) rfl rfl ?_
    refine XS.iload X6.here hexec rfl (hb hbytes d14) rfl ?_
    refine XS.iloadN X6.here hexec rfl (hb hbytes d16) rfl ?_
    refine XS.icmpYes X6.here hexec rfl (pc0 := 17) rfl (hb hbytes d17) rfl (ii_eq_t rfl) (by decide) rfl ?_
    refine XS.aloadN X6.here hexec rfl (hb hbytes d57) rfl rfl ?_
    exact Steps.refl _)
  have X8 := X6.wide (L' := []) (cells' := 1) (slots' := len) (fun x hx hlt => by
    simp only [List.nil_append, copyLocs, List.mem_map, List.mem_range] at hx
    obtain ⟨i, -, rfl⟩ := hx
    exact absurd hlt (Nat.lt_irrefl _)) (Nat.le_refl _) (by omega)
  exact ⟨T6, some (.ref s.heap.size), _, _, _, X8, rfl, rfl, rfl, (fun h => by cases h), ⟨⟨rfl, B6, ba3.like (X3.warmed.alike.symm.trans X6.warmed.alike) p6.1 f6.1 f6.2.1 f6.2.2.1, f6.2.1.trans bv3, by rw [X6.warmed.alike.findClass, f6.1]; exact bf3, by rw [f6.2.2.1, bs3]; simp, fun j hj => by rw [f6.2.2.2 j, if_pos (by omega)]; rfl, kp3.put p6 (Nat.le_refl _)⟩, by rw [p6.2.2, bh3, hh0]; simp⟩, fun fs hl => c8.trans (X8.areturnOut hexec rfl hret rfl (hb hbytes d58) hl)⟩
end Cmp3
namespace CodL
def yN : MethodName := ⟨"java/lang/StringUTF16", "coderFromArrayLen", "([BI)B"⟩
abbrev yB : ByteArray := jdk_52_method_15_code
theorem d0 : decode yB 0 = .ok (.iload_n 1, 1) := by decide +kernel
theorem d1 : decode yB 1 = .ok (.aload_n 0, 1) := by decide +kernel
theorem d2 : decode yB 2 = .ok (.arraylength, 1) := by decide +kernel
theorem d3 : decode yB 3 = .ok (.isub, 1) := by decide +kernel
theorem d4 : decode yB 4 = .ok (.bipush 31, 2) := by decide +kernel
theorem d6 : decode yB 6 = .ok (.iushr, 1) := by decide +kernel
theorem d7 : decode yB 7 = .ok (.i2b, 1) := by decide +kernel
theorem d8 : decode yB 8 = .ok (.ireturn, 1) := by decide +kernel
def site : List Cond := []
def tab : Cond := tabOf yN yB 2 (some .byte) site
def P (d : Addr) (B : Cell) (args : Array Value) (s : State) : Prop := args = #[.ref d, .int (Int32.ofNat B.slots.size)] ∧ Arr .byte d B s
def E (r : Option Value) (s u : State) : Prop := XT.PureE (some (.int 0)) r s u
/-- an array as long as the number of chars: LATIN1 -/
theorem law (l : Launch) (d : Addr) (B : Cell) : Law l yN 2 2 0 0 yB 2 (some .byte) site (P d B) E [] 0 0 := by
  refine Law.of_walk (plainFor_of_name (by decide +kernel)) (by decide +kernel) (by decide +kernel) (by decide) (fun _ _ h => by rw [h.1]; rfl) (fun _ U U' hal hh h => ⟨h.1, h.2.mv hal hh⟩) (fun r U U' V V' h1 hal h2 h => XT.PureE.mv r U U' V V' h1 hal h2 h) ?_
  intro p e s m args below meth c s₁ X0 hexec hbytes hml hret hlk hnm hown hh0 W hP
  obtain ⟨rfl, hB⟩ := hP
  have hB0 := hB.mv X0.warmed.alike hh0
  have c1 : Steps p.tables e below (s₁.setTop (entryFrame m #[.ref d, .int (Int32.ofNat B.slots.size)] 2)) (s₁.setTop (mkF m 0 #[.val (.ref d), .val (.int (Int32.ofNat B.slots.size))] [])) := entry rfl
  have c2 : Steps p.tables e below (s₁.setTop (entryFrame m #[.ref d, .int (Int32.ofNat B.slots.size)] 2)) (s₁.setTop (mkF m 2 #[.val (.ref d), .val (.int (Int32.ofNat B.slots.size))] [.ref d, .int (Int32.ofNat B.slots.size)])) := c1.trans (by
    refine XS.iloadN X0.here hexec rfl (hb hbytes d0) rfl ?_
    refine XS.aloadN X0.here hexec rfl (hb hbytes d1) rfl rfl ?_
    exact Steps.refl _)
  have c3 : Steps p.tables e below (s₁.setTop (entryFrame m #[.ref d, .int (Int32.ofNat B.slots.size)] 2)) (s₁.setTop (mkF m 8 #[.val (.ref d), .val (.int (Int32.ofNat B.slots.size))] [.int (lo8 (ushr (Int32.ofNat B.slots.size - Int32.ofNat B.slots.size) 31))])) := c2.trans (by
    refine X0.alen hexec hB0 rfl rfl (hb hbytes d2) ?_
    refine XS.isub X0.here hexec rfl (hb hbytes d3) rfl ?_
    refine bipushV X0.here hexec rfl 31 (hb hbytes d4) (by decide) ?_
    refine iushr X0.here hexec rfl (hb hbytes d6) rfl ?_
    refine i2b X0.here hexec rfl (hb hbytes d7) rfl ?_
    exact Steps.refl _)
  have e0 : lo8 (ushr (Int32.ofNat B.slots.size - Int32.ofNat B.slots.size) 31) = 0 := by rw [Int32.sub_self]; decide
  rw [e0] at c3
  exact ⟨s₁, some (.int 0), _, _, _, X0, rfl, rfl, rfl, (fun h => by cases h), ⟨rfl, hh0⟩, fun fs hl => c3.trans (X0.ireturnOut hexec hret rfl (Or.inr (Or.inr (Or.inl rfl))) (hb hbytes d8) hl)⟩
end CodL
/-- the String at a is Latin-1 over a new byte[] (the heap's one new cell): the low bytes of the len chars of A from o on; every cell but a is kept -/
def Got (a : Addr) (D : Cell) (fV fC : Field) (A : Cell) (o len : Nat) (r : Option Value) (s u : State) : Prop := r = none ∧ ∃ D' V : Cell, Blank "java/lang/String" a D' u ∧ Same D D' [fV.slot, fC.slot] ∧ D'.slots[fV.slot]? = some (.ref s.heap.size) ∧ D'.slots[fC.slot]? = some (.int 0) ∧ Arr .byte s.heap.size V u ∧ V.vm = .none ∧ u.vm.findClass "[B" = some V.cls ∧ V.slots.size = len ∧ (∀ j, j < len → V.slots[j]? = some (.int (lo8 (cv A (o + j))))) ∧ (∀ (y : Addr) (c : Cell), y ≠ a → s.heap[y]? = some c → u.heap[y]? = some c) ∧ u.heap.size = s.heap.size + 1
theorem Got.mv {a : Addr} {D A : Cell} {fV fC : Field} {o len : Nat} : ∀ r (U U' V V' : State), U'.heap = U.heap → V.vm.Alike V'.vm → V'.heap = V.heap → Got a D fV fC A o len r U V → Got a D fV fC A o len r U' V' :=
  fun r U U' V V' h1 hal h2 ⟨e0, D', X, a1, a2, a3, a4, a5, a6, a7, a8, a9, a10, a11⟩ => ⟨e0, D', X, a1.mv hal h2, a2, by rw [h1]; exact a3, a4, by rw [h1]; exact a5.mv hal h2, a6, by rw [hal.findClass]; exact a7, a8, a9, by rw [h1, h2]; exact a10, by rw [h1, h2]; exact a11⟩
namespace New4
def yN : MethodName := ⟨"java/lang/String", "<init>", "([CIILjava/lang/Void;)V"⟩
abbrev yB : ByteArray := jdk_42_method_149_code
theorem d0 : decode yB 0 = .ok (.aload_n 0, 1) := by decide +kernel
theorem d1 : decode yB 1 = .ok (.invokespecial 1, 3) := by decide +kernel
theorem d4 : decode yB 4 = .ok (.iload_n 3, 1) := by decide +kernel
theorem d5 : decode yB 5 = .ok (.ifCond (.ne) 22, 3) := by decide +kernel
theorem d27 : decode yB 27 = .ok (.getstatic 38, 3) := by decide +kernel
theorem d30 : decode yB 30 = .ok (.ifCond (.eq) 28, 3) := by decide +kernel
theorem d33 : decode yB 33 = .ok (.aload_n 1, 1) := by decide +kernel
theorem d34 : decode yB 34 = .ok (.iload_n 2, 1) := by decide +kernel
theorem d35 : decode yB 35 = .ok (.iload_n 3, 1) := by decide +kernel
theorem d36 : decode yB 36 = .ok (.invokestatic 177, 3) := by decide +kernel
theorem d39 : decode yB 39 = .ok (.astore 5, 2) := by decide +kernel
theorem d41 : decode yB 41 = .ok (.aload_n 0, 1) := by decide +kernel
theorem d42 : decode yB 42 = .ok (.aload 5, 2) := by decide +kernel
theorem d44 : decode yB 44 = .ok (.iload_n 3, 1) := by decide +kernel
theorem d45 : decode yB 45 = .ok (.invokestatic 47, 3) := by decide +kernel
theorem d48 : decode yB 48 = .ok (.putfield 15, 3) := by decide +kernel
theorem d51 : decode yB 51 = .ok (.aload_n 0, 1) := by decide +kernel
theorem d52 : decode yB 52 = .ok (.aload 5, 2) := by decide +kernel
theorem d54 : decode yB 54 = .ok (.putfield 9, 3) := by decide +kernel
theorem d57 : decode yB 57 = .ok (.return_, 1) := by decide +kernel
def site : List Cond := [.fieldLink "java/lang/String" 38 "java/lang/String" "COMPACT_STRINGS" "Z", Cmp3.tab, CodL.tab, .laysFinal "java/lang/String" "java/lang/String" "value" "[B", .fieldLink "java/lang/String" 9 "java/lang/String" "value" "[B", .laysFinal "java/lang/String" "java/lang/String" "coder" "B", .fieldLink "java/lang/String" 15 "java/lang/String" "coder" "B"] ++ objW "java/lang/String" 1 ++ staticW "java/lang/String" 177 Cmp3.yN ++ staticW "java/lang/String" 47 CodL.yN
def tab : Cond := tabOf yN yB 6 none site
def P (a : Addr) (D : Cell) (fV fC : Field) (b : Addr) (A : Cell) (z : Int32) (o len : Nat) (args : Array Value) (s : State) : Prop := args = #[.ref a, .ref b, .int (Int32.ofNat o), .int (Int32.ofNat len), .null] ∧ Blank "java/lang/String" a D s ∧ Found "java/lang/String" "value" "[B" fV s ∧ Found "java/lang/String" "coder" "B" fC s ∧ Ch b A s ∧ StaticIs s "java/lang/String" "COMPACT_STRINGS" "Z" (.int z) ∧ ¬ z = 0 ∧ 0 < len ∧ o + len ≤ A.slots.size ∧ len ≤ 536870912 ∧ ∀ i, i < len → ¬ 255 < cv A (o + i)
def E (a : Addr) (D : Cell) (fV fC : Field) (A : Cell) (o len : Nat) (r : Option Value) (s u : State) : Prop := Got a D fV fC A o len r s u
/-- len > 0, no char of the range above 255: a Latin-1 String of their low bytes -/
theorem law (l : Launch) (a : Addr) (D : Cell) (fV fC : Field) (b : Addr) (A : Cell) (z : Int32) (o len : Nat) : Law l yN 5 4 2 35 yB 6 none site (P a D fV fC b A z o len) (E a D fV fC A o len) [⟨a, fC.slot⟩, ⟨a, fV.slot⟩] 1 len := by
  refine Law.of_walk (plainFor_of_name (by decide +kernel)) (by decide +kernel) (by decide +kernel) (by decide) (fun _ _ h => by rw [h.1]; rfl) (fun _ U U' hal hh h => ⟨h.1, h.2.1.mv hal hh, h.2.2.1.al hal, h.2.2.2.1.al hal, h.2.2.2.2.1.mv hal hh, h.2.2.2.2.2.1.there hal hh, h.2.2.2.2.2.2⟩) (fun r U U' V V' h1 hal h2 h => Got.mv r U U' V V' h1 hal h2 h) ?_
  intro p e s m args below meth c s₁ X0 hexec hbytes hml hret hlk hnm hown hh0 W hP
  obtain ⟨rfl, hB, f1, f2, hA, s1, hz, l0, l1, l2, hp⟩ := hP
  have a31 := hA.1.2.2.2
  have c1 : Steps p.tables e below (s₁.setTop (entryFrame m #[.ref a, .ref b, .int (Int32.ofNat o), .int (Int32.ofNat len), .null] 6)) (s₁.setTop (mkF m 0 #[.val (.ref a), .val (.ref b), .val (.int (Int32.ofNat o)), .val (.int (Int32.ofNat len)), .val .null, .unset] [])) := entry rfl
  have c2 : Steps p.tables e below (s₁.setTop (entryFrame m #[.ref a, .ref b, .int (Int32.ofNat o), .int (Int32.ofNat len), .null] 6)) (s₁.setTop (mkF m 1 #[.val (.ref a), .val (.ref b), .val (.int (Int32.ofNat o)), .val (.int (Int32.ofNat len)), .val .null, .unset] [.ref a])) := c1.trans (by
    refine XS.aloadN X0.here hexec rfl (hb hbytes d0) rfl rfl ?_
    exact Steps.refl _)
  obtain ⟨T3, X3, q3, st3⟩ := X0.oinit hexec hown (wks W (objW "java/lang/String" 1)) (g := (mkF m 1 #[.val (.ref a), .val (.ref b), .val (.int (Int32.ofNat o)), .val (.int (Int32.ofNat len)), .val .null, .unset] [.ref a])) rfl (by rw [hml]; rfl) (rest := []) rfl (hb hbytes d1) (W := 0) (by show 2 * 0 + 0 ≤ _; decide) (Nat.le_of_ble_eq_true rfl) (Nat.le_of_ble_eq_true rfl)
  have hh3 := q3.trans hh0
  have c4 : Steps p.tables e below (s₁.setTop (entryFrame m #[.ref a, .ref b, .int (Int32.ofNat o), .int (Int32.ofNat len), .null] 6)) (T3.setTop (mkF m 27 #[.val (.ref a), .val (.ref b), .val (.int (Int32.ofNat o)), .val (.int (Int32.ofNat len)), .val .null, .unset] [])) := (c2.trans (st3 _ (Steps.refl _))).trans (by
    refine XS.iloadN X3.here hexec rfl (hb hbytes d4) rfl ?_
    refine XS.ifYes X3.here hexec rfl (pc0 := 5) rfl (hb hbytes d5) rfl (i0_ne_t (nz32 (by omega) l0)) (by decide) rfl ?_
    exact Steps.refl _)
  obtain ⟨T5, X5, q5, st5⟩ := X3.sget hexec hown (wk W (.fieldLink "java/lang/String" 38 "java/lang/String" "COMPACT_STRINGS" "Z")) s1 (fun _ _ h => by rw [hh3]; exact h) (g := (mkF m 27 #[.val (.ref a), .val (.ref b), .val (.int (Int32.ofNat o)), .val (.int (Int32.ofNat len)), .val .null, .unset] [])) rfl (hb hbytes d27)
  have hh5 := q5.trans hh3
  have c6 : Steps p.tables e below (s₁.setTop (entryFrame m #[.ref a, .ref b, .int (Int32.ofNat o), .int (Int32.ofNat len), .null] 6)) (T5.setTop (mkF m 30 #[.val (.ref a), .val (.ref b), .val (.int (Int32.ofNat o)), .val (.int (Int32.ofNat len)), .val .null, .unset] [.int z])) := c4.trans (st5 _ (Steps.refl _))
  have c7 : Steps p.tables e below (s₁.setTop (entryFrame m #[.ref a, .ref b, .int (Int32.ofNat o), .int (Int32.ofNat len), .null] 6)) (T5.setTop (mkF m 36 #[.val (.ref a), .val (.ref b), .val (.int (Int32.ofNat o)), .val (.int (Int32.ofNat len)), .val .null, .unset] [.int (Int32.ofNat len), .int (Int32.ofNat o), .ref b])) := c6.trans (by
    refine XS.ifNo X5.here hexec rfl (hb hbytes d30) rfl (i0_eq_f hz) ?_
    refine XS.aloadN X5.here hexec rfl (hb hbytes d33) rfl rfl ?_
    refine XS.iloadN X5.here hexec rfl (hb hbytes d34) rfl ?_
    refine XS.iloadN X5.here hexec rfl (hb hbytes d35) rfl ?_
    exact Steps.refl _)
  obtain ⟨v8, T8, X8, E8, g8⟩ := X5.callS hexec (Cmp3.law l b A o len) hown (wks W (staticW "java/lang/String" 177 Cmp3.yN)) (wk W Cmp3.tab) (W := 0) (Nat.le_of_ble_eq_true rfl) (Nat.le_of_ble_eq_true rfl) (Nat.le_refl _) (by show 0 + len ≤ len; omega) (g := (mkF m 36 #[.val (.ref a), .val (.ref b), .val (.int (Int32.ofNat o)), .val (.int (Int32.ofNat len)), .val .null, .unset] [.int (Int32.ofNat len), .int (Int32.ofNat o), .ref b])) rfl (by rw [hml]; rfl) c7 (argsL := [.ref b, .int (Int32.ofNat o), .int (Int32.ofNat len)]) (rest := []) rfl rfl (by show 2 * 0 + 0 ≤ _; decide) (hb hbytes d36) (⟨rfl, hA.mv X5.warmed.alike hh5, l1, l2, hp⟩)
  obtain ⟨e8, z8⟩ := E8
  obtain ⟨rfl, N, n1, n2, n3, n4, n5, n6⟩ := NewArr.mv _ T5 s _ _ hh5.symm (Vm.Alike.refl _) rfl e8
  rw [hh5] at z8
  have hB1 := hB.keep X8.warmed.alike (n6 _ _ hB.1)
  have hne : s.heap.size ≠ a := (Nat.ne_of_lt (Array.getElem?_eq_some_iff.mp hB.1).1).symm
  have c9 : Steps p.tables e below (s₁.setTop (entryFrame m #[.ref a, .ref b, .int (Int32.ofNat o), .int (Int32.ofNat len), .null] 6)) (T8.setTop (mkF m 39 #[.val (.ref a), .val (.ref b), .val (.int (Int32.ofNat o)), .val (.int (Int32.ofNat len)), .val .null, .unset] [.ref s.heap.size])) := g8
  have c10 : Steps p.tables e below (s₁.setTop (entryFrame m #[.ref a, .ref b, .int (Int32.ofNat o), .int (Int32.ofNat len), .null] 6)) (T8.setTop (mkF m 45 #[.val (.ref a), .val (.ref b), .val (.int (Int32.ofNat o)), .val (.int (Int32.ofNat len)), .val .null, .val (.ref s.heap.size)] [.int (Int32.ofNat N.slots.size), .ref s.heap.size, .ref a])) := by
    have hc : Steps p.tables e below (s₁.setTop (entryFrame m #[.ref a, .ref b, .int (Int32.ofNat o), .int (Int32.ofNat len), .null] 6)) (T8.setTop (mkF m 45 #[.val (.ref a), .val (.ref b), .val (.int (Int32.ofNat o)), .val (.int (Int32.ofNat len)), .val .null, .val (.ref s.heap.size)] [.int (Int32.ofNat len), .ref s.heap.size, .ref a])) := c9.trans (by
      refine XS.astore X8.here hexec rfl (hb hbytes d39) rfl rfl rfl ?_
      refine XS.aloadN X8.here hexec rfl (hb hbytes d41) rfl rfl ?_
      refine XS.aload X8.here hexec rfl (hb hbytes d42) rfl rfl ?_
      refine XS.iloadN X8.here hexec rfl (hb hbytes d44) rfl ?_
      exact Steps.refl _)
    rw [n4]; exact hc
  obtain ⟨v11, T11, X11, E11, g11⟩ := X8.callS hexec (CodL.law l s.heap.size N) hown (wks W (staticW "java/lang/String" 47 CodL.yN)) (wk W CodL.tab) (W := 1) (Nat.le_of_ble_eq_true rfl) (Nat.le_of_ble_eq_true rfl) (Nat.le_refl _) (by show 0 + len + 0 ≤ len; omega) (g := (mkF m 45 #[.val (.ref a), .val (.ref b), .val (.int (Int32.ofNat o)), .val (.int (Int32.ofNat len)), .val .null, .val (.ref s.heap.size)] [.int (Int32.ofNat N.slots.size), .ref s.heap.size, .ref a])) rfl (by rw [hml]; rfl) c10 (argsL := [.ref s.heap.size, .int (Int32.ofNat N.slots.size)]) (rest := [.ref a]) rfl rfl (by show 2 * 0 + (1 + 0) ≤ _; decide) (hb hbytes d45) (⟨rfl, n1⟩)
  obtain ⟨rfl, q11⟩ := E11
  have hB11 := hB1.mv (X8.warmed.alike.symm.trans X11.warmed.alike) q11
  have c12 : Steps p.tables e below (s₁.setTop (entryFrame m #[.ref a, .ref b, .int (Int32.ofNat o), .int (Int32.ofNat len), .null] 6)) (T11.setTop (mkF m 48 #[.val (.ref a), .val (.ref b), .val (.int (Int32.ofNat o)), .val (.int (Int32.ofNat len)), .val .null, .val (.ref s.heap.size)] [.int 0, .ref a])) := g11
  obtain ⟨T13, X13, p13, bl13, sl13, st13⟩ := X11.finit hexec hown (wk W (.fieldLink "java/lang/String" 15 "java/lang/String" "coder" "B")) (Or.inr ⟨_, (wk W (.laysFinal "java/lang/String" "java/lang/String" "coder" "B"))⟩) (Or.inl ⟨rfl, hnm⟩) f2 (Or.inl rfl) hB11 (t := .byte) (by decide +kernel) rfl (g := (mkF m 48 #[.val (.ref a), .val (.ref b), .val (.int (Int32.ofNat o)), .val (.int (Int32.ofNat len)), .val .null, .val (.ref s.heap.size)] [.int 0, .ref a])) rfl (rest := []) rfl (hb hbytes d48)
  have c14 : Steps p.tables e below (s₁.setTop (entryFrame m #[.ref a, .ref b, .int (Int32.ofNat o), .int (Int32.ofNat len), .null] 6)) (T13.setTop (mkF m 54 #[.val (.ref a), .val (.ref b), .val (.int (Int32.ofNat o)), .val (.int (Int32.ofNat len)), .val .null, .val (.ref s.heap.size)] [.ref s.heap.size, .ref a])) := (c12.trans (st13 _ (Steps.refl _))).trans (by
    refine XS.aloadN X13.here hexec rfl (hb hbytes d51) rfl rfl ?_
    refine XS.aload X13.here hexec rfl (hb hbytes d52) rfl rfl ?_
    exact Steps.refl _)
  obtain ⟨T15, X15, p15, bl15, sl15, st15⟩ := X13.finit hexec hown (wk W (.fieldLink "java/lang/String" 9 "java/lang/String" "value" "[B")) (Or.inr ⟨_, (wk W (.laysFinal "java/lang/String" "java/lang/String" "value" "[B"))⟩) (Or.inl ⟨rfl, hnm⟩) f1 (Or.inl rfl) bl13 (t := (.array .byte)) (by decide +kernel) rfl (g := (mkF m 54 #[.val (.ref a), .val (.ref b), .val (.int (Int32.ofNat o)), .val (.int (Int32.ofNat len)), .val .null, .val (.ref s.heap.size)] [.ref s.heap.size, .ref a])) rfl (rest := []) rfl (hb hbytes d54)
  have c16 : Steps p.tables e below (s₁.setTop (entryFrame m #[.ref a, .ref b, .int (Int32.ofNat o), .int (Int32.ofNat len), .null] 6)) (T15.setTop (mkF m 57 #[.val (.ref a), .val (.ref b), .val (.int (Int32.ofNat o)), .val (.int (Int32.ofNat len)), .val .null, .val (.ref s.heap.size)] [])) := c14.trans (st15 _ (Steps.refl _))
  have ap := apart (Or.inr ⟨_, (wk W (.laysFinal "java/lang/String" "java/lang/String" "value" "[B"))⟩) (Or.inr ⟨_, (wk W (.laysFinal "java/lang/String" "java/lang/String" "coder" "B"))⟩) f1 f2 (t₁ := .array .byte) (t₂ := .byte) (by decide +kernel) (by decide +kernel) (by decide)
  have al := X8.warmed.alike.symm.trans X15.warmed.alike
  have n7 : T11.heap[s.heap.size]? = some N := by rw [q11]; exact n1.1
  exact ⟨T15, none, _, _, _, X15, by simp, rfl, by omega, (fun _ => rfl), ⟨rfl, _, N, bl15, ((Same.refl D _).set _ (by simp)).set _ (by simp), sl15, (Cell.slots_setSlot_ne _ ap).trans sl13, n1.keep al (p15.other hne (p13.other hne n7)), n2, by rw [al.findClass]; exact n3, n4, n5, fun y c h1 h2 => p15.other h1 (p13.other h1 (by rw [q11]; exact n6 y c h2)), by rw [p15.2.2, p13.2.2, q11]; exact z8⟩, fun fs hl => c16.trans (X15.returnOut hexec hret (hb hbytes d57) hl)⟩
end New4
namespace New1
def yN : MethodName := ⟨"java/lang/String", "<init>", "([C)V"⟩
abbrev yB : ByteArray := jdk_42_method_3_code
theorem d0 : decode yB 0 = .ok (.aload_n 0, 1) := by decide +kernel
theorem d1 : decode yB 1 = .ok (.aload_n 1, 1) := by decide +kernel
theorem d2 : decode yB 2 = .ok (.iconst 0, 1) := by decide +kernel
theorem d3 : decode yB 3 = .ok (.aload_n 1, 1) := by decide +kernel
theorem d4 : decode yB 4 = .ok (.arraylength, 1) := by decide +kernel
theorem d5 : decode yB 5 = .ok (.aconst_null, 1) := by decide +kernel
theorem d6 : decode yB 6 = .ok (.invokespecial 27, 3) := by decide +kernel
theorem d9 : decode yB 9 = .ok (.return_, 1) := by decide +kernel
def site : List Cond := [New4.tab] ++ initW "java/lang/String" 27 New4.yN
def tab : Cond := tabOf yN yB 2 none site
def P (a : Addr) (D : Cell) (fV fC : Field) (b : Addr) (A : Cell) (z : Int32) (args : Array Value) (s : State) : Prop := args = #[.ref a, .ref b] ∧ Blank "java/lang/String" a D s ∧ Found "java/lang/String" "value" "[B" fV s ∧ Found "java/lang/String" "coder" "B" fC s ∧ Ch b A s ∧ StaticIs s "java/lang/String" "COMPACT_STRINGS" "Z" (.int z) ∧ ¬ z = 0 ∧ 0 < A.slots.size ∧ A.slots.size ≤ 536870912 ∧ ∀ i, i < A.slots.size → ¬ 255 < cv A i
def E (a : Addr) (D : Cell) (fV fC : Field) (A : Cell) (r : Option Value) (s u : State) : Prop := Got a D fV fC A 0 A.slots.size r s u
/-- new String(chars), not empty, no char above 255: a Latin-1 String of their low bytes -/
theorem law (l : Launch) (a : Addr) (D : Cell) (fV fC : Field) (b : Addr) (A : Cell) (z : Int32) : Law l yN 2 1 3 52 yB 2 none site (P a D fV fC b A z) (E a D fV fC A) [⟨a, fC.slot⟩, ⟨a, fV.slot⟩] 1 A.slots.size := by
  refine Law.of_walk (plainFor_of_name (by decide +kernel)) (by decide +kernel) (by decide +kernel) (by decide) (fun _ _ h => by rw [h.1]; rfl) (fun _ U U' hal hh h => ⟨h.1, h.2.1.mv hal hh, h.2.2.1.al hal, h.2.2.2.1.al hal, h.2.2.2.2.1.mv hal hh, h.2.2.2.2.2.1.there hal hh, h.2.2.2.2.2.2⟩) (fun r U U' V V' h1 hal h2 h => Got.mv r U U' V V' h1 hal h2 h) ?_
  intro p e s m args below meth c s₁ X0 hexec hbytes hml hret hlk hnm hown hh0 W hP
  obtain ⟨rfl, hB, f1, f2, hA, s1, hz, l0, l2, hp⟩ := hP
  have c1 : Steps p.tables e below (s₁.setTop (entryFrame m #[.ref a, .ref b] 2)) (s₁.setTop (mkF m 0 #[.val (.ref a), .val (.ref b)] [])) := entry rfl
  have c2 : Steps p.tables e below (s₁.setTop (entryFrame m #[.ref a, .ref b] 2)) (s₁.setTop (mkF m 6 #[.val (.ref a), .val (.ref b)] [.null, .int (Int32.ofNat A.slots.size), .int 0, .ref b, .ref a])) := c1.trans (by
    refine XS.aloadN X0.here hexec rfl (hb hbytes d0) rfl rfl ?_
    refine XS.aloadN X0.here hexec rfl (hb hbytes d1) rfl rfl ?_
    refine iconstV X0.here hexec rfl 0 (hb hbytes d2) (by decide) ?_
    refine XS.aloadN X0.here hexec rfl (hb hbytes d3) rfl rfl ?_
    refine X0.alen hexec (hA.1.mv X0.warmed.alike hh0) rfl rfl (hb hbytes d4) ?_
    refine XS.aconstNull X0.here hexec rfl (hb hbytes d5) ?_
    exact Steps.refl _)
  obtain ⟨v3, T3, X3, E3, g3⟩ := X0.callN hexec (New4.law l a D fV fC b A z 0 A.slots.size) rfl hown (wks W (initW "java/lang/String" 27 New4.yN)) (W New4.tab (by simp only [site, List.mem_cons, List.mem_append, true_or, or_true])) (W := 0) (Nat.le_of_ble_eq_true rfl) (Nat.le_of_ble_eq_true rfl) (Nat.le_refl _) (by show 0 + A.slots.size ≤ A.slots.size; omega) (g := (mkF m 6 #[.val (.ref a), .val (.ref b)] [.null, .int (Int32.ofNat A.slots.size), .int (Int32.ofNat 0), .ref b, .ref a])) rfl (by rw [hml]; rfl) c2 (argsL := [.ref b, .int (Int32.ofNat 0), .int (Int32.ofNat A.slots.size), .null]) (rest := []) rfl rfl (by show 2 * 0 + 0 ≤ _; decide) (hb hbytes d6) (⟨rfl, hB.mv X0.warmed.alike hh0, f1.al X0.warmed.alike, f2.al X0.warmed.alike, hA.mv X0.warmed.alike hh0, s1.there X0.warmed.alike hh0, hz, l0, by omega, l2, fun i hi => by rw [Nat.zero_add]; exact hp i hi⟩)
  have e0 := Got.mv _ s₁ s _ _ hh0.symm (Vm.Alike.refl _) rfl E3
  obtain rfl := e0.1
  have c4 : Steps p.tables e below (s₁.setTop (entryFrame m #[.ref a, .ref b] 2)) (T3.setTop (mkF m 9 #[.val (.ref a), .val (.ref b)] [])) := g3
  exact ⟨T3, none, _, _, _, X3, by simp, rfl, by omega, (fun _ => rfl), e0, fun fs hl => c4.trans (X3.returnOut hexec hret (hb hbytes d9) hl)⟩
theorem pays {l : Launch} {R : Room} {p : Program} {e : Env} {below : List Frame} {s : State} {sargs : Array Value} {len W : Nat} (a : Addr) (D : Cell) (fV fC : Field) (b : Addr) (A : Cell) (z : Int32) (htab : tab.before sargs s = true) (hfr : 4 ≤ R.frames) (hlo : W + 65 ≤ R.locals) :
    Back l R p e below s sargs yN len W (fun A₁ a₁ => A₁.cells + 1 ≤ R.cells ∧ A₁.slots + A.slots.size ≤ R.slots ∧ P a D fV fC b A z a₁ A₁.U) (fun A₁ _ v₁ B₁ => E a D fV fC A v₁ A₁.U B₁.U ∧ B₁.locs = A₁.locs ++ [⟨a, fC.slot⟩, ⟨a, fV.slot⟩] ∧ B₁.cells = A₁.cells + 1 ∧ B₁.slots = A₁.slots + A.slots.size) :=
  (law l a D fV fC b A z).pays htab hfr (by omega)
end New1
/-- the byte, read back as charAt reads it, is the char -/
theorem lo8_mask {x : Int32} (h0 : ¬ x < 0) (h1 : ¬ 255 < x) : lo8 x &&& 255 = x := by
  have t : ∀ k : Fin 256, lo8 (Int32.ofNat k.val) &&& 255 = Int32.ofNat k.val := by decide +kernel
  rw [Int32.lt_iff_toInt_lt] at h0 h1
  have e0 : (0 : Int32).toInt = 0 := rfl
  have e1 : (255 : Int32).toInt = 255 := rfl
  obtain ⟨k, hk⟩ : ∃ k : Nat, x.toInt = k := ⟨x.toInt.toNat, by omega⟩
  have hx : x = Int32.ofNat k := Int32.toInt_inj.mp (by rw [hk, Int32.toInt_ofNat_small (by omega)])
  rw [hx]
  exact t ⟨k, by omega⟩
end StrChars
namespace StrChars.Road
open Jvm Sem ClassFile Op Lib Jvm.Stand Jvm.Free Jvm.Free.XT
open Jvm.Lib.Cold (StaticIs)
abbrev ST : String := "java/lang/String"
/-- every table word that New1's law asks, flat -/
abbrev words : List Jvm.Cond := [.code New1.yN New1.yB 2 none, .initialized ST, .methodLink ST 27 New4.yN, .instanceMethod New4.yN,
  .code New4.yN New4.yB 6 none, .fieldLink ST 38 ST "COMPACT_STRINGS" "Z", .laysFinal ST ST "value" "[B", .fieldLink ST 9 ST "value" "[B", .laysFinal ST ST "coder" "B", .fieldLink ST 15 ST "coder" "B",
  .methodLink ST 1 Lib.objectInit, .instanceMethod Lib.objectInit, .code Lib.objectInit ⟨#[0xb1]⟩ 1 none, .methodLink ST 177 Cmp3.yN, .static Cmp3.yN, .methodLink ST 47 CodL.yN, .static CodL.yN,
  .code Cmp3.yN Cmp3.yB 6 (some (.array .byte)), .initialized U16, .arrayClass .byte, .methodLink U16 115 Cmp5.yN, .static Cmp5.yN, .code Cmp5.yN Cmp5.yB 7 (some .int), .code CodL.yN CodL.yB 2 (some .byte)]
theorem tab_of {a : Array Value} {s : State} (h : ∀ w ∈ words, w.before a s = true) : New1.tab.before a s = true := by
  have h5 : Cmp5.tab.before a s = true := unparts (wk h (.code Cmp5.yN Cmp5.yB 7 (some .int))) (wks h (.initialized Cmp5.yN.cls :: Cmp5.site))
  have hc : CodL.tab.before a s = true := unparts (wk h (.code CodL.yN CodL.yB 2 (some .byte))) (wks h (.initialized CodL.yN.cls :: CodL.site))
  have q5 : ∀ w ∈ Cmp5.tab :: words, w.before a s = true := fun w hw => (List.mem_cons.mp hw).elim (fun e => e ▸ h5) (h w)
  have h3 : Cmp3.tab.before a s = true := unparts (wk q5 (.code Cmp3.yN Cmp3.yB 6 (some (.array .byte)))) (wks q5 (.initialized Cmp3.yN.cls :: Cmp3.site))
  have q3 : ∀ w ∈ Cmp3.tab :: CodL.tab :: words, w.before a s = true := fun w hw => (List.mem_cons.mp hw).elim (fun e => e ▸ h3) fun hw => (List.mem_cons.mp hw).elim (fun e => e ▸ hc) (h w)
  have h4 : New4.tab.before a s = true := unparts (wk q3 (.code New4.yN New4.yB 6 none)) (wks q3 (.initialized New4.yN.cls :: New4.site))
  have q4 : ∀ w ∈ New4.tab :: words, w.before a s = true := fun w hw => (List.mem_cons.mp hw).elim (fun e => e ▸ h4) (h w)
  exact unparts (wk q4 (.code New1.yN New1.yB 2 none)) (wks q4 (.initialized New1.yN.cls :: New1.site))
/-- the words ride from the start Z to the walk's own state -/
theorem moved {Z s : State} {a0 args : Array Value} (hZ : Z.Warmed39 s.vm) (hw : ∀ d ∈ words, d.before a0 Z = true) : ∀ d ∈ words, d.before args s = true := fun d hd => by
  have q := hw d hd
  have t : ∀ d ∈ words, d = .arrayClass .byte ∨ (d.onTables && d.keepsFace) = true := by decide +kernel
  rcases t d hd with rfl | t
  · exact RoadKit.mvA hZ q
  · exact RoadKit.mv hZ q t
/-- WHAT COMES BACK, over the tables of the start Z: h the heap at the call, h' behind it -/
def Q (Z : State) (x : Addr) (A : Cell) (h : Heap) (v : Option Value) (h' : Heap) (L : List Loc) : Prop := v = none ∧ (∀ y ∈ L, y.base = x) ∧ RoadKit.Keep h h' [x] ∧ h'.size = h.size + 1 ∧ RoadKit.Exa Z h' x ST ∧ RoadKit.Fld Z h' x ST "value" "[B" (.ref h.size) ∧ RoadKit.Fld Z h' x ST "coder" "B" (.int 0) ∧
  (∃ V : Cell, RoadKit.Arr Z h' h.size V .byte ∧ V.vm = .none ∧ Z.vm.findClass "[B" = some V.cls ∧ V.slots.size = A.slots.size ∧ ∀ j, j < A.slots.size → V.slots[j]? = some (.int (lo8 (cv A j)))) ∧
  ∀ (O n d : String) (w : Value), RoadKit.Fld Z h x O n d w → RoadKit.slotOf Z O n d ≠ RoadKit.slotOf Z ST "value" "[B" → RoadKit.slotOf Z O n d ≠ RoadKit.slotOf Z ST "coder" "B" → RoadKit.Fld Z h' x O n d w
/-- **new String(chars) AT A CALL, IN THE ROAD'S FORM**: for specialBack behind newO: x the fresh String, b the char[] with the cell A -/
theorem back {p : Program} {l : Launch} {e : Env} {R : Room} {s : State} {args : Array Value} {below : List Frame} {len W : Nat} {Z : State} {a0 : Array Value} {h : Heap} (hZ : Z.Warmed39 s.vm) (hw : ∀ d ∈ words, d.before a0 Z = true) {kI : Nat} (wi : (Jvm.Cond.instantiable ST kI).before a0 Z = true)
    {x b : Addr} {A : Cell} {z : Int32} {v0 c0 : Value} (E : RoadKit.Exa Z h x ST) (V : RoadKit.Fld Z h x ST "value" "[B" v0) (C : RoadKit.Fld Z h x ST "coder" "B" c0) (K : RoadKit.Arr Z h b A .char) (hty : Typed .char A) (S : RoadKit.Sta Z h ST "COMPACT_STRINGS" "Z" (.int z)) (hz : ¬ z = 0)
    (l0 : 0 < A.slots.size) (l2 : A.slots.size ≤ 536870912) (hp : ∀ i, i < A.slots.size → ¬ 255 < cv A i) (hfr : 4 ≤ R.frames) (hlo : W + 65 ≤ R.locals) :
    Back l R p e below s args New1.yN len W (fun P a => a = #[.ref x, .ref b] ∧ P.U.heap = h ∧ P.cells + 1 ≤ R.cells ∧ P.slots + A.slots.size ≤ R.slots)
      (fun P _ v B => ∃ L, Q Z x A h v B.U.heap L ∧ B.locs = P.locs ++ L ∧ B.cells = P.cells + 1 ∧ B.slots = P.slots + A.slots.size) := by
  intro m meth c P g ig mk a X hg hsize hdg hW hn hp'
  obtain ⟨rfl, rfl, r1, r2⟩ := hp'
  have al : Z.vm.Alike P.U.vm := hZ.alike.trans X.warmed.alike
  obtain ⟨D, cfV, kV, iV, fV, hD, gV, stV, knV, obV, asV, slV⟩ := id V
  obtain ⟨D', cfC, kC, iC, fC, hD', gC, stC, -, -, asC, slC⟩ := id C
  cases hD.symm.trans hD'
  obtain ⟨D2, kD, e1, e2, e3, e4, e5⟩ := id E
  cases hD.symm.trans e1
  obtain ⟨c2, k2, i1, i2, i3, -⟩ := Cond.instantiable_spec wi
  cases e2.symm.trans i1
  cases e3.symm.trans i2
  obtain ⟨kU, u1, u2⟩ := al.2.2 _ _ e3
  have hB : Blank ST x D P.U := ⟨hD, ⟨knV, fun q hq => by rw [hq] at obV; cases obV⟩, by rw [al.findClass]; exact e2, kU, u1, by rw [u2]; exact i3, by rw [u2]; exact e5 i3⟩
  have F1 : Found ST "value" "[B" fV P.U := ⟨SBG.found_only al ⟨cfV, kV, iV, gV⟩, stV⟩
  have F2 : Found ST "coder" "B" fC P.U := ⟨SBG.found_only al ⟨cfC, kC, iC, gC⟩, stC⟩
  have hA : Ch b A P.U := ⟨⟨K.1, State.isArrayOf_alike al K.2.1, K.2.2, by omega⟩, hty⟩
  have hS : StaticIs P.U ST "COMPACT_STRINGS" "Z" (.int z) := by
    obtain ⟨cfS, iS, kS, fS, st, cS, t1, t2, t3, t4, t5, t6, t7⟩ := S
    exact StaticIs.there (s := { Z with heap := P.U.heap }) ⟨cfS, iS, kS, fS, st, cS, t1, t2, t3, t4, t5, (fun q => by rw [q] at t6; cases t6), t7⟩ al rfl
  obtain ⟨v, B, X', ⟨⟨hv, E', V', q1, q2, q3, q4, q5, q6, q7, q8, q9, q10, q11⟩, hl, hc, hs⟩, st⟩ := New1.pays x D fV fC b A z (tab_of (moved hZ hw)) hfr hlo m meth c P g ig mk _ X hg hsize hdg hW hn ⟨r1, r2, rfl, hB, F1, F2, hA, hS, hz, l0, l2, hp⟩
  have al' : Z.vm.Alike B.U.vm := hZ.alike.trans X'.warmed.alike
  have hsz : E'.slots.size = D.slots.size := by
    obtain ⟨-, -, -, kB, w1, w2, w3⟩ := q1
    obtain ⟨kB', y1, y2⟩ := al'.2.2 _ _ e3
    rw [q2.2.1] at w1
    cases w1.symm.trans y1
    rw [w3, e5 i3, y2]
  refine ⟨v, B, X', ⟨_, ⟨hv, ?_, ⟨by omega, fun y cy hy hn' => q10 y cy (by simpa using hn') hy, fun y cy hy => ?_⟩, q11, ⟨E', _, q1.1, by rw [q2.2.1]; exact e2, by rw [q2.2.1]; exact e3, by rw [q2.1]; exact obV, fun _ => by rw [hsz]; exact e5 i3⟩,
    ⟨E', cfV, kV, iV, fV, q1.1, gV, stV, by rw [q2.1]; exact knV, by rw [q2.1]; exact obV, by rw [q2.2.1]; exact asV, q3⟩, ⟨E', cfC, kC, iC, fC, q1.1, gC, stC, by rw [q2.1]; exact knV, by rw [q2.1]; exact obV, by rw [q2.2.1]; exact asC, q4⟩,
    ⟨V', ⟨q5.1, State.isArrayOf_alike al'.symm q5.2.1, q5.2.2.1⟩, q6, by rw [← al'.findClass]; exact q7, q8, fun j hj => by have := q9 j hj; rwa [Nat.zero_add] at this⟩, fun O n d w F n1 n2 => ?_⟩, hl, hc, hs⟩, st⟩
  · intro y hy
    simp only [List.mem_cons, List.not_mem_nil, or_false] at hy
    rcases hy with rfl | rfl <;> rfl
  · by_cases q : y = x
    · subst q
      cases hD.symm.trans hy
      exact ⟨E', q1.1, q2.2.1, q2.1, hsz⟩
    · exact ⟨cy, q10 y cy q hy, rfl, rfl, rfl⟩
  · obtain ⟨D3, cf, k, i, f, g1, g2, g3, g4, g5, g6, g7⟩ := F
    cases hD.symm.trans g1
    simp only [RoadKit.slotOf, g2, gV, gC, Option.map_some, Option.getD_some] at n1 n2
    exact ⟨E', cf, k, i, f, q1.1, g2, g3, by rw [q2.1]; exact g4, by rw [q2.1]; exact g5, by rw [q2.2.1]; exact g6, by rw [q2.2.2 f.slot (by simp [n1, n2])]; exact g7⟩
end StrChars.Road
namespace StrChars.Road
open Jvm Sem ClassFile Op Lib Jvm.Stand Jvm.Free Jvm.Free.XT
/-- WHAT COMES BACK, the byte[] as a list of values -/
def QA (Z : State) (x : Addr) (zn : Int32) (cs : List Int32) (h : Heap) (v : Option Value) (h' : Heap) (L : List Loc) : Prop := v = none ∧ (∀ y ∈ L, y.base = x) ∧ RoadKit.Keep h h' [x] ∧ h'.size = h.size + 1 ∧ RoadKit.Exa Z h' x ST ∧ RoadKit.Fld Z h' x ST "value" "[B" (.ref h.size) ∧ RoadKit.Fld Z h' x ST "coder" "B" (.int 0) ∧
  (∃ kb, Z.vm.findClass "[B" = some kb ∧ RoadKit.Arv Z h' h.size kb .byte zn (cs.map fun c => .int (lo8 c)) (.int 0)) ∧
  ∀ (O n d : String) (w : Value), RoadKit.Fld Z h x O n d w → RoadKit.slotOf Z O n d ≠ RoadKit.slotOf Z ST "value" "[B" → RoadKit.slotOf Z O n d ≠ RoadKit.slotOf Z ST "coder" "B" → RoadKit.Fld Z h' x O n d w
/-- **new String(chars) AT A CALL, THE ARRAYS AS LISTS**: the char[] at b holds cs, not empty, no char above 255 -/
theorem backArv {p : Program} {l : Launch} {e : Env} {R : Room} {s : State} {args : Array Value} {below : List Frame} {len W : Nat} {Z : State} {a0 : Array Value} {h : Heap} (hZ : Z.Warmed39 s.vm) (hw : ∀ d ∈ words, d.before a0 Z = true) {kI : Nat} (wi : (Jvm.Cond.instantiable ST kI).before a0 Z = true)
    {x b : Addr} {k : ClassId} {zn z : Int32} {cs : List Int32} {dv v0 c0 : Value} (E : RoadKit.Exa Z h x ST) (V : RoadKit.Fld Z h x ST "value" "[B" v0) (C : RoadKit.Fld Z h x ST "coder" "B" c0) (K : RoadKit.Arv Z h b k .char zn (cs.map Value.int) dv) (S : RoadKit.Sta Z h ST "COMPACT_STRINGS" "Z" (.int z)) (hz : ¬ z = 0)
    (hlen : zn.toNatClampNeg = cs.length) (h0 : 0 < cs.length) (hbig : cs.length ≤ 536870912) (hall : ∀ c ∈ cs, ¬ 255 < c) (hfr : 4 ≤ R.frames) (hlo : W + 65 ≤ R.locals) :
    Back l R p e below s args New1.yN len W (fun P a => a = #[.ref x, .ref b] ∧ P.U.heap = h ∧ P.cells + 1 ≤ R.cells ∧ P.slots + cs.length ≤ R.slots)
      (fun P _ v B => ∃ L, QA Z x zn cs h v B.U.heap L ∧ B.locs = P.locs ++ L ∧ B.cells = P.cells + 1 ∧ B.slots = P.slots + cs.length) := by
  obtain ⟨A, K1, K2, K3, K4, K5, K6⟩ := K
  have e : A.slots.size = cs.length := K3.trans hlen
  have hat : ∀ (i : Nat) (hi : i < cs.length), A.slots[i]? = some (.int cs[i]) := fun i hi => by rw [K5 i (by omega)]; simp [List.getD_eq_getElem?_getD, hi]
  have hcv : ∀ (i : Nat) (hi : i < cs.length), cv A i = cs[i] := fun i hi => by unfold cv; rw [hat i hi]
  have hty : Typed .char A := fun i v hv => by
    have hi : i < A.slots.size := (Array.getElem?_eq_some_iff.mp hv).1
    have q := K5 i hi
    rw [hv] at q
    rw [Option.some.inj q]
    exact K6 i hi
  refine Back.mono (back hZ hw wi E V C K1 hty S hz (by omega) (by omega) (fun i hi => by rw [hcv i (by omega)]; exact hall _ (List.getElem_mem _)) hfr hlo) (fun P a hp => ⟨hp.1, hp.2.1, hp.2.2.1, by rw [e]; exact hp.2.2.2⟩) (fun P a v B hp hq => ?_)
  obtain ⟨L, ⟨q1, q2, q3, q4, q5, q6, q7, ⟨V', v1, v2, v3, v4, v5⟩, q9⟩, hl, hc, hs⟩ := hq
  refine ⟨L, ⟨q1, q2, q3, q4, q5, q6, q7, ⟨V'.cls, v3, V', v1, rfl, by rw [v4, e, hlen], K4, fun i hi => ?_, fun i hi => ?_⟩, q9⟩, hl, hc, by rw [hs, e]⟩
  · have hi' : i < cs.length := by omega
    rw [v5 i (by omega), hcv i hi']; simp [List.getD_eq_getElem?_getD, hi']
  · have hi' : i < cs.length := by omega
    simp only [List.getD_eq_getElem?_getD, List.getElem?_map, List.getElem?_eq_getElem hi', Option.map_some, Option.getD_some]
    exact fits_lo8 _
end StrChars.Road
namespace StrChars.Road
open Jvm Sem ClassFile Op Lib Jvm.Stand Jvm.Free Jvm.Free.XT
/-- WHAT COMES BACK, in the writer's own shape -/
def QV (Z : State) (x : Addr) (N : Int32) (bs : List Int32) (h : Heap) (n0 : Nat) (v : Option Value) (h' : Heap) (L : List Loc) : Prop := v = none ∧ RoadKit.Fr n0 L ∧ RoadKit.Keep h h' [x] ∧ RoadKit.Exa Z h' x ST ∧ RoadKit.Fld Z h' x ST "coder" "B" (.int 0) ∧
  ∃ (t : Addr) (kb : ClassId), n0 ≤ t ∧ h.size ≤ t ∧ ¬ t = x ∧ RoadKit.Fld Z h' x ST "value" "[B" (.ref t) ∧ RoadKit.Arv Z h' t kb .byte N (bs.map Value.int) (.int 0)
/-- **new String(chars) AT A CALL, FOR THE WRITER**: a char[] of n known ints, each 0 to 255 -/
theorem backV {p : Program} {l : Launch} {e : Env} {R : Room} {s : State} {args : Array Value} {below : List Frame} {len W : Nat} {Z : State} {a0 : Array Value} {h : Heap} (hZ : Z.Warmed39 s.vm) (hw : ∀ d ∈ words, d.before a0 Z = true) {kI : Nat} (wi : (Jvm.Cond.instantiable ST kI).before a0 Z = true)
    {x b : Addr} {kC : ClassId} {cs bs : List Int32} {d v0 c0 : Value} {z N : Int32} {n n0 : Nat} (hx0 : n0 ≤ x) (hh0 : n0 ≤ h.size) (E : RoadKit.Exa Z h x ST) (V : RoadKit.Fld Z h x ST "value" "[B" v0) (C : RoadKit.Fld Z h x ST "coder" "B" c0) (K : RoadKit.Arv Z h b kC .char N (cs.map Value.int) d) (S : RoadKit.Sta Z h ST "COMPACT_STRINGS" "Z" (.int z)) (hz : ¬ z = 0)
    (hn : cs.length = n) (hN : N = Int32.ofNat n) (l0 : 0 < n) (l2 : n ≤ 4000) (hp : ∀ c ∈ cs, ¬ c < 0 ∧ ¬ (255 : Int32) < c) (hb : bs = cs.map (fun c => c.toInt8.toInt32)) (hfr : 4 ≤ R.frames) (hlo : W + 65 ≤ R.locals) :
    Back l R p e below s args (⟨"java/lang/String", "<init>", "([C)V"⟩ : MethodName) len W (fun P a => a = #[.ref x, .ref b] ∧ P.U.heap = h ∧ P.cells + 1 ≤ R.cells ∧ P.slots + n ≤ R.slots)
      (fun P _ v B => ∃ L, QV Z x N bs h n0 v B.U.heap L ∧ B.locs = P.locs ++ L ∧ B.cells = P.cells + 1 ∧ B.slots = P.slots + n) := by
  subst hn hN hb
  refine Back.mono (backArv hZ hw wi E V C K S hz (n32 (by omega)) l0 (by omega) (fun c hc => (hp c hc).2) hfr hlo) (fun P a hp => hp) (fun P a v B hp hq => ?_)
  obtain ⟨L, ⟨q1, q2, q3, q4, q5, q6, q7, ⟨kb, v1, v2⟩, q9⟩, hl, hc, hs⟩ := hq
  exact ⟨L, ⟨q1, fun y hy => by rw [q2 y hy]; exact hx0, q3, q5, q7, h.size, kb, hh0, Nat.le_refl _, Nat.ne_of_gt E.lt, q6, by rw [List.map_map]; exact v2⟩, hl, hc, hs⟩
end StrChars.Road
namespace StrChars
open Jvm Sem ClassFile Op Lib Jvm.Stand Jvm.Free.XT Jvm.Free.ALB Jvm.Free.JM Jvm.Free
open Jvm.Lib.Cold (StaticIs)
def hi8 (x : Int32) : Int32 := lo8 (x >>> ((8 : Int32) &&& 31))
/-- what StringUTF16.getChar makes of two bytes -/
def pairCh (u v : Int32) : Int32 := (((u &&& 255) <<< ((0 : Int32) &&& 31)) ||| ((v &&& 255) <<< ((8 : Int32) &&& 31))).toUInt32.toUInt16.toUInt32.toInt32
theorem lo8_and (x : Int32) : (lo8 x &&& 255).toBitVec.toNat = x.toBitVec.toNat % 256 := by
  have h : (lo8 x).toBitVec = (x.toBitVec.signExtend 8).signExtend 32 := by rw [lo8, Int8.toBitVec_toInt32, Int32.toBitVec_toInt8]
  rw [Int32.toBitVec_and, BitVec.toNat_and, h]
  have e : ((x.toBitVec.signExtend 8).signExtend 32).toNat % 256 = x.toBitVec.toNat % 256 := by
    rw [BitVec.toNat_signExtend]
    have hlt := x.toBitVec.isLt
    simp only [BitVec.toNat_setWidth, BitVec.toNat_signExtend]
    split <;> split <;> omega
  rw [← e]
  exact Nat.and_two_pow_sub_one_eq_mod _ 8
theorem pair_says {c : Int32} (h0 : ¬ c < 0) (h1 : ¬ 65535 < c) : pairCh (lo8 c) (hi8 c) = c := by
  rw [Int32.lt_iff_toInt_lt] at h0 h1
  have e0 : (0 : Int32).toInt = 0 := rfl
  have e1 : (65535 : Int32).toInt = 65535 := rfl
  have hc : c.toInt = c.toBitVec.toNat := by
    have := c.toBitVec.isLt
    have e : c.toInt = c.toBitVec.toInt := rfl
    rw [e] at h0 h1
    rw [e]
    rw [BitVec.toInt_eq_toNat_cond] at h0 h1 ⊢
    split at h0 <;> split <;> omega
  have hn : c.toBitVec.toNat < 65536 := by omega
  have a1 := lo8_and c
  have a2 : (hi8 c &&& 255).toBitVec.toNat = c.toBitVec.toNat / 256 := by
    rw [hi8, lo8_and]
    have e : ((8 : Int32) &&& 31) = 8 := by decide
    rw [e, Int32.toBitVec_shiftRight]
    have e2 : ((8 : Int32).toBitVec.smod 32) = 8#32 := by decide
    rw [e2, BitVec.sshiftRight_eq', BitVec.toNat_sshiftRight_of_msb_false (by rw [BitVec.msb_eq_false_iff_two_mul_lt]; omega)]
    show c.toBitVec.toNat >>> 8 % 256 = _
    rw [Nat.shiftRight_eq_div_pow]
    omega
  unfold pairCh
  apply Int32.toBitVec_inj.mp
  apply BitVec.eq_of_toNat_eq
  have f0 : ((0 : Int32) &&& 31) = 0 := by decide
  have f8 : ((8 : Int32) &&& 31) = 8 := by decide
  rw [f0, f8]
  have g : (((lo8 c &&& 255) <<< (0 : Int32)) ||| ((hi8 c &&& 255) <<< (8 : Int32))).toBitVec.toNat = c.toBitVec.toNat := by
    rw [Int32.toBitVec_or, Int32.toBitVec_shiftLeft, Int32.toBitVec_shiftLeft]
    have s0 : ((0 : Int32).toBitVec.smod 32) = 0#32 := by decide
    have s8 : ((8 : Int32).toBitVec.smod 32) = 8#32 := by decide
    rw [s0, s8, BitVec.toNat_or]
    simp only [BitVec.shiftLeft_eq', BitVec.toNat_shiftLeft, a1, a2]
    show (c.toBitVec.toNat % 256) <<< 0 % 2 ^ 32 ||| (c.toBitVec.toNat / 256) <<< 8 % 2 ^ 32 = _
    rw [Nat.shiftLeft_zero, Nat.mod_eq_of_lt (show c.toBitVec.toNat % 256 < 2 ^ 32 by omega), Nat.mod_eq_of_lt (show (c.toBitVec.toNat / 256) <<< 8 < 2 ^ 32 by rw [Nat.shiftLeft_eq]; omega), Nat.or_comm, ← Nat.shiftLeft_add_eq_or_of_lt (by omega), Nat.shiftLeft_eq]
    omega
  show BitVec.toNat (((((lo8 c &&& 255) <<< (0 : Int32)) ||| ((hi8 c &&& 255) <<< (8 : Int32))).toBitVec.setWidth 16).setWidth 32) = _
  rw [BitVec.toNat_setWidth, BitVec.toNat_setWidth, g]
  omega
end StrChars
namespace StrChars
open Jvm Sem ClassFile Op Lib Jvm.Stand Jvm.Free.XT Jvm.Free.ALB Jvm.Free.JM Jvm.Free
open Jvm.Lib.Cold (StaticIs)
/-- the array's cell V codes the n chars f 0 .. f (n - 1) by the coder cd, as the JDK does: coder 1 just where some char is above 255 -/
def Cod (cd : Int32) (n : Nat) (f : Nat → Int32) (V : Cell) : Prop := (cd = 0 ∧ V.slots.size = n ∧ ∀ j, j < n → V.slots[j]? = some (.int (lo8 (f j))) ∧ ¬ 255 < f j) ∨ (cd = 1 ∧ V.slots.size = 2 * n ∧ (∀ j, j < n → V.slots[2 * j]? = some (.int (lo8 (f j))) ∧ V.slots[2 * j + 1]? = some (.int (hi8 (f j)))) ∧ ∃ j, j < n ∧ 255 < f j)
/-- **x is a String of the n chars f 0 .. f (n - 1)**, Latin-1 or UTF-16; its array at t has the cell V -/
def Txt (x t : Addr) (V : Cell) (cd : Int32) (n : Nat) (f : Nat → Int32) (U : State) : Prop := Exact "java/lang/String" x U ∧ Has x "java/lang/String" "value" "[B" (.ref t) U ∧ Has x "java/lang/String" "coder" "B" (.int cd) U ∧ XT.Arr .byte t V U ∧ Cod cd n f V ∧ ∀ j, j < n → ¬ f j < 0 ∧ ¬ 65535 < f j
theorem Txt.mv {x t : Addr} {V : Cell} {cd : Int32} {n : Nat} {f : Nat → Int32} {U U' : State} (h : Txt x t V cd n f U) (hal : U.vm.Alike U'.vm) (hh : U'.heap = U.heap) : Txt x t V cd n f U' := ⟨h.1.mv hal hh, h.2.1.mv hal hh, h.2.2.1.mv hal hh, h.2.2.2.1.mv hal hh, h.2.2.2.2⟩
end StrChars
namespace StrChars.Road
open Jvm Sem ClassFile Op Lib Jvm.Stand Jvm.Free Jvm.Free.XT
open Jvm.Lib.Cold (StaticIs)
theorem consq {a : Array Value} {s : State} {c : Jvm.Cond} {L : List Jvm.Cond} (h0 : c.before a s = true) (h : ∀ w ∈ L, w.before a s = true) : ∀ w ∈ c :: L, w.before a s = true := fun w hw => (List.mem_cons.mp hw).elim (fun e => e ▸ h0) (h w)
/-- the bytes of the chars cs, low before high -/
def wideBytes : List Int32 → List Value
  | [] => []
  | c :: cs => .int (lo8 c) :: .int (hi8 c) :: wideBytes cs
theorem wide_lo (d : Value) : ∀ (cs : List Int32) (j : Nat), j < cs.length → (wideBytes cs).getD (2 * j) d = .int (lo8 (cs.getD j 0))
  | [], j, h => absurd h (Nat.not_lt_zero j)
  | c :: cs, 0, _ => rfl
  | c :: cs, j + 1, h => by
    have q := wide_lo d cs j (by simpa using h)
    rw [show 2 * (j + 1) = 2 * j + 1 + 1 from by omega]
    simpa [wideBytes] using q
theorem wide_hi (d : Value) : ∀ (cs : List Int32) (j : Nat), j < cs.length → (wideBytes cs).getD (2 * j + 1) d = .int (hi8 (cs.getD j 0))
  | [], j, h => absurd h (Nat.not_lt_zero j)
  | c :: cs, 0, _ => rfl
  | c :: cs, j + 1, h => by
    have q := wide_hi d cs j (by simpa using h)
    rw [show 2 * (j + 1) + 1 = 2 * j + 1 + 1 + 1 from by omega]
    simpa [wideBytes] using q
theorem low_at (d : Value) (cs : List Int32) (j : Nat) (h : j < cs.length) : (cs.map fun c => Value.int (lo8 c)).getD j d = .int (lo8 (cs.getD j 0)) := by
  simp [List.getD_eq_getElem?_getD, h]
/-- an array of N2 bytes vs codes the chars cs by the coder cd -/
def CodA (cs : List Int32) (cd N2 : Int32) (vs : List Value) : Prop := (cd = 0 ∧ N2 = Int32.ofNat cs.length ∧ vs = (cs.map fun c => Value.int (lo8 c)) ∧ ∀ c ∈ cs, ¬ 255 < c) ∨ (cd = 1 ∧ N2 = Int32.ofNat (2 * cs.length) ∧ vs = wideBytes cs ∧ ∃ c ∈ cs, 255 < c)
theorem CodA.cod {cs : List Int32} {cd N2 : Int32} {vs : List Value} {V : Cell} (h : CodA cs cd N2 vs) (hn : 2 * cs.length < 2 ^ 31) (hs : V.slots.size = N2.toNatClampNeg) (hv : RoadKit.Has V vs (.int 0)) : Cod cd cs.length (fun j => cs.getD j 0) V := by
  rcases h with ⟨rfl, rfl, rfl, h⟩ | ⟨rfl, rfl, rfl, c, hc, hw⟩
  · rw [n32 (by omega)] at hs
    exact Or.inl ⟨rfl, hs, fun j hj => ⟨by rw [hv j (by omega), low_at _ _ _ hj], by
      have e : cs.getD j 0 = cs[j] := by simp [List.getD_eq_getElem?_getD, hj]
      show ¬ 255 < cs.getD j 0
      rw [e]; exact h _ (List.getElem_mem _)⟩⟩
  · rw [n32 (by omega)] at hs
    obtain ⟨j, hj, rfl⟩ := List.getElem_of_mem hc
    exact Or.inr ⟨rfl, hs, fun j hj => ⟨by rw [hv _ (by omega), wide_lo _ _ _ hj], by rw [hv _ (by omega), wide_hi _ _ _ hj]⟩, j, hj, by
      have e : cs.getD j 0 = cs[j] := by simp [List.getD_eq_getElem?_getD, hj]
      show 255 < cs.getD j 0
      rw [e]; exact hw⟩
/-- an object of exactly java/lang/String, its two fields found: as the laws ask it -/
theorem strObj {Z U : State} {a0 : Array Value} {kI : Nat} (wi : (Jvm.Cond.instantiable ST kI).before a0 Z = true) (al : Z.vm.Alike U.vm) {x : Addr} {v0 c0 : Value} (E : RoadKit.Exa Z U.heap x ST) (V : RoadKit.Fld Z U.heap x ST "value" "[B" v0) (C : RoadKit.Fld Z U.heap x ST "coder" "B" c0) :
    ∃ (D : Cell) (fV fC : Field), Blank ST x D U ∧ Found ST "value" "[B" fV U ∧ Found ST "coder" "B" fC U ∧ D.slots[fV.slot]? = some v0 ∧ D.slots[fC.slot]? = some c0 ∧ RoadKit.slotOf Z ST "value" "[B" = fV.slot ∧ RoadKit.slotOf Z ST "coder" "B" = fC.slot := by
  obtain ⟨D, cfV, kV, iV, fV, hD, gV, stV, knV, obV, asV, slV⟩ := V
  obtain ⟨D', cfC, kC, iC, fC, hD', gC, stC, -, -, asC, slC⟩ := C
  cases hD.symm.trans hD'
  obtain ⟨D2, kD, e1, e2, e3, e4, e5⟩ := E
  cases hD.symm.trans e1
  obtain ⟨c2, k2, i1, i2, i3, -⟩ := Cond.instantiable_spec wi
  cases e2.symm.trans i1
  cases e3.symm.trans i2
  obtain ⟨kU, u1, u2⟩ := al.2.2 _ _ e3
  exact ⟨D, fV, fC, ⟨hD, ⟨knV, fun q hq => by rw [hq] at obV; cases obV⟩, by rw [al.findClass]; exact e2, kU, u1, by rw [u2]; exact i3, by rw [u2]; exact e5 i3⟩, ⟨SBG.found_only al ⟨cfV, kV, iV, gV⟩, stV⟩, ⟨SBG.found_only al ⟨cfC, kC, iC, gC⟩, stC⟩, slV, slC, by simp [RoadKit.slotOf, gV], by simp [RoadKit.slotOf, gC]⟩
theorem sta_is {Z U : State} (al : Z.vm.Alike U.vm) {C n d : String} {v : Value} (S : RoadKit.Sta Z U.heap C n d v) : StaticIs U C n d v := by
  obtain ⟨cfS, iS, kS, fS, st, cS, t1, t2, t3, t4, t5, t6, t7⟩ := S
  exact StaticIs.there (s := { Z with heap := U.heap }) ⟨cfS, iS, kS, fS, st, cS, t1, t2, t3, t4, t5, (fun q => by rw [q] at t6; cases t6), t7⟩ al rfl
end StrChars.Road
namespace StrChars
open Jvm Sem ClassFile Op Lib Jvm.Stand Jvm.Free.XT Jvm.Free.ALB Jvm.Free.JM Jvm.Free
open Jvm.Lib.Cold (StaticIs)
/-- what place i of a byte[]'s cell holds -/
def yv (A : Cell) (i : Nat) : Int32 := match A.slots[i]? with | some (.int x) => x | _ => 0
theorem yv_get {a : Addr} {A : Cell} {U : State} (h : XT.Arr .byte a A U) (ht : Typed .byte A) {i : Nat} (hi : i < A.slots.size) : A.slots[i]? = some (.int (yv A i)) := by
  have e := Array.getElem?_eq_getElem hi
  have f := ht i _ e
  unfold yv; rw [e]
  generalize A.slots[i] = v at f
  cases v <;> simp [fits] at f ⊢
/-- the two arrays are equal, place for place -/
def EqC (A B : Cell) : Prop := A.slots.size = B.slots.size ∧ ∀ i, i < A.slots.size → yv A i = yv B i
/-- a boolean that says whether p -/
def Says01 (q : Prop) (r : Option Value) (s u : State) : Prop := ∃ v : Int32, r = some (.int v) ∧ u.heap = s.heap ∧ ((v = 1 ∧ q) ∨ (v = 0 ∧ ¬ q))
theorem Says01.mv {q : Prop} : ∀ r (U U' V V' : State), U'.heap = U.heap → V.vm.Alike V'.vm → V'.heap = V.heap → Says01 q r U V → Says01 q r U' V' :=
  fun r U U' V V' h1 _ h2 ⟨v, a, b, c⟩ => ⟨v, a, by rw [h1, h2]; exact b, c⟩
namespace LEq
def yN : MethodName := ⟨"java/lang/StringLatin1", "equals", "([B[B)Z"⟩
abbrev yB : ByteArray := jdk_43_method_13_code
theorem d0 : decode yB 0 = .ok (.aload_n 0, 1) := by decide +kernel
theorem d1 : decode yB 1 = .ok (.arraylength, 1) := by decide +kernel
theorem d2 : decode yB 2 = .ok (.aload_n 1, 1) := by decide +kernel
theorem d3 : decode yB 3 = .ok (.arraylength, 1) := by decide +kernel
theorem d4 : decode yB 4 = .ok (.if_icmp (.ne) 30, 3) := by decide +kernel
theorem d7 : decode yB 7 = .ok (.iconst 0, 1) := by decide +kernel
theorem d8 : decode yB 8 = .ok (.istore_n 2, 1) := by decide +kernel
theorem d9 : decode yB 9 = .ok (.iload_n 2, 1) := by decide +kernel
theorem d10 : decode yB 10 = .ok (.aload_n 0, 1) := by decide +kernel
theorem d11 : decode yB 11 = .ok (.arraylength, 1) := by decide +kernel
theorem d12 : decode yB 12 = .ok (.if_icmp (.ge) 20, 3) := by decide +kernel
theorem d15 : decode yB 15 = .ok (.aload_n 0, 1) := by decide +kernel
theorem d16 : decode yB 16 = .ok (.iload_n 2, 1) := by decide +kernel
theorem d17 : decode yB 17 = .ok (.baload, 1) := by decide +kernel
theorem d18 : decode yB 18 = .ok (.aload_n 1, 1) := by decide +kernel
theorem d19 : decode yB 19 = .ok (.iload_n 2, 1) := by decide +kernel
theorem d20 : decode yB 20 = .ok (.baload, 1) := by decide +kernel
theorem d21 : decode yB 21 = .ok (.if_icmp (.eq) 5, 3) := by decide +kernel
theorem d24 : decode yB 24 = .ok (.iconst 0, 1) := by decide +kernel
theorem d25 : decode yB 25 = .ok (.ireturn, 1) := by decide +kernel
theorem d26 : decode yB 26 = .ok (.iinc 2 1, 3) := by decide +kernel
theorem d29 : decode yB 29 = .ok (.goto (-20), 3) := by decide +kernel
theorem d32 : decode yB 32 = .ok (.iconst 1, 1) := by decide +kernel
theorem d33 : decode yB 33 = .ok (.ireturn, 1) := by decide +kernel
theorem d34 : decode yB 34 = .ok (.iconst 0, 1) := by decide +kernel
theorem d35 : decode yB 35 = .ok (.ireturn, 1) := by decide +kernel
def site : List Cond := []
def tab : Cond := tabOf yN yB 3 (some .boolean) site
def P (a : Addr) (A : Cell) (b : Addr) (B : Cell) (args : Array Value) (s : State) : Prop := args = #[.ref a, .ref b] ∧ XT.Arr .byte a A s ∧ Typed .byte A ∧ XT.Arr .byte b B s ∧ Typed .byte B
/-- whether two byte[] are equal, place for place -/
theorem law (l : Launch) (a : Addr) (A : Cell) (b : Addr) (B : Cell) : Law l yN 2 2 0 0 yB 3 (some .boolean) site (P a A b B) (Says01 (EqC A B)) [] 0 0 := by
  refine Law.of_walk (plainFor_of_name (by decide +kernel)) (by decide +kernel) (by decide +kernel) (by decide) (fun _ _ h => by rw [h.1]; rfl) (fun _ U U' hal hh h => ⟨h.1, h.2.1.mv hal hh, h.2.2.1, h.2.2.2.1.mv hal hh, h.2.2.2.2⟩) (fun r U U' V V' h1 hal h2 h => Says01.mv r U U' V V' h1 hal h2 h) ?_
  intro p e s m args below meth c s₁ X0 hexec hbytes hml hret hlk hnm hown hh0 W hP
  obtain ⟨rfl, hA, tA, hB, tB⟩ := hP
  have a31 := hA.2.2.2
  have b31 := hB.2.2.2
  have hA0 := hA.mv X0.warmed.alike hh0
  have hB0 := hB.mv X0.warmed.alike hh0
  have c1 : Steps p.tables e below (s₁.setTop (entryFrame m #[.ref a, .ref b] 3)) (s₁.setTop (mkF m 0 #[.val (.ref a), .val (.ref b), .unset] [])) := entry rfl
  have c2 : Steps p.tables e below (s₁.setTop (entryFrame m #[.ref a, .ref b] 3)) (s₁.setTop (mkF m 4 #[.val (.ref a), .val (.ref b), .unset] [.int (Int32.ofNat B.slots.size), .int (Int32.ofNat A.slots.size)])) := c1.trans (by
    refine XS.aloadN X0.here hexec rfl (hb hbytes d0) rfl rfl ?_
    refine X0.alen hexec hA0 rfl rfl (hb hbytes d1) ?_
    refine XS.aloadN X0.here hexec rfl (hb hbytes d2) rfl rfl ?_
    refine X0.alen hexec hB0 rfl rfl (hb hbytes d3) ?_
    exact Steps.refl _)
  by_cases hs : A.slots.size = B.slots.size
  · have c3 : Steps p.tables e below (s₁.setTop (entryFrame m #[.ref a, .ref b] 3)) (s₁.setTop (mkF m 9 #[.val (.ref a), .val (.ref b), .val (.int 0)] [])) := c2.trans (by
      refine XS.icmpNo X0.here hexec rfl (hb hbytes d4) rfl (ii_ne_f (by rw [hs])) ?_
      refine iconstV X0.here hexec rfl 0 (hb hbytes d7) (by decide) ?_
      refine XS.istoreN X0.here hexec rfl (hb hbytes d8) rfl rfl ?_
      exact Steps.refl _)
    have loop : ∀ (r i : Nat), i + r = A.slots.size → (∀ j, j < i → yv A j = yv B j) → Steps p.tables e below (s₁.setTop (entryFrame m #[.ref a, .ref b] 3)) (s₁.setTop (mkF m 9 #[.val (.ref a), .val (.ref b), .val (.int (Int32.ofNat i))] [])) → ∃ (pc : Nat) (Ls : Array Slot) (v : Int32), (pc = 25 ∨ pc = 33) ∧ ((v = 1 ∧ EqC A B) ∨ (v = 0 ∧ ¬ EqC A B)) ∧ Steps p.tables e below (s₁.setTop (entryFrame m #[.ref a, .ref b] 3)) (s₁.setTop (mkF m pc Ls [.int v])) := by
      intro r
      induction r with
      | zero =>
        intro i hi he cl
        exact ⟨33, _, 1, Or.inr rfl, Or.inl ⟨rfl, hs, fun j hj => he j (by omega)⟩, cl.trans (by
          refine XS.iloadN X0.here hexec rfl (hb hbytes d9) rfl ?_
          refine XS.aloadN X0.here hexec rfl (hb hbytes d10) rfl rfl ?_
          refine X0.alen hexec hA0 rfl rfl (hb hbytes d11) ?_
          refine XS.icmpYes X0.here hexec rfl (pc0 := 12) rfl (hb hbytes d12) rfl (ii_ge_t (nlt32 (by omega) (by omega))) (by decide) rfl ?_
          refine iconstV X0.here hexec rfl 1 (hb hbytes d32) (by decide) ?_
          exact Steps.refl _)⟩
      | succ r ih =>
        intro i hi he cl
        have c4 : Steps p.tables e below (s₁.setTop (entryFrame m #[.ref a, .ref b] 3)) (s₁.setTop (mkF m 21 #[.val (.ref a), .val (.ref b), .val (.int (Int32.ofNat i))] [.int (yv B i), .int (yv A i)])) := cl.trans (by
          refine XS.iloadN X0.here hexec rfl (hb hbytes d9) rfl ?_
          refine XS.aloadN X0.here hexec rfl (hb hbytes d10) rfl rfl ?_
          refine X0.alen hexec hA0 rfl rfl (hb hbytes d11) ?_
          refine XS.icmpNo X0.here hexec rfl (hb hbytes d12) rfl (ii_ge_f (lt32 (by omega) (by omega))) ?_
          refine XS.aloadN X0.here hexec rfl (hb hbytes d15) rfl rfl ?_
          refine XS.iloadN X0.here hexec rfl (hb hbytes d16) rfl ?_
          refine X0.aget hexec hA0 rfl (yv_get hA tA (i := i) (by omega)) rfl rfl (hb hbytes d17) ?_
          refine XS.aloadN X0.here hexec rfl (hb hbytes d18) rfl rfl ?_
          refine XS.iloadN X0.here hexec rfl (hb hbytes d19) rfl ?_
          refine X0.aget hexec hB0 rfl (yv_get hB tB (i := i) (by omega)) rfl rfl (hb hbytes d20) ?_
          exact Steps.refl _)
        by_cases hv : yv A i = yv B i
        · have c5 : Steps p.tables e below (s₁.setTop (entryFrame m #[.ref a, .ref b] 3)) (s₁.setTop (mkF m 9 #[.val (.ref a), .val (.ref b), .val (.int (Int32.ofNat i + 1))] [])) := c4.trans (by
            refine XS.icmpYes X0.here hexec rfl (pc0 := 21) rfl (hb hbytes d21) rfl (ii_eq_t hv) (by decide) rfl ?_
            refine iincV X0.here hexec rfl 1 (hb hbytes d26) (by decide) rfl rfl ?_
            refine XS.goto X0.here hexec rfl (pc0 := 29) rfl (hb hbytes d29) (by decide) rfl ?_
            exact Steps.refl _)
          rw [succ32] at c5
          exact ih (i + 1) (by omega) (fun j hj => by
            by_cases e : j = i
            · rw [e]; exact hv
            · exact he j (by omega)) c5
        · exact ⟨25, _, 0, Or.inl rfl, Or.inr ⟨rfl, fun q => hv (q.2 i (by omega))⟩, c4.trans (by
            refine XS.icmpNo X0.here hexec rfl (hb hbytes d21) rfl (ii_eq_f hv) ?_
            refine iconstV X0.here hexec rfl 0 (hb hbytes d24) (by decide) ?_
            exact Steps.refl _)⟩
    obtain ⟨pc, Ls, v, hpc, hv, cz⟩ := loop A.slots.size 0 (by omega) (fun j hj => absurd hj (Nat.not_lt_zero j)) c3
    have nv : narrow .boolean (.int v) = .int v := by rcases hv with ⟨rfl, -⟩ | ⟨rfl, -⟩ <;> rfl
    rcases hpc with rfl | rfl
    · exact ⟨s₁, some (.int v), _, _, _, X0, rfl, rfl, rfl, (fun h => by cases h), ⟨v, rfl, hh0, hv⟩, fun fs hl => cz.trans (X0.ireturnOut hexec hret nv (Or.inr (Or.inl rfl)) (hb hbytes d25) hl)⟩
    · exact ⟨s₁, some (.int v), _, _, _, X0, rfl, rfl, rfl, (fun h => by cases h), ⟨v, rfl, hh0, hv⟩, fun fs hl => cz.trans (X0.ireturnOut hexec hret nv (Or.inr (Or.inl rfl)) (hb hbytes d33) hl)⟩
  · have c3 : Steps p.tables e below (s₁.setTop (entryFrame m #[.ref a, .ref b] 3)) (s₁.setTop (mkF m 35 #[.val (.ref a), .val (.ref b), .unset] [.int 0])) := c2.trans (by
      refine XS.icmpYes X0.here hexec rfl (pc0 := 4) rfl (hb hbytes d4) rfl (ii_ne_t (ne32 a31 b31 hs)) (by decide) rfl ?_
      refine iconstV X0.here hexec rfl 0 (hb hbytes d34) (by decide) ?_
      exact Steps.refl _)
    exact ⟨s₁, some (.int 0), _, _, _, X0, rfl, rfl, rfl, (fun h => by cases h), ⟨0, rfl, hh0, Or.inr ⟨rfl, fun q => hs q.1⟩⟩, fun fs hl => c3.trans (X0.ireturnOut hexec hret rfl (Or.inr (Or.inl rfl)) (hb hbytes d35) hl)⟩
end LEq
theorem Cod.ty {cd : Int32} {n : Nat} {f : Nat → Int32} {V : Cell} (h : Cod cd n f V) : Typed .byte V := fun i v hv => by
  have hi : i < V.slots.size := (Array.getElem?_eq_some_iff.mp hv).1
  rcases h with ⟨-, k1, k2⟩ | ⟨-, k1, k2, -⟩
  · rw [(k2 i (by omega)).1] at hv; cases hv; exact fits_lo8 _
  · rcases Nat.mod_two_eq_zero_or_one i with e | e
    · obtain ⟨j, rfl⟩ : ∃ j, i = 2 * j := ⟨i / 2, by omega⟩
      rw [(k2 j (by omega)).1] at hv; cases hv; exact fits_lo8 _
    · obtain ⟨j, rfl⟩ : ∃ j, i = 2 * j + 1 := ⟨i / 2, by omega⟩
      rw [(k2 j (by omega)).2] at hv; cases hv; exact fits_lo8 _
/-- the same text -/
def SameT (n : Nat) (f : Nat → Int32) (k : Nat) (g : Nat → Int32) : Prop := n = k ∧ ∀ j, j < n → f j = g j
theorem lo8_inj {x y : Int32} (h0 : ¬ x < 0) (h1 : ¬ 255 < x) (k0 : ¬ y < 0) (k1 : ¬ 255 < y) (h : lo8 x = lo8 y) : x = y := by
  rw [← lo8_mask h0 h1, ← lo8_mask k0 k1, h]
/-- arrays coded by one coder are equal just where the texts are -/
theorem Cod.eqv {cd : Int32} {n k : Nat} {f g : Nat → Int32} {V V' : Cell} (h : Cod cd n f V) (h' : Cod cd k g V') (hf : ∀ j, j < n → ¬ f j < 0 ∧ ¬ 65535 < f j) (hg : ∀ j, j < k → ¬ g j < 0 ∧ ¬ 65535 < g j) : EqC V V' ↔ SameT n f k g := by
  have yvv : ∀ {W : Cell} {i : Nat} {x : Int32}, W.slots[i]? = some (.int x) → yv W i = x := fun q => by unfold yv; rw [q]
  rcases h with ⟨rfl, k1, k2⟩ | ⟨rfl, k1, k2, -⟩
  · rcases h' with ⟨-, m1, m2⟩ | ⟨e, -⟩
    · constructor
      · rintro ⟨e1, e2⟩
        refine ⟨by omega, fun j hj => ?_⟩
        have q := e2 j (by omega)
        rw [yvv (k2 j hj).1, yvv (m2 j (by omega)).1] at q
        exact lo8_inj (hf j hj).1 (k2 j hj).2 (hg j (by omega)).1 (m2 j (by omega)).2 q
      · rintro ⟨rfl, e2⟩
        refine ⟨by omega, fun j hj => ?_⟩
        rw [yvv (k2 j (by omega)).1, yvv (m2 j (by omega)).1, e2 j (by omega)]
    · exact absurd e (by decide)
  · rcases h' with ⟨e, -⟩ | ⟨-, m1, m2, -⟩
    · exact absurd e (by decide)
    · constructor
      · rintro ⟨e1, e2⟩
        refine ⟨by omega, fun j hj => ?_⟩
        have q1 := e2 (2 * j) (by omega)
        have q2 := e2 (2 * j + 1) (by omega)
        rw [yvv (k2 j hj).1, yvv (m2 j (by omega)).1] at q1
        rw [yvv (k2 j hj).2, yvv (m2 j (by omega)).2] at q2
        rw [← pair_says (hf j hj).1 (hf j hj).2, ← pair_says (hg j (by omega)).1 (hg j (by omega)).2, q1, q2]
      · rintro ⟨rfl, e2⟩
        refine ⟨by omega, fun i hi => ?_⟩
        rcases Nat.mod_two_eq_zero_or_one i with e | e
        · obtain ⟨j, rfl⟩ : ∃ j, i = 2 * j := ⟨i / 2, by omega⟩
          rw [yvv (k2 j (by omega)).1, yvv (m2 j (by omega)).1, e2 j (by omega)]
        · obtain ⟨j, rfl⟩ : ∃ j, i = 2 * j + 1 := ⟨i / 2, by omega⟩
          rw [yvv (k2 j (by omega)).2, yvv (m2 j (by omega)).2, e2 j (by omega)]
/-- two codings differ: so do the texts -/
theorem Cod.dif {cd cd' : Int32} {n k : Nat} {f g : Nat → Int32} {V V' : Cell} (h : Cod cd n f V) (h' : Cod cd' k g V') (hne : ¬ cd = cd') : ¬ SameT n f k g := by
  rintro ⟨rfl, e⟩
  rcases h with ⟨rfl, -, k2⟩ | ⟨rfl, -, -, j, hj, hw⟩
  · rcases h' with ⟨rfl, -⟩ | ⟨-, -, -, j, hj, hw⟩
    · exact hne rfl
    · exact (k2 j hj).2 (by rw [e j hj]; exact hw)
  · rcases h' with ⟨-, -, m2⟩ | ⟨rfl, -⟩
    · exact (m2 j hj).2 (by rw [← e j hj]; exact hw)
    · exact hne rfl
/-- an object of exactly C is an instance of C -/
theorem cinst {p : Program} {l : Launch} {e : Env} {R : Room} {s : State} {m : MethodId} {args : Array Value} {below : List Frame} {meth : Method} {c : Code} {T : State} {locs : List Loc} {cells slots : Nat} (X : Stand p l e R s m args below meth c T locs cells slots) (hexec : p.tables.exec = Jvm.exec) {own C : String} {index : Nat} (hown : s.vm.findClass own = some m.cls) (hlink : (Cond.classLink own index C).before args s = true) {a : Addr} (hE : Exact C a T)
    {g : JFrame} (hg : g.method = m) {rest : List Value} (hstack : g.stack = .ref a :: rest) (hdg : decode c.code g.pc = .ok (.instanceof index, 3)) :
    ∃ T', Stand p l e R s m args below meth c T' locs cells slots ∧ T'.heap = T.heap ∧ ∀ target, Steps p.tables e below (T'.setTop { g with pc := g.pc + 3, stack := .int 1 :: rest }) target → Steps p.tables e below (T.setTop g) target := by
  obtain ⟨cB, h1, D, h2, h3, h4⟩ := hE
  have h1' : s.vm.findClass C = some cB := by rw [← X.warmed.alike.findClass]; exact h1
  obtain ⟨vm', X', st⟩ := X.instanceofYes hexec hown hlink h2 h4 h1' (by rw [h3]; exact Jvm.Free.SB.assignable_self _ _) hg hstack hdg
  exact ⟨_, X', rfl, st⟩
theorem cself {p : Program} {l : Launch} {e : Env} {R : Room} {s : State} {m : MethodId} {args : Array Value} {below : List Frame} {meth : Method} {c : Code} {T : State} {locs : List Loc} {cells slots : Nat} (X : Stand p l e R s m args below meth c T locs cells slots) (hexec : p.tables.exec = Jvm.exec) {own C : String} {index : Nat} (hown : s.vm.findClass own = some m.cls) (hlink : (Cond.classLink own index C).before args s = true) {a : Addr} (hE : Exact C a T)
    {g : JFrame} (hg : g.method = m) {rest : List Value} (hstack : g.stack = .ref a :: rest) (hdg : decode c.code g.pc = .ok (.checkcast index, 3)) :
    ∃ T', Stand p l e R s m args below meth c T' locs cells slots ∧ T'.heap = T.heap ∧ ∀ target, Steps p.tables e below (T'.setTop { g with pc := g.pc + 3, stack := .ref a :: rest }) target → Steps p.tables e below (T.setTop g) target := by
  obtain ⟨cB, h1, D, h2, h3, h4⟩ := hE
  have h1' : s.vm.findClass C = some cB := by rw [← X.warmed.alike.findClass]; exact h1
  obtain ⟨vm', X', st⟩ := X.checkcastYes hexec hown hlink h2 h4 h1' (by rw [h3]; exact Jvm.Free.SB.assignable_self _ _) hg hstack hdg
  exact ⟨_, X', rfl, fun t h => st t (by rw [← hstack] at h; exact h)⟩
namespace SEq
def yN : MethodName := ⟨"java/lang/String", "equals", "(Ljava/lang/Object;)Z"⟩
abbrev yB : ByteArray := jdk_42_method_66_code
theorem d0 : decode yB 0 = .ok (.aload_n 0, 1) := by decide +kernel
theorem d1 : decode yB 1 = .ok (.aload_n 1, 1) := by decide +kernel
theorem d2 : decode yB 2 = .ok (.if_acmp (.ne) 5, 3) := by decide +kernel
theorem d5 : decode yB 5 = .ok (.iconst 1, 1) := by decide +kernel
theorem d6 : decode yB 6 = .ok (.ireturn, 1) := by decide +kernel
theorem d7 : decode yB 7 = .ok (.aload_n 1, 1) := by decide +kernel
theorem d8 : decode yB 8 = .ok (.instanceof 10, 3) := by decide +kernel
theorem d11 : decode yB 11 = .ok (.ifCond (.eq) 43, 3) := by decide +kernel
theorem d14 : decode yB 14 = .ok (.aload_n 1, 1) := by decide +kernel
theorem d15 : decode yB 15 = .ok (.checkcast 10, 3) := by decide +kernel
theorem d18 : decode yB 18 = .ok (.astore_n 2, 1) := by decide +kernel
theorem d19 : decode yB 19 = .ok (.getstatic 38, 3) := by decide +kernel
theorem d22 : decode yB 22 = .ok (.ifCond (.eq) 14, 3) := by decide +kernel
theorem d25 : decode yB 25 = .ok (.aload_n 0, 1) := by decide +kernel
theorem d26 : decode yB 26 = .ok (.getfield 15, 3) := by decide +kernel
theorem d29 : decode yB 29 = .ok (.aload_n 2, 1) := by decide +kernel
theorem d30 : decode yB 30 = .ok (.getfield 15, 3) := by decide +kernel
theorem d33 : decode yB 33 = .ok (.if_icmp (.ne) 21, 3) := by decide +kernel
theorem d36 : decode yB 36 = .ok (.aload_n 0, 1) := by decide +kernel
theorem d37 : decode yB 37 = .ok (.getfield 9, 3) := by decide +kernel
theorem d40 : decode yB 40 = .ok (.aload_n 2, 1) := by decide +kernel
theorem d41 : decode yB 41 = .ok (.getfield 9, 3) := by decide +kernel
theorem d44 : decode yB 44 = .ok (.invokestatic 541, 3) := by decide +kernel
theorem d47 : decode yB 47 = .ok (.ifCond (.eq) 7, 3) := by decide +kernel
theorem d50 : decode yB 50 = .ok (.iconst 1, 1) := by decide +kernel
theorem d51 : decode yB 51 = .ok (.goto 4, 3) := by decide +kernel
theorem d54 : decode yB 54 = .ok (.iconst 0, 1) := by decide +kernel
theorem d55 : decode yB 55 = .ok (.ireturn, 1) := by decide +kernel
def site : List Cond := [.classLink "java/lang/String" 10 "java/lang/String", .fieldLink "java/lang/String" 38 "java/lang/String" "COMPACT_STRINGS" "Z", .fieldLink "java/lang/String" 15 "java/lang/String" "coder" "B", .fieldLink "java/lang/String" 9 "java/lang/String" "value" "[B", LEq.tab] ++ staticW "java/lang/String" 541 LEq.yN
def tab : Cond := tabOf yN yB 3 (some .boolean) site
def P (x t : Addr) (V : Cell) (cd : Int32) (n : Nat) (f : Nat → Int32) (y t' : Addr) (V' : Cell) (cd' : Int32) (k : Nat) (g : Nat → Int32) (z : Int32) (args : Array Value) (s : State) : Prop := args = #[.ref x, .ref y] ∧ Txt x t V cd n f s ∧ Txt y t' V' cd' k g s ∧ StaticIs s "java/lang/String" "COMPACT_STRINGS" "Z" (.int z) ∧ ¬ z = 0
/-- equals(Object) of two Strings: whether the texts are the same -/
theorem law (l : Launch) (x t : Addr) (V : Cell) (cd : Int32) (n : Nat) (f : Nat → Int32) (y t' : Addr) (V' : Cell) (cd' : Int32) (k : Nat) (g : Nat → Int32) (z : Int32) : Law l yN 2 1 1 14 yB 3 (some .boolean) site (P x t V cd n f y t' V' cd' k g z) (Says01 (SameT n f k g)) [] 0 0 := by
  refine Law.of_walk (plainFor_of_name (by decide +kernel)) (by decide +kernel) (by decide +kernel) (by decide) (fun _ _ h => by rw [h.1]; rfl) (fun _ U U' hal hh h => ⟨h.1, h.2.1.mv hal hh, h.2.2.1.mv hal hh, h.2.2.2.1.there hal hh, h.2.2.2.2⟩) (fun r U U' V V' h1 hal h2 h => Says01.mv r U U' V V' h1 hal h2 h) ?_
  intro p e s m args below meth c s₁ X0 hexec hbytes hml hret hlk hnm hown hh0 W hP
  obtain ⟨rfl, hx, hy, s1, hz⟩ := hP
  have c1 : Steps p.tables e below (s₁.setTop (entryFrame m #[.ref x, .ref y] 3)) (s₁.setTop (mkF m 2 #[.val (.ref x), .val (.ref y), .unset] [.ref y, .ref x])) := Steps.trans (entry rfl) (by
    show Steps p.tables e below (s₁.setTop (mkF m 0 #[.val (.ref x), .val (.ref y), .unset] [])) _
    refine XS.aloadN X0.here hexec rfl (hb hbytes d0) rfl rfl ?_
    refine XS.aloadN X0.here hexec rfl (hb hbytes d1) rfl rfl ?_
    exact Steps.refl _)
  by_cases hxy : x = y
  · have c2 : Steps p.tables e below (s₁.setTop (entryFrame m #[.ref x, .ref y] 3)) (s₁.setTop (mkF m 6 #[.val (.ref x), .val (.ref y), .unset] [.int 1])) := c1.trans (by
      refine acmpNo X0.here hexec rfl (hb hbytes d2) rfl rfl rfl (by simp [acmp, hxy]) ?_
      refine iconstV X0.here hexec rfl 1 (hb hbytes d5) (by decide) ?_
      exact Steps.refl _)
    subst hxy
    have ec : cd = cd' := by
      obtain ⟨D, fd, a1, a2, a3⟩ := hx.2.2.1
      obtain ⟨D', fd', b1, b2, b3⟩ := hy.2.2.1
      cases a1.symm.trans b1
      obtain ⟨q1, q2, q3, q4⟩ := a2.1
      obtain ⟨r1, r2, r3, r4⟩ := b2.1
      cases q4.symm.trans r4
      cases a3.symm.trans b3; rfl
    have et : t = t' := by
      obtain ⟨D, fd, a1, a2, a3⟩ := hx.2.1
      obtain ⟨D', fd', b1, b2, b3⟩ := hy.2.1
      cases a1.symm.trans b1
      obtain ⟨q1, q2, q3, q4⟩ := a2.1
      obtain ⟨r1, r2, r3, r4⟩ := b2.1
      cases q4.symm.trans r4
      cases a3.symm.trans b3; rfl
    subst ec et
    have ev : V = V' := by cases hx.2.2.2.1.1.symm.trans hy.2.2.2.1.1; rfl
    subst ev
    have hs : SameT n f k g := (Cod.eqv hx.2.2.2.2.1 hy.2.2.2.2.1 hx.2.2.2.2.2 hy.2.2.2.2.2).mp ⟨rfl, fun _ _ => rfl⟩
    exact ⟨s₁, some (.int 1), _, _, _, X0, rfl, rfl, rfl, (fun h => by cases h), ⟨1, rfl, hh0, Or.inl ⟨rfl, hs⟩⟩, fun fs hl => c2.trans (X0.ireturnOut hexec hret rfl (Or.inr (Or.inl rfl)) (hb hbytes d6) hl)⟩
  · have c2 : Steps p.tables e below (s₁.setTop (entryFrame m #[.ref x, .ref y] 3)) (s₁.setTop (mkF m 8 #[.val (.ref x), .val (.ref y), .unset] [.ref y])) := c1.trans (by
      refine acmpYes X0.here hexec rfl (pc0 := 2) rfl (hb hbytes d2) rfl rfl rfl (by simp [acmp, hxy]) (by decide) rfl ?_
      refine XS.aloadN X0.here hexec rfl (hb hbytes d7) rfl rfl ?_
      exact Steps.refl _)
    obtain ⟨T3, X3, q3, st3⟩ := cinst X0 hexec hown (wk W (.classLink "java/lang/String" 10 "java/lang/String")) (hy.mv X0.warmed.alike hh0).1 (g := (mkF m 8 #[.val (.ref x), .val (.ref y), .unset] [.ref y])) rfl (rest := []) rfl (hb hbytes d8)
    have hh3 := q3.trans hh0
    have c4 : Steps p.tables e below (s₁.setTop (entryFrame m #[.ref x, .ref y] 3)) (T3.setTop (mkF m 15 #[.val (.ref x), .val (.ref y), .unset] [.ref y])) := (c2.trans (st3 _ (Steps.refl _))).trans (by
      refine XS.ifNo X3.here hexec rfl (hb hbytes d11) rfl (i0_eq_f (by decide)) ?_
      refine XS.aloadN X3.here hexec rfl (hb hbytes d14) rfl rfl ?_
      exact Steps.refl _)
    obtain ⟨T5, X5, q5, st5⟩ := cself X3 hexec hown (wk W (.classLink "java/lang/String" 10 "java/lang/String")) (hy.mv X3.warmed.alike hh3).1 (g := (mkF m 15 #[.val (.ref x), .val (.ref y), .unset] [.ref y])) rfl (rest := []) rfl (hb hbytes d15)
    have hh5 := q5.trans hh3
    have c6 : Steps p.tables e below (s₁.setTop (entryFrame m #[.ref x, .ref y] 3)) (T5.setTop (mkF m 19 #[.val (.ref x), .val (.ref y), .val (.ref y)] [])) := (c4.trans (st5 _ (Steps.refl _))).trans (by
      refine XS.astoreN X5.here hexec rfl (hb hbytes d18) rfl rfl rfl ?_
      exact Steps.refl _)
    obtain ⟨T7, X7, q7, st7⟩ := X5.sget hexec hown (wk W (.fieldLink "java/lang/String" 38 "java/lang/String" "COMPACT_STRINGS" "Z")) s1 (fun _ _ h => by rw [hh5]; exact h) (g := (mkF m 19 #[.val (.ref x), .val (.ref y), .val (.ref y)] [])) rfl (hb hbytes d19)
    have hh7 := q7.trans hh5
    have c8 : Steps p.tables e below (s₁.setTop (entryFrame m #[.ref x, .ref y] 3)) (T7.setTop (mkF m 26 #[.val (.ref x), .val (.ref y), .val (.ref y)] [.ref x])) := (c6.trans (st7 _ (Steps.refl _))).trans (by
      refine XS.ifNo X7.here hexec rfl (hb hbytes d22) rfl (i0_eq_f hz) ?_
      refine XS.aloadN X7.here hexec rfl (hb hbytes d25) rfl rfl ?_
      exact Steps.refl _)
    obtain ⟨T9, X9, q9, st9⟩ := X7.hget hexec hown (wk W (.fieldLink "java/lang/String" 15 "java/lang/String" "coder" "B")) (hx.mv X7.warmed.alike hh7).2.2.1 (g := (mkF m 26 #[.val (.ref x), .val (.ref y), .val (.ref y)] [.ref x])) rfl (rest := []) rfl (hb hbytes d26)
    have hh9 := q9.trans hh7
    have c10 : Steps p.tables e below (s₁.setTop (entryFrame m #[.ref x, .ref y] 3)) (T9.setTop (mkF m 30 #[.val (.ref x), .val (.ref y), .val (.ref y)] [.ref y, .int cd])) := (c8.trans (st9 _ (Steps.refl _))).trans (by
      refine XS.aloadN X9.here hexec rfl (hb hbytes d29) rfl rfl ?_
      exact Steps.refl _)
    obtain ⟨T11, X11, q11, st11⟩ := X9.hget hexec hown (wk W (.fieldLink "java/lang/String" 15 "java/lang/String" "coder" "B")) (hy.mv X9.warmed.alike hh9).2.2.1 (g := (mkF m 30 #[.val (.ref x), .val (.ref y), .val (.ref y)] [.ref y, .int cd])) rfl (rest := [.int cd]) rfl (hb hbytes d30)
    have hh11 := q11.trans hh9
    have c12 : Steps p.tables e below (s₁.setTop (entryFrame m #[.ref x, .ref y] 3)) (T11.setTop (mkF m 33 #[.val (.ref x), .val (.ref y), .val (.ref y)] [.int cd', .int cd])) := c10.trans (st11 _ (Steps.refl _))
    by_cases hcd : cd = cd'
    · subst hcd
      have c13 : Steps p.tables e below (s₁.setTop (entryFrame m #[.ref x, .ref y] 3)) (T11.setTop (mkF m 37 #[.val (.ref x), .val (.ref y), .val (.ref y)] [.ref x])) := c12.trans (by
        refine XS.icmpNo X11.here hexec rfl (hb hbytes d33) rfl (ii_ne_f rfl) ?_
        refine XS.aloadN X11.here hexec rfl (hb hbytes d36) rfl rfl ?_
        exact Steps.refl _)
      obtain ⟨T14, X14, q14, st14⟩ := X11.hget hexec hown (wk W (.fieldLink "java/lang/String" 9 "java/lang/String" "value" "[B")) (hx.mv X11.warmed.alike hh11).2.1 (g := (mkF m 37 #[.val (.ref x), .val (.ref y), .val (.ref y)] [.ref x])) rfl (rest := []) rfl (hb hbytes d37)
      have hh14 := q14.trans hh11
      have c15 : Steps p.tables e below (s₁.setTop (entryFrame m #[.ref x, .ref y] 3)) (T14.setTop (mkF m 41 #[.val (.ref x), .val (.ref y), .val (.ref y)] [.ref y, .ref t])) := (c13.trans (st14 _ (Steps.refl _))).trans (by
        refine XS.aloadN X14.here hexec rfl (hb hbytes d40) rfl rfl ?_
        exact Steps.refl _)
      obtain ⟨T16, X16, q16, st16⟩ := X14.hget hexec hown (wk W (.fieldLink "java/lang/String" 9 "java/lang/String" "value" "[B")) (hy.mv X14.warmed.alike hh14).2.1 (g := (mkF m 41 #[.val (.ref x), .val (.ref y), .val (.ref y)] [.ref y, .ref t])) rfl (rest := [.ref t]) rfl (hb hbytes d41)
      have hh16 := q16.trans hh14
      have c17 : Steps p.tables e below (s₁.setTop (entryFrame m #[.ref x, .ref y] 3)) (T16.setTop (mkF m 44 #[.val (.ref x), .val (.ref y), .val (.ref y)] [.ref t', .ref t])) := c15.trans (st16 _ (Steps.refl _))
      obtain ⟨v18, T18, X18, E18, g18⟩ := X16.callS hexec (LEq.law l t V t' V') hown (wks W (staticW "java/lang/String" 541 LEq.yN)) (wk W LEq.tab) (W := 0) (Nat.le_of_ble_eq_true rfl) (Nat.le_of_ble_eq_true rfl) (Nat.le_refl _) (Nat.le_refl _) (g := (mkF m 44 #[.val (.ref x), .val (.ref y), .val (.ref y)] [.ref t', .ref t])) rfl (by rw [hml]; rfl) c17 (argsL := [.ref t, .ref t']) (rest := []) rfl rfl (by show 2 * 0 + 0 ≤ _; decide) (hb hbytes d44) (⟨rfl, hx.2.2.2.1.mv X16.warmed.alike hh16, hx.2.2.2.2.1.ty, hy.2.2.2.1.mv X16.warmed.alike hh16, hy.2.2.2.2.1.ty⟩)
      obtain ⟨v, rfl, q18, hv⟩ := E18
      have iff := Cod.eqv hx.2.2.2.2.1 hy.2.2.2.2.1 hx.2.2.2.2.2 hy.2.2.2.2.2
      rcases hv with ⟨rfl, he⟩ | ⟨rfl, he⟩
      · have c19 : Steps p.tables e below (s₁.setTop (entryFrame m #[.ref x, .ref y] 3)) (T18.setTop (mkF m 55 #[.val (.ref x), .val (.ref y), .val (.ref y)] [.int 1])) := Steps.trans g18 (by
          refine XS.ifNo X18.here hexec rfl (hb hbytes d47) rfl (i0_eq_f (by decide)) ?_
          refine iconstV X18.here hexec rfl 1 (hb hbytes d50) (by decide) ?_
          refine XS.goto X18.here hexec rfl (pc0 := 51) rfl (hb hbytes d51) (by decide) rfl ?_
          exact Steps.refl _)
        exact ⟨T18, some (.int 1), _, _, _, X18, rfl, rfl, rfl, (fun h => by cases h), ⟨1, rfl, q18.trans hh16, Or.inl ⟨rfl, iff.mp he⟩⟩, fun fs hl => c19.trans (X18.ireturnOut hexec hret rfl (Or.inr (Or.inl rfl)) (hb hbytes d55) hl)⟩
      · have c19 : Steps p.tables e below (s₁.setTop (entryFrame m #[.ref x, .ref y] 3)) (T18.setTop (mkF m 55 #[.val (.ref x), .val (.ref y), .val (.ref y)] [.int 0])) := Steps.trans g18 (by
          refine XS.ifYes X18.here hexec rfl (pc0 := 47) rfl (hb hbytes d47) rfl (i0_eq_t rfl) (by decide) rfl ?_
          refine iconstV X18.here hexec rfl 0 (hb hbytes d54) (by decide) ?_
          exact Steps.refl _)
        exact ⟨T18, some (.int 0), _, _, _, X18, rfl, rfl, rfl, (fun h => by cases h), ⟨0, rfl, q18.trans hh16, Or.inr ⟨rfl, fun q => he (iff.mpr q)⟩⟩, fun fs hl => c19.trans (X18.ireturnOut hexec hret rfl (Or.inr (Or.inl rfl)) (hb hbytes d55) hl)⟩
    · have c13 : Steps p.tables e below (s₁.setTop (entryFrame m #[.ref x, .ref y] 3)) (T11.setTop (mkF m 55 #[.val (.ref x), .val (.ref y), .val (.ref y)] [.int 0])) := c12.trans (by
        refine XS.icmpYes X11.here hexec rfl (pc0 := 33) rfl (hb hbytes d33) rfl (ii_ne_t hcd) (by decide) rfl ?_
        refine iconstV X11.here hexec rfl 0 (hb hbytes d54) (by decide) ?_
        exact Steps.refl _)
      exact ⟨T11, some (.int 0), _, _, _, X11, rfl, rfl, rfl, (fun h => by cases h), ⟨0, rfl, hh11, Or.inr ⟨rfl, Cod.dif hx.2.2.2.2.1 hy.2.2.2.2.1 hcd⟩⟩, fun fs hl => c13.trans (X11.ireturnOut hexec hret rfl (Or.inr (Or.inl rfl)) (hb hbytes d55) hl)⟩
theorem pays {l : Launch} {R : Room} {p : Program} {e : Env} {below : List Frame} {s : State} {sargs : Array Value} {len W : Nat} (x t : Addr) (V : Cell) (cd : Int32) (n : Nat) (f : Nat → Int32) (y t' : Addr) (V' : Cell) (cd' : Int32) (k : Nat) (g : Nat → Int32) (z : Int32) (htab : tab.before sargs s = true) (hfr : 2 ≤ R.frames) (hlo : W + 28 ≤ R.locals) :
    Back l R p e below s sargs yN len W (fun A₁ a₁ => A₁.cells + 0 ≤ R.cells ∧ A₁.slots + 0 ≤ R.slots ∧ P x t V cd n f y t' V' cd' k g z a₁ A₁.U) (fun A₁ _ v₁ B₁ => Says01 (SameT n f k g) v₁ A₁.U B₁.U ∧ B₁.locs = A₁.locs ++ [] ∧ B₁.cells = A₁.cells + 0 ∧ B₁.slots = A₁.slots + 0) :=
  (law l x t V cd n f y t' V' cd' k g z).pays htab hfr (by omega)
end SEq
end StrChars
namespace StrChars.Road
open Jvm Sem ClassFile Op Lib Jvm.Stand Jvm.Free Jvm.Free.XT
open Jvm.Lib.Cold (StaticIs)
/-- the words of String.equals(Object) -/
abbrev wordsEq : List Jvm.Cond := [.code SEq.yN SEq.yB 3 (some .boolean), .initialized ST, .classLink ST 10 ST, .fieldLink ST 38 ST "COMPACT_STRINGS" "Z", .fieldLink ST 15 ST "coder" "B", .fieldLink ST 9 ST "value" "[B", .methodLink ST 541 LEq.yN, .static LEq.yN, .code LEq.yN LEq.yB 3 (some .boolean), .initialized "java/lang/StringLatin1"]
theorem tabEq_of {a : Array Value} {s : State} (h : ∀ w ∈ wordsEq, w.before a s = true) : SEq.tab.before a s = true := by
  have hl : LEq.tab.before a s = true := unparts (wk h (.code LEq.yN LEq.yB 3 (some .boolean))) (wks h (.initialized LEq.yN.cls :: LEq.site))
  have q := consq hl h
  exact unparts (wk q (.code SEq.yN SEq.yB 3 (some .boolean))) (wks q (.initialized SEq.yN.cls :: SEq.site))
theorem movedEq {Z s : State} {a0 args : Array Value} (hZ : Z.Warmed39 s.vm) (hw : ∀ d ∈ wordsEq, d.before a0 Z = true) : ∀ d ∈ wordsEq, d.before args s = true := fun d hd => by
  have t : ∀ d ∈ wordsEq, (d.onTables && d.keepsFace) = true := by decide +kernel
  exact RoadKit.mv hZ (hw d hd) (t d hd)
/-- the road's facts of a String, as the laws ask it -/
theorem txt_of {Z U : State} {a0 : Array Value} {kI : Nat} (wi : (Jvm.Cond.instantiable ST kI).before a0 Z = true) (al : Z.vm.Alike U.vm) {x t : Addr} {kb : ClassId} {cs : List Int32} {cd N2 : Int32} {vs : List Value} (E : RoadKit.Exa Z U.heap x ST) (V : RoadKit.Fld Z U.heap x ST "value" "[B" (.ref t)) (C : RoadKit.Fld Z U.heap x ST "coder" "B" (.int cd)) (K : RoadKit.Arv Z U.heap t kb .byte N2 vs (.int 0)) (hc : CodA cs cd N2 vs) (hb : ∀ c ∈ cs, ¬ c < 0 ∧ ¬ (65535 : Int32) < c) (l2 : cs.length ≤ 4000) :
    ∃ A, Txt x t A cd cs.length (fun j => cs.getD j 0) U := by
  obtain ⟨A, K1, K2, K3, K4, K5, K6⟩ := K
  have hcod := hc.cod (by omega) K3 K5
  obtain ⟨D, fV, fC, hB, F1, F2, g1, g2, -, -⟩ := strObj wi al E V C
  exact ⟨A, ⟨_, hB.2.2.1, D, hB.1, rfl, by cases q : D.vm <;> first | rfl | exact absurd q (hB.2.1.2 _)⟩, Has.of hB F1 g1, Has.of hB F2 g2, ⟨K1.1, State.isArrayOf_alike al K1.2.1, K1.2.2, by rcases hcod with ⟨-, q, -⟩ | ⟨-, q, -⟩ <;> omega⟩, hcod, fun j hj => by
    have e : cs.getD j 0 = cs[j] := by simp [List.getD_eq_getElem?_getD, hj]
    show ¬ cs.getD j 0 < 0 ∧ ¬ 65535 < cs.getD j 0
    rw [e]; exact hb _ (List.getElem_mem _)⟩
theorem same_list (cs ds : List Int32) : SameT cs.length (fun j => cs.getD j 0) ds.length (fun j => ds.getD j 0) ↔ cs = ds := by
  constructor
  · rintro ⟨e, q⟩
    refine List.ext_getElem e fun j h1 h2 => ?_
    have := q j h1
    simpa [List.getD_eq_getElem?_getD, h1, h2] using this
  · rintro rfl
    exact ⟨rfl, fun _ _ => rfl⟩
/-- **equals(Object) OF TWO SUCH STRINGS**: 1 just where the chars are the same -/
theorem eqW {p : Program} {l : Launch} {e : Env} {R : Room} {s : State} {args : Array Value} {below : List Frame} {len W : Nat} {Z : State} {a0 : Array Value} {h : Heap} (hZ : Z.Warmed39 s.vm) (hw : ∀ d ∈ wordsEq, d.before a0 Z = true) {kI : Nat} (wi : (Jvm.Cond.instantiable ST kI).before a0 Z = true)
    {x t : Addr} {kb : ClassId} {cs : List Int32} {cd N2 : Int32} {vs : List Value} (E : RoadKit.Exa Z h x ST) (V : RoadKit.Fld Z h x ST "value" "[B" (.ref t)) (C : RoadKit.Fld Z h x ST "coder" "B" (.int cd)) (K : RoadKit.Arv Z h t kb .byte N2 vs (.int 0)) (hc : CodA cs cd N2 vs) (hb : ∀ c ∈ cs, ¬ c < 0 ∧ ¬ (65535 : Int32) < c) (l2 : cs.length ≤ 4000)
    {y t' : Addr} {kb' : ClassId} {ds : List Int32} {cd' N2' : Int32} {vs' : List Value} (E' : RoadKit.Exa Z h y ST) (V' : RoadKit.Fld Z h y ST "value" "[B" (.ref t')) (C' : RoadKit.Fld Z h y ST "coder" "B" (.int cd')) (K' : RoadKit.Arv Z h t' kb' .byte N2' vs' (.int 0)) (hc' : CodA ds cd' N2' vs') (hb' : ∀ c ∈ ds, ¬ c < 0 ∧ ¬ (65535 : Int32) < c) (l2' : ds.length ≤ 4000)
    {z : Int32} (S : RoadKit.Sta Z h ST "COMPACT_STRINGS" "Z" (.int z)) (hz : ¬ z = 0) (hfr : 2 ≤ R.frames) (hlo : W + 28 ≤ R.locals) :
    Back l R p e below s args (⟨"java/lang/String", "equals", "(Ljava/lang/Object;)Z"⟩ : MethodName) len W (fun P a => a = #[.ref x, .ref y] ∧ P.U.heap = h ∧ P.cells + 0 ≤ R.cells ∧ P.slots + 0 ≤ R.slots)
      (fun P _ v B => ∃ L, (((v = some (.int 1) ∧ cs = ds) ∨ (v = some (.int 0) ∧ ¬ cs = ds)) ∧ L = [] ∧ B.U.heap = h) ∧ B.locs = P.locs ++ L ∧ B.cells = P.cells + 0 ∧ B.slots = P.slots + 0) := by
  intro m meth c P g ig mk a X hg hsize hdg hW hn hp'
  obtain ⟨rfl, rfl, r1, r2⟩ := hp'
  have al : Z.vm.Alike P.U.vm := hZ.alike.trans X.warmed.alike
  obtain ⟨A, hx⟩ := txt_of wi al E V C K hc hb l2
  obtain ⟨A', hy⟩ := txt_of wi al E' V' C' K' hc' hb' l2'
  obtain ⟨v, B, X', ⟨⟨w, hv, hh, hq⟩, hl, hk, hs⟩, st⟩ := SEq.pays x t A cd cs.length (fun j => cs.getD j 0) y t' A' cd' ds.length (fun j => ds.getD j 0) z (tabEq_of (movedEq hZ hw)) hfr hlo m meth c P g ig mk _ X hg hsize hdg hW hn ⟨r1, r2, rfl, hx, hy, sta_is al S, hz⟩
  refine ⟨v, B, X', ⟨[], ⟨?_, rfl, hh⟩, hl, hk, hs⟩, st⟩
  rcases hq with ⟨rfl, q⟩ | ⟨rfl, q⟩
  · exact Or.inl ⟨hv, (same_list cs ds).mp q⟩
  · exact Or.inr ⟨hv, fun e => q ((same_list cs ds).mpr e)⟩
end StrChars.Road
namespace StrChars.Road
open Jvm Sem ClassFile Op Lib Jvm.Stand Jvm.Free Jvm.Free.XT
open Jvm.Lib.Cold (StaticIs)
/-- what backV says of its String, as the contracts of this text ask it: cs's low bytes, coder 0 -/
theorem codOf {cs : List Int32} {n : Nat} (hn : cs.length = n) (hb : ∀ c ∈ cs, ¬ 255 < c) : CodA cs 0 (Int32.ofNat n) ((cs.map lo8).map Value.int) := Or.inl ⟨rfl, by rw [hn], by simp [List.map_map, Function.comp_def], hb⟩
end StrChars.Road
end Jvm.Pilot.@@N@@
namespace Jvm.Pilot.@@N@@
open Jvm Jvm.ClassFile Sem Op Lib Jvm.Free Jvm.Stand Jvm.LawKit Jvm.RoadKit Bundle Jvm.Pilot.@@N@@.Jvm.D Jvm.Own
/-- what the case says of its start -/
def Wd (Z : State) (a0 : Array Value) : Prop := (∀ (k : Nat) {d : Jvm.Cond}, tables_1[k]? = some d → d.before a0 Z = true) ∧ (∃ z : Int32, Sta Z Z.heap "java/lang/String" "COMPACT_STRINGS" "Z" (.int z) ∧ ¬ z = 0) ∧ ∃ fm : Value, Sta Z Z.heap "jdk/internal/util/Preconditions" "SIOOBE_FORMATTER" "Ljava/util/function/BiFunction;" fm ∧ fm.isRef = true
theorem Wd.hw {Z : State} {a0 : Array Value} (W : Wd Z a0) : ∀ d ∈ tables_1, d.before a0 Z = true := fun d hd => by
  obtain ⟨i, hi⟩ := List.mem_iff_getElem?.mp hd
  exact W.1 i hi
theorem Wd.sub {Z : State} {a0 : Array Value} (W : Wd Z a0) {ws : List Jvm.Cond} (h : ∀ d ∈ ws, d ∈ tables_1) : ∀ d ∈ ws, d.before a0 Z = true := fun d hd => W.hw d (h d hd)
theorem pdC : parseMethodDescriptor "([C)V" = some ⟨[(.array .char)], none⟩ := by decide +kernel
theorem up255 {cs : List Int32} (h : ∀ c ∈ cs, ¬ c < 0 ∧ ¬ (255 : Int32) < c) : ∀ c ∈ cs, ¬ c < 0 ∧ ¬ (65535 : Int32) < c := fun c hc => ⟨(h c hc).1, fun q => (h c hc).2 (by rw [Int32.lt_iff_toInt_lt] at q ⊢; have e1 : (65535 : Int32).toInt = 65535 := rfl; have e2 : (255 : Int32).toInt = 255 := rfl; omega)⟩
section StrGo
variable {nw : Bool} {p : Program} {l : Launch} {e : Env} {R : Room} {s : State} {m : MethodId} {args : Array Value} {below : List Frame} {meth : Method} {c : Code} {code : ByteArray} {ml : Nat} {nm : String} {ret : Option FieldType} {Z : State} {a0 : Array Value} {EL : List (String × Nat)} {own : String} {P : Option Value → Vm → Heap → Prop}
variable {vm vm' : Vm} {h h' h0 h1 h2 : Heap} {k n pc : Nat} {L : Array Slot} {S : List Value}
/-- new String(chars), one to 4,000 of them, each 0 to 255 -/
theorem goStrNew (W : Wd Z a0) {idx : Nat} {x b : Addr} {kC : ClassId} {N : Int32} {v0 c0 dv : Value} {rest : List Value} (Wk : Nat) (cs : List Int32) (pc' : Nat) (hd : decode code pc = .ok (.invokespecial idx, 3)) (hp : pc + 3 = pc') (w1 : (Jvm.Cond.methodLink own idx (⟨"java/lang/String", "<init>", "([C)V"⟩ : MethodName)).before a0 Z = true)
    (E : Exa Z h x "java/lang/String") (V : Fld Z h x "java/lang/String" "value" "[B" v0) (C : Fld Z h x "java/lang/String" "coder" "B" c0) (K : Arv Z h b kC .char N (cs.map Value.int) dv) (hN : N = Int32.ofNat cs.length) (l0 : 0 < cs.length) (l2 : cs.length ≤ 4000) (hcs : ∀ c ∈ cs, ¬ c < 0 ∧ ¬ (255 : Int32) < c)
    (hst : S = .ref b :: .ref x :: rest) (hsz : L.size = ml) (hW : (rest.map fun v => v.category).sum ≤ Wk) (hfr : 4 ≤ R.frames) (hlo : Wk + 65 ≤ R.locals) (hk0 : k + 1 ≤ R.cells) (hn0 : n + cs.length ≤ R.slots) (Sx : Safe Z EL vm h x) (hz : Z.heap.size ≤ x)
    (g : ∀ h', Keep h h' [x] → Str Z h' x cs → CHr Z EL vm h vm h' → Go nw p l e R s m args below meth c code ml nm ret Z a0 EL own P vm h' (k + 1) (n + cs.length) pc' L rest) : Go nw p l e R s m args below meth c code ml nm ret Z a0 EL own P vm h k n pc L S := by
  obtain ⟨z, Cz, hz0⟩ := W.2.1
  refine Go.specB (Q := fun v h' L => StrChars.Road.QV Z x N (cs.map fun c => c.toInt8.toInt32) h Z.heap.size v h' L) (dk := 1) (dn := cs.length) (rest := rest) Wk x [.ref b] pc' hd hp rfl w1 (W.1 9 rfl) (W.1 10 rfl) (by decide)
    (fun hZ hE => StrChars.Road.backV hZ (W.sub (by decide +kernel)) (W.1 5 rfl) (bs := cs.map fun c => c.toInt8.toInt32) hz hE.1 E V C K (Cz.ext hE) hz0 rfl hN l0 l2 hcs rfl hfr hlo) pdC rfl hst hsz hW hk0 hn0
    (fun v h' L q => ⟨q.2.1, [x], q.2.2.1, fun y hy => by cases List.mem_singleton.mp hy; exact Sx, fun y hy => by cases List.mem_singleton.mp hy; exact hz⟩) (fun v h' L q ch => ?_)
  obtain ⟨rfl, q2, q3, q4, q5, t, kb, q6, q7, q8, q9, q10⟩ := q
  exact g h' q3 ⟨t, kb, q4, q5, q9, by rw [← hN]; exact q10, l2, hcs⟩ ch
theorem pdE : parseMethodDescriptor "(Ljava/lang/Object;)Z" = some ⟨[(.object "java/lang/Object")], some .boolean⟩ := by decide +kernel
theorem goStrEq (W : Wd Z a0) {idx : Nat} {x y : Addr} {cs ds : List Int32} {rest : List Value} (Wk : Nat) (pc' : Nat) (hd : decode code pc = .ok (.invokevirtual idx, 3)) (hp : pc + 3 = pc') (w1 : (Jvm.Cond.methodLink own idx (⟨"java/lang/String", "equals", "(Ljava/lang/Object;)Z"⟩ : MethodName)).before a0 Z = true)
    (T : Str Z h x cs) (U : Str Z h y ds) (hst : S = .ref y :: .ref x :: rest) (hsz : L.size = ml) (hW : (rest.map fun v => v.category).sum ≤ Wk) (hfr : 2 ≤ R.frames) (hlo : Wk + 28 ≤ R.locals) (hk0 : k ≤ R.cells) (hn0 : n ≤ R.slots)
    (gt : cs = ds → Go nw p l e R s m args below meth c code ml nm ret Z a0 EL own P vm h k n pc' L (.int 1 :: rest)) (gf : ¬ cs = ds → Go nw p l e R s m args below meth c code ml nm ret Z a0 EL own P vm h k n pc' L (.int 0 :: rest)) : Go nw p l e R s m args below meth c code ml nm ret Z a0 EL own P vm h k n pc L S := by
  obtain ⟨z, Cz, hz0⟩ := W.2.1
  obtain ⟨b, kb, t1, t2, t3, t4, t5, t6⟩ := T
  obtain ⟨b', kb', u1, u2, u3, u4, u5, u6⟩ := U
  refine Go.virtB (Q := fun v h' L => ((v = some (.int 1) ∧ cs = ds) ∨ (v = some (.int 0) ∧ ¬ cs = ds)) ∧ L = [] ∧ h' = h) (dk := 0) (dn := 0) (rest := rest) Wk x [.ref y] pc' hd hp t1 w1 (W.1 76 rfl) (fun s hs => notFace_of_selects (args := #[]) (mvT hs (W.1 78 rfl))) (W.1 78 rfl) (W.1 77 rfl) (by decide)
    (fun hZ hE => StrChars.Road.eqW hZ (W.sub (by decide +kernel)) (W.1 5 rfl) t1 t3 t2 t4 (StrChars.Road.codOf rfl (fun c hc => (t6 c hc).2)) (up255 t6) t5 u1 u3 u2 u4 (StrChars.Road.codOf rfl (fun c hc => (u6 c hc).2)) (up255 u6) u5 (Cz.ext hE) hz0 hfr hlo) pdE rfl hst hsz hW hk0 hn0
    (fun v h' L q => ⟨by rw [q.2.1]; exact Fr.nil _, [], by rw [q.2.2]; exact Keep.refl _ _, sf0, fun _ q => nomatch q⟩) (fun v h' L q ch => ?_)
  obtain ⟨⟨rfl, q⟩ | ⟨rfl, q⟩, rfl, rfl⟩ := q
  · exact gt q
  · exact gf q
end StrGo
end Jvm.Pilot.@@N@@
namespace Jvm.Pilot.@@N@@
open Jvm Jvm.ClassFile Sem Op Lib Jvm.Free Jvm.Stand Jvm.LawKit Jvm.RoadKit Bundle Jvm.Pilot.@@N@@.Jvm.D Jvm.Own

def c0V (k : Int32) : Int32 := (97 : Int32) + ((XT.ushr k (2 : Int32)) &&& (1 : Int32))
def c1V (k : Int32) : Int32 := (97 : Int32) + ((XT.ushr k (3 : Int32)) &&& (1 : Int32))
def lenV (k : Int32) : Int32 := (k &&& (3 : Int32)) % (3 : Int32)
def nameV (k : Int32) : List Int32 := if lenV k = 0 then [] else if lenV k = 1 then [c0V k] else [c0V k, c1V k]
def keyV (k : Int32) : Int32 := if lenV k = 0 then 0 else if lenV k = 1 then (1 : Int32) + ((XT.ushr k (2 : Int32)) &&& (1 : Int32)) else (3 : Int32) + ((XT.ushr k (2 : Int32)) &&& (3 : Int32))
theorem aB (y : Int32) : ¬ (97 : Int32) + (y &&& (1 : Int32)) < 0 ∧ ¬ (255 : Int32) < (97 : Int32) + (y &&& (1 : Int32)) := by rcases and_one y with h | h <;> rw [h] <;> decide
theorem fin16 (y : Int32) : ∃ n : Fin 16, y &&& (15 : Int32) = Int32.ofNat n.val := by
  have h : (y &&& 15).toBitVec.toNat < 16 := by
    simp only [Int32.toBitVec_and, BitVec.toNat_and]
    exact Nat.lt_succ_of_le Nat.and_le_right
  refine ⟨⟨_, h⟩, ?_⟩
  apply Int32.toBitVec_inj.mp
  show _ = BitVec.ofNat 32 _
  rw [BitVec.ofNat_toNat]; simp
theorem nk16 : ∀ a b : Fin 16, nameV (Int32.ofNat a.val) = nameV (Int32.ofNat b.val) ↔ keyV (Int32.ofNat a.val) = keyV (Int32.ofNat b.val) := by decide +kernel
theorem nk (x y : Int32) : nameV (x &&& (15 : Int32)) = nameV (y &&& (15 : Int32)) ↔ keyV (x &&& (15 : Int32)) = keyV (y &&& (15 : Int32)) := by
  obtain ⟨a, ha⟩ := fin16 x
  obtain ⟨b, hb⟩ := fin16 y
  rw [ha, hb]; exact nk16 a b
theorem and3 (y : Int32) : y &&& (3 : Int32) = 0 ∨ y &&& (3 : Int32) = 1 ∨ y &&& (3 : Int32) = 2 ∨ y &&& (3 : Int32) = 3 := by
  have h := c_mask y 3 2 (by decide) (by decide)
  have h3 : (y &&& 3).toInt = 0 ∨ (y &&& 3).toInt = 1 ∨ (y &&& 3).toInt = 2 ∨ (y &&& 3).toInt = 3 := by rw [h]; omega
  rcases h3 with h | h | h | h
  · exact Or.inl (Int32.toInt_inj.mp h)
  · exact Or.inr (Or.inl (Int32.toInt_inj.mp h))
  · exact Or.inr (Or.inr (Or.inl (Int32.toInt_inj.mp h)))
  · exact Or.inr (Or.inr (Or.inr (Int32.toInt_inj.mp h)))
theorem lit_ok_ : ((∀ c ∈ ("" : String).toList, c.toNat < 256) ∧ ("" : String).toList.map (fun c => Value.int (Jvm.Lit.byteI c.toNat.toUInt16)) = []) ∧ 4 * ("" : String).toList.length ≤ 0 := by decide +kernel
theorem d_jdk_42_m149_0 : decode jdk_42_method_149_code 0 = .ok (.aload_n 0, 1) := by decide +kernel
theorem d_jdk_42_m149_1 : decode jdk_42_method_149_code 1 = .ok (.invokespecial 1, 3) := by decide +kernel
theorem d_jdk_42_m149_4 : decode jdk_42_method_149_code 4 = .ok (.iload_n 3, 1) := by decide +kernel
theorem d_jdk_42_m149_5 : decode jdk_42_method_149_code 5 = .ok (.ifCond .ne 22, 3) := by decide +kernel
theorem d_jdk_42_m149_8 : decode jdk_42_method_149_code 8 = .ok (.aload_n 0, 1) := by decide +kernel
theorem d_jdk_42_m149_9 : decode jdk_42_method_149_code 9 = .ok (.ldc 7, 2) := by decide +kernel
theorem d_jdk_42_m149_11 : decode jdk_42_method_149_code 11 = .ok (.getfield 9, 3) := by decide +kernel
theorem d_jdk_42_m149_14 : decode jdk_42_method_149_code 14 = .ok (.putfield 9, 3) := by decide +kernel
theorem d_jdk_42_m149_17 : decode jdk_42_method_149_code 17 = .ok (.aload_n 0, 1) := by decide +kernel
theorem d_jdk_42_m149_18 : decode jdk_42_method_149_code 18 = .ok (.ldc 7, 2) := by decide +kernel
theorem d_jdk_42_m149_20 : decode jdk_42_method_149_code 20 = .ok (.getfield 15, 3) := by decide +kernel
theorem d_jdk_42_m149_23 : decode jdk_42_method_149_code 23 = .ok (.putfield 15, 3) := by decide +kernel
theorem d_jdk_42_m149_26 : decode jdk_42_method_149_code 26 = .ok (.return_, 1) := by decide +kernel
theorem d_jdk_42_m149_27 : decode jdk_42_method_149_code 27 = .ok (.getstatic 38, 3) := by decide +kernel
theorem d_jdk_42_m149_30 : decode jdk_42_method_149_code 30 = .ok (.ifCond .eq 28, 3) := by decide +kernel
theorem d_jdk_42_m149_33 : decode jdk_42_method_149_code 33 = .ok (.aload_n 1, 1) := by decide +kernel
theorem d_jdk_42_m149_34 : decode jdk_42_method_149_code 34 = .ok (.iload_n 2, 1) := by decide +kernel
theorem d_jdk_42_m149_35 : decode jdk_42_method_149_code 35 = .ok (.iload_n 3, 1) := by decide +kernel
theorem d_jdk_42_m149_36 : decode jdk_42_method_149_code 36 = .ok (.invokestatic 177, 3) := by decide +kernel
theorem d_jdk_42_m149_39 : decode jdk_42_method_149_code 39 = .ok (.astore 5, 2) := by decide +kernel
theorem d_jdk_42_m149_41 : decode jdk_42_method_149_code 41 = .ok (.aload_n 0, 1) := by decide +kernel
theorem d_jdk_42_m149_42 : decode jdk_42_method_149_code 42 = .ok (.aload 5, 2) := by decide +kernel
theorem d_jdk_42_m149_44 : decode jdk_42_method_149_code 44 = .ok (.iload_n 3, 1) := by decide +kernel
theorem d_jdk_42_m149_45 : decode jdk_42_method_149_code 45 = .ok (.invokestatic 47, 3) := by decide +kernel
theorem d_jdk_42_m149_48 : decode jdk_42_method_149_code 48 = .ok (.putfield 15, 3) := by decide +kernel
theorem d_jdk_42_m149_51 : decode jdk_42_method_149_code 51 = .ok (.aload_n 0, 1) := by decide +kernel
theorem d_jdk_42_m149_52 : decode jdk_42_method_149_code 52 = .ok (.aload 5, 2) := by decide +kernel
theorem d_jdk_42_m149_54 : decode jdk_42_method_149_code 54 = .ok (.putfield 9, 3) := by decide +kernel
theorem d_jdk_42_m149_57 : decode jdk_42_method_149_code 57 = .ok (.return_, 1) := by decide +kernel
theorem d_jdk_42_m149_58 : decode jdk_42_method_149_code 58 = .ok (.aload_n 0, 1) := by decide +kernel
theorem d_jdk_42_m149_59 : decode jdk_42_method_149_code 59 = .ok (.iconst 1, 1) := by decide +kernel
theorem d_jdk_42_m149_60 : decode jdk_42_method_149_code 60 = .ok (.putfield 15, 3) := by decide +kernel
theorem d_jdk_42_m149_63 : decode jdk_42_method_149_code 63 = .ok (.aload_n 0, 1) := by decide +kernel
theorem d_jdk_42_m149_64 : decode jdk_42_method_149_code 64 = .ok (.aload_n 1, 1) := by decide +kernel
theorem d_jdk_42_m149_65 : decode jdk_42_method_149_code 65 = .ok (.iload_n 2, 1) := by decide +kernel
theorem d_jdk_42_m149_66 : decode jdk_42_method_149_code 66 = .ok (.iload_n 3, 1) := by decide +kernel
theorem d_jdk_42_m149_67 : decode jdk_42_method_149_code 67 = .ok (.invokestatic 180, 3) := by decide +kernel
theorem d_jdk_42_m149_70 : decode jdk_42_method_149_code 70 = .ok (.putfield 9, 3) := by decide +kernel
theorem d_jdk_42_m149_73 : decode jdk_42_method_149_code 73 = .ok (.return_, 1) := by decide +kernel
set_option maxRecDepth 65536 in
set_option maxHeartbeats 40000000 in
theorem cEmp4 {l : Launch} {Z : State} {a0 : Array Value} (W : Wd Z a0) {EL : List (String × Nat)} {vm : Vm} {h : Heap} {a b : Addr} {v0 c0 : Value} (hm : ("java/lang/String", 7) ∈ EL) (E : Exa Z h a "java/lang/String") (F1 : Fld Z h a "java/lang/String" "value" "[B" (v0)) (F2 : Fld Z h a "java/lang/String" "coder" "B" (c0)) (Sa : Safe Z EL vm h a) (hz : Z.heap.size ≤ a) :
    Ctr false l Z a0 EL (⟨"java/lang/String", "<init>", "([CIILjava/lang/Void;)V"⟩ : MethodName) jdk_42_method_149_code 6 none ({ frames := 1, cells := 4, slots := 8, locals := 12 } : Room) #[.ref a, .ref b, .int (0 : Int32), .int (0 : Int32), .null] vm h (fun v vm' h' => v = none ∧ Keep h h' [a] ∧ Str Z h' a []) := by
  refine Ctr.of_go (L0 := #[.val (.ref a), .val (.ref b), .val (.int (0 : Int32)), .val (.int (0 : Int32)), .val (.null), .unset]) (by first | exact plainFor_of_name (by first | (simp [plainName, overriddenIn]; done) | decide +kernel) | decide +kernel) (fun m => by first | (simp [entryFrame, mkF, argsToLocals, Value.category, maxLocals]; done) | rfl) (fun p e s m below meth c vmi chi => ?_)
  refine Go.aload_n 1 d_jdk_42_m149_0 rfl rfl rfl ?_
  refine Go.initObject 0 4 d_jdk_42_m149_1 rfl (W.1 15 rfl) (W.1 16 rfl) (W.1 17 rfl) rfl (nl rfl) (nl rfl) (nl rfl) ?_
  refine Go.iload_n 5 d_jdk_42_m149_4 rfl rfl ?_
  refine Go.ifne 27 8 d_jdk_42_m149_5 (by decide) rfl rfl (fun q1 => absurd rfl q1) (fun q1 => ?_)
  refine Go.aload_n 9 d_jdk_42_m149_8 rfl rfl rfl ?_
  refine Go.ldcS (text := "") (vs := []) (z := (0 : Int32)) 0 11 d_jdk_42_m149_9 rfl rfl (W.1 38 rfl) (W.sub (by decide +kernel)) hm lit_ok_.1 (by decide) (by decide) lit_ok_.2 (by decide) (nl rfl) (nl rfl) (fun y1 b2 k2 vm2 h2 E2 A2 C2 V2 B2 N2 c2 => ?_)
  have T2 : Str Z h2 y1 [] := ⟨b2, k2, A2, C2, V2, B2, by decide, by decide⟩
  refine Go.getfield 14 d_jdk_42_m149_11 rfl (W.1 32 rfl) V2 ?_
  have f3 := F1.ext E2
  have f4 := E.ext E2
  have f5 := CHr.safe (CHr.trans chi c2) E.lt Sa
  have L5 := Nat.lt_of_lt_of_le E.lt (CHr.trans chi c2).2.1
  refine Go.putfield 17 d_jdk_42_m149_14 rfl (W.1 32 rfl) f3 f4 (Or.inr ⟨(W.1 33 rfl), rfl, rfl⟩) (W.1 5 rfl) (ty := (.array .byte)) (by decide) rfl rfl f5 hz (fun h6 X6 S6 c6 => ?_)
  have Ea := f4.wr X6
  have G1 := f3.same X6
  have F2a := (F2.ext E2).other X6 (Or.inr (slot_ne (a0 := a0) (C := "java/lang/String") (Or.inr (W.1 31 rfl)) (Or.inr (W.1 33 rfl)) (by decide) (t := .byte) (t' := (.array .byte)) (by decide) (by decide)))
  have K1 := Arv.other B2 X6 (Ne.symm (N2 _ f5).2)
  have ba := (N2 _ f5).2
  refine Go.aload_n 18 d_jdk_42_m149_17 rfl rfl rfl ?_
  refine Go.ldcS (text := "") (vs := []) (z := (0 : Int32)) 0 20 d_jdk_42_m149_18 rfl rfl (W.1 38 rfl) (W.sub (by decide +kernel)) hm lit_ok_.1 (by decide) (by decide) lit_ok_.2 (by decide) (nl rfl) (nl rfl) (fun y2 b7 k7 vm7 h7 E7 A7 C7 V7 B7 N7 c7 => ?_)
  have T7 : Str Z h7 y2 [] := ⟨b7, k7, A7, C7, V7, B7, by decide, by decide⟩
  refine Go.getfield 23 d_jdk_42_m149_20 rfl (W.1 30 rfl) C7 ?_
  have f8 := CHr.safe c7 Ea.lt S6
  have L8 := Nat.lt_of_lt_of_le Ea.lt c7.2.1
  refine Go.putfield 26 d_jdk_42_m149_23 rfl (W.1 30 rfl) (F2a.ext E7) (Ea.ext E7) (Or.inr ⟨(W.1 31 rfl), rfl, rfl⟩) (W.1 5 rfl) (ty := .byte) (by decide) rfl rfl f8 hz (fun h9 X9 S9 c9 => ?_)
  exact Go.return_ d_jdk_42_m149_26 rfl (nl rfl) (nl rfl) (fun vm' ch => ⟨rfl, (((Keep.ofExt E2 [a]).wr X6 (Or.inl (by simp))).ext E7).wr X9 (Or.inl (by simp)), ⟨_, _, (Ea.ext E7).wr X9, (F2a.ext E7).same X9, (G1.ext E7).other X9 (Or.inr (slot_ne (a0 := a0) (C := "java/lang/String") (Or.inr (W.1 33 rfl)) (Or.inr (W.1 31 rfl)) (by decide) (t := (.array .byte)) (t' := .byte) (by decide) (by decide))), Arv.other (K1.ext E7) X9 (Ne.symm ba), by decide, fun _ q => nomatch q⟩⟩)
theorem d_jdk_42_m3_0 : decode jdk_42_method_3_code 0 = .ok (.aload_n 0, 1) := by decide +kernel
theorem d_jdk_42_m3_1 : decode jdk_42_method_3_code 1 = .ok (.aload_n 1, 1) := by decide +kernel
theorem d_jdk_42_m3_2 : decode jdk_42_method_3_code 2 = .ok (.iconst 0, 1) := by decide +kernel
theorem d_jdk_42_m3_3 : decode jdk_42_method_3_code 3 = .ok (.aload_n 1, 1) := by decide +kernel
theorem d_jdk_42_m3_4 : decode jdk_42_method_3_code 4 = .ok (.arraylength, 1) := by decide +kernel
theorem d_jdk_42_m3_5 : decode jdk_42_method_3_code 5 = .ok (.aconst_null, 1) := by decide +kernel
theorem d_jdk_42_m3_6 : decode jdk_42_method_3_code 6 = .ok (.invokespecial 27, 3) := by decide +kernel
theorem d_jdk_42_m3_9 : decode jdk_42_method_3_code 9 = .ok (.return_, 1) := by decide +kernel
set_option maxRecDepth 65536 in
set_option maxHeartbeats 40000000 in
theorem cEmp1 {l : Launch} {Z : State} {a0 : Array Value} (W : Wd Z a0) {EL : List (String × Nat)} {vm : Vm} {h : Heap} {a b : Addr} {v0 c0 dv : Value} {kC : ClassId} {vs : List Value} (hm : ("java/lang/String", 7) ∈ EL) (E : Exa Z h a "java/lang/String") (F1 : Fld Z h a "java/lang/String" "value" "[B" (v0)) (F2 : Fld Z h a "java/lang/String" "coder" "B" (c0)) (A : Arv Z h b kC .char (0 : Int32) vs dv) (Sa : Safe Z EL vm h a) (hz : Z.heap.size ≤ a) :
    Ctr false l Z a0 EL (⟨"java/lang/String", "<init>", "([C)V"⟩ : MethodName) jdk_42_method_3_code 2 none ({ frames := 2, cells := 4, slots := 8, locals := 29 } : Room) #[.ref a, .ref b] vm h (fun v vm' h' => v = none ∧ Keep h h' [a] ∧ Str Z h' a []) := by
  refine Ctr.of_go (L0 := #[.val (.ref a), .val (.ref b)]) (by first | exact plainFor_of_name (by first | (simp [plainName, overriddenIn]; done) | decide +kernel) | decide +kernel) (fun m => by first | (simp [entryFrame, mkF, argsToLocals, Value.category, maxLocals]; done) | rfl) (fun p e s m below meth c vmi chi => ?_)
  refine Go.aload_n 1 d_jdk_42_m3_0 rfl rfl rfl ?_
  refine Go.aload_n 2 d_jdk_42_m3_1 rfl rfl rfl ?_
  refine Go.iconst (0) 3 d_jdk_42_m3_2 rfl rfl ?_
  refine Go.aload_n 4 d_jdk_42_m3_3 rfl rfl rfl ?_
  refine Go.arraylength 5 d_jdk_42_m3_4 rfl A ?_
  refine Go.aconst_null 6 d_jdk_42_m3_5 rfl ?_
  refine Go.invokespecial (rest := []) 0 a [.ref b, .int (0 : Int32), .int (0 : Int32), .null] 9 d_jdk_42_m3_6 rfl rfl (W.1 11 rfl) (W.1 12 rfl) (W.1 6 rfl) (W.1 14 rfl) (by decide) (cEmp4 W hm E F1 F2 (chi.safe E.lt Sa) hz) (by decide +kernel : parseMethodDescriptor "([CIILjava/lang/Void;)V" = some ⟨[(.array .char), .int, .int, (.object "java/lang/Void")], none⟩) rfl rfl rfl (nl rfl) (nl rfl) (nl rfl) (nl rfl) (nl rfl) (fun v1 vm1 h1 ⟨rv, K, T⟩ c1 => ?_)
  subst rv
  exact Go.return_ d_jdk_42_m3_9 rfl (nl rfl) (nl rfl) (fun vm' ch => ⟨rfl, K, T⟩)
theorem d_m4_0 : decode method_4_code 0 = .ok (.new 7, 3) := by decide +kernel
theorem d_m4_3 : decode method_4_code 3 = .ok (.dup, 1) := by decide +kernel
theorem d_m4_4 : decode method_4_code 4 = .ok (.iconst 2, 1) := by decide +kernel
theorem d_m4_5 : decode method_4_code 5 = .ok (.newarray .char, 2) := by decide +kernel
theorem d_m4_7 : decode method_4_code 7 = .ok (.dup, 1) := by decide +kernel
theorem d_m4_8 : decode method_4_code 8 = .ok (.iconst 0, 1) := by decide +kernel
theorem d_m4_9 : decode method_4_code 9 = .ok (.iload_n 0, 1) := by decide +kernel
theorem d_m4_10 : decode method_4_code 10 = .ok (.castore, 1) := by decide +kernel
theorem d_m4_11 : decode method_4_code 11 = .ok (.dup, 1) := by decide +kernel
theorem d_m4_12 : decode method_4_code 12 = .ok (.iconst 1, 1) := by decide +kernel
theorem d_m4_13 : decode method_4_code 13 = .ok (.iload_n 1, 1) := by decide +kernel
theorem d_m4_14 : decode method_4_code 14 = .ok (.sipush 255, 3) := by decide +kernel
theorem d_m4_17 : decode method_4_code 17 = .ok (.iand, 1) := by decide +kernel
theorem d_m4_18 : decode method_4_code 18 = .ok (.i2c, 1) := by decide +kernel
theorem d_m4_19 : decode method_4_code 19 = .ok (.castore, 1) := by decide +kernel
theorem d_m4_20 : decode method_4_code 20 = .ok (.invokespecial 9, 3) := by decide +kernel
theorem d_m4_23 : decode method_4_code 23 = .ok (.areturn, 1) := by decide +kernel
set_option maxRecDepth 65536 in
set_option maxHeartbeats 40000000 in
theorem cValue {l : Launch} {Z : State} {a0 : Array Value} (W : Wd Z a0) {EL : List (String × Nat)} {vm : Vm} {h : Heap} {nw : Bool} {t_ x : Int32} (ht : ¬ t_ < 0 ∧ ¬ (255 : Int32) < t_) :
    Ctr nw l Z a0 EL (⟨"com/example/tendril/tendril/xml/XmlElementGetAttributePinLaw", "value", "(CI)Ljava/lang/String;"⟩ : MethodName) method_4_code 2 (some (.object "java/lang/String")) ({ frames := 4, cells := 3, slots := 8, locals := 66 } : Room) #[.int t_, .int x] vm h (fun v vm' h' => ∃ a, v = some (.ref a) ∧ Ext h h' ∧ Str Z h' a [t_, (x &&& (255 : Int32))]) := by
  refine Ctr.of_go (L0 := #[.val (.int t_), .val (.int x)]) (by first | exact plainFor_of_name (by first | (simp [plainName, overriddenIn]; done) | decide +kernel) | decide +kernel) (fun m => by first | (simp [entryFrame, mkF, argsToLocals, Value.category, maxLocals]; done) | rfl) (fun p e s m below meth c vmi chi => ?_)
  refine Go.new 3 d_m4_0 rfl (W.1 4 rfl) (W.1 5 rfl) (W.1 6 rfl) (nl rfl) (nl rfl) (fun s1 h1 e1 E1 ⟨A1, D1⟩ S1 z1 c1 => ?_)
  refine Go.dup 4 d_m4_3 rfl rfl ?_
  refine Go.iconst (2) 5 d_m4_4 rfl rfl ?_
  refine Go.newarray 2 7 d_m4_5 rfl (W.1 7 rfl) (by decide) (by decide) (by decide) (nl rfl) (nl rfl) (fun b1 h2 e2 E2 ⟨k2, B2⟩ S2 z2 c2 => ?_)
  have A2 : Arv Z h2 b1 k2 .char (2 : Int32) [.int 0, .int 0] (.int 0) := B2.pad (pad_rep [] (.int 0) 2)
  refine Go.dup 8 d_m4_7 rfl rfl ?_
  refine Go.iconst (0) 9 d_m4_8 rfl rfl ?_
  refine Go.iload_n 10 d_m4_9 rfl rfl ?_
  refine Go.castore 0 t_ [.int t_, .int 0] 11 d_m4_10 rfl A2 (by decide) rfl (nl rfl) (narC ht) rfl S2 z2 (fun h3 K3 A3 S3 c3 => ?_)
  have E3 := Ext.kp1 E2 K3 e2
  refine Go.dup 12 d_m4_11 rfl rfl ?_
  refine Go.iconst (1) 13 d_m4_12 rfl rfl ?_
  refine Go.iload_n 14 d_m4_13 rfl rfl ?_
  refine Go.sipush (255) 17 d_m4_14 rfl rfl ?_
  refine Go.iand (x &&& (255 : Int32)) 18 d_m4_17 rfl rfl ?_
  refine Go.i2c (x &&& (255 : Int32)) 19 d_m4_18 rfl (i2c_mask _) ?_
  refine Go.castore 1 (x &&& (255 : Int32)) [.int t_, .int (x &&& (255 : Int32))] 20 d_m4_19 rfl A3 (by decide) rfl (nl rfl) (narC (and255 _)) rfl S3 z2 (fun h4 K4 A4 S4 c4 => ?_)
  have E4 := Ext.kp1 E3 K4 e2
  have f6 := D1 (Or.inr (W.1 33 rfl)) (ty := (.array .byte)) (by decide)
  have f7 := D1 (Or.inr (W.1 31 rfl)) (ty := .byte) (by decide)
  have f8 := A1.ext E4
  have f9 := f6.ext E4
  have f10 := f7.ext E4
  have f11 := CHr.safe (CHr.trans c2 (CHr.trans c3 c4)) A1.lt S1
  have L11 := Nat.lt_of_lt_of_le A1.lt (CHr.trans c2 (CHr.trans c3 c4)).2.1
  refine goStrNew W 1 [t_, (x &&& (255 : Int32))] 23 d_m4_20 rfl (W.1 8 rfl) f8 f9 f10 A4 rfl (nl rfl) (nl rfl) (by intro c hc; simp only [List.mem_cons, List.not_mem_nil, or_false] at hc; rcases hc with rfl | rfl; exact ht; exact and255 _) rfl rfl (nl rfl) (nl rfl) (nl rfl) (nl rfl) (nl rfl) f11 z1 (fun h5 K5 T5 c5 => ?_)
  have E5 := Ext.kp1 (Ext.tr E1 E4) K5 e1
  exact Go.areturn d_m4_23 rfl rfl rfl (nl rfl) (nl rfl) (fun vm' ch => ⟨_, rfl, E5, T5⟩)
theorem d_m2_0 : decode method_2_code 0 = .ok (.iload_n 0, 1) := by decide +kernel
theorem d_m2_1 : decode method_2_code 1 = .ok (.iconst 3, 1) := by decide +kernel
theorem d_m2_2 : decode method_2_code 2 = .ok (.iand, 1) := by decide +kernel
theorem d_m2_3 : decode method_2_code 3 = .ok (.iconst 3, 1) := by decide +kernel
theorem d_m2_4 : decode method_2_code 4 = .ok (.irem, 1) := by decide +kernel
theorem d_m2_5 : decode method_2_code 5 = .ok (.istore_n 1, 1) := by decide +kernel
theorem d_m2_6 : decode method_2_code 6 = .ok (.bipush 97, 2) := by decide +kernel
theorem d_m2_8 : decode method_2_code 8 = .ok (.iload_n 0, 1) := by decide +kernel
theorem d_m2_9 : decode method_2_code 9 = .ok (.iconst 2, 1) := by decide +kernel
theorem d_m2_10 : decode method_2_code 10 = .ok (.iushr, 1) := by decide +kernel
theorem d_m2_11 : decode method_2_code 11 = .ok (.iconst 1, 1) := by decide +kernel
theorem d_m2_12 : decode method_2_code 12 = .ok (.iand, 1) := by decide +kernel
theorem d_m2_13 : decode method_2_code 13 = .ok (.iadd, 1) := by decide +kernel
theorem d_m2_14 : decode method_2_code 14 = .ok (.i2c, 1) := by decide +kernel
theorem d_m2_15 : decode method_2_code 15 = .ok (.istore_n 2, 1) := by decide +kernel
theorem d_m2_16 : decode method_2_code 16 = .ok (.bipush 97, 2) := by decide +kernel
theorem d_m2_18 : decode method_2_code 18 = .ok (.iload_n 0, 1) := by decide +kernel
theorem d_m2_19 : decode method_2_code 19 = .ok (.iconst 3, 1) := by decide +kernel
theorem d_m2_20 : decode method_2_code 20 = .ok (.iushr, 1) := by decide +kernel
theorem d_m2_21 : decode method_2_code 21 = .ok (.iconst 1, 1) := by decide +kernel
theorem d_m2_22 : decode method_2_code 22 = .ok (.iand, 1) := by decide +kernel
theorem d_m2_23 : decode method_2_code 23 = .ok (.iadd, 1) := by decide +kernel
theorem d_m2_24 : decode method_2_code 24 = .ok (.i2c, 1) := by decide +kernel
theorem d_m2_25 : decode method_2_code 25 = .ok (.istore_n 3, 1) := by decide +kernel
theorem d_m2_26 : decode method_2_code 26 = .ok (.iload_n 1, 1) := by decide +kernel
theorem d_m2_27 : decode method_2_code 27 = .ok (.ifCond .ne 14, 3) := by decide +kernel
theorem d_m2_30 : decode method_2_code 30 = .ok (.new 7, 3) := by decide +kernel
theorem d_m2_33 : decode method_2_code 33 = .ok (.dup, 1) := by decide +kernel
theorem d_m2_34 : decode method_2_code 34 = .ok (.iconst 0, 1) := by decide +kernel
theorem d_m2_35 : decode method_2_code 35 = .ok (.newarray .char, 2) := by decide +kernel
theorem d_m2_37 : decode method_2_code 37 = .ok (.invokespecial 9, 3) := by decide +kernel
theorem d_m2_40 : decode method_2_code 40 = .ok (.areturn, 1) := by decide +kernel
theorem d_m2_41 : decode method_2_code 41 = .ok (.iload_n 1, 1) := by decide +kernel
theorem d_m2_42 : decode method_2_code 42 = .ok (.iconst 1, 1) := by decide +kernel
theorem d_m2_43 : decode method_2_code 43 = .ok (.if_icmp .ne 18, 3) := by decide +kernel
theorem d_m2_46 : decode method_2_code 46 = .ok (.new 7, 3) := by decide +kernel
theorem d_m2_49 : decode method_2_code 49 = .ok (.dup, 1) := by decide +kernel
theorem d_m2_50 : decode method_2_code 50 = .ok (.iconst 1, 1) := by decide +kernel
theorem d_m2_51 : decode method_2_code 51 = .ok (.newarray .char, 2) := by decide +kernel
theorem d_m2_53 : decode method_2_code 53 = .ok (.dup, 1) := by decide +kernel
theorem d_m2_54 : decode method_2_code 54 = .ok (.iconst 0, 1) := by decide +kernel
theorem d_m2_55 : decode method_2_code 55 = .ok (.iload_n 2, 1) := by decide +kernel
theorem d_m2_56 : decode method_2_code 56 = .ok (.castore, 1) := by decide +kernel
theorem d_m2_57 : decode method_2_code 57 = .ok (.invokespecial 9, 3) := by decide +kernel
theorem d_m2_60 : decode method_2_code 60 = .ok (.areturn, 1) := by decide +kernel
theorem d_m2_61 : decode method_2_code 61 = .ok (.new 7, 3) := by decide +kernel
theorem d_m2_64 : decode method_2_code 64 = .ok (.dup, 1) := by decide +kernel
theorem d_m2_65 : decode method_2_code 65 = .ok (.iconst 2, 1) := by decide +kernel
theorem d_m2_66 : decode method_2_code 66 = .ok (.newarray .char, 2) := by decide +kernel
theorem d_m2_68 : decode method_2_code 68 = .ok (.dup, 1) := by decide +kernel
theorem d_m2_69 : decode method_2_code 69 = .ok (.iconst 0, 1) := by decide +kernel
theorem d_m2_70 : decode method_2_code 70 = .ok (.iload_n 2, 1) := by decide +kernel
theorem d_m2_71 : decode method_2_code 71 = .ok (.castore, 1) := by decide +kernel
theorem d_m2_72 : decode method_2_code 72 = .ok (.dup, 1) := by decide +kernel
theorem d_m2_73 : decode method_2_code 73 = .ok (.iconst 1, 1) := by decide +kernel
theorem d_m2_74 : decode method_2_code 74 = .ok (.iload_n 3, 1) := by decide +kernel
theorem d_m2_75 : decode method_2_code 75 = .ok (.castore, 1) := by decide +kernel
theorem d_m2_76 : decode method_2_code 76 = .ok (.invokespecial 9, 3) := by decide +kernel
theorem d_m2_79 : decode method_2_code 79 = .ok (.areturn, 1) := by decide +kernel
set_option maxRecDepth 65536 in
set_option maxHeartbeats 40000000 in
theorem cName {l : Launch} {Z : State} {a0 : Array Value} (W : Wd Z a0) {EL : List (String × Nat)} {vm : Vm} {h : Heap} {x : Int32} (hm : ("java/lang/String", 7) ∈ EL) :
    Ctr false l Z a0 EL (⟨"com/example/tendril/tendril/xml/XmlElementGetAttributePinLaw", "name", "(I)Ljava/lang/String;"⟩ : MethodName) method_2_code 4 (some (.object "java/lang/String")) ({ frames := 4, cells := 6, slots := 12, locals := 66 } : Room) #[.int x] vm h (fun v vm' h' => ∃ a, v = some (.ref a) ∧ Ext h h' ∧ Str Z h' a (nameV x)) := by
  refine Ctr.of_go (L0 := #[.val (.int x), .unset, .unset, .unset]) (by first | exact plainFor_of_name (by first | (simp [plainName, overriddenIn]; done) | decide +kernel) | decide +kernel) (fun m => by first | (simp [entryFrame, mkF, argsToLocals, Value.category, maxLocals]; done) | rfl) (fun p e s m below meth c vmi chi => ?_)
  refine Go.iload_n 1 d_m2_0 rfl rfl ?_
  refine Go.iconst (3) 2 d_m2_1 rfl rfl ?_
  refine Go.iand (x &&& (3 : Int32)) 3 d_m2_2 rfl rfl ?_
  refine Go.iconst (3) 4 d_m2_3 rfl rfl ?_
  refine Go.irem ((x &&& (3 : Int32)) % (3 : Int32)) 5 d_m2_4 rfl (by decide) (irem_eq_mod _ _) ?_
  refine Go.istore_n #[.val (.int x), .val (.int ((x &&& (3 : Int32)) % (3 : Int32))), .unset, .unset] 6 d_m2_5 rfl rfl ?_
  refine Go.bipush (97) 8 d_m2_6 rfl rfl ?_
  refine Go.iload_n 9 d_m2_8 rfl rfl ?_
  refine Go.iconst (2) 10 d_m2_9 rfl rfl ?_
  refine Go.iushr (XT.ushr x (2 : Int32)) 11 d_m2_10 rfl rfl ?_
  refine Go.iconst (1) 12 d_m2_11 rfl rfl ?_
  refine Go.iand ((XT.ushr x (2 : Int32)) &&& (1 : Int32)) 13 d_m2_12 rfl rfl ?_
  refine Go.iadd ((97 : Int32) + ((XT.ushr x (2 : Int32)) &&& (1 : Int32))) 14 d_m2_13 rfl rfl ?_
  refine Go.i2c (c0V x) 15 d_m2_14 rfl (narC (aB _)) ?_
  refine Go.istore_n #[.val (.int x), .val (.int ((x &&& (3 : Int32)) % (3 : Int32))), .val (.int (c0V x)), .unset] 16 d_m2_15 rfl rfl ?_
  refine Go.bipush (97) 18 d_m2_16 rfl rfl ?_
  refine Go.iload_n 19 d_m2_18 rfl rfl ?_
  refine Go.iconst (3) 20 d_m2_19 rfl rfl ?_
  refine Go.iushr (XT.ushr x (3 : Int32)) 21 d_m2_20 rfl rfl ?_
  refine Go.iconst (1) 22 d_m2_21 rfl rfl ?_
  refine Go.iand ((XT.ushr x (3 : Int32)) &&& (1 : Int32)) 23 d_m2_22 rfl rfl ?_
  refine Go.iadd ((97 : Int32) + ((XT.ushr x (3 : Int32)) &&& (1 : Int32))) 24 d_m2_23 rfl rfl ?_
  refine Go.i2c (c1V x) 25 d_m2_24 rfl (narC (aB _)) ?_
  refine Go.istore_n #[.val (.int x), .val (.int ((x &&& (3 : Int32)) % (3 : Int32))), .val (.int (c0V x)), .val (.int (c1V x))] 26 d_m2_25 rfl rfl ?_
  refine Go.iload_n 27 d_m2_26 rfl rfl ?_
  refine Go.ifne 41 30 d_m2_27 (by decide) rfl rfl (fun q0 => ?_) (fun q0 => ?_)
  · refine Go.iload_n 42 d_m2_41 rfl rfl ?_
    refine Go.iconst (1) 43 d_m2_42 rfl rfl ?_
    refine Go.if_icmpne 61 46 d_m2_43 (by decide) rfl rfl (fun q1 => ?_) (fun q1 => ?_)
    · refine Go.new 64 d_m2_61 rfl (W.1 4 rfl) (W.1 5 rfl) (W.1 6 rfl) (nl rfl) (nl rfl) (fun s1 h1 e1 E1 ⟨A1, D1⟩ S1 z1 c1 => ?_)
      refine Go.dup 65 d_m2_64 rfl rfl ?_
      refine Go.iconst (2) 66 d_m2_65 rfl rfl ?_
      refine Go.newarray 2 68 d_m2_66 rfl (W.1 7 rfl) (by decide) (by decide) (by decide) (nl rfl) (nl rfl) (fun b1 h2 e2 E2 ⟨k2, B2⟩ S2 z2 c2 => ?_)
      have A2 : Arv Z h2 b1 k2 .char (2 : Int32) [.int 0, .int 0] (.int 0) := B2.pad (pad_rep [] (.int 0) 2)
      refine Go.dup 69 d_m2_68 rfl rfl ?_
      refine Go.iconst (0) 70 d_m2_69 rfl rfl ?_
      refine Go.iload_n 71 d_m2_70 rfl rfl ?_
      refine Go.castore 0 (c0V x) [.int (c0V x), .int 0] 72 d_m2_71 rfl A2 (by decide) rfl (nl rfl) (narC (aB _)) rfl S2 z2 (fun h3 K3 A3 S3 c3 => ?_)
      have E3 := Ext.kp1 E2 K3 e2
      refine Go.dup 73 d_m2_72 rfl rfl ?_
      refine Go.iconst (1) 74 d_m2_73 rfl rfl ?_
      refine Go.iload_n 75 d_m2_74 rfl rfl ?_
      refine Go.castore 1 (c1V x) [.int (c0V x), .int (c1V x)] 76 d_m2_75 rfl A3 (by decide) rfl (nl rfl) (narC (aB _)) rfl S3 z2 (fun h4 K4 A4 S4 c4 => ?_)
      have E4 := Ext.kp1 E3 K4 e2
      have f6 := D1 (Or.inr (W.1 33 rfl)) (ty := (.array .byte)) (by decide)
      have f7 := D1 (Or.inr (W.1 31 rfl)) (ty := .byte) (by decide)
      have f8 := A1.ext E4
      have f9 := f6.ext E4
      have f10 := f7.ext E4
      have f11 := CHr.safe (CHr.trans c2 (CHr.trans c3 c4)) A1.lt S1
      have L11 := Nat.lt_of_lt_of_le A1.lt (CHr.trans c2 (CHr.trans c3 c4)).2.1
      refine goStrNew W 1 [(c0V x), (c1V x)] 79 d_m2_76 rfl (W.1 8 rfl) f8 f9 f10 A4 rfl (nl rfl) (nl rfl) (by intro c hc; simp only [List.mem_cons, List.not_mem_nil, or_false] at hc; rcases hc with rfl | rfl <;> exact aB _) rfl rfl (nl rfl) (nl rfl) (nl rfl) (nl rfl) (nl rfl) f11 z1 (fun h5 K5 T5 c5 => ?_)
      have E5 := Ext.kp1 (Ext.tr E1 E4) K5 e1
      have R : nameV x = [(c0V x), (c1V x)] := by unfold nameV lenV; rw [if_neg q0, if_neg q1]
      exact Go.areturn d_m2_79 rfl rfl rfl (nl rfl) (nl rfl) (fun vm' ch => ⟨_, rfl, E5, R ▸ T5⟩)
    · refine Go.new 49 d_m2_46 rfl (W.1 4 rfl) (W.1 5 rfl) (W.1 6 rfl) (nl rfl) (nl rfl) (fun s1 h12 e12 E12 ⟨A12, D12⟩ S12 z12 c12 => ?_)
      refine Go.dup 50 d_m2_49 rfl rfl ?_
      refine Go.iconst (1) 51 d_m2_50 rfl rfl ?_
      refine Go.newarray 1 53 d_m2_51 rfl (W.1 7 rfl) (by decide) (by decide) (by decide) (nl rfl) (nl rfl) (fun b1 h13 e13 E13 ⟨k13, B13⟩ S13 z13 c13 => ?_)
      have A13 : Arv Z h13 b1 k13 .char (1 : Int32) [.int 0] (.int 0) := B13.pad (pad_rep [] (.int 0) 1)
      refine Go.dup 54 d_m2_53 rfl rfl ?_
      refine Go.iconst (0) 55 d_m2_54 rfl rfl ?_
      refine Go.iload_n 56 d_m2_55 rfl rfl ?_
      refine Go.castore 0 (c0V x) [.int (c0V x)] 57 d_m2_56 rfl A13 (by decide) rfl (nl rfl) (narC (aB _)) rfl S13 z13 (fun h14 K14 A14 S14 c14 => ?_)
      have E14 := Ext.kp1 E13 K14 e13
      have f16 := D12 (Or.inr (W.1 33 rfl)) (ty := (.array .byte)) (by decide)
      have f17 := D12 (Or.inr (W.1 31 rfl)) (ty := .byte) (by decide)
      have f18 := A12.ext E14
      have f19 := f16.ext E14
      have f20 := f17.ext E14
      have f21 := CHr.safe (CHr.trans c13 c14) A12.lt S12
      have L21 := Nat.lt_of_lt_of_le A12.lt (CHr.trans c13 c14).2.1
      refine goStrNew W 1 [(c0V x)] 60 d_m2_57 rfl (W.1 8 rfl) f18 f19 f20 A14 rfl (nl rfl) (nl rfl) (by intro c hc; simp only [List.mem_cons, List.not_mem_nil, or_false] at hc; rcases hc with rfl <;> exact aB _) rfl rfl (nl rfl) (nl rfl) (nl rfl) (nl rfl) (nl rfl) f21 z12 (fun h15 K15 T15 c15 => ?_)
      have E15 := Ext.kp1 (Ext.tr E12 E14) K15 e12
      have R : nameV x = [(c0V x)] := by unfold nameV lenV; rw [if_neg q0, if_pos q1]
      exact Go.areturn d_m2_60 rfl rfl rfl (nl rfl) (nl rfl) (fun vm' ch => ⟨_, rfl, E15, R ▸ T15⟩)
  · refine Go.new 33 d_m2_30 rfl (W.1 4 rfl) (W.1 5 rfl) (W.1 6 rfl) (nl rfl) (nl rfl) (fun s1 h22 e22 E22 ⟨A22, D22⟩ S22 z22 c22 => ?_)
    refine Go.dup 34 d_m2_33 rfl rfl ?_
    refine Go.iconst (0) 35 d_m2_34 rfl rfl ?_
    refine Go.newarray 0 37 d_m2_35 rfl (W.1 7 rfl) (by decide) (by decide) (by decide) (nl rfl) (nl rfl) (fun b1 h23 e23 E23 ⟨k23, B23⟩ S23 z23 c23 => ?_)
    have A23 : Arv Z h23 b1 k23 .char (0 : Int32) [] (.int 0) := B23.pad (pad_rep [] (.int 0) 0)
    have f24 := D22 (Or.inr (W.1 33 rfl)) (ty := (.array .byte)) (by decide)
    have f25 := D22 (Or.inr (W.1 31 rfl)) (ty := .byte) (by decide)
    have f26 := A22.ext E23
    have f27 := f24.ext E23
    have f28 := f25.ext E23
    have f29 := CHr.safe c23 A22.lt S22
    have L29 := Nat.lt_of_lt_of_le A22.lt c23.2.1
    refine Go.invokespecial (rest := [.ref s1]) 1 s1 [.ref b1] 40 d_m2_37 rfl rfl (W.1 8 rfl) (W.1 9 rfl) (W.1 6 rfl) (W.1 10 rfl) (by decide) (cEmp1 W hm f26 f27 f28 A23 f29 z22) (by decide +kernel : parseMethodDescriptor "([C)V" = some ⟨[(.array .char)], none⟩) rfl rfl rfl (nl rfl) (nl rfl) (nl rfl) (nl rfl) (nl rfl) (fun v30 vm30 h30 ⟨rv, K30, T30⟩ c30 => ?_)
    subst rv
    have E30 := Ext.kp1 (Ext.tr E22 E23) K30 e22
    have R : nameV x = [] := by unfold nameV lenV; rw [if_pos q0]
    exact Go.areturn d_m2_40 rfl rfl rfl (nl rfl) (nl rfl) (fun vm' ch => ⟨_, rfl, E30, R ▸ T30⟩)
theorem d_m3_0 : decode method_3_code 0 = .ok (.iload_n 0, 1) := by decide +kernel
theorem d_m3_1 : decode method_3_code 1 = .ok (.iconst 3, 1) := by decide +kernel
theorem d_m3_2 : decode method_3_code 2 = .ok (.iand, 1) := by decide +kernel
theorem d_m3_3 : decode method_3_code 3 = .ok (.iconst 3, 1) := by decide +kernel
theorem d_m3_4 : decode method_3_code 4 = .ok (.irem, 1) := by decide +kernel
theorem d_m3_5 : decode method_3_code 5 = .ok (.istore_n 1, 1) := by decide +kernel
theorem d_m3_6 : decode method_3_code 6 = .ok (.iload_n 1, 1) := by decide +kernel
theorem d_m3_7 : decode method_3_code 7 = .ok (.ifCond .ne 5, 3) := by decide +kernel
theorem d_m3_10 : decode method_3_code 10 = .ok (.iconst 0, 1) := by decide +kernel
theorem d_m3_11 : decode method_3_code 11 = .ok (.ireturn, 1) := by decide +kernel
theorem d_m3_12 : decode method_3_code 12 = .ok (.iload_n 1, 1) := by decide +kernel
theorem d_m3_13 : decode method_3_code 13 = .ok (.iconst 1, 1) := by decide +kernel
theorem d_m3_14 : decode method_3_code 14 = .ok (.if_icmp .ne 11, 3) := by decide +kernel
theorem d_m3_17 : decode method_3_code 17 = .ok (.iconst 1, 1) := by decide +kernel
theorem d_m3_18 : decode method_3_code 18 = .ok (.iload_n 0, 1) := by decide +kernel
theorem d_m3_19 : decode method_3_code 19 = .ok (.iconst 2, 1) := by decide +kernel
theorem d_m3_20 : decode method_3_code 20 = .ok (.iushr, 1) := by decide +kernel
theorem d_m3_21 : decode method_3_code 21 = .ok (.iconst 1, 1) := by decide +kernel
theorem d_m3_22 : decode method_3_code 22 = .ok (.iand, 1) := by decide +kernel
theorem d_m3_23 : decode method_3_code 23 = .ok (.iadd, 1) := by decide +kernel
theorem d_m3_24 : decode method_3_code 24 = .ok (.ireturn, 1) := by decide +kernel
theorem d_m3_25 : decode method_3_code 25 = .ok (.iconst 3, 1) := by decide +kernel
theorem d_m3_26 : decode method_3_code 26 = .ok (.iload_n 0, 1) := by decide +kernel
theorem d_m3_27 : decode method_3_code 27 = .ok (.iconst 2, 1) := by decide +kernel
theorem d_m3_28 : decode method_3_code 28 = .ok (.iushr, 1) := by decide +kernel
theorem d_m3_29 : decode method_3_code 29 = .ok (.iconst 3, 1) := by decide +kernel
theorem d_m3_30 : decode method_3_code 30 = .ok (.iand, 1) := by decide +kernel
theorem d_m3_31 : decode method_3_code 31 = .ok (.iadd, 1) := by decide +kernel
theorem d_m3_32 : decode method_3_code 32 = .ok (.ireturn, 1) := by decide +kernel
set_option maxRecDepth 65536 in
set_option maxHeartbeats 40000000 in
theorem cKey {l : Launch} {Z : State} {a0 : Array Value} (W : Wd Z a0) {EL : List (String × Nat)} {vm : Vm} {h : Heap} {nw : Bool} {x : Int32} :
    Ctr nw l Z a0 EL (⟨"com/example/tendril/tendril/xml/XmlElementGetAttributePinLaw", "key", "(I)I"⟩ : MethodName) method_3_code 2 (some .int) ({ frames := 0, cells := 0, slots := 0, locals := 0 } : Room) #[.int x] vm h (fun v vm' h' => v = some (.int (keyV x)) ∧ h' = h) := by
  refine Ctr.of_go (L0 := #[.val (.int x), .unset]) (by first | exact plainFor_of_name (by first | (simp [plainName, overriddenIn]; done) | decide +kernel) | decide +kernel) (fun m => by first | (simp [entryFrame, mkF, argsToLocals, Value.category, maxLocals]; done) | rfl) (fun p e s m below meth c vmi chi => ?_)
  refine Go.iload_n 1 d_m3_0 rfl rfl ?_
  refine Go.iconst (3) 2 d_m3_1 rfl rfl ?_
  refine Go.iand (x &&& (3 : Int32)) 3 d_m3_2 rfl rfl ?_
  refine Go.iconst (3) 4 d_m3_3 rfl rfl ?_
  refine Go.irem ((x &&& (3 : Int32)) % (3 : Int32)) 5 d_m3_4 rfl (by decide) (irem_eq_mod _ _) ?_
  refine Go.istore_n #[.val (.int x), .val (.int ((x &&& (3 : Int32)) % (3 : Int32)))] 6 d_m3_5 rfl rfl ?_
  refine Go.iload_n 7 d_m3_6 rfl rfl ?_
  refine Go.ifne 12 10 d_m3_7 (by decide) rfl rfl (fun q0 => ?_) (fun q0 => ?_)
  · refine Go.iload_n 13 d_m3_12 rfl rfl ?_
    refine Go.iconst (1) 14 d_m3_13 rfl rfl ?_
    refine Go.if_icmpne 25 17 d_m3_14 (by decide) rfl rfl (fun q1 => ?_) (fun q1 => ?_)
    · refine Go.iconst (3) 26 d_m3_25 rfl rfl ?_
      refine Go.iload_n 27 d_m3_26 rfl rfl ?_
      refine Go.iconst (2) 28 d_m3_27 rfl rfl ?_
      refine Go.iushr (XT.ushr x (2 : Int32)) 29 d_m3_28 rfl rfl ?_
      refine Go.iconst (3) 30 d_m3_29 rfl rfl ?_
      refine Go.iand ((XT.ushr x (2 : Int32)) &&& (3 : Int32)) 31 d_m3_30 rfl rfl ?_
      refine Go.iadd ((3 : Int32) + ((XT.ushr x (2 : Int32)) &&& (3 : Int32))) 32 d_m3_31 rfl rfl ?_
      exact Go.ireturn d_m3_32 rfl rfl (by simp) (nl rfl) (nl rfl) (fun vm' ch => ⟨congrArg (fun z => some (Value.int z)) (by unfold keyV lenV; rw [if_neg q0, if_neg q1]), rfl⟩)
    · refine Go.iconst (1) 18 d_m3_17 rfl rfl ?_
      refine Go.iload_n 19 d_m3_18 rfl rfl ?_
      refine Go.iconst (2) 20 d_m3_19 rfl rfl ?_
      refine Go.iushr (XT.ushr x (2 : Int32)) 21 d_m3_20 rfl rfl ?_
      refine Go.iconst (1) 22 d_m3_21 rfl rfl ?_
      refine Go.iand ((XT.ushr x (2 : Int32)) &&& (1 : Int32)) 23 d_m3_22 rfl rfl ?_
      refine Go.iadd ((1 : Int32) + ((XT.ushr x (2 : Int32)) &&& (1 : Int32))) 24 d_m3_23 rfl rfl ?_
      exact Go.ireturn d_m3_24 rfl rfl (by simp) (nl rfl) (nl rfl) (fun vm' ch => ⟨congrArg (fun z => some (Value.int z)) (by unfold keyV lenV; rw [if_neg q0, if_pos q1]), rfl⟩)
  · refine Go.iconst (0) 11 d_m3_10 rfl rfl ?_
    exact Go.ireturn d_m3_11 rfl rfl (by simp) (nl rfl) (nl rfl) (fun vm' ch => ⟨congrArg (fun z => some (Value.int z)) (by unfold keyV lenV; rw [if_pos q0]), rfl⟩)
theorem d_jdk_40_m36_0 : decode jdk_40_method_36_code 0 = .ok (.getstatic 90, 3) := by decide +kernel
theorem d_jdk_40_m36_3 : decode jdk_40_method_36_code 3 = .ok (.areturn, 1) := by decide +kernel
set_option maxRecDepth 65536 in
set_option maxHeartbeats 40000000 in
theorem cListOf {l : Launch} {Z : State} {a0 : Array Value} (W : Wd Z a0) {EL : List (String × Nat)} {vm : Vm} {h : Heap} {nw : Bool} {le : Addr} (Le : Sta Z Z.heap "java/util/ImmutableCollections" "EMPTY_LIST" "Ljava/util/ImmutableCollections$ListN;" (.ref le)) :
    Ctr nw l Z a0 EL (⟨"java/util/List", "of", "()Ljava/util/List;"⟩ : MethodName) jdk_40_method_36_code 0 (some (.object "java/util/List")) ({ frames := 0, cells := 0, slots := 0, locals := 0 } : Room) #[] vm h (fun v vm' h' => v = some (.ref le) ∧ h' = h) := by
  refine Ctr.of_go (L0 := #[]) (by first | exact plainFor_of_name (by first | (simp [plainName, overriddenIn]; done) | decide +kernel) | decide +kernel) (fun m => by first | (simp [entryFrame, mkF, argsToLocals, Value.category, maxLocals]; done) | rfl) (fun p e s m below meth c vmi chi => ?_)
  refine Go.know fun hE _ _ => ?_
  refine Go.getstatic 3 d_jdk_40_m36_0 rfl (W.1 52 rfl) (Le.ext hE) ?_
  exact Go.areturn d_jdk_40_m36_3 rfl rfl rfl (nl rfl) (nl rfl) (fun vm' ch => ⟨rfl, rfl⟩)
theorem d_prog_58_m1_0 : decode prog_58_method_1_code 0 = .ok (.aload_n 0, 1) := by decide +kernel
theorem d_prog_58_m1_1 : decode prog_58_method_1_code 1 = .ok (.invokespecial 1, 3) := by decide +kernel
theorem d_prog_58_m1_4 : decode prog_58_method_1_code 4 = .ok (.aload_n 0, 1) := by decide +kernel
theorem d_prog_58_m1_5 : decode prog_58_method_1_code 5 = .ok (.invokestatic 7, 3) := by decide +kernel
theorem d_prog_58_m1_8 : decode prog_58_method_1_code 8 = .ok (.putfield 13, 3) := by decide +kernel
theorem d_prog_58_m1_11 : decode prog_58_method_1_code 11 = .ok (.aload_n 0, 1) := by decide +kernel
theorem d_prog_58_m1_12 : decode prog_58_method_1_code 12 = .ok (.ldc 19, 2) := by decide +kernel
theorem d_prog_58_m1_14 : decode prog_58_method_1_code 14 = .ok (.putfield 21, 3) := by decide +kernel
theorem d_prog_58_m1_17 : decode prog_58_method_1_code 17 = .ok (.aload_n 0, 1) := by decide +kernel
theorem d_prog_58_m1_18 : decode prog_58_method_1_code 18 = .ok (.aload_n 1, 1) := by decide +kernel
theorem d_prog_58_m1_19 : decode prog_58_method_1_code 19 = .ok (.putfield 25, 3) := by decide +kernel
theorem d_prog_58_m1_22 : decode prog_58_method_1_code 22 = .ok (.aload_n 0, 1) := by decide +kernel
theorem d_prog_58_m1_23 : decode prog_58_method_1_code 23 = .ok (.iload_n 2, 1) := by decide +kernel
theorem d_prog_58_m1_24 : decode prog_58_method_1_code 24 = .ok (.putfield 28, 3) := by decide +kernel
theorem d_prog_58_m1_27 : decode prog_58_method_1_code 27 = .ok (.aload_n 0, 1) := by decide +kernel
theorem d_prog_58_m1_28 : decode prog_58_method_1_code 28 = .ok (.aload_n 3, 1) := by decide +kernel
theorem d_prog_58_m1_29 : decode prog_58_method_1_code 29 = .ok (.putfield 32, 3) := by decide +kernel
theorem d_prog_58_m1_32 : decode prog_58_method_1_code 32 = .ok (.aload_n 0, 1) := by decide +kernel
theorem d_prog_58_m1_33 : decode prog_58_method_1_code 33 = .ok (.aload 4, 2) := by decide +kernel
theorem d_prog_58_m1_35 : decode prog_58_method_1_code 35 = .ok (.putfield 36, 3) := by decide +kernel
theorem d_prog_58_m1_38 : decode prog_58_method_1_code 38 = .ok (.return_, 1) := by decide +kernel
set_option maxRecDepth 65536 in
set_option maxHeartbeats 40000000 in
theorem cXeInit {l : Launch} {Z : State} {a0 : Array Value} (W : Wd Z a0) {EL : List (String × Nat)} {vm : Vm} {h : Heap} {a s1 na va le : Addr} {ln : Int32} (hm : ("com/example/tendril/tendril/xml/XmlElement", 19) ∈ EL) (Le : Sta Z Z.heap "java/util/ImmutableCollections" "EMPTY_LIST" "Ljava/util/ImmutableCollections$ListN;" (.ref le)) (E : Exa Z h a "com/example/tendril/tendril/xml/XmlElement") (F0 : Fld Z h a "com/example/tendril/tendril/xml/XmlElement" "children" "Ljava/util/List;" (.null)) (F1 : Fld Z h a "com/example/tendril/tendril/xml/XmlElement" "text" "Ljava/lang/String;" (.null)) (F2 : Fld Z h a "com/example/tendril/tendril/xml/XmlElement" "name" "Ljava/lang/String;" (.null)) (F3 : Fld Z h a "com/example/tendril/tendril/xml/XmlElement" "line" "I" (.int 0)) (F4 : Fld Z h a "com/example/tendril/tendril/xml/XmlElement" "attributeNames" "[Ljava/lang/String;" (.null)) (F5 : Fld Z h a "com/example/tendril/tendril/xml/XmlElement" "attributeValues" "[Ljava/lang/String;" (.null)) (Sa : Safe Z EL vm h a) (hz : Z.heap.size ≤ a) :
    Ctr false l Z a0 EL (⟨"com/example/tendril/tendril/xml/XmlElement", "<init>", "(Ljava/lang/String;I[Ljava/lang/String;[Ljava/lang/String;)V"⟩ : MethodName) prog_58_method_1_code 5 none ({ frames := 1, cells := 2, slots := 4, locals := 12 } : Room) #[.ref a, .ref s1, .int ln, .ref na, .ref va] vm h (fun v vm' h' => v = none ∧ Keep h h' [a] ∧ Exa Z h' a "com/example/tendril/tendril/xml/XmlElement" ∧ Fld Z h' a "com/example/tendril/tendril/xml/XmlElement" "attributeNames" "[Ljava/lang/String;" (.ref na) ∧ Fld Z h' a "com/example/tendril/tendril/xml/XmlElement" "attributeValues" "[Ljava/lang/String;" (.ref va)) := by
  refine Ctr.of_go (L0 := #[.val (.ref a), .val (.ref s1), .val (.int ln), .val (.ref na), .val (.ref va)]) (by first | exact plainFor_of_name (by first | (simp [plainName, overriddenIn]; done) | decide +kernel) | decide +kernel) (fun m => by first | (simp [entryFrame, mkF, argsToLocals, Value.category, maxLocals]; done) | rfl) (fun p e s m below meth c vmi chi => ?_)
  refine Go.aload_n 1 d_prog_58_m1_0 rfl rfl rfl ?_
  refine Go.initObject 0 4 d_prog_58_m1_1 rfl (W.1 47 rfl) (W.1 16 rfl) (W.1 17 rfl) rfl (nl rfl) (nl rfl) (nl rfl) ?_
  refine Go.aload_n 5 d_prog_58_m1_4 rfl rfl rfl ?_
  refine Go.invokestatic (rest := [.ref a]) 1 [] 8 d_prog_58_m1_5 rfl (W.1 48 rfl) (W.1 49 rfl) (W.1 50 rfl) (W.1 51 rfl) (by decide) (cListOf W Le) (by decide +kernel : parseMethodDescriptor "()Ljava/util/List;" = some ⟨[], (some (.object "java/util/List"))⟩) rfl rfl rfl (nl rfl) (nl rfl) (nl rfl) (nl rfl) (nl rfl) (fun v1 vm1 h1 ⟨rv, hh⟩ c1 => ?_)
  subst rv; replace hh := hh.symm; subst hh
  have f2 := CHr.safe (CHr.trans chi c1) E.lt Sa
  have L2 := Nat.lt_of_lt_of_le E.lt (CHr.trans chi c1).2.1
  refine Go.putfield 11 d_prog_58_m1_8 rfl (W.1 54 rfl) F0 E (Or.inl (W.1 55 rfl)) (W.1 42 rfl) (ty := (.object "java/util/List")) (by decide) rfl rfl f2 hz (fun h3 X3 S3 c3 => ?_)
  have Ea0 := E.wr X3
  have G0_0 := F0.same X3
  have G1_0 := F1.other X3 (Or.inr (slot_ne (a0 := a0) (C := "com/example/tendril/tendril/xml/XmlElement") (Or.inl (W.1 58 rfl)) (Or.inl (W.1 55 rfl)) (by decide) (t := (.object "java/lang/String")) (t' := (.object "java/util/List")) (by decide) (by decide)))
  have G2_0 := F2.other X3 (Or.inr (slot_ne (a0 := a0) (C := "com/example/tendril/tendril/xml/XmlElement") (Or.inr (W.1 60 rfl)) (Or.inl (W.1 55 rfl)) (by decide) (t := (.object "java/lang/String")) (t' := (.object "java/util/List")) (by decide) (by decide)))
  have G3_0 := F3.other X3 (Or.inr (slot_ne (a0 := a0) (C := "com/example/tendril/tendril/xml/XmlElement") (Or.inr (W.1 62 rfl)) (Or.inl (W.1 55 rfl)) (by decide) (t := .int) (t' := (.object "java/util/List")) (by decide) (by decide)))
  have G4_0 := F4.other X3 (Or.inr (slot_ne (a0 := a0) (C := "com/example/tendril/tendril/xml/XmlElement") (Or.inr (W.1 64 rfl)) (Or.inl (W.1 55 rfl)) (by decide) (t := (.array (.object "java/lang/String"))) (t' := (.object "java/util/List")) (by decide) (by decide)))
  have G5_0 := F5.other X3 (Or.inr (slot_ne (a0 := a0) (C := "com/example/tendril/tendril/xml/XmlElement") (Or.inr (W.1 66 rfl)) (Or.inl (W.1 55 rfl)) (by decide) (t := (.array (.object "java/lang/String"))) (t' := (.object "java/util/List")) (by decide) (by decide)))
  refine Go.aload_n 12 d_prog_58_m1_11 rfl rfl rfl ?_
  refine Go.ldcS (text := "") (vs := []) (z := (0 : Int32)) 0 14 d_prog_58_m1_12 rfl rfl (W.1 56 rfl) (W.sub (by decide +kernel)) hm lit_ok_.1 (by decide) (by decide) lit_ok_.2 (by decide) (nl rfl) (nl rfl) (fun y1 b4 k4 vm4 h4 E4 A4 C4 V4 B4 N4 c4 => ?_)
  have T4 : Str Z h4 y1 [] := ⟨b4, k4, A4, C4, V4, B4, by decide, by decide⟩
  have f5 := Ea0.ext E4
  have f6 := G1_0.ext E4
  have f7 := G2_0.ext E4
  have f8 := G3_0.ext E4
  have f9 := G4_0.ext E4
  have f10 := G5_0.ext E4
  have f11 := CHr.safe c4 Ea0.lt S3
  have L11 := Nat.lt_of_lt_of_le Ea0.lt c4.2.1
  refine Go.putfield 17 d_prog_58_m1_14 rfl (W.1 57 rfl) f6 f5 (Or.inl (W.1 58 rfl)) (W.1 42 rfl) (ty := (.object "java/lang/String")) (by decide) rfl rfl f11 hz (fun h12 X12 S12 c12 => ?_)
  have Ea1 := f5.wr X12
  have G1_1 := f6.same X12
  have G2_1 := f7.other X12 (Or.inr (slot_ne (a0 := a0) (C := "com/example/tendril/tendril/xml/XmlElement") (Or.inr (W.1 60 rfl)) (Or.inl (W.1 58 rfl)) (by decide) (t := (.object "java/lang/String")) (t' := (.object "java/lang/String")) (by decide) (by decide)))
  have G3_1 := f8.other X12 (Or.inr (slot_ne (a0 := a0) (C := "com/example/tendril/tendril/xml/XmlElement") (Or.inr (W.1 62 rfl)) (Or.inl (W.1 58 rfl)) (by decide) (t := .int) (t' := (.object "java/lang/String")) (by decide) (by decide)))
  have G4_1 := f9.other X12 (Or.inr (slot_ne (a0 := a0) (C := "com/example/tendril/tendril/xml/XmlElement") (Or.inr (W.1 64 rfl)) (Or.inl (W.1 58 rfl)) (by decide) (t := (.array (.object "java/lang/String"))) (t' := (.object "java/lang/String")) (by decide) (by decide)))
  have G5_1 := f10.other X12 (Or.inr (slot_ne (a0 := a0) (C := "com/example/tendril/tendril/xml/XmlElement") (Or.inr (W.1 66 rfl)) (Or.inl (W.1 58 rfl)) (by decide) (t := (.array (.object "java/lang/String"))) (t' := (.object "java/lang/String")) (by decide) (by decide)))
  refine Go.aload_n 18 d_prog_58_m1_17 rfl rfl rfl ?_
  refine Go.aload_n 19 d_prog_58_m1_18 rfl rfl rfl ?_
  refine Go.putfield 22 d_prog_58_m1_19 rfl (W.1 59 rfl) G2_1 Ea1 (Or.inr ⟨(W.1 60 rfl), rfl, rfl⟩) (W.1 42 rfl) (ty := (.object "java/lang/String")) (by decide) rfl rfl S12 hz (fun h13 X13 S13 c13 => ?_)
  have Ea2 := Ea1.wr X13
  have G2_2 := G2_1.same X13
  have G3_2 := G3_1.other X13 (Or.inr (slot_ne (a0 := a0) (C := "com/example/tendril/tendril/xml/XmlElement") (Or.inr (W.1 62 rfl)) (Or.inr (W.1 60 rfl)) (by decide) (t := .int) (t' := (.object "java/lang/String")) (by decide) (by decide)))
  have G4_2 := G4_1.other X13 (Or.inr (slot_ne (a0 := a0) (C := "com/example/tendril/tendril/xml/XmlElement") (Or.inr (W.1 64 rfl)) (Or.inr (W.1 60 rfl)) (by decide) (t := (.array (.object "java/lang/String"))) (t' := (.object "java/lang/String")) (by decide) (by decide)))
  have G5_2 := G5_1.other X13 (Or.inr (slot_ne (a0 := a0) (C := "com/example/tendril/tendril/xml/XmlElement") (Or.inr (W.1 66 rfl)) (Or.inr (W.1 60 rfl)) (by decide) (t := (.array (.object "java/lang/String"))) (t' := (.object "java/lang/String")) (by decide) (by decide)))
  refine Go.aload_n 23 d_prog_58_m1_22 rfl rfl rfl ?_
  refine Go.iload_n 24 d_prog_58_m1_23 rfl rfl ?_
  refine Go.putfield 27 d_prog_58_m1_24 rfl (W.1 61 rfl) G3_2 Ea2 (Or.inr ⟨(W.1 62 rfl), rfl, rfl⟩) (W.1 42 rfl) (ty := .int) (by decide) rfl rfl S13 hz (fun h14 X14 S14 c14 => ?_)
  have Ea3 := Ea2.wr X14
  have G3_3 := G3_2.same X14
  have G4_3 := G4_2.other X14 (Or.inr (slot_ne (a0 := a0) (C := "com/example/tendril/tendril/xml/XmlElement") (Or.inr (W.1 64 rfl)) (Or.inr (W.1 62 rfl)) (by decide) (t := (.array (.object "java/lang/String"))) (t' := .int) (by decide) (by decide)))
  have G5_3 := G5_2.other X14 (Or.inr (slot_ne (a0 := a0) (C := "com/example/tendril/tendril/xml/XmlElement") (Or.inr (W.1 66 rfl)) (Or.inr (W.1 62 rfl)) (by decide) (t := (.array (.object "java/lang/String"))) (t' := .int) (by decide) (by decide)))
  refine Go.aload_n 28 d_prog_58_m1_27 rfl rfl rfl ?_
  refine Go.aload_n 29 d_prog_58_m1_28 rfl rfl rfl ?_
  refine Go.putfield 32 d_prog_58_m1_29 rfl (W.1 63 rfl) G4_3 Ea3 (Or.inr ⟨(W.1 64 rfl), rfl, rfl⟩) (W.1 42 rfl) (ty := (.array (.object "java/lang/String"))) (by decide) rfl rfl S14 hz (fun h15 X15 S15 c15 => ?_)
  have Ea4 := Ea3.wr X15
  have G4_4 := G4_3.same X15
  have G5_4 := G5_3.other X15 (Or.inr (slot_ne (a0 := a0) (C := "com/example/tendril/tendril/xml/XmlElement") (Or.inr (W.1 66 rfl)) (Or.inr (W.1 64 rfl)) (by decide) (t := (.array (.object "java/lang/String"))) (t' := (.array (.object "java/lang/String"))) (by decide) (by decide)))
  refine Go.aload_n 33 d_prog_58_m1_32 rfl rfl rfl ?_
  refine Go.aload 35 d_prog_58_m1_33 rfl rfl rfl ?_
  refine Go.putfield 38 d_prog_58_m1_35 rfl (W.1 65 rfl) G5_4 Ea4 (Or.inr ⟨(W.1 66 rfl), rfl, rfl⟩) (W.1 42 rfl) (ty := (.array (.object "java/lang/String"))) (by decide) rfl rfl S15 hz (fun h16 X16 S16 c16 => ?_)
  have Ea5 := Ea4.wr X16
  have G4_5 := G4_4.other X16 (Or.inr (slot_ne (a0 := a0) (C := "com/example/tendril/tendril/xml/XmlElement") (Or.inr (W.1 64 rfl)) (Or.inr (W.1 66 rfl)) (by decide) (t := (.array (.object "java/lang/String"))) (t' := (.array (.object "java/lang/String"))) (by decide) (by decide)))
  have G5_5 := G5_4.same X16
  exact Go.return_ d_prog_58_m1_38 rfl (nl rfl) (nl rfl) (fun vm' ch => ⟨rfl, ((((((((Keep.refl h [a]).wr X3 (Or.inl (by simp))).ext E4).wr X12 (Or.inl (by simp))).wr X13 (Or.inl (by simp))).wr X14 (Or.inl (by simp))).wr X15 (Or.inl (by simp))).wr X16 (Or.inl (by simp))), Ea5, G4_5, G5_5⟩)
theorem d_jdk_42_m66_0 : decode jdk_42_method_66_code 0 = .ok (.aload_n 0, 1) := by decide +kernel
theorem d_jdk_42_m66_1 : decode jdk_42_method_66_code 1 = .ok (.aload_n 1, 1) := by decide +kernel
theorem d_jdk_42_m66_2 : decode jdk_42_method_66_code 2 = .ok (.if_acmp .ne 5, 3) := by decide +kernel
theorem d_jdk_42_m66_5 : decode jdk_42_method_66_code 5 = .ok (.iconst 1, 1) := by decide +kernel
theorem d_jdk_42_m66_6 : decode jdk_42_method_66_code 6 = .ok (.ireturn, 1) := by decide +kernel
theorem d_jdk_42_m66_7 : decode jdk_42_method_66_code 7 = .ok (.aload_n 1, 1) := by decide +kernel
theorem d_jdk_42_m66_8 : decode jdk_42_method_66_code 8 = .ok (.instanceof 10, 3) := by decide +kernel
theorem d_jdk_42_m66_11 : decode jdk_42_method_66_code 11 = .ok (.ifCond .eq 43, 3) := by decide +kernel
theorem d_jdk_42_m66_14 : decode jdk_42_method_66_code 14 = .ok (.aload_n 1, 1) := by decide +kernel
theorem d_jdk_42_m66_15 : decode jdk_42_method_66_code 15 = .ok (.checkcast 10, 3) := by decide +kernel
theorem d_jdk_42_m66_18 : decode jdk_42_method_66_code 18 = .ok (.astore_n 2, 1) := by decide +kernel
theorem d_jdk_42_m66_19 : decode jdk_42_method_66_code 19 = .ok (.getstatic 38, 3) := by decide +kernel
theorem d_jdk_42_m66_22 : decode jdk_42_method_66_code 22 = .ok (.ifCond .eq 14, 3) := by decide +kernel
theorem d_jdk_42_m66_25 : decode jdk_42_method_66_code 25 = .ok (.aload_n 0, 1) := by decide +kernel
theorem d_jdk_42_m66_26 : decode jdk_42_method_66_code 26 = .ok (.getfield 15, 3) := by decide +kernel
theorem d_jdk_42_m66_29 : decode jdk_42_method_66_code 29 = .ok (.aload_n 2, 1) := by decide +kernel
theorem d_jdk_42_m66_30 : decode jdk_42_method_66_code 30 = .ok (.getfield 15, 3) := by decide +kernel
theorem d_jdk_42_m66_33 : decode jdk_42_method_66_code 33 = .ok (.if_icmp .ne 21, 3) := by decide +kernel
theorem d_jdk_42_m66_36 : decode jdk_42_method_66_code 36 = .ok (.aload_n 0, 1) := by decide +kernel
theorem d_jdk_42_m66_37 : decode jdk_42_method_66_code 37 = .ok (.getfield 9, 3) := by decide +kernel
theorem d_jdk_42_m66_40 : decode jdk_42_method_66_code 40 = .ok (.aload_n 2, 1) := by decide +kernel
theorem d_jdk_42_m66_41 : decode jdk_42_method_66_code 41 = .ok (.getfield 9, 3) := by decide +kernel
theorem d_jdk_42_m66_44 : decode jdk_42_method_66_code 44 = .ok (.invokestatic 541, 3) := by decide +kernel
theorem d_jdk_42_m66_47 : decode jdk_42_method_66_code 47 = .ok (.ifCond .eq 7, 3) := by decide +kernel
theorem d_jdk_42_m66_50 : decode jdk_42_method_66_code 50 = .ok (.iconst 1, 1) := by decide +kernel
theorem d_jdk_42_m66_51 : decode jdk_42_method_66_code 51 = .ok (.goto 4, 3) := by decide +kernel
theorem d_jdk_42_m66_54 : decode jdk_42_method_66_code 54 = .ok (.iconst 0, 1) := by decide +kernel
theorem d_jdk_42_m66_55 : decode jdk_42_method_66_code 55 = .ok (.ireturn, 1) := by decide +kernel
set_option maxRecDepth 65536 in
set_option maxHeartbeats 40000000 in
theorem cEqNull {l : Launch} {Z : State} {a0 : Array Value} (W : Wd Z a0) {EL : List (String × Nat)} {vm : Vm} {h : Heap} {nw : Bool} {a : Addr} :
    Ctr nw l Z a0 EL (⟨"java/lang/String", "equals", "(Ljava/lang/Object;)Z"⟩ : MethodName) jdk_42_method_66_code 3 (some .boolean) ({ frames := 0, cells := 0, slots := 0, locals := 0 } : Room) #[.ref a, .null] vm h (fun v vm' h' => v = some (.int 0) ∧ h' = h) := by
  refine Ctr.of_go (L0 := #[.val (.ref a), .val (.null), .unset]) (by first | exact plainFor_of_name (by first | (simp [plainName, overriddenIn]; done) | decide +kernel) | decide +kernel) (fun m => by first | (simp [entryFrame, mkF, argsToLocals, Value.category, maxLocals]; done) | rfl) (fun p e s m below meth c vmi chi => ?_)
  refine Go.aload_n 1 d_jdk_42_m66_0 rfl rfl rfl ?_
  refine Go.aload_n 2 d_jdk_42_m66_1 rfl rfl rfl ?_
  refine Go.acmp_y 7 d_jdk_42_m66_2 (by decide) rfl rfl rfl (by simp [XT.acmp]) ?_
  refine Go.aload_n 8 d_jdk_42_m66_7 rfl rfl rfl ?_
  refine Go.instNull 11 d_jdk_42_m66_8 rfl ?_
  refine Go.ifeq 54 14 d_jdk_42_m66_11 (by decide) rfl rfl (fun q1 => ?_) (fun q1 => absurd rfl q1)
  refine Go.iconst (0) 55 d_jdk_42_m66_54 rfl rfl ?_
  exact Go.ireturn d_jdk_42_m66_55 rfl rfl (by simp) (nl rfl) (nl rfl) (fun vm' ch => ⟨rfl, rfl⟩)
theorem d_prog_58_m4_0 : decode prog_58_method_4_code 0 = .ok (.aconst_null, 1) := by decide +kernel
theorem d_prog_58_m4_1 : decode prog_58_method_4_code 1 = .ok (.astore_n 2, 1) := by decide +kernel
theorem d_prog_58_m4_2 : decode prog_58_method_4_code 2 = .ok (.iconst 0, 1) := by decide +kernel
theorem d_prog_58_m4_3 : decode prog_58_method_4_code 3 = .ok (.istore_n 3, 1) := by decide +kernel
theorem d_prog_58_m4_4 : decode prog_58_method_4_code 4 = .ok (.iload_n 3, 1) := by decide +kernel
theorem d_prog_58_m4_5 : decode prog_58_method_4_code 5 = .ok (.aload_n 0, 1) := by decide +kernel
theorem d_prog_58_m4_6 : decode prog_58_method_4_code 6 = .ok (.getfield 32, 3) := by decide +kernel
theorem d_prog_58_m4_9 : decode prog_58_method_4_code 9 = .ok (.arraylength, 1) := by decide +kernel
theorem d_prog_58_m4_10 : decode prog_58_method_4_code 10 = .ok (.if_icmp .ge 33, 3) := by decide +kernel
theorem d_prog_58_m4_13 : decode prog_58_method_4_code 13 = .ok (.aload_n 2, 1) := by decide +kernel
theorem d_prog_58_m4_14 : decode prog_58_method_4_code 14 = .ok (.ifnonnull 29, 3) := by decide +kernel
theorem d_prog_58_m4_17 : decode prog_58_method_4_code 17 = .ok (.aload_n 0, 1) := by decide +kernel
theorem d_prog_58_m4_18 : decode prog_58_method_4_code 18 = .ok (.getfield 32, 3) := by decide +kernel
theorem d_prog_58_m4_21 : decode prog_58_method_4_code 21 = .ok (.iload_n 3, 1) := by decide +kernel
theorem d_prog_58_m4_22 : decode prog_58_method_4_code 22 = .ok (.aaload, 1) := by decide +kernel
theorem d_prog_58_m4_23 : decode prog_58_method_4_code 23 = .ok (.aload_n 1, 1) := by decide +kernel
theorem d_prog_58_m4_24 : decode prog_58_method_4_code 24 = .ok (.invokevirtual 39, 3) := by decide +kernel
theorem d_prog_58_m4_27 : decode prog_58_method_4_code 27 = .ok (.ifCond .eq 10, 3) := by decide +kernel
theorem d_prog_58_m4_30 : decode prog_58_method_4_code 30 = .ok (.aload_n 0, 1) := by decide +kernel
theorem d_prog_58_m4_31 : decode prog_58_method_4_code 31 = .ok (.getfield 36, 3) := by decide +kernel
theorem d_prog_58_m4_34 : decode prog_58_method_4_code 34 = .ok (.iload_n 3, 1) := by decide +kernel
theorem d_prog_58_m4_35 : decode prog_58_method_4_code 35 = .ok (.aaload, 1) := by decide +kernel
theorem d_prog_58_m4_36 : decode prog_58_method_4_code 36 = .ok (.astore_n 2, 1) := by decide +kernel
theorem d_prog_58_m4_37 : decode prog_58_method_4_code 37 = .ok (.iinc 3 1, 3) := by decide +kernel
theorem d_prog_58_m4_40 : decode prog_58_method_4_code 40 = .ok (.goto (-36), 3) := by decide +kernel
theorem d_prog_58_m4_43 : decode prog_58_method_4_code 43 = .ok (.aload_n 2, 1) := by decide +kernel
theorem d_prog_58_m4_44 : decode prog_58_method_4_code 44 = .ok (.areturn, 1) := by decide +kernel
set_option maxRecDepth 65536 in
set_option maxHeartbeats 40000000 in
theorem cGet0s {l : Launch} {Z : State} {a0 : Array Value} (W : Wd Z a0) {EL : List (String × Nat)} {vm : Vm} {h : Heap} {nw : Bool} {a na va : Addr} {kN kV : ClassId}  (FN : Fld Z h a "com/example/tendril/tendril/xml/XmlElement" "attributeNames" "[Ljava/lang/String;" (.ref na)) (FV : Fld Z h a "com/example/tendril/tendril/xml/XmlElement" "attributeValues" "[Ljava/lang/String;" (.ref va)) (AN : Arv Z h na kN (.object "java/lang/String") (0 : Int32) [] .null) (AV : Arv Z h va kV (.object "java/lang/String") (0 : Int32) [] .null)  {q_ : Addr} {e_ : List Int32} (T : Str Z h q_ e_) :
    Ctr nw l Z a0 EL (⟨"com/example/tendril/tendril/xml/XmlElement", "getAttribute", "(Ljava/lang/String;)Ljava/lang/String;"⟩ : MethodName) prog_58_method_4_code 4 (some (.object "java/lang/String")) ({ frames := 0, cells := 0, slots := 0, locals := 0 } : Room) #[.ref a, .ref q_] vm h (fun v vm' h' => v = some Value.null ∧ h' = h) := by
  refine Ctr.of_go (L0 := #[.val (.ref a), .val (.ref q_), .unset, .unset]) (by first | exact plainFor_of_name (by first | (simp [plainName, overriddenIn]; done) | decide +kernel) | decide +kernel) (fun m => by first | (simp [entryFrame, mkF, argsToLocals, Value.category, maxLocals]; done) | rfl) (fun p e s m below meth c vmi chi => ?_)
  refine Go.aconst_null 1 d_prog_58_m4_0 rfl ?_
  refine Go.astore_n #[.val (.ref a), .val (.ref q_), .val (.null), .unset] 2 d_prog_58_m4_1 rfl rfl rfl ?_
  refine Go.iconst (0) 3 d_prog_58_m4_2 rfl rfl ?_
  refine Go.istore_n #[.val (.ref a), .val (.ref q_), .val (.null), .val (.int (0 : Int32))] 4 d_prog_58_m4_3 rfl rfl ?_
  refine Go.iload_n 5 d_prog_58_m4_4 rfl rfl ?_
  refine Go.aload_n 6 d_prog_58_m4_5 rfl rfl rfl ?_
  refine Go.getfield 9 d_prog_58_m4_6 rfl (W.1 63 rfl) FN ?_
  refine Go.arraylength 10 d_prog_58_m4_9 rfl AN ?_
  refine Go.if_icmpge 43 13 d_prog_58_m4_10 (by decide) rfl rfl (fun q1 => ?_) (fun q1 => absurd q1 (by decide))
  refine Go.aload_n 44 d_prog_58_m4_43 rfl rfl rfl ?_
  exact Go.areturn d_prog_58_m4_44 rfl rfl rfl (nl rfl) (nl rfl) (fun vm' ch => ⟨rfl, rfl⟩)
set_option maxRecDepth 65536 in
set_option maxHeartbeats 40000000 in
theorem cGet0n {l : Launch} {Z : State} {a0 : Array Value} (W : Wd Z a0) {EL : List (String × Nat)} {vm : Vm} {h : Heap} {nw : Bool} {a na va : Addr} {kN kV : ClassId}  (FN : Fld Z h a "com/example/tendril/tendril/xml/XmlElement" "attributeNames" "[Ljava/lang/String;" (.ref na)) (FV : Fld Z h a "com/example/tendril/tendril/xml/XmlElement" "attributeValues" "[Ljava/lang/String;" (.ref va)) (AN : Arv Z h na kN (.object "java/lang/String") (0 : Int32) [] .null) (AV : Arv Z h va kV (.object "java/lang/String") (0 : Int32) [] .null)  :
    Ctr nw l Z a0 EL (⟨"com/example/tendril/tendril/xml/XmlElement", "getAttribute", "(Ljava/lang/String;)Ljava/lang/String;"⟩ : MethodName) prog_58_method_4_code 4 (some (.object "java/lang/String")) ({ frames := 0, cells := 0, slots := 0, locals := 0 } : Room) #[.ref a, .null] vm h (fun v vm' h' => v = some .null ∧ h' = h) := by
  refine Ctr.of_go (L0 := #[.val (.ref a), .val (.null), .unset, .unset]) (by first | exact plainFor_of_name (by first | (simp [plainName, overriddenIn]; done) | decide +kernel) | decide +kernel) (fun m => by first | (simp [entryFrame, mkF, argsToLocals, Value.category, maxLocals]; done) | rfl) (fun p e s m below meth c vmi chi => ?_)
  refine Go.aconst_null 1 d_prog_58_m4_0 rfl ?_
  refine Go.astore_n #[.val (.ref a), .val (.null), .val (.null), .unset] 2 d_prog_58_m4_1 rfl rfl rfl ?_
  refine Go.iconst (0) 3 d_prog_58_m4_2 rfl rfl ?_
  refine Go.istore_n #[.val (.ref a), .val (.null), .val (.null), .val (.int (0 : Int32))] 4 d_prog_58_m4_3 rfl rfl ?_
  refine Go.iload_n 5 d_prog_58_m4_4 rfl rfl ?_
  refine Go.aload_n 6 d_prog_58_m4_5 rfl rfl rfl ?_
  refine Go.getfield 9 d_prog_58_m4_6 rfl (W.1 63 rfl) FN ?_
  refine Go.arraylength 10 d_prog_58_m4_9 rfl AN ?_
  refine Go.if_icmpge 43 13 d_prog_58_m4_10 (by decide) rfl rfl (fun q1 => ?_) (fun q1 => absurd q1 (by decide))
  refine Go.aload_n 44 d_prog_58_m4_43 rfl rfl rfl ?_
  exact Go.areturn d_prog_58_m4_44 rfl rfl rfl (nl rfl) (nl rfl) (fun vm' ch => ⟨rfl, rfl⟩)
set_option maxRecDepth 65536 in
set_option maxHeartbeats 40000000 in
theorem cGet1s {l : Launch} {Z : State} {a0 : Array Value} (W : Wd Z a0) {EL : List (String × Nat)} {vm : Vm} {h : Heap} {nw : Bool} {a na va : Addr} {kN kV : ClassId} {n0_ v0_ : Addr} {d0_ : List Int32} (FN : Fld Z h a "com/example/tendril/tendril/xml/XmlElement" "attributeNames" "[Ljava/lang/String;" (.ref na)) (FV : Fld Z h a "com/example/tendril/tendril/xml/XmlElement" "attributeValues" "[Ljava/lang/String;" (.ref va)) (AN : Arv Z h na kN (.object "java/lang/String") (1 : Int32) [.ref n0_] .null) (AV : Arv Z h va kV (.object "java/lang/String") (1 : Int32) [.ref v0_] .null) (S0_ : Str Z h n0_ d0_) {q_ : Addr} {e_ : List Int32} (T : Str Z h q_ e_) :
    Ctr nw l Z a0 EL (⟨"com/example/tendril/tendril/xml/XmlElement", "getAttribute", "(Ljava/lang/String;)Ljava/lang/String;"⟩ : MethodName) prog_58_method_4_code 4 (some (.object "java/lang/String")) ({ frames := 2, cells := 0, slots := 0, locals := 28 } : Room) #[.ref a, .ref q_] vm h (fun v vm' h' => v = some (if d0_ = e_ then Value.ref v0_ else Value.null) ∧ h' = h) := by
  refine Ctr.of_go (L0 := #[.val (.ref a), .val (.ref q_), .unset, .unset]) (by first | exact plainFor_of_name (by first | (simp [plainName, overriddenIn]; done) | decide +kernel) | decide +kernel) (fun m => by first | (simp [entryFrame, mkF, argsToLocals, Value.category, maxLocals]; done) | rfl) (fun p e s m below meth c vmi chi => ?_)
  refine Go.aconst_null 1 d_prog_58_m4_0 rfl ?_
  refine Go.astore_n #[.val (.ref a), .val (.ref q_), .val (.null), .unset] 2 d_prog_58_m4_1 rfl rfl rfl ?_
  refine Go.iconst (0) 3 d_prog_58_m4_2 rfl rfl ?_
  refine Go.istore_n #[.val (.ref a), .val (.ref q_), .val (.null), .val (.int (0 : Int32))] 4 d_prog_58_m4_3 rfl rfl ?_
  refine Go.iload_n 5 d_prog_58_m4_4 rfl rfl ?_
  refine Go.aload_n 6 d_prog_58_m4_5 rfl rfl rfl ?_
  refine Go.getfield 9 d_prog_58_m4_6 rfl (W.1 63 rfl) FN ?_
  refine Go.arraylength 10 d_prog_58_m4_9 rfl AN ?_
  refine Go.if_icmpge 43 13 d_prog_58_m4_10 (by decide) rfl rfl (fun q1 => absurd q1 (by decide)) (fun q1 => ?_)
  refine Go.aload_n 14 d_prog_58_m4_13 rfl rfl rfl ?_
  refine Go.ifnonnull_n 17 d_prog_58_m4_14 rfl ?_
  refine Go.aload_n 18 d_prog_58_m4_17 rfl rfl rfl ?_
  refine Go.getfield 21 d_prog_58_m4_18 rfl (W.1 63 rfl) FN ?_
  refine Go.iload_n 22 d_prog_58_m4_21 rfl rfl ?_
  refine Go.aaload (.ref n0_) 23 d_prog_58_m4_22 rfl AN rfl (by decide) rfl ?_
  refine Go.aload_n 24 d_prog_58_m4_23 rfl rfl rfl ?_
  refine goStrEq W 0 27 d_prog_58_m4_24 rfl (W.1 75 rfl) S0_ T rfl rfl (nl rfl) (nl rfl) (nl rfl) (nl rfl) (nl rfl) (fun p0 => ?_) (fun p0 => ?_)
  · refine Go.ifeq 37 30 d_prog_58_m4_27 (by decide) rfl rfl (fun q2 => absurd q2 (by decide)) (fun q2 => ?_)
    refine Go.aload_n 31 d_prog_58_m4_30 rfl rfl rfl ?_
    refine Go.getfield 34 d_prog_58_m4_31 rfl (W.1 65 rfl) FV ?_
    refine Go.iload_n 35 d_prog_58_m4_34 rfl rfl ?_
    refine Go.aaload (.ref v0_) 36 d_prog_58_m4_35 rfl AV rfl (by decide) rfl ?_
    refine Go.astore_n #[.val (.ref a), .val (.ref q_), .val (.ref v0_), .val (.int (0 : Int32))] 37 d_prog_58_m4_36 rfl rfl rfl ?_
    refine Go.iinc (1 : Int32) #[.val (.ref a), .val (.ref q_), .val (.ref v0_), .val (.int (1 : Int32))] 40 d_prog_58_m4_37 rfl rfl rfl rfl ?_
    refine Go.goto 4 d_prog_58_m4_40 (by decide) rfl ?_
    refine Go.iload_n 5 d_prog_58_m4_4 rfl rfl ?_
    refine Go.aload_n 6 d_prog_58_m4_5 rfl rfl rfl ?_
    refine Go.getfield 9 d_prog_58_m4_6 rfl (W.1 63 rfl) FN ?_
    refine Go.arraylength 10 d_prog_58_m4_9 rfl AN ?_
    refine Go.if_icmpge 43 13 d_prog_58_m4_10 (by decide) rfl rfl (fun q3 => ?_) (fun q3 => absurd q3 (by decide))
    refine Go.aload_n 44 d_prog_58_m4_43 rfl rfl rfl ?_
    exact Go.areturn d_prog_58_m4_44 rfl rfl rfl (nl rfl) (nl rfl) (fun vm' ch => ⟨by rw [if_pos p0], rfl⟩)
  · refine Go.ifeq 37 30 d_prog_58_m4_27 (by decide) rfl rfl (fun q4 => ?_) (fun q4 => absurd rfl q4)
    refine Go.iinc (1 : Int32) #[.val (.ref a), .val (.ref q_), .val (.null), .val (.int (1 : Int32))] 40 d_prog_58_m4_37 rfl rfl rfl rfl ?_
    refine Go.goto 4 d_prog_58_m4_40 (by decide) rfl ?_
    refine Go.iload_n 5 d_prog_58_m4_4 rfl rfl ?_
    refine Go.aload_n 6 d_prog_58_m4_5 rfl rfl rfl ?_
    refine Go.getfield 9 d_prog_58_m4_6 rfl (W.1 63 rfl) FN ?_
    refine Go.arraylength 10 d_prog_58_m4_9 rfl AN ?_
    refine Go.if_icmpge 43 13 d_prog_58_m4_10 (by decide) rfl rfl (fun q5 => ?_) (fun q5 => absurd q5 (by decide))
    refine Go.aload_n 44 d_prog_58_m4_43 rfl rfl rfl ?_
    exact Go.areturn d_prog_58_m4_44 rfl rfl rfl (nl rfl) (nl rfl) (fun vm' ch => ⟨by rw [if_neg p0], rfl⟩)
set_option maxRecDepth 65536 in
set_option maxHeartbeats 40000000 in
theorem cGet1n {l : Launch} {Z : State} {a0 : Array Value} (W : Wd Z a0) {EL : List (String × Nat)} {vm : Vm} {h : Heap} {nw : Bool} {a na va : Addr} {kN kV : ClassId} {n0_ v0_ : Addr} {d0_ : List Int32} (FN : Fld Z h a "com/example/tendril/tendril/xml/XmlElement" "attributeNames" "[Ljava/lang/String;" (.ref na)) (FV : Fld Z h a "com/example/tendril/tendril/xml/XmlElement" "attributeValues" "[Ljava/lang/String;" (.ref va)) (AN : Arv Z h na kN (.object "java/lang/String") (1 : Int32) [.ref n0_] .null) (AV : Arv Z h va kV (.object "java/lang/String") (1 : Int32) [.ref v0_] .null) (S0_ : Str Z h n0_ d0_) :
    Ctr nw l Z a0 EL (⟨"com/example/tendril/tendril/xml/XmlElement", "getAttribute", "(Ljava/lang/String;)Ljava/lang/String;"⟩ : MethodName) prog_58_method_4_code 4 (some (.object "java/lang/String")) ({ frames := 1, cells := 0, slots := 0, locals := 14 } : Room) #[.ref a, .null] vm h (fun v vm' h' => v = some .null ∧ h' = h) := by
  refine Ctr.of_go (L0 := #[.val (.ref a), .val (.null), .unset, .unset]) (by first | exact plainFor_of_name (by first | (simp [plainName, overriddenIn]; done) | decide +kernel) | decide +kernel) (fun m => by first | (simp [entryFrame, mkF, argsToLocals, Value.category, maxLocals]; done) | rfl) (fun p e s m below meth c vmi chi => ?_)
  refine Go.aconst_null 1 d_prog_58_m4_0 rfl ?_
  refine Go.astore_n #[.val (.ref a), .val (.null), .val (.null), .unset] 2 d_prog_58_m4_1 rfl rfl rfl ?_
  refine Go.iconst (0) 3 d_prog_58_m4_2 rfl rfl ?_
  refine Go.istore_n #[.val (.ref a), .val (.null), .val (.null), .val (.int (0 : Int32))] 4 d_prog_58_m4_3 rfl rfl ?_
  refine Go.iload_n 5 d_prog_58_m4_4 rfl rfl ?_
  refine Go.aload_n 6 d_prog_58_m4_5 rfl rfl rfl ?_
  refine Go.getfield 9 d_prog_58_m4_6 rfl (W.1 63 rfl) FN ?_
  refine Go.arraylength 10 d_prog_58_m4_9 rfl AN ?_
  refine Go.if_icmpge 43 13 d_prog_58_m4_10 (by decide) rfl rfl (fun q1 => absurd q1 (by decide)) (fun q1 => ?_)
  refine Go.aload_n 14 d_prog_58_m4_13 rfl rfl rfl ?_
  refine Go.ifnonnull_n 17 d_prog_58_m4_14 rfl ?_
  refine Go.aload_n 18 d_prog_58_m4_17 rfl rfl rfl ?_
  refine Go.getfield 21 d_prog_58_m4_18 rfl (W.1 63 rfl) FN ?_
  refine Go.iload_n 22 d_prog_58_m4_21 rfl rfl ?_
  refine Go.aaload (.ref n0_) 23 d_prog_58_m4_22 rfl AN rfl (by decide) rfl ?_
  refine Go.aload_n 24 d_prog_58_m4_23 rfl rfl rfl ?_
  refine Go.invokevirtual (rest := []) 0 n0_ [.null] 27 d_prog_58_m4_24 rfl S0_.exa (W.1 75 rfl) (W.1 76 rfl) (fun s hs => notFace_of_selects (args := #[]) (mvT hs (W.1 78 rfl))) (W.1 78 rfl) (W.1 77 rfl) (W.1 6 rfl) (W.1 79 rfl) (by decide) (cEqNull W ) (by decide +kernel : parseMethodDescriptor "(Ljava/lang/Object;)Z" = some ⟨[(.object "java/lang/Object")], (some .boolean)⟩) rfl rfl rfl (nl rfl) (nl rfl) (nl rfl) (nl rfl) (nl rfl) (fun v2 vm2 h2 ⟨rv, hh⟩ c2 => ?_)
  subst rv; replace hh := hh.symm; subst hh
  refine Go.ifeq 37 30 d_prog_58_m4_27 (by decide) rfl rfl (fun q3 => ?_) (fun q3 => absurd rfl q3)
  refine Go.iinc (1 : Int32) #[.val (.ref a), .val (.null), .val (.null), .val (.int (1 : Int32))] 40 d_prog_58_m4_37 rfl rfl rfl rfl ?_
  refine Go.goto 4 d_prog_58_m4_40 (by decide) rfl ?_
  refine Go.iload_n 5 d_prog_58_m4_4 rfl rfl ?_
  refine Go.aload_n 6 d_prog_58_m4_5 rfl rfl rfl ?_
  refine Go.getfield 9 d_prog_58_m4_6 rfl (W.1 63 rfl) FN ?_
  refine Go.arraylength 10 d_prog_58_m4_9 rfl AN ?_
  refine Go.if_icmpge 43 13 d_prog_58_m4_10 (by decide) rfl rfl (fun q4 => ?_) (fun q4 => absurd q4 (by decide))
  refine Go.aload_n 44 d_prog_58_m4_43 rfl rfl rfl ?_
  exact Go.areturn d_prog_58_m4_44 rfl rfl rfl (nl rfl) (nl rfl) (fun vm' ch => ⟨rfl, rfl⟩)
set_option maxRecDepth 65536 in
set_option maxHeartbeats 40000000 in
theorem cGet2s {l : Launch} {Z : State} {a0 : Array Value} (W : Wd Z a0) {EL : List (String × Nat)} {vm : Vm} {h : Heap} {nw : Bool} {a na va : Addr} {kN kV : ClassId} {n0_ v0_ : Addr} {d0_ : List Int32} {n1_ v1_ : Addr} {d1_ : List Int32} (FN : Fld Z h a "com/example/tendril/tendril/xml/XmlElement" "attributeNames" "[Ljava/lang/String;" (.ref na)) (FV : Fld Z h a "com/example/tendril/tendril/xml/XmlElement" "attributeValues" "[Ljava/lang/String;" (.ref va)) (AN : Arv Z h na kN (.object "java/lang/String") (2 : Int32) [.ref n0_, .ref n1_] .null) (AV : Arv Z h va kV (.object "java/lang/String") (2 : Int32) [.ref v0_, .ref v1_] .null) (S0_ : Str Z h n0_ d0_) (S1_ : Str Z h n1_ d1_) {q_ : Addr} {e_ : List Int32} (T : Str Z h q_ e_) :
    Ctr nw l Z a0 EL (⟨"com/example/tendril/tendril/xml/XmlElement", "getAttribute", "(Ljava/lang/String;)Ljava/lang/String;"⟩ : MethodName) prog_58_method_4_code 4 (some (.object "java/lang/String")) ({ frames := 2, cells := 0, slots := 0, locals := 28 } : Room) #[.ref a, .ref q_] vm h (fun v vm' h' => v = some (if d0_ = e_ then Value.ref v0_ else (if d1_ = e_ then Value.ref v1_ else Value.null)) ∧ h' = h) := by
  refine Ctr.of_go (L0 := #[.val (.ref a), .val (.ref q_), .unset, .unset]) (by first | exact plainFor_of_name (by first | (simp [plainName, overriddenIn]; done) | decide +kernel) | decide +kernel) (fun m => by first | (simp [entryFrame, mkF, argsToLocals, Value.category, maxLocals]; done) | rfl) (fun p e s m below meth c vmi chi => ?_)
  refine Go.aconst_null 1 d_prog_58_m4_0 rfl ?_
  refine Go.astore_n #[.val (.ref a), .val (.ref q_), .val (.null), .unset] 2 d_prog_58_m4_1 rfl rfl rfl ?_
  refine Go.iconst (0) 3 d_prog_58_m4_2 rfl rfl ?_
  refine Go.istore_n #[.val (.ref a), .val (.ref q_), .val (.null), .val (.int (0 : Int32))] 4 d_prog_58_m4_3 rfl rfl ?_
  refine Go.iload_n 5 d_prog_58_m4_4 rfl rfl ?_
  refine Go.aload_n 6 d_prog_58_m4_5 rfl rfl rfl ?_
  refine Go.getfield 9 d_prog_58_m4_6 rfl (W.1 63 rfl) FN ?_
  refine Go.arraylength 10 d_prog_58_m4_9 rfl AN ?_
  refine Go.if_icmpge 43 13 d_prog_58_m4_10 (by decide) rfl rfl (fun q1 => absurd q1 (by decide)) (fun q1 => ?_)
  refine Go.aload_n 14 d_prog_58_m4_13 rfl rfl rfl ?_
  refine Go.ifnonnull_n 17 d_prog_58_m4_14 rfl ?_
  refine Go.aload_n 18 d_prog_58_m4_17 rfl rfl rfl ?_
  refine Go.getfield 21 d_prog_58_m4_18 rfl (W.1 63 rfl) FN ?_
  refine Go.iload_n 22 d_prog_58_m4_21 rfl rfl ?_
  refine Go.aaload (.ref n0_) 23 d_prog_58_m4_22 rfl AN rfl (by decide) rfl ?_
  refine Go.aload_n 24 d_prog_58_m4_23 rfl rfl rfl ?_
  refine goStrEq W 0 27 d_prog_58_m4_24 rfl (W.1 75 rfl) S0_ T rfl rfl (nl rfl) (nl rfl) (nl rfl) (nl rfl) (nl rfl) (fun p0 => ?_) (fun p0 => ?_)
  · refine Go.ifeq 37 30 d_prog_58_m4_27 (by decide) rfl rfl (fun q2 => absurd q2 (by decide)) (fun q2 => ?_)
    refine Go.aload_n 31 d_prog_58_m4_30 rfl rfl rfl ?_
    refine Go.getfield 34 d_prog_58_m4_31 rfl (W.1 65 rfl) FV ?_
    refine Go.iload_n 35 d_prog_58_m4_34 rfl rfl ?_
    refine Go.aaload (.ref v0_) 36 d_prog_58_m4_35 rfl AV rfl (by decide) rfl ?_
    refine Go.astore_n #[.val (.ref a), .val (.ref q_), .val (.ref v0_), .val (.int (0 : Int32))] 37 d_prog_58_m4_36 rfl rfl rfl ?_
    refine Go.iinc (1 : Int32) #[.val (.ref a), .val (.ref q_), .val (.ref v0_), .val (.int (1 : Int32))] 40 d_prog_58_m4_37 rfl rfl rfl rfl ?_
    refine Go.goto 4 d_prog_58_m4_40 (by decide) rfl ?_
    refine Go.iload_n 5 d_prog_58_m4_4 rfl rfl ?_
    refine Go.aload_n 6 d_prog_58_m4_5 rfl rfl rfl ?_
    refine Go.getfield 9 d_prog_58_m4_6 rfl (W.1 63 rfl) FN ?_
    refine Go.arraylength 10 d_prog_58_m4_9 rfl AN ?_
    refine Go.if_icmpge 43 13 d_prog_58_m4_10 (by decide) rfl rfl (fun q3 => absurd q3 (by decide)) (fun q3 => ?_)
    refine Go.aload_n 14 d_prog_58_m4_13 rfl rfl rfl ?_
    refine Go.ifnonnull_y 43 d_prog_58_m4_14 (by decide) rfl ?_
    refine Go.aload_n 44 d_prog_58_m4_43 rfl rfl rfl ?_
    exact Go.areturn d_prog_58_m4_44 rfl rfl rfl (nl rfl) (nl rfl) (fun vm' ch => ⟨by rw [if_pos p0], rfl⟩)
  · refine Go.ifeq 37 30 d_prog_58_m4_27 (by decide) rfl rfl (fun q4 => ?_) (fun q4 => absurd rfl q4)
    refine Go.iinc (1 : Int32) #[.val (.ref a), .val (.ref q_), .val (.null), .val (.int (1 : Int32))] 40 d_prog_58_m4_37 rfl rfl rfl rfl ?_
    refine Go.goto 4 d_prog_58_m4_40 (by decide) rfl ?_
    refine Go.iload_n 5 d_prog_58_m4_4 rfl rfl ?_
    refine Go.aload_n 6 d_prog_58_m4_5 rfl rfl rfl ?_
    refine Go.getfield 9 d_prog_58_m4_6 rfl (W.1 63 rfl) FN ?_
    refine Go.arraylength 10 d_prog_58_m4_9 rfl AN ?_
    refine Go.if_icmpge 43 13 d_prog_58_m4_10 (by decide) rfl rfl (fun q5 => absurd q5 (by decide)) (fun q5 => ?_)
    refine Go.aload_n 14 d_prog_58_m4_13 rfl rfl rfl ?_
    refine Go.ifnonnull_n 17 d_prog_58_m4_14 rfl ?_
    refine Go.aload_n 18 d_prog_58_m4_17 rfl rfl rfl ?_
    refine Go.getfield 21 d_prog_58_m4_18 rfl (W.1 63 rfl) FN ?_
    refine Go.iload_n 22 d_prog_58_m4_21 rfl rfl ?_
    refine Go.aaload (.ref n1_) 23 d_prog_58_m4_22 rfl AN rfl (by decide) rfl ?_
    refine Go.aload_n 24 d_prog_58_m4_23 rfl rfl rfl ?_
    refine goStrEq W 0 27 d_prog_58_m4_24 rfl (W.1 75 rfl) S1_ T rfl rfl (nl rfl) (nl rfl) (nl rfl) (nl rfl) (nl rfl) (fun p1 => ?_) (fun p1 => ?_)
    · refine Go.ifeq 37 30 d_prog_58_m4_27 (by decide) rfl rfl (fun q6 => absurd q6 (by decide)) (fun q6 => ?_)
      refine Go.aload_n 31 d_prog_58_m4_30 rfl rfl rfl ?_
      refine Go.getfield 34 d_prog_58_m4_31 rfl (W.1 65 rfl) FV ?_
      refine Go.iload_n 35 d_prog_58_m4_34 rfl rfl ?_
      refine Go.aaload (.ref v1_) 36 d_prog_58_m4_35 rfl AV rfl (by decide) rfl ?_
      refine Go.astore_n #[.val (.ref a), .val (.ref q_), .val (.ref v1_), .val (.int (1 : Int32))] 37 d_prog_58_m4_36 rfl rfl rfl ?_
      refine Go.iinc (2 : Int32) #[.val (.ref a), .val (.ref q_), .val (.ref v1_), .val (.int (2 : Int32))] 40 d_prog_58_m4_37 rfl rfl rfl rfl ?_
      refine Go.goto 4 d_prog_58_m4_40 (by decide) rfl ?_
      refine Go.iload_n 5 d_prog_58_m4_4 rfl rfl ?_
      refine Go.aload_n 6 d_prog_58_m4_5 rfl rfl rfl ?_
      refine Go.getfield 9 d_prog_58_m4_6 rfl (W.1 63 rfl) FN ?_
      refine Go.arraylength 10 d_prog_58_m4_9 rfl AN ?_
      refine Go.if_icmpge 43 13 d_prog_58_m4_10 (by decide) rfl rfl (fun q7 => ?_) (fun q7 => absurd q7 (by decide))
      refine Go.aload_n 44 d_prog_58_m4_43 rfl rfl rfl ?_
      exact Go.areturn d_prog_58_m4_44 rfl rfl rfl (nl rfl) (nl rfl) (fun vm' ch => ⟨by rw [if_neg p0, if_pos p1], rfl⟩)
    · refine Go.ifeq 37 30 d_prog_58_m4_27 (by decide) rfl rfl (fun q8 => ?_) (fun q8 => absurd rfl q8)
      refine Go.iinc (2 : Int32) #[.val (.ref a), .val (.ref q_), .val (.null), .val (.int (2 : Int32))] 40 d_prog_58_m4_37 rfl rfl rfl rfl ?_
      refine Go.goto 4 d_prog_58_m4_40 (by decide) rfl ?_
      refine Go.iload_n 5 d_prog_58_m4_4 rfl rfl ?_
      refine Go.aload_n 6 d_prog_58_m4_5 rfl rfl rfl ?_
      refine Go.getfield 9 d_prog_58_m4_6 rfl (W.1 63 rfl) FN ?_
      refine Go.arraylength 10 d_prog_58_m4_9 rfl AN ?_
      refine Go.if_icmpge 43 13 d_prog_58_m4_10 (by decide) rfl rfl (fun q9 => ?_) (fun q9 => absurd q9 (by decide))
      refine Go.aload_n 44 d_prog_58_m4_43 rfl rfl rfl ?_
      exact Go.areturn d_prog_58_m4_44 rfl rfl rfl (nl rfl) (nl rfl) (fun vm' ch => ⟨by rw [if_neg p0, if_neg p1], rfl⟩)
set_option maxRecDepth 65536 in
set_option maxHeartbeats 40000000 in
theorem cGet2n {l : Launch} {Z : State} {a0 : Array Value} (W : Wd Z a0) {EL : List (String × Nat)} {vm : Vm} {h : Heap} {nw : Bool} {a na va : Addr} {kN kV : ClassId} {n0_ v0_ : Addr} {d0_ : List Int32} {n1_ v1_ : Addr} {d1_ : List Int32} (FN : Fld Z h a "com/example/tendril/tendril/xml/XmlElement" "attributeNames" "[Ljava/lang/String;" (.ref na)) (FV : Fld Z h a "com/example/tendril/tendril/xml/XmlElement" "attributeValues" "[Ljava/lang/String;" (.ref va)) (AN : Arv Z h na kN (.object "java/lang/String") (2 : Int32) [.ref n0_, .ref n1_] .null) (AV : Arv Z h va kV (.object "java/lang/String") (2 : Int32) [.ref v0_, .ref v1_] .null) (S0_ : Str Z h n0_ d0_) (S1_ : Str Z h n1_ d1_) :
    Ctr nw l Z a0 EL (⟨"com/example/tendril/tendril/xml/XmlElement", "getAttribute", "(Ljava/lang/String;)Ljava/lang/String;"⟩ : MethodName) prog_58_method_4_code 4 (some (.object "java/lang/String")) ({ frames := 1, cells := 0, slots := 0, locals := 14 } : Room) #[.ref a, .null] vm h (fun v vm' h' => v = some .null ∧ h' = h) := by
  refine Ctr.of_go (L0 := #[.val (.ref a), .val (.null), .unset, .unset]) (by first | exact plainFor_of_name (by first | (simp [plainName, overriddenIn]; done) | decide +kernel) | decide +kernel) (fun m => by first | (simp [entryFrame, mkF, argsToLocals, Value.category, maxLocals]; done) | rfl) (fun p e s m below meth c vmi chi => ?_)
  refine Go.aconst_null 1 d_prog_58_m4_0 rfl ?_
  refine Go.astore_n #[.val (.ref a), .val (.null), .val (.null), .unset] 2 d_prog_58_m4_1 rfl rfl rfl ?_
  refine Go.iconst (0) 3 d_prog_58_m4_2 rfl rfl ?_
  refine Go.istore_n #[.val (.ref a), .val (.null), .val (.null), .val (.int (0 : Int32))] 4 d_prog_58_m4_3 rfl rfl ?_
  refine Go.iload_n 5 d_prog_58_m4_4 rfl rfl ?_
  refine Go.aload_n 6 d_prog_58_m4_5 rfl rfl rfl ?_
  refine Go.getfield 9 d_prog_58_m4_6 rfl (W.1 63 rfl) FN ?_
  refine Go.arraylength 10 d_prog_58_m4_9 rfl AN ?_
  refine Go.if_icmpge 43 13 d_prog_58_m4_10 (by decide) rfl rfl (fun q1 => absurd q1 (by decide)) (fun q1 => ?_)
  refine Go.aload_n 14 d_prog_58_m4_13 rfl rfl rfl ?_
  refine Go.ifnonnull_n 17 d_prog_58_m4_14 rfl ?_
  refine Go.aload_n 18 d_prog_58_m4_17 rfl rfl rfl ?_
  refine Go.getfield 21 d_prog_58_m4_18 rfl (W.1 63 rfl) FN ?_
  refine Go.iload_n 22 d_prog_58_m4_21 rfl rfl ?_
  refine Go.aaload (.ref n0_) 23 d_prog_58_m4_22 rfl AN rfl (by decide) rfl ?_
  refine Go.aload_n 24 d_prog_58_m4_23 rfl rfl rfl ?_
  refine Go.invokevirtual (rest := []) 0 n0_ [.null] 27 d_prog_58_m4_24 rfl S0_.exa (W.1 75 rfl) (W.1 76 rfl) (fun s hs => notFace_of_selects (args := #[]) (mvT hs (W.1 78 rfl))) (W.1 78 rfl) (W.1 77 rfl) (W.1 6 rfl) (W.1 79 rfl) (by decide) (cEqNull W ) (by decide +kernel : parseMethodDescriptor "(Ljava/lang/Object;)Z" = some ⟨[(.object "java/lang/Object")], (some .boolean)⟩) rfl rfl rfl (nl rfl) (nl rfl) (nl rfl) (nl rfl) (nl rfl) (fun v2 vm2 h2 ⟨rv, hh⟩ c2 => ?_)
  subst rv; replace hh := hh.symm; subst hh
  refine Go.ifeq 37 30 d_prog_58_m4_27 (by decide) rfl rfl (fun q3 => ?_) (fun q3 => absurd rfl q3)
  refine Go.iinc (1 : Int32) #[.val (.ref a), .val (.null), .val (.null), .val (.int (1 : Int32))] 40 d_prog_58_m4_37 rfl rfl rfl rfl ?_
  refine Go.goto 4 d_prog_58_m4_40 (by decide) rfl ?_
  refine Go.iload_n 5 d_prog_58_m4_4 rfl rfl ?_
  refine Go.aload_n 6 d_prog_58_m4_5 rfl rfl rfl ?_
  refine Go.getfield 9 d_prog_58_m4_6 rfl (W.1 63 rfl) FN ?_
  refine Go.arraylength 10 d_prog_58_m4_9 rfl AN ?_
  refine Go.if_icmpge 43 13 d_prog_58_m4_10 (by decide) rfl rfl (fun q4 => absurd q4 (by decide)) (fun q4 => ?_)
  refine Go.aload_n 14 d_prog_58_m4_13 rfl rfl rfl ?_
  refine Go.ifnonnull_n 17 d_prog_58_m4_14 rfl ?_
  refine Go.aload_n 18 d_prog_58_m4_17 rfl rfl rfl ?_
  refine Go.getfield 21 d_prog_58_m4_18 rfl (W.1 63 rfl) FN ?_
  refine Go.iload_n 22 d_prog_58_m4_21 rfl rfl ?_
  refine Go.aaload (.ref n1_) 23 d_prog_58_m4_22 rfl AN rfl (by decide) rfl ?_
  refine Go.aload_n 24 d_prog_58_m4_23 rfl rfl rfl ?_
  refine Go.invokevirtual (rest := []) 0 n1_ [.null] 27 d_prog_58_m4_24 rfl S1_.exa (W.1 75 rfl) (W.1 76 rfl) (fun s hs => notFace_of_selects (args := #[]) (mvT hs (W.1 78 rfl))) (W.1 78 rfl) (W.1 77 rfl) (W.1 6 rfl) (W.1 79 rfl) (by decide) (cEqNull W ) (by decide +kernel : parseMethodDescriptor "(Ljava/lang/Object;)Z" = some ⟨[(.object "java/lang/Object")], (some .boolean)⟩) rfl rfl rfl (nl rfl) (nl rfl) (nl rfl) (nl rfl) (nl rfl) (fun v5 vm5 h5 ⟨rv, hh⟩ c5 => ?_)
  subst rv; replace hh := hh.symm; subst hh
  refine Go.ifeq 37 30 d_prog_58_m4_27 (by decide) rfl rfl (fun q6 => ?_) (fun q6 => absurd rfl q6)
  refine Go.iinc (2 : Int32) #[.val (.ref a), .val (.null), .val (.null), .val (.int (2 : Int32))] 40 d_prog_58_m4_37 rfl rfl rfl rfl ?_
  refine Go.goto 4 d_prog_58_m4_40 (by decide) rfl ?_
  refine Go.iload_n 5 d_prog_58_m4_4 rfl rfl ?_
  refine Go.aload_n 6 d_prog_58_m4_5 rfl rfl rfl ?_
  refine Go.getfield 9 d_prog_58_m4_6 rfl (W.1 63 rfl) FN ?_
  refine Go.arraylength 10 d_prog_58_m4_9 rfl AN ?_
  refine Go.if_icmpge 43 13 d_prog_58_m4_10 (by decide) rfl rfl (fun q7 => ?_) (fun q7 => absurd q7 (by decide))
  refine Go.aload_n 44 d_prog_58_m4_43 rfl rfl rfl ?_
  exact Go.areturn d_prog_58_m4_44 rfl rfl rfl (nl rfl) (nl rfl) (fun vm' ch => ⟨rfl, rfl⟩)
set_option maxRecDepth 65536 in
set_option maxHeartbeats 40000000 in
theorem cGet3s {l : Launch} {Z : State} {a0 : Array Value} (W : Wd Z a0) {EL : List (String × Nat)} {vm : Vm} {h : Heap} {nw : Bool} {a na va : Addr} {kN kV : ClassId} {n0_ v0_ : Addr} {d0_ : List Int32} {n1_ v1_ : Addr} {d1_ : List Int32} {n2_ v2_ : Addr} {d2_ : List Int32} (FN : Fld Z h a "com/example/tendril/tendril/xml/XmlElement" "attributeNames" "[Ljava/lang/String;" (.ref na)) (FV : Fld Z h a "com/example/tendril/tendril/xml/XmlElement" "attributeValues" "[Ljava/lang/String;" (.ref va)) (AN : Arv Z h na kN (.object "java/lang/String") (3 : Int32) [.ref n0_, .ref n1_, .ref n2_] .null) (AV : Arv Z h va kV (.object "java/lang/String") (3 : Int32) [.ref v0_, .ref v1_, .ref v2_] .null) (S0_ : Str Z h n0_ d0_) (S1_ : Str Z h n1_ d1_) (S2_ : Str Z h n2_ d2_) {q_ : Addr} {e_ : List Int32} (T : Str Z h q_ e_) :
    Ctr nw l Z a0 EL (⟨"com/example/tendril/tendril/xml/XmlElement", "getAttribute", "(Ljava/lang/String;)Ljava/lang/String;"⟩ : MethodName) prog_58_method_4_code 4 (some (.object "java/lang/String")) ({ frames := 2, cells := 0, slots := 0, locals := 28 } : Room) #[.ref a, .ref q_] vm h (fun v vm' h' => v = some (if d0_ = e_ then Value.ref v0_ else (if d1_ = e_ then Value.ref v1_ else (if d2_ = e_ then Value.ref v2_ else Value.null))) ∧ h' = h) := by
  refine Ctr.of_go (L0 := #[.val (.ref a), .val (.ref q_), .unset, .unset]) (by first | exact plainFor_of_name (by first | (simp [plainName, overriddenIn]; done) | decide +kernel) | decide +kernel) (fun m => by first | (simp [entryFrame, mkF, argsToLocals, Value.category, maxLocals]; done) | rfl) (fun p e s m below meth c vmi chi => ?_)
  refine Go.aconst_null 1 d_prog_58_m4_0 rfl ?_
  refine Go.astore_n #[.val (.ref a), .val (.ref q_), .val (.null), .unset] 2 d_prog_58_m4_1 rfl rfl rfl ?_
  refine Go.iconst (0) 3 d_prog_58_m4_2 rfl rfl ?_
  refine Go.istore_n #[.val (.ref a), .val (.ref q_), .val (.null), .val (.int (0 : Int32))] 4 d_prog_58_m4_3 rfl rfl ?_
  refine Go.iload_n 5 d_prog_58_m4_4 rfl rfl ?_
  refine Go.aload_n 6 d_prog_58_m4_5 rfl rfl rfl ?_
  refine Go.getfield 9 d_prog_58_m4_6 rfl (W.1 63 rfl) FN ?_
  refine Go.arraylength 10 d_prog_58_m4_9 rfl AN ?_
  refine Go.if_icmpge 43 13 d_prog_58_m4_10 (by decide) rfl rfl (fun q1 => absurd q1 (by decide)) (fun q1 => ?_)
  refine Go.aload_n 14 d_prog_58_m4_13 rfl rfl rfl ?_
  refine Go.ifnonnull_n 17 d_prog_58_m4_14 rfl ?_
  refine Go.aload_n 18 d_prog_58_m4_17 rfl rfl rfl ?_
  refine Go.getfield 21 d_prog_58_m4_18 rfl (W.1 63 rfl) FN ?_
  refine Go.iload_n 22 d_prog_58_m4_21 rfl rfl ?_
  refine Go.aaload (.ref n0_) 23 d_prog_58_m4_22 rfl AN rfl (by decide) rfl ?_
  refine Go.aload_n 24 d_prog_58_m4_23 rfl rfl rfl ?_
  refine goStrEq W 0 27 d_prog_58_m4_24 rfl (W.1 75 rfl) S0_ T rfl rfl (nl rfl) (nl rfl) (nl rfl) (nl rfl) (nl rfl) (fun p0 => ?_) (fun p0 => ?_)
  · refine Go.ifeq 37 30 d_prog_58_m4_27 (by decide) rfl rfl (fun q2 => absurd q2 (by decide)) (fun q2 => ?_)
    refine Go.aload_n 31 d_prog_58_m4_30 rfl rfl rfl ?_
    refine Go.getfield 34 d_prog_58_m4_31 rfl (W.1 65 rfl) FV ?_
    refine Go.iload_n 35 d_prog_58_m4_34 rfl rfl ?_
    refine Go.aaload (.ref v0_) 36 d_prog_58_m4_35 rfl AV rfl (by decide) rfl ?_
    refine Go.astore_n #[.val (.ref a), .val (.ref q_), .val (.ref v0_), .val (.int (0 : Int32))] 37 d_prog_58_m4_36 rfl rfl rfl ?_
    refine Go.iinc (1 : Int32) #[.val (.ref a), .val (.ref q_), .val (.ref v0_), .val (.int (1 : Int32))] 40 d_prog_58_m4_37 rfl rfl rfl rfl ?_
    refine Go.goto 4 d_prog_58_m4_40 (by decide) rfl ?_
    refine Go.iload_n 5 d_prog_58_m4_4 rfl rfl ?_
    refine Go.aload_n 6 d_prog_58_m4_5 rfl rfl rfl ?_
    refine Go.getfield 9 d_prog_58_m4_6 rfl (W.1 63 rfl) FN ?_
    refine Go.arraylength 10 d_prog_58_m4_9 rfl AN ?_
    refine Go.if_icmpge 43 13 d_prog_58_m4_10 (by decide) rfl rfl (fun q3 => absurd q3 (by decide)) (fun q3 => ?_)
    refine Go.aload_n 14 d_prog_58_m4_13 rfl rfl rfl ?_
    refine Go.ifnonnull_y 43 d_prog_58_m4_14 (by decide) rfl ?_
    refine Go.aload_n 44 d_prog_58_m4_43 rfl rfl rfl ?_
    exact Go.areturn d_prog_58_m4_44 rfl rfl rfl (nl rfl) (nl rfl) (fun vm' ch => ⟨by rw [if_pos p0], rfl⟩)
  · refine Go.ifeq 37 30 d_prog_58_m4_27 (by decide) rfl rfl (fun q4 => ?_) (fun q4 => absurd rfl q4)
    refine Go.iinc (1 : Int32) #[.val (.ref a), .val (.ref q_), .val (.null), .val (.int (1 : Int32))] 40 d_prog_58_m4_37 rfl rfl rfl rfl ?_
    refine Go.goto 4 d_prog_58_m4_40 (by decide) rfl ?_
    refine Go.iload_n 5 d_prog_58_m4_4 rfl rfl ?_
    refine Go.aload_n 6 d_prog_58_m4_5 rfl rfl rfl ?_
    refine Go.getfield 9 d_prog_58_m4_6 rfl (W.1 63 rfl) FN ?_
    refine Go.arraylength 10 d_prog_58_m4_9 rfl AN ?_
    refine Go.if_icmpge 43 13 d_prog_58_m4_10 (by decide) rfl rfl (fun q5 => absurd q5 (by decide)) (fun q5 => ?_)
    refine Go.aload_n 14 d_prog_58_m4_13 rfl rfl rfl ?_
    refine Go.ifnonnull_n 17 d_prog_58_m4_14 rfl ?_
    refine Go.aload_n 18 d_prog_58_m4_17 rfl rfl rfl ?_
    refine Go.getfield 21 d_prog_58_m4_18 rfl (W.1 63 rfl) FN ?_
    refine Go.iload_n 22 d_prog_58_m4_21 rfl rfl ?_
    refine Go.aaload (.ref n1_) 23 d_prog_58_m4_22 rfl AN rfl (by decide) rfl ?_
    refine Go.aload_n 24 d_prog_58_m4_23 rfl rfl rfl ?_
    refine goStrEq W 0 27 d_prog_58_m4_24 rfl (W.1 75 rfl) S1_ T rfl rfl (nl rfl) (nl rfl) (nl rfl) (nl rfl) (nl rfl) (fun p1 => ?_) (fun p1 => ?_)
    · refine Go.ifeq 37 30 d_prog_58_m4_27 (by decide) rfl rfl (fun q6 => absurd q6 (by decide)) (fun q6 => ?_)
      refine Go.aload_n 31 d_prog_58_m4_30 rfl rfl rfl ?_
      refine Go.getfield 34 d_prog_58_m4_31 rfl (W.1 65 rfl) FV ?_
      refine Go.iload_n 35 d_prog_58_m4_34 rfl rfl ?_
      refine Go.aaload (.ref v1_) 36 d_prog_58_m4_35 rfl AV rfl (by decide) rfl ?_
      refine Go.astore_n #[.val (.ref a), .val (.ref q_), .val (.ref v1_), .val (.int (1 : Int32))] 37 d_prog_58_m4_36 rfl rfl rfl ?_
      refine Go.iinc (2 : Int32) #[.val (.ref a), .val (.ref q_), .val (.ref v1_), .val (.int (2 : Int32))] 40 d_prog_58_m4_37 rfl rfl rfl rfl ?_
      refine Go.goto 4 d_prog_58_m4_40 (by decide) rfl ?_
      refine Go.iload_n 5 d_prog_58_m4_4 rfl rfl ?_
      refine Go.aload_n 6 d_prog_58_m4_5 rfl rfl rfl ?_
      refine Go.getfield 9 d_prog_58_m4_6 rfl (W.1 63 rfl) FN ?_
      refine Go.arraylength 10 d_prog_58_m4_9 rfl AN ?_
      refine Go.if_icmpge 43 13 d_prog_58_m4_10 (by decide) rfl rfl (fun q7 => absurd q7 (by decide)) (fun q7 => ?_)
      refine Go.aload_n 14 d_prog_58_m4_13 rfl rfl rfl ?_
      refine Go.ifnonnull_y 43 d_prog_58_m4_14 (by decide) rfl ?_
      refine Go.aload_n 44 d_prog_58_m4_43 rfl rfl rfl ?_
      exact Go.areturn d_prog_58_m4_44 rfl rfl rfl (nl rfl) (nl rfl) (fun vm' ch => ⟨by rw [if_neg p0, if_pos p1], rfl⟩)
    · refine Go.ifeq 37 30 d_prog_58_m4_27 (by decide) rfl rfl (fun q8 => ?_) (fun q8 => absurd rfl q8)
      refine Go.iinc (2 : Int32) #[.val (.ref a), .val (.ref q_), .val (.null), .val (.int (2 : Int32))] 40 d_prog_58_m4_37 rfl rfl rfl rfl ?_
      refine Go.goto 4 d_prog_58_m4_40 (by decide) rfl ?_
      refine Go.iload_n 5 d_prog_58_m4_4 rfl rfl ?_
      refine Go.aload_n 6 d_prog_58_m4_5 rfl rfl rfl ?_
      refine Go.getfield 9 d_prog_58_m4_6 rfl (W.1 63 rfl) FN ?_
      refine Go.arraylength 10 d_prog_58_m4_9 rfl AN ?_
      refine Go.if_icmpge 43 13 d_prog_58_m4_10 (by decide) rfl rfl (fun q9 => absurd q9 (by decide)) (fun q9 => ?_)
      refine Go.aload_n 14 d_prog_58_m4_13 rfl rfl rfl ?_
      refine Go.ifnonnull_n 17 d_prog_58_m4_14 rfl ?_
      refine Go.aload_n 18 d_prog_58_m4_17 rfl rfl rfl ?_
      refine Go.getfield 21 d_prog_58_m4_18 rfl (W.1 63 rfl) FN ?_
      refine Go.iload_n 22 d_prog_58_m4_21 rfl rfl ?_
      refine Go.aaload (.ref n2_) 23 d_prog_58_m4_22 rfl AN rfl (by decide) rfl ?_
      refine Go.aload_n 24 d_prog_58_m4_23 rfl rfl rfl ?_
      refine goStrEq W 0 27 d_prog_58_m4_24 rfl (W.1 75 rfl) S2_ T rfl rfl (nl rfl) (nl rfl) (nl rfl) (nl rfl) (nl rfl) (fun p2 => ?_) (fun p2 => ?_)
      · refine Go.ifeq 37 30 d_prog_58_m4_27 (by decide) rfl rfl (fun q10 => absurd q10 (by decide)) (fun q10 => ?_)
        refine Go.aload_n 31 d_prog_58_m4_30 rfl rfl rfl ?_
        refine Go.getfield 34 d_prog_58_m4_31 rfl (W.1 65 rfl) FV ?_
        refine Go.iload_n 35 d_prog_58_m4_34 rfl rfl ?_
        refine Go.aaload (.ref v2_) 36 d_prog_58_m4_35 rfl AV rfl (by decide) rfl ?_
        refine Go.astore_n #[.val (.ref a), .val (.ref q_), .val (.ref v2_), .val (.int (2 : Int32))] 37 d_prog_58_m4_36 rfl rfl rfl ?_
        refine Go.iinc (3 : Int32) #[.val (.ref a), .val (.ref q_), .val (.ref v2_), .val (.int (3 : Int32))] 40 d_prog_58_m4_37 rfl rfl rfl rfl ?_
        refine Go.goto 4 d_prog_58_m4_40 (by decide) rfl ?_
        refine Go.iload_n 5 d_prog_58_m4_4 rfl rfl ?_
        refine Go.aload_n 6 d_prog_58_m4_5 rfl rfl rfl ?_
        refine Go.getfield 9 d_prog_58_m4_6 rfl (W.1 63 rfl) FN ?_
        refine Go.arraylength 10 d_prog_58_m4_9 rfl AN ?_
        refine Go.if_icmpge 43 13 d_prog_58_m4_10 (by decide) rfl rfl (fun q11 => ?_) (fun q11 => absurd q11 (by decide))
        refine Go.aload_n 44 d_prog_58_m4_43 rfl rfl rfl ?_
        exact Go.areturn d_prog_58_m4_44 rfl rfl rfl (nl rfl) (nl rfl) (fun vm' ch => ⟨by rw [if_neg p0, if_neg p1, if_pos p2], rfl⟩)
      · refine Go.ifeq 37 30 d_prog_58_m4_27 (by decide) rfl rfl (fun q12 => ?_) (fun q12 => absurd rfl q12)
        refine Go.iinc (3 : Int32) #[.val (.ref a), .val (.ref q_), .val (.null), .val (.int (3 : Int32))] 40 d_prog_58_m4_37 rfl rfl rfl rfl ?_
        refine Go.goto 4 d_prog_58_m4_40 (by decide) rfl ?_
        refine Go.iload_n 5 d_prog_58_m4_4 rfl rfl ?_
        refine Go.aload_n 6 d_prog_58_m4_5 rfl rfl rfl ?_
        refine Go.getfield 9 d_prog_58_m4_6 rfl (W.1 63 rfl) FN ?_
        refine Go.arraylength 10 d_prog_58_m4_9 rfl AN ?_
        refine Go.if_icmpge 43 13 d_prog_58_m4_10 (by decide) rfl rfl (fun q13 => ?_) (fun q13 => absurd q13 (by decide))
        refine Go.aload_n 44 d_prog_58_m4_43 rfl rfl rfl ?_
        exact Go.areturn d_prog_58_m4_44 rfl rfl rfl (nl rfl) (nl rfl) (fun vm' ch => ⟨by rw [if_neg p0, if_neg p1, if_neg p2], rfl⟩)
set_option maxRecDepth 65536 in
set_option maxHeartbeats 40000000 in
theorem cGet3n {l : Launch} {Z : State} {a0 : Array Value} (W : Wd Z a0) {EL : List (String × Nat)} {vm : Vm} {h : Heap} {nw : Bool} {a na va : Addr} {kN kV : ClassId} {n0_ v0_ : Addr} {d0_ : List Int32} {n1_ v1_ : Addr} {d1_ : List Int32} {n2_ v2_ : Addr} {d2_ : List Int32} (FN : Fld Z h a "com/example/tendril/tendril/xml/XmlElement" "attributeNames" "[Ljava/lang/String;" (.ref na)) (FV : Fld Z h a "com/example/tendril/tendril/xml/XmlElement" "attributeValues" "[Ljava/lang/String;" (.ref va)) (AN : Arv Z h na kN (.object "java/lang/String") (3 : Int32) [.ref n0_, .ref n1_, .ref n2_] .null) (AV : Arv Z h va kV (.object "java/lang/String") (3 : Int32) [.ref v0_, .ref v1_, .ref v2_] .null) (S0_ : Str Z h n0_ d0_) (S1_ : Str Z h n1_ d1_) (S2_ : Str Z h n2_ d2_) :
    Ctr nw l Z a0 EL (⟨"com/example/tendril/tendril/xml/XmlElement", "getAttribute", "(Ljava/lang/String;)Ljava/lang/String;"⟩ : MethodName) prog_58_method_4_code 4 (some (.object "java/lang/String")) ({ frames := 1, cells := 0, slots := 0, locals := 14 } : Room) #[.ref a, .null] vm h (fun v vm' h' => v = some .null ∧ h' = h) := by
  refine Ctr.of_go (L0 := #[.val (.ref a), .val (.null), .unset, .unset]) (by first | exact plainFor_of_name (by first | (simp [plainName, overriddenIn]; done) | decide +kernel) | decide +kernel) (fun m => by first | (simp [entryFrame, mkF, argsToLocals, Value.category, maxLocals]; done) | rfl) (fun p e s m below meth c vmi chi => ?_)
  refine Go.aconst_null 1 d_prog_58_m4_0 rfl ?_
  refine Go.astore_n #[.val (.ref a), .val (.null), .val (.null), .unset] 2 d_prog_58_m4_1 rfl rfl rfl ?_
  refine Go.iconst (0) 3 d_prog_58_m4_2 rfl rfl ?_
  refine Go.istore_n #[.val (.ref a), .val (.null), .val (.null), .val (.int (0 : Int32))] 4 d_prog_58_m4_3 rfl rfl ?_
  refine Go.iload_n 5 d_prog_58_m4_4 rfl rfl ?_
  refine Go.aload_n 6 d_prog_58_m4_5 rfl rfl rfl ?_
  refine Go.getfield 9 d_prog_58_m4_6 rfl (W.1 63 rfl) FN ?_
  refine Go.arraylength 10 d_prog_58_m4_9 rfl AN ?_
  refine Go.if_icmpge 43 13 d_prog_58_m4_10 (by decide) rfl rfl (fun q1 => absurd q1 (by decide)) (fun q1 => ?_)
  refine Go.aload_n 14 d_prog_58_m4_13 rfl rfl rfl ?_
  refine Go.ifnonnull_n 17 d_prog_58_m4_14 rfl ?_
  refine Go.aload_n 18 d_prog_58_m4_17 rfl rfl rfl ?_
  refine Go.getfield 21 d_prog_58_m4_18 rfl (W.1 63 rfl) FN ?_
  refine Go.iload_n 22 d_prog_58_m4_21 rfl rfl ?_
  refine Go.aaload (.ref n0_) 23 d_prog_58_m4_22 rfl AN rfl (by decide) rfl ?_
  refine Go.aload_n 24 d_prog_58_m4_23 rfl rfl rfl ?_
  refine Go.invokevirtual (rest := []) 0 n0_ [.null] 27 d_prog_58_m4_24 rfl S0_.exa (W.1 75 rfl) (W.1 76 rfl) (fun s hs => notFace_of_selects (args := #[]) (mvT hs (W.1 78 rfl))) (W.1 78 rfl) (W.1 77 rfl) (W.1 6 rfl) (W.1 79 rfl) (by decide) (cEqNull W ) (by decide +kernel : parseMethodDescriptor "(Ljava/lang/Object;)Z" = some ⟨[(.object "java/lang/Object")], (some .boolean)⟩) rfl rfl rfl (nl rfl) (nl rfl) (nl rfl) (nl rfl) (nl rfl) (fun v2 vm2 h2 ⟨rv, hh⟩ c2 => ?_)
  subst rv; replace hh := hh.symm; subst hh
  refine Go.ifeq 37 30 d_prog_58_m4_27 (by decide) rfl rfl (fun q3 => ?_) (fun q3 => absurd rfl q3)
  refine Go.iinc (1 : Int32) #[.val (.ref a), .val (.null), .val (.null), .val (.int (1 : Int32))] 40 d_prog_58_m4_37 rfl rfl rfl rfl ?_
  refine Go.goto 4 d_prog_58_m4_40 (by decide) rfl ?_
  refine Go.iload_n 5 d_prog_58_m4_4 rfl rfl ?_
  refine Go.aload_n 6 d_prog_58_m4_5 rfl rfl rfl ?_
  refine Go.getfield 9 d_prog_58_m4_6 rfl (W.1 63 rfl) FN ?_
  refine Go.arraylength 10 d_prog_58_m4_9 rfl AN ?_
  refine Go.if_icmpge 43 13 d_prog_58_m4_10 (by decide) rfl rfl (fun q4 => absurd q4 (by decide)) (fun q4 => ?_)
  refine Go.aload_n 14 d_prog_58_m4_13 rfl rfl rfl ?_
  refine Go.ifnonnull_n 17 d_prog_58_m4_14 rfl ?_
  refine Go.aload_n 18 d_prog_58_m4_17 rfl rfl rfl ?_
  refine Go.getfield 21 d_prog_58_m4_18 rfl (W.1 63 rfl) FN ?_
  refine Go.iload_n 22 d_prog_58_m4_21 rfl rfl ?_
  refine Go.aaload (.ref n1_) 23 d_prog_58_m4_22 rfl AN rfl (by decide) rfl ?_
  refine Go.aload_n 24 d_prog_58_m4_23 rfl rfl rfl ?_
  refine Go.invokevirtual (rest := []) 0 n1_ [.null] 27 d_prog_58_m4_24 rfl S1_.exa (W.1 75 rfl) (W.1 76 rfl) (fun s hs => notFace_of_selects (args := #[]) (mvT hs (W.1 78 rfl))) (W.1 78 rfl) (W.1 77 rfl) (W.1 6 rfl) (W.1 79 rfl) (by decide) (cEqNull W ) (by decide +kernel : parseMethodDescriptor "(Ljava/lang/Object;)Z" = some ⟨[(.object "java/lang/Object")], (some .boolean)⟩) rfl rfl rfl (nl rfl) (nl rfl) (nl rfl) (nl rfl) (nl rfl) (fun v5 vm5 h5 ⟨rv, hh⟩ c5 => ?_)
  subst rv; replace hh := hh.symm; subst hh
  refine Go.ifeq 37 30 d_prog_58_m4_27 (by decide) rfl rfl (fun q6 => ?_) (fun q6 => absurd rfl q6)
  refine Go.iinc (2 : Int32) #[.val (.ref a), .val (.null), .val (.null), .val (.int (2 : Int32))] 40 d_prog_58_m4_37 rfl rfl rfl rfl ?_
  refine Go.goto 4 d_prog_58_m4_40 (by decide) rfl ?_
  refine Go.iload_n 5 d_prog_58_m4_4 rfl rfl ?_
  refine Go.aload_n 6 d_prog_58_m4_5 rfl rfl rfl ?_
  refine Go.getfield 9 d_prog_58_m4_6 rfl (W.1 63 rfl) FN ?_
  refine Go.arraylength 10 d_prog_58_m4_9 rfl AN ?_
  refine Go.if_icmpge 43 13 d_prog_58_m4_10 (by decide) rfl rfl (fun q7 => absurd q7 (by decide)) (fun q7 => ?_)
  refine Go.aload_n 14 d_prog_58_m4_13 rfl rfl rfl ?_
  refine Go.ifnonnull_n 17 d_prog_58_m4_14 rfl ?_
  refine Go.aload_n 18 d_prog_58_m4_17 rfl rfl rfl ?_
  refine Go.getfield 21 d_prog_58_m4_18 rfl (W.1 63 rfl) FN ?_
  refine Go.iload_n 22 d_prog_58_m4_21 rfl rfl ?_
  refine Go.aaload (.ref n2_) 23 d_prog_58_m4_22 rfl AN rfl (by decide) rfl ?_
  refine Go.aload_n 24 d_prog_58_m4_23 rfl rfl rfl ?_
  refine Go.invokevirtual (rest := []) 0 n2_ [.null] 27 d_prog_58_m4_24 rfl S2_.exa (W.1 75 rfl) (W.1 76 rfl) (fun s hs => notFace_of_selects (args := #[]) (mvT hs (W.1 78 rfl))) (W.1 78 rfl) (W.1 77 rfl) (W.1 6 rfl) (W.1 79 rfl) (by decide) (cEqNull W ) (by decide +kernel : parseMethodDescriptor "(Ljava/lang/Object;)Z" = some ⟨[(.object "java/lang/Object")], (some .boolean)⟩) rfl rfl rfl (nl rfl) (nl rfl) (nl rfl) (nl rfl) (nl rfl) (fun v8 vm8 h8 ⟨rv, hh⟩ c8 => ?_)
  subst rv; replace hh := hh.symm; subst hh
  refine Go.ifeq 37 30 d_prog_58_m4_27 (by decide) rfl rfl (fun q9 => ?_) (fun q9 => absurd rfl q9)
  refine Go.iinc (3 : Int32) #[.val (.ref a), .val (.null), .val (.null), .val (.int (3 : Int32))] 40 d_prog_58_m4_37 rfl rfl rfl rfl ?_
  refine Go.goto 4 d_prog_58_m4_40 (by decide) rfl ?_
  refine Go.iload_n 5 d_prog_58_m4_4 rfl rfl ?_
  refine Go.aload_n 6 d_prog_58_m4_5 rfl rfl rfl ?_
  refine Go.getfield 9 d_prog_58_m4_6 rfl (W.1 63 rfl) FN ?_
  refine Go.arraylength 10 d_prog_58_m4_9 rfl AN ?_
  refine Go.if_icmpge 43 13 d_prog_58_m4_10 (by decide) rfl rfl (fun q10 => ?_) (fun q10 => absurd q10 (by decide))
  refine Go.aload_n 44 d_prog_58_m4_43 rfl rfl rfl ?_
  exact Go.areturn d_prog_58_m4_44 rfl rfl rfl (nl rfl) (nl rfl) (fun vm' ch => ⟨rfl, rfl⟩)
set_option maxRecDepth 65536 in
set_option maxHeartbeats 40000000 in
theorem cLaw {l : Launch} {Z : State} {a0 : Array Value} (W : Wd Z a0)  {vm : Vm} {h : Heap} {s_ u_ line : Int32} {le : Addr} (Le : Sta Z Z.heap "java/util/ImmutableCollections" "EMPTY_LIST" "Ljava/util/ImmutableCollections$ListN;" (.ref le)) :
    Ctr false l Z a0 consts_1 x code maxLocals ret room_1 #[.int s_, .int u_, .int line] vm h (fun v vm' h' => v = some (.int 1)) := by
  refine Ctr.of_go (L0 := #[.val (.int s_), .val (.int u_), .val (.int line), .unset, .unset, .unset, .unset, .unset, .unset, .unset, .unset, .unset, .unset, .unset, .unset, .unset, .unset, .unset, .unset]) (by first | exact plainFor_of_name (by first | (simp [plainName, overriddenIn]; done) | decide +kernel) | decide +kernel) (fun m => by first | (simp [entryFrame, mkF, argsToLocals, Value.category, maxLocals]; done) | rfl) (fun p e s m below meth c vmi chi => ?_)
  refine Go.iload_n 1 at_0 rfl rfl ?_
  refine Go.bipush (16) 3 at_1 rfl rfl ?_
  refine Go.iushr (XT.ushr s_ (16 : Int32)) 4 at_3 rfl rfl ?_
  refine Go.iconst (3) 5 at_4 rfl rfl ?_
  rcases and3 (XT.ushr s_ (16 : Int32)) with hc | hc | hc | hc
  · refine Go.iand (0 : Int32) 6 at_5 rfl hc ?_
    refine Go.istore_n #[.val (.int s_), .val (.int u_), .val (.int line), .val (.int (0 : Int32)), .unset, .unset, .unset, .unset, .unset, .unset, .unset, .unset, .unset, .unset, .unset, .unset, .unset, .unset, .unset] 7 at_6 rfl rfl ?_
    refine Go.iload_n 8 at_7 rfl rfl ?_
    refine Go.bipush (15) 10 at_8 rfl rfl ?_
    refine Go.iand (s_ &&& (15 : Int32)) 11 at_10 rfl rfl ?_
    refine Go.istore #[.val (.int s_), .val (.int u_), .val (.int line), .val (.int (0 : Int32)), .val (.int (s_ &&& (15 : Int32))), .unset, .unset, .unset, .unset, .unset, .unset, .unset, .unset, .unset, .unset, .unset, .unset, .unset, .unset] 13 at_11 rfl rfl ?_
    refine Go.iload_n 14 at_13 rfl rfl ?_
    refine Go.iconst (4) 15 at_14 rfl rfl ?_
    refine Go.iushr (XT.ushr s_ (4 : Int32)) 16 at_15 rfl rfl ?_
    refine Go.bipush (15) 18 at_16 rfl rfl ?_
    refine Go.iand ((XT.ushr s_ (4 : Int32)) &&& (15 : Int32)) 19 at_18 rfl rfl ?_
    refine Go.istore #[.val (.int s_), .val (.int u_), .val (.int line), .val (.int (0 : Int32)), .val (.int (s_ &&& (15 : Int32))), .val (.int ((XT.ushr s_ (4 : Int32)) &&& (15 : Int32))), .unset, .unset, .unset, .unset, .unset, .unset, .unset, .unset, .unset, .unset, .unset, .unset, .unset] 21 at_19 rfl rfl ?_
    refine Go.iload_n 22 at_21 rfl rfl ?_
    refine Go.bipush (8) 24 at_22 rfl rfl ?_
    refine Go.iushr (XT.ushr s_ (8 : Int32)) 25 at_24 rfl rfl ?_
    refine Go.bipush (15) 27 at_25 rfl rfl ?_
    refine Go.iand ((XT.ushr s_ (8 : Int32)) &&& (15 : Int32)) 28 at_27 rfl rfl ?_
    refine Go.istore #[.val (.int s_), .val (.int u_), .val (.int line), .val (.int (0 : Int32)), .val (.int (s_ &&& (15 : Int32))), .val (.int ((XT.ushr s_ (4 : Int32)) &&& (15 : Int32))), .val (.int ((XT.ushr s_ (8 : Int32)) &&& (15 : Int32))), .unset, .unset, .unset, .unset, .unset, .unset, .unset, .unset, .unset, .unset, .unset, .unset] 30 at_28 rfl rfl ?_
    refine Go.iload_n 31 at_30 rfl rfl ?_
    refine Go.bipush (12) 33 at_31 rfl rfl ?_
    refine Go.iushr (XT.ushr s_ (12 : Int32)) 34 at_33 rfl rfl ?_
    refine Go.bipush (15) 36 at_34 rfl rfl ?_
    refine Go.iand ((XT.ushr s_ (12 : Int32)) &&& (15 : Int32)) 37 at_36 rfl rfl ?_
    refine Go.istore #[.val (.int s_), .val (.int u_), .val (.int line), .val (.int (0 : Int32)), .val (.int (s_ &&& (15 : Int32))), .val (.int ((XT.ushr s_ (4 : Int32)) &&& (15 : Int32))), .val (.int ((XT.ushr s_ (8 : Int32)) &&& (15 : Int32))), .val (.int ((XT.ushr s_ (12 : Int32)) &&& (15 : Int32))), .unset, .unset, .unset, .unset, .unset, .unset, .unset, .unset, .unset, .unset, .unset] 39 at_37 rfl rfl ?_
    refine Go.iload_n 40 at_39 rfl rfl ?_
    refine Go.bipush (18) 42 at_40 rfl rfl ?_
    refine Go.iushr (XT.ushr s_ (18 : Int32)) 43 at_42 rfl rfl ?_
    refine Go.bipush (7) 45 at_43 rfl rfl ?_
    refine Go.iand ((XT.ushr s_ (18 : Int32)) &&& (7 : Int32)) 46 at_45 rfl rfl ?_
    refine Go.bipush (7) 48 at_46 rfl rfl ?_
    have J56 : ∀ (r : Int32), (r = 0 ∨ r = 1) → Go false p l e room_1 s m #[.int s_, .int u_, .int line] below meth c code maxLocals "law" ret Z a0 consts_1 "com/example/tendril/tendril/xml/XmlElementGetAttributePinLaw" (fun v vm' h' => v = some (.int 1)) vmi h 0 0 56 #[.val (.int s_), .val (.int u_), .val (.int line), .val (.int (0 : Int32)), .val (.int (s_ &&& (15 : Int32))), .val (.int ((XT.ushr s_ (4 : Int32)) &&& (15 : Int32))), .val (.int ((XT.ushr s_ (8 : Int32)) &&& (15 : Int32))), .val (.int ((XT.ushr s_ (12 : Int32)) &&& (15 : Int32))), .unset, .unset, .unset, .unset, .unset, .unset, .unset, .unset, .unset, .unset, .unset] [.int r] := by
      intro r hr
      refine Go.istore #[.val (.int s_), .val (.int u_), .val (.int line), .val (.int (0 : Int32)), .val (.int (s_ &&& (15 : Int32))), .val (.int ((XT.ushr s_ (4 : Int32)) &&& (15 : Int32))), .val (.int ((XT.ushr s_ (8 : Int32)) &&& (15 : Int32))), .val (.int ((XT.ushr s_ (12 : Int32)) &&& (15 : Int32))), .val (.int r), .unset, .unset, .unset, .unset, .unset, .unset, .unset, .unset, .unset, .unset] 58 at_56 rfl rfl ?_
      refine Go.bipush (48) 60 at_58 rfl rfl ?_
      refine Go.iload_n 61 at_60 rfl rfl ?_
      refine Go.invokestatic (rest := []) 0 [.int (48 : Int32), .int u_] 64 at_61 rfl (W.1 0 rfl) (W.1 1 rfl) (W.1 2 rfl) (W.1 3 rfl) (by decide) (cValue W (t_ := 48) (x := u_) (by decide)) (by decide +kernel : parseMethodDescriptor "(CI)Ljava/lang/String;" = some ⟨[.char, .int], (some (.object "java/lang/String"))⟩) rfl rfl rfl (nl rfl) (nl rfl) (nl rfl) (nl rfl) (nl rfl) (fun v1 vm1 h1 ⟨v0, rv, E1, T1⟩ c1 => ?_)
      subst rv
      refine Go.astore #[.val (.int s_), .val (.int u_), .val (.int line), .val (.int (0 : Int32)), .val (.int (s_ &&& (15 : Int32))), .val (.int ((XT.ushr s_ (4 : Int32)) &&& (15 : Int32))), .val (.int ((XT.ushr s_ (8 : Int32)) &&& (15 : Int32))), .val (.int ((XT.ushr s_ (12 : Int32)) &&& (15 : Int32))), .val (.int r), .val (.ref v0), .unset, .unset, .unset, .unset, .unset, .unset, .unset, .unset, .unset] 66 at_64 rfl rfl rfl ?_
      refine Go.bipush (49) 68 at_66 rfl rfl ?_
      refine Go.iload_n 69 at_68 rfl rfl ?_
      refine Go.bipush (8) 71 at_69 rfl rfl ?_
      refine Go.iushr (XT.ushr u_ (8 : Int32)) 72 at_71 rfl rfl ?_
      refine Go.invokestatic (rest := []) 0 [.int (49 : Int32), .int (XT.ushr u_ (8 : Int32))] 75 at_72 rfl (W.1 0 rfl) (W.1 1 rfl) (W.1 2 rfl) (W.1 3 rfl) (by decide) (cValue W (t_ := 49) (x := (XT.ushr u_ (8 : Int32))) (by decide)) (by decide +kernel : parseMethodDescriptor "(CI)Ljava/lang/String;" = some ⟨[.char, .int], (some (.object "java/lang/String"))⟩) rfl rfl rfl (nl rfl) (nl rfl) (nl rfl) (nl rfl) (nl rfl) (fun v2 vm2 h2 ⟨v1, rv, E2, T2⟩ c2 => ?_)
      subst rv
      refine Go.astore #[.val (.int s_), .val (.int u_), .val (.int line), .val (.int (0 : Int32)), .val (.int (s_ &&& (15 : Int32))), .val (.int ((XT.ushr s_ (4 : Int32)) &&& (15 : Int32))), .val (.int ((XT.ushr s_ (8 : Int32)) &&& (15 : Int32))), .val (.int ((XT.ushr s_ (12 : Int32)) &&& (15 : Int32))), .val (.int r), .val (.ref v0), .val (.ref v1), .unset, .unset, .unset, .unset, .unset, .unset, .unset, .unset] 77 at_75 rfl rfl rfl ?_
      refine Go.bipush (50) 79 at_77 rfl rfl ?_
      refine Go.iload_n 80 at_79 rfl rfl ?_
      refine Go.bipush (16) 82 at_80 rfl rfl ?_
      refine Go.iushr (XT.ushr u_ (16 : Int32)) 83 at_82 rfl rfl ?_
      refine Go.invokestatic (rest := []) 0 [.int (50 : Int32), .int (XT.ushr u_ (16 : Int32))] 86 at_83 rfl (W.1 0 rfl) (W.1 1 rfl) (W.1 2 rfl) (W.1 3 rfl) (by decide) (cValue W (t_ := 50) (x := (XT.ushr u_ (16 : Int32))) (by decide)) (by decide +kernel : parseMethodDescriptor "(CI)Ljava/lang/String;" = some ⟨[.char, .int], (some (.object "java/lang/String"))⟩) rfl rfl rfl (nl rfl) (nl rfl) (nl rfl) (nl rfl) (nl rfl) (fun v3 vm3 h3 ⟨v2, rv, E3, T3⟩ c3 => ?_)
      subst rv
      refine Go.astore #[.val (.int s_), .val (.int u_), .val (.int line), .val (.int (0 : Int32)), .val (.int (s_ &&& (15 : Int32))), .val (.int ((XT.ushr s_ (4 : Int32)) &&& (15 : Int32))), .val (.int ((XT.ushr s_ (8 : Int32)) &&& (15 : Int32))), .val (.int ((XT.ushr s_ (12 : Int32)) &&& (15 : Int32))), .val (.int r), .val (.ref v0), .val (.ref v1), .val (.ref v2), .unset, .unset, .unset, .unset, .unset, .unset, .unset] 88 at_86 rfl rfl rfl ?_
      refine Go.iload_n 89 at_88 rfl rfl ?_
      refine Go.anewarray 0 92 at_89 rfl (W.1 4 rfl) (W.1 34 rfl) (by decide) (by decide) (by decide) (nl rfl) (nl rfl) (fun na h4 e4 E4 ⟨k4, B4, O4⟩ S4 z4 c4 => ?_)
      have A4 : Arv Z h4 na k4 (.object "java/lang/String") (0 : Int32) [] .null := B4.pad (pad_rep [] .null 0)
      refine Go.astore #[.val (.int s_), .val (.int u_), .val (.int line), .val (.int (0 : Int32)), .val (.int (s_ &&& (15 : Int32))), .val (.int ((XT.ushr s_ (4 : Int32)) &&& (15 : Int32))), .val (.int ((XT.ushr s_ (8 : Int32)) &&& (15 : Int32))), .val (.int ((XT.ushr s_ (12 : Int32)) &&& (15 : Int32))), .val (.int r), .val (.ref v0), .val (.ref v1), .val (.ref v2), .val (.ref na), .unset, .unset, .unset, .unset, .unset, .unset] 94 at_92 rfl rfl rfl ?_
      refine Go.iload_n 95 at_94 rfl rfl ?_
      refine Go.anewarray 0 98 at_95 rfl (W.1 4 rfl) (W.1 34 rfl) (by decide) (by decide) (by decide) (nl rfl) (nl rfl) (fun va h5 e5 E5 ⟨k5, B5, O5⟩ S5 z5 c5 => ?_)
      have A5 : Arv Z h5 va k5 (.object "java/lang/String") (0 : Int32) [] .null := B5.pad (pad_rep [] .null 0)
      have nv : na ≠ va := ne_of_new A4.lt (Nat.le_of_eq e5.symm)
      have ln_ := Nat.le_of_eq e4.symm
      have lv_ : h3.size ≤ va := Nat.le_trans E4.1 (Nat.le_of_eq e5.symm)
      refine Go.astore #[.val (.int s_), .val (.int u_), .val (.int line), .val (.int (0 : Int32)), .val (.int (s_ &&& (15 : Int32))), .val (.int ((XT.ushr s_ (4 : Int32)) &&& (15 : Int32))), .val (.int ((XT.ushr s_ (8 : Int32)) &&& (15 : Int32))), .val (.int ((XT.ushr s_ (12 : Int32)) &&& (15 : Int32))), .val (.int r), .val (.ref v0), .val (.ref v1), .val (.ref v2), .val (.ref na), .val (.ref va), .unset, .unset, .unset, .unset, .unset] 100 at_98 rfl rfl rfl ?_
      refine Go.iload_n 101 at_100 rfl rfl ?_
      refine Go.ifle 119 104 at_101 (by decide) rfl rfl (fun q6 => ?_) (fun q6 => absurd q6 (by decide))
      refine Go.iload_n 120 at_119 rfl rfl ?_
      refine Go.iconst (1) 121 at_120 rfl rfl ?_
      refine Go.if_icmple 139 124 at_121 (by decide) rfl rfl (fun q7 => ?_) (fun q7 => absurd q7 (by decide))
      refine Go.iload_n 140 at_139 rfl rfl ?_
      refine Go.iconst (2) 141 at_140 rfl rfl ?_
      refine Go.if_icmple 159 144 at_141 (by decide) rfl rfl (fun q8 => ?_) (fun q8 => absurd q8 (by decide))
      refine Go.iload 161 at_159 rfl rfl ?_
      rcases hr with rfl | rfl
      · refine Go.ifeq 168 164 at_161 (by decide) rfl rfl (fun q9 => ?_) (fun q9 => absurd rfl q9)
        refine Go.iload 170 at_168 rfl rfl ?_
        refine Go.invokestatic (rest := []) 0 [.int ((XT.ushr s_ (12 : Int32)) &&& (15 : Int32))] 173 at_170 rfl (W.1 35 rfl) (W.1 36 rfl) (W.1 2 rfl) (W.1 37 rfl) (by decide) (cName W (x := ((XT.ushr s_ (12 : Int32)) &&& (15 : Int32))) (by decide)) (by decide +kernel : parseMethodDescriptor "(I)Ljava/lang/String;" = some ⟨[.int], (some (.object "java/lang/String"))⟩) rfl rfl rfl (nl rfl) (nl rfl) (nl rfl) (nl rfl) (nl rfl) (fun v10 vm10 h10 ⟨qq, rv, E10, T10⟩ c10 => ?_)
        subst rv
        refine Go.astore #[.val (.int s_), .val (.int u_), .val (.int line), .val (.int (0 : Int32)), .val (.int (s_ &&& (15 : Int32))), .val (.int ((XT.ushr s_ (4 : Int32)) &&& (15 : Int32))), .val (.int ((XT.ushr s_ (8 : Int32)) &&& (15 : Int32))), .val (.int ((XT.ushr s_ (12 : Int32)) &&& (15 : Int32))), .val (.int (0 : Int32)), .val (.ref v0), .val (.ref v1), .val (.ref v2), .val (.ref na), .val (.ref va), .val (.ref qq), .unset, .unset, .unset, .unset] 175 at_173 rfl rfl rfl ?_
        refine Go.new 178 at_175 rfl (W.1 41 rfl) (W.1 42 rfl) (W.1 43 rfl) (nl rfl) (nl rfl) (fun xe h11 e11 E11 ⟨A11, D11⟩ S11 z11 c11 => ?_)
        refine Go.dup 179 at_178 rfl rfl ?_
        refine Go.new 182 at_179 rfl (W.1 4 rfl) (W.1 5 rfl) (W.1 6 rfl) (nl rfl) (nl rfl) (fun es h12 e12 E12 ⟨A12, D12⟩ S12 z12 c12 => ?_)
        refine Go.dup 183 at_182 rfl rfl ?_
        refine Go.iconst (1) 184 at_183 rfl rfl ?_
        refine Go.newarray 1 186 at_184 rfl (W.1 7 rfl) (by decide) (by decide) (by decide) (nl rfl) (nl rfl) (fun eb h13 e13 E13 ⟨k13, B13⟩ S13 z13 c13 => ?_)
        have A13 : Arv Z h13 eb k13 .char (1 : Int32) [.int 0] (.int 0) := B13.pad (pad_rep [] (.int 0) 1)
        refine Go.dup 187 at_186 rfl rfl ?_
        refine Go.iconst (0) 188 at_187 rfl rfl ?_
        refine Go.bipush (101) 190 at_188 rfl rfl ?_
        refine Go.castore 0 (101 : Int32) [.int (101 : Int32)] 191 at_190 rfl A13 (by decide) rfl (nl rfl) rfl rfl S13 z13 (fun h14 K14 A14 S14 c14 => ?_)
        have E14 := Ext.kp1 E13 K14 e13
        have f16 := D12 (Or.inr (W.1 33 rfl)) (ty := (.array .byte)) (by decide)
        have f17 := D12 (Or.inr (W.1 31 rfl)) (ty := .byte) (by decide)
        have f18 := A12.ext E14
        have f19 := f16.ext E14
        have f20 := f17.ext E14
        have f21 := CHr.safe (CHr.trans c13 c14) A12.lt S12
        have L21 := Nat.lt_of_lt_of_le A12.lt (CHr.trans c13 c14).2.1
        refine goStrNew W 3 [(101 : Int32)] 194 at_191 rfl (W.1 8 rfl) f18 f19 f20 A14 rfl (nl rfl) (nl rfl) (by decide) rfl rfl (nl rfl) (nl rfl) (nl rfl) (nl rfl) (nl rfl) f21 z12 (fun h15 K15 T15 c15 => ?_)
        have E15 := Ext.kp1 (Ext.tr E12 E14) K15 e12
        refine Go.iload_n 195 at_194 rfl rfl ?_
        refine Go.aload 197 at_195 rfl rfl rfl ?_
        refine Go.aload 199 at_197 rfl rfl rfl ?_
        have f22 := D11 (Or.inl (W.1 55 rfl)) (ty := (.object "java/util/List")) (by decide)
        have f23 := D11 (Or.inl (W.1 58 rfl)) (ty := (.object "java/lang/String")) (by decide)
        have f24 := D11 (Or.inr (W.1 60 rfl)) (ty := (.object "java/lang/String")) (by decide)
        have f25 := D11 (Or.inr (W.1 62 rfl)) (ty := .int) (by decide)
        have f26 := D11 (Or.inr (W.1 64 rfl)) (ty := (.array (.object "java/lang/String"))) (by decide)
        have f27 := D11 (Or.inr (W.1 66 rfl)) (ty := (.array (.object "java/lang/String"))) (by decide)
        have f28 := A4.ext (Ext.tr E5 (Ext.tr E10 (Ext.tr E11 E15)))
        have f29 := A5.ext (Ext.tr E10 (Ext.tr E11 E15))
        have f30 := T10.ext (Ext.tr E11 E15)
        have f31 := A11.ext E15
        have f32 := f22.ext E15
        have f33 := f23.ext E15
        have f34 := f24.ext E15
        have f35 := f25.ext E15
        have f36 := f26.ext E15
        have f37 := f27.ext E15
        have f38 := CHr.safe (CHr.trans c12 (CHr.trans c13 (CHr.trans c14 c15))) A11.lt S11
        have L38 := Nat.lt_of_lt_of_le A11.lt (CHr.trans c12 (CHr.trans c13 (CHr.trans c14 c15))).2.1
        refine Go.invokespecial (rest := [.ref xe]) 1 xe [.ref es, .int line, .ref na, .ref va] 202 at_199 rfl rfl (W.1 44 rfl) (W.1 45 rfl) (W.1 43 rfl) (W.1 46 rfl) (by decide) (cXeInit W (by decide) Le f31 f32 f33 f34 f35 f36 f37 f38 z11) (by decide +kernel : parseMethodDescriptor "(Ljava/lang/String;I[Ljava/lang/String;[Ljava/lang/String;)V" = some ⟨[(.object "java/lang/String"), .int, (.array (.object "java/lang/String")), (.array (.object "java/lang/String"))], none⟩) rfl rfl rfl (nl rfl) (nl rfl) (nl rfl) (nl rfl) (nl rfl) (fun v39 vm39 h39 ⟨rv, K, X, GN, GV⟩ c39 => ?_)
        subst rv
        have AN' := f28.keep K (ninS (fun z => (Exa.neArv f31 f28 (W.1 42 rfl)) z.symm) nin0)
        have AV' := f29.keep K (ninS (fun z => (Exa.neArv f31 f29 (W.1 42 rfl)) z.symm) nin0)
        have T_qq := f30.keepE K f31 (by decide) (W.1 42 rfl)
        refine Go.astore #[.val (.int s_), .val (.int u_), .val (.int line), .val (.int (0 : Int32)), .val (.int (s_ &&& (15 : Int32))), .val (.int ((XT.ushr s_ (4 : Int32)) &&& (15 : Int32))), .val (.int ((XT.ushr s_ (8 : Int32)) &&& (15 : Int32))), .val (.int ((XT.ushr s_ (12 : Int32)) &&& (15 : Int32))), .val (.int (0 : Int32)), .val (.ref v0), .val (.ref v1), .val (.ref v2), .val (.ref na), .val (.ref va), .val (.ref qq), .val (.ref xe), .unset, .unset, .unset] 204 at_202 rfl rfl rfl ?_
        refine Go.aload 206 at_204 rfl rfl rfl ?_
        refine Go.aload 208 at_206 rfl rfl rfl ?_
        refine Go.invokevirtual (rest := []) 0 xe [.ref qq] 211 at_208 rfl X (W.1 67 rfl) (W.1 68 rfl) (fun s hs => notFace_of_selects (args := #[]) (mvT hs (W.1 70 rfl))) (W.1 70 rfl) (W.1 69 rfl) (W.1 43 rfl) (W.1 71 rfl) (by decide) (cGet0s W GN GV AN' AV'  T_qq) (by decide +kernel : parseMethodDescriptor "(Ljava/lang/String;)Ljava/lang/String;" = some ⟨[(.object "java/lang/String")], (some (.object "java/lang/String"))⟩) rfl rfl rfl (nl rfl) (nl rfl) (nl rfl) (nl rfl) (nl rfl) (fun v40 vm40 h40 ⟨rv, hh⟩ c40 => ?_)
        subst rv; replace hh := hh.symm; subst hh
        have hg : Value.isRef Value.null = true := rfl
        obtain ⟨gv, eg⟩ : ∃ g, g = Value.null := ⟨_, rfl⟩
        have eg0 := eg
        clear eg eg0
        refine Go.astore #[.val (.int s_), .val (.int u_), .val (.int line), .val (.int (0 : Int32)), .val (.int (s_ &&& (15 : Int32))), .val (.int ((XT.ushr s_ (4 : Int32)) &&& (15 : Int32))), .val (.int ((XT.ushr s_ (8 : Int32)) &&& (15 : Int32))), .val (.int ((XT.ushr s_ (12 : Int32)) &&& (15 : Int32))), .val (.int (0 : Int32)), .val (.ref v0), .val (.ref v1), .val (.ref v2), .val (.ref na), .val (.ref va), .val (.ref qq), .val (.ref xe), .val (.null), .unset, .unset] 213 at_211 rfl rfl rfl ?_
        refine Go.aconst_null 214 at_213 rfl ?_
        refine Go.astore #[.val (.int s_), .val (.int u_), .val (.int line), .val (.int (0 : Int32)), .val (.int (s_ &&& (15 : Int32))), .val (.int ((XT.ushr s_ (4 : Int32)) &&& (15 : Int32))), .val (.int ((XT.ushr s_ (8 : Int32)) &&& (15 : Int32))), .val (.int ((XT.ushr s_ (12 : Int32)) &&& (15 : Int32))), .val (.int (0 : Int32)), .val (.ref v0), .val (.ref v1), .val (.ref v2), .val (.ref na), .val (.ref va), .val (.ref qq), .val (.ref xe), .val (.null), .val (.null), .unset] 216 at_214 rfl rfl rfl ?_
        refine Go.iload 218 at_216 rfl rfl ?_
        refine Go.ifne 284 221 at_218 (by decide) rfl rfl (fun q41 => absurd rfl q41) (fun q41 => ?_)
        refine Go.iload 223 at_221 rfl rfl ?_
        refine Go.invokestatic (rest := []) 0 [.int ((XT.ushr s_ (12 : Int32)) &&& (15 : Int32))] 226 at_223 rfl (W.1 72 rfl) (W.1 73 rfl) (W.1 2 rfl) (W.1 74 rfl) (by decide) (cKey W ) (by decide +kernel : parseMethodDescriptor "(I)I" = some ⟨[.int], (some .int)⟩) rfl rfl rfl (nl rfl) (nl rfl) (nl rfl) (nl rfl) (nl rfl) (fun v42 vm42 h42 ⟨rv, hh⟩ c42 => ?_)
        subst rv; replace hh := hh.symm; subst hh
        refine Go.istore #[.val (.int s_), .val (.int u_), .val (.int line), .val (.int (0 : Int32)), .val (.int (s_ &&& (15 : Int32))), .val (.int ((XT.ushr s_ (4 : Int32)) &&& (15 : Int32))), .val (.int ((XT.ushr s_ (8 : Int32)) &&& (15 : Int32))), .val (.int ((XT.ushr s_ (12 : Int32)) &&& (15 : Int32))), .val (.int (0 : Int32)), .val (.ref v0), .val (.ref v1), .val (.ref v2), .val (.ref na), .val (.ref va), .val (.ref qq), .val (.ref xe), .val (.null), .val (.null), .val (.int (keyV ((XT.ushr s_ (12 : Int32)) &&& (15 : Int32))))] 228 at_226 rfl rfl ?_
        refine Go.iload_n 229 at_228 rfl rfl ?_
        refine Go.iconst (2) 230 at_229 rfl rfl ?_
        refine Go.if_icmple 247 233 at_230 (by decide) rfl rfl (fun q43 => ?_) (fun q43 => absurd q43 (by decide))
        refine Go.iload_n 248 at_247 rfl rfl ?_
        refine Go.iconst (1) 249 at_248 rfl rfl ?_
        refine Go.if_icmple 266 252 at_249 (by decide) rfl rfl (fun q44 => ?_) (fun q44 => absurd q44 (by decide))
        refine Go.iload_n 267 at_266 rfl rfl ?_
        refine Go.ifle 284 270 at_267 (by decide) rfl rfl (fun q45 => ?_) (fun q45 => absurd q45 (by decide))
        refine Go.aload 286 at_284 rfl rfl rfl ?_
        refine Go.aload 288 at_286 rfl rfl rfl ?_
        refine Go.acmp_n 291 at_288 rfl rfl rfl (by simp [XT.acmp]) ?_
        refine Go.iconst (1) 292 at_291 rfl rfl ?_
        refine Go.goto 296 at_292 (by decide) rfl ?_
        exact Go.ireturn at_296 rfl rfl (by simp) (nl rfl) (nl rfl) (fun vm' ch => rfl)
      · refine Go.ifeq 168 164 at_161 (by decide) rfl rfl (fun q46 => absurd q46 (by decide)) (fun q46 => ?_)
        refine Go.aconst_null 165 at_164 rfl ?_
        refine Go.goto 173 at_165 (by decide) rfl ?_
        refine Go.astore #[.val (.int s_), .val (.int u_), .val (.int line), .val (.int (0 : Int32)), .val (.int (s_ &&& (15 : Int32))), .val (.int ((XT.ushr s_ (4 : Int32)) &&& (15 : Int32))), .val (.int ((XT.ushr s_ (8 : Int32)) &&& (15 : Int32))), .val (.int ((XT.ushr s_ (12 : Int32)) &&& (15 : Int32))), .val (.int (1 : Int32)), .val (.ref v0), .val (.ref v1), .val (.ref v2), .val (.ref na), .val (.ref va), .val (.null), .unset, .unset, .unset, .unset] 175 at_173 rfl rfl rfl ?_
        refine Go.new 178 at_175 rfl (W.1 41 rfl) (W.1 42 rfl) (W.1 43 rfl) (nl rfl) (nl rfl) (fun xe h47 e47 E47 ⟨A47, D47⟩ S47 z47 c47 => ?_)
        refine Go.dup 179 at_178 rfl rfl ?_
        refine Go.new 182 at_179 rfl (W.1 4 rfl) (W.1 5 rfl) (W.1 6 rfl) (nl rfl) (nl rfl) (fun es h48 e48 E48 ⟨A48, D48⟩ S48 z48 c48 => ?_)
        refine Go.dup 183 at_182 rfl rfl ?_
        refine Go.iconst (1) 184 at_183 rfl rfl ?_
        refine Go.newarray 1 186 at_184 rfl (W.1 7 rfl) (by decide) (by decide) (by decide) (nl rfl) (nl rfl) (fun eb h49 e49 E49 ⟨k49, B49⟩ S49 z49 c49 => ?_)
        have A49 : Arv Z h49 eb k49 .char (1 : Int32) [.int 0] (.int 0) := B49.pad (pad_rep [] (.int 0) 1)
        refine Go.dup 187 at_186 rfl rfl ?_
        refine Go.iconst (0) 188 at_187 rfl rfl ?_
        refine Go.bipush (101) 190 at_188 rfl rfl ?_
        refine Go.castore 0 (101 : Int32) [.int (101 : Int32)] 191 at_190 rfl A49 (by decide) rfl (nl rfl) rfl rfl S49 z49 (fun h50 K50 A50 S50 c50 => ?_)
        have E50 := Ext.kp1 E49 K50 e49
        have f52 := D48 (Or.inr (W.1 33 rfl)) (ty := (.array .byte)) (by decide)
        have f53 := D48 (Or.inr (W.1 31 rfl)) (ty := .byte) (by decide)
        have f54 := A48.ext E50
        have f55 := f52.ext E50
        have f56 := f53.ext E50
        have f57 := CHr.safe (CHr.trans c49 c50) A48.lt S48
        have L57 := Nat.lt_of_lt_of_le A48.lt (CHr.trans c49 c50).2.1
        refine goStrNew W 3 [(101 : Int32)] 194 at_191 rfl (W.1 8 rfl) f54 f55 f56 A50 rfl (nl rfl) (nl rfl) (by decide) rfl rfl (nl rfl) (nl rfl) (nl rfl) (nl rfl) (nl rfl) f57 z48 (fun h51 K51 T51 c51 => ?_)
        have E51 := Ext.kp1 (Ext.tr E48 E50) K51 e48
        refine Go.iload_n 195 at_194 rfl rfl ?_
        refine Go.aload 197 at_195 rfl rfl rfl ?_
        refine Go.aload 199 at_197 rfl rfl rfl ?_
        have f58 := D47 (Or.inl (W.1 55 rfl)) (ty := (.object "java/util/List")) (by decide)
        have f59 := D47 (Or.inl (W.1 58 rfl)) (ty := (.object "java/lang/String")) (by decide)
        have f60 := D47 (Or.inr (W.1 60 rfl)) (ty := (.object "java/lang/String")) (by decide)
        have f61 := D47 (Or.inr (W.1 62 rfl)) (ty := .int) (by decide)
        have f62 := D47 (Or.inr (W.1 64 rfl)) (ty := (.array (.object "java/lang/String"))) (by decide)
        have f63 := D47 (Or.inr (W.1 66 rfl)) (ty := (.array (.object "java/lang/String"))) (by decide)
        have f64 := A4.ext (Ext.tr E5 (Ext.tr E47 E51))
        have f65 := A5.ext (Ext.tr E47 E51)
        have f66 := A47.ext E51
        have f67 := f58.ext E51
        have f68 := f59.ext E51
        have f69 := f60.ext E51
        have f70 := f61.ext E51
        have f71 := f62.ext E51
        have f72 := f63.ext E51
        have f73 := CHr.safe (CHr.trans c48 (CHr.trans c49 (CHr.trans c50 c51))) A47.lt S47
        have L73 := Nat.lt_of_lt_of_le A47.lt (CHr.trans c48 (CHr.trans c49 (CHr.trans c50 c51))).2.1
        refine Go.invokespecial (rest := [.ref xe]) 1 xe [.ref es, .int line, .ref na, .ref va] 202 at_199 rfl rfl (W.1 44 rfl) (W.1 45 rfl) (W.1 43 rfl) (W.1 46 rfl) (by decide) (cXeInit W (by decide) Le f66 f67 f68 f69 f70 f71 f72 f73 z47) (by decide +kernel : parseMethodDescriptor "(Ljava/lang/String;I[Ljava/lang/String;[Ljava/lang/String;)V" = some ⟨[(.object "java/lang/String"), .int, (.array (.object "java/lang/String")), (.array (.object "java/lang/String"))], none⟩) rfl rfl rfl (nl rfl) (nl rfl) (nl rfl) (nl rfl) (nl rfl) (fun v74 vm74 h74 ⟨rv, K, X, GN, GV⟩ c74 => ?_)
        subst rv
        have AN' := f64.keep K (ninS (fun z => (Exa.neArv f66 f64 (W.1 42 rfl)) z.symm) nin0)
        have AV' := f65.keep K (ninS (fun z => (Exa.neArv f66 f65 (W.1 42 rfl)) z.symm) nin0)
        refine Go.astore #[.val (.int s_), .val (.int u_), .val (.int line), .val (.int (0 : Int32)), .val (.int (s_ &&& (15 : Int32))), .val (.int ((XT.ushr s_ (4 : Int32)) &&& (15 : Int32))), .val (.int ((XT.ushr s_ (8 : Int32)) &&& (15 : Int32))), .val (.int ((XT.ushr s_ (12 : Int32)) &&& (15 : Int32))), .val (.int (1 : Int32)), .val (.ref v0), .val (.ref v1), .val (.ref v2), .val (.ref na), .val (.ref va), .val (.null), .val (.ref xe), .unset, .unset, .unset] 204 at_202 rfl rfl rfl ?_
        refine Go.aload 206 at_204 rfl rfl rfl ?_
        refine Go.aload 208 at_206 rfl rfl rfl ?_
        refine Go.invokevirtual (rest := []) 0 xe [.null] 211 at_208 rfl X (W.1 67 rfl) (W.1 68 rfl) (fun s hs => notFace_of_selects (args := #[]) (mvT hs (W.1 70 rfl))) (W.1 70 rfl) (W.1 69 rfl) (W.1 43 rfl) (W.1 71 rfl) (by decide) (cGet0n W GN GV AN' AV' ) (by decide +kernel : parseMethodDescriptor "(Ljava/lang/String;)Ljava/lang/String;" = some ⟨[(.object "java/lang/String")], (some (.object "java/lang/String"))⟩) rfl rfl rfl (nl rfl) (nl rfl) (nl rfl) (nl rfl) (nl rfl) (fun v75 vm75 h75 ⟨rv, hh⟩ c75 => ?_)
        subst rv; replace hh := hh.symm; subst hh
        refine Go.astore #[.val (.int s_), .val (.int u_), .val (.int line), .val (.int (0 : Int32)), .val (.int (s_ &&& (15 : Int32))), .val (.int ((XT.ushr s_ (4 : Int32)) &&& (15 : Int32))), .val (.int ((XT.ushr s_ (8 : Int32)) &&& (15 : Int32))), .val (.int ((XT.ushr s_ (12 : Int32)) &&& (15 : Int32))), .val (.int (1 : Int32)), .val (.ref v0), .val (.ref v1), .val (.ref v2), .val (.ref na), .val (.ref va), .val (.null), .val (.ref xe), .val (.null), .unset, .unset] 213 at_211 rfl rfl rfl ?_
        refine Go.aconst_null 214 at_213 rfl ?_
        refine Go.astore #[.val (.int s_), .val (.int u_), .val (.int line), .val (.int (0 : Int32)), .val (.int (s_ &&& (15 : Int32))), .val (.int ((XT.ushr s_ (4 : Int32)) &&& (15 : Int32))), .val (.int ((XT.ushr s_ (8 : Int32)) &&& (15 : Int32))), .val (.int ((XT.ushr s_ (12 : Int32)) &&& (15 : Int32))), .val (.int (1 : Int32)), .val (.ref v0), .val (.ref v1), .val (.ref v2), .val (.ref na), .val (.ref va), .val (.null), .val (.ref xe), .val (.null), .val (.null), .unset] 216 at_214 rfl rfl rfl ?_
        refine Go.iload 218 at_216 rfl rfl ?_
        refine Go.ifne 284 221 at_218 (by decide) rfl rfl (fun q76 => ?_) (fun q76 => absurd q76 (by decide))
        refine Go.aload 286 at_284 rfl rfl rfl ?_
        refine Go.aload 288 at_286 rfl rfl rfl ?_
        refine Go.acmp_n 291 at_288 rfl rfl rfl (by simp [XT.acmp]) ?_
        refine Go.iconst (1) 292 at_291 rfl rfl ?_
        refine Go.goto 296 at_292 (by decide) rfl ?_
        exact Go.ireturn at_296 rfl rfl (by simp) (nl rfl) (nl rfl) (fun vm' ch => rfl)
    refine Go.if_icmpne 55 51 at_48 (by decide) rfl rfl (fun q77 => ?_) (fun q77 => ?_)
    · refine Go.iconst (0) 56 at_55 rfl rfl ?_
      exact J56 _ (Or.inl rfl)
    · refine Go.iconst (1) 52 at_51 rfl rfl ?_
      refine Go.goto 56 at_52 (by decide) rfl ?_
      exact J56 _ (Or.inr rfl)
  · refine Go.iand (1 : Int32) 6 at_5 rfl hc ?_
    refine Go.istore_n #[.val (.int s_), .val (.int u_), .val (.int line), .val (.int (1 : Int32)), .unset, .unset, .unset, .unset, .unset, .unset, .unset, .unset, .unset, .unset, .unset, .unset, .unset, .unset, .unset] 7 at_6 rfl rfl ?_
    refine Go.iload_n 8 at_7 rfl rfl ?_
    refine Go.bipush (15) 10 at_8 rfl rfl ?_
    refine Go.iand (s_ &&& (15 : Int32)) 11 at_10 rfl rfl ?_
    refine Go.istore #[.val (.int s_), .val (.int u_), .val (.int line), .val (.int (1 : Int32)), .val (.int (s_ &&& (15 : Int32))), .unset, .unset, .unset, .unset, .unset, .unset, .unset, .unset, .unset, .unset, .unset, .unset, .unset, .unset] 13 at_11 rfl rfl ?_
    refine Go.iload_n 14 at_13 rfl rfl ?_
    refine Go.iconst (4) 15 at_14 rfl rfl ?_
    refine Go.iushr (XT.ushr s_ (4 : Int32)) 16 at_15 rfl rfl ?_
    refine Go.bipush (15) 18 at_16 rfl rfl ?_
    refine Go.iand ((XT.ushr s_ (4 : Int32)) &&& (15 : Int32)) 19 at_18 rfl rfl ?_
    refine Go.istore #[.val (.int s_), .val (.int u_), .val (.int line), .val (.int (1 : Int32)), .val (.int (s_ &&& (15 : Int32))), .val (.int ((XT.ushr s_ (4 : Int32)) &&& (15 : Int32))), .unset, .unset, .unset, .unset, .unset, .unset, .unset, .unset, .unset, .unset, .unset, .unset, .unset] 21 at_19 rfl rfl ?_
    refine Go.iload_n 22 at_21 rfl rfl ?_
    refine Go.bipush (8) 24 at_22 rfl rfl ?_
    refine Go.iushr (XT.ushr s_ (8 : Int32)) 25 at_24 rfl rfl ?_
    refine Go.bipush (15) 27 at_25 rfl rfl ?_
    refine Go.iand ((XT.ushr s_ (8 : Int32)) &&& (15 : Int32)) 28 at_27 rfl rfl ?_
    refine Go.istore #[.val (.int s_), .val (.int u_), .val (.int line), .val (.int (1 : Int32)), .val (.int (s_ &&& (15 : Int32))), .val (.int ((XT.ushr s_ (4 : Int32)) &&& (15 : Int32))), .val (.int ((XT.ushr s_ (8 : Int32)) &&& (15 : Int32))), .unset, .unset, .unset, .unset, .unset, .unset, .unset, .unset, .unset, .unset, .unset, .unset] 30 at_28 rfl rfl ?_
    refine Go.iload_n 31 at_30 rfl rfl ?_
    refine Go.bipush (12) 33 at_31 rfl rfl ?_
    refine Go.iushr (XT.ushr s_ (12 : Int32)) 34 at_33 rfl rfl ?_
    refine Go.bipush (15) 36 at_34 rfl rfl ?_
    refine Go.iand ((XT.ushr s_ (12 : Int32)) &&& (15 : Int32)) 37 at_36 rfl rfl ?_
    refine Go.istore #[.val (.int s_), .val (.int u_), .val (.int line), .val (.int (1 : Int32)), .val (.int (s_ &&& (15 : Int32))), .val (.int ((XT.ushr s_ (4 : Int32)) &&& (15 : Int32))), .val (.int ((XT.ushr s_ (8 : Int32)) &&& (15 : Int32))), .val (.int ((XT.ushr s_ (12 : Int32)) &&& (15 : Int32))), .unset, .unset, .unset, .unset, .unset, .unset, .unset, .unset, .unset, .unset, .unset] 39 at_37 rfl rfl ?_
    refine Go.iload_n 40 at_39 rfl rfl ?_
    refine Go.bipush (18) 42 at_40 rfl rfl ?_
    refine Go.iushr (XT.ushr s_ (18 : Int32)) 43 at_42 rfl rfl ?_
    refine Go.bipush (7) 45 at_43 rfl rfl ?_
    refine Go.iand ((XT.ushr s_ (18 : Int32)) &&& (7 : Int32)) 46 at_45 rfl rfl ?_
    refine Go.bipush (7) 48 at_46 rfl rfl ?_
    have J56 : ∀ (r : Int32), (r = 0 ∨ r = 1) → Go false p l e room_1 s m #[.int s_, .int u_, .int line] below meth c code maxLocals "law" ret Z a0 consts_1 "com/example/tendril/tendril/xml/XmlElementGetAttributePinLaw" (fun v vm' h' => v = some (.int 1)) vmi h 0 0 56 #[.val (.int s_), .val (.int u_), .val (.int line), .val (.int (1 : Int32)), .val (.int (s_ &&& (15 : Int32))), .val (.int ((XT.ushr s_ (4 : Int32)) &&& (15 : Int32))), .val (.int ((XT.ushr s_ (8 : Int32)) &&& (15 : Int32))), .val (.int ((XT.ushr s_ (12 : Int32)) &&& (15 : Int32))), .unset, .unset, .unset, .unset, .unset, .unset, .unset, .unset, .unset, .unset, .unset] [.int r] := by
      intro r hr
      refine Go.istore #[.val (.int s_), .val (.int u_), .val (.int line), .val (.int (1 : Int32)), .val (.int (s_ &&& (15 : Int32))), .val (.int ((XT.ushr s_ (4 : Int32)) &&& (15 : Int32))), .val (.int ((XT.ushr s_ (8 : Int32)) &&& (15 : Int32))), .val (.int ((XT.ushr s_ (12 : Int32)) &&& (15 : Int32))), .val (.int r), .unset, .unset, .unset, .unset, .unset, .unset, .unset, .unset, .unset, .unset] 58 at_56 rfl rfl ?_
      refine Go.bipush (48) 60 at_58 rfl rfl ?_
      refine Go.iload_n 61 at_60 rfl rfl ?_
      refine Go.invokestatic (rest := []) 0 [.int (48 : Int32), .int u_] 64 at_61 rfl (W.1 0 rfl) (W.1 1 rfl) (W.1 2 rfl) (W.1 3 rfl) (by decide) (cValue W (t_ := 48) (x := u_) (by decide)) (by decide +kernel : parseMethodDescriptor "(CI)Ljava/lang/String;" = some ⟨[.char, .int], (some (.object "java/lang/String"))⟩) rfl rfl rfl (nl rfl) (nl rfl) (nl rfl) (nl rfl) (nl rfl) (fun v78 vm78 h78 ⟨v0, rv, E78, T78⟩ c78 => ?_)
      subst rv
      refine Go.astore #[.val (.int s_), .val (.int u_), .val (.int line), .val (.int (1 : Int32)), .val (.int (s_ &&& (15 : Int32))), .val (.int ((XT.ushr s_ (4 : Int32)) &&& (15 : Int32))), .val (.int ((XT.ushr s_ (8 : Int32)) &&& (15 : Int32))), .val (.int ((XT.ushr s_ (12 : Int32)) &&& (15 : Int32))), .val (.int r), .val (.ref v0), .unset, .unset, .unset, .unset, .unset, .unset, .unset, .unset, .unset] 66 at_64 rfl rfl rfl ?_
      refine Go.bipush (49) 68 at_66 rfl rfl ?_
      refine Go.iload_n 69 at_68 rfl rfl ?_
      refine Go.bipush (8) 71 at_69 rfl rfl ?_
      refine Go.iushr (XT.ushr u_ (8 : Int32)) 72 at_71 rfl rfl ?_
      refine Go.invokestatic (rest := []) 0 [.int (49 : Int32), .int (XT.ushr u_ (8 : Int32))] 75 at_72 rfl (W.1 0 rfl) (W.1 1 rfl) (W.1 2 rfl) (W.1 3 rfl) (by decide) (cValue W (t_ := 49) (x := (XT.ushr u_ (8 : Int32))) (by decide)) (by decide +kernel : parseMethodDescriptor "(CI)Ljava/lang/String;" = some ⟨[.char, .int], (some (.object "java/lang/String"))⟩) rfl rfl rfl (nl rfl) (nl rfl) (nl rfl) (nl rfl) (nl rfl) (fun v79 vm79 h79 ⟨v1, rv, E79, T79⟩ c79 => ?_)
      subst rv
      refine Go.astore #[.val (.int s_), .val (.int u_), .val (.int line), .val (.int (1 : Int32)), .val (.int (s_ &&& (15 : Int32))), .val (.int ((XT.ushr s_ (4 : Int32)) &&& (15 : Int32))), .val (.int ((XT.ushr s_ (8 : Int32)) &&& (15 : Int32))), .val (.int ((XT.ushr s_ (12 : Int32)) &&& (15 : Int32))), .val (.int r), .val (.ref v0), .val (.ref v1), .unset, .unset, .unset, .unset, .unset, .unset, .unset, .unset] 77 at_75 rfl rfl rfl ?_
      refine Go.bipush (50) 79 at_77 rfl rfl ?_
      refine Go.iload_n 80 at_79 rfl rfl ?_
      refine Go.bipush (16) 82 at_80 rfl rfl ?_
      refine Go.iushr (XT.ushr u_ (16 : Int32)) 83 at_82 rfl rfl ?_
      refine Go.invokestatic (rest := []) 0 [.int (50 : Int32), .int (XT.ushr u_ (16 : Int32))] 86 at_83 rfl (W.1 0 rfl) (W.1 1 rfl) (W.1 2 rfl) (W.1 3 rfl) (by decide) (cValue W (t_ := 50) (x := (XT.ushr u_ (16 : Int32))) (by decide)) (by decide +kernel : parseMethodDescriptor "(CI)Ljava/lang/String;" = some ⟨[.char, .int], (some (.object "java/lang/String"))⟩) rfl rfl rfl (nl rfl) (nl rfl) (nl rfl) (nl rfl) (nl rfl) (fun v80 vm80 h80 ⟨v2, rv, E80, T80⟩ c80 => ?_)
      subst rv
      refine Go.astore #[.val (.int s_), .val (.int u_), .val (.int line), .val (.int (1 : Int32)), .val (.int (s_ &&& (15 : Int32))), .val (.int ((XT.ushr s_ (4 : Int32)) &&& (15 : Int32))), .val (.int ((XT.ushr s_ (8 : Int32)) &&& (15 : Int32))), .val (.int ((XT.ushr s_ (12 : Int32)) &&& (15 : Int32))), .val (.int r), .val (.ref v0), .val (.ref v1), .val (.ref v2), .unset, .unset, .unset, .unset, .unset, .unset, .unset] 88 at_86 rfl rfl rfl ?_
      refine Go.iload_n 89 at_88 rfl rfl ?_
      refine Go.anewarray 1 92 at_89 rfl (W.1 4 rfl) (W.1 34 rfl) (by decide) (by decide) (by decide) (nl rfl) (nl rfl) (fun na h81 e81 E81 ⟨k81, B81, O81⟩ S81 z81 c81 => ?_)
      have A81 : Arv Z h81 na k81 (.object "java/lang/String") (1 : Int32) [.null] .null := B81.pad (pad_rep [] .null 1)
      refine Go.astore #[.val (.int s_), .val (.int u_), .val (.int line), .val (.int (1 : Int32)), .val (.int (s_ &&& (15 : Int32))), .val (.int ((XT.ushr s_ (4 : Int32)) &&& (15 : Int32))), .val (.int ((XT.ushr s_ (8 : Int32)) &&& (15 : Int32))), .val (.int ((XT.ushr s_ (12 : Int32)) &&& (15 : Int32))), .val (.int r), .val (.ref v0), .val (.ref v1), .val (.ref v2), .val (.ref na), .unset, .unset, .unset, .unset, .unset, .unset] 94 at_92 rfl rfl rfl ?_
      refine Go.iload_n 95 at_94 rfl rfl ?_
      refine Go.anewarray 1 98 at_95 rfl (W.1 4 rfl) (W.1 34 rfl) (by decide) (by decide) (by decide) (nl rfl) (nl rfl) (fun va h82 e82 E82 ⟨k82, B82, O82⟩ S82 z82 c82 => ?_)
      have A82 : Arv Z h82 va k82 (.object "java/lang/String") (1 : Int32) [.null] .null := B82.pad (pad_rep [] .null 1)
      have nv : na ≠ va := ne_of_new A81.lt (Nat.le_of_eq e82.symm)
      have ln_ := Nat.le_of_eq e81.symm
      have lv_ : h80.size ≤ va := Nat.le_trans E81.1 (Nat.le_of_eq e82.symm)
      refine Go.astore #[.val (.int s_), .val (.int u_), .val (.int line), .val (.int (1 : Int32)), .val (.int (s_ &&& (15 : Int32))), .val (.int ((XT.ushr s_ (4 : Int32)) &&& (15 : Int32))), .val (.int ((XT.ushr s_ (8 : Int32)) &&& (15 : Int32))), .val (.int ((XT.ushr s_ (12 : Int32)) &&& (15 : Int32))), .val (.int r), .val (.ref v0), .val (.ref v1), .val (.ref v2), .val (.ref na), .val (.ref va), .unset, .unset, .unset, .unset, .unset] 100 at_98 rfl rfl rfl ?_
      refine Go.iload_n 101 at_100 rfl rfl ?_
      refine Go.ifle 119 104 at_101 (by decide) rfl rfl (fun q83 => absurd (by decide) q83) (fun q83 => ?_)
      refine Go.aload 106 at_104 rfl rfl rfl ?_
      refine Go.iconst (0) 107 at_106 rfl rfl ?_
      refine Go.iload 109 at_107 rfl rfl ?_
      refine Go.invokestatic (rest := [.int (0 : Int32), .ref na]) 2 [.int (s_ &&& (15 : Int32))] 112 at_109 rfl (W.1 35 rfl) (W.1 36 rfl) (W.1 2 rfl) (W.1 37 rfl) (by decide) (cName W (x := (s_ &&& (15 : Int32))) (by decide)) (by decide +kernel : parseMethodDescriptor "(I)Ljava/lang/String;" = some ⟨[.int], (some (.object "java/lang/String"))⟩) rfl rfl rfl (nl rfl) (nl rfl) (nl rfl) (nl rfl) (nl rfl) (fun v84 vm84 h84 ⟨nm0, rv, E84, T84⟩ c84 => ?_)
      subst rv
      have f85 := A81.ext (Ext.tr E82 E84)
      have f86 := CHr.safe (CHr.trans c82 c84) A81.lt S81
      have L86 := Nat.lt_of_lt_of_le A81.lt (CHr.trans c82 c84).2.1
      have f87 := A82.ext E84
      have f88 := CHr.safe c84 A82.lt S82
      have L88 := Nat.lt_of_lt_of_le A82.lt c84.2.1
      refine Go.aastore 0 [.ref nm0] 113 at_112 rfl f85 O81 (Ins.self T84.exa) (by decide) rfl (nl rfl) rfl f86 z81 (fun h89 K89 A89 S89 c89 => ?_)
      have E89 := Ext.kq1 (Ext.tr E81 (Ext.tr E82 E84)) K89 ln_
      have o89 := f87.keep K89 (ninS nv.symm nin0)
      have t89nm0 := T84.keepA K89 f85 (by decide) (W.1 5 rfl)
      refine Go.aload 115 at_113 rfl rfl rfl ?_
      refine Go.iconst (0) 116 at_115 rfl rfl ?_
      refine Go.aload 118 at_116 rfl rfl rfl ?_
      have f90 := CHr.safe c89 L88 f88
      have L90 := Nat.lt_of_lt_of_le L88 c89.2.1
      have f91 := T78.ext (Ext.tr E79 (Ext.tr E80 E89))
      refine Go.aastore 0 [.ref v0] 119 at_118 rfl o89 O82 (Ins.self f91.exa) (by decide) rfl (nl rfl) rfl f90 z82 (fun h92 K92 A92 S92 c92 => ?_)
      have E92 := Ext.kq1 E89 K92 lv_
      have o92 := A89.keep K92 (ninS nv nin0)
      have t92nm0 := t89nm0.keepA K92 o89 (by decide) (W.1 5 rfl)
      refine Go.iload_n 120 at_119 rfl rfl ?_
      refine Go.iconst (1) 121 at_120 rfl rfl ?_
      refine Go.if_icmple 139 124 at_121 (by decide) rfl rfl (fun q93 => ?_) (fun q93 => absurd q93 (by decide))
      refine Go.iload_n 140 at_139 rfl rfl ?_
      refine Go.iconst (2) 141 at_140 rfl rfl ?_
      refine Go.if_icmple 159 144 at_141 (by decide) rfl rfl (fun q94 => ?_) (fun q94 => absurd q94 (by decide))
      refine Go.iload 161 at_159 rfl rfl ?_
      rcases hr with rfl | rfl
      · refine Go.ifeq 168 164 at_161 (by decide) rfl rfl (fun q95 => ?_) (fun q95 => absurd rfl q95)
        refine Go.iload 170 at_168 rfl rfl ?_
        refine Go.invokestatic (rest := []) 0 [.int ((XT.ushr s_ (12 : Int32)) &&& (15 : Int32))] 173 at_170 rfl (W.1 35 rfl) (W.1 36 rfl) (W.1 2 rfl) (W.1 37 rfl) (by decide) (cName W (x := ((XT.ushr s_ (12 : Int32)) &&& (15 : Int32))) (by decide)) (by decide +kernel : parseMethodDescriptor "(I)Ljava/lang/String;" = some ⟨[.int], (some (.object "java/lang/String"))⟩) rfl rfl rfl (nl rfl) (nl rfl) (nl rfl) (nl rfl) (nl rfl) (fun v96 vm96 h96 ⟨qq, rv, E96, T96⟩ c96 => ?_)
        subst rv
        refine Go.astore #[.val (.int s_), .val (.int u_), .val (.int line), .val (.int (1 : Int32)), .val (.int (s_ &&& (15 : Int32))), .val (.int ((XT.ushr s_ (4 : Int32)) &&& (15 : Int32))), .val (.int ((XT.ushr s_ (8 : Int32)) &&& (15 : Int32))), .val (.int ((XT.ushr s_ (12 : Int32)) &&& (15 : Int32))), .val (.int (0 : Int32)), .val (.ref v0), .val (.ref v1), .val (.ref v2), .val (.ref na), .val (.ref va), .val (.ref qq), .unset, .unset, .unset, .unset] 175 at_173 rfl rfl rfl ?_
        refine Go.new 178 at_175 rfl (W.1 41 rfl) (W.1 42 rfl) (W.1 43 rfl) (nl rfl) (nl rfl) (fun xe h97 e97 E97 ⟨A97, D97⟩ S97 z97 c97 => ?_)
        refine Go.dup 179 at_178 rfl rfl ?_
        refine Go.new 182 at_179 rfl (W.1 4 rfl) (W.1 5 rfl) (W.1 6 rfl) (nl rfl) (nl rfl) (fun es h98 e98 E98 ⟨A98, D98⟩ S98 z98 c98 => ?_)
        refine Go.dup 183 at_182 rfl rfl ?_
        refine Go.iconst (1) 184 at_183 rfl rfl ?_
        refine Go.newarray 1 186 at_184 rfl (W.1 7 rfl) (by decide) (by decide) (by decide) (nl rfl) (nl rfl) (fun eb h99 e99 E99 ⟨k99, B99⟩ S99 z99 c99 => ?_)
        have A99 : Arv Z h99 eb k99 .char (1 : Int32) [.int 0] (.int 0) := B99.pad (pad_rep [] (.int 0) 1)
        refine Go.dup 187 at_186 rfl rfl ?_
        refine Go.iconst (0) 188 at_187 rfl rfl ?_
        refine Go.bipush (101) 190 at_188 rfl rfl ?_
        refine Go.castore 0 (101 : Int32) [.int (101 : Int32)] 191 at_190 rfl A99 (by decide) rfl (nl rfl) rfl rfl S99 z99 (fun h100 K100 A100 S100 c100 => ?_)
        have E100 := Ext.kp1 E99 K100 e99
        have f102 := D98 (Or.inr (W.1 33 rfl)) (ty := (.array .byte)) (by decide)
        have f103 := D98 (Or.inr (W.1 31 rfl)) (ty := .byte) (by decide)
        have f104 := A98.ext E100
        have f105 := f102.ext E100
        have f106 := f103.ext E100
        have f107 := CHr.safe (CHr.trans c99 c100) A98.lt S98
        have L107 := Nat.lt_of_lt_of_le A98.lt (CHr.trans c99 c100).2.1
        refine goStrNew W 3 [(101 : Int32)] 194 at_191 rfl (W.1 8 rfl) f104 f105 f106 A100 rfl (nl rfl) (nl rfl) (by decide) rfl rfl (nl rfl) (nl rfl) (nl rfl) (nl rfl) (nl rfl) f107 z98 (fun h101 K101 T101 c101 => ?_)
        have E101 := Ext.kp1 (Ext.tr E98 E100) K101 e98
        refine Go.iload_n 195 at_194 rfl rfl ?_
        refine Go.aload 197 at_195 rfl rfl rfl ?_
        refine Go.aload 199 at_197 rfl rfl rfl ?_
        have f108 := D97 (Or.inl (W.1 55 rfl)) (ty := (.object "java/util/List")) (by decide)
        have f109 := D97 (Or.inl (W.1 58 rfl)) (ty := (.object "java/lang/String")) (by decide)
        have f110 := D97 (Or.inr (W.1 60 rfl)) (ty := (.object "java/lang/String")) (by decide)
        have f111 := D97 (Or.inr (W.1 62 rfl)) (ty := .int) (by decide)
        have f112 := D97 (Or.inr (W.1 64 rfl)) (ty := (.array (.object "java/lang/String"))) (by decide)
        have f113 := D97 (Or.inr (W.1 66 rfl)) (ty := (.array (.object "java/lang/String"))) (by decide)
        have f114 := o92.ext (Ext.tr E96 (Ext.tr E97 E101))
        have f115 := A92.ext (Ext.tr E96 (Ext.tr E97 E101))
        have f116 := t92nm0.ext (Ext.tr E96 (Ext.tr E97 E101))
        have f117 := T96.ext (Ext.tr E97 E101)
        have f118 := A97.ext E101
        have f119 := f108.ext E101
        have f120 := f109.ext E101
        have f121 := f110.ext E101
        have f122 := f111.ext E101
        have f123 := f112.ext E101
        have f124 := f113.ext E101
        have f125 := CHr.safe (CHr.trans c98 (CHr.trans c99 (CHr.trans c100 c101))) A97.lt S97
        have L125 := Nat.lt_of_lt_of_le A97.lt (CHr.trans c98 (CHr.trans c99 (CHr.trans c100 c101))).2.1
        refine Go.invokespecial (rest := [.ref xe]) 1 xe [.ref es, .int line, .ref na, .ref va] 202 at_199 rfl rfl (W.1 44 rfl) (W.1 45 rfl) (W.1 43 rfl) (W.1 46 rfl) (by decide) (cXeInit W (by decide) Le f118 f119 f120 f121 f122 f123 f124 f125 z97) (by decide +kernel : parseMethodDescriptor "(Ljava/lang/String;I[Ljava/lang/String;[Ljava/lang/String;)V" = some ⟨[(.object "java/lang/String"), .int, (.array (.object "java/lang/String")), (.array (.object "java/lang/String"))], none⟩) rfl rfl rfl (nl rfl) (nl rfl) (nl rfl) (nl rfl) (nl rfl) (fun v126 vm126 h126 ⟨rv, K, X, GN, GV⟩ c126 => ?_)
        subst rv
        have AN' := f114.keep K (ninS (fun z => (Exa.neArv f118 f114 (W.1 42 rfl)) z.symm) nin0)
        have AV' := f115.keep K (ninS (fun z => (Exa.neArv f118 f115 (W.1 42 rfl)) z.symm) nin0)
        have T_nm0 := f116.keepE K f118 (by decide) (W.1 42 rfl)
        have T_qq := f117.keepE K f118 (by decide) (W.1 42 rfl)
        refine Go.astore #[.val (.int s_), .val (.int u_), .val (.int line), .val (.int (1 : Int32)), .val (.int (s_ &&& (15 : Int32))), .val (.int ((XT.ushr s_ (4 : Int32)) &&& (15 : Int32))), .val (.int ((XT.ushr s_ (8 : Int32)) &&& (15 : Int32))), .val (.int ((XT.ushr s_ (12 : Int32)) &&& (15 : Int32))), .val (.int (0 : Int32)), .val (.ref v0), .val (.ref v1), .val (.ref v2), .val (.ref na), .val (.ref va), .val (.ref qq), .val (.ref xe), .unset, .unset, .unset] 204 at_202 rfl rfl rfl ?_
        refine Go.aload 206 at_204 rfl rfl rfl ?_
        refine Go.aload 208 at_206 rfl rfl rfl ?_
        refine Go.invokevirtual (rest := []) 0 xe [.ref qq] 211 at_208 rfl X (W.1 67 rfl) (W.1 68 rfl) (fun s hs => notFace_of_selects (args := #[]) (mvT hs (W.1 70 rfl))) (W.1 70 rfl) (W.1 69 rfl) (W.1 43 rfl) (W.1 71 rfl) (by decide) (cGet1s W GN GV AN' AV' T_nm0 T_qq) (by decide +kernel : parseMethodDescriptor "(Ljava/lang/String;)Ljava/lang/String;" = some ⟨[(.object "java/lang/String")], (some (.object "java/lang/String"))⟩) rfl rfl rfl (nl rfl) (nl rfl) (nl rfl) (nl rfl) (nl rfl) (fun v127 vm127 h127 ⟨rv, hh⟩ c127 => ?_)
        subst rv; replace hh := hh.symm; subst hh
        have hg : Value.isRef (if nameV (s_ &&& (15 : Int32)) = nameV ((XT.ushr s_ (12 : Int32)) &&& (15 : Int32)) then Value.ref v0 else Value.null) = true := by split; rfl; rfl
        obtain ⟨gv, eg⟩ : ∃ g, g = (if nameV (s_ &&& (15 : Int32)) = nameV ((XT.ushr s_ (12 : Int32)) &&& (15 : Int32)) then Value.ref v0 else Value.null) := ⟨_, rfl⟩
        rw [← eg] at hg ⊢
        refine Go.astore #[.val (.int s_), .val (.int u_), .val (.int line), .val (.int (1 : Int32)), .val (.int (s_ &&& (15 : Int32))), .val (.int ((XT.ushr s_ (4 : Int32)) &&& (15 : Int32))), .val (.int ((XT.ushr s_ (8 : Int32)) &&& (15 : Int32))), .val (.int ((XT.ushr s_ (12 : Int32)) &&& (15 : Int32))), .val (.int (0 : Int32)), .val (.ref v0), .val (.ref v1), .val (.ref v2), .val (.ref na), .val (.ref va), .val (.ref qq), .val (.ref xe), .val gv, .unset, .unset] 213 at_211 rfl hg (XS.store1 rfl One.u (refCat hg)) ?_
        refine Go.aconst_null 214 at_213 rfl ?_
        refine Go.astore #[.val (.int s_), .val (.int u_), .val (.int line), .val (.int (1 : Int32)), .val (.int (s_ &&& (15 : Int32))), .val (.int ((XT.ushr s_ (4 : Int32)) &&& (15 : Int32))), .val (.int ((XT.ushr s_ (8 : Int32)) &&& (15 : Int32))), .val (.int ((XT.ushr s_ (12 : Int32)) &&& (15 : Int32))), .val (.int (0 : Int32)), .val (.ref v0), .val (.ref v1), .val (.ref v2), .val (.ref na), .val (.ref va), .val (.ref qq), .val (.ref xe), .val gv, .val (.null), .unset] 216 at_214 rfl rfl rfl ?_
        refine Go.iload 218 at_216 rfl rfl ?_
        refine Go.ifne 284 221 at_218 (by decide) rfl rfl (fun q128 => absurd rfl q128) (fun q128 => ?_)
        refine Go.iload 223 at_221 rfl rfl ?_
        refine Go.invokestatic (rest := []) 0 [.int ((XT.ushr s_ (12 : Int32)) &&& (15 : Int32))] 226 at_223 rfl (W.1 72 rfl) (W.1 73 rfl) (W.1 2 rfl) (W.1 74 rfl) (by decide) (cKey W ) (by decide +kernel : parseMethodDescriptor "(I)I" = some ⟨[.int], (some .int)⟩) rfl rfl rfl (nl rfl) (nl rfl) (nl rfl) (nl rfl) (nl rfl) (fun v129 vm129 h129 ⟨rv, hh⟩ c129 => ?_)
        subst rv; replace hh := hh.symm; subst hh
        refine Go.istore #[.val (.int s_), .val (.int u_), .val (.int line), .val (.int (1 : Int32)), .val (.int (s_ &&& (15 : Int32))), .val (.int ((XT.ushr s_ (4 : Int32)) &&& (15 : Int32))), .val (.int ((XT.ushr s_ (8 : Int32)) &&& (15 : Int32))), .val (.int ((XT.ushr s_ (12 : Int32)) &&& (15 : Int32))), .val (.int (0 : Int32)), .val (.ref v0), .val (.ref v1), .val (.ref v2), .val (.ref na), .val (.ref va), .val (.ref qq), .val (.ref xe), .val gv, .val (.null), .val (.int (keyV ((XT.ushr s_ (12 : Int32)) &&& (15 : Int32))))] 228 at_226 rfl rfl ?_
        refine Go.iload_n 229 at_228 rfl rfl ?_
        refine Go.iconst (2) 230 at_229 rfl rfl ?_
        refine Go.if_icmple 247 233 at_230 (by decide) rfl rfl (fun q130 => ?_) (fun q130 => absurd q130 (by decide))
        refine Go.iload_n 248 at_247 rfl rfl ?_
        refine Go.iconst (1) 249 at_248 rfl rfl ?_
        refine Go.if_icmple 266 252 at_249 (by decide) rfl rfl (fun q131 => ?_) (fun q131 => absurd q131 (by decide))
        refine Go.iload_n 267 at_266 rfl rfl ?_
        refine Go.ifle 284 270 at_267 (by decide) rfl rfl (fun q132 => absurd (by decide) q132) (fun q132 => ?_)
        refine Go.iload 272 at_270 rfl rfl ?_
        refine Go.invokestatic (rest := []) 0 [.int (s_ &&& (15 : Int32))] 275 at_272 rfl (W.1 72 rfl) (W.1 73 rfl) (W.1 2 rfl) (W.1 74 rfl) (by decide) (cKey W ) (by decide +kernel : parseMethodDescriptor "(I)I" = some ⟨[.int], (some .int)⟩) rfl rfl rfl (nl rfl) (nl rfl) (nl rfl) (nl rfl) (nl rfl) (fun v133 vm133 h133 ⟨rv, hh⟩ c133 => ?_)
        subst rv; replace hh := hh.symm; subst hh
        refine Go.iload 277 at_275 rfl rfl ?_
        refine Go.if_icmpne 284 280 at_277 (by decide) rfl rfl (fun u0 => ?_) (fun u0 => ?_)
        · have eg2 : gv = .null := eg.trans (by rw [if_neg (fun z => u0 ((nk s_ (XT.ushr s_ (12 : Int32))).mp z))])
          subst eg2
          refine Go.aload 286 at_284 rfl rfl rfl ?_
          refine Go.aload 288 at_286 rfl rfl rfl ?_
          refine Go.acmp_n 291 at_288 rfl rfl rfl (by simp [XT.acmp]) ?_
          refine Go.iconst (1) 292 at_291 rfl rfl ?_
          refine Go.goto 296 at_292 (by decide) rfl ?_
          exact Go.ireturn at_296 rfl rfl (by simp) (nl rfl) (nl rfl) (fun vm' ch => rfl)
        · refine Go.aload 282 at_280 rfl rfl rfl ?_
          refine Go.astore #[.val (.int s_), .val (.int u_), .val (.int line), .val (.int (1 : Int32)), .val (.int (s_ &&& (15 : Int32))), .val (.int ((XT.ushr s_ (4 : Int32)) &&& (15 : Int32))), .val (.int ((XT.ushr s_ (8 : Int32)) &&& (15 : Int32))), .val (.int ((XT.ushr s_ (12 : Int32)) &&& (15 : Int32))), .val (.int (0 : Int32)), .val (.ref v0), .val (.ref v1), .val (.ref v2), .val (.ref na), .val (.ref va), .val (.ref qq), .val (.ref xe), .val gv, .val (.ref v0), .val (.int (keyV ((XT.ushr s_ (12 : Int32)) &&& (15 : Int32))))] 284 at_282 rfl rfl rfl ?_
          have eg2 : gv = .ref v0 := eg.trans (by rw [if_pos ((nk s_ (XT.ushr s_ (12 : Int32))).mpr u0)])
          subst eg2
          refine Go.aload 286 at_284 rfl rfl rfl ?_
          refine Go.aload 288 at_286 rfl rfl rfl ?_
          refine Go.acmp_n 291 at_288 rfl rfl rfl (by simp [XT.acmp]) ?_
          refine Go.iconst (1) 292 at_291 rfl rfl ?_
          refine Go.goto 296 at_292 (by decide) rfl ?_
          exact Go.ireturn at_296 rfl rfl (by simp) (nl rfl) (nl rfl) (fun vm' ch => rfl)
      · refine Go.ifeq 168 164 at_161 (by decide) rfl rfl (fun q134 => absurd q134 (by decide)) (fun q134 => ?_)
        refine Go.aconst_null 165 at_164 rfl ?_
        refine Go.goto 173 at_165 (by decide) rfl ?_
        refine Go.astore #[.val (.int s_), .val (.int u_), .val (.int line), .val (.int (1 : Int32)), .val (.int (s_ &&& (15 : Int32))), .val (.int ((XT.ushr s_ (4 : Int32)) &&& (15 : Int32))), .val (.int ((XT.ushr s_ (8 : Int32)) &&& (15 : Int32))), .val (.int ((XT.ushr s_ (12 : Int32)) &&& (15 : Int32))), .val (.int (1 : Int32)), .val (.ref v0), .val (.ref v1), .val (.ref v2), .val (.ref na), .val (.ref va), .val (.null), .unset, .unset, .unset, .unset] 175 at_173 rfl rfl rfl ?_
        refine Go.new 178 at_175 rfl (W.1 41 rfl) (W.1 42 rfl) (W.1 43 rfl) (nl rfl) (nl rfl) (fun xe h135 e135 E135 ⟨A135, D135⟩ S135 z135 c135 => ?_)
        refine Go.dup 179 at_178 rfl rfl ?_
        refine Go.new 182 at_179 rfl (W.1 4 rfl) (W.1 5 rfl) (W.1 6 rfl) (nl rfl) (nl rfl) (fun es h136 e136 E136 ⟨A136, D136⟩ S136 z136 c136 => ?_)
        refine Go.dup 183 at_182 rfl rfl ?_
        refine Go.iconst (1) 184 at_183 rfl rfl ?_
        refine Go.newarray 1 186 at_184 rfl (W.1 7 rfl) (by decide) (by decide) (by decide) (nl rfl) (nl rfl) (fun eb h137 e137 E137 ⟨k137, B137⟩ S137 z137 c137 => ?_)
        have A137 : Arv Z h137 eb k137 .char (1 : Int32) [.int 0] (.int 0) := B137.pad (pad_rep [] (.int 0) 1)
        refine Go.dup 187 at_186 rfl rfl ?_
        refine Go.iconst (0) 188 at_187 rfl rfl ?_
        refine Go.bipush (101) 190 at_188 rfl rfl ?_
        refine Go.castore 0 (101 : Int32) [.int (101 : Int32)] 191 at_190 rfl A137 (by decide) rfl (nl rfl) rfl rfl S137 z137 (fun h138 K138 A138 S138 c138 => ?_)
        have E138 := Ext.kp1 E137 K138 e137
        have f140 := D136 (Or.inr (W.1 33 rfl)) (ty := (.array .byte)) (by decide)
        have f141 := D136 (Or.inr (W.1 31 rfl)) (ty := .byte) (by decide)
        have f142 := A136.ext E138
        have f143 := f140.ext E138
        have f144 := f141.ext E138
        have f145 := CHr.safe (CHr.trans c137 c138) A136.lt S136
        have L145 := Nat.lt_of_lt_of_le A136.lt (CHr.trans c137 c138).2.1
        refine goStrNew W 3 [(101 : Int32)] 194 at_191 rfl (W.1 8 rfl) f142 f143 f144 A138 rfl (nl rfl) (nl rfl) (by decide) rfl rfl (nl rfl) (nl rfl) (nl rfl) (nl rfl) (nl rfl) f145 z136 (fun h139 K139 T139 c139 => ?_)
        have E139 := Ext.kp1 (Ext.tr E136 E138) K139 e136
        refine Go.iload_n 195 at_194 rfl rfl ?_
        refine Go.aload 197 at_195 rfl rfl rfl ?_
        refine Go.aload 199 at_197 rfl rfl rfl ?_
        have f146 := D135 (Or.inl (W.1 55 rfl)) (ty := (.object "java/util/List")) (by decide)
        have f147 := D135 (Or.inl (W.1 58 rfl)) (ty := (.object "java/lang/String")) (by decide)
        have f148 := D135 (Or.inr (W.1 60 rfl)) (ty := (.object "java/lang/String")) (by decide)
        have f149 := D135 (Or.inr (W.1 62 rfl)) (ty := .int) (by decide)
        have f150 := D135 (Or.inr (W.1 64 rfl)) (ty := (.array (.object "java/lang/String"))) (by decide)
        have f151 := D135 (Or.inr (W.1 66 rfl)) (ty := (.array (.object "java/lang/String"))) (by decide)
        have f152 := o92.ext (Ext.tr E135 E139)
        have f153 := A92.ext (Ext.tr E135 E139)
        have f154 := t92nm0.ext (Ext.tr E135 E139)
        have f155 := A135.ext E139
        have f156 := f146.ext E139
        have f157 := f147.ext E139
        have f158 := f148.ext E139
        have f159 := f149.ext E139
        have f160 := f150.ext E139
        have f161 := f151.ext E139
        have f162 := CHr.safe (CHr.trans c136 (CHr.trans c137 (CHr.trans c138 c139))) A135.lt S135
        have L162 := Nat.lt_of_lt_of_le A135.lt (CHr.trans c136 (CHr.trans c137 (CHr.trans c138 c139))).2.1
        refine Go.invokespecial (rest := [.ref xe]) 1 xe [.ref es, .int line, .ref na, .ref va] 202 at_199 rfl rfl (W.1 44 rfl) (W.1 45 rfl) (W.1 43 rfl) (W.1 46 rfl) (by decide) (cXeInit W (by decide) Le f155 f156 f157 f158 f159 f160 f161 f162 z135) (by decide +kernel : parseMethodDescriptor "(Ljava/lang/String;I[Ljava/lang/String;[Ljava/lang/String;)V" = some ⟨[(.object "java/lang/String"), .int, (.array (.object "java/lang/String")), (.array (.object "java/lang/String"))], none⟩) rfl rfl rfl (nl rfl) (nl rfl) (nl rfl) (nl rfl) (nl rfl) (fun v163 vm163 h163 ⟨rv, K, X, GN, GV⟩ c163 => ?_)
        subst rv
        have AN' := f152.keep K (ninS (fun z => (Exa.neArv f155 f152 (W.1 42 rfl)) z.symm) nin0)
        have AV' := f153.keep K (ninS (fun z => (Exa.neArv f155 f153 (W.1 42 rfl)) z.symm) nin0)
        have T_nm0 := f154.keepE K f155 (by decide) (W.1 42 rfl)
        refine Go.astore #[.val (.int s_), .val (.int u_), .val (.int line), .val (.int (1 : Int32)), .val (.int (s_ &&& (15 : Int32))), .val (.int ((XT.ushr s_ (4 : Int32)) &&& (15 : Int32))), .val (.int ((XT.ushr s_ (8 : Int32)) &&& (15 : Int32))), .val (.int ((XT.ushr s_ (12 : Int32)) &&& (15 : Int32))), .val (.int (1 : Int32)), .val (.ref v0), .val (.ref v1), .val (.ref v2), .val (.ref na), .val (.ref va), .val (.null), .val (.ref xe), .unset, .unset, .unset] 204 at_202 rfl rfl rfl ?_
        refine Go.aload 206 at_204 rfl rfl rfl ?_
        refine Go.aload 208 at_206 rfl rfl rfl ?_
        refine Go.invokevirtual (rest := []) 0 xe [.null] 211 at_208 rfl X (W.1 67 rfl) (W.1 68 rfl) (fun s hs => notFace_of_selects (args := #[]) (mvT hs (W.1 70 rfl))) (W.1 70 rfl) (W.1 69 rfl) (W.1 43 rfl) (W.1 71 rfl) (by decide) (cGet1n W GN GV AN' AV' T_nm0) (by decide +kernel : parseMethodDescriptor "(Ljava/lang/String;)Ljava/lang/String;" = some ⟨[(.object "java/lang/String")], (some (.object "java/lang/String"))⟩) rfl rfl rfl (nl rfl) (nl rfl) (nl rfl) (nl rfl) (nl rfl) (fun v164 vm164 h164 ⟨rv, hh⟩ c164 => ?_)
        subst rv; replace hh := hh.symm; subst hh
        refine Go.astore #[.val (.int s_), .val (.int u_), .val (.int line), .val (.int (1 : Int32)), .val (.int (s_ &&& (15 : Int32))), .val (.int ((XT.ushr s_ (4 : Int32)) &&& (15 : Int32))), .val (.int ((XT.ushr s_ (8 : Int32)) &&& (15 : Int32))), .val (.int ((XT.ushr s_ (12 : Int32)) &&& (15 : Int32))), .val (.int (1 : Int32)), .val (.ref v0), .val (.ref v1), .val (.ref v2), .val (.ref na), .val (.ref va), .val (.null), .val (.ref xe), .val (.null), .unset, .unset] 213 at_211 rfl rfl rfl ?_
        refine Go.aconst_null 214 at_213 rfl ?_
        refine Go.astore #[.val (.int s_), .val (.int u_), .val (.int line), .val (.int (1 : Int32)), .val (.int (s_ &&& (15 : Int32))), .val (.int ((XT.ushr s_ (4 : Int32)) &&& (15 : Int32))), .val (.int ((XT.ushr s_ (8 : Int32)) &&& (15 : Int32))), .val (.int ((XT.ushr s_ (12 : Int32)) &&& (15 : Int32))), .val (.int (1 : Int32)), .val (.ref v0), .val (.ref v1), .val (.ref v2), .val (.ref na), .val (.ref va), .val (.null), .val (.ref xe), .val (.null), .val (.null), .unset] 216 at_214 rfl rfl rfl ?_
        refine Go.iload 218 at_216 rfl rfl ?_
        refine Go.ifne 284 221 at_218 (by decide) rfl rfl (fun q165 => ?_) (fun q165 => absurd q165 (by decide))
        refine Go.aload 286 at_284 rfl rfl rfl ?_
        refine Go.aload 288 at_286 rfl rfl rfl ?_
        refine Go.acmp_n 291 at_288 rfl rfl rfl (by simp [XT.acmp]) ?_
        refine Go.iconst (1) 292 at_291 rfl rfl ?_
        refine Go.goto 296 at_292 (by decide) rfl ?_
        exact Go.ireturn at_296 rfl rfl (by simp) (nl rfl) (nl rfl) (fun vm' ch => rfl)
    refine Go.if_icmpne 55 51 at_48 (by decide) rfl rfl (fun q166 => ?_) (fun q166 => ?_)
    · refine Go.iconst (0) 56 at_55 rfl rfl ?_
      exact J56 _ (Or.inl rfl)
    · refine Go.iconst (1) 52 at_51 rfl rfl ?_
      refine Go.goto 56 at_52 (by decide) rfl ?_
      exact J56 _ (Or.inr rfl)
  · refine Go.iand (2 : Int32) 6 at_5 rfl hc ?_
    refine Go.istore_n #[.val (.int s_), .val (.int u_), .val (.int line), .val (.int (2 : Int32)), .unset, .unset, .unset, .unset, .unset, .unset, .unset, .unset, .unset, .unset, .unset, .unset, .unset, .unset, .unset] 7 at_6 rfl rfl ?_
    refine Go.iload_n 8 at_7 rfl rfl ?_
    refine Go.bipush (15) 10 at_8 rfl rfl ?_
    refine Go.iand (s_ &&& (15 : Int32)) 11 at_10 rfl rfl ?_
    refine Go.istore #[.val (.int s_), .val (.int u_), .val (.int line), .val (.int (2 : Int32)), .val (.int (s_ &&& (15 : Int32))), .unset, .unset, .unset, .unset, .unset, .unset, .unset, .unset, .unset, .unset, .unset, .unset, .unset, .unset] 13 at_11 rfl rfl ?_
    refine Go.iload_n 14 at_13 rfl rfl ?_
    refine Go.iconst (4) 15 at_14 rfl rfl ?_
    refine Go.iushr (XT.ushr s_ (4 : Int32)) 16 at_15 rfl rfl ?_
    refine Go.bipush (15) 18 at_16 rfl rfl ?_
    refine Go.iand ((XT.ushr s_ (4 : Int32)) &&& (15 : Int32)) 19 at_18 rfl rfl ?_
    refine Go.istore #[.val (.int s_), .val (.int u_), .val (.int line), .val (.int (2 : Int32)), .val (.int (s_ &&& (15 : Int32))), .val (.int ((XT.ushr s_ (4 : Int32)) &&& (15 : Int32))), .unset, .unset, .unset, .unset, .unset, .unset, .unset, .unset, .unset, .unset, .unset, .unset, .unset] 21 at_19 rfl rfl ?_
    refine Go.iload_n 22 at_21 rfl rfl ?_
    refine Go.bipush (8) 24 at_22 rfl rfl ?_
    refine Go.iushr (XT.ushr s_ (8 : Int32)) 25 at_24 rfl rfl ?_
    refine Go.bipush (15) 27 at_25 rfl rfl ?_
    refine Go.iand ((XT.ushr s_ (8 : Int32)) &&& (15 : Int32)) 28 at_27 rfl rfl ?_
    refine Go.istore #[.val (.int s_), .val (.int u_), .val (.int line), .val (.int (2 : Int32)), .val (.int (s_ &&& (15 : Int32))), .val (.int ((XT.ushr s_ (4 : Int32)) &&& (15 : Int32))), .val (.int ((XT.ushr s_ (8 : Int32)) &&& (15 : Int32))), .unset, .unset, .unset, .unset, .unset, .unset, .unset, .unset, .unset, .unset, .unset, .unset] 30 at_28 rfl rfl ?_
    refine Go.iload_n 31 at_30 rfl rfl ?_
    refine Go.bipush (12) 33 at_31 rfl rfl ?_
    refine Go.iushr (XT.ushr s_ (12 : Int32)) 34 at_33 rfl rfl ?_
    refine Go.bipush (15) 36 at_34 rfl rfl ?_
    refine Go.iand ((XT.ushr s_ (12 : Int32)) &&& (15 : Int32)) 37 at_36 rfl rfl ?_
    refine Go.istore #[.val (.int s_), .val (.int u_), .val (.int line), .val (.int (2 : Int32)), .val (.int (s_ &&& (15 : Int32))), .val (.int ((XT.ushr s_ (4 : Int32)) &&& (15 : Int32))), .val (.int ((XT.ushr s_ (8 : Int32)) &&& (15 : Int32))), .val (.int ((XT.ushr s_ (12 : Int32)) &&& (15 : Int32))), .unset, .unset, .unset, .unset, .unset, .unset, .unset, .unset, .unset, .unset, .unset] 39 at_37 rfl rfl ?_
    refine Go.iload_n 40 at_39 rfl rfl ?_
    refine Go.bipush (18) 42 at_40 rfl rfl ?_
    refine Go.iushr (XT.ushr s_ (18 : Int32)) 43 at_42 rfl rfl ?_
    refine Go.bipush (7) 45 at_43 rfl rfl ?_
    refine Go.iand ((XT.ushr s_ (18 : Int32)) &&& (7 : Int32)) 46 at_45 rfl rfl ?_
    refine Go.bipush (7) 48 at_46 rfl rfl ?_
    have J56 : ∀ (r : Int32), (r = 0 ∨ r = 1) → Go false p l e room_1 s m #[.int s_, .int u_, .int line] below meth c code maxLocals "law" ret Z a0 consts_1 "com/example/tendril/tendril/xml/XmlElementGetAttributePinLaw" (fun v vm' h' => v = some (.int 1)) vmi h 0 0 56 #[.val (.int s_), .val (.int u_), .val (.int line), .val (.int (2 : Int32)), .val (.int (s_ &&& (15 : Int32))), .val (.int ((XT.ushr s_ (4 : Int32)) &&& (15 : Int32))), .val (.int ((XT.ushr s_ (8 : Int32)) &&& (15 : Int32))), .val (.int ((XT.ushr s_ (12 : Int32)) &&& (15 : Int32))), .unset, .unset, .unset, .unset, .unset, .unset, .unset, .unset, .unset, .unset, .unset] [.int r] := by
      intro r hr
      refine Go.istore #[.val (.int s_), .val (.int u_), .val (.int line), .val (.int (2 : Int32)), .val (.int (s_ &&& (15 : Int32))), .val (.int ((XT.ushr s_ (4 : Int32)) &&& (15 : Int32))), .val (.int ((XT.ushr s_ (8 : Int32)) &&& (15 : Int32))), .val (.int ((XT.ushr s_ (12 : Int32)) &&& (15 : Int32))), .val (.int r), .unset, .unset, .unset, .unset, .unset, .unset, .unset, .unset, .unset, .unset] 58 at_56 rfl rfl ?_
      refine Go.bipush (48) 60 at_58 rfl rfl ?_
      refine Go.iload_n 61 at_60 rfl rfl ?_
      refine Go.invokestatic (rest := []) 0 [.int (48 : Int32), .int u_] 64 at_61 rfl (W.1 0 rfl) (W.1 1 rfl) (W.1 2 rfl) (W.1 3 rfl) (by decide) (cValue W (t_ := 48) (x := u_) (by decide)) (by decide +kernel : parseMethodDescriptor "(CI)Ljava/lang/String;" = some ⟨[.char, .int], (some (.object "java/lang/String"))⟩) rfl rfl rfl (nl rfl) (nl rfl) (nl rfl) (nl rfl) (nl rfl) (fun v167 vm167 h167 ⟨v0, rv, E167, T167⟩ c167 => ?_)
      subst rv
      refine Go.astore #[.val (.int s_), .val (.int u_), .val (.int line), .val (.int (2 : Int32)), .val (.int (s_ &&& (15 : Int32))), .val (.int ((XT.ushr s_ (4 : Int32)) &&& (15 : Int32))), .val (.int ((XT.ushr s_ (8 : Int32)) &&& (15 : Int32))), .val (.int ((XT.ushr s_ (12 : Int32)) &&& (15 : Int32))), .val (.int r), .val (.ref v0), .unset, .unset, .unset, .unset, .unset, .unset, .unset, .unset, .unset] 66 at_64 rfl rfl rfl ?_
      refine Go.bipush (49) 68 at_66 rfl rfl ?_
      refine Go.iload_n 69 at_68 rfl rfl ?_
      refine Go.bipush (8) 71 at_69 rfl rfl ?_
      refine Go.iushr (XT.ushr u_ (8 : Int32)) 72 at_71 rfl rfl ?_
      refine Go.invokestatic (rest := []) 0 [.int (49 : Int32), .int (XT.ushr u_ (8 : Int32))] 75 at_72 rfl (W.1 0 rfl) (W.1 1 rfl) (W.1 2 rfl) (W.1 3 rfl) (by decide) (cValue W (t_ := 49) (x := (XT.ushr u_ (8 : Int32))) (by decide)) (by decide +kernel : parseMethodDescriptor "(CI)Ljava/lang/String;" = some ⟨[.char, .int], (some (.object "java/lang/String"))⟩) rfl rfl rfl (nl rfl) (nl rfl) (nl rfl) (nl rfl) (nl rfl) (fun v168 vm168 h168 ⟨v1, rv, E168, T168⟩ c168 => ?_)
      subst rv
      refine Go.astore #[.val (.int s_), .val (.int u_), .val (.int line), .val (.int (2 : Int32)), .val (.int (s_ &&& (15 : Int32))), .val (.int ((XT.ushr s_ (4 : Int32)) &&& (15 : Int32))), .val (.int ((XT.ushr s_ (8 : Int32)) &&& (15 : Int32))), .val (.int ((XT.ushr s_ (12 : Int32)) &&& (15 : Int32))), .val (.int r), .val (.ref v0), .val (.ref v1), .unset, .unset, .unset, .unset, .unset, .unset, .unset, .unset] 77 at_75 rfl rfl rfl ?_
      refine Go.bipush (50) 79 at_77 rfl rfl ?_
      refine Go.iload_n 80 at_79 rfl rfl ?_
      refine Go.bipush (16) 82 at_80 rfl rfl ?_
      refine Go.iushr (XT.ushr u_ (16 : Int32)) 83 at_82 rfl rfl ?_
      refine Go.invokestatic (rest := []) 0 [.int (50 : Int32), .int (XT.ushr u_ (16 : Int32))] 86 at_83 rfl (W.1 0 rfl) (W.1 1 rfl) (W.1 2 rfl) (W.1 3 rfl) (by decide) (cValue W (t_ := 50) (x := (XT.ushr u_ (16 : Int32))) (by decide)) (by decide +kernel : parseMethodDescriptor "(CI)Ljava/lang/String;" = some ⟨[.char, .int], (some (.object "java/lang/String"))⟩) rfl rfl rfl (nl rfl) (nl rfl) (nl rfl) (nl rfl) (nl rfl) (fun v169 vm169 h169 ⟨v2, rv, E169, T169⟩ c169 => ?_)
      subst rv
      refine Go.astore #[.val (.int s_), .val (.int u_), .val (.int line), .val (.int (2 : Int32)), .val (.int (s_ &&& (15 : Int32))), .val (.int ((XT.ushr s_ (4 : Int32)) &&& (15 : Int32))), .val (.int ((XT.ushr s_ (8 : Int32)) &&& (15 : Int32))), .val (.int ((XT.ushr s_ (12 : Int32)) &&& (15 : Int32))), .val (.int r), .val (.ref v0), .val (.ref v1), .val (.ref v2), .unset, .unset, .unset, .unset, .unset, .unset, .unset] 88 at_86 rfl rfl rfl ?_
      refine Go.iload_n 89 at_88 rfl rfl ?_
      refine Go.anewarray 2 92 at_89 rfl (W.1 4 rfl) (W.1 34 rfl) (by decide) (by decide) (by decide) (nl rfl) (nl rfl) (fun na h170 e170 E170 ⟨k170, B170, O170⟩ S170 z170 c170 => ?_)
      have A170 : Arv Z h170 na k170 (.object "java/lang/String") (2 : Int32) [.null, .null] .null := B170.pad (pad_rep [] .null 2)
      refine Go.astore #[.val (.int s_), .val (.int u_), .val (.int line), .val (.int (2 : Int32)), .val (.int (s_ &&& (15 : Int32))), .val (.int ((XT.ushr s_ (4 : Int32)) &&& (15 : Int32))), .val (.int ((XT.ushr s_ (8 : Int32)) &&& (15 : Int32))), .val (.int ((XT.ushr s_ (12 : Int32)) &&& (15 : Int32))), .val (.int r), .val (.ref v0), .val (.ref v1), .val (.ref v2), .val (.ref na), .unset, .unset, .unset, .unset, .unset, .unset] 94 at_92 rfl rfl rfl ?_
      refine Go.iload_n 95 at_94 rfl rfl ?_
      refine Go.anewarray 2 98 at_95 rfl (W.1 4 rfl) (W.1 34 rfl) (by decide) (by decide) (by decide) (nl rfl) (nl rfl) (fun va h171 e171 E171 ⟨k171, B171, O171⟩ S171 z171 c171 => ?_)
      have A171 : Arv Z h171 va k171 (.object "java/lang/String") (2 : Int32) [.null, .null] .null := B171.pad (pad_rep [] .null 2)
      have nv : na ≠ va := ne_of_new A170.lt (Nat.le_of_eq e171.symm)
      have ln_ := Nat.le_of_eq e170.symm
      have lv_ : h169.size ≤ va := Nat.le_trans E170.1 (Nat.le_of_eq e171.symm)
      refine Go.astore #[.val (.int s_), .val (.int u_), .val (.int line), .val (.int (2 : Int32)), .val (.int (s_ &&& (15 : Int32))), .val (.int ((XT.ushr s_ (4 : Int32)) &&& (15 : Int32))), .val (.int ((XT.ushr s_ (8 : Int32)) &&& (15 : Int32))), .val (.int ((XT.ushr s_ (12 : Int32)) &&& (15 : Int32))), .val (.int r), .val (.ref v0), .val (.ref v1), .val (.ref v2), .val (.ref na), .val (.ref va), .unset, .unset, .unset, .unset, .unset] 100 at_98 rfl rfl rfl ?_
      refine Go.iload_n 101 at_100 rfl rfl ?_
      refine Go.ifle 119 104 at_101 (by decide) rfl rfl (fun q172 => absurd (by decide) q172) (fun q172 => ?_)
      refine Go.aload 106 at_104 rfl rfl rfl ?_
      refine Go.iconst (0) 107 at_106 rfl rfl ?_
      refine Go.iload 109 at_107 rfl rfl ?_
      refine Go.invokestatic (rest := [.int (0 : Int32), .ref na]) 2 [.int (s_ &&& (15 : Int32))] 112 at_109 rfl (W.1 35 rfl) (W.1 36 rfl) (W.1 2 rfl) (W.1 37 rfl) (by decide) (cName W (x := (s_ &&& (15 : Int32))) (by decide)) (by decide +kernel : parseMethodDescriptor "(I)Ljava/lang/String;" = some ⟨[.int], (some (.object "java/lang/String"))⟩) rfl rfl rfl (nl rfl) (nl rfl) (nl rfl) (nl rfl) (nl rfl) (fun v173 vm173 h173 ⟨nm0, rv, E173, T173⟩ c173 => ?_)
      subst rv
      have f174 := A170.ext (Ext.tr E171 E173)
      have f175 := CHr.safe (CHr.trans c171 c173) A170.lt S170
      have L175 := Nat.lt_of_lt_of_le A170.lt (CHr.trans c171 c173).2.1
      have f176 := A171.ext E173
      have f177 := CHr.safe c173 A171.lt S171
      have L177 := Nat.lt_of_lt_of_le A171.lt c173.2.1
      refine Go.aastore 0 [.ref nm0, .null] 113 at_112 rfl f174 O170 (Ins.self T173.exa) (by decide) rfl (nl rfl) rfl f175 z170 (fun h178 K178 A178 S178 c178 => ?_)
      have E178 := Ext.kq1 (Ext.tr E170 (Ext.tr E171 E173)) K178 ln_
      have o178 := f176.keep K178 (ninS nv.symm nin0)
      have t178nm0 := T173.keepA K178 f174 (by decide) (W.1 5 rfl)
      refine Go.aload 115 at_113 rfl rfl rfl ?_
      refine Go.iconst (0) 116 at_115 rfl rfl ?_
      refine Go.aload 118 at_116 rfl rfl rfl ?_
      have f179 := CHr.safe c178 L177 f177
      have L179 := Nat.lt_of_lt_of_le L177 c178.2.1
      have f180 := T167.ext (Ext.tr E168 (Ext.tr E169 E178))
      refine Go.aastore 0 [.ref v0, .null] 119 at_118 rfl o178 O171 (Ins.self f180.exa) (by decide) rfl (nl rfl) rfl f179 z171 (fun h181 K181 A181 S181 c181 => ?_)
      have E181 := Ext.kq1 E178 K181 lv_
      have o181 := A178.keep K181 (ninS nv nin0)
      have t181nm0 := t178nm0.keepA K181 o178 (by decide) (W.1 5 rfl)
      refine Go.iload_n 120 at_119 rfl rfl ?_
      refine Go.iconst (1) 121 at_120 rfl rfl ?_
      refine Go.if_icmple 139 124 at_121 (by decide) rfl rfl (fun q182 => absurd (by decide) q182) (fun q182 => ?_)
      refine Go.aload 126 at_124 rfl rfl rfl ?_
      refine Go.iconst (1) 127 at_126 rfl rfl ?_
      refine Go.iload 129 at_127 rfl rfl ?_
      refine Go.invokestatic (rest := [.int (1 : Int32), .ref na]) 2 [.int ((XT.ushr s_ (4 : Int32)) &&& (15 : Int32))] 132 at_129 rfl (W.1 35 rfl) (W.1 36 rfl) (W.1 2 rfl) (W.1 37 rfl) (by decide) (cName W (x := ((XT.ushr s_ (4 : Int32)) &&& (15 : Int32))) (by decide)) (by decide +kernel : parseMethodDescriptor "(I)Ljava/lang/String;" = some ⟨[.int], (some (.object "java/lang/String"))⟩) rfl rfl rfl (nl rfl) (nl rfl) (nl rfl) (nl rfl) (nl rfl) (fun v183 vm183 h183 ⟨nm1, rv, E183, T183⟩ c183 => ?_)
      subst rv
      have f184 := o181.ext E183
      have f185 := CHr.safe (CHr.trans c181 c183) A178.lt S178
      have L185 := Nat.lt_of_lt_of_le A178.lt (CHr.trans c181 c183).2.1
      have f186 := A181.ext E183
      have f187 := t181nm0.ext E183
      have f188 := CHr.safe c183 A181.lt S181
      have L188 := Nat.lt_of_lt_of_le A181.lt c183.2.1
      refine Go.aastore 1 [.ref nm0, .ref nm1] 133 at_132 rfl f184 O170 (Ins.self T183.exa) (by decide) rfl (nl rfl) rfl f185 z170 (fun h189 K189 A189 S189 c189 => ?_)
      have E189 := Ext.kq1 (Ext.tr E181 E183) K189 ln_
      have o189 := f186.keep K189 (ninS nv.symm nin0)
      have t189nm0 := f187.keepA K189 f184 (by decide) (W.1 5 rfl)
      have t189nm1 := T183.keepA K189 f184 (by decide) (W.1 5 rfl)
      refine Go.aload 135 at_133 rfl rfl rfl ?_
      refine Go.iconst (1) 136 at_135 rfl rfl ?_
      refine Go.aload 138 at_136 rfl rfl rfl ?_
      have f190 := CHr.safe c189 L188 f188
      have L190 := Nat.lt_of_lt_of_le L188 c189.2.1
      have f191 := T168.ext (Ext.tr E169 E189)
      refine Go.aastore 1 [.ref v0, .ref v1] 139 at_138 rfl o189 O171 (Ins.self f191.exa) (by decide) rfl (nl rfl) rfl f190 z171 (fun h192 K192 A192 S192 c192 => ?_)
      have E192 := Ext.kq1 E189 K192 lv_
      have o192 := A189.keep K192 (ninS nv nin0)
      have t192nm0 := t189nm0.keepA K192 o189 (by decide) (W.1 5 rfl)
      have t192nm1 := t189nm1.keepA K192 o189 (by decide) (W.1 5 rfl)
      refine Go.iload_n 140 at_139 rfl rfl ?_
      refine Go.iconst (2) 141 at_140 rfl rfl ?_
      refine Go.if_icmple 159 144 at_141 (by decide) rfl rfl (fun q193 => ?_) (fun q193 => absurd q193 (by decide))
      refine Go.iload 161 at_159 rfl rfl ?_
      rcases hr with rfl | rfl
      · refine Go.ifeq 168 164 at_161 (by decide) rfl rfl (fun q194 => ?_) (fun q194 => absurd rfl q194)
        refine Go.iload 170 at_168 rfl rfl ?_
        refine Go.invokestatic (rest := []) 0 [.int ((XT.ushr s_ (12 : Int32)) &&& (15 : Int32))] 173 at_170 rfl (W.1 35 rfl) (W.1 36 rfl) (W.1 2 rfl) (W.1 37 rfl) (by decide) (cName W (x := ((XT.ushr s_ (12 : Int32)) &&& (15 : Int32))) (by decide)) (by decide +kernel : parseMethodDescriptor "(I)Ljava/lang/String;" = some ⟨[.int], (some (.object "java/lang/String"))⟩) rfl rfl rfl (nl rfl) (nl rfl) (nl rfl) (nl rfl) (nl rfl) (fun v195 vm195 h195 ⟨qq, rv, E195, T195⟩ c195 => ?_)
        subst rv
        refine Go.astore #[.val (.int s_), .val (.int u_), .val (.int line), .val (.int (2 : Int32)), .val (.int (s_ &&& (15 : Int32))), .val (.int ((XT.ushr s_ (4 : Int32)) &&& (15 : Int32))), .val (.int ((XT.ushr s_ (8 : Int32)) &&& (15 : Int32))), .val (.int ((XT.ushr s_ (12 : Int32)) &&& (15 : Int32))), .val (.int (0 : Int32)), .val (.ref v0), .val (.ref v1), .val (.ref v2), .val (.ref na), .val (.ref va), .val (.ref qq), .unset, .unset, .unset, .unset] 175 at_173 rfl rfl rfl ?_
        refine Go.new 178 at_175 rfl (W.1 41 rfl) (W.1 42 rfl) (W.1 43 rfl) (nl rfl) (nl rfl) (fun xe h196 e196 E196 ⟨A196, D196⟩ S196 z196 c196 => ?_)
        refine Go.dup 179 at_178 rfl rfl ?_
        refine Go.new 182 at_179 rfl (W.1 4 rfl) (W.1 5 rfl) (W.1 6 rfl) (nl rfl) (nl rfl) (fun es h197 e197 E197 ⟨A197, D197⟩ S197 z197 c197 => ?_)
        refine Go.dup 183 at_182 rfl rfl ?_
        refine Go.iconst (1) 184 at_183 rfl rfl ?_
        refine Go.newarray 1 186 at_184 rfl (W.1 7 rfl) (by decide) (by decide) (by decide) (nl rfl) (nl rfl) (fun eb h198 e198 E198 ⟨k198, B198⟩ S198 z198 c198 => ?_)
        have A198 : Arv Z h198 eb k198 .char (1 : Int32) [.int 0] (.int 0) := B198.pad (pad_rep [] (.int 0) 1)
        refine Go.dup 187 at_186 rfl rfl ?_
        refine Go.iconst (0) 188 at_187 rfl rfl ?_
        refine Go.bipush (101) 190 at_188 rfl rfl ?_
        refine Go.castore 0 (101 : Int32) [.int (101 : Int32)] 191 at_190 rfl A198 (by decide) rfl (nl rfl) rfl rfl S198 z198 (fun h199 K199 A199 S199 c199 => ?_)
        have E199 := Ext.kp1 E198 K199 e198
        have f201 := D197 (Or.inr (W.1 33 rfl)) (ty := (.array .byte)) (by decide)
        have f202 := D197 (Or.inr (W.1 31 rfl)) (ty := .byte) (by decide)
        have f203 := A197.ext E199
        have f204 := f201.ext E199
        have f205 := f202.ext E199
        have f206 := CHr.safe (CHr.trans c198 c199) A197.lt S197
        have L206 := Nat.lt_of_lt_of_le A197.lt (CHr.trans c198 c199).2.1
        refine goStrNew W 3 [(101 : Int32)] 194 at_191 rfl (W.1 8 rfl) f203 f204 f205 A199 rfl (nl rfl) (nl rfl) (by decide) rfl rfl (nl rfl) (nl rfl) (nl rfl) (nl rfl) (nl rfl) f206 z197 (fun h200 K200 T200 c200 => ?_)
        have E200 := Ext.kp1 (Ext.tr E197 E199) K200 e197
        refine Go.iload_n 195 at_194 rfl rfl ?_
        refine Go.aload 197 at_195 rfl rfl rfl ?_
        refine Go.aload 199 at_197 rfl rfl rfl ?_
        have f207 := D196 (Or.inl (W.1 55 rfl)) (ty := (.object "java/util/List")) (by decide)
        have f208 := D196 (Or.inl (W.1 58 rfl)) (ty := (.object "java/lang/String")) (by decide)
        have f209 := D196 (Or.inr (W.1 60 rfl)) (ty := (.object "java/lang/String")) (by decide)
        have f210 := D196 (Or.inr (W.1 62 rfl)) (ty := .int) (by decide)
        have f211 := D196 (Or.inr (W.1 64 rfl)) (ty := (.array (.object "java/lang/String"))) (by decide)
        have f212 := D196 (Or.inr (W.1 66 rfl)) (ty := (.array (.object "java/lang/String"))) (by decide)
        have f213 := o192.ext (Ext.tr E195 (Ext.tr E196 E200))
        have f214 := A192.ext (Ext.tr E195 (Ext.tr E196 E200))
        have f215 := t192nm0.ext (Ext.tr E195 (Ext.tr E196 E200))
        have f216 := t192nm1.ext (Ext.tr E195 (Ext.tr E196 E200))
        have f217 := T195.ext (Ext.tr E196 E200)
        have f218 := A196.ext E200
        have f219 := f207.ext E200
        have f220 := f208.ext E200
        have f221 := f209.ext E200
        have f222 := f210.ext E200
        have f223 := f211.ext E200
        have f224 := f212.ext E200
        have f225 := CHr.safe (CHr.trans c197 (CHr.trans c198 (CHr.trans c199 c200))) A196.lt S196
        have L225 := Nat.lt_of_lt_of_le A196.lt (CHr.trans c197 (CHr.trans c198 (CHr.trans c199 c200))).2.1
        refine Go.invokespecial (rest := [.ref xe]) 1 xe [.ref es, .int line, .ref na, .ref va] 202 at_199 rfl rfl (W.1 44 rfl) (W.1 45 rfl) (W.1 43 rfl) (W.1 46 rfl) (by decide) (cXeInit W (by decide) Le f218 f219 f220 f221 f222 f223 f224 f225 z196) (by decide +kernel : parseMethodDescriptor "(Ljava/lang/String;I[Ljava/lang/String;[Ljava/lang/String;)V" = some ⟨[(.object "java/lang/String"), .int, (.array (.object "java/lang/String")), (.array (.object "java/lang/String"))], none⟩) rfl rfl rfl (nl rfl) (nl rfl) (nl rfl) (nl rfl) (nl rfl) (fun v226 vm226 h226 ⟨rv, K, X, GN, GV⟩ c226 => ?_)
        subst rv
        have AN' := f213.keep K (ninS (fun z => (Exa.neArv f218 f213 (W.1 42 rfl)) z.symm) nin0)
        have AV' := f214.keep K (ninS (fun z => (Exa.neArv f218 f214 (W.1 42 rfl)) z.symm) nin0)
        have T_nm0 := f215.keepE K f218 (by decide) (W.1 42 rfl)
        have T_nm1 := f216.keepE K f218 (by decide) (W.1 42 rfl)
        have T_qq := f217.keepE K f218 (by decide) (W.1 42 rfl)
        refine Go.astore #[.val (.int s_), .val (.int u_), .val (.int line), .val (.int (2 : Int32)), .val (.int (s_ &&& (15 : Int32))), .val (.int ((XT.ushr s_ (4 : Int32)) &&& (15 : Int32))), .val (.int ((XT.ushr s_ (8 : Int32)) &&& (15 : Int32))), .val (.int ((XT.ushr s_ (12 : Int32)) &&& (15 : Int32))), .val (.int (0 : Int32)), .val (.ref v0), .val (.ref v1), .val (.ref v2), .val (.ref na), .val (.ref va), .val (.ref qq), .val (.ref xe), .unset, .unset, .unset] 204 at_202 rfl rfl rfl ?_
        refine Go.aload 206 at_204 rfl rfl rfl ?_
        refine Go.aload 208 at_206 rfl rfl rfl ?_
        refine Go.invokevirtual (rest := []) 0 xe [.ref qq] 211 at_208 rfl X (W.1 67 rfl) (W.1 68 rfl) (fun s hs => notFace_of_selects (args := #[]) (mvT hs (W.1 70 rfl))) (W.1 70 rfl) (W.1 69 rfl) (W.1 43 rfl) (W.1 71 rfl) (by decide) (cGet2s W GN GV AN' AV' T_nm0 T_nm1 T_qq) (by decide +kernel : parseMethodDescriptor "(Ljava/lang/String;)Ljava/lang/String;" = some ⟨[(.object "java/lang/String")], (some (.object "java/lang/String"))⟩) rfl rfl rfl (nl rfl) (nl rfl) (nl rfl) (nl rfl) (nl rfl) (fun v227 vm227 h227 ⟨rv, hh⟩ c227 => ?_)
        subst rv; replace hh := hh.symm; subst hh
        have hg : Value.isRef (if nameV (s_ &&& (15 : Int32)) = nameV ((XT.ushr s_ (12 : Int32)) &&& (15 : Int32)) then Value.ref v0 else (if nameV ((XT.ushr s_ (4 : Int32)) &&& (15 : Int32)) = nameV ((XT.ushr s_ (12 : Int32)) &&& (15 : Int32)) then Value.ref v1 else Value.null)) = true := by split; rfl; split; rfl; rfl
        obtain ⟨gv, eg⟩ : ∃ g, g = (if nameV (s_ &&& (15 : Int32)) = nameV ((XT.ushr s_ (12 : Int32)) &&& (15 : Int32)) then Value.ref v0 else (if nameV ((XT.ushr s_ (4 : Int32)) &&& (15 : Int32)) = nameV ((XT.ushr s_ (12 : Int32)) &&& (15 : Int32)) then Value.ref v1 else Value.null)) := ⟨_, rfl⟩
        rw [← eg] at hg ⊢
        refine Go.astore #[.val (.int s_), .val (.int u_), .val (.int line), .val (.int (2 : Int32)), .val (.int (s_ &&& (15 : Int32))), .val (.int ((XT.ushr s_ (4 : Int32)) &&& (15 : Int32))), .val (.int ((XT.ushr s_ (8 : Int32)) &&& (15 : Int32))), .val (.int ((XT.ushr s_ (12 : Int32)) &&& (15 : Int32))), .val (.int (0 : Int32)), .val (.ref v0), .val (.ref v1), .val (.ref v2), .val (.ref na), .val (.ref va), .val (.ref qq), .val (.ref xe), .val gv, .unset, .unset] 213 at_211 rfl hg (XS.store1 rfl One.u (refCat hg)) ?_
        refine Go.aconst_null 214 at_213 rfl ?_
        refine Go.astore #[.val (.int s_), .val (.int u_), .val (.int line), .val (.int (2 : Int32)), .val (.int (s_ &&& (15 : Int32))), .val (.int ((XT.ushr s_ (4 : Int32)) &&& (15 : Int32))), .val (.int ((XT.ushr s_ (8 : Int32)) &&& (15 : Int32))), .val (.int ((XT.ushr s_ (12 : Int32)) &&& (15 : Int32))), .val (.int (0 : Int32)), .val (.ref v0), .val (.ref v1), .val (.ref v2), .val (.ref na), .val (.ref va), .val (.ref qq), .val (.ref xe), .val gv, .val (.null), .unset] 216 at_214 rfl rfl rfl ?_
        refine Go.iload 218 at_216 rfl rfl ?_
        refine Go.ifne 284 221 at_218 (by decide) rfl rfl (fun q228 => absurd rfl q228) (fun q228 => ?_)
        refine Go.iload 223 at_221 rfl rfl ?_
        refine Go.invokestatic (rest := []) 0 [.int ((XT.ushr s_ (12 : Int32)) &&& (15 : Int32))] 226 at_223 rfl (W.1 72 rfl) (W.1 73 rfl) (W.1 2 rfl) (W.1 74 rfl) (by decide) (cKey W ) (by decide +kernel : parseMethodDescriptor "(I)I" = some ⟨[.int], (some .int)⟩) rfl rfl rfl (nl rfl) (nl rfl) (nl rfl) (nl rfl) (nl rfl) (fun v229 vm229 h229 ⟨rv, hh⟩ c229 => ?_)
        subst rv; replace hh := hh.symm; subst hh
        refine Go.istore #[.val (.int s_), .val (.int u_), .val (.int line), .val (.int (2 : Int32)), .val (.int (s_ &&& (15 : Int32))), .val (.int ((XT.ushr s_ (4 : Int32)) &&& (15 : Int32))), .val (.int ((XT.ushr s_ (8 : Int32)) &&& (15 : Int32))), .val (.int ((XT.ushr s_ (12 : Int32)) &&& (15 : Int32))), .val (.int (0 : Int32)), .val (.ref v0), .val (.ref v1), .val (.ref v2), .val (.ref na), .val (.ref va), .val (.ref qq), .val (.ref xe), .val gv, .val (.null), .val (.int (keyV ((XT.ushr s_ (12 : Int32)) &&& (15 : Int32))))] 228 at_226 rfl rfl ?_
        refine Go.iload_n 229 at_228 rfl rfl ?_
        refine Go.iconst (2) 230 at_229 rfl rfl ?_
        refine Go.if_icmple 247 233 at_230 (by decide) rfl rfl (fun q230 => ?_) (fun q230 => absurd q230 (by decide))
        refine Go.iload_n 248 at_247 rfl rfl ?_
        refine Go.iconst (1) 249 at_248 rfl rfl ?_
        refine Go.if_icmple 266 252 at_249 (by decide) rfl rfl (fun q231 => absurd (by decide) q231) (fun q231 => ?_)
        refine Go.iload 254 at_252 rfl rfl ?_
        refine Go.invokestatic (rest := []) 0 [.int ((XT.ushr s_ (4 : Int32)) &&& (15 : Int32))] 257 at_254 rfl (W.1 72 rfl) (W.1 73 rfl) (W.1 2 rfl) (W.1 74 rfl) (by decide) (cKey W ) (by decide +kernel : parseMethodDescriptor "(I)I" = some ⟨[.int], (some .int)⟩) rfl rfl rfl (nl rfl) (nl rfl) (nl rfl) (nl rfl) (nl rfl) (fun v232 vm232 h232 ⟨rv, hh⟩ c232 => ?_)
        subst rv; replace hh := hh.symm; subst hh
        refine Go.iload 259 at_257 rfl rfl ?_
        refine Go.if_icmpne 266 262 at_259 (by decide) rfl rfl (fun u1 => ?_) (fun u1 => ?_)
        · refine Go.iload_n 267 at_266 rfl rfl ?_
          refine Go.ifle 284 270 at_267 (by decide) rfl rfl (fun q233 => absurd (by decide) q233) (fun q233 => ?_)
          refine Go.iload 272 at_270 rfl rfl ?_
          refine Go.invokestatic (rest := []) 0 [.int (s_ &&& (15 : Int32))] 275 at_272 rfl (W.1 72 rfl) (W.1 73 rfl) (W.1 2 rfl) (W.1 74 rfl) (by decide) (cKey W ) (by decide +kernel : parseMethodDescriptor "(I)I" = some ⟨[.int], (some .int)⟩) rfl rfl rfl (nl rfl) (nl rfl) (nl rfl) (nl rfl) (nl rfl) (fun v234 vm234 h234 ⟨rv, hh⟩ c234 => ?_)
          subst rv; replace hh := hh.symm; subst hh
          refine Go.iload 277 at_275 rfl rfl ?_
          refine Go.if_icmpne 284 280 at_277 (by decide) rfl rfl (fun u0 => ?_) (fun u0 => ?_)
          · have eg2 : gv = .null := eg.trans (by rw [if_neg (fun z => u0 ((nk s_ (XT.ushr s_ (12 : Int32))).mp z)), if_neg (fun z => u1 ((nk (XT.ushr s_ (4 : Int32)) (XT.ushr s_ (12 : Int32))).mp z))])
            subst eg2
            refine Go.aload 286 at_284 rfl rfl rfl ?_
            refine Go.aload 288 at_286 rfl rfl rfl ?_
            refine Go.acmp_n 291 at_288 rfl rfl rfl (by simp [XT.acmp]) ?_
            refine Go.iconst (1) 292 at_291 rfl rfl ?_
            refine Go.goto 296 at_292 (by decide) rfl ?_
            exact Go.ireturn at_296 rfl rfl (by simp) (nl rfl) (nl rfl) (fun vm' ch => rfl)
          · refine Go.aload 282 at_280 rfl rfl rfl ?_
            refine Go.astore #[.val (.int s_), .val (.int u_), .val (.int line), .val (.int (2 : Int32)), .val (.int (s_ &&& (15 : Int32))), .val (.int ((XT.ushr s_ (4 : Int32)) &&& (15 : Int32))), .val (.int ((XT.ushr s_ (8 : Int32)) &&& (15 : Int32))), .val (.int ((XT.ushr s_ (12 : Int32)) &&& (15 : Int32))), .val (.int (0 : Int32)), .val (.ref v0), .val (.ref v1), .val (.ref v2), .val (.ref na), .val (.ref va), .val (.ref qq), .val (.ref xe), .val gv, .val (.ref v0), .val (.int (keyV ((XT.ushr s_ (12 : Int32)) &&& (15 : Int32))))] 284 at_282 rfl rfl rfl ?_
            have eg2 : gv = .ref v0 := eg.trans (by rw [if_pos ((nk s_ (XT.ushr s_ (12 : Int32))).mpr u0)])
            subst eg2
            refine Go.aload 286 at_284 rfl rfl rfl ?_
            refine Go.aload 288 at_286 rfl rfl rfl ?_
            refine Go.acmp_n 291 at_288 rfl rfl rfl (by simp [XT.acmp]) ?_
            refine Go.iconst (1) 292 at_291 rfl rfl ?_
            refine Go.goto 296 at_292 (by decide) rfl ?_
            exact Go.ireturn at_296 rfl rfl (by simp) (nl rfl) (nl rfl) (fun vm' ch => rfl)
        · refine Go.aload 264 at_262 rfl rfl rfl ?_
          refine Go.astore #[.val (.int s_), .val (.int u_), .val (.int line), .val (.int (2 : Int32)), .val (.int (s_ &&& (15 : Int32))), .val (.int ((XT.ushr s_ (4 : Int32)) &&& (15 : Int32))), .val (.int ((XT.ushr s_ (8 : Int32)) &&& (15 : Int32))), .val (.int ((XT.ushr s_ (12 : Int32)) &&& (15 : Int32))), .val (.int (0 : Int32)), .val (.ref v0), .val (.ref v1), .val (.ref v2), .val (.ref na), .val (.ref va), .val (.ref qq), .val (.ref xe), .val gv, .val (.ref v1), .val (.int (keyV ((XT.ushr s_ (12 : Int32)) &&& (15 : Int32))))] 266 at_264 rfl rfl rfl ?_
          refine Go.iload_n 267 at_266 rfl rfl ?_
          refine Go.ifle 284 270 at_267 (by decide) rfl rfl (fun q235 => absurd (by decide) q235) (fun q235 => ?_)
          refine Go.iload 272 at_270 rfl rfl ?_
          refine Go.invokestatic (rest := []) 0 [.int (s_ &&& (15 : Int32))] 275 at_272 rfl (W.1 72 rfl) (W.1 73 rfl) (W.1 2 rfl) (W.1 74 rfl) (by decide) (cKey W ) (by decide +kernel : parseMethodDescriptor "(I)I" = some ⟨[.int], (some .int)⟩) rfl rfl rfl (nl rfl) (nl rfl) (nl rfl) (nl rfl) (nl rfl) (fun v236 vm236 h236 ⟨rv, hh⟩ c236 => ?_)
          subst rv; replace hh := hh.symm; subst hh
          refine Go.iload 277 at_275 rfl rfl ?_
          refine Go.if_icmpne 284 280 at_277 (by decide) rfl rfl (fun u0 => ?_) (fun u0 => ?_)
          · have eg2 : gv = .ref v1 := eg.trans (by rw [if_neg (fun z => u0 ((nk s_ (XT.ushr s_ (12 : Int32))).mp z)), if_pos ((nk (XT.ushr s_ (4 : Int32)) (XT.ushr s_ (12 : Int32))).mpr u1)])
            subst eg2
            refine Go.aload 286 at_284 rfl rfl rfl ?_
            refine Go.aload 288 at_286 rfl rfl rfl ?_
            refine Go.acmp_n 291 at_288 rfl rfl rfl (by simp [XT.acmp]) ?_
            refine Go.iconst (1) 292 at_291 rfl rfl ?_
            refine Go.goto 296 at_292 (by decide) rfl ?_
            exact Go.ireturn at_296 rfl rfl (by simp) (nl rfl) (nl rfl) (fun vm' ch => rfl)
          · refine Go.aload 282 at_280 rfl rfl rfl ?_
            refine Go.astore #[.val (.int s_), .val (.int u_), .val (.int line), .val (.int (2 : Int32)), .val (.int (s_ &&& (15 : Int32))), .val (.int ((XT.ushr s_ (4 : Int32)) &&& (15 : Int32))), .val (.int ((XT.ushr s_ (8 : Int32)) &&& (15 : Int32))), .val (.int ((XT.ushr s_ (12 : Int32)) &&& (15 : Int32))), .val (.int (0 : Int32)), .val (.ref v0), .val (.ref v1), .val (.ref v2), .val (.ref na), .val (.ref va), .val (.ref qq), .val (.ref xe), .val gv, .val (.ref v0), .val (.int (keyV ((XT.ushr s_ (12 : Int32)) &&& (15 : Int32))))] 284 at_282 rfl rfl rfl ?_
            have eg2 : gv = .ref v0 := eg.trans (by rw [if_pos ((nk s_ (XT.ushr s_ (12 : Int32))).mpr u0)])
            subst eg2
            refine Go.aload 286 at_284 rfl rfl rfl ?_
            refine Go.aload 288 at_286 rfl rfl rfl ?_
            refine Go.acmp_n 291 at_288 rfl rfl rfl (by simp [XT.acmp]) ?_
            refine Go.iconst (1) 292 at_291 rfl rfl ?_
            refine Go.goto 296 at_292 (by decide) rfl ?_
            exact Go.ireturn at_296 rfl rfl (by simp) (nl rfl) (nl rfl) (fun vm' ch => rfl)
      · refine Go.ifeq 168 164 at_161 (by decide) rfl rfl (fun q237 => absurd q237 (by decide)) (fun q237 => ?_)
        refine Go.aconst_null 165 at_164 rfl ?_
        refine Go.goto 173 at_165 (by decide) rfl ?_
        refine Go.astore #[.val (.int s_), .val (.int u_), .val (.int line), .val (.int (2 : Int32)), .val (.int (s_ &&& (15 : Int32))), .val (.int ((XT.ushr s_ (4 : Int32)) &&& (15 : Int32))), .val (.int ((XT.ushr s_ (8 : Int32)) &&& (15 : Int32))), .val (.int ((XT.ushr s_ (12 : Int32)) &&& (15 : Int32))), .val (.int (1 : Int32)), .val (.ref v0), .val (.ref v1), .val (.ref v2), .val (.ref na), .val (.ref va), .val (.null), .unset, .unset, .unset, .unset] 175 at_173 rfl rfl rfl ?_
        refine Go.new 178 at_175 rfl (W.1 41 rfl) (W.1 42 rfl) (W.1 43 rfl) (nl rfl) (nl rfl) (fun xe h238 e238 E238 ⟨A238, D238⟩ S238 z238 c238 => ?_)
        refine Go.dup 179 at_178 rfl rfl ?_
        refine Go.new 182 at_179 rfl (W.1 4 rfl) (W.1 5 rfl) (W.1 6 rfl) (nl rfl) (nl rfl) (fun es h239 e239 E239 ⟨A239, D239⟩ S239 z239 c239 => ?_)
        refine Go.dup 183 at_182 rfl rfl ?_
        refine Go.iconst (1) 184 at_183 rfl rfl ?_
        refine Go.newarray 1 186 at_184 rfl (W.1 7 rfl) (by decide) (by decide) (by decide) (nl rfl) (nl rfl) (fun eb h240 e240 E240 ⟨k240, B240⟩ S240 z240 c240 => ?_)
        have A240 : Arv Z h240 eb k240 .char (1 : Int32) [.int 0] (.int 0) := B240.pad (pad_rep [] (.int 0) 1)
        refine Go.dup 187 at_186 rfl rfl ?_
        refine Go.iconst (0) 188 at_187 rfl rfl ?_
        refine Go.bipush (101) 190 at_188 rfl rfl ?_
        refine Go.castore 0 (101 : Int32) [.int (101 : Int32)] 191 at_190 rfl A240 (by decide) rfl (nl rfl) rfl rfl S240 z240 (fun h241 K241 A241 S241 c241 => ?_)
        have E241 := Ext.kp1 E240 K241 e240
        have f243 := D239 (Or.inr (W.1 33 rfl)) (ty := (.array .byte)) (by decide)
        have f244 := D239 (Or.inr (W.1 31 rfl)) (ty := .byte) (by decide)
        have f245 := A239.ext E241
        have f246 := f243.ext E241
        have f247 := f244.ext E241
        have f248 := CHr.safe (CHr.trans c240 c241) A239.lt S239
        have L248 := Nat.lt_of_lt_of_le A239.lt (CHr.trans c240 c241).2.1
        refine goStrNew W 3 [(101 : Int32)] 194 at_191 rfl (W.1 8 rfl) f245 f246 f247 A241 rfl (nl rfl) (nl rfl) (by decide) rfl rfl (nl rfl) (nl rfl) (nl rfl) (nl rfl) (nl rfl) f248 z239 (fun h242 K242 T242 c242 => ?_)
        have E242 := Ext.kp1 (Ext.tr E239 E241) K242 e239
        refine Go.iload_n 195 at_194 rfl rfl ?_
        refine Go.aload 197 at_195 rfl rfl rfl ?_
        refine Go.aload 199 at_197 rfl rfl rfl ?_
        have f249 := D238 (Or.inl (W.1 55 rfl)) (ty := (.object "java/util/List")) (by decide)
        have f250 := D238 (Or.inl (W.1 58 rfl)) (ty := (.object "java/lang/String")) (by decide)
        have f251 := D238 (Or.inr (W.1 60 rfl)) (ty := (.object "java/lang/String")) (by decide)
        have f252 := D238 (Or.inr (W.1 62 rfl)) (ty := .int) (by decide)
        have f253 := D238 (Or.inr (W.1 64 rfl)) (ty := (.array (.object "java/lang/String"))) (by decide)
        have f254 := D238 (Or.inr (W.1 66 rfl)) (ty := (.array (.object "java/lang/String"))) (by decide)
        have f255 := o192.ext (Ext.tr E238 E242)
        have f256 := A192.ext (Ext.tr E238 E242)
        have f257 := t192nm0.ext (Ext.tr E238 E242)
        have f258 := t192nm1.ext (Ext.tr E238 E242)
        have f259 := A238.ext E242
        have f260 := f249.ext E242
        have f261 := f250.ext E242
        have f262 := f251.ext E242
        have f263 := f252.ext E242
        have f264 := f253.ext E242
        have f265 := f254.ext E242
        have f266 := CHr.safe (CHr.trans c239 (CHr.trans c240 (CHr.trans c241 c242))) A238.lt S238
        have L266 := Nat.lt_of_lt_of_le A238.lt (CHr.trans c239 (CHr.trans c240 (CHr.trans c241 c242))).2.1
        refine Go.invokespecial (rest := [.ref xe]) 1 xe [.ref es, .int line, .ref na, .ref va] 202 at_199 rfl rfl (W.1 44 rfl) (W.1 45 rfl) (W.1 43 rfl) (W.1 46 rfl) (by decide) (cXeInit W (by decide) Le f259 f260 f261 f262 f263 f264 f265 f266 z238) (by decide +kernel : parseMethodDescriptor "(Ljava/lang/String;I[Ljava/lang/String;[Ljava/lang/String;)V" = some ⟨[(.object "java/lang/String"), .int, (.array (.object "java/lang/String")), (.array (.object "java/lang/String"))], none⟩) rfl rfl rfl (nl rfl) (nl rfl) (nl rfl) (nl rfl) (nl rfl) (fun v267 vm267 h267 ⟨rv, K, X, GN, GV⟩ c267 => ?_)
        subst rv
        have AN' := f255.keep K (ninS (fun z => (Exa.neArv f259 f255 (W.1 42 rfl)) z.symm) nin0)
        have AV' := f256.keep K (ninS (fun z => (Exa.neArv f259 f256 (W.1 42 rfl)) z.symm) nin0)
        have T_nm0 := f257.keepE K f259 (by decide) (W.1 42 rfl)
        have T_nm1 := f258.keepE K f259 (by decide) (W.1 42 rfl)
        refine Go.astore #[.val (.int s_), .val (.int u_), .val (.int line), .val (.int (2 : Int32)), .val (.int (s_ &&& (15 : Int32))), .val (.int ((XT.ushr s_ (4 : Int32)) &&& (15 : Int32))), .val (.int ((XT.ushr s_ (8 : Int32)) &&& (15 : Int32))), .val (.int ((XT.ushr s_ (12 : Int32)) &&& (15 : Int32))), .val (.int (1 : Int32)), .val (.ref v0), .val (.ref v1), .val (.ref v2), .val (.ref na), .val (.ref va), .val (.null), .val (.ref xe), .unset, .unset, .unset] 204 at_202 rfl rfl rfl ?_
        refine Go.aload 206 at_204 rfl rfl rfl ?_
        refine Go.aload 208 at_206 rfl rfl rfl ?_
        refine Go.invokevirtual (rest := []) 0 xe [.null] 211 at_208 rfl X (W.1 67 rfl) (W.1 68 rfl) (fun s hs => notFace_of_selects (args := #[]) (mvT hs (W.1 70 rfl))) (W.1 70 rfl) (W.1 69 rfl) (W.1 43 rfl) (W.1 71 rfl) (by decide) (cGet2n W GN GV AN' AV' T_nm0 T_nm1) (by decide +kernel : parseMethodDescriptor "(Ljava/lang/String;)Ljava/lang/String;" = some ⟨[(.object "java/lang/String")], (some (.object "java/lang/String"))⟩) rfl rfl rfl (nl rfl) (nl rfl) (nl rfl) (nl rfl) (nl rfl) (fun v268 vm268 h268 ⟨rv, hh⟩ c268 => ?_)
        subst rv; replace hh := hh.symm; subst hh
        refine Go.astore #[.val (.int s_), .val (.int u_), .val (.int line), .val (.int (2 : Int32)), .val (.int (s_ &&& (15 : Int32))), .val (.int ((XT.ushr s_ (4 : Int32)) &&& (15 : Int32))), .val (.int ((XT.ushr s_ (8 : Int32)) &&& (15 : Int32))), .val (.int ((XT.ushr s_ (12 : Int32)) &&& (15 : Int32))), .val (.int (1 : Int32)), .val (.ref v0), .val (.ref v1), .val (.ref v2), .val (.ref na), .val (.ref va), .val (.null), .val (.ref xe), .val (.null), .unset, .unset] 213 at_211 rfl rfl rfl ?_
        refine Go.aconst_null 214 at_213 rfl ?_
        refine Go.astore #[.val (.int s_), .val (.int u_), .val (.int line), .val (.int (2 : Int32)), .val (.int (s_ &&& (15 : Int32))), .val (.int ((XT.ushr s_ (4 : Int32)) &&& (15 : Int32))), .val (.int ((XT.ushr s_ (8 : Int32)) &&& (15 : Int32))), .val (.int ((XT.ushr s_ (12 : Int32)) &&& (15 : Int32))), .val (.int (1 : Int32)), .val (.ref v0), .val (.ref v1), .val (.ref v2), .val (.ref na), .val (.ref va), .val (.null), .val (.ref xe), .val (.null), .val (.null), .unset] 216 at_214 rfl rfl rfl ?_
        refine Go.iload 218 at_216 rfl rfl ?_
        refine Go.ifne 284 221 at_218 (by decide) rfl rfl (fun q269 => ?_) (fun q269 => absurd q269 (by decide))
        refine Go.aload 286 at_284 rfl rfl rfl ?_
        refine Go.aload 288 at_286 rfl rfl rfl ?_
        refine Go.acmp_n 291 at_288 rfl rfl rfl (by simp [XT.acmp]) ?_
        refine Go.iconst (1) 292 at_291 rfl rfl ?_
        refine Go.goto 296 at_292 (by decide) rfl ?_
        exact Go.ireturn at_296 rfl rfl (by simp) (nl rfl) (nl rfl) (fun vm' ch => rfl)
    refine Go.if_icmpne 55 51 at_48 (by decide) rfl rfl (fun q270 => ?_) (fun q270 => ?_)
    · refine Go.iconst (0) 56 at_55 rfl rfl ?_
      exact J56 _ (Or.inl rfl)
    · refine Go.iconst (1) 52 at_51 rfl rfl ?_
      refine Go.goto 56 at_52 (by decide) rfl ?_
      exact J56 _ (Or.inr rfl)
  · refine Go.iand (3 : Int32) 6 at_5 rfl hc ?_
    refine Go.istore_n #[.val (.int s_), .val (.int u_), .val (.int line), .val (.int (3 : Int32)), .unset, .unset, .unset, .unset, .unset, .unset, .unset, .unset, .unset, .unset, .unset, .unset, .unset, .unset, .unset] 7 at_6 rfl rfl ?_
    refine Go.iload_n 8 at_7 rfl rfl ?_
    refine Go.bipush (15) 10 at_8 rfl rfl ?_
    refine Go.iand (s_ &&& (15 : Int32)) 11 at_10 rfl rfl ?_
    refine Go.istore #[.val (.int s_), .val (.int u_), .val (.int line), .val (.int (3 : Int32)), .val (.int (s_ &&& (15 : Int32))), .unset, .unset, .unset, .unset, .unset, .unset, .unset, .unset, .unset, .unset, .unset, .unset, .unset, .unset] 13 at_11 rfl rfl ?_
    refine Go.iload_n 14 at_13 rfl rfl ?_
    refine Go.iconst (4) 15 at_14 rfl rfl ?_
    refine Go.iushr (XT.ushr s_ (4 : Int32)) 16 at_15 rfl rfl ?_
    refine Go.bipush (15) 18 at_16 rfl rfl ?_
    refine Go.iand ((XT.ushr s_ (4 : Int32)) &&& (15 : Int32)) 19 at_18 rfl rfl ?_
    refine Go.istore #[.val (.int s_), .val (.int u_), .val (.int line), .val (.int (3 : Int32)), .val (.int (s_ &&& (15 : Int32))), .val (.int ((XT.ushr s_ (4 : Int32)) &&& (15 : Int32))), .unset, .unset, .unset, .unset, .unset, .unset, .unset, .unset, .unset, .unset, .unset, .unset, .unset] 21 at_19 rfl rfl ?_
    refine Go.iload_n 22 at_21 rfl rfl ?_
    refine Go.bipush (8) 24 at_22 rfl rfl ?_
    refine Go.iushr (XT.ushr s_ (8 : Int32)) 25 at_24 rfl rfl ?_
    refine Go.bipush (15) 27 at_25 rfl rfl ?_
    refine Go.iand ((XT.ushr s_ (8 : Int32)) &&& (15 : Int32)) 28 at_27 rfl rfl ?_
    refine Go.istore #[.val (.int s_), .val (.int u_), .val (.int line), .val (.int (3 : Int32)), .val (.int (s_ &&& (15 : Int32))), .val (.int ((XT.ushr s_ (4 : Int32)) &&& (15 : Int32))), .val (.int ((XT.ushr s_ (8 : Int32)) &&& (15 : Int32))), .unset, .unset, .unset, .unset, .unset, .unset, .unset, .unset, .unset, .unset, .unset, .unset] 30 at_28 rfl rfl ?_
    refine Go.iload_n 31 at_30 rfl rfl ?_
    refine Go.bipush (12) 33 at_31 rfl rfl ?_
    refine Go.iushr (XT.ushr s_ (12 : Int32)) 34 at_33 rfl rfl ?_
    refine Go.bipush (15) 36 at_34 rfl rfl ?_
    refine Go.iand ((XT.ushr s_ (12 : Int32)) &&& (15 : Int32)) 37 at_36 rfl rfl ?_
    refine Go.istore #[.val (.int s_), .val (.int u_), .val (.int line), .val (.int (3 : Int32)), .val (.int (s_ &&& (15 : Int32))), .val (.int ((XT.ushr s_ (4 : Int32)) &&& (15 : Int32))), .val (.int ((XT.ushr s_ (8 : Int32)) &&& (15 : Int32))), .val (.int ((XT.ushr s_ (12 : Int32)) &&& (15 : Int32))), .unset, .unset, .unset, .unset, .unset, .unset, .unset, .unset, .unset, .unset, .unset] 39 at_37 rfl rfl ?_
    refine Go.iload_n 40 at_39 rfl rfl ?_
    refine Go.bipush (18) 42 at_40 rfl rfl ?_
    refine Go.iushr (XT.ushr s_ (18 : Int32)) 43 at_42 rfl rfl ?_
    refine Go.bipush (7) 45 at_43 rfl rfl ?_
    refine Go.iand ((XT.ushr s_ (18 : Int32)) &&& (7 : Int32)) 46 at_45 rfl rfl ?_
    refine Go.bipush (7) 48 at_46 rfl rfl ?_
    have J56 : ∀ (r : Int32), (r = 0 ∨ r = 1) → Go false p l e room_1 s m #[.int s_, .int u_, .int line] below meth c code maxLocals "law" ret Z a0 consts_1 "com/example/tendril/tendril/xml/XmlElementGetAttributePinLaw" (fun v vm' h' => v = some (.int 1)) vmi h 0 0 56 #[.val (.int s_), .val (.int u_), .val (.int line), .val (.int (3 : Int32)), .val (.int (s_ &&& (15 : Int32))), .val (.int ((XT.ushr s_ (4 : Int32)) &&& (15 : Int32))), .val (.int ((XT.ushr s_ (8 : Int32)) &&& (15 : Int32))), .val (.int ((XT.ushr s_ (12 : Int32)) &&& (15 : Int32))), .unset, .unset, .unset, .unset, .unset, .unset, .unset, .unset, .unset, .unset, .unset] [.int r] := by
      intro r hr
      refine Go.istore #[.val (.int s_), .val (.int u_), .val (.int line), .val (.int (3 : Int32)), .val (.int (s_ &&& (15 : Int32))), .val (.int ((XT.ushr s_ (4 : Int32)) &&& (15 : Int32))), .val (.int ((XT.ushr s_ (8 : Int32)) &&& (15 : Int32))), .val (.int ((XT.ushr s_ (12 : Int32)) &&& (15 : Int32))), .val (.int r), .unset, .unset, .unset, .unset, .unset, .unset, .unset, .unset, .unset, .unset] 58 at_56 rfl rfl ?_
      refine Go.bipush (48) 60 at_58 rfl rfl ?_
      refine Go.iload_n 61 at_60 rfl rfl ?_
      refine Go.invokestatic (rest := []) 0 [.int (48 : Int32), .int u_] 64 at_61 rfl (W.1 0 rfl) (W.1 1 rfl) (W.1 2 rfl) (W.1 3 rfl) (by decide) (cValue W (t_ := 48) (x := u_) (by decide)) (by decide +kernel : parseMethodDescriptor "(CI)Ljava/lang/String;" = some ⟨[.char, .int], (some (.object "java/lang/String"))⟩) rfl rfl rfl (nl rfl) (nl rfl) (nl rfl) (nl rfl) (nl rfl) (fun v271 vm271 h271 ⟨v0, rv, E271, T271⟩ c271 => ?_)
      subst rv
      refine Go.astore #[.val (.int s_), .val (.int u_), .val (.int line), .val (.int (3 : Int32)), .val (.int (s_ &&& (15 : Int32))), .val (.int ((XT.ushr s_ (4 : Int32)) &&& (15 : Int32))), .val (.int ((XT.ushr s_ (8 : Int32)) &&& (15 : Int32))), .val (.int ((XT.ushr s_ (12 : Int32)) &&& (15 : Int32))), .val (.int r), .val (.ref v0), .unset, .unset, .unset, .unset, .unset, .unset, .unset, .unset, .unset] 66 at_64 rfl rfl rfl ?_
      refine Go.bipush (49) 68 at_66 rfl rfl ?_
      refine Go.iload_n 69 at_68 rfl rfl ?_
      refine Go.bipush (8) 71 at_69 rfl rfl ?_
      refine Go.iushr (XT.ushr u_ (8 : Int32)) 72 at_71 rfl rfl ?_
      refine Go.invokestatic (rest := []) 0 [.int (49 : Int32), .int (XT.ushr u_ (8 : Int32))] 75 at_72 rfl (W.1 0 rfl) (W.1 1 rfl) (W.1 2 rfl) (W.1 3 rfl) (by decide) (cValue W (t_ := 49) (x := (XT.ushr u_ (8 : Int32))) (by decide)) (by decide +kernel : parseMethodDescriptor "(CI)Ljava/lang/String;" = some ⟨[.char, .int], (some (.object "java/lang/String"))⟩) rfl rfl rfl (nl rfl) (nl rfl) (nl rfl) (nl rfl) (nl rfl) (fun v272 vm272 h272 ⟨v1, rv, E272, T272⟩ c272 => ?_)
      subst rv
      refine Go.astore #[.val (.int s_), .val (.int u_), .val (.int line), .val (.int (3 : Int32)), .val (.int (s_ &&& (15 : Int32))), .val (.int ((XT.ushr s_ (4 : Int32)) &&& (15 : Int32))), .val (.int ((XT.ushr s_ (8 : Int32)) &&& (15 : Int32))), .val (.int ((XT.ushr s_ (12 : Int32)) &&& (15 : Int32))), .val (.int r), .val (.ref v0), .val (.ref v1), .unset, .unset, .unset, .unset, .unset, .unset, .unset, .unset] 77 at_75 rfl rfl rfl ?_
      refine Go.bipush (50) 79 at_77 rfl rfl ?_
      refine Go.iload_n 80 at_79 rfl rfl ?_
      refine Go.bipush (16) 82 at_80 rfl rfl ?_
      refine Go.iushr (XT.ushr u_ (16 : Int32)) 83 at_82 rfl rfl ?_
      refine Go.invokestatic (rest := []) 0 [.int (50 : Int32), .int (XT.ushr u_ (16 : Int32))] 86 at_83 rfl (W.1 0 rfl) (W.1 1 rfl) (W.1 2 rfl) (W.1 3 rfl) (by decide) (cValue W (t_ := 50) (x := (XT.ushr u_ (16 : Int32))) (by decide)) (by decide +kernel : parseMethodDescriptor "(CI)Ljava/lang/String;" = some ⟨[.char, .int], (some (.object "java/lang/String"))⟩) rfl rfl rfl (nl rfl) (nl rfl) (nl rfl) (nl rfl) (nl rfl) (fun v273 vm273 h273 ⟨v2, rv, E273, T273⟩ c273 => ?_)
      subst rv
      refine Go.astore #[.val (.int s_), .val (.int u_), .val (.int line), .val (.int (3 : Int32)), .val (.int (s_ &&& (15 : Int32))), .val (.int ((XT.ushr s_ (4 : Int32)) &&& (15 : Int32))), .val (.int ((XT.ushr s_ (8 : Int32)) &&& (15 : Int32))), .val (.int ((XT.ushr s_ (12 : Int32)) &&& (15 : Int32))), .val (.int r), .val (.ref v0), .val (.ref v1), .val (.ref v2), .unset, .unset, .unset, .unset, .unset, .unset, .unset] 88 at_86 rfl rfl rfl ?_
      refine Go.iload_n 89 at_88 rfl rfl ?_
      refine Go.anewarray 3 92 at_89 rfl (W.1 4 rfl) (W.1 34 rfl) (by decide) (by decide) (by decide) (nl rfl) (nl rfl) (fun na h274 e274 E274 ⟨k274, B274, O274⟩ S274 z274 c274 => ?_)
      have A274 : Arv Z h274 na k274 (.object "java/lang/String") (3 : Int32) [.null, .null, .null] .null := B274.pad (pad_rep [] .null 3)
      refine Go.astore #[.val (.int s_), .val (.int u_), .val (.int line), .val (.int (3 : Int32)), .val (.int (s_ &&& (15 : Int32))), .val (.int ((XT.ushr s_ (4 : Int32)) &&& (15 : Int32))), .val (.int ((XT.ushr s_ (8 : Int32)) &&& (15 : Int32))), .val (.int ((XT.ushr s_ (12 : Int32)) &&& (15 : Int32))), .val (.int r), .val (.ref v0), .val (.ref v1), .val (.ref v2), .val (.ref na), .unset, .unset, .unset, .unset, .unset, .unset] 94 at_92 rfl rfl rfl ?_
      refine Go.iload_n 95 at_94 rfl rfl ?_
      refine Go.anewarray 3 98 at_95 rfl (W.1 4 rfl) (W.1 34 rfl) (by decide) (by decide) (by decide) (nl rfl) (nl rfl) (fun va h275 e275 E275 ⟨k275, B275, O275⟩ S275 z275 c275 => ?_)
      have A275 : Arv Z h275 va k275 (.object "java/lang/String") (3 : Int32) [.null, .null, .null] .null := B275.pad (pad_rep [] .null 3)
      have nv : na ≠ va := ne_of_new A274.lt (Nat.le_of_eq e275.symm)
      have ln_ := Nat.le_of_eq e274.symm
      have lv_ : h273.size ≤ va := Nat.le_trans E274.1 (Nat.le_of_eq e275.symm)
      refine Go.astore #[.val (.int s_), .val (.int u_), .val (.int line), .val (.int (3 : Int32)), .val (.int (s_ &&& (15 : Int32))), .val (.int ((XT.ushr s_ (4 : Int32)) &&& (15 : Int32))), .val (.int ((XT.ushr s_ (8 : Int32)) &&& (15 : Int32))), .val (.int ((XT.ushr s_ (12 : Int32)) &&& (15 : Int32))), .val (.int r), .val (.ref v0), .val (.ref v1), .val (.ref v2), .val (.ref na), .val (.ref va), .unset, .unset, .unset, .unset, .unset] 100 at_98 rfl rfl rfl ?_
      refine Go.iload_n 101 at_100 rfl rfl ?_
      refine Go.ifle 119 104 at_101 (by decide) rfl rfl (fun q276 => absurd (by decide) q276) (fun q276 => ?_)
      refine Go.aload 106 at_104 rfl rfl rfl ?_
      refine Go.iconst (0) 107 at_106 rfl rfl ?_
      refine Go.iload 109 at_107 rfl rfl ?_
      refine Go.invokestatic (rest := [.int (0 : Int32), .ref na]) 2 [.int (s_ &&& (15 : Int32))] 112 at_109 rfl (W.1 35 rfl) (W.1 36 rfl) (W.1 2 rfl) (W.1 37 rfl) (by decide) (cName W (x := (s_ &&& (15 : Int32))) (by decide)) (by decide +kernel : parseMethodDescriptor "(I)Ljava/lang/String;" = some ⟨[.int], (some (.object "java/lang/String"))⟩) rfl rfl rfl (nl rfl) (nl rfl) (nl rfl) (nl rfl) (nl rfl) (fun v277 vm277 h277 ⟨nm0, rv, E277, T277⟩ c277 => ?_)
      subst rv
      have f278 := A274.ext (Ext.tr E275 E277)
      have f279 := CHr.safe (CHr.trans c275 c277) A274.lt S274
      have L279 := Nat.lt_of_lt_of_le A274.lt (CHr.trans c275 c277).2.1
      have f280 := A275.ext E277
      have f281 := CHr.safe c277 A275.lt S275
      have L281 := Nat.lt_of_lt_of_le A275.lt c277.2.1
      refine Go.aastore 0 [.ref nm0, .null, .null] 113 at_112 rfl f278 O274 (Ins.self T277.exa) (by decide) rfl (nl rfl) rfl f279 z274 (fun h282 K282 A282 S282 c282 => ?_)
      have E282 := Ext.kq1 (Ext.tr E274 (Ext.tr E275 E277)) K282 ln_
      have o282 := f280.keep K282 (ninS nv.symm nin0)
      have t282nm0 := T277.keepA K282 f278 (by decide) (W.1 5 rfl)
      refine Go.aload 115 at_113 rfl rfl rfl ?_
      refine Go.iconst (0) 116 at_115 rfl rfl ?_
      refine Go.aload 118 at_116 rfl rfl rfl ?_
      have f283 := CHr.safe c282 L281 f281
      have L283 := Nat.lt_of_lt_of_le L281 c282.2.1
      have f284 := T271.ext (Ext.tr E272 (Ext.tr E273 E282))
      refine Go.aastore 0 [.ref v0, .null, .null] 119 at_118 rfl o282 O275 (Ins.self f284.exa) (by decide) rfl (nl rfl) rfl f283 z275 (fun h285 K285 A285 S285 c285 => ?_)
      have E285 := Ext.kq1 E282 K285 lv_
      have o285 := A282.keep K285 (ninS nv nin0)
      have t285nm0 := t282nm0.keepA K285 o282 (by decide) (W.1 5 rfl)
      refine Go.iload_n 120 at_119 rfl rfl ?_
      refine Go.iconst (1) 121 at_120 rfl rfl ?_
      refine Go.if_icmple 139 124 at_121 (by decide) rfl rfl (fun q286 => absurd (by decide) q286) (fun q286 => ?_)
      refine Go.aload 126 at_124 rfl rfl rfl ?_
      refine Go.iconst (1) 127 at_126 rfl rfl ?_
      refine Go.iload 129 at_127 rfl rfl ?_
      refine Go.invokestatic (rest := [.int (1 : Int32), .ref na]) 2 [.int ((XT.ushr s_ (4 : Int32)) &&& (15 : Int32))] 132 at_129 rfl (W.1 35 rfl) (W.1 36 rfl) (W.1 2 rfl) (W.1 37 rfl) (by decide) (cName W (x := ((XT.ushr s_ (4 : Int32)) &&& (15 : Int32))) (by decide)) (by decide +kernel : parseMethodDescriptor "(I)Ljava/lang/String;" = some ⟨[.int], (some (.object "java/lang/String"))⟩) rfl rfl rfl (nl rfl) (nl rfl) (nl rfl) (nl rfl) (nl rfl) (fun v287 vm287 h287 ⟨nm1, rv, E287, T287⟩ c287 => ?_)
      subst rv
      have f288 := o285.ext E287
      have f289 := CHr.safe (CHr.trans c285 c287) A282.lt S282
      have L289 := Nat.lt_of_lt_of_le A282.lt (CHr.trans c285 c287).2.1
      have f290 := A285.ext E287
      have f291 := t285nm0.ext E287
      have f292 := CHr.safe c287 A285.lt S285
      have L292 := Nat.lt_of_lt_of_le A285.lt c287.2.1
      refine Go.aastore 1 [.ref nm0, .ref nm1, .null] 133 at_132 rfl f288 O274 (Ins.self T287.exa) (by decide) rfl (nl rfl) rfl f289 z274 (fun h293 K293 A293 S293 c293 => ?_)
      have E293 := Ext.kq1 (Ext.tr E285 E287) K293 ln_
      have o293 := f290.keep K293 (ninS nv.symm nin0)
      have t293nm0 := f291.keepA K293 f288 (by decide) (W.1 5 rfl)
      have t293nm1 := T287.keepA K293 f288 (by decide) (W.1 5 rfl)
      refine Go.aload 135 at_133 rfl rfl rfl ?_
      refine Go.iconst (1) 136 at_135 rfl rfl ?_
      refine Go.aload 138 at_136 rfl rfl rfl ?_
      have f294 := CHr.safe c293 L292 f292
      have L294 := Nat.lt_of_lt_of_le L292 c293.2.1
      have f295 := T272.ext (Ext.tr E273 E293)
      refine Go.aastore 1 [.ref v0, .ref v1, .null] 139 at_138 rfl o293 O275 (Ins.self f295.exa) (by decide) rfl (nl rfl) rfl f294 z275 (fun h296 K296 A296 S296 c296 => ?_)
      have E296 := Ext.kq1 E293 K296 lv_
      have o296 := A293.keep K296 (ninS nv nin0)
      have t296nm0 := t293nm0.keepA K296 o293 (by decide) (W.1 5 rfl)
      have t296nm1 := t293nm1.keepA K296 o293 (by decide) (W.1 5 rfl)
      refine Go.iload_n 140 at_139 rfl rfl ?_
      refine Go.iconst (2) 141 at_140 rfl rfl ?_
      refine Go.if_icmple 159 144 at_141 (by decide) rfl rfl (fun q297 => absurd (by decide) q297) (fun q297 => ?_)
      refine Go.aload 146 at_144 rfl rfl rfl ?_
      refine Go.iconst (2) 147 at_146 rfl rfl ?_
      refine Go.iload 149 at_147 rfl rfl ?_
      refine Go.invokestatic (rest := [.int (2 : Int32), .ref na]) 2 [.int ((XT.ushr s_ (8 : Int32)) &&& (15 : Int32))] 152 at_149 rfl (W.1 35 rfl) (W.1 36 rfl) (W.1 2 rfl) (W.1 37 rfl) (by decide) (cName W (x := ((XT.ushr s_ (8 : Int32)) &&& (15 : Int32))) (by decide)) (by decide +kernel : parseMethodDescriptor "(I)Ljava/lang/String;" = some ⟨[.int], (some (.object "java/lang/String"))⟩) rfl rfl rfl (nl rfl) (nl rfl) (nl rfl) (nl rfl) (nl rfl) (fun v298 vm298 h298 ⟨nm2, rv, E298, T298⟩ c298 => ?_)
      subst rv
      have f299 := o296.ext E298
      have f300 := CHr.safe (CHr.trans c296 c298) A293.lt S293
      have L300 := Nat.lt_of_lt_of_le A293.lt (CHr.trans c296 c298).2.1
      have f301 := A296.ext E298
      have f302 := t296nm0.ext E298
      have f303 := t296nm1.ext E298
      have f304 := CHr.safe c298 A296.lt S296
      have L304 := Nat.lt_of_lt_of_le A296.lt c298.2.1
      refine Go.aastore 2 [.ref nm0, .ref nm1, .ref nm2] 153 at_152 rfl f299 O274 (Ins.self T298.exa) (by decide) rfl (nl rfl) rfl f300 z274 (fun h305 K305 A305 S305 c305 => ?_)
      have E305 := Ext.kq1 (Ext.tr E296 E298) K305 ln_
      have o305 := f301.keep K305 (ninS nv.symm nin0)
      have t305nm0 := f302.keepA K305 f299 (by decide) (W.1 5 rfl)
      have t305nm1 := f303.keepA K305 f299 (by decide) (W.1 5 rfl)
      have t305nm2 := T298.keepA K305 f299 (by decide) (W.1 5 rfl)
      refine Go.aload 155 at_153 rfl rfl rfl ?_
      refine Go.iconst (2) 156 at_155 rfl rfl ?_
      refine Go.aload 158 at_156 rfl rfl rfl ?_
      have f306 := CHr.safe c305 L304 f304
      have L306 := Nat.lt_of_lt_of_le L304 c305.2.1
      have f307 := T273.ext E305
      refine Go.aastore 2 [.ref v0, .ref v1, .ref v2] 159 at_158 rfl o305 O275 (Ins.self f307.exa) (by decide) rfl (nl rfl) rfl f306 z275 (fun h308 K308 A308 S308 c308 => ?_)
      have E308 := Ext.kq1 E305 K308 lv_
      have o308 := A305.keep K308 (ninS nv nin0)
      have t308nm0 := t305nm0.keepA K308 o305 (by decide) (W.1 5 rfl)
      have t308nm1 := t305nm1.keepA K308 o305 (by decide) (W.1 5 rfl)
      have t308nm2 := t305nm2.keepA K308 o305 (by decide) (W.1 5 rfl)
      refine Go.iload 161 at_159 rfl rfl ?_
      rcases hr with rfl | rfl
      · refine Go.ifeq 168 164 at_161 (by decide) rfl rfl (fun q309 => ?_) (fun q309 => absurd rfl q309)
        refine Go.iload 170 at_168 rfl rfl ?_
        refine Go.invokestatic (rest := []) 0 [.int ((XT.ushr s_ (12 : Int32)) &&& (15 : Int32))] 173 at_170 rfl (W.1 35 rfl) (W.1 36 rfl) (W.1 2 rfl) (W.1 37 rfl) (by decide) (cName W (x := ((XT.ushr s_ (12 : Int32)) &&& (15 : Int32))) (by decide)) (by decide +kernel : parseMethodDescriptor "(I)Ljava/lang/String;" = some ⟨[.int], (some (.object "java/lang/String"))⟩) rfl rfl rfl (nl rfl) (nl rfl) (nl rfl) (nl rfl) (nl rfl) (fun v310 vm310 h310 ⟨qq, rv, E310, T310⟩ c310 => ?_)
        subst rv
        refine Go.astore #[.val (.int s_), .val (.int u_), .val (.int line), .val (.int (3 : Int32)), .val (.int (s_ &&& (15 : Int32))), .val (.int ((XT.ushr s_ (4 : Int32)) &&& (15 : Int32))), .val (.int ((XT.ushr s_ (8 : Int32)) &&& (15 : Int32))), .val (.int ((XT.ushr s_ (12 : Int32)) &&& (15 : Int32))), .val (.int (0 : Int32)), .val (.ref v0), .val (.ref v1), .val (.ref v2), .val (.ref na), .val (.ref va), .val (.ref qq), .unset, .unset, .unset, .unset] 175 at_173 rfl rfl rfl ?_
        refine Go.new 178 at_175 rfl (W.1 41 rfl) (W.1 42 rfl) (W.1 43 rfl) (nl rfl) (nl rfl) (fun xe h311 e311 E311 ⟨A311, D311⟩ S311 z311 c311 => ?_)
        refine Go.dup 179 at_178 rfl rfl ?_
        refine Go.new 182 at_179 rfl (W.1 4 rfl) (W.1 5 rfl) (W.1 6 rfl) (nl rfl) (nl rfl) (fun es h312 e312 E312 ⟨A312, D312⟩ S312 z312 c312 => ?_)
        refine Go.dup 183 at_182 rfl rfl ?_
        refine Go.iconst (1) 184 at_183 rfl rfl ?_
        refine Go.newarray 1 186 at_184 rfl (W.1 7 rfl) (by decide) (by decide) (by decide) (nl rfl) (nl rfl) (fun eb h313 e313 E313 ⟨k313, B313⟩ S313 z313 c313 => ?_)
        have A313 : Arv Z h313 eb k313 .char (1 : Int32) [.int 0] (.int 0) := B313.pad (pad_rep [] (.int 0) 1)
        refine Go.dup 187 at_186 rfl rfl ?_
        refine Go.iconst (0) 188 at_187 rfl rfl ?_
        refine Go.bipush (101) 190 at_188 rfl rfl ?_
        refine Go.castore 0 (101 : Int32) [.int (101 : Int32)] 191 at_190 rfl A313 (by decide) rfl (nl rfl) rfl rfl S313 z313 (fun h314 K314 A314 S314 c314 => ?_)
        have E314 := Ext.kp1 E313 K314 e313
        have f316 := D312 (Or.inr (W.1 33 rfl)) (ty := (.array .byte)) (by decide)
        have f317 := D312 (Or.inr (W.1 31 rfl)) (ty := .byte) (by decide)
        have f318 := A312.ext E314
        have f319 := f316.ext E314
        have f320 := f317.ext E314
        have f321 := CHr.safe (CHr.trans c313 c314) A312.lt S312
        have L321 := Nat.lt_of_lt_of_le A312.lt (CHr.trans c313 c314).2.1
        refine goStrNew W 3 [(101 : Int32)] 194 at_191 rfl (W.1 8 rfl) f318 f319 f320 A314 rfl (nl rfl) (nl rfl) (by decide) rfl rfl (nl rfl) (nl rfl) (nl rfl) (nl rfl) (nl rfl) f321 z312 (fun h315 K315 T315 c315 => ?_)
        have E315 := Ext.kp1 (Ext.tr E312 E314) K315 e312
        refine Go.iload_n 195 at_194 rfl rfl ?_
        refine Go.aload 197 at_195 rfl rfl rfl ?_
        refine Go.aload 199 at_197 rfl rfl rfl ?_
        have f322 := D311 (Or.inl (W.1 55 rfl)) (ty := (.object "java/util/List")) (by decide)
        have f323 := D311 (Or.inl (W.1 58 rfl)) (ty := (.object "java/lang/String")) (by decide)
        have f324 := D311 (Or.inr (W.1 60 rfl)) (ty := (.object "java/lang/String")) (by decide)
        have f325 := D311 (Or.inr (W.1 62 rfl)) (ty := .int) (by decide)
        have f326 := D311 (Or.inr (W.1 64 rfl)) (ty := (.array (.object "java/lang/String"))) (by decide)
        have f327 := D311 (Or.inr (W.1 66 rfl)) (ty := (.array (.object "java/lang/String"))) (by decide)
        have f328 := o308.ext (Ext.tr E310 (Ext.tr E311 E315))
        have f329 := A308.ext (Ext.tr E310 (Ext.tr E311 E315))
        have f330 := t308nm0.ext (Ext.tr E310 (Ext.tr E311 E315))
        have f331 := t308nm1.ext (Ext.tr E310 (Ext.tr E311 E315))
        have f332 := t308nm2.ext (Ext.tr E310 (Ext.tr E311 E315))
        have f333 := T310.ext (Ext.tr E311 E315)
        have f334 := A311.ext E315
        have f335 := f322.ext E315
        have f336 := f323.ext E315
        have f337 := f324.ext E315
        have f338 := f325.ext E315
        have f339 := f326.ext E315
        have f340 := f327.ext E315
        have f341 := CHr.safe (CHr.trans c312 (CHr.trans c313 (CHr.trans c314 c315))) A311.lt S311
        have L341 := Nat.lt_of_lt_of_le A311.lt (CHr.trans c312 (CHr.trans c313 (CHr.trans c314 c315))).2.1
        refine Go.invokespecial (rest := [.ref xe]) 1 xe [.ref es, .int line, .ref na, .ref va] 202 at_199 rfl rfl (W.1 44 rfl) (W.1 45 rfl) (W.1 43 rfl) (W.1 46 rfl) (by decide) (cXeInit W (by decide) Le f334 f335 f336 f337 f338 f339 f340 f341 z311) (by decide +kernel : parseMethodDescriptor "(Ljava/lang/String;I[Ljava/lang/String;[Ljava/lang/String;)V" = some ⟨[(.object "java/lang/String"), .int, (.array (.object "java/lang/String")), (.array (.object "java/lang/String"))], none⟩) rfl rfl rfl (nl rfl) (nl rfl) (nl rfl) (nl rfl) (nl rfl) (fun v342 vm342 h342 ⟨rv, K, X, GN, GV⟩ c342 => ?_)
        subst rv
        have AN' := f328.keep K (ninS (fun z => (Exa.neArv f334 f328 (W.1 42 rfl)) z.symm) nin0)
        have AV' := f329.keep K (ninS (fun z => (Exa.neArv f334 f329 (W.1 42 rfl)) z.symm) nin0)
        have T_nm0 := f330.keepE K f334 (by decide) (W.1 42 rfl)
        have T_nm1 := f331.keepE K f334 (by decide) (W.1 42 rfl)
        have T_nm2 := f332.keepE K f334 (by decide) (W.1 42 rfl)
        have T_qq := f333.keepE K f334 (by decide) (W.1 42 rfl)
        refine Go.astore #[.val (.int s_), .val (.int u_), .val (.int line), .val (.int (3 : Int32)), .val (.int (s_ &&& (15 : Int32))), .val (.int ((XT.ushr s_ (4 : Int32)) &&& (15 : Int32))), .val (.int ((XT.ushr s_ (8 : Int32)) &&& (15 : Int32))), .val (.int ((XT.ushr s_ (12 : Int32)) &&& (15 : Int32))), .val (.int (0 : Int32)), .val (.ref v0), .val (.ref v1), .val (.ref v2), .val (.ref na), .val (.ref va), .val (.ref qq), .val (.ref xe), .unset, .unset, .unset] 204 at_202 rfl rfl rfl ?_
        refine Go.aload 206 at_204 rfl rfl rfl ?_
        refine Go.aload 208 at_206 rfl rfl rfl ?_
        refine Go.invokevirtual (rest := []) 0 xe [.ref qq] 211 at_208 rfl X (W.1 67 rfl) (W.1 68 rfl) (fun s hs => notFace_of_selects (args := #[]) (mvT hs (W.1 70 rfl))) (W.1 70 rfl) (W.1 69 rfl) (W.1 43 rfl) (W.1 71 rfl) (by decide) (cGet3s W GN GV AN' AV' T_nm0 T_nm1 T_nm2 T_qq) (by decide +kernel : parseMethodDescriptor "(Ljava/lang/String;)Ljava/lang/String;" = some ⟨[(.object "java/lang/String")], (some (.object "java/lang/String"))⟩) rfl rfl rfl (nl rfl) (nl rfl) (nl rfl) (nl rfl) (nl rfl) (fun v343 vm343 h343 ⟨rv, hh⟩ c343 => ?_)
        subst rv; replace hh := hh.symm; subst hh
        have hg : Value.isRef (if nameV (s_ &&& (15 : Int32)) = nameV ((XT.ushr s_ (12 : Int32)) &&& (15 : Int32)) then Value.ref v0 else (if nameV ((XT.ushr s_ (4 : Int32)) &&& (15 : Int32)) = nameV ((XT.ushr s_ (12 : Int32)) &&& (15 : Int32)) then Value.ref v1 else (if nameV ((XT.ushr s_ (8 : Int32)) &&& (15 : Int32)) = nameV ((XT.ushr s_ (12 : Int32)) &&& (15 : Int32)) then Value.ref v2 else Value.null))) = true := by split; rfl; split; rfl; split; rfl; rfl
        obtain ⟨gv, eg⟩ : ∃ g, g = (if nameV (s_ &&& (15 : Int32)) = nameV ((XT.ushr s_ (12 : Int32)) &&& (15 : Int32)) then Value.ref v0 else (if nameV ((XT.ushr s_ (4 : Int32)) &&& (15 : Int32)) = nameV ((XT.ushr s_ (12 : Int32)) &&& (15 : Int32)) then Value.ref v1 else (if nameV ((XT.ushr s_ (8 : Int32)) &&& (15 : Int32)) = nameV ((XT.ushr s_ (12 : Int32)) &&& (15 : Int32)) then Value.ref v2 else Value.null))) := ⟨_, rfl⟩
        rw [← eg] at hg ⊢
        refine Go.astore #[.val (.int s_), .val (.int u_), .val (.int line), .val (.int (3 : Int32)), .val (.int (s_ &&& (15 : Int32))), .val (.int ((XT.ushr s_ (4 : Int32)) &&& (15 : Int32))), .val (.int ((XT.ushr s_ (8 : Int32)) &&& (15 : Int32))), .val (.int ((XT.ushr s_ (12 : Int32)) &&& (15 : Int32))), .val (.int (0 : Int32)), .val (.ref v0), .val (.ref v1), .val (.ref v2), .val (.ref na), .val (.ref va), .val (.ref qq), .val (.ref xe), .val gv, .unset, .unset] 213 at_211 rfl hg (XS.store1 rfl One.u (refCat hg)) ?_
        refine Go.aconst_null 214 at_213 rfl ?_
        refine Go.astore #[.val (.int s_), .val (.int u_), .val (.int line), .val (.int (3 : Int32)), .val (.int (s_ &&& (15 : Int32))), .val (.int ((XT.ushr s_ (4 : Int32)) &&& (15 : Int32))), .val (.int ((XT.ushr s_ (8 : Int32)) &&& (15 : Int32))), .val (.int ((XT.ushr s_ (12 : Int32)) &&& (15 : Int32))), .val (.int (0 : Int32)), .val (.ref v0), .val (.ref v1), .val (.ref v2), .val (.ref na), .val (.ref va), .val (.ref qq), .val (.ref xe), .val gv, .val (.null), .unset] 216 at_214 rfl rfl rfl ?_
        refine Go.iload 218 at_216 rfl rfl ?_
        refine Go.ifne 284 221 at_218 (by decide) rfl rfl (fun q344 => absurd rfl q344) (fun q344 => ?_)
        refine Go.iload 223 at_221 rfl rfl ?_
        refine Go.invokestatic (rest := []) 0 [.int ((XT.ushr s_ (12 : Int32)) &&& (15 : Int32))] 226 at_223 rfl (W.1 72 rfl) (W.1 73 rfl) (W.1 2 rfl) (W.1 74 rfl) (by decide) (cKey W ) (by decide +kernel : parseMethodDescriptor "(I)I" = some ⟨[.int], (some .int)⟩) rfl rfl rfl (nl rfl) (nl rfl) (nl rfl) (nl rfl) (nl rfl) (fun v345 vm345 h345 ⟨rv, hh⟩ c345 => ?_)
        subst rv; replace hh := hh.symm; subst hh
        refine Go.istore #[.val (.int s_), .val (.int u_), .val (.int line), .val (.int (3 : Int32)), .val (.int (s_ &&& (15 : Int32))), .val (.int ((XT.ushr s_ (4 : Int32)) &&& (15 : Int32))), .val (.int ((XT.ushr s_ (8 : Int32)) &&& (15 : Int32))), .val (.int ((XT.ushr s_ (12 : Int32)) &&& (15 : Int32))), .val (.int (0 : Int32)), .val (.ref v0), .val (.ref v1), .val (.ref v2), .val (.ref na), .val (.ref va), .val (.ref qq), .val (.ref xe), .val gv, .val (.null), .val (.int (keyV ((XT.ushr s_ (12 : Int32)) &&& (15 : Int32))))] 228 at_226 rfl rfl ?_
        refine Go.iload_n 229 at_228 rfl rfl ?_
        refine Go.iconst (2) 230 at_229 rfl rfl ?_
        refine Go.if_icmple 247 233 at_230 (by decide) rfl rfl (fun q346 => absurd (by decide) q346) (fun q346 => ?_)
        refine Go.iload 235 at_233 rfl rfl ?_
        refine Go.invokestatic (rest := []) 0 [.int ((XT.ushr s_ (8 : Int32)) &&& (15 : Int32))] 238 at_235 rfl (W.1 72 rfl) (W.1 73 rfl) (W.1 2 rfl) (W.1 74 rfl) (by decide) (cKey W ) (by decide +kernel : parseMethodDescriptor "(I)I" = some ⟨[.int], (some .int)⟩) rfl rfl rfl (nl rfl) (nl rfl) (nl rfl) (nl rfl) (nl rfl) (fun v347 vm347 h347 ⟨rv, hh⟩ c347 => ?_)
        subst rv; replace hh := hh.symm; subst hh
        refine Go.iload 240 at_238 rfl rfl ?_
        refine Go.if_icmpne 247 243 at_240 (by decide) rfl rfl (fun u2 => ?_) (fun u2 => ?_)
        · refine Go.iload_n 248 at_247 rfl rfl ?_
          refine Go.iconst (1) 249 at_248 rfl rfl ?_
          refine Go.if_icmple 266 252 at_249 (by decide) rfl rfl (fun q348 => absurd (by decide) q348) (fun q348 => ?_)
          refine Go.iload 254 at_252 rfl rfl ?_
          refine Go.invokestatic (rest := []) 0 [.int ((XT.ushr s_ (4 : Int32)) &&& (15 : Int32))] 257 at_254 rfl (W.1 72 rfl) (W.1 73 rfl) (W.1 2 rfl) (W.1 74 rfl) (by decide) (cKey W ) (by decide +kernel : parseMethodDescriptor "(I)I" = some ⟨[.int], (some .int)⟩) rfl rfl rfl (nl rfl) (nl rfl) (nl rfl) (nl rfl) (nl rfl) (fun v349 vm349 h349 ⟨rv, hh⟩ c349 => ?_)
          subst rv; replace hh := hh.symm; subst hh
          refine Go.iload 259 at_257 rfl rfl ?_
          refine Go.if_icmpne 266 262 at_259 (by decide) rfl rfl (fun u1 => ?_) (fun u1 => ?_)
          · refine Go.iload_n 267 at_266 rfl rfl ?_
            refine Go.ifle 284 270 at_267 (by decide) rfl rfl (fun q350 => absurd (by decide) q350) (fun q350 => ?_)
            refine Go.iload 272 at_270 rfl rfl ?_
            refine Go.invokestatic (rest := []) 0 [.int (s_ &&& (15 : Int32))] 275 at_272 rfl (W.1 72 rfl) (W.1 73 rfl) (W.1 2 rfl) (W.1 74 rfl) (by decide) (cKey W ) (by decide +kernel : parseMethodDescriptor "(I)I" = some ⟨[.int], (some .int)⟩) rfl rfl rfl (nl rfl) (nl rfl) (nl rfl) (nl rfl) (nl rfl) (fun v351 vm351 h351 ⟨rv, hh⟩ c351 => ?_)
            subst rv; replace hh := hh.symm; subst hh
            refine Go.iload 277 at_275 rfl rfl ?_
            refine Go.if_icmpne 284 280 at_277 (by decide) rfl rfl (fun u0 => ?_) (fun u0 => ?_)
            · have eg2 : gv = .null := eg.trans (by rw [if_neg (fun z => u0 ((nk s_ (XT.ushr s_ (12 : Int32))).mp z)), if_neg (fun z => u1 ((nk (XT.ushr s_ (4 : Int32)) (XT.ushr s_ (12 : Int32))).mp z)), if_neg (fun z => u2 ((nk (XT.ushr s_ (8 : Int32)) (XT.ushr s_ (12 : Int32))).mp z))])
              subst eg2
              refine Go.aload 286 at_284 rfl rfl rfl ?_
              refine Go.aload 288 at_286 rfl rfl rfl ?_
              refine Go.acmp_n 291 at_288 rfl rfl rfl (by simp [XT.acmp]) ?_
              refine Go.iconst (1) 292 at_291 rfl rfl ?_
              refine Go.goto 296 at_292 (by decide) rfl ?_
              exact Go.ireturn at_296 rfl rfl (by simp) (nl rfl) (nl rfl) (fun vm' ch => rfl)
            · refine Go.aload 282 at_280 rfl rfl rfl ?_
              refine Go.astore #[.val (.int s_), .val (.int u_), .val (.int line), .val (.int (3 : Int32)), .val (.int (s_ &&& (15 : Int32))), .val (.int ((XT.ushr s_ (4 : Int32)) &&& (15 : Int32))), .val (.int ((XT.ushr s_ (8 : Int32)) &&& (15 : Int32))), .val (.int ((XT.ushr s_ (12 : Int32)) &&& (15 : Int32))), .val (.int (0 : Int32)), .val (.ref v0), .val (.ref v1), .val (.ref v2), .val (.ref na), .val (.ref va), .val (.ref qq), .val (.ref xe), .val gv, .val (.ref v0), .val (.int (keyV ((XT.ushr s_ (12 : Int32)) &&& (15 : Int32))))] 284 at_282 rfl rfl rfl ?_
              have eg2 : gv = .ref v0 := eg.trans (by rw [if_pos ((nk s_ (XT.ushr s_ (12 : Int32))).mpr u0)])
              subst eg2
              refine Go.aload 286 at_284 rfl rfl rfl ?_
              refine Go.aload 288 at_286 rfl rfl rfl ?_
              refine Go.acmp_n 291 at_288 rfl rfl rfl (by simp [XT.acmp]) ?_
              refine Go.iconst (1) 292 at_291 rfl rfl ?_
              refine Go.goto 296 at_292 (by decide) rfl ?_
              exact Go.ireturn at_296 rfl rfl (by simp) (nl rfl) (nl rfl) (fun vm' ch => rfl)
          · refine Go.aload 264 at_262 rfl rfl rfl ?_
            refine Go.astore #[.val (.int s_), .val (.int u_), .val (.int line), .val (.int (3 : Int32)), .val (.int (s_ &&& (15 : Int32))), .val (.int ((XT.ushr s_ (4 : Int32)) &&& (15 : Int32))), .val (.int ((XT.ushr s_ (8 : Int32)) &&& (15 : Int32))), .val (.int ((XT.ushr s_ (12 : Int32)) &&& (15 : Int32))), .val (.int (0 : Int32)), .val (.ref v0), .val (.ref v1), .val (.ref v2), .val (.ref na), .val (.ref va), .val (.ref qq), .val (.ref xe), .val gv, .val (.ref v1), .val (.int (keyV ((XT.ushr s_ (12 : Int32)) &&& (15 : Int32))))] 266 at_264 rfl rfl rfl ?_
            refine Go.iload_n 267 at_266 rfl rfl ?_
            refine Go.ifle 284 270 at_267 (by decide) rfl rfl (fun q352 => absurd (by decide) q352) (fun q352 => ?_)
            refine Go.iload 272 at_270 rfl rfl ?_
            refine Go.invokestatic (rest := []) 0 [.int (s_ &&& (15 : Int32))] 275 at_272 rfl (W.1 72 rfl) (W.1 73 rfl) (W.1 2 rfl) (W.1 74 rfl) (by decide) (cKey W ) (by decide +kernel : parseMethodDescriptor "(I)I" = some ⟨[.int], (some .int)⟩) rfl rfl rfl (nl rfl) (nl rfl) (nl rfl) (nl rfl) (nl rfl) (fun v353 vm353 h353 ⟨rv, hh⟩ c353 => ?_)
            subst rv; replace hh := hh.symm; subst hh
            refine Go.iload 277 at_275 rfl rfl ?_
            refine Go.if_icmpne 284 280 at_277 (by decide) rfl rfl (fun u0 => ?_) (fun u0 => ?_)
            · have eg2 : gv = .ref v1 := eg.trans (by rw [if_neg (fun z => u0 ((nk s_ (XT.ushr s_ (12 : Int32))).mp z)), if_pos ((nk (XT.ushr s_ (4 : Int32)) (XT.ushr s_ (12 : Int32))).mpr u1)])
              subst eg2
              refine Go.aload 286 at_284 rfl rfl rfl ?_
              refine Go.aload 288 at_286 rfl rfl rfl ?_
              refine Go.acmp_n 291 at_288 rfl rfl rfl (by simp [XT.acmp]) ?_
              refine Go.iconst (1) 292 at_291 rfl rfl ?_
              refine Go.goto 296 at_292 (by decide) rfl ?_
              exact Go.ireturn at_296 rfl rfl (by simp) (nl rfl) (nl rfl) (fun vm' ch => rfl)
            · refine Go.aload 282 at_280 rfl rfl rfl ?_
              refine Go.astore #[.val (.int s_), .val (.int u_), .val (.int line), .val (.int (3 : Int32)), .val (.int (s_ &&& (15 : Int32))), .val (.int ((XT.ushr s_ (4 : Int32)) &&& (15 : Int32))), .val (.int ((XT.ushr s_ (8 : Int32)) &&& (15 : Int32))), .val (.int ((XT.ushr s_ (12 : Int32)) &&& (15 : Int32))), .val (.int (0 : Int32)), .val (.ref v0), .val (.ref v1), .val (.ref v2), .val (.ref na), .val (.ref va), .val (.ref qq), .val (.ref xe), .val gv, .val (.ref v0), .val (.int (keyV ((XT.ushr s_ (12 : Int32)) &&& (15 : Int32))))] 284 at_282 rfl rfl rfl ?_
              have eg2 : gv = .ref v0 := eg.trans (by rw [if_pos ((nk s_ (XT.ushr s_ (12 : Int32))).mpr u0)])
              subst eg2
              refine Go.aload 286 at_284 rfl rfl rfl ?_
              refine Go.aload 288 at_286 rfl rfl rfl ?_
              refine Go.acmp_n 291 at_288 rfl rfl rfl (by simp [XT.acmp]) ?_
              refine Go.iconst (1) 292 at_291 rfl rfl ?_
              refine Go.goto 296 at_292 (by decide) rfl ?_
              exact Go.ireturn at_296 rfl rfl (by simp) (nl rfl) (nl rfl) (fun vm' ch => rfl)
        · refine Go.aload 245 at_243 rfl rfl rfl ?_
          refine Go.astore #[.val (.int s_), .val (.int u_), .val (.int line), .val (.int (3 : Int32)), .val (.int (s_ &&& (15 : Int32))), .val (.int ((XT.ushr s_ (4 : Int32)) &&& (15 : Int32))), .val (.int ((XT.ushr s_ (8 : Int32)) &&& (15 : Int32))), .val (.int ((XT.ushr s_ (12 : Int32)) &&& (15 : Int32))), .val (.int (0 : Int32)), .val (.ref v0), .val (.ref v1), .val (.ref v2), .val (.ref na), .val (.ref va), .val (.ref qq), .val (.ref xe), .val gv, .val (.ref v2), .val (.int (keyV ((XT.ushr s_ (12 : Int32)) &&& (15 : Int32))))] 247 at_245 rfl rfl rfl ?_
          refine Go.iload_n 248 at_247 rfl rfl ?_
          refine Go.iconst (1) 249 at_248 rfl rfl ?_
          refine Go.if_icmple 266 252 at_249 (by decide) rfl rfl (fun q354 => absurd (by decide) q354) (fun q354 => ?_)
          refine Go.iload 254 at_252 rfl rfl ?_
          refine Go.invokestatic (rest := []) 0 [.int ((XT.ushr s_ (4 : Int32)) &&& (15 : Int32))] 257 at_254 rfl (W.1 72 rfl) (W.1 73 rfl) (W.1 2 rfl) (W.1 74 rfl) (by decide) (cKey W ) (by decide +kernel : parseMethodDescriptor "(I)I" = some ⟨[.int], (some .int)⟩) rfl rfl rfl (nl rfl) (nl rfl) (nl rfl) (nl rfl) (nl rfl) (fun v355 vm355 h355 ⟨rv, hh⟩ c355 => ?_)
          subst rv; replace hh := hh.symm; subst hh
          refine Go.iload 259 at_257 rfl rfl ?_
          refine Go.if_icmpne 266 262 at_259 (by decide) rfl rfl (fun u1 => ?_) (fun u1 => ?_)
          · refine Go.iload_n 267 at_266 rfl rfl ?_
            refine Go.ifle 284 270 at_267 (by decide) rfl rfl (fun q356 => absurd (by decide) q356) (fun q356 => ?_)
            refine Go.iload 272 at_270 rfl rfl ?_
            refine Go.invokestatic (rest := []) 0 [.int (s_ &&& (15 : Int32))] 275 at_272 rfl (W.1 72 rfl) (W.1 73 rfl) (W.1 2 rfl) (W.1 74 rfl) (by decide) (cKey W ) (by decide +kernel : parseMethodDescriptor "(I)I" = some ⟨[.int], (some .int)⟩) rfl rfl rfl (nl rfl) (nl rfl) (nl rfl) (nl rfl) (nl rfl) (fun v357 vm357 h357 ⟨rv, hh⟩ c357 => ?_)
            subst rv; replace hh := hh.symm; subst hh
            refine Go.iload 277 at_275 rfl rfl ?_
            refine Go.if_icmpne 284 280 at_277 (by decide) rfl rfl (fun u0 => ?_) (fun u0 => ?_)
            · have eg2 : gv = .ref v2 := eg.trans (by rw [if_neg (fun z => u0 ((nk s_ (XT.ushr s_ (12 : Int32))).mp z)), if_neg (fun z => u1 ((nk (XT.ushr s_ (4 : Int32)) (XT.ushr s_ (12 : Int32))).mp z)), if_pos ((nk (XT.ushr s_ (8 : Int32)) (XT.ushr s_ (12 : Int32))).mpr u2)])
              subst eg2
              refine Go.aload 286 at_284 rfl rfl rfl ?_
              refine Go.aload 288 at_286 rfl rfl rfl ?_
              refine Go.acmp_n 291 at_288 rfl rfl rfl (by simp [XT.acmp]) ?_
              refine Go.iconst (1) 292 at_291 rfl rfl ?_
              refine Go.goto 296 at_292 (by decide) rfl ?_
              exact Go.ireturn at_296 rfl rfl (by simp) (nl rfl) (nl rfl) (fun vm' ch => rfl)
            · refine Go.aload 282 at_280 rfl rfl rfl ?_
              refine Go.astore #[.val (.int s_), .val (.int u_), .val (.int line), .val (.int (3 : Int32)), .val (.int (s_ &&& (15 : Int32))), .val (.int ((XT.ushr s_ (4 : Int32)) &&& (15 : Int32))), .val (.int ((XT.ushr s_ (8 : Int32)) &&& (15 : Int32))), .val (.int ((XT.ushr s_ (12 : Int32)) &&& (15 : Int32))), .val (.int (0 : Int32)), .val (.ref v0), .val (.ref v1), .val (.ref v2), .val (.ref na), .val (.ref va), .val (.ref qq), .val (.ref xe), .val gv, .val (.ref v0), .val (.int (keyV ((XT.ushr s_ (12 : Int32)) &&& (15 : Int32))))] 284 at_282 rfl rfl rfl ?_
              have eg2 : gv = .ref v0 := eg.trans (by rw [if_pos ((nk s_ (XT.ushr s_ (12 : Int32))).mpr u0)])
              subst eg2
              refine Go.aload 286 at_284 rfl rfl rfl ?_
              refine Go.aload 288 at_286 rfl rfl rfl ?_
              refine Go.acmp_n 291 at_288 rfl rfl rfl (by simp [XT.acmp]) ?_
              refine Go.iconst (1) 292 at_291 rfl rfl ?_
              refine Go.goto 296 at_292 (by decide) rfl ?_
              exact Go.ireturn at_296 rfl rfl (by simp) (nl rfl) (nl rfl) (fun vm' ch => rfl)
          · refine Go.aload 264 at_262 rfl rfl rfl ?_
            refine Go.astore #[.val (.int s_), .val (.int u_), .val (.int line), .val (.int (3 : Int32)), .val (.int (s_ &&& (15 : Int32))), .val (.int ((XT.ushr s_ (4 : Int32)) &&& (15 : Int32))), .val (.int ((XT.ushr s_ (8 : Int32)) &&& (15 : Int32))), .val (.int ((XT.ushr s_ (12 : Int32)) &&& (15 : Int32))), .val (.int (0 : Int32)), .val (.ref v0), .val (.ref v1), .val (.ref v2), .val (.ref na), .val (.ref va), .val (.ref qq), .val (.ref xe), .val gv, .val (.ref v1), .val (.int (keyV ((XT.ushr s_ (12 : Int32)) &&& (15 : Int32))))] 266 at_264 rfl rfl rfl ?_
            refine Go.iload_n 267 at_266 rfl rfl ?_
            refine Go.ifle 284 270 at_267 (by decide) rfl rfl (fun q358 => absurd (by decide) q358) (fun q358 => ?_)
            refine Go.iload 272 at_270 rfl rfl ?_
            refine Go.invokestatic (rest := []) 0 [.int (s_ &&& (15 : Int32))] 275 at_272 rfl (W.1 72 rfl) (W.1 73 rfl) (W.1 2 rfl) (W.1 74 rfl) (by decide) (cKey W ) (by decide +kernel : parseMethodDescriptor "(I)I" = some ⟨[.int], (some .int)⟩) rfl rfl rfl (nl rfl) (nl rfl) (nl rfl) (nl rfl) (nl rfl) (fun v359 vm359 h359 ⟨rv, hh⟩ c359 => ?_)
            subst rv; replace hh := hh.symm; subst hh
            refine Go.iload 277 at_275 rfl rfl ?_
            refine Go.if_icmpne 284 280 at_277 (by decide) rfl rfl (fun u0 => ?_) (fun u0 => ?_)
            · have eg2 : gv = .ref v1 := eg.trans (by rw [if_neg (fun z => u0 ((nk s_ (XT.ushr s_ (12 : Int32))).mp z)), if_pos ((nk (XT.ushr s_ (4 : Int32)) (XT.ushr s_ (12 : Int32))).mpr u1)])
              subst eg2
              refine Go.aload 286 at_284 rfl rfl rfl ?_
              refine Go.aload 288 at_286 rfl rfl rfl ?_
              refine Go.acmp_n 291 at_288 rfl rfl rfl (by simp [XT.acmp]) ?_
              refine Go.iconst (1) 292 at_291 rfl rfl ?_
              refine Go.goto 296 at_292 (by decide) rfl ?_
              exact Go.ireturn at_296 rfl rfl (by simp) (nl rfl) (nl rfl) (fun vm' ch => rfl)
            · refine Go.aload 282 at_280 rfl rfl rfl ?_
              refine Go.astore #[.val (.int s_), .val (.int u_), .val (.int line), .val (.int (3 : Int32)), .val (.int (s_ &&& (15 : Int32))), .val (.int ((XT.ushr s_ (4 : Int32)) &&& (15 : Int32))), .val (.int ((XT.ushr s_ (8 : Int32)) &&& (15 : Int32))), .val (.int ((XT.ushr s_ (12 : Int32)) &&& (15 : Int32))), .val (.int (0 : Int32)), .val (.ref v0), .val (.ref v1), .val (.ref v2), .val (.ref na), .val (.ref va), .val (.ref qq), .val (.ref xe), .val gv, .val (.ref v0), .val (.int (keyV ((XT.ushr s_ (12 : Int32)) &&& (15 : Int32))))] 284 at_282 rfl rfl rfl ?_
              have eg2 : gv = .ref v0 := eg.trans (by rw [if_pos ((nk s_ (XT.ushr s_ (12 : Int32))).mpr u0)])
              subst eg2
              refine Go.aload 286 at_284 rfl rfl rfl ?_
              refine Go.aload 288 at_286 rfl rfl rfl ?_
              refine Go.acmp_n 291 at_288 rfl rfl rfl (by simp [XT.acmp]) ?_
              refine Go.iconst (1) 292 at_291 rfl rfl ?_
              refine Go.goto 296 at_292 (by decide) rfl ?_
              exact Go.ireturn at_296 rfl rfl (by simp) (nl rfl) (nl rfl) (fun vm' ch => rfl)
      · refine Go.ifeq 168 164 at_161 (by decide) rfl rfl (fun q360 => absurd q360 (by decide)) (fun q360 => ?_)
        refine Go.aconst_null 165 at_164 rfl ?_
        refine Go.goto 173 at_165 (by decide) rfl ?_
        refine Go.astore #[.val (.int s_), .val (.int u_), .val (.int line), .val (.int (3 : Int32)), .val (.int (s_ &&& (15 : Int32))), .val (.int ((XT.ushr s_ (4 : Int32)) &&& (15 : Int32))), .val (.int ((XT.ushr s_ (8 : Int32)) &&& (15 : Int32))), .val (.int ((XT.ushr s_ (12 : Int32)) &&& (15 : Int32))), .val (.int (1 : Int32)), .val (.ref v0), .val (.ref v1), .val (.ref v2), .val (.ref na), .val (.ref va), .val (.null), .unset, .unset, .unset, .unset] 175 at_173 rfl rfl rfl ?_
        refine Go.new 178 at_175 rfl (W.1 41 rfl) (W.1 42 rfl) (W.1 43 rfl) (nl rfl) (nl rfl) (fun xe h361 e361 E361 ⟨A361, D361⟩ S361 z361 c361 => ?_)
        refine Go.dup 179 at_178 rfl rfl ?_
        refine Go.new 182 at_179 rfl (W.1 4 rfl) (W.1 5 rfl) (W.1 6 rfl) (nl rfl) (nl rfl) (fun es h362 e362 E362 ⟨A362, D362⟩ S362 z362 c362 => ?_)
        refine Go.dup 183 at_182 rfl rfl ?_
        refine Go.iconst (1) 184 at_183 rfl rfl ?_
        refine Go.newarray 1 186 at_184 rfl (W.1 7 rfl) (by decide) (by decide) (by decide) (nl rfl) (nl rfl) (fun eb h363 e363 E363 ⟨k363, B363⟩ S363 z363 c363 => ?_)
        have A363 : Arv Z h363 eb k363 .char (1 : Int32) [.int 0] (.int 0) := B363.pad (pad_rep [] (.int 0) 1)
        refine Go.dup 187 at_186 rfl rfl ?_
        refine Go.iconst (0) 188 at_187 rfl rfl ?_
        refine Go.bipush (101) 190 at_188 rfl rfl ?_
        refine Go.castore 0 (101 : Int32) [.int (101 : Int32)] 191 at_190 rfl A363 (by decide) rfl (nl rfl) rfl rfl S363 z363 (fun h364 K364 A364 S364 c364 => ?_)
        have E364 := Ext.kp1 E363 K364 e363
        have f366 := D362 (Or.inr (W.1 33 rfl)) (ty := (.array .byte)) (by decide)
        have f367 := D362 (Or.inr (W.1 31 rfl)) (ty := .byte) (by decide)
        have f368 := A362.ext E364
        have f369 := f366.ext E364
        have f370 := f367.ext E364
        have f371 := CHr.safe (CHr.trans c363 c364) A362.lt S362
        have L371 := Nat.lt_of_lt_of_le A362.lt (CHr.trans c363 c364).2.1
        refine goStrNew W 3 [(101 : Int32)] 194 at_191 rfl (W.1 8 rfl) f368 f369 f370 A364 rfl (nl rfl) (nl rfl) (by decide) rfl rfl (nl rfl) (nl rfl) (nl rfl) (nl rfl) (nl rfl) f371 z362 (fun h365 K365 T365 c365 => ?_)
        have E365 := Ext.kp1 (Ext.tr E362 E364) K365 e362
        refine Go.iload_n 195 at_194 rfl rfl ?_
        refine Go.aload 197 at_195 rfl rfl rfl ?_
        refine Go.aload 199 at_197 rfl rfl rfl ?_
        have f372 := D361 (Or.inl (W.1 55 rfl)) (ty := (.object "java/util/List")) (by decide)
        have f373 := D361 (Or.inl (W.1 58 rfl)) (ty := (.object "java/lang/String")) (by decide)
        have f374 := D361 (Or.inr (W.1 60 rfl)) (ty := (.object "java/lang/String")) (by decide)
        have f375 := D361 (Or.inr (W.1 62 rfl)) (ty := .int) (by decide)
        have f376 := D361 (Or.inr (W.1 64 rfl)) (ty := (.array (.object "java/lang/String"))) (by decide)
        have f377 := D361 (Or.inr (W.1 66 rfl)) (ty := (.array (.object "java/lang/String"))) (by decide)
        have f378 := o308.ext (Ext.tr E361 E365)
        have f379 := A308.ext (Ext.tr E361 E365)
        have f380 := t308nm0.ext (Ext.tr E361 E365)
        have f381 := t308nm1.ext (Ext.tr E361 E365)
        have f382 := t308nm2.ext (Ext.tr E361 E365)
        have f383 := A361.ext E365
        have f384 := f372.ext E365
        have f385 := f373.ext E365
        have f386 := f374.ext E365
        have f387 := f375.ext E365
        have f388 := f376.ext E365
        have f389 := f377.ext E365
        have f390 := CHr.safe (CHr.trans c362 (CHr.trans c363 (CHr.trans c364 c365))) A361.lt S361
        have L390 := Nat.lt_of_lt_of_le A361.lt (CHr.trans c362 (CHr.trans c363 (CHr.trans c364 c365))).2.1
        refine Go.invokespecial (rest := [.ref xe]) 1 xe [.ref es, .int line, .ref na, .ref va] 202 at_199 rfl rfl (W.1 44 rfl) (W.1 45 rfl) (W.1 43 rfl) (W.1 46 rfl) (by decide) (cXeInit W (by decide) Le f383 f384 f385 f386 f387 f388 f389 f390 z361) (by decide +kernel : parseMethodDescriptor "(Ljava/lang/String;I[Ljava/lang/String;[Ljava/lang/String;)V" = some ⟨[(.object "java/lang/String"), .int, (.array (.object "java/lang/String")), (.array (.object "java/lang/String"))], none⟩) rfl rfl rfl (nl rfl) (nl rfl) (nl rfl) (nl rfl) (nl rfl) (fun v391 vm391 h391 ⟨rv, K, X, GN, GV⟩ c391 => ?_)
        subst rv
        have AN' := f378.keep K (ninS (fun z => (Exa.neArv f383 f378 (W.1 42 rfl)) z.symm) nin0)
        have AV' := f379.keep K (ninS (fun z => (Exa.neArv f383 f379 (W.1 42 rfl)) z.symm) nin0)
        have T_nm0 := f380.keepE K f383 (by decide) (W.1 42 rfl)
        have T_nm1 := f381.keepE K f383 (by decide) (W.1 42 rfl)
        have T_nm2 := f382.keepE K f383 (by decide) (W.1 42 rfl)
        refine Go.astore #[.val (.int s_), .val (.int u_), .val (.int line), .val (.int (3 : Int32)), .val (.int (s_ &&& (15 : Int32))), .val (.int ((XT.ushr s_ (4 : Int32)) &&& (15 : Int32))), .val (.int ((XT.ushr s_ (8 : Int32)) &&& (15 : Int32))), .val (.int ((XT.ushr s_ (12 : Int32)) &&& (15 : Int32))), .val (.int (1 : Int32)), .val (.ref v0), .val (.ref v1), .val (.ref v2), .val (.ref na), .val (.ref va), .val (.null), .val (.ref xe), .unset, .unset, .unset] 204 at_202 rfl rfl rfl ?_
        refine Go.aload 206 at_204 rfl rfl rfl ?_
        refine Go.aload 208 at_206 rfl rfl rfl ?_
        refine Go.invokevirtual (rest := []) 0 xe [.null] 211 at_208 rfl X (W.1 67 rfl) (W.1 68 rfl) (fun s hs => notFace_of_selects (args := #[]) (mvT hs (W.1 70 rfl))) (W.1 70 rfl) (W.1 69 rfl) (W.1 43 rfl) (W.1 71 rfl) (by decide) (cGet3n W GN GV AN' AV' T_nm0 T_nm1 T_nm2) (by decide +kernel : parseMethodDescriptor "(Ljava/lang/String;)Ljava/lang/String;" = some ⟨[(.object "java/lang/String")], (some (.object "java/lang/String"))⟩) rfl rfl rfl (nl rfl) (nl rfl) (nl rfl) (nl rfl) (nl rfl) (fun v392 vm392 h392 ⟨rv, hh⟩ c392 => ?_)
        subst rv; replace hh := hh.symm; subst hh
        refine Go.astore #[.val (.int s_), .val (.int u_), .val (.int line), .val (.int (3 : Int32)), .val (.int (s_ &&& (15 : Int32))), .val (.int ((XT.ushr s_ (4 : Int32)) &&& (15 : Int32))), .val (.int ((XT.ushr s_ (8 : Int32)) &&& (15 : Int32))), .val (.int ((XT.ushr s_ (12 : Int32)) &&& (15 : Int32))), .val (.int (1 : Int32)), .val (.ref v0), .val (.ref v1), .val (.ref v2), .val (.ref na), .val (.ref va), .val (.null), .val (.ref xe), .val (.null), .unset, .unset] 213 at_211 rfl rfl rfl ?_
        refine Go.aconst_null 214 at_213 rfl ?_
        refine Go.astore #[.val (.int s_), .val (.int u_), .val (.int line), .val (.int (3 : Int32)), .val (.int (s_ &&& (15 : Int32))), .val (.int ((XT.ushr s_ (4 : Int32)) &&& (15 : Int32))), .val (.int ((XT.ushr s_ (8 : Int32)) &&& (15 : Int32))), .val (.int ((XT.ushr s_ (12 : Int32)) &&& (15 : Int32))), .val (.int (1 : Int32)), .val (.ref v0), .val (.ref v1), .val (.ref v2), .val (.ref na), .val (.ref va), .val (.null), .val (.ref xe), .val (.null), .val (.null), .unset] 216 at_214 rfl rfl rfl ?_
        refine Go.iload 218 at_216 rfl rfl ?_
        refine Go.ifne 284 221 at_218 (by decide) rfl rfl (fun q393 => ?_) (fun q393 => absurd q393 (by decide))
        refine Go.aload 286 at_284 rfl rfl rfl ?_
        refine Go.aload 288 at_286 rfl rfl rfl ?_
        refine Go.acmp_n 291 at_288 rfl rfl rfl (by simp [XT.acmp]) ?_
        refine Go.iconst (1) 292 at_291 rfl rfl ?_
        refine Go.goto 296 at_292 (by decide) rfl ?_
        exact Go.ireturn at_296 rfl rfl (by simp) (nl rfl) (nl rfl) (fun vm' ch => rfl)
    refine Go.if_icmpne 55 51 at_48 (by decide) rfl rfl (fun q394 => ?_) (fun q394 => ?_)
    · refine Go.iconst (0) 56 at_55 rfl rfl ?_
      exact J56 _ (Or.inl rfl)
    · refine Go.iconst (1) 52 at_51 rfl rfl ?_
      refine Go.goto 56 at_52 (by decide) rfl ?_
      exact J56 _ (Or.inr rfl)
set_option maxRecDepth 65536 in
theorem comes_1 {Post : Tables → Env → Array Value → State → Outcome → State → Prop} (hpost : ∀ tb e args s v u, (limb_1_1.after args s (.returned v) u = true ∧ limb_1_2.after args s (.returned v) u = true ∧ True) → Jvm.D.FramedW s (.returned v) u (Jvm.fieldLocs frame_1_writes args s ++ Jvm.arrayLocs frame_1_arrays args s ++ Jvm.staticLocs frame_1_statics s) 72 2304 → Post tb e args s (.returned v) u) :
    ArmFor flags0 classFile x code maxLocals ret World_1 tables_1 room_1 Calls_1 rest_1 Pre_1 Post := by
  intro l hfl _ _ p e ha hc hk s m args below hf hA hF happ hP
  obtain ⟨hcalls, hrest, hpre⟩ := hP
  obtain ⟨-, -, -, hnamed, -, -, -, hat⟩ := (Spec.applies_iff hf).mp happ
  obtain ⟨hg, hn⟩ := and_e (Cond.before_iff.mp (show (Jvm.Cond.and given_1 narrow_1).before args s = true from hpre))
  obtain ⟨g0, r0⟩ := and_e hg
  obtain ⟨g1, r1⟩ := and_e r0
  obtain ⟨g2, r2⟩ := and_e r1
  obtain ⟨w0, w1, w2, rfl⟩ : ∃ w0 w1 w2 : Value, args = #[w0, w1, w2] := by
    have hs : args.size = 3 := by simpa [Cond.value, given_1] using g0
    obtain ⟨L⟩ := args
    match L, hs with
    | [w0, w1, w2], _ => exact ⟨w0, w1, w2, rfl⟩
  have hw := fun d (hd : d ∈ tables_1) => atoms_spec (ws := Jvm.Cond.code x code maxLocals ret :: tables_1) hat d (List.mem_cons_of_mem _ hd)
  obtain ⟨hsets, hown0⟩ := atoms_of _ (rest_1_c_eq ▸ (show rest_1_c.before _ s = true from hrest))
  obtain ⟨i0, ei0⟩ := is_v g1
  obtain rfl : w0 = (.int i0) := Option.some.inj ei0
  obtain ⟨i1, ei1⟩ := is_v g2
  obtain rfl : w1 = (.int i1) := Option.some.inj ei1
  obtain ⟨i2, ei2⟩ := is_v r2
  obtain rfl : w2 = (.int i2) := Option.some.inj ei2
  have n5 := not_v (Cond.before_iff.mp (hsets _ (List.mem_of_getElem? (i := 2) rfl)))
  obtain ⟨zz, ez⟩ := is_v (Cond.before_iff.mp (hsets _ (List.mem_of_getElem? (i := 1) rfl)))
  have Sz : Sta s s.heap "java/lang/String" "COMPACT_STRINGS" "Z" (.int zz) := Sta.start ez (Or.inl (hsets _ (List.mem_of_getElem? (i := 0) rfl)))
  obtain ⟨vf, ef, rf⟩ := isR_v (Cond.before_iff.mp (hsets _ (List.mem_of_getElem? (i := 8) rfl)))
  have Sf : Sta s s.heap "jdk/internal/util/Preconditions" "SIOOBE_FORMATTER" "Ljava/util/function/BiFunction;" vf := Sta.start ef (Or.inl (hsets _ (List.mem_of_getElem? (i := 7) rfl)))
  have cz : ¬ (zz = (0 : Int32)) := gotF (Cond.eq_ints ez (Term.int_eval (0))) n5
  have W : Wd s #[.int i0, .int i1, .int i2] := ⟨fun k _ q => hw _ (List.mem_of_getElem? q), ⟨zz, Sz, cz⟩, vf, Sf, rf⟩
  obtain ⟨le, ele⟩ := exa_v (Cond.before_iff.mp (hsets _ (List.mem_of_getElem? (i := 11) rfl)))
  have hLe : Sta s s.heap "java/util/ImmutableCollections" "EMPTY_LIST" "Ljava/util/ImmutableCollections$ListN;" (.ref le) := Sta.start ele (Or.inl (hsets _ (List.mem_of_getElem? (i := 10) rfl)))
  have hEW : EW s #[.int i0, .int i1, .int i2] consts_1 := (EW.cons (W.1 56 rfl) (by decide +kernel) (EW.cons (W.1 38 rfl) (by decide +kernel) EW.nil))
  have H : CHv s consts_1 s.vm s.heap := CHv.start hEW (fun p hp => hcalls.1 p hp) (hsets _ (List.mem_of_getElem? (i := 2) rfl)) (W.1 23 rfl) (W.1 5 rfl)
  obtain ⟨n, o, h1, h2, h3, v, L, rfl, q1, -, -, N, hq, hnw⟩ := cLaw W (s_ := i0) (u_ := i1) (line := i2) (l := l) hLe tables_1 p e ha hc hk s m _ below hf ((Spec.applies_iff_loose hf).mp happ).1 ⟨rfl, State.Warmed39.refl s, rfl, CHr.refl H, Ext.rfl' _, hEW⟩ trivial
  subst q1
  obtain ⟨a1, a2, a3, a4⟩ := hq
  refine ⟨n, _, h1, h2, h3, hpost _ _ _ _ _ _ ⟨Cond.after_iff.mpr rfl, Cond.after_iff.mpr (eq_i res_at (Term.int_eval (1)) rfl), trivial⟩ ⟨a1, a2, a3, (a4.sift fun y hy => Or.inr (N y hy)).mono (by decide) (by decide)⟩⟩
theorem main_1_1 : Claimed_1_1 := comes_1 fun _ _ _ _ _ _ h hF => ⟨h.1, hF⟩
theorem main_1_2 : Claimed_1_2 := comes_1 fun _ _ _ _ _ _ h hF => ⟨h.2.1, hF⟩
end Jvm.Pilot.@@N@@
namespace Jvm.Pilot.@@N@@
open Jvm Jvm.ClassFile Sem Op Lib Jvm.Free Jvm.Stand Jvm.Pilot.@@N@@.Jvm.D
/-! MADE BY PROGRAM (witnessworld.py) out of the Statement's table words and the real class files: 32 classes; the members and pool entries that the words name. The judged class is class 1, her method 4. -/
namespace start1
open Jvm.ClassFile
def u (s : String) : CpInfo := .utf8 (stringToUtf16 s)
/-- a pool by its gaps: so many unusable entries, then the entry; so many at the end -/
def gap : Nat → List CpInfo → List CpInfo
  | 0, r => r
  | n + 1, r => .unusable :: gap n r
def poolList (es : List (Nat × CpInfo)) (last : Nat) : List CpInfo := es.foldr (fun e r => gap e.1 (e.2 :: r)) (gap last [])
def pool (es : List (Nat × CpInfo)) (last : Nat) : Array CpInfo := ⟨poolList es last⟩
def fileOf (pool : Array CpInfo) (this : Nat) (attrs : Array Attribute := #[]) (ms : Array MethodInfo := #[]) (fl : Nat := 33) (sup : Nat := 0) (ifs : Array Nat := #[]) (fds : Array FieldInfo := #[]) : ClassFile where
  minorVersion := 0
  majorVersion := 65
  constantPool := pool
  accessFlags := fl
  thisClass := this
  superClass := sup
  interfaces := ifs
  fields := fds
  methods := ms
  attributes := attrs
def plain (name : String) (sup : Option ClassId) : Class where
  name := name
  kind := .ordinary
  loader := none
  accessFlags := 33
  super := sup
  interfaces := #[]
  cf := none
  fields := #[]
  methods := #[]
  instanceTypes := #[]
  staticTypes := #[]
  resolved := #[]
  callSites := []
  init := .initialized
  statics := none
  mirror := none

def pool0 : Array CpInfo := pool [(5, u "<init>"), (0, u "()V"), (1, .class_ 10), (1, u "java/lang/Object")] 113

def k0c0 : Code := { maxStack := 0, maxLocals := 1, code := object_method_1_code, exceptionTable := #[], attributes := #[] }
def k0m0 : Method := { name := "<init>", desc := "()V", sig := { parameters := [], returnType := none }, accessFlags := 1, code := some k0c0 }
/-- java/lang/Object -/
def k0 : Class := { plain "java/lang/Object" none with
  accessFlags := 33
  interfaces := #[]
  cf := some (fileOf pool0 8 #[] #[{ accessFlags := 1, nameIndex := 5, descriptorIndex := 6, attributes := #[] }] 33 0 #[] #[])
  fields := #[]
  methods := #[k0m0]
  instanceTypes := #[]
  staticTypes := #[]
  resolved := Array.replicate 124 none
  statics := none }

def pool1 : Array CpInfo := pool [(2, .class_ 4), (1, u "java/lang/Object"), (0, u "<init>"), (0, u "()V"), (0, .class_ 8), (0, u "java/lang/String"), (0, .methodref 7 10), (0, .nameAndType 5 11), (0, u "([C)V"), (0, .methodref 13 14), (0, .class_ 15), (0, .nameAndType 16 17), (0, u "com/example/tendril/tendril/xml/XmlElementGetAttributePinLaw"), (0, u "value"), (0, u "(CI)Ljava/lang/String;"), (0, .methodref 13 19), (0, .nameAndType 20 21), (0, u "name"), (0, u "(I)Ljava/lang/String;"), (0, .class_ 23), (0, u "com/example/tendril/tendril/xml/XmlElement"), (0, .methodref 22 25), (0, .nameAndType 5 26), (0, u "(Ljava/lang/String;I[Ljava/lang/String;[Ljava/lang/String;)V"), (0, .methodref 22 28), (0, .nameAndType 29 30), (0, u "getAttribute"), (0, u "(Ljava/lang/String;)Ljava/lang/String;"), (0, .methodref 13 32), (0, .nameAndType 33 34), (0, u "key"), (0, u "(I)I"), (3, u "law"), (0, u "(III)Z")] 4

def k1m0 : Method := { name := "<init>", desc := "()V", sig := { parameters := [], returnType := none }, accessFlags := 1, code := none }
def k1c1 : Code := { maxStack := 6, maxLocals := 4, code := method_2_code, exceptionTable := #[], attributes := #[] }
def k1m1 : Method := { name := "name", desc := "(I)Ljava/lang/String;", sig := { parameters := [.int], returnType := some (.object "java/lang/String") }, accessFlags := 10, code := some k1c1 }
def k1c2 : Code := { maxStack := 3, maxLocals := 2, code := method_3_code, exceptionTable := #[], attributes := #[] }
def k1m2 : Method := { name := "key", desc := "(I)I", sig := { parameters := [.int], returnType := some .int }, accessFlags := 10, code := some k1c2 }
def k1c3 : Code := { maxStack := 7, maxLocals := 2, code := method_4_code, exceptionTable := #[], attributes := #[] }
def k1m3 : Method := { name := "value", desc := "(CI)Ljava/lang/String;", sig := { parameters := [.char, .int], returnType := some (.object "java/lang/String") }, accessFlags := 10, code := some k1c3 }
def k1c4 : Code := { maxStack := 8, maxLocals := 19, code := code, exceptionTable := #[], attributes := #[] }
def k1m4 : Method := { name := "law", desc := "(III)Z", sig := { parameters := [.int, .int, .int], returnType := some .boolean }, accessFlags := 9, code := some k1c4 }
/-- com/example/tendril/tendril/xml/XmlElementGetAttributePinLaw -/
def k1 : Class := { plain "com/example/tendril/tendril/xml/XmlElementGetAttributePinLaw" (some 0) with
  accessFlags := 49
  interfaces := #[]
  cf := some (fileOf pool1 13 #[] #[{ accessFlags := 1, nameIndex := 5, descriptorIndex := 6, attributes := #[] }, { accessFlags := 10, nameIndex := 20, descriptorIndex := 21, attributes := #[] }, { accessFlags := 10, nameIndex := 33, descriptorIndex := 34, attributes := #[] }, { accessFlags := 10, nameIndex := 16, descriptorIndex := 17, attributes := #[] }, { accessFlags := 9, nameIndex := 38, descriptorIndex := 39, attributes := #[] }] 49 2 #[] #[])
  fields := #[]
  methods := #[k1m0, k1m1, k1m2, k1m3, k1m4]
  instanceTypes := #[]
  staticTypes := #[]
  resolved := Array.replicate 44 none
  statics := none }

def pool2 : Array CpInfo := pool [(1, .class_ 2), (0, u "java/io/Serializable"), (0, .class_ 4), (0, u "java/lang/Object")] 2

/-- java/io/Serializable -/
def k2 : Class := { plain "java/io/Serializable" (some 0) with
  accessFlags := 1537
  interfaces := #[]
  cf := some (fileOf pool2 1 #[] #[] 1537 3 #[] #[])
  fields := #[]
  methods := #[]
  instanceTypes := #[]
  staticTypes := #[]
  resolved := Array.replicate 7 none
  statics := none }

def pool3 : Array CpInfo := pool [(1, .class_ 2), (0, u "java/lang/Comparable"), (0, .class_ 4), (0, u "java/lang/Object")] 7

/-- java/lang/Comparable -/
def k3 : Class := { plain "java/lang/Comparable" (some 0) with
  accessFlags := 1537
  interfaces := #[]
  cf := some (fileOf pool3 1 #[] #[] 1537 3 #[] #[])
  fields := #[]
  methods := #[]
  instanceTypes := #[]
  staticTypes := #[]
  resolved := Array.replicate 12 none
  statics := none }

def pool4 : Array CpInfo := pool [(2, .class_ 4), (1, u "java/lang/CharSequence"), (42, .class_ 48), (0, u "java/lang/CharSequence$1CodePointIterator"), (10, .class_ 60), (0, u "java/lang/CharSequence$1CharIterator"), (5, .class_ 67), (0, u "java/lang/Object")] 63

/-- java/lang/CharSequence -/
def k4 : Class := { plain "java/lang/CharSequence" (some 0) with
  accessFlags := 1537
  interfaces := #[]
  cf := some (fileOf pool4 2 #[.nestMembers #[47, 59]] #[] 1537 66 #[] #[])
  fields := #[]
  methods := #[]
  instanceTypes := #[]
  staticTypes := #[]
  resolved := Array.replicate 131 none
  statics := none }

def pool5 : Array CpInfo := pool [(1, .class_ 2), (0, u "java/lang/constant/Constable"), (0, .class_ 4), (0, u "java/lang/Object")] 6

/-- java/lang/constant/Constable -/
def k5 : Class := { plain "java/lang/constant/Constable" (some 0) with
  accessFlags := 1537
  interfaces := #[]
  cf := some (fileOf pool5 1 #[] #[] 1537 3 #[] #[])
  fields := #[]
  methods := #[]
  instanceTypes := #[]
  staticTypes := #[]
  resolved := Array.replicate 11 none
  statics := none }

def pool6 : Array CpInfo := pool [(1, .class_ 2), (0, u "java/lang/constant/ConstantDesc"), (0, .class_ 4), (0, u "java/lang/Object")] 32

/-- java/lang/constant/ConstantDesc -/
def k6 : Class := { plain "java/lang/constant/ConstantDesc" (some 0) with
  accessFlags := 1537
  interfaces := #[]
  cf := some (fileOf pool6 1 #[] #[] 1537 3 #[] #[])
  fields := #[]
  methods := #[]
  instanceTypes := #[]
  staticTypes := #[]
  resolved := Array.replicate 37 none
  statics := none }

def pool7 : Array CpInfo := pool [(1, .methodref 2 3), (0, .class_ 4), (0, .nameAndType 5 6), (0, u "java/lang/Object"), (0, u "<init>"), (0, u "()V"), (0, .string 8), (0, u ""), (0, .fieldref 10 11), (0, .class_ 12), (0, .nameAndType 13 14), (0, u "java/lang/String"), (0, u "value"), (0, u "[B"), (0, .fieldref 10 16), (0, .nameAndType 17 18), (0, u "coder"), (0, u "B"), (2, u "hash"), (0, u "I"), (2, u "hashIsZero"), (0, u "Z"), (0, .methodref 10 28), (0, .nameAndType 5 29), (0, u "([CIILjava/lang/Void;)V"), (8, .fieldref 10 39), (0, .nameAndType 40 26), (0, u "COMPACT_STRINGS"), (1, .class_ 44), (1, u "java/lang/StringUTF16"), (0, u "compress"), (1, .methodref 42 48), (0, .nameAndType 49 50), (0, u "coderFromArrayLen"), (0, u "([BI)B"), (56, .class_ 109), (1, u "java/lang/StringLatin1"), (67, .methodref 42 178), (0, .nameAndType 45 179), (0, u "([CII)[B"), (361, .methodref 107 542), (0, .nameAndType 543 544), (0, u "equals"), (0, u "([B[B)Z"), (28, u "(Ljava/lang/Object;)Z"), (1, .class_ 576), (0, u "java/lang/CharSequence"), (22, u "CASE_INSENSITIVE_ORDER"), (0, u "Ljava/util/Comparator;"), (409, u "([C)V"), (90, u "serialPersistentFields"), (0, u "[Ljava/io/ObjectStreamField;"), (0, .class_ 1104), (0, u "java/lang/String$CaseInsensitiveComparator"), (1, .class_ 1107), (0, u "java/io/Serializable"), (0, .class_ 1109), (0, u "java/lang/Comparable"), (0, .class_ 1111), (0, u "java/lang/constant/Constable"), (0, .class_ 1113), (0, u "java/lang/constant/ConstantDesc"), (2, u "serialVersionUID"), (0, u "J"), (3, u "REPL"), (0, u "C"), (2, u "LATIN1"), (1, u "UTF16")] 323

def k7m0 : Method := { name := "<init>", desc := "()V", sig := { parameters := [], returnType := none }, accessFlags := 1, code := none }
def k7c1 : Code := { maxStack := 5, maxLocals := 2, code := jdk_42_method_3_code, exceptionTable := #[], attributes := #[] }
def k7m1 : Method := { name := "<init>", desc := "([C)V", sig := { parameters := [(.array .char)], returnType := none }, accessFlags := 1, code := some k7c1 }
def k7c2 : Code := { maxStack := 2, maxLocals := 3, code := jdk_42_method_66_code, exceptionTable := #[], attributes := #[] }
def k7m2 : Method := { name := "equals", desc := "(Ljava/lang/Object;)Z", sig := { parameters := [(.object "java/lang/Object")], returnType := some .boolean }, accessFlags := 1, code := some k7c2 }
def k7c3 : Code := { maxStack := 4, maxLocals := 6, code := jdk_42_method_149_code, exceptionTable := #[], attributes := #[] }
def k7m3 : Method := { name := "<init>", desc := "([CIILjava/lang/Void;)V", sig := { parameters := [(.array .char), .int, .int, (.object "java/lang/Void")], returnType := none }, accessFlags := 2, code := some k7c3 }
/-- java/lang/String -/
def k7 : Class := { plain "java/lang/String" (some 0) with
  accessFlags := 49
  interfaces := #[2, 3, 4, 5, 6]
  cf := some (fileOf pool7 10 #[.nestMembers #[1103]] #[{ accessFlags := 1, nameIndex := 5, descriptorIndex := 6, attributes := #[] }, { accessFlags := 1, nameIndex := 5, descriptorIndex := 1010, attributes := #[] }, { accessFlags := 1, nameIndex := 543, descriptorIndex := 573, attributes := #[] }, { accessFlags := 2, nameIndex := 5, descriptorIndex := 29, attributes := #[] }] 49 2 #[1106, 1108, 575, 1110, 1112] #[{ accessFlags := 18, nameIndex := 13, descriptorIndex := 14, attributes := #[] }, { accessFlags := 18, nameIndex := 17, descriptorIndex := 18, attributes := #[] }, { accessFlags := 2, nameIndex := 21, descriptorIndex := 22, attributes := #[] }, { accessFlags := 2, nameIndex := 25, descriptorIndex := 26, attributes := #[] }, { accessFlags := 26, nameIndex := 1116, descriptorIndex := 1117, attributes := #[] }, { accessFlags := 24, nameIndex := 40, descriptorIndex := 26, attributes := #[] }, { accessFlags := 26, nameIndex := 1101, descriptorIndex := 1102, attributes := #[] }, { accessFlags := 26, nameIndex := 1121, descriptorIndex := 1122, attributes := #[] }, { accessFlags := 25, nameIndex := 599, descriptorIndex := 600, attributes := #[] }, { accessFlags := 24, nameIndex := 1125, descriptorIndex := 18, attributes := #[] }, { accessFlags := 24, nameIndex := 1127, descriptorIndex := 18, attributes := #[] }])
  fields := #[{ name := "value", type := (.array .byte), accessFlags := 18, slot := 0, constantValue := 0 }, { name := "coder", type := .byte, accessFlags := 18, slot := 1, constantValue := 0 }, { name := "hash", type := .int, accessFlags := 2, slot := 2, constantValue := 0 }, { name := "hashIsZero", type := .boolean, accessFlags := 2, slot := 3, constantValue := 0 }, { name := "serialVersionUID", type := .long, accessFlags := 26, slot := 0, constantValue := 0 }, { name := "COMPACT_STRINGS", type := .boolean, accessFlags := 24, slot := 1, constantValue := 0 }, { name := "serialPersistentFields", type := (.array (.object "java/io/ObjectStreamField")), accessFlags := 26, slot := 2, constantValue := 0 }, { name := "REPL", type := .char, accessFlags := 26, slot := 3, constantValue := 0 }, { name := "CASE_INSENSITIVE_ORDER", type := (.object "java/util/Comparator"), accessFlags := 25, slot := 4, constantValue := 0 }, { name := "LATIN1", type := .byte, accessFlags := 24, slot := 5, constantValue := 0 }, { name := "UTF16", type := .byte, accessFlags := 24, slot := 6, constantValue := 0 }]
  methods := #[k7m0, k7m1, k7m2, k7m3]
  instanceTypes := #[(.array .byte), .byte, .int, .boolean]
  staticTypes := #[.long, .boolean, (.array (.object "java/io/ObjectStreamField")), .char, (.object "java/util/Comparator"), .byte, .byte]
  resolved := Array.replicate 1451 none
  statics := some 0 }

def pool8 : Array CpInfo := pool [(6, .class_ 8), (1, u "java/lang/Object"), (0, u "<init>"), (0, u "()V"), (1, .class_ 14), (1, u "java/lang/StringUTF16"), (31, u "$assertionsDisabled"), (0, u "Z"), (13, u "HI_BYTE_SHIFT"), (0, u "I"), (2, u "LO_BYTE_SHIFT"), (49, .methodref 12 116), (0, .nameAndType 117 118), (0, u "compress"), (0, u "([CI[BII)I"), (3, u "([CII)[B"), (138, u "coderFromArrayLen"), (0, u "([BI)B"), (106, .class_ 371), (1, u "java/lang/StringUTF16$LinesSpliterator"), (58, u "MAX_LENGTH"), (196, .class_ 628), (0, u "java/lang/StringUTF16$CodePointsSpliterator"), (0, .class_ 630), (0, u "java/lang/StringUTF16$CharsSpliterator")] 4

def k8m0 : Method := { name := "<init>", desc := "()V", sig := { parameters := [], returnType := none }, accessFlags := 0, code := none }
def k8c1 : Code := { maxStack := 2, maxLocals := 2, code := jdk_52_method_15_code, exceptionTable := #[], attributes := #[] }
def k8m1 : Method := { name := "coderFromArrayLen", desc := "([BI)B", sig := { parameters := [(.array .byte), .int], returnType := some .byte }, accessFlags := 8, code := some k8c1 }
def k8c2 : Code := { maxStack := 5, maxLocals := 6, code := jdk_52_method_16_code, exceptionTable := #[], attributes := #[] }
def k8m2 : Method := { name := "compress", desc := "([CII)[B", sig := { parameters := [(.array .char), .int, .int], returnType := some (.array .byte) }, accessFlags := 9, code := some k8c2 }
def k8c3 : Code := { maxStack := 3, maxLocals := 7, code := jdk_52_method_21_code, exceptionTable := #[], attributes := #[] }
def k8m3 : Method := { name := "compress", desc := "([CI[BII)I", sig := { parameters := [(.array .char), .int, (.array .byte), .int, .int], returnType := some .int }, accessFlags := 9, code := some k8c3 }
/-- java/lang/StringUTF16 -/
def k8 : Class := { plain "java/lang/StringUTF16" (some 0) with
  accessFlags := 48
  interfaces := #[]
  cf := some (fileOf pool8 12 #[.nestMembers #[627, 629, 369]] #[{ accessFlags := 0, nameIndex := 9, descriptorIndex := 10, attributes := #[] }, { accessFlags := 8, nameIndex := 261, descriptorIndex := 262, attributes := #[] }, { accessFlags := 9, nameIndex := 117, descriptorIndex := 122, attributes := #[] }, { accessFlags := 9, nameIndex := 117, descriptorIndex := 118, attributes := #[] }] 48 6 #[] #[{ accessFlags := 26, nameIndex := 61, descriptorIndex := 62, attributes := #[] }, { accessFlags := 26, nameIndex := 65, descriptorIndex := 62, attributes := #[] }, { accessFlags := 24, nameIndex := 430, descriptorIndex := 62, attributes := #[] }, { accessFlags := 4120, nameIndex := 46, descriptorIndex := 47, attributes := #[] }])
  fields := #[{ name := "HI_BYTE_SHIFT", type := .int, accessFlags := 26, slot := 0, constantValue := 0 }, { name := "LO_BYTE_SHIFT", type := .int, accessFlags := 26, slot := 1, constantValue := 0 }, { name := "MAX_LENGTH", type := .int, accessFlags := 24, slot := 2, constantValue := 0 }, { name := "$assertionsDisabled", type := .boolean, accessFlags := 4120, slot := 3, constantValue := 0 }]
  methods := #[k8m0, k8m1, k8m2, k8m3]
  instanceTypes := #[]
  staticTypes := #[.int, .int, .int, .boolean]
  resolved := Array.replicate 635 none
  statics := none }

def pool9 : Array CpInfo := pool [(1, .methodref 2 3), (0, .class_ 4), (0, .nameAndType 5 6), (0, u "java/lang/Object"), (0, u "<init>"), (0, u "()V"), (0, .interfaceMethodref 8 9), (0, .class_ 10), (0, .nameAndType 11 12), (0, u "java/util/List"), (0, u "of"), (0, u "()Ljava/util/List;"), (0, .fieldref 14 15), (0, .class_ 16), (0, .nameAndType 17 18), (0, u "com/example/tendril/tendril/xml/XmlElement"), (0, u "children"), (0, u "Ljava/util/List;"), (0, .string 20), (0, u ""), (0, .fieldref 14 22), (0, .nameAndType 23 24), (0, u "text"), (0, u "Ljava/lang/String;"), (0, .fieldref 14 26), (0, .nameAndType 27 24), (0, u "name"), (0, .fieldref 14 29), (0, .nameAndType 30 31), (0, u "line"), (0, u "I"), (0, .fieldref 14 33), (0, .nameAndType 34 35), (0, u "attributeNames"), (0, u "[Ljava/lang/String;"), (0, .fieldref 14 37), (0, .nameAndType 38 35), (0, u "attributeValues"), (0, .methodref 40 41), (0, .class_ 42), (0, .nameAndType 43 44), (0, u "java/lang/String"), (0, u "equals"), (0, u "(Ljava/lang/Object;)Z"), (19, u "(Ljava/lang/String;I[Ljava/lang/String;[Ljava/lang/String;)V"), (6, u "getAttribute"), (0, u "(Ljava/lang/String;)Ljava/lang/String;")] 13

def k9c0 : Code := { maxStack := 2, maxLocals := 5, code := prog_58_method_1_code, exceptionTable := #[], attributes := #[] }
def k9m0 : Method := { name := "<init>", desc := "(Ljava/lang/String;I[Ljava/lang/String;[Ljava/lang/String;)V", sig := { parameters := [(.object "java/lang/String"), .int, (.array (.object "java/lang/String")), (.array (.object "java/lang/String"))], returnType := none }, accessFlags := 0, code := some k9c0 }
def k9c1 : Code := { maxStack := 2, maxLocals := 4, code := prog_58_method_4_code, exceptionTable := #[], attributes := #[] }
def k9m1 : Method := { name := "getAttribute", desc := "(Ljava/lang/String;)Ljava/lang/String;", sig := { parameters := [(.object "java/lang/String")], returnType := some (.object "java/lang/String") }, accessFlags := 0, code := some k9c1 }
/-- com/example/tendril/tendril/xml/XmlElement -/
def k9 : Class := { plain "com/example/tendril/tendril/xml/XmlElement" (some 0) with
  accessFlags := 32
  interfaces := #[]
  cf := some (fileOf pool9 14 #[] #[{ accessFlags := 0, nameIndex := 5, descriptorIndex := 64, attributes := #[] }, { accessFlags := 0, nameIndex := 71, descriptorIndex := 72, attributes := #[] }] 32 2 #[] #[{ accessFlags := 18, nameIndex := 27, descriptorIndex := 24, attributes := #[] }, { accessFlags := 18, nameIndex := 30, descriptorIndex := 31, attributes := #[] }, { accessFlags := 18, nameIndex := 34, descriptorIndex := 35, attributes := #[] }, { accessFlags := 18, nameIndex := 38, descriptorIndex := 35, attributes := #[] }, { accessFlags := 2, nameIndex := 17, descriptorIndex := 18, attributes := #[] }, { accessFlags := 2, nameIndex := 23, descriptorIndex := 24, attributes := #[] }])
  fields := #[{ name := "name", type := (.object "java/lang/String"), accessFlags := 18, slot := 0, constantValue := 0 }, { name := "line", type := .int, accessFlags := 18, slot := 1, constantValue := 0 }, { name := "attributeNames", type := (.array (.object "java/lang/String")), accessFlags := 18, slot := 2, constantValue := 0 }, { name := "attributeValues", type := (.array (.object "java/lang/String")), accessFlags := 18, slot := 3, constantValue := 0 }, { name := "children", type := (.object "java/util/List"), accessFlags := 2, slot := 4, constantValue := 0 }, { name := "text", type := (.object "java/lang/String"), accessFlags := 2, slot := 5, constantValue := 0 }]
  methods := #[k9m0, k9m1]
  instanceTypes := #[(.object "java/lang/String"), .int, (.array (.object "java/lang/String")), (.array (.object "java/lang/String")), (.object "java/util/List"), (.object "java/lang/String")]
  staticTypes := #[]
  resolved := Array.replicate 86 none
  statics := none }

def pool10 : Array CpInfo := pool [(8, .class_ 10), (1, u "java/lang/Iterable"), (24, .class_ 36), (0, u "java/lang/Object")] 25

/-- java/lang/Iterable -/
def k10 : Class := { plain "java/lang/Iterable" (some 0) with
  accessFlags := 1537
  interfaces := #[]
  cf := some (fileOf pool10 8 #[] #[] 1537 35 #[] #[])
  fields := #[]
  methods := #[]
  instanceTypes := #[]
  staticTypes := #[]
  resolved := Array.replicate 62 none
  statics := none }

def pool11 : Array CpInfo := pool [(10, .class_ 12), (1, u "java/util/Collection"), (47, .class_ 61), (0, u "java/lang/Object"), (0, .class_ 63), (0, u "java/lang/Iterable")] 51

/-- java/util/Collection -/
def k11 : Class := { plain "java/util/Collection" (some 0) with
  accessFlags := 1537
  interfaces := #[10]
  cf := some (fileOf pool11 10 #[] #[] 1537 60 #[62] #[])
  fields := #[]
  methods := #[]
  instanceTypes := #[]
  staticTypes := #[]
  resolved := Array.replicate 115 none
  statics := none }

def pool12 : Array CpInfo := pool [(8, .class_ 10), (1, u "java/util/SequencedCollection"), (15, .class_ 27), (0, u "java/lang/Object"), (0, .class_ 29), (0, u "java/util/Collection")] 27

/-- java/util/SequencedCollection -/
def k12 : Class := { plain "java/util/SequencedCollection" (some 0) with
  accessFlags := 1537
  interfaces := #[11]
  cf := some (fileOf pool12 8 #[] #[] 1537 26 #[28] #[])
  fields := #[]
  methods := #[]
  instanceTypes := #[]
  staticTypes := #[]
  resolved := Array.replicate 57 none
  statics := none }

def pool13 : Array CpInfo := pool [(8, .class_ 10), (1, u "java/util/List"), (77, u "of"), (1, .fieldref 91 92), (0, .class_ 93), (0, .nameAndType 94 95), (0, u "java/util/ImmutableCollections"), (0, u "EMPTY_LIST"), (0, u "Ljava/util/ImmutableCollections$ListN;"), (7, .class_ 104), (0, u "java/lang/Object"), (14, u "()Ljava/util/List;"), (0, .class_ 121), (0, u "java/util/SequencedCollection")] 129

def k13c0 : Code := { maxStack := 1, maxLocals := 0, code := jdk_40_method_36_code, exceptionTable := #[], attributes := #[] }
def k13m0 : Method := { name := "of", desc := "()Ljava/util/List;", sig := { parameters := [], returnType := some (.object "java/util/List") }, accessFlags := 9, code := some k13c0 }
/-- java/util/List -/
def k13 : Class := { plain "java/util/List" (some 0) with
  accessFlags := 1537
  interfaces := #[12]
  cf := some (fileOf pool13 8 #[] #[{ accessFlags := 9, nameIndex := 88, descriptorIndex := 119, attributes := #[] }] 1537 103 #[120] #[])
  fields := #[]
  methods := #[k13m0]
  instanceTypes := #[]
  staticTypes := #[]
  resolved := Array.replicate 251 none
  statics := none }

def pool14 : Array CpInfo := pool [(2, .class_ 4), (1, u "java/lang/Object"), (0, u "<init>"), (0, u "()V"), (3, .class_ 11), (0, u "java/util/ImmutableCollections$List12"), (0, .class_ 13), (0, u "java/util/ImmutableCollections$ListN"), (3, u "Z"), (29, .class_ 49), (1, u "java/util/ImmutableCollections"), (0, u "$assertionsDisabled"), (5, u "[Ljava/lang/Object;"), (5, u "EMPTY_LIST"), (0, u "Ljava/util/ImmutableCollections$ListN;"), (8, u "EMPTY_LIST_NULLS"), (22, u "SALT32L"), (0, u "J"), (2, u "REVERSE"), (6, u "archivedObjects"), (2, u "EMPTY"), (0, u "Ljava/lang/Object;"), (0, .class_ 112), (0, u "java/util/ImmutableCollections$SetN"), (5, u "EMPTY_SET"), (0, u "Ljava/util/ImmutableCollections$SetN;"), (0, .class_ 121), (0, u "java/util/ImmutableCollections$MapN"), (3, u "EMPTY_MAP"), (0, u "Ljava/util/ImmutableCollections$MapN;"), (4, u "EXPAND_FACTOR"), (0, u "I"), (36, .class_ 170), (0, u "java/util/ImmutableCollections$MapN$MapNIterator"), (0, .class_ 172), (0, u "java/util/ImmutableCollections$MapN$1"), (0, .class_ 174), (0, u "java/util/ImmutableCollections$Map1"), (0, .class_ 176), (0, u "java/util/ImmutableCollections$AbstractImmutableMap"), (0, .class_ 178), (0, u "java/util/ImmutableCollections$SetN$SetNIterator"), (0, .class_ 180), (0, u "java/util/ImmutableCollections$Set12"), (0, .class_ 182), (0, u "java/util/ImmutableCollections$Set12$1"), (0, .class_ 184), (0, u "java/util/ImmutableCollections$AbstractImmutableSet"), (0, .class_ 186), (0, u "java/util/ImmutableCollections$SubList"), (0, .class_ 188), (0, u "java/util/ImmutableCollections$ListItr"), (0, .class_ 190), (0, u "java/util/ImmutableCollections$AbstractImmutableList"), (0, .class_ 192), (0, u "java/util/ImmutableCollections$AbstractImmutableCollection"), (0, .class_ 194), (0, u "java/util/ImmutableCollections$Access"), (0, .class_ 196), (0, u "java/util/ImmutableCollections$Access$1")] 16

def k14m0 : Method := { name := "<init>", desc := "()V", sig := { parameters := [], returnType := none }, accessFlags := 2, code := none }
/-- java/util/ImmutableCollections -/
def k14 : Class := { plain "java/util/ImmutableCollections" (some 0) with
  accessFlags := 32
  interfaces := #[]
  cf := some (fileOf pool14 47 #[.nestMembers #[120, 169, 171, 173, 175, 111, 177, 179, 181, 183, 12, 10, 185, 187, 189, 191, 193, 195]] #[{ accessFlags := 2, nameIndex := 5, descriptorIndex := 6, attributes := #[] }] 32 2 #[] #[{ accessFlags := 26, nameIndex := 95, descriptorIndex := 96, attributes := #[] }, { accessFlags := 26, nameIndex := 99, descriptorIndex := 17, attributes := #[] }, { accessFlags := 10, nameIndex := 106, descriptorIndex := 56, attributes := #[] }, { accessFlags := 26, nameIndex := 109, descriptorIndex := 110, attributes := #[] }, { accessFlags := 24, nameIndex := 62, descriptorIndex := 63, attributes := #[] }, { accessFlags := 24, nameIndex := 72, descriptorIndex := 63, attributes := #[] }, { accessFlags := 24, nameIndex := 118, descriptorIndex := 119, attributes := #[] }, { accessFlags := 24, nameIndex := 125, descriptorIndex := 126, attributes := #[] }, { accessFlags := 24, nameIndex := 131, descriptorIndex := 132, attributes := #[] }, { accessFlags := 4120, nameIndex := 50, descriptorIndex := 17, attributes := #[] }])
  fields := #[{ name := "SALT32L", type := .long, accessFlags := 26, slot := 0, constantValue := 0 }, { name := "REVERSE", type := .boolean, accessFlags := 26, slot := 1, constantValue := 0 }, { name := "archivedObjects", type := (.array (.object "java/lang/Object")), accessFlags := 10, slot := 2, constantValue := 0 }, { name := "EMPTY", type := (.object "java/lang/Object"), accessFlags := 26, slot := 3, constantValue := 0 }, { name := "EMPTY_LIST", type := (.object "java/util/ImmutableCollections$ListN"), accessFlags := 24, slot := 4, constantValue := 0 }, { name := "EMPTY_LIST_NULLS", type := (.object "java/util/ImmutableCollections$ListN"), accessFlags := 24, slot := 5, constantValue := 0 }, { name := "EMPTY_SET", type := (.object "java/util/ImmutableCollections$SetN"), accessFlags := 24, slot := 6, constantValue := 0 }, { name := "EMPTY_MAP", type := (.object "java/util/ImmutableCollections$MapN"), accessFlags := 24, slot := 7, constantValue := 0 }, { name := "EXPAND_FACTOR", type := .int, accessFlags := 24, slot := 8, constantValue := 0 }, { name := "$assertionsDisabled", type := .boolean, accessFlags := 4120, slot := 9, constantValue := 0 }]
  methods := #[k14m0]
  instanceTypes := #[]
  staticTypes := #[.long, .boolean, (.array (.object "java/lang/Object")), (.object "java/lang/Object"), (.object "java/util/ImmutableCollections$ListN"), (.object "java/util/ImmutableCollections$ListN"), (.object "java/util/ImmutableCollections$SetN"), (.object "java/util/ImmutableCollections$MapN"), .int, .boolean]
  resolved := Array.replicate 213 none
  statics := some 1 }

def pool15 : Array CpInfo := pool [(4, .class_ 6), (1, u "java/lang/Object"), (0, u "<init>"), (0, u "()V"), (5, .class_ 16), (1, u "java/lang/StringLatin1"), (104, u "$assertionsDisabled"), (0, u "Z"), (98, .class_ 223), (1, u "java/lang/StringLatin1$LinesSpliterator"), (57, u "equals"), (0, u "([B[B)Z"), (107, .class_ 391), (0, u "java/lang/StringLatin1$CharsSpliterator")] 3

def k15m0 : Method := { name := "<init>", desc := "()V", sig := { parameters := [], returnType := none }, accessFlags := 0, code := none }
def k15c1 : Code := { maxStack := 3, maxLocals := 3, code := jdk_43_method_13_code, exceptionTable := #[], attributes := #[] }
def k15m1 : Method := { name := "equals", desc := "([B[B)Z", sig := { parameters := [(.array .byte), (.array .byte)], returnType := some .boolean }, accessFlags := 9, code := some k15c1 }
/-- java/lang/StringLatin1 -/
def k15 : Class := { plain "java/lang/StringLatin1" (some 0) with
  accessFlags := 48
  interfaces := #[]
  cf := some (fileOf pool15 14 #[.nestMembers #[390, 221]] #[{ accessFlags := 0, nameIndex := 7, descriptorIndex := 8, attributes := #[] }, { accessFlags := 9, nameIndex := 281, descriptorIndex := 282, attributes := #[] }] 48 4 #[] #[{ accessFlags := 4120, nameIndex := 121, descriptorIndex := 122, attributes := #[] }])
  fields := #[{ name := "$assertionsDisabled", type := .boolean, accessFlags := 4120, slot := 0, constantValue := 0 }]
  methods := #[k15m0, k15m1]
  instanceTypes := #[]
  staticTypes := #[.boolean]
  resolved := Array.replicate 395 none
  statics := none }

def pool16 : Array CpInfo := pool [(2, .class_ 4), (1, u "java/lang/Object"), (0, u "<init>"), (0, u "()V"), (17, .class_ 26), (1, u "jdk/internal/util/Preconditions"), (28, .class_ 56), (0, u "jdk/internal/util/Preconditions$4"), (57, .class_ 115), (0, u "jdk/internal/util/Preconditions$1"), (7, u "SIOOBE_FORMATTER"), (0, u "Ljava/util/function/BiFunction;"), (0, .class_ 126), (0, u "jdk/internal/util/Preconditions$2"), (3, u "AIOOBE_FORMATTER"), (0, .class_ 132), (0, u "jdk/internal/util/Preconditions$3"), (3, u "IOOBE_FORMATTER")] 57

def k16m0 : Method := { name := "<init>", desc := "()V", sig := { parameters := [], returnType := none }, accessFlags := 1, code := none }
/-- jdk/internal/util/Preconditions -/
def k16 : Class := { plain "jdk/internal/util/Preconditions" (some 0) with
  accessFlags := 33
  interfaces := #[]
  cf := some (fileOf pool16 24 #[.nestMembers #[55, 131, 125, 114]] #[{ accessFlags := 1, nameIndex := 5, descriptorIndex := 6, attributes := #[] }] 33 2 #[] #[{ accessFlags := 25, nameIndex := 123, descriptorIndex := 124, attributes := #[] }, { accessFlags := 25, nameIndex := 130, descriptorIndex := 124, attributes := #[] }, { accessFlags := 25, nameIndex := 136, descriptorIndex := 124, attributes := #[] }])
  fields := #[{ name := "SIOOBE_FORMATTER", type := (.object "java/util/function/BiFunction"), accessFlags := 25, slot := 0, constantValue := 0 }, { name := "AIOOBE_FORMATTER", type := (.object "java/util/function/BiFunction"), accessFlags := 25, slot := 1, constantValue := 0 }, { name := "IOOBE_FORMATTER", type := (.object "java/util/function/BiFunction"), accessFlags := 25, slot := 2, constantValue := 0 }]
  methods := #[k16m0]
  instanceTypes := #[]
  staticTypes := #[(.object "java/util/function/BiFunction"), (.object "java/util/function/BiFunction"), (.object "java/util/function/BiFunction")]
  resolved := Array.replicate 194 none
  statics := some 2 }

def pool17 : Array CpInfo := pool [(9, u "<init>"), (6, .class_ 18), (1, u "java/lang/Object"), (0, u "()V"), (1, .class_ 23), (1, u "jdk/internal/util/ArraysSupport"), (0, u "LOG2_ARRAY_LONG_INDEX_SCALE"), (0, u "I"), (2, u "U"), (0, u "Ljdk/internal/misc/Unsafe;"), (8, u "BIG_ENDIAN"), (0, u "Z"), (8, u "LOG2_BYTE_BIT_SIZE"), (4, u "LOG2_ARRAY_INT_INDEX_SCALE"), (54, u "JLA"), (0, u "Ljdk/internal/access/JavaLangAccess;"), (11, u "LOG2_ARRAY_BOOLEAN_INDEX_SCALE"), (9, u "LOG2_ARRAY_BYTE_INDEX_SCALE"), (5, u "LOG2_ARRAY_CHAR_INDEX_SCALE"), (5, u "LOG2_ARRAY_SHORT_INDEX_SCALE"), (18, u "LOG2_ARRAY_FLOAT_INDEX_SCALE"), (24, u "LOG2_ARRAY_DOUBLE_INDEX_SCALE"), (89, u "T_BOOLEAN"), (2, u "T_CHAR"), (1, u "T_FLOAT"), (1, u "T_DOUBLE"), (1, u "T_BYTE"), (1, u "T_SHORT"), (1, u "T_INT"), (1, u "T_LONG"), (1, u "SOFT_MAX_ARRAY_LENGTH")] 83

def k17m0 : Method := { name := "<init>", desc := "()V", sig := { parameters := [], returnType := none }, accessFlags := 2, code := none }
/-- jdk/internal/util/ArraysSupport -/
def k17 : Class := { plain "jdk/internal/util/ArraysSupport" (some 0) with
  accessFlags := 33
  interfaces := #[]
  cf := some (fileOf pool17 21 #[] #[{ accessFlags := 2, nameIndex := 9, descriptorIndex := 19, attributes := #[] }] 33 16 #[] #[{ accessFlags := 24, nameIndex := 28, descriptorIndex := 29, attributes := #[] }, { accessFlags := 26, nameIndex := 38, descriptorIndex := 39, attributes := #[] }, { accessFlags := 25, nameIndex := 121, descriptorIndex := 25, attributes := #[] }, { accessFlags := 25, nameIndex := 131, descriptorIndex := 25, attributes := #[] }, { accessFlags := 25, nameIndex := 137, descriptorIndex := 25, attributes := #[] }, { accessFlags := 25, nameIndex := 143, descriptorIndex := 25, attributes := #[] }, { accessFlags := 25, nameIndex := 53, descriptorIndex := 25, attributes := #[] }, { accessFlags := 25, nameIndex := 24, descriptorIndex := 25, attributes := #[] }, { accessFlags := 25, nameIndex := 162, descriptorIndex := 25, attributes := #[] }, { accessFlags := 25, nameIndex := 187, descriptorIndex := 25, attributes := #[] }, { accessFlags := 26, nameIndex := 48, descriptorIndex := 25, attributes := #[] }, { accessFlags := 25, nameIndex := 277, descriptorIndex := 25, attributes := #[] }, { accessFlags := 25, nameIndex := 280, descriptorIndex := 25, attributes := #[] }, { accessFlags := 25, nameIndex := 282, descriptorIndex := 25, attributes := #[] }, { accessFlags := 25, nameIndex := 284, descriptorIndex := 25, attributes := #[] }, { accessFlags := 25, nameIndex := 286, descriptorIndex := 25, attributes := #[] }, { accessFlags := 25, nameIndex := 288, descriptorIndex := 25, attributes := #[] }, { accessFlags := 25, nameIndex := 290, descriptorIndex := 25, attributes := #[] }, { accessFlags := 25, nameIndex := 292, descriptorIndex := 25, attributes := #[] }, { accessFlags := 26, nameIndex := 108, descriptorIndex := 109, attributes := #[] }, { accessFlags := 25, nameIndex := 294, descriptorIndex := 25, attributes := #[] }])
  fields := #[{ name := "U", type := (.object "jdk/internal/misc/Unsafe"), accessFlags := 24, slot := 0, constantValue := 0 }, { name := "BIG_ENDIAN", type := .boolean, accessFlags := 26, slot := 1, constantValue := 0 }, { name := "LOG2_ARRAY_BOOLEAN_INDEX_SCALE", type := .int, accessFlags := 25, slot := 2, constantValue := 0 }, { name := "LOG2_ARRAY_BYTE_INDEX_SCALE", type := .int, accessFlags := 25, slot := 3, constantValue := 0 }, { name := "LOG2_ARRAY_CHAR_INDEX_SCALE", type := .int, accessFlags := 25, slot := 4, constantValue := 0 }, { name := "LOG2_ARRAY_SHORT_INDEX_SCALE", type := .int, accessFlags := 25, slot := 5, constantValue := 0 }, { name := "LOG2_ARRAY_INT_INDEX_SCALE", type := .int, accessFlags := 25, slot := 6, constantValue := 0 }, { name := "LOG2_ARRAY_LONG_INDEX_SCALE", type := .int, accessFlags := 25, slot := 7, constantValue := 0 }, { name := "LOG2_ARRAY_FLOAT_INDEX_SCALE", type := .int, accessFlags := 25, slot := 8, constantValue := 0 }, { name := "LOG2_ARRAY_DOUBLE_INDEX_SCALE", type := .int, accessFlags := 25, slot := 9, constantValue := 0 }, { name := "LOG2_BYTE_BIT_SIZE", type := .int, accessFlags := 26, slot := 10, constantValue := 0 }, { name := "T_BOOLEAN", type := .int, accessFlags := 25, slot := 11, constantValue := 0 }, { name := "T_CHAR", type := .int, accessFlags := 25, slot := 12, constantValue := 0 }, { name := "T_FLOAT", type := .int, accessFlags := 25, slot := 13, constantValue := 0 }, { name := "T_DOUBLE", type := .int, accessFlags := 25, slot := 14, constantValue := 0 }, { name := "T_BYTE", type := .int, accessFlags := 25, slot := 15, constantValue := 0 }, { name := "T_SHORT", type := .int, accessFlags := 25, slot := 16, constantValue := 0 }, { name := "T_INT", type := .int, accessFlags := 25, slot := 17, constantValue := 0 }, { name := "T_LONG", type := .int, accessFlags := 25, slot := 18, constantValue := 0 }, { name := "JLA", type := (.object "jdk/internal/access/JavaLangAccess"), accessFlags := 26, slot := 19, constantValue := 0 }, { name := "SOFT_MAX_ARRAY_LENGTH", type := .int, accessFlags := 25, slot := 20, constantValue := 0 }]
  methods := #[k17m0]
  instanceTypes := #[]
  staticTypes := #[(.object "jdk/internal/misc/Unsafe"), .boolean, .int, .int, .int, .int, .int, .int, .int, .int, .int, .int, .int, .int, .int, .int, .int, .int, .int, (.object "jdk/internal/access/JavaLangAccess"), .int]
  resolved := Array.replicate 378 none
  statics := none }

def pool18 : Array CpInfo := pool [(2, .class_ 4), (1, u "java/lang/Object"), (0, u "<init>"), (0, u "()V"), (1, .class_ 10), (1, u "java/util/AbstractCollection"), (66, .class_ 78), (0, u "java/util/Collection")] 81

def k18m0 : Method := { name := "<init>", desc := "()V", sig := { parameters := [], returnType := none }, accessFlags := 4, code := none }
/-- java/util/AbstractCollection -/
def k18 : Class := { plain "java/util/AbstractCollection" (some 0) with
  accessFlags := 1057
  interfaces := #[11]
  cf := some (fileOf pool18 8 #[] #[{ accessFlags := 4, nameIndex := 5, descriptorIndex := 6, attributes := #[] }] 1057 2 #[77] #[])
  fields := #[]
  methods := #[k18m0]
  instanceTypes := #[]
  staticTypes := #[]
  resolved := Array.replicate 160 none
  statics := none }

def pool19 : Array CpInfo := pool [(2, .class_ 4), (1, u "java/util/AbstractCollection"), (0, u "<init>"), (0, u "()V"), (1, .class_ 10), (1, u "java/util/ImmutableCollections"), (2, .class_ 14), (0, u "java/util/ImmutableCollections$AbstractImmutableCollection")] 41

def k19m0 : Method := { name := "<init>", desc := "()V", sig := { parameters := [], returnType := none }, accessFlags := 0, code := none }
/-- java/util/ImmutableCollections$AbstractImmutableCollection -/
def k19 : Class := { plain "java/util/ImmutableCollections$AbstractImmutableCollection" (some 18) with
  accessFlags := 1056
  interfaces := #[]
  cf := some (fileOf pool19 13 #[.nestHost 8] #[{ accessFlags := 0, nameIndex := 5, descriptorIndex := 6, attributes := #[] }] 1056 2 #[] #[])
  fields := #[]
  methods := #[k19m0]
  instanceTypes := #[]
  staticTypes := #[]
  resolved := Array.replicate 56 none
  statics := none }

def pool20 : Array CpInfo := pool [(1, .class_ 2), (0, u "java/util/RandomAccess"), (0, .class_ 4), (0, u "java/lang/Object")] 2

/-- java/util/RandomAccess -/
def k20 : Class := { plain "java/util/RandomAccess" (some 0) with
  accessFlags := 1537
  interfaces := #[]
  cf := some (fileOf pool20 1 #[] #[] 1537 3 #[] #[])
  fields := #[]
  methods := #[]
  instanceTypes := #[]
  staticTypes := #[]
  resolved := Array.replicate 7 none
  statics := none }

def pool21 : Array CpInfo := pool [(2, .class_ 4), (1, u "java/util/ImmutableCollections$AbstractImmutableCollection"), (0, u "<init>"), (0, u "()V"), (1, .class_ 10), (1, u "java/util/ImmutableCollections"), (3, .class_ 16), (1, u "java/util/ImmutableCollections$AbstractImmutableList"), (60, .class_ 78), (0, u "java/util/List"), (45, .class_ 125), (0, u "java/util/RandomAccess")] 70

def k21m0 : Method := { name := "<init>", desc := "()V", sig := { parameters := [], returnType := none }, accessFlags := 0, code := none }
/-- java/util/ImmutableCollections$AbstractImmutableList -/
def k21 : Class := { plain "java/util/ImmutableCollections$AbstractImmutableList" (some 19) with
  accessFlags := 1056
  interfaces := #[13, 20]
  cf := some (fileOf pool21 14 #[.nestHost 8] #[{ accessFlags := 0, nameIndex := 5, descriptorIndex := 6, attributes := #[] }] 1056 2 #[77, 124] #[])
  fields := #[]
  methods := #[k21m0]
  instanceTypes := #[]
  staticTypes := #[]
  resolved := Array.replicate 196 none
  statics := none }

def pool22 : Array CpInfo := pool [(2, .class_ 4), (1, u "java/util/ImmutableCollections$AbstractImmutableList"), (3, .class_ 10), (1, u "java/util/ImmutableCollections$ListN"), (0, u "elements"), (0, u "[Ljava/lang/Object;"), (2, u "allowNulls"), (0, u "Z"), (42, .class_ 60), (0, u "java/io/Serializable"), (53, .class_ 115), (0, u "java/util/ImmutableCollections")] 3

/-- java/util/ImmutableCollections$ListN -/
def k22 : Class := { plain "java/util/ImmutableCollections$ListN" (some 21) with
  accessFlags := 48
  interfaces := #[2]
  cf := some (fileOf pool22 8 #[.nestHost 114] #[] 48 2 #[59] #[{ accessFlags := 18, nameIndex := 11, descriptorIndex := 12, attributes := #[] }, { accessFlags := 18, nameIndex := 15, descriptorIndex := 16, attributes := #[] }])
  fields := #[{ name := "elements", type := (.array (.object "java/lang/Object")), accessFlags := 18, slot := 0, constantValue := 0 }, { name := "allowNulls", type := .boolean, accessFlags := 18, slot := 1, constantValue := 0 }]
  methods := #[]
  instanceTypes := #[(.array (.object "java/lang/Object")), .boolean]
  staticTypes := #[]
  resolved := Array.replicate 119 none
  statics := none }

def pool23 : Array CpInfo := pool [(1, u "java/lang/Cloneable"), (0, .class_ 1), (0, u "java/lang/Object"), (0, .class_ 3)] 3

/-- java/lang/Cloneable -/
def k23 : Class := { plain "java/lang/Cloneable" (some 0) with
  accessFlags := 1537
  interfaces := #[]
  cf := some (fileOf pool23 2 #[] #[] 1537 4 #[] #[])
  fields := #[]
  methods := #[]
  instanceTypes := #[]
  staticTypes := #[]
  resolved := Array.replicate 8 none
  statics := none }

/-- the primitive byte -/
def k24 : Class := { plain "byte" none with kind := .primitive 'B', accessFlags := 0x411 }
/-- [B -/
def k25 : Class := { plain "[B" (some 0) with kind := .array 24 .byte, interfaces := #[23, 2], accessFlags := 1041 }

/-- the primitive char -/
def k26 : Class := { plain "char" none with kind := .primitive 'C', accessFlags := 0x411 }
/-- [C -/
def k27 : Class := { plain "[C" (some 0) with kind := .array 26 .char, interfaces := #[23, 2], accessFlags := 1041 }

/-- the primitive int -/
def k28 : Class := { plain "int" none with kind := .primitive 'I', accessFlags := 0x411 }
/-- [I -/
def k29 : Class := { plain "[I" (some 0) with kind := .array 28 .int, interfaces := #[23, 2], accessFlags := 1041 }

/-- [Ljava/lang/Object; -/
def k30 : Class := { plain "[Ljava/lang/Object;" (some 0) with kind := .array 0 (.object "java/lang/Object"), interfaces := #[23, 2], accessFlags := 1041 }

/-- [Ljava/lang/String; -/
def k31 : Class := { plain "[Ljava/lang/String;" (some 0) with kind := .array 7 (.object "java/lang/String"), interfaces := #[23, 2], accessFlags := 1041 }

def heap : Heap := #[{ cls := 7, slots := #[.long 0, .int 1, .null, .int 0, .null, .int 0, .int 0], vm := .statics 7 },
  { cls := 14, slots := #[.long 0, .int 0, .null, .null, .ref 4, .null, .null, .null, .int 0, .int 0], vm := .statics 14 },
  { cls := 16, slots := #[.null, .null, .null], vm := .statics 16 },
  { cls := 30, slots := #[], vm := .none },
  { cls := 22, slots := #[.ref 3, .int 0], vm := .none }]
def classes : Array Class := #[k0, k1, k2, k3, k4, k5, k6, k7, k8, k9, k10, k11, k12, k13, k14, k15, k16, k17, k18, k19, k20, k21, k22, k23, k24, k25, k26, k27, k28, k29, k30, k31]
def interned : List (Array UInt16 × Addr) := []
def slotsUsed : Nat := 22
def theMethod : MethodId := ⟨1, 4⟩
def args0 : Array Value := #[.int 5, .int 6, .int 7]
def aboutOver (below : List Frame) : State where
  vm := { classes := classes, interned := interned.toArray }
  heap := heap
  slotsUsed := slotsUsed
  threads := #[{ frames := .invoking theMethod args0 :: below }]
def below0 : List Frame := [.native { method := ⟨0, 0⟩, args := #[] }]
def about1 : State := aboutOver below0
def p0 : Program := .bare "" "" ""
def e0 : Env := launch0.env 0 0 0
theorem w_frames : about1.frames = Frame.invoking theMethod args0 :: below0 := rfl
set_option maxRecDepth 65536 in
theorem w_args : argsFit about1.vm theMethod args0 = true := by decide +kernel
set_option maxRecDepth 65536 in
theorem w_heap : heapFits about1 = true := by decide +kernel
set_option maxRecDepth 65536 in
theorem w_runnable : about1.curStatus? = some .runnable := by decide +kernel
set_option maxRecDepth 65536 in
theorem w_alone : about1.alone = true := by decide +kernel
set_option maxRecDepth 65536 in
theorem w_named : about1.methodNamed? x = some theMethod := by decide +kernel
set_option maxRecDepth 65536 in
theorem w_hears : about1.hears theMethod below0 = true := by decide +kernel
set_option maxRecDepth 65536 in
theorem w_ripe : about1.ripe theMethod args0 below0 = true := by decide +kernel
theorem w_running : about1.status = .running := rfl
set_option maxRecDepth 65536 in
theorem w_room : about1.hasRoom e0.platform room_1 = true :=
  launch0.hasRoom_least _ room_1 (by decide +kernel) (by decide +kernel) (by decide +kernel) (by decide +kernel) (by decide +kernel) (by decide +kernel)
theorem allAtoms_all (ts : List Jvm.Cond) (a : Array Jvm.Value) (st : Jvm.State) : (allAtoms ts).before a st = ts.all (fun c => c.before a st) := by
  induction ts with
  | nil => rfl
  | cons c t ih =>
    show (Jvm.Cond.and c (allAtoms t)).before a st = _
    rw [Jvm.Cond.before_and, ih, List.all_cons]
def words1 : List Jvm.Cond := Jvm.Cond.code x code maxLocals ret :: tables_1
/-- a 'code' word, met by the world's own term for the bytes: nothing is compared byte by byte -/
theorem code_word {y : MethodName} {bytes : ByteArray} {mx : Nat} {rt : Option FieldType} {a : Array Value} {s : State} {m : MethodId} {meth : Method} {c : Code} (h1 : s.methodNamed? y = some m) (h2 : s.vm.method? m = some meth) (h3 : meth.code = some c) (h4 : c.code = bytes)
    (h5 : (c.maxLocals == mx && c.exceptionTable.isEmpty && decide (c.maxStack ≤ mostOperands) && decide (meth.sig.returnType = rt) && !meth.locks && decide (parseMethodDescriptor y.desc = some meth.sig)) = true) : (Jvm.Cond.code y bytes mx rt).before a s = true := by
  simp only [Bool.and_eq_true, beq_iff_eq, Bool.not_eq_true', decide_eq_true_eq] at h5
  obtain ⟨⟨⟨⟨⟨g1, g2⟩, g3⟩, g4⟩, g5⟩, g6⟩ := h5
  simp [Cond.before, Cond.holds, Cond.value, h1, h2, h3, h4, g1, g2, g3, g4, g5, g6]
def isCode : Jvm.Cond → Bool
  | .code _ _ _ _ => true
  | _ => false
theorem all_split {L : List Jvm.Cond} {P : Jvm.Cond → Bool} (h1 : L.all (fun c => isCode c || P c) = true) (h2 : ∀ c ∈ L.filter isCode, P c = true) : L.all P = true := by
  refine List.all_eq_true.mpr fun c hc => ?_
  have h := List.all_eq_true.mp h1 c hc
  rcases Bool.eq_false_or_eq_true (isCode c) with hi | hi
  · exact h2 c (List.mem_filter.mpr ⟨hc, hi⟩)
  · simpa [hi] using h
set_option maxRecDepth 65536 in
theorem w_c0 : (Jvm.Cond.code x code maxLocals ret).before args0 about1 = true := code_word (m := ⟨1, 4⟩) (meth := k1m4) (c := k1c4) (by decide +kernel) rfl rfl rfl (by decide +kernel)
set_option maxRecDepth 65536 in
theorem w_c1 : (Jvm.Cond.code ({ cls := "com/example/tendril/tendril/xml/XmlElementGetAttributePinLaw", name := "value", desc := "(CI)Ljava/lang/String;" } : Jvm.MethodName) method_4_code (2 : Nat) (Option.some (Jvm.ClassFile.FieldType.object "java/lang/String"))).before args0 about1 = true := code_word (m := ⟨1, 3⟩) (meth := k1m3) (c := k1c3) (by decide +kernel) rfl rfl rfl (by decide +kernel)
set_option maxRecDepth 65536 in
theorem w_c2 : (Jvm.Cond.code ({ cls := "java/lang/String", name := "<init>", desc := "([C)V" } : Jvm.MethodName) jdk_42_method_3_code (2 : Nat) (Option.none : Option Jvm.ClassFile.FieldType)).before args0 about1 = true := code_word (m := ⟨7, 1⟩) (meth := k7m1) (c := k7c1) (by decide +kernel) rfl rfl rfl (by decide +kernel)
set_option maxRecDepth 65536 in
theorem w_c3 : (Jvm.Cond.code ({ cls := "java/lang/String", name := "<init>", desc := "([CIILjava/lang/Void;)V" } : Jvm.MethodName) jdk_42_method_149_code (6 : Nat) (Option.none : Option Jvm.ClassFile.FieldType)).before args0 about1 = true := code_word (m := ⟨7, 3⟩) (meth := k7m3) (c := k7c3) (by decide +kernel) rfl rfl rfl (by decide +kernel)
set_option maxRecDepth 65536 in
theorem w_c4 : (Jvm.Cond.code ({ cls := "java/lang/Object", name := "<init>", desc := "()V" } : Jvm.MethodName) object_method_1_code (1 : Nat) (Option.none : Option Jvm.ClassFile.FieldType)).before args0 about1 = true := code_word (m := ⟨0, 0⟩) (meth := k0m0) (c := k0c0) (by decide +kernel) rfl rfl rfl (by decide +kernel)
set_option maxRecDepth 65536 in
theorem w_c5 : (Jvm.Cond.code ({ cls := "java/lang/StringUTF16", name := "compress", desc := "([CII)[B" } : Jvm.MethodName) jdk_52_method_16_code (6 : Nat) (Option.some (Jvm.ClassFile.FieldType.array Jvm.ClassFile.FieldType.byte))).before args0 about1 = true := code_word (m := ⟨8, 2⟩) (meth := k8m2) (c := k8c2) (by decide +kernel) rfl rfl rfl (by decide +kernel)
set_option maxRecDepth 65536 in
theorem w_c6 : (Jvm.Cond.code ({ cls := "java/lang/StringUTF16", name := "compress", desc := "([CI[BII)I" } : Jvm.MethodName) jdk_52_method_21_code (7 : Nat) (Option.some Jvm.ClassFile.FieldType.int)).before args0 about1 = true := code_word (m := ⟨8, 3⟩) (meth := k8m3) (c := k8c3) (by decide +kernel) rfl rfl rfl (by decide +kernel)
set_option maxRecDepth 65536 in
theorem w_c7 : (Jvm.Cond.code ({ cls := "java/lang/StringUTF16", name := "coderFromArrayLen", desc := "([BI)B" } : Jvm.MethodName) jdk_52_method_15_code (2 : Nat) (Option.some Jvm.ClassFile.FieldType.byte)).before args0 about1 = true := code_word (m := ⟨8, 1⟩) (meth := k8m1) (c := k8c1) (by decide +kernel) rfl rfl rfl (by decide +kernel)
set_option maxRecDepth 65536 in
theorem w_c8 : (Jvm.Cond.code ({ cls := "com/example/tendril/tendril/xml/XmlElementGetAttributePinLaw", name := "name", desc := "(I)Ljava/lang/String;" } : Jvm.MethodName) method_2_code (4 : Nat) (Option.some (Jvm.ClassFile.FieldType.object "java/lang/String"))).before args0 about1 = true := code_word (m := ⟨1, 1⟩) (meth := k1m1) (c := k1c1) (by decide +kernel) rfl rfl rfl (by decide +kernel)
set_option maxRecDepth 65536 in
theorem w_c9 : (Jvm.Cond.code ({ cls := "com/example/tendril/tendril/xml/XmlElement", name := "<init>", desc := "(Ljava/lang/String;I[Ljava/lang/String;[Ljava/lang/String;)V" } : Jvm.MethodName) prog_58_method_1_code (5 : Nat) (Option.none : Option Jvm.ClassFile.FieldType)).before args0 about1 = true := code_word (m := ⟨9, 0⟩) (meth := k9m0) (c := k9c0) (by decide +kernel) rfl rfl rfl (by decide +kernel)
set_option maxRecDepth 65536 in
theorem w_c10 : (Jvm.Cond.code ({ cls := "java/util/List", name := "of", desc := "()Ljava/util/List;" } : Jvm.MethodName) jdk_40_method_36_code (0 : Nat) (Option.some (Jvm.ClassFile.FieldType.object "java/util/List"))).before args0 about1 = true := code_word (m := ⟨13, 0⟩) (meth := k13m0) (c := k13c0) (by decide +kernel) rfl rfl rfl (by decide +kernel)
set_option maxRecDepth 65536 in
theorem w_c11 : (Jvm.Cond.code ({ cls := "com/example/tendril/tendril/xml/XmlElement", name := "getAttribute", desc := "(Ljava/lang/String;)Ljava/lang/String;" } : Jvm.MethodName) prog_58_method_4_code (4 : Nat) (Option.some (Jvm.ClassFile.FieldType.object "java/lang/String"))).before args0 about1 = true := code_word (m := ⟨9, 1⟩) (meth := k9m1) (c := k9c1) (by decide +kernel) rfl rfl rfl (by decide +kernel)
set_option maxRecDepth 65536 in
theorem w_c12 : (Jvm.Cond.code ({ cls := "com/example/tendril/tendril/xml/XmlElementGetAttributePinLaw", name := "key", desc := "(I)I" } : Jvm.MethodName) method_3_code (2 : Nat) (Option.some Jvm.ClassFile.FieldType.int)).before args0 about1 = true := code_word (m := ⟨1, 2⟩) (meth := k1m2) (c := k1c2) (by decide +kernel) rfl rfl rfl (by decide +kernel)
set_option maxRecDepth 65536 in
theorem w_c13 : (Jvm.Cond.code ({ cls := "java/lang/String", name := "equals", desc := "(Ljava/lang/Object;)Z" } : Jvm.MethodName) jdk_42_method_66_code (3 : Nat) (Option.some Jvm.ClassFile.FieldType.boolean)).before args0 about1 = true := code_word (m := ⟨7, 2⟩) (meth := k7m2) (c := k7c2) (by decide +kernel) rfl rfl rfl (by decide +kernel)
set_option maxRecDepth 65536 in
theorem w_c14 : (Jvm.Cond.code ({ cls := "java/lang/StringLatin1", name := "equals", desc := "([B[B)Z" } : Jvm.MethodName) jdk_43_method_13_code (3 : Nat) (Option.some Jvm.ClassFile.FieldType.boolean)).before args0 about1 = true := code_word (m := ⟨15, 1⟩) (meth := k15m1) (c := k15c1) (by decide +kernel) rfl rfl rfl (by decide +kernel)
def codes1 : List Jvm.Cond := [Jvm.Cond.code x code maxLocals ret, Jvm.Cond.code ({ cls := "com/example/tendril/tendril/xml/XmlElementGetAttributePinLaw", name := "value", desc := "(CI)Ljava/lang/String;" } : Jvm.MethodName) method_4_code (2 : Nat) (Option.some (Jvm.ClassFile.FieldType.object "java/lang/String")), Jvm.Cond.code ({ cls := "java/lang/String", name := "<init>", desc := "([C)V" } : Jvm.MethodName) jdk_42_method_3_code (2 : Nat) (Option.none : Option Jvm.ClassFile.FieldType), Jvm.Cond.code ({ cls := "java/lang/String", name := "<init>", desc := "([CIILjava/lang/Void;)V" } : Jvm.MethodName) jdk_42_method_149_code (6 : Nat) (Option.none : Option Jvm.ClassFile.FieldType), Jvm.Cond.code ({ cls := "java/lang/Object", name := "<init>", desc := "()V" } : Jvm.MethodName) object_method_1_code (1 : Nat) (Option.none : Option Jvm.ClassFile.FieldType), Jvm.Cond.code ({ cls := "java/lang/StringUTF16", name := "compress", desc := "([CII)[B" } : Jvm.MethodName) jdk_52_method_16_code (6 : Nat) (Option.some (Jvm.ClassFile.FieldType.array Jvm.ClassFile.FieldType.byte)), Jvm.Cond.code ({ cls := "java/lang/StringUTF16", name := "compress", desc := "([CI[BII)I" } : Jvm.MethodName) jdk_52_method_21_code (7 : Nat) (Option.some Jvm.ClassFile.FieldType.int), Jvm.Cond.code ({ cls := "java/lang/StringUTF16", name := "coderFromArrayLen", desc := "([BI)B" } : Jvm.MethodName) jdk_52_method_15_code (2 : Nat) (Option.some Jvm.ClassFile.FieldType.byte), Jvm.Cond.code ({ cls := "com/example/tendril/tendril/xml/XmlElementGetAttributePinLaw", name := "name", desc := "(I)Ljava/lang/String;" } : Jvm.MethodName) method_2_code (4 : Nat) (Option.some (Jvm.ClassFile.FieldType.object "java/lang/String")), Jvm.Cond.code ({ cls := "com/example/tendril/tendril/xml/XmlElement", name := "<init>", desc := "(Ljava/lang/String;I[Ljava/lang/String;[Ljava/lang/String;)V" } : Jvm.MethodName) prog_58_method_1_code (5 : Nat) (Option.none : Option Jvm.ClassFile.FieldType), Jvm.Cond.code ({ cls := "java/util/List", name := "of", desc := "()Ljava/util/List;" } : Jvm.MethodName) jdk_40_method_36_code (0 : Nat) (Option.some (Jvm.ClassFile.FieldType.object "java/util/List")), Jvm.Cond.code ({ cls := "com/example/tendril/tendril/xml/XmlElement", name := "getAttribute", desc := "(Ljava/lang/String;)Ljava/lang/String;" } : Jvm.MethodName) prog_58_method_4_code (4 : Nat) (Option.some (Jvm.ClassFile.FieldType.object "java/lang/String")), Jvm.Cond.code ({ cls := "com/example/tendril/tendril/xml/XmlElementGetAttributePinLaw", name := "key", desc := "(I)I" } : Jvm.MethodName) method_3_code (2 : Nat) (Option.some Jvm.ClassFile.FieldType.int), Jvm.Cond.code ({ cls := "java/lang/String", name := "equals", desc := "(Ljava/lang/Object;)Z" } : Jvm.MethodName) jdk_42_method_66_code (3 : Nat) (Option.some Jvm.ClassFile.FieldType.boolean), Jvm.Cond.code ({ cls := "java/lang/StringLatin1", name := "equals", desc := "([B[B)Z" } : Jvm.MethodName) jdk_43_method_13_code (3 : Nat) (Option.some Jvm.ClassFile.FieldType.boolean)]
set_option maxRecDepth 65536 in
theorem codes_eq : words1.filter isCode = codes1 := rfl
theorem w_codes : ∀ c ∈ words1.filter isCode, c.before args0 about1 = true := by
  rw [codes_eq]
  intro c hc
  simp only [codes1, List.mem_cons, List.not_mem_nil, or_false] at hc
  rcases hc with rfl | rfl | rfl | rfl | rfl | rfl | rfl | rfl | rfl | rfl | rfl | rfl | rfl | rfl | rfl
  · exact w_c0
  · exact w_c1
  · exact w_c2
  · exact w_c3
  · exact w_c4
  · exact w_c5
  · exact w_c6
  · exact w_c7
  · exact w_c8
  · exact w_c9
  · exact w_c10
  · exact w_c11
  · exact w_c12
  · exact w_c13
  · exact w_c14
set_option maxRecDepth 65536 in
theorem w_t1 : (words1.take 24).all (fun c => isCode c || c.before args0 about1) = true := by decide +kernel
set_option maxRecDepth 65536 in
theorem w_t2 : ((words1.drop 24).take 24).all (fun c => isCode c || c.before args0 about1) = true := by decide +kernel
set_option maxRecDepth 65536 in
theorem w_t3 : (((words1.drop 24).drop 24).take 24).all (fun c => isCode c || c.before args0 about1) = true := by decide +kernel
set_option maxRecDepth 65536 in
theorem w_t4 : (((words1.drop 24).drop 24).drop 24).all (fun c => isCode c || c.before args0 about1) = true := by decide +kernel
theorem w_tables : (allAtoms (Jvm.Cond.code x code maxLocals ret :: tables_1)).before args0 about1 = true := by
  rw [allAtoms_all]
  show words1.all (fun c => c.before args0 about1) = true
  refine all_split ?_ w_codes
  rw [← List.take_append_drop 24 words1, List.all_append, w_t1, ← List.take_append_drop 24 (words1.drop 24), List.all_append, w_t2, ← List.take_append_drop 24 ((words1.drop 24).drop 24), List.all_append, w_t3, w_t4]
  rfl
set_option maxRecDepth 65536 in
theorem w_rest : rest_1_c.before args0 about1 = true := by decide +kernel
set_option maxRecDepth 65536 in
theorem w_case : (Jvm.Cond.and given_1 narrow_1).before args0 about1 = true := by decide +kernel
set_option maxRecDepth 65536 in
theorem w_consts : constsHeld consts_1 about1 := Jvm.Lit.constsHeldB_iff.mp (by decide +kernel)
theorem w_applies : (headSpec (Jvm.Cond.code x code maxLocals ret :: tables_1) room_1).applies x e0.platform about1 = true :=
  (Spec.applies_iff w_frames).mpr ⟨w_running, w_runnable, w_alone, w_named, w_hears, w_ripe, w_room, w_tables⟩
theorem atStart : AtStart classFile x code maxLocals ret World_1 tables_1 room_1 Calls_1 rest_1 Pre_1 launch0 p0 e0 about1 theMethod args0 below0 :=
  ⟨lists_1, trivial, launch0.admits_env _ _ _, launch0.least_env, fairChoices_fair.cas, fairChoices_fair.clock, w_frames, w_args, w_heap, w_applies, ⟨w_consts, trivial⟩, w_rest, w_case⟩
end start1
theorem witness_1 : WitnessClaimed_1 := ⟨start1.p0, start1.e0, start1.about1, start1.theMethod, start1.args0, start1.below0, start1.atStart⟩
end Jvm.Pilot.@@N@@
