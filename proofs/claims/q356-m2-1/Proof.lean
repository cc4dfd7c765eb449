import JvmDerived
import JvmDerived.Pilot.@@N@@Statement
import JvmDerived.Pilot.@@N@@Code
set_option linter.unusedVariables false
set_option linter.unusedSimpArgs false
namespace Jvm.Own
open Sem ClassFile Op Lib Bundle Jvm.Stand Jvm.Free Jvm.LawKit Jvm.RoadKit
theorem nl {a b : Nat} (h : Nat.ble a b = true) : a ≤ b := Nat.le_of_ble_eq_true h
section Core
variable {nw : Bool} {p : Program} {l : Launch} {e : Env} {R : Room} {s : State} {m : MethodId} {args : Array Value} {below : List Frame} {meth : Method} {c : Code} {code : ByteArray} {ml : Nat} {nm : String} {ret : Option FieldType} {Z : State} {a0 : Array Value} {EL : List (String × Nat)} {own : String} {P : Option Value → Vm → Heap → Prop}
variable {vm vm' : Vm} {h h' h0 h1 h2 : Heap} {k n pc : Nat} {L : Array Slot} {S : List Value}
/-- what the walk knows of its tables and heap -/
def On (nw : Bool) (s : State) (m : MethodId) (Z : State) (a0 : Array Value) (EL : List (String × Nat)) (own : String) (vm : Vm) (h : Heap) : Prop :=
  (∃ k0, s.Since vm k0 ∧ k0 ≤ h.size) ∧ Z.Warmed39 vm ∧ vm.findClass own = some m.cls ∧ CHv Z EL vm h ∧ Ext Z.heap h ∧ EW Z a0 EL ∧ (nw = true → s.WarmedH vm)
/-- from the heap h, the tables vm and this frame the body returns, and P holds of what it leaves -/
def Go (nw : Bool) (p : Program) (l : Launch) (e : Env) (R : Room) (s : State) (m : MethodId) (args : Array Value) (below : List Frame) (meth : Method) (c : Code) (code : ByteArray) (ml : Nat) (nm : String) (ret : Option FieldType) (Z : State) (a0 : Array Value) (EL : List (String × Nat)) (own : String) (P : Option Value → Vm → Heap → Prop)
    (vm : Vm) (h : Heap) (k n pc : Nat) (L : Array Slot) (S : List Value) : Prop :=
  p.tables.exec = Jvm.exec → c.code = code → c.maxLocals = ml → meth.locks = false → meth.name = nm → meth.sig.returnType = ret → On nw s m Z a0 EL own vm h →
  ∀ (T : State) (locs : List Loc) (cells slots : Nat), Stand p l e R (s.setVm vm) m args below meth c T locs cells slots → T.heap = h → Fr Z.heap.size locs → cells ≤ k → slots ≤ n →
  ∃ (s₂ : State) (v : Option Value), Steps p.tables e below (T.setTop (mkF m pc L S)) s₂ ∧ s₂.status = .running ∧ Ended s₂ below (.returned v) ∧ P v s₂.vm s₂.heap ∧ CHr Z EL vm h s₂.vm s₂.heap ∧ Ext Z.heap s₂.heap ∧
    ∃ L', Fr Z.heap.size L' ∧ ReturnedEndW s (.returned v) s₂ L' R.cells R.slots ∧ (nw = true → s.WarmedH s₂.vm)
theorem Go.mono {k' n' : Nat} (hk : k ≤ k') (hn : n ≤ n') (g : Go nw p l e R s m args below meth c code ml nm ret Z a0 EL own P vm h k' n' pc L S) : Go nw p l e R s m args below meth c code ml nm ret Z a0 EL own P vm h k n pc L S :=
  fun hx hc hm hl hnm hr hon T locs cells slots X hh hF q1 q2 => g hx hc hm hl hnm hr hon T locs cells slots X hh hF (Nat.le_trans q1 hk) (Nat.le_trans q2 hn)
theorem Go.know (g : Ext Z.heap h → Z.Warmed39 vm → CHv Z EL vm h → Go nw p l e R s m args below meth c code ml nm ret Z a0 EL own P vm h k n pc L S) : Go nw p l e R s m args below meth c code ml nm ret Z a0 EL own P vm h k n pc L S :=
  fun hx hc hm hl hnm hr hon => g hon.2.2.2.2.1 hon.2.1 hon.2.2.2.1 hx hc hm hl hnm hr hon
theorem Go.step {pc' : Nat} {L' : Array Slot} {S' : List Value} (st : ∀ T, At T m c below → p.tables.exec = Jvm.exec → c.code = code → ∀ target, Steps p.tables e below (T.setTop (mkF m pc' L' S')) target → Steps p.tables e below (T.setTop (mkF m pc L S)) target)
    (g : Go nw p l e R s m args below meth c code ml nm ret Z a0 EL own P vm h k n pc' L' S') : Go nw p l e R s m args below meth c code ml nm ret Z a0 EL own P vm h k n pc L S := by
  intro hx hc hm hl hnm hr hon T locs cells slots X hh hF hk hn
  obtain ⟨s₂, v, st2, r⟩ := g hx hc hm hl hnm hr hon T locs cells slots X hh hF hk hn
  exact ⟨s₂, v, st T X.here hx hc _ st2, r⟩
/-- a step that may note an entry of the pool, the heap as it was -/
theorem Go.note {pc' : Nat} {L' : Array Slot} {S' : List Value} (st : ∀ T locs cells slots, Stand p l e R (s.setVm vm) m args below meth c T locs cells slots → T.heap = h → p.tables.exec = Jvm.exec → c.code = code → c.maxLocals = ml → On nw s m Z a0 EL own vm h →
      ∃ T', Stand p l e R (s.setVm vm) m args below meth c T' locs cells slots ∧ T'.heap = h ∧ ∀ target, Steps p.tables e below (T'.setTop (mkF m pc' L' S')) target → Steps p.tables e below (T.setTop (mkF m pc L S)) target)
    (g : Go nw p l e R s m args below meth c code ml nm ret Z a0 EL own P vm h k n pc' L' S') : Go nw p l e R s m args below meth c code ml nm ret Z a0 EL own P vm h k n pc L S := by
  intro hx hc hm hl hnm hr hon T locs cells slots X hh hF hk hn
  obtain ⟨T', X', hh', st2⟩ := st T locs cells slots X hh hx hc hm hon
  obtain ⟨s₂, v, st3, r⟩ := g hx hc hm hl hnm hr hon T' locs cells slots X' hh' hF hk hn
  exact ⟨s₂, v, st2 _ st3, r⟩
theorem On.ext (hon : On nw s m Z a0 EL own vm h) (E : Ext h h') : On nw s m Z a0 EL own vm h' := by
  obtain ⟨⟨k0, a1, a2⟩, a3, a4, a5, a6, a7, a8⟩ := hon
  exact ⟨⟨k0, a1, Nat.le_trans a2 E.1⟩, a3, a4, a5.ext E, ⟨Nat.le_trans a6.1 E.1, fun a c q => E.2 _ _ (a6.2 _ _ q)⟩, a7, a8⟩
theorem On.wr {a : Addr} {sl : Nat} {v : Value} (hon : On nw s m Z a0 EL own vm h) (W : Wr h h' a sl v) (Sa : Safe Z EL vm h a) (hz : Z.heap.size ≤ a) : On nw s m Z a0 EL own vm h' := by
  obtain ⟨⟨k0, a1, a2⟩, a3, a4, a5, a6, a7, a8⟩ := hon
  have O : Old Z Z.heap.size h' := Old.wr (Z := Z) ⟨rfl, a6⟩ W hz
  exact ⟨⟨k0, a1, by rw [W.size]; exact a2⟩, a3, a4, a5.wr W Sa, O.2, a7, a8⟩
/-- a step that makes a cell -/
theorem Go.made {pc' dk dn : Nat} {L' : Array Slot} {S' : Addr → List Value} {F : Heap → Addr → Prop} (hk0 : k + dk ≤ R.cells) (hn0 : n + dn ≤ R.slots)
    (st : ∀ T locs cells slots, Stand p l e R (s.setVm vm) m args below meth c T locs cells slots → T.heap = h → p.tables.exec = Jvm.exec → c.code = code → c.maxLocals = ml → On nw s m Z a0 EL own vm h → cells + dk ≤ R.cells → slots + dn ≤ R.slots →
      ∃ T' h', Stand p l e R (s.setVm vm) m args below meth c T' locs (cells + dk) (slots + dn) ∧ T'.heap = h' ∧ Ext h h' ∧ F h' h.size ∧ ∀ target, Steps p.tables e below (T'.setTop (mkF m pc' L' (S' h.size))) target → Steps p.tables e below (T.setTop (mkF m pc L S)) target)
    (g : ∀ a h', a = h.size → Ext h h' → F h' a → Safe Z EL vm h' a → Z.heap.size ≤ a → CHr Z EL vm h vm h' → Go nw p l e R s m args below meth c code ml nm ret Z a0 EL own P vm h' (k + dk) (n + dn) pc' L' (S' a)) : Go nw p l e R s m args below meth c code ml nm ret Z a0 EL own P vm h k n pc L S := by
  intro hx hc hm hl hnm hr hon T locs cells slots X hh hF hk hn
  obtain ⟨T', h', X', hh', E, Fh, st2⟩ := st T locs cells slots X hh hx hc hm hon (by omega) (by omega)
  have ch : CHr Z EL vm h vm h' := CHr.ext E hon.2.2.2.1
  obtain ⟨s₂, v, st3, r1, r2, r3, r4, r5⟩ := g h.size h' rfl E Fh (Safe.ext E hon.2.2.2.1 (Safe.new (Nat.le_refl _))) hon.2.2.2.2.1.1 ch hx hc hm hl hnm hr (hon.ext E) T' locs (cells + dk) (slots + dn) X' hh' hF (by omega) (by omega)
  exact ⟨s₂, v, st2 _ st3, r1, r2, r3, ch.trans r4, r5⟩
/-- a step that writes one slot of a cell made since the law began -/
theorem Go.wrote {pc' : Nat} {L' : Array Slot} {S' : List Value} {a : Addr} {sl : Nat} {w : Value} (Sa : Safe Z EL vm h a) (hz : Z.heap.size ≤ a)
    (st : ∀ T locs cells slots, Stand p l e R (s.setVm vm) m args below meth c T locs cells slots → T.heap = h → p.tables.exec = Jvm.exec → c.code = code → c.maxLocals = ml → meth.name = nm → On nw s m Z a0 EL own vm h →
      ∃ T' h', Stand p l e R (s.setVm vm) m args below meth c T' (locs ++ [⟨a, sl⟩]) cells slots ∧ T'.heap = h' ∧ Wr h h' a sl w ∧ ∀ target, Steps p.tables e below (T'.setTop (mkF m pc' L' S')) target → Steps p.tables e below (T.setTop (mkF m pc L S)) target)
    (g : ∀ h', Wr h h' a sl w → Safe Z EL vm h' a → CHr Z EL vm h vm h' → Go nw p l e R s m args below meth c code ml nm ret Z a0 EL own P vm h' k n pc' L' S') : Go nw p l e R s m args below meth c code ml nm ret Z a0 EL own P vm h k n pc L S := by
  intro hx hc hm hl hnm hr hon T locs cells slots X hh hF hk hn
  obtain ⟨T', h', X', hh', W, st2⟩ := st T locs cells slots X hh hx hc hm hnm hon
  have ch : CHr Z EL vm h vm h' := CHr.wr W Sa hon.2.2.2.1
  obtain ⟨s₂, v, st3, r1, r2, r3, r4, r5⟩ := g h' W (Safe.wr W Sa hon.2.2.2.1 Sa) ch hx hc hm hl hnm hr (hon.wr W Sa hz) T' _ cells slots X' hh' (Fr.snoc X' hF hz) hk hn
  exact ⟨s₂, v, st2 _ st3, r1, r2, r3, ch.trans r4, r5⟩
theorem Go.iload_n {i : Fin 4} {v : Int32} (pc' : Nat) (hd : decode code pc = .ok (.iload_n i, 1)) (hp : pc + 1 = pc') (hl : L[i.val]? = some (.val (.int v))) (g : Go nw p l e R s m args below meth c code ml nm ret Z a0 EL own P vm h k n pc' L (.int v :: S)) : Go nw p l e R s m args below meth c code ml nm ret Z a0 EL own P vm h k n pc L S := by
  subst hp; exact g.step fun T hT hx hc _ q => XS.iloadN (g := mkF m pc L (S)) hT hx rfl (hb hc hd) hl q
theorem Go.iload {i : Nat} {v : Int32} (pc' : Nat) (hd : decode code pc = .ok (.iload i, 2)) (hp : pc + 2 = pc') (hl : L[i]? = some (.val (.int v))) (g : Go nw p l e R s m args below meth c code ml nm ret Z a0 EL own P vm h k n pc' L (.int v :: S)) : Go nw p l e R s m args below meth c code ml nm ret Z a0 EL own P vm h k n pc L S := by
  subst hp; exact g.step fun T hT hx hc _ q => XS.iload (g := mkF m pc L (S)) hT hx rfl (hb hc hd) hl q
theorem Go.lload_n {i : Fin 4} {v : Int64} (pc' : Nat) (hd : decode code pc = .ok (.lload_n i, 1)) (hp : pc + 1 = pc') (hl : L[i.val]? = some (.val (.long v))) (g : Go nw p l e R s m args below meth c code ml nm ret Z a0 EL own P vm h k n pc' L (.long v :: S)) : Go nw p l e R s m args below meth c code ml nm ret Z a0 EL own P vm h k n pc L S := by
  subst hp; exact g.step fun T hT hx hc _ q => XS.lloadN (g := mkF m pc L (S)) hT hx rfl (hb hc hd) hl q
theorem Go.lload {i : Nat} {v : Int64} (pc' : Nat) (hd : decode code pc = .ok (.lload i, 2)) (hp : pc + 2 = pc') (hl : L[i]? = some (.val (.long v))) (g : Go nw p l e R s m args below meth c code ml nm ret Z a0 EL own P vm h k n pc' L (.long v :: S)) : Go nw p l e R s m args below meth c code ml nm ret Z a0 EL own P vm h k n pc L S := by
  subst hp; exact g.step fun T hT hx hc _ q => XS.lload (g := mkF m pc L (S)) hT hx rfl (hb hc hd) hl q
theorem Go.aload_n {i : Fin 4} {v : Value} (pc' : Nat) (hd : decode code pc = .ok (.aload_n i, 1)) (hp : pc + 1 = pc') (hl : L[i.val]? = some (.val v)) (hv : v.isRef = true) (g : Go nw p l e R s m args below meth c code ml nm ret Z a0 EL own P vm h k n pc' L (v :: S)) : Go nw p l e R s m args below meth c code ml nm ret Z a0 EL own P vm h k n pc L S := by
  subst hp; exact g.step fun T hT hx hc _ q => XS.aloadN (g := mkF m pc L (S)) hT hx rfl (hb hc hd) hl hv q
theorem Go.aload {i : Nat} {v : Value} (pc' : Nat) (hd : decode code pc = .ok (.aload i, 2)) (hp : pc + 2 = pc') (hl : L[i]? = some (.val v)) (hv : v.isRef = true) (g : Go nw p l e R s m args below meth c code ml nm ret Z a0 EL own P vm h k n pc' L (v :: S)) : Go nw p l e R s m args below meth c code ml nm ret Z a0 EL own P vm h k n pc L S := by
  subst hp; exact g.step fun T hT hx hc _ q => XS.aload (g := mkF m pc L (S)) hT hx rfl (hb hc hd) hl hv q
theorem Go.iconst {i : Int} (v : Int32) (pc' : Nat) (hd : decode code pc = .ok (.iconst i, 1)) (hp : pc + 1 = pc') (hv : Int32.ofInt i = v) (g : Go nw p l e R s m args below meth c code ml nm ret Z a0 EL own P vm h k n pc' L (.int v :: S)) : Go nw p l e R s m args below meth c code ml nm ret Z a0 EL own P vm h k n pc L S := by
  subst hp hv; exact g.step fun T hT hx hc _ q => XS.iconst hT hx rfl (hb hc hd) q
theorem Go.bipush {i : Int} (v : Int32) (pc' : Nat) (hd : decode code pc = .ok (.bipush i, 2)) (hp : pc + 2 = pc') (hv : (Int8.ofInt i).toInt32 = v) (g : Go nw p l e R s m args below meth c code ml nm ret Z a0 EL own P vm h k n pc' L (.int v :: S)) : Go nw p l e R s m args below meth c code ml nm ret Z a0 EL own P vm h k n pc L S := by
  subst hp hv; exact g.step fun T hT hx hc _ q => XS.bipush hT hx rfl (hb hc hd) q
theorem Go.sipush {i : Int} (v : Int32) (pc' : Nat) (hd : decode code pc = .ok (.sipush i, 3)) (hp : pc + 3 = pc') (hv : (Int16.ofInt i).toInt32 = v) (g : Go nw p l e R s m args below meth c code ml nm ret Z a0 EL own P vm h k n pc' L (.int v :: S)) : Go nw p l e R s m args below meth c code ml nm ret Z a0 EL own P vm h k n pc L S := by
  subst hp hv; exact g.step fun T hT hx hc _ q => XS.sipush hT hx rfl (hb hc hd) q
theorem Go.lconst {i : Fin 2} (v : Int64) (pc' : Nat) (hd : decode code pc = .ok (.lconst i, 1)) (hp : pc + 1 = pc') (hv : Int64.ofNat i = v) (g : Go nw p l e R s m args below meth c code ml nm ret Z a0 EL own P vm h k n pc' L (.long v :: S)) : Go nw p l e R s m args below meth c code ml nm ret Z a0 EL own P vm h k n pc L S := by
  subst hp hv; exact g.step fun T hT hx hc _ q => XS.lconst hT hx rfl (hb hc hd) q
theorem Go.aconst_null  (pc' : Nat) (hd : decode code pc = .ok (.aconst_null, 1)) (hp : pc + 1 = pc') (g : Go nw p l e R s m args below meth c code ml nm ret Z a0 EL own P vm h k n pc' L (.null :: S)) : Go nw p l e R s m args below meth c code ml nm ret Z a0 EL own P vm h k n pc L S := by
  subst hp; exact g.step fun T hT hx hc _ q => XS.aconstNull (g := mkF m pc L (S)) hT hx rfl (hb hc hd)  q
theorem Go.istore_n {i : Fin 4} {v : Int32} (L' : Array Slot) (pc' : Nat) (hd : decode code pc = .ok (.istore_n i, 1)) (hp : pc + 1 = pc') (hl : storeLocals L i.val (.int v) = some L') (g : Go nw p l e R s m args below meth c code ml nm ret Z a0 EL own P vm h k n pc' L' S) : Go nw p l e R s m args below meth c code ml nm ret Z a0 EL own P vm h k n pc L (.int v :: S) := by
  subst hp; exact g.step fun T hT hx hc _ q => XS.istoreN hT hx rfl (hb hc hd) rfl hl q
theorem Go.istore {i : Nat} {v : Int32} (L' : Array Slot) (pc' : Nat) (hd : decode code pc = .ok (.istore i, 2)) (hp : pc + 2 = pc') (hl : storeLocals L i (.int v) = some L') (g : Go nw p l e R s m args below meth c code ml nm ret Z a0 EL own P vm h k n pc' L' S) : Go nw p l e R s m args below meth c code ml nm ret Z a0 EL own P vm h k n pc L (.int v :: S) := by
  subst hp; exact g.step fun T hT hx hc _ q => XS.istore hT hx rfl (hb hc hd) rfl hl q
theorem Go.lstore_n {i : Fin 4} {v : Int64} (L' : Array Slot) (pc' : Nat) (hd : decode code pc = .ok (.lstore_n i, 1)) (hp : pc + 1 = pc') (hl : storeLocals L i.val (.long v) = some L') (g : Go nw p l e R s m args below meth c code ml nm ret Z a0 EL own P vm h k n pc' L' S) : Go nw p l e R s m args below meth c code ml nm ret Z a0 EL own P vm h k n pc L (.long v :: S) := by
  subst hp; exact g.step fun T hT hx hc _ q => XS.lstoreN hT hx rfl (hb hc hd) rfl hl q
theorem Go.lstore {i : Nat} {v : Int64} (L' : Array Slot) (pc' : Nat) (hd : decode code pc = .ok (.lstore i, 2)) (hp : pc + 2 = pc') (hl : storeLocals L i (.long v) = some L') (g : Go nw p l e R s m args below meth c code ml nm ret Z a0 EL own P vm h k n pc' L' S) : Go nw p l e R s m args below meth c code ml nm ret Z a0 EL own P vm h k n pc L (.long v :: S) := by
  subst hp; exact g.step fun T hT hx hc _ q => XS.lstore hT hx rfl (hb hc hd) rfl hl q
theorem Go.astore_n {i : Fin 4} {v : Value} (L' : Array Slot) (pc' : Nat) (hd : decode code pc = .ok (.astore_n i, 1)) (hp : pc + 1 = pc') (hv : v.isRef = true) (hl : storeLocals L i.val v = some L') (g : Go nw p l e R s m args below meth c code ml nm ret Z a0 EL own P vm h k n pc' L' S) : Go nw p l e R s m args below meth c code ml nm ret Z a0 EL own P vm h k n pc L (v :: S) := by
  subst hp; exact g.step fun T hT hx hc _ q => XS.astoreN hT hx rfl (hb hc hd) rfl hv hl q
theorem Go.astore {i : Nat} {v : Value} (L' : Array Slot) (pc' : Nat) (hd : decode code pc = .ok (.astore i, 2)) (hp : pc + 2 = pc') (hv : v.isRef = true) (hl : storeLocals L i v = some L') (g : Go nw p l e R s m args below meth c code ml nm ret Z a0 EL own P vm h k n pc' L' S) : Go nw p l e R s m args below meth c code ml nm ret Z a0 EL own P vm h k n pc L (v :: S) := by
  subst hp; exact g.step fun T hT hx hc _ q => XS.astore hT hx rfl (hb hc hd) rfl hv hl q
theorem Go.iinc {i : Nat} {cst : Int} {x : Int32} (w : Int32) (L' : Array Slot) (pc' : Nat) (hd : decode code pc = .ok (.iinc i cst, 3)) (hp : pc + 3 = pc') (hl : L[i]? = some (.val (.int x))) (hw : x + Int32.ofInt cst = w) (hl' : storeLocals L i (.int w) = some L') (g : Go nw p l e R s m args below meth c code ml nm ret Z a0 EL own P vm h k n pc' L' S) : Go nw p l e R s m args below meth c code ml nm ret Z a0 EL own P vm h k n pc L S := by
  subst hp hw; exact g.step fun T hT hx hc _ q => XS.iinc hT hx rfl (hb hc hd) hl hl' q
theorem Go.iadd {x y : Int32} (z : Int32) (pc' : Nat) (hd : decode code pc = .ok (.iadd, 1)) (hp : pc + 1 = pc') (hz : x + y = z) (g : Go nw p l e R s m args below meth c code ml nm ret Z a0 EL own P vm h k n pc' L (.int z :: S)) : Go nw p l e R s m args below meth c code ml nm ret Z a0 EL own P vm h k n pc L (.int y :: .int x :: S) := by
  subst hp hz; exact g.step fun T hT hx hc _ q => XS.iadd hT hx rfl (hb hc hd) rfl  q
theorem Go.isub {x y : Int32} (z : Int32) (pc' : Nat) (hd : decode code pc = .ok (.isub, 1)) (hp : pc + 1 = pc') (hz : x - y = z) (g : Go nw p l e R s m args below meth c code ml nm ret Z a0 EL own P vm h k n pc' L (.int z :: S)) : Go nw p l e R s m args below meth c code ml nm ret Z a0 EL own P vm h k n pc L (.int y :: .int x :: S) := by
  subst hp hz; exact g.step fun T hT hx hc _ q => XS.isub hT hx rfl (hb hc hd) rfl  q
theorem Go.imul {x y : Int32} (z : Int32) (pc' : Nat) (hd : decode code pc = .ok (.imul, 1)) (hp : pc + 1 = pc') (hz : x * y = z) (g : Go nw p l e R s m args below meth c code ml nm ret Z a0 EL own P vm h k n pc' L (.int z :: S)) : Go nw p l e R s m args below meth c code ml nm ret Z a0 EL own P vm h k n pc L (.int y :: .int x :: S) := by
  subst hp hz; exact g.step fun T hT hx hc _ q => XS.imul hT hx rfl (hb hc hd) rfl  q
theorem Go.iand {x y : Int32} (z : Int32) (pc' : Nat) (hd : decode code pc = .ok (.iand, 1)) (hp : pc + 1 = pc') (hz : x &&& y = z) (g : Go nw p l e R s m args below meth c code ml nm ret Z a0 EL own P vm h k n pc' L (.int z :: S)) : Go nw p l e R s m args below meth c code ml nm ret Z a0 EL own P vm h k n pc L (.int y :: .int x :: S) := by
  subst hp hz; exact g.step fun T hT hx hc _ q => XS.iand hT hx rfl (hb hc hd) rfl  q
theorem Go.ior {x y : Int32} (z : Int32) (pc' : Nat) (hd : decode code pc = .ok (.ior, 1)) (hp : pc + 1 = pc') (hz : x ||| y = z) (g : Go nw p l e R s m args below meth c code ml nm ret Z a0 EL own P vm h k n pc' L (.int z :: S)) : Go nw p l e R s m args below meth c code ml nm ret Z a0 EL own P vm h k n pc L (.int y :: .int x :: S) := by
  subst hp hz; exact g.step fun T hT hx hc _ q => XS.ior hT hx rfl (hb hc hd) rfl  q
theorem Go.ixor {x y : Int32} (z : Int32) (pc' : Nat) (hd : decode code pc = .ok (.ixor, 1)) (hp : pc + 1 = pc') (hz : x ^^^ y = z) (g : Go nw p l e R s m args below meth c code ml nm ret Z a0 EL own P vm h k n pc' L (.int z :: S)) : Go nw p l e R s m args below meth c code ml nm ret Z a0 EL own P vm h k n pc L (.int y :: .int x :: S) := by
  subst hp hz; exact g.step fun T hT hx hc _ q => XS.ixor hT hx rfl (hb hc hd) rfl  q
theorem Go.ishl {x y : Int32} (z : Int32) (pc' : Nat) (hd : decode code pc = .ok (.ishl, 1)) (hp : pc + 1 = pc') (hz : x <<< (y &&& 31) = z) (g : Go nw p l e R s m args below meth c code ml nm ret Z a0 EL own P vm h k n pc' L (.int z :: S)) : Go nw p l e R s m args below meth c code ml nm ret Z a0 EL own P vm h k n pc L (.int y :: .int x :: S) := by
  subst hp hz; exact g.step fun T hT hx hc _ q => XS.ishl hT hx rfl (hb hc hd) rfl  q
theorem Go.ishr {x y : Int32} (z : Int32) (pc' : Nat) (hd : decode code pc = .ok (.ishr, 1)) (hp : pc + 1 = pc') (hz : x >>> (y &&& 31) = z) (g : Go nw p l e R s m args below meth c code ml nm ret Z a0 EL own P vm h k n pc' L (.int z :: S)) : Go nw p l e R s m args below meth c code ml nm ret Z a0 EL own P vm h k n pc L (.int y :: .int x :: S) := by
  subst hp hz; exact g.step fun T hT hx hc _ q => XS.ishr hT hx rfl (hb hc hd) rfl  q
theorem Go.iushr {x y : Int32} (z : Int32) (pc' : Nat) (hd : decode code pc = .ok (.iushr, 1)) (hp : pc + 1 = pc') (hz : XT.ushr x y = z) (g : Go nw p l e R s m args below meth c code ml nm ret Z a0 EL own P vm h k n pc' L (.int z :: S)) : Go nw p l e R s m args below meth c code ml nm ret Z a0 EL own P vm h k n pc L (.int y :: .int x :: S) := by
  subst hp hz; exact g.step fun T hT hx hc _ q => XS.iushr hT hx rfl (hb hc hd) rfl  q
theorem Go.idiv {x y : Int32} (z : Int32) (pc' : Nat) (hd : decode code pc = .ok (.idiv, 1)) (hp : pc + 1 = pc') (hy : y ≠ 0) (hz : x / y = z) (g : Go nw p l e R s m args below meth c code ml nm ret Z a0 EL own P vm h k n pc' L (.int z :: S)) : Go nw p l e R s m args below meth c code ml nm ret Z a0 EL own P vm h k n pc L (.int y :: .int x :: S) := by
  subst hp hz; exact g.step fun T hT hx hc _ q => XS.idiv hT hx rfl (hb hc hd) rfl hy q
theorem Go.irem {x y : Int32} (z : Int32) (pc' : Nat) (hd : decode code pc = .ok (.irem, 1)) (hp : pc + 1 = pc') (hy : y ≠ 0) (hz : x - (x / y) * y = z) (g : Go nw p l e R s m args below meth c code ml nm ret Z a0 EL own P vm h k n pc' L (.int z :: S)) : Go nw p l e R s m args below meth c code ml nm ret Z a0 EL own P vm h k n pc L (.int y :: .int x :: S) := by
  subst hp hz; exact g.step fun T hT hx hc _ q => XS.irem hT hx rfl (hb hc hd) rfl hy q
theorem Go.ladd {x y : Int64} (z : Int64) (pc' : Nat) (hd : decode code pc = .ok (.ladd, 1)) (hp : pc + 1 = pc') (hz : x + y = z) (g : Go nw p l e R s m args below meth c code ml nm ret Z a0 EL own P vm h k n pc' L (.long z :: S)) : Go nw p l e R s m args below meth c code ml nm ret Z a0 EL own P vm h k n pc L (.long y :: .long x :: S) := by
  subst hp hz; exact g.step fun T hT hx hc _ q => XS.ladd hT hx rfl (hb hc hd) rfl q
theorem Go.lsub {x y : Int64} (z : Int64) (pc' : Nat) (hd : decode code pc = .ok (.lsub, 1)) (hp : pc + 1 = pc') (hz : x - y = z) (g : Go nw p l e R s m args below meth c code ml nm ret Z a0 EL own P vm h k n pc' L (.long z :: S)) : Go nw p l e R s m args below meth c code ml nm ret Z a0 EL own P vm h k n pc L (.long y :: .long x :: S) := by
  subst hp hz; exact g.step fun T hT hx hc _ q => XS.lsub hT hx rfl (hb hc hd) rfl q
theorem Go.lmul {x y : Int64} (z : Int64) (pc' : Nat) (hd : decode code pc = .ok (.lmul, 1)) (hp : pc + 1 = pc') (hz : x * y = z) (g : Go nw p l e R s m args below meth c code ml nm ret Z a0 EL own P vm h k n pc' L (.long z :: S)) : Go nw p l e R s m args below meth c code ml nm ret Z a0 EL own P vm h k n pc L (.long y :: .long x :: S) := by
  subst hp hz; exact g.step fun T hT hx hc _ q => XS.lmul hT hx rfl (hb hc hd) rfl q
theorem Go.land {x y : Int64} (z : Int64) (pc' : Nat) (hd : decode code pc = .ok (.land, 1)) (hp : pc + 1 = pc') (hz : x &&& y = z) (g : Go nw p l e R s m args below meth c code ml nm ret Z a0 EL own P vm h k n pc' L (.long z :: S)) : Go nw p l e R s m args below meth c code ml nm ret Z a0 EL own P vm h k n pc L (.long y :: .long x :: S) := by
  subst hp hz; exact g.step fun T hT hx hc _ q => XS.land hT hx rfl (hb hc hd) rfl q
theorem Go.lor {x y : Int64} (z : Int64) (pc' : Nat) (hd : decode code pc = .ok (.lor, 1)) (hp : pc + 1 = pc') (hz : x ||| y = z) (g : Go nw p l e R s m args below meth c code ml nm ret Z a0 EL own P vm h k n pc' L (.long z :: S)) : Go nw p l e R s m args below meth c code ml nm ret Z a0 EL own P vm h k n pc L (.long y :: .long x :: S) := by
  subst hp hz; exact g.step fun T hT hx hc _ q => XS.lor hT hx rfl (hb hc hd) rfl q
theorem Go.lxor {x y : Int64} (z : Int64) (pc' : Nat) (hd : decode code pc = .ok (.lxor, 1)) (hp : pc + 1 = pc') (hz : x ^^^ y = z) (g : Go nw p l e R s m args below meth c code ml nm ret Z a0 EL own P vm h k n pc' L (.long z :: S)) : Go nw p l e R s m args below meth c code ml nm ret Z a0 EL own P vm h k n pc L (.long y :: .long x :: S) := by
  subst hp hz; exact g.step fun T hT hx hc _ q => XS.lxor hT hx rfl (hb hc hd) rfl q
theorem Go.lshl {x : Int64} {y : Int32} (z : Int64) (pc' : Nat) (hd : decode code pc = .ok (.lshl, 1)) (hp : pc + 1 = pc') (hz : x <<< (y.toInt64 &&& 63) = z) (g : Go nw p l e R s m args below meth c code ml nm ret Z a0 EL own P vm h k n pc' L (.long z :: S)) : Go nw p l e R s m args below meth c code ml nm ret Z a0 EL own P vm h k n pc L (.int y :: .long x :: S) := by
  subst hp hz; exact g.step fun T hT hx hc _ q => XT.lshl hT hx rfl (hb hc hd) rfl q
theorem Go.lshr {x : Int64} {y : Int32} (z : Int64) (pc' : Nat) (hd : decode code pc = .ok (.lshr, 1)) (hp : pc + 1 = pc') (hz : x >>> (y.toInt64 &&& 63) = z) (g : Go nw p l e R s m args below meth c code ml nm ret Z a0 EL own P vm h k n pc' L (.long z :: S)) : Go nw p l e R s m args below meth c code ml nm ret Z a0 EL own P vm h k n pc L (.int y :: .long x :: S) := by
  subst hp hz; exact g.step fun T hT hx hc _ q => XT.lshr hT hx rfl (hb hc hd) rfl q
theorem Go.lushr {x : Int64} {y : Int32} (z : Int64) (pc' : Nat) (hd : decode code pc = .ok (.lushr, 1)) (hp : pc + 1 = pc') (hz : XT.ushrL x y = z) (g : Go nw p l e R s m args below meth c code ml nm ret Z a0 EL own P vm h k n pc' L (.long z :: S)) : Go nw p l e R s m args below meth c code ml nm ret Z a0 EL own P vm h k n pc L (.int y :: .long x :: S) := by
  subst hp hz; exact g.step fun T hT hx hc _ q => XT.lushr hT hx rfl (hb hc hd) rfl q
theorem Go.lcmp {x y : Int64} (z : Int32) (pc' : Nat) (hd : decode code pc = .ok (.lcmp, 1)) (hp : pc + 1 = pc') (hz : XT.cmpL x y = z) (g : Go nw p l e R s m args below meth c code ml nm ret Z a0 EL own P vm h k n pc' L (.int z :: S)) : Go nw p l e R s m args below meth c code ml nm ret Z a0 EL own P vm h k n pc L (.long y :: .long x :: S) := by
  subst hp hz; exact g.step fun T hT hx hc _ q => XS.lcmp hT hx rfl (hb hc hd) rfl q
theorem Go.ineg {x : Int32} (z : Int32) (pc' : Nat) (hd : decode code pc = .ok (.ineg, 1)) (hp : pc + 1 = pc') (hz : -x = z) (g : Go nw p l e R s m args below meth c code ml nm ret Z a0 EL own P vm h k n pc' L (.int z :: S)) : Go nw p l e R s m args below meth c code ml nm ret Z a0 EL own P vm h k n pc L (.int x :: S) := by
  subst hp hz; exact g.step fun T hT hx hc _ q => XS.ineg hT hx rfl (hb hc hd) rfl q
theorem Go.i2b {x : Int32} (z : Int32) (pc' : Nat) (hd : decode code pc = .ok (.i2b, 1)) (hp : pc + 1 = pc') (hz : x.toInt8.toInt32 = z) (g : Go nw p l e R s m args below meth c code ml nm ret Z a0 EL own P vm h k n pc' L (.int z :: S)) : Go nw p l e R s m args below meth c code ml nm ret Z a0 EL own P vm h k n pc L (.int x :: S) := by
  subst hp hz; exact g.step fun T hT hx hc _ q => XS.i2b hT hx rfl (hb hc hd) rfl q
theorem Go.i2c {x : Int32} (z : Int32) (pc' : Nat) (hd : decode code pc = .ok (.i2c, 1)) (hp : pc + 1 = pc') (hz : x.toUInt32.toUInt16.toUInt32.toInt32 = z) (g : Go nw p l e R s m args below meth c code ml nm ret Z a0 EL own P vm h k n pc' L (.int z :: S)) : Go nw p l e R s m args below meth c code ml nm ret Z a0 EL own P vm h k n pc L (.int x :: S) := by
  subst hp hz; exact g.step fun T hT hx hc _ q => XS.i2c hT hx rfl (hb hc hd) rfl q
theorem Go.i2s {x : Int32} (z : Int32) (pc' : Nat) (hd : decode code pc = .ok (.i2s, 1)) (hp : pc + 1 = pc') (hz : x.toInt16.toInt32 = z) (g : Go nw p l e R s m args below meth c code ml nm ret Z a0 EL own P vm h k n pc' L (.int z :: S)) : Go nw p l e R s m args below meth c code ml nm ret Z a0 EL own P vm h k n pc L (.int x :: S) := by
  subst hp hz; exact g.step fun T hT hx hc _ q => XS.i2s hT hx rfl (hb hc hd) rfl q
theorem Go.i2l {x : Int32} (z : Int64) (pc' : Nat) (hd : decode code pc = .ok (.i2l, 1)) (hp : pc + 1 = pc') (hz : x.toInt64 = z) (g : Go nw p l e R s m args below meth c code ml nm ret Z a0 EL own P vm h k n pc' L (.long z :: S)) : Go nw p l e R s m args below meth c code ml nm ret Z a0 EL own P vm h k n pc L (.int x :: S) := by
  subst hp hz; exact g.step fun T hT hx hc _ q => XS.i2l hT hx rfl (hb hc hd) rfl q
theorem Go.l2i {x : Int64} (z : Int32) (pc' : Nat) (hd : decode code pc = .ok (.l2i, 1)) (hp : pc + 1 = pc') (hz : x.toInt32 = z) (g : Go nw p l e R s m args below meth c code ml nm ret Z a0 EL own P vm h k n pc' L (.int z :: S)) : Go nw p l e R s m args below meth c code ml nm ret Z a0 EL own P vm h k n pc L (.long x :: S) := by
  subst hp hz; exact g.step fun T hT hx hc _ q => XS.l2i hT hx rfl (hb hc hd) rfl q
theorem Go.lneg {x : Int64} (z : Int64) (pc' : Nat) (hd : decode code pc = .ok (.lneg, 1)) (hp : pc + 1 = pc') (hz : -x = z) (g : Go nw p l e R s m args below meth c code ml nm ret Z a0 EL own P vm h k n pc' L (.long z :: S)) : Go nw p l e R s m args below meth c code ml nm ret Z a0 EL own P vm h k n pc L (.long x :: S) := by
  subst hp hz; exact g.step fun T hT hx hc _ q => XS.lneg hT hx rfl (hb hc hd) rfl q
theorem Go.dup {x : Value} (pc' : Nat) (hd : decode code pc = .ok (.dup, 1)) (hp : pc + 1 = pc') (hx1 : x.category = 1) (g : Go nw p l e R s m args below meth c code ml nm ret Z a0 EL own P vm h k n pc' L (x :: x :: S)) : Go nw p l e R s m args below meth c code ml nm ret Z a0 EL own P vm h k n pc L (x :: S) := by
  subst hp; exact g.step fun T hT hx hc _ q => XS.dup (g := mkF m pc L (x :: S)) hT hx rfl (hb hc hd) rfl hx1 q
theorem Go.pop {x : Value} (pc' : Nat) (hd : decode code pc = .ok (.pop, 1)) (hp : pc + 1 = pc') (hx1 : x.category = 1) (g : Go nw p l e R s m args below meth c code ml nm ret Z a0 EL own P vm h k n pc' L S) : Go nw p l e R s m args below meth c code ml nm ret Z a0 EL own P vm h k n pc L (x :: S) := by
  subst hp; exact g.step fun T hT hx hc _ q => XS.pop (g := mkF m pc L (x :: S)) hT hx rfl (hb hc hd) rfl hx1 q
theorem Go.dup_x1 {x y : Value} (pc' : Nat) (hd : decode code pc = .ok (.dup_x1, 1)) (hp : pc + 1 = pc') (hx1 : x.category = 1) (hx2 : y.category = 1) (g : Go nw p l e R s m args below meth c code ml nm ret Z a0 EL own P vm h k n pc' L (x :: y :: x :: S)) : Go nw p l e R s m args below meth c code ml nm ret Z a0 EL own P vm h k n pc L (x :: y :: S) := by
  subst hp; exact g.step fun T hT hx hc _ q => XS.dupX1 (g := mkF m pc L (x :: y :: S)) hT hx rfl (hb hc hd) rfl hx1 hx2 q
theorem Go.dup2 {x y : Value} (pc' : Nat) (hd : decode code pc = .ok (.dup2, 1)) (hp : pc + 1 = pc') (hx1 : x.category = 1) (hx2 : y.category = 1) (g : Go nw p l e R s m args below meth c code ml nm ret Z a0 EL own P vm h k n pc' L (x :: y :: x :: y :: S)) : Go nw p l e R s m args below meth c code ml nm ret Z a0 EL own P vm h k n pc L (x :: y :: S) := by
  subst hp; exact g.step fun T hT hx hc _ q => XT.dup2 (g := mkF m pc L (x :: y :: S)) hT hx rfl (hb hc hd) rfl hx1 hx2 q
theorem Go.goto {o : Int} (pc' : Nat) (hd : decode code pc = .ok (.goto o, 3)) (ho : 0 ≤ (pc : Int) + o) (hp : ((pc : Int) + o).toNat = pc') (g : Go nw p l e R s m args below meth c code ml nm ret Z a0 EL own P vm h k n pc' L S) : Go nw p l e R s m args below meth c code ml nm ret Z a0 EL own P vm h k n pc L S :=
  g.step fun T hT hx hc _ q => XS.goto hT hx rfl rfl (hb hc hd) ho hp q
theorem Go.ifB {cd : ClassFile.Cond} {x : Int32} {o : Int} (pc' pc'' : Nat) (hd : decode code pc = .ok (.ifCond cd o, 3)) (ho : 0 ≤ (pc : Int) + o) (hp : ((pc : Int) + o).toNat = pc') (hq : pc + 3 = pc'')
    (gt : ifCond.holds cd x = true → Go nw p l e R s m args below meth c code ml nm ret Z a0 EL own P vm h k n pc' L S) (gf : ifCond.holds cd x = false → Go nw p l e R s m args below meth c code ml nm ret Z a0 EL own P vm h k n pc'' L S) : Go nw p l e R s m args below meth c code ml nm ret Z a0 EL own P vm h k n pc L (.int x :: S) := by
  subst hq
  cases hh : ifCond.holds cd x
  · exact (gf hh).step fun T hT hx hc _ q => XS.ifNo hT hx rfl (hb hc hd) rfl hh q
  · exact (gt hh).step fun T hT hx hc _ q => XS.ifYes hT hx rfl rfl (hb hc hd) rfl hh ho hp q
theorem Go.icmpB {cd : ClassFile.Cond} {x y : Int32} {o : Int} (pc' pc'' : Nat) (hd : decode code pc = .ok (.if_icmp cd o, 3)) (ho : 0 ≤ (pc : Int) + o) (hp : ((pc : Int) + o).toNat = pc') (hq : pc + 3 = pc'')
    (gt : if_icmp.holds cd x y = true → Go nw p l e R s m args below meth c code ml nm ret Z a0 EL own P vm h k n pc' L S) (gf : if_icmp.holds cd x y = false → Go nw p l e R s m args below meth c code ml nm ret Z a0 EL own P vm h k n pc'' L S) : Go nw p l e R s m args below meth c code ml nm ret Z a0 EL own P vm h k n pc L (.int y :: .int x :: S) := by
  subst hq
  cases hh : if_icmp.holds cd x y
  · exact (gf hh).step fun T hT hx hc _ q => XS.icmpNo hT hx rfl (hb hc hd) rfl hh q
  · exact (gt hh).step fun T hT hx hc _ q => XS.icmpYes hT hx rfl rfl (hb hc hd) rfl hh ho hp q
theorem Go.if_icmpeq {x y : Int32} {o : Int} (pc' pc'' : Nat) (hd : decode code pc = .ok (.if_icmp .eq o, 3)) (ho : 0 ≤ (pc : Int) + o) (hp : ((pc : Int) + o).toNat = pc') (hq : pc + 3 = pc'')
    (gt : x = y → Go nw p l e R s m args below meth c code ml nm ret Z a0 EL own P vm h k n pc' L S) (gf : ¬ x = y → Go nw p l e R s m args below meth c code ml nm ret Z a0 EL own P vm h k n pc'' L S) : Go nw p l e R s m args below meth c code ml nm ret Z a0 EL own P vm h k n pc L (.int y :: .int x :: S) := by
  by_cases q : x = y
  · exact Go.icmpB pc' pc'' hd ho hp hq (fun r => by first | exact gt q | exact absurd (r.symm.trans (teq q).1) (by simp)) (fun r => by first | exact gf q | exact absurd (r.symm.trans (teq q).1) (by simp))
  · exact Go.icmpB pc' pc'' hd ho hp hq (fun r => by first | exact gt q | exact absurd (r.symm.trans (feq q).1) (by simp)) (fun r => by first | exact gf q | exact absurd (r.symm.trans (feq q).1) (by simp))
theorem Go.ifeq {x : Int32} {o : Int} (pc' pc'' : Nat) (hd : decode code pc = .ok (.ifCond .eq o, 3)) (ho : 0 ≤ (pc : Int) + o) (hp : ((pc : Int) + o).toNat = pc') (hq : pc + 3 = pc'')
    (gt : x = 0 → Go nw p l e R s m args below meth c code ml nm ret Z a0 EL own P vm h k n pc' L S) (gf : ¬ x = 0 → Go nw p l e R s m args below meth c code ml nm ret Z a0 EL own P vm h k n pc'' L S) : Go nw p l e R s m args below meth c code ml nm ret Z a0 EL own P vm h k n pc L (.int x :: S) := by
  by_cases q : x = 0
  · exact Go.ifB pc' pc'' hd ho hp hq (fun r => by first | exact gt q | exact absurd (r.symm.trans ((if0 _ _).trans (teq q).1)) (by simp)) (fun r => by first | exact gf q | exact absurd (r.symm.trans ((if0 _ _).trans (teq q).1)) (by simp))
  · exact Go.ifB pc' pc'' hd ho hp hq (fun r => by first | exact gt q | exact absurd (r.symm.trans ((if0 _ _).trans (feq q).1)) (by simp)) (fun r => by first | exact gf q | exact absurd (r.symm.trans ((if0 _ _).trans (feq q).1)) (by simp))
theorem Go.if_icmpne {x y : Int32} {o : Int} (pc' pc'' : Nat) (hd : decode code pc = .ok (.if_icmp .ne o, 3)) (ho : 0 ≤ (pc : Int) + o) (hp : ((pc : Int) + o).toNat = pc') (hq : pc + 3 = pc'')
    (gt : ¬ x = y → Go nw p l e R s m args below meth c code ml nm ret Z a0 EL own P vm h k n pc' L S) (gf : x = y → Go nw p l e R s m args below meth c code ml nm ret Z a0 EL own P vm h k n pc'' L S) : Go nw p l e R s m args below meth c code ml nm ret Z a0 EL own P vm h k n pc L (.int y :: .int x :: S) := by
  by_cases q : x = y
  · exact Go.icmpB pc' pc'' hd ho hp hq (fun r => by first | exact gt q | exact absurd (r.symm.trans (teq q).2) (by simp)) (fun r => by first | exact gf q | exact absurd (r.symm.trans (teq q).2) (by simp))
  · exact Go.icmpB pc' pc'' hd ho hp hq (fun r => by first | exact gt q | exact absurd (r.symm.trans (feq q).2) (by simp)) (fun r => by first | exact gf q | exact absurd (r.symm.trans (feq q).2) (by simp))
theorem Go.ifne {x : Int32} {o : Int} (pc' pc'' : Nat) (hd : decode code pc = .ok (.ifCond .ne o, 3)) (ho : 0 ≤ (pc : Int) + o) (hp : ((pc : Int) + o).toNat = pc') (hq : pc + 3 = pc'')
    (gt : ¬ x = 0 → Go nw p l e R s m args below meth c code ml nm ret Z a0 EL own P vm h k n pc' L S) (gf : x = 0 → Go nw p l e R s m args below meth c code ml nm ret Z a0 EL own P vm h k n pc'' L S) : Go nw p l e R s m args below meth c code ml nm ret Z a0 EL own P vm h k n pc L (.int x :: S) := by
  by_cases q : x = 0
  · exact Go.ifB pc' pc'' hd ho hp hq (fun r => by first | exact gt q | exact absurd (r.symm.trans ((if0 _ _).trans (teq q).2)) (by simp)) (fun r => by first | exact gf q | exact absurd (r.symm.trans ((if0 _ _).trans (teq q).2)) (by simp))
  · exact Go.ifB pc' pc'' hd ho hp hq (fun r => by first | exact gt q | exact absurd (r.symm.trans ((if0 _ _).trans (feq q).2)) (by simp)) (fun r => by first | exact gf q | exact absurd (r.symm.trans ((if0 _ _).trans (feq q).2)) (by simp))
theorem Go.if_icmplt {x y : Int32} {o : Int} (pc' pc'' : Nat) (hd : decode code pc = .ok (.if_icmp .lt o, 3)) (ho : 0 ≤ (pc : Int) + o) (hp : ((pc : Int) + o).toNat = pc') (hq : pc + 3 = pc'')
    (gt : x < y → Go nw p l e R s m args below meth c code ml nm ret Z a0 EL own P vm h k n pc' L S) (gf : ¬ x < y → Go nw p l e R s m args below meth c code ml nm ret Z a0 EL own P vm h k n pc'' L S) : Go nw p l e R s m args below meth c code ml nm ret Z a0 EL own P vm h k n pc L (.int y :: .int x :: S) := by
  by_cases q : x < y
  · exact Go.icmpB pc' pc'' hd ho hp hq (fun r => by first | exact gt q | exact absurd (r.symm.trans (tlt q).1) (by simp)) (fun r => by first | exact gf q | exact absurd (r.symm.trans (tlt q).1) (by simp))
  · exact Go.icmpB pc' pc'' hd ho hp hq (fun r => by first | exact gt q | exact absurd (r.symm.trans (flt q).1) (by simp)) (fun r => by first | exact gf q | exact absurd (r.symm.trans (flt q).1) (by simp))
theorem Go.iflt {x : Int32} {o : Int} (pc' pc'' : Nat) (hd : decode code pc = .ok (.ifCond .lt o, 3)) (ho : 0 ≤ (pc : Int) + o) (hp : ((pc : Int) + o).toNat = pc') (hq : pc + 3 = pc'')
    (gt : x < 0 → Go nw p l e R s m args below meth c code ml nm ret Z a0 EL own P vm h k n pc' L S) (gf : ¬ x < 0 → Go nw p l e R s m args below meth c code ml nm ret Z a0 EL own P vm h k n pc'' L S) : Go nw p l e R s m args below meth c code ml nm ret Z a0 EL own P vm h k n pc L (.int x :: S) := by
  by_cases q : x < 0
  · exact Go.ifB pc' pc'' hd ho hp hq (fun r => by first | exact gt q | exact absurd (r.symm.trans ((if0 _ _).trans (tlt q).1)) (by simp)) (fun r => by first | exact gf q | exact absurd (r.symm.trans ((if0 _ _).trans (tlt q).1)) (by simp))
  · exact Go.ifB pc' pc'' hd ho hp hq (fun r => by first | exact gt q | exact absurd (r.symm.trans ((if0 _ _).trans (flt q).1)) (by simp)) (fun r => by first | exact gf q | exact absurd (r.symm.trans ((if0 _ _).trans (flt q).1)) (by simp))
theorem Go.if_icmpge {x y : Int32} {o : Int} (pc' pc'' : Nat) (hd : decode code pc = .ok (.if_icmp .ge o, 3)) (ho : 0 ≤ (pc : Int) + o) (hp : ((pc : Int) + o).toNat = pc') (hq : pc + 3 = pc'')
    (gt : ¬ x < y → Go nw p l e R s m args below meth c code ml nm ret Z a0 EL own P vm h k n pc' L S) (gf : x < y → Go nw p l e R s m args below meth c code ml nm ret Z a0 EL own P vm h k n pc'' L S) : Go nw p l e R s m args below meth c code ml nm ret Z a0 EL own P vm h k n pc L (.int y :: .int x :: S) := by
  by_cases q : x < y
  · exact Go.icmpB pc' pc'' hd ho hp hq (fun r => by first | exact gt q | exact absurd (r.symm.trans (tlt q).2.1) (by simp)) (fun r => by first | exact gf q | exact absurd (r.symm.trans (tlt q).2.1) (by simp))
  · exact Go.icmpB pc' pc'' hd ho hp hq (fun r => by first | exact gt q | exact absurd (r.symm.trans (flt q).2.1) (by simp)) (fun r => by first | exact gf q | exact absurd (r.symm.trans (flt q).2.1) (by simp))
theorem Go.ifge {x : Int32} {o : Int} (pc' pc'' : Nat) (hd : decode code pc = .ok (.ifCond .ge o, 3)) (ho : 0 ≤ (pc : Int) + o) (hp : ((pc : Int) + o).toNat = pc') (hq : pc + 3 = pc'')
    (gt : ¬ x < 0 → Go nw p l e R s m args below meth c code ml nm ret Z a0 EL own P vm h k n pc' L S) (gf : x < 0 → Go nw p l e R s m args below meth c code ml nm ret Z a0 EL own P vm h k n pc'' L S) : Go nw p l e R s m args below meth c code ml nm ret Z a0 EL own P vm h k n pc L (.int x :: S) := by
  by_cases q : x < 0
  · exact Go.ifB pc' pc'' hd ho hp hq (fun r => by first | exact gt q | exact absurd (r.symm.trans ((if0 _ _).trans (tlt q).2.1)) (by simp)) (fun r => by first | exact gf q | exact absurd (r.symm.trans ((if0 _ _).trans (tlt q).2.1)) (by simp))
  · exact Go.ifB pc' pc'' hd ho hp hq (fun r => by first | exact gt q | exact absurd (r.symm.trans ((if0 _ _).trans (flt q).2.1)) (by simp)) (fun r => by first | exact gf q | exact absurd (r.symm.trans ((if0 _ _).trans (flt q).2.1)) (by simp))
theorem Go.if_icmpgt {x y : Int32} {o : Int} (pc' pc'' : Nat) (hd : decode code pc = .ok (.if_icmp .gt o, 3)) (ho : 0 ≤ (pc : Int) + o) (hp : ((pc : Int) + o).toNat = pc') (hq : pc + 3 = pc'')
    (gt : y < x → Go nw p l e R s m args below meth c code ml nm ret Z a0 EL own P vm h k n pc' L S) (gf : ¬ y < x → Go nw p l e R s m args below meth c code ml nm ret Z a0 EL own P vm h k n pc'' L S) : Go nw p l e R s m args below meth c code ml nm ret Z a0 EL own P vm h k n pc L (.int y :: .int x :: S) := by
  by_cases q : y < x
  · exact Go.icmpB pc' pc'' hd ho hp hq (fun r => by first | exact gt q | exact absurd (r.symm.trans (tlt q).2.2.1) (by simp)) (fun r => by first | exact gf q | exact absurd (r.symm.trans (tlt q).2.2.1) (by simp))
  · exact Go.icmpB pc' pc'' hd ho hp hq (fun r => by first | exact gt q | exact absurd (r.symm.trans (flt q).2.2.1) (by simp)) (fun r => by first | exact gf q | exact absurd (r.symm.trans (flt q).2.2.1) (by simp))
theorem Go.ifgt {x : Int32} {o : Int} (pc' pc'' : Nat) (hd : decode code pc = .ok (.ifCond .gt o, 3)) (ho : 0 ≤ (pc : Int) + o) (hp : ((pc : Int) + o).toNat = pc') (hq : pc + 3 = pc'')
    (gt : 0 < x → Go nw p l e R s m args below meth c code ml nm ret Z a0 EL own P vm h k n pc' L S) (gf : ¬ 0 < x → Go nw p l e R s m args below meth c code ml nm ret Z a0 EL own P vm h k n pc'' L S) : Go nw p l e R s m args below meth c code ml nm ret Z a0 EL own P vm h k n pc L (.int x :: S) := by
  by_cases q : 0 < x
  · exact Go.ifB pc' pc'' hd ho hp hq (fun r => by first | exact gt q | exact absurd (r.symm.trans ((if0 _ _).trans (tlt q).2.2.1)) (by simp)) (fun r => by first | exact gf q | exact absurd (r.symm.trans ((if0 _ _).trans (tlt q).2.2.1)) (by simp))
  · exact Go.ifB pc' pc'' hd ho hp hq (fun r => by first | exact gt q | exact absurd (r.symm.trans ((if0 _ _).trans (flt q).2.2.1)) (by simp)) (fun r => by first | exact gf q | exact absurd (r.symm.trans ((if0 _ _).trans (flt q).2.2.1)) (by simp))
theorem Go.if_icmple {x y : Int32} {o : Int} (pc' pc'' : Nat) (hd : decode code pc = .ok (.if_icmp .le o, 3)) (ho : 0 ≤ (pc : Int) + o) (hp : ((pc : Int) + o).toNat = pc') (hq : pc + 3 = pc'')
    (gt : ¬ y < x → Go nw p l e R s m args below meth c code ml nm ret Z a0 EL own P vm h k n pc' L S) (gf : y < x → Go nw p l e R s m args below meth c code ml nm ret Z a0 EL own P vm h k n pc'' L S) : Go nw p l e R s m args below meth c code ml nm ret Z a0 EL own P vm h k n pc L (.int y :: .int x :: S) := by
  by_cases q : y < x
  · exact Go.icmpB pc' pc'' hd ho hp hq (fun r => by first | exact gt q | exact absurd (r.symm.trans (tlt q).2.2.2) (by simp)) (fun r => by first | exact gf q | exact absurd (r.symm.trans (tlt q).2.2.2) (by simp))
  · exact Go.icmpB pc' pc'' hd ho hp hq (fun r => by first | exact gt q | exact absurd (r.symm.trans (flt q).2.2.2) (by simp)) (fun r => by first | exact gf q | exact absurd (r.symm.trans (flt q).2.2.2) (by simp))
theorem Go.ifle {x : Int32} {o : Int} (pc' pc'' : Nat) (hd : decode code pc = .ok (.ifCond .le o, 3)) (ho : 0 ≤ (pc : Int) + o) (hp : ((pc : Int) + o).toNat = pc') (hq : pc + 3 = pc'')
    (gt : ¬ 0 < x → Go nw p l e R s m args below meth c code ml nm ret Z a0 EL own P vm h k n pc' L S) (gf : 0 < x → Go nw p l e R s m args below meth c code ml nm ret Z a0 EL own P vm h k n pc'' L S) : Go nw p l e R s m args below meth c code ml nm ret Z a0 EL own P vm h k n pc L (.int x :: S) := by
  by_cases q : 0 < x
  · exact Go.ifB pc' pc'' hd ho hp hq (fun r => by first | exact gt q | exact absurd (r.symm.trans ((if0 _ _).trans (tlt q).2.2.2)) (by simp)) (fun r => by first | exact gf q | exact absurd (r.symm.trans ((if0 _ _).trans (tlt q).2.2.2)) (by simp))
  · exact Go.ifB pc' pc'' hd ho hp hq (fun r => by first | exact gt q | exact absurd (r.symm.trans ((if0 _ _).trans (flt q).2.2.2)) (by simp)) (fun r => by first | exact gf q | exact absurd (r.symm.trans ((if0 _ _).trans (flt q).2.2.2)) (by simp))
theorem Go.ifnull_y {o : Int} (pc' : Nat) (hd : decode code pc = .ok (.ifnull o, 3)) (ho : 0 ≤ (pc : Int) + o) (hp : ((pc : Int) + o).toNat = pc') (g : Go nw p l e R s m args below meth c code ml nm ret Z a0 EL own P vm h k n pc' L S) : Go nw p l e R s m args below meth c code ml nm ret Z a0 EL own P vm h k n pc L (.null :: S) :=
  g.step fun T hT hx hc _ q => XS.ifnullYes hT hx rfl rfl (hb hc hd) rfl ho hp q
theorem Go.ifnull_n {o : Int} {b : Addr} (pc' : Nat) (hd : decode code pc = .ok (.ifnull o, 3)) (hp : pc + 3 = pc') (g : Go nw p l e R s m args below meth c code ml nm ret Z a0 EL own P vm h k n pc' L S) : Go nw p l e R s m args below meth c code ml nm ret Z a0 EL own P vm h k n pc L (.ref b :: S) := by
  subst hp; exact g.step fun T hT hx hc _ q => XS.ifnullNo hT hx rfl (hb hc hd) rfl q
theorem Go.ifnonnull_y {o : Int} {b : Addr} (pc' : Nat) (hd : decode code pc = .ok (.ifnonnull o, 3)) (ho : 0 ≤ (pc : Int) + o) (hp : ((pc : Int) + o).toNat = pc') (g : Go nw p l e R s m args below meth c code ml nm ret Z a0 EL own P vm h k n pc' L S) : Go nw p l e R s m args below meth c code ml nm ret Z a0 EL own P vm h k n pc L (.ref b :: S) :=
  g.step fun T hT hx hc _ q => XS.ifnonnullYes hT hx rfl rfl (hb hc hd) rfl ho hp q
theorem Go.ifnonnull_n {o : Int} (pc' : Nat) (hd : decode code pc = .ok (.ifnonnull o, 3)) (hp : pc + 3 = pc') (g : Go nw p l e R s m args below meth c code ml nm ret Z a0 EL own P vm h k n pc' L S) : Go nw p l e R s m args below meth c code ml nm ret Z a0 EL own P vm h k n pc L (.null :: S) := by
  subst hp; exact g.step fun T hT hx hc _ q => XS.ifnonnullNo hT hx rfl (hb hc hd) rfl q
theorem Go.acmp_y {cd : ClassFile.ACond} {x y : Value} {o : Int} (pc' : Nat) (hd : decode code pc = .ok (.if_acmp cd o, 3)) (ho : 0 ≤ (pc : Int) + o) (hp : ((pc : Int) + o).toNat = pc') (h1 : x.isRef = true) (h2 : y.isRef = true) (hq : XT.acmp cd x y = true) (g : Go nw p l e R s m args below meth c code ml nm ret Z a0 EL own P vm h k n pc' L S) : Go nw p l e R s m args below meth c code ml nm ret Z a0 EL own P vm h k n pc L (y :: x :: S) :=
  g.step fun T hT hx hc _ q => XT.acmpYes hT hx rfl rfl (hb hc hd) rfl h1 h2 hq ho hp q
theorem Go.acmp_n {cd : ClassFile.ACond} {x y : Value} {o : Int} (pc' : Nat) (hd : decode code pc = .ok (.if_acmp cd o, 3)) (hp : pc + 3 = pc') (h1 : x.isRef = true) (h2 : y.isRef = true) (hq : XT.acmp cd x y = false) (g : Go nw p l e R s m args below meth c code ml nm ret Z a0 EL own P vm h k n pc' L S) : Go nw p l e R s m args below meth c code ml nm ret Z a0 EL own P vm h k n pc L (y :: x :: S) := by
  subst hp; exact g.step fun T hT hx hc _ q => XT.acmpNo hT hx rfl (hb hc hd) rfl h1 h2 hq q
theorem Go.getfield {O n' d : String} {idx : Nat} {a : Addr} {v : Value} (pc' : Nat) (hd : decode code pc = .ok (.getfield idx, 3)) (hp : pc + 3 = pc') (w : (Cond.fieldLink own idx O n' d).before a0 Z = true) (F : Fld Z h a O n' d v) (g : Go nw p l e R s m args below meth c code ml nm ret Z a0 EL own P vm h k n pc' L (v :: S)) : Go nw p l e R s m args below meth c code ml nm ret Z a0 EL own P vm h k n pc L (.ref a :: S) := by
  subst hp
  exact g.note fun T locs cells slots X hh hx hc hm hon => getF X hx hon.2.1 (host := "") hon.2.2.1 (Or.inl w) Via.refl hh F (g := mkF m pc L (.ref a :: S)) rfl rfl (hb hc hd)
theorem Go.getfieldV {R0 O n' d : String} {idx : Nat} {a : Addr} {v : Value} (pc' : Nat) (hd : decode code pc = .ok (.getfield idx, 3)) (hp : pc + 3 = pc') (w : (Cond.fieldLink own idx R0 n' d).before a0 Z = true) (via : (Cond.sameField R0 O n' d).before a0 Z = true) (F : Fld Z h a O n' d v) (g : Go nw p l e R s m args below meth c code ml nm ret Z a0 EL own P vm h k n pc' L (v :: S)) : Go nw p l e R s m args below meth c code ml nm ret Z a0 EL own P vm h k n pc L (.ref a :: S) := by
  subst hp
  exact g.note fun T locs cells slots X hh hx hc hm hon => getF X hx hon.2.1 (host := "") hon.2.2.1 (Or.inl w) (Via.of via) hh F (g := mkF m pc L (.ref a :: S)) rfl rfl (hb hc hd)
theorem Go.getstatic {O n' d : String} {idx : Nat} {v : Value} (pc' : Nat) (hd : decode code pc = .ok (.getstatic idx, 3)) (hp : pc + 3 = pc') (w : (Cond.fieldLink own idx O n' d).before a0 Z = true) (F : Sta Z h O n' d v) (g : Go nw p l e R s m args below meth c code ml nm ret Z a0 EL own P vm h k n pc' L (v :: S)) : Go nw p l e R s m args below meth c code ml nm ret Z a0 EL own P vm h k n pc L S := by
  subst hp
  exact g.note fun T locs cells slots X hh hx hc hm hon => getS X hx hon.2.1 (host := "") hon.2.2.1 w Via.refl hh F (g := mkF m pc L S) rfl (hb hc hd)
theorem Go.putfield {O n' d C : String} {idx kk : Nat} {ty : FieldType} {a : Addr} {v v0 : Value} (pc' : Nat) (hd : decode code pc = .ok (.putfield idx, 3)) (hp : pc + 3 = pc') (w : (Cond.fieldLink own idx O n' d).before a0 Z = true) (F : Fld Z h a O n' d v0) (E : Exa Z h a C)
    (Lf : (Cond.lays C O n' d).before a0 Z = true ∨ ((Cond.laysFinal C O n' d).before a0 Z = true ∧ own = O ∧ nm = "<init>")) (wi : (Cond.instantiable C kk).before a0 Z = true) (hty : parseFieldDescriptor d = some ty) (hn' : narrow ty v = v) (hf : fits ty v = true)
    (Sa : Safe Z EL vm h a) (hz : Z.heap.size ≤ a) (g : ∀ h', Wr h h' a (RoadKit.slotOf Z O n' d) v → Safe Z EL vm h' a → CHr Z EL vm h vm h' → Go nw p l e R s m args below meth c code ml nm ret Z a0 EL own P vm h' k n pc' L S) : Go nw p l e R s m args below meth c code ml nm ret Z a0 EL own P vm h k n pc L (v :: .ref a :: S) := by
  subst hp
  refine Go.wrote Sa hz (fun T locs cells slots X hh hx hc hm hnm hon => ?_) g
  exact putF X hx hon.2.1 (host := "") hon.2.2.1 (Or.inl w) Via.refl hh F E (Lf.imp id fun q => ⟨q.1, q.2.1, hnm.trans q.2.2⟩) wi hty hn' hf (g := mkF m pc L (v :: .ref a :: S)) rfl rfl (hb hc hd)
theorem Go.putfieldV {R0 O n' d C : String} {idx kk : Nat} {ty : FieldType} {a : Addr} {v v0 : Value} (pc' : Nat) (hd : decode code pc = .ok (.putfield idx, 3)) (hp : pc + 3 = pc') (w : (Cond.fieldLink own idx R0 n' d).before a0 Z = true) (via : (Cond.sameField R0 O n' d).before a0 Z = true) (F : Fld Z h a O n' d v0) (E : Exa Z h a C)
    (Lf : (Cond.lays C O n' d).before a0 Z = true ∨ ((Cond.laysFinal C O n' d).before a0 Z = true ∧ own = O ∧ nm = "<init>")) (wi : (Cond.instantiable C kk).before a0 Z = true) (hty : parseFieldDescriptor d = some ty) (hn' : narrow ty v = v) (hf : fits ty v = true)
    (Sa : Safe Z EL vm h a) (hz : Z.heap.size ≤ a) (g : ∀ h', Wr h h' a (RoadKit.slotOf Z O n' d) v → Safe Z EL vm h' a → CHr Z EL vm h vm h' → Go nw p l e R s m args below meth c code ml nm ret Z a0 EL own P vm h' k n pc' L S) : Go nw p l e R s m args below meth c code ml nm ret Z a0 EL own P vm h k n pc L (v :: .ref a :: S) := by
  subst hp
  refine Go.wrote Sa hz (fun T locs cells slots X hh hx hc hm hnm hon => ?_) g
  exact putF X hx hon.2.1 (host := "") hon.2.2.1 (Or.inl w) (Via.of via) hh F E (Lf.imp id fun q => ⟨q.1, q.2.1, hnm.trans q.2.2⟩) wi hty hn' hf (g := mkF m pc L (v :: .ref a :: S)) rfl rfl (hb hc hd)
theorem Go.new {C : String} {idx nf : Nat} (pc' : Nat) (hd : decode code pc = .ok (.new idx, 3)) (hp : pc + 3 = pc') (w : (Cond.classLink own idx C).before a0 Z = true) (wi : (Cond.instantiable C nf).before a0 Z = true) (wz : (Cond.initialized C).before a0 Z = true) (hk0 : k + 1 ≤ R.cells) (hn0 : n + nf ≤ R.slots)
    (g : ∀ a h', a = h.size → Ext h h' → (Exa Z h' a C ∧ ∀ {O n' d : String} {ty : FieldType}, Laid Z a0 C O n' d → parseFieldDescriptor d = some ty → Fld Z h' a O n' d (defaultValue ty)) → Safe Z EL vm h' a → Z.heap.size ≤ a → CHr Z EL vm h vm h' → Go nw p l e R s m args below meth c code ml nm ret Z a0 EL own P vm h' (k + 1) (n + nf) pc' L (.ref a :: S)) : Go nw p l e R s m args below meth c code ml nm ret Z a0 EL own P vm h k n pc L S := by
  subst hp
  refine Go.made (dk := 1) (dn := nf) (S' := fun a => .ref a :: S) (F := fun h' a => Exa Z h' a C ∧ ∀ {O n' d : String} {ty : FieldType}, Laid Z a0 C O n' d → parseFieldDescriptor d = some ty → Fld Z h' a O n' d (defaultValue ty)) hk0 hn0 (fun T locs cells slots X hh hx hc hm hon q1 q2 => ?_) g
  obtain ⟨T', h', X', e', E, A, D, -, st⟩ := newO X hx hon.2.1 hon.2.2.1 w wi wz hh (g := mkF m pc L S) rfl (hb hc hd) q1 q2
  exact ⟨T', h', X', e', E, ⟨A, D⟩, st⟩
theorem Go.newarray {aty : ArrayType} {z : Int32} (cap : Nat) (pc' : Nat) (hd : decode code pc = .ok (.newarray aty, 2)) (hp : pc + 2 = pc') (w : (Cond.arrayClass (newarray.typeOf aty)).before a0 Z = true) (hz : ¬ z < 0) (hcap : z.toNatClampNeg ≤ cap) (hb8 : cap * 8 ≤ 536870912) (hk0 : k + 1 ≤ R.cells) (hn0 : n + cap ≤ R.slots)
    (g : ∀ a h', a = h.size → Ext h h' → (∃ cA, Arv Z h' a cA (newarray.typeOf aty) z [] (defaultValue (newarray.typeOf aty))) → Safe Z EL vm h' a → Z.heap.size ≤ a → CHr Z EL vm h vm h' → Go nw p l e R s m args below meth c code ml nm ret Z a0 EL own P vm h' (k + 1) (n + cap) pc' L (.ref a :: S)) : Go nw p l e R s m args below meth c code ml nm ret Z a0 EL own P vm h k n pc L (.int z :: S) := by
  subst hp
  refine Go.made (dk := 1) (dn := cap) (S' := fun a => .ref a :: S) (F := fun h' a => ∃ cA, Arv Z h' a cA (newarray.typeOf aty) z [] (defaultValue (newarray.typeOf aty))) hk0 hn0 (fun T locs cells slots X hh hx hc hm hon q1 q2 => ?_) g
  obtain ⟨T', h', cA, X', e', E, A, st⟩ := newP X hx hon.2.1 w hh (g := mkF m pc L (.int z :: S)) rfl (hb hc hd) rfl hz hcap hb8 q1 q2
  exact ⟨T', h', X', e', E, ⟨cA, Arv.new A hz⟩, st⟩
theorem Go.arraylength {a : Addr} {kA : ClassId} {ty : FieldType} {z : Int32} {vs : List Value} {dv : Value} (pc' : Nat) (hd : decode code pc = .ok (.arraylength, 1)) (hp : pc + 1 = pc') (A : Arv Z h a kA ty z vs dv) (g : Go nw p l e R s m args below meth c code ml nm ret Z a0 EL own P vm h k n pc' L (.int z :: S)) : Go nw p l e R s m args below meth c code ml nm ret Z a0 EL own P vm h k n pc L (.ref a :: S) := by
  subst hp
  refine g.note fun T locs cells slots X hh hx hc hm hon => ⟨T, X, hh, fun target q => ?_⟩
  obtain ⟨cl, A1, A2, A3, A4, A5, A6⟩ := A
  refine X.arraylength hx (cell := cl) (by rw [hh]; exact A1.1) (State.isArrayOf_alike hon.2.1.alike A1.2.1) (g := mkF m pc L (.ref a :: S)) rfl (rest := S) rfl (hb hc hd) _ ?_
  rw [len_of A3 A4]; exact q
theorem Go.caload {a : Addr} {kA : ClassId} {z j : Int32} {vs : List Value} {dv : Value} (v : Value) (pc' : Nat) (hd : decode code pc = .ok (.caload, 1)) (hp : pc + 1 = pc') (A : Arv Z h a kA .char z vs dv) (hj : ¬ j < 0 ∧ j < z) (hv : vs.getD j.toNatClampNeg dv = v) (g : Go nw p l e R s m args below meth c code ml nm ret Z a0 EL own P vm h k n pc' L (v :: S)) : Go nw p l e R s m args below meth c code ml nm ret Z a0 EL own P vm h k n pc L (.int j :: .ref a :: S) := by
  subst hp
  refine g.note fun T locs cells slots X hh hx hc hm hon => ⟨T, X, hh, fun target q => ?_⟩
  obtain ⟨cl, A1, A2, A3, A4, A5, A6⟩ := A
  have hin := inb_of A3 hj
  exact X.caload hx (by rw [hh]; exact A1.1) (State.isArrayOf_alike hon.2.1.alike A1.2.1) A1.2.2 hin (A5.at hin hv) (g := mkF m pc L (.int j :: .ref a :: S)) rfl rfl (hb hc hd) _ q
theorem Go.iaload {a : Addr} {kA : ClassId} {z j : Int32} {vs : List Value} {dv : Value} (v : Value) (pc' : Nat) (hd : decode code pc = .ok (.iaload, 1)) (hp : pc + 1 = pc') (A : Arv Z h a kA .int z vs dv) (hj : ¬ j < 0 ∧ j < z) (hv : vs.getD j.toNatClampNeg dv = v) (g : Go nw p l e R s m args below meth c code ml nm ret Z a0 EL own P vm h k n pc' L (v :: S)) : Go nw p l e R s m args below meth c code ml nm ret Z a0 EL own P vm h k n pc L (.int j :: .ref a :: S) := by
  subst hp
  refine g.note fun T locs cells slots X hh hx hc hm hon => ⟨T, X, hh, fun target q => ?_⟩
  obtain ⟨cl, A1, A2, A3, A4, A5, A6⟩ := A
  have hin := inb_of A3 hj
  exact X.iaload hx (by rw [hh]; exact A1.1) (State.isArrayOf_alike hon.2.1.alike A1.2.1) A1.2.2 hin (A5.at hin hv) (g := mkF m pc L (.int j :: .ref a :: S)) rfl rfl (hb hc hd) _ q
theorem Go.baload {a : Addr} {kA : ClassId} {z j : Int32} {vs : List Value} {dv : Value} (v : Value) (pc' : Nat) (hd : decode code pc = .ok (.baload, 1)) (hp : pc + 1 = pc') (A : Arv Z h a kA .byte z vs dv) (hj : ¬ j < 0 ∧ j < z) (hv : vs.getD j.toNatClampNeg dv = v) (g : Go nw p l e R s m args below meth c code ml nm ret Z a0 EL own P vm h k n pc' L (v :: S)) : Go nw p l e R s m args below meth c code ml nm ret Z a0 EL own P vm h k n pc L (.int j :: .ref a :: S) := by
  subst hp
  refine g.note fun T locs cells slots X hh hx hc hm hon => ⟨T, X, hh, fun target q => ?_⟩
  obtain ⟨cl, A1, A2, A3, A4, A5, A6⟩ := A
  have hin := inb_of A3 hj
  exact X.baloadBytes hx (by rw [hh]; exact A1.1) (State.isArrayOf_alike hon.2.1.alike A1.2.1) A1.2.2 hin (A5.at hin hv) (g := mkF m pc L (.int j :: .ref a :: S)) rfl rfl (hb hc hd) _ q
theorem Go.aaload {a : Addr} {kA : ClassId} {ty : FieldType} {z j : Int32} {vs : List Value} {dv : Value} (v : Value) (pc' : Nat) (hd : decode code pc = .ok (.aaload, 1)) (hp : pc + 1 = pc') (A : Arv Z h a kA ty z vs dv) (hty : ty.isReference = true) (hj : ¬ j < 0 ∧ j < z) (hv : vs.getD j.toNatClampNeg dv = v) (g : Go nw p l e R s m args below meth c code ml nm ret Z a0 EL own P vm h k n pc' L (v :: S)) : Go nw p l e R s m args below meth c code ml nm ret Z a0 EL own P vm h k n pc L (.int j :: .ref a :: S) := by
  subst hp
  refine g.note fun T locs cells slots X hh hx hc hm hon => ⟨T, X, hh, fun target q => ?_⟩
  obtain ⟨cl, A1, A2, A3, A4, A5, A6⟩ := A
  have hin := inb_of A3 hj
  exact X.aaload hx (by rw [hh]; exact A1.1) (State.isArrayOf_alike hon.2.1.alike A1.2.1) hty A1.2.2 hin (A5.at hin hv) (g := mkF m pc L (.int j :: .ref a :: S)) rfl rfl (hb hc hd) _ q
theorem Go.castore {a : Addr} {kA : ClassId} {z j x : Int32} {vs : List Value} {dv : Value} (i : Nat) (y : Int32) (vs' : List Value) (pc' : Nat) (hd : decode code pc = .ok (.castore, 1)) (hp : pc + 1 = pc') (A : Arv Z h a kA .char z vs dv) (hj : ¬ j < 0 ∧ j < z) (hi : j.toNatClampNeg = i) (hl : i < vs.length) (hy : nar .char x = y) (hvs : vs.set i (.int y) = vs') (Sa : Safe Z EL vm h a) (hz : Z.heap.size ≤ a)
    (g : ∀ h', Keep h h' [a] → Arv Z h' a kA .char z vs' dv → Safe Z EL vm h' a → CHr Z EL vm h vm h' → Go nw p l e R s m args below meth c code ml nm ret Z a0 EL own P vm h' k n pc' L S) : Go nw p l e R s m args below meth c code ml nm ret Z a0 EL own P vm h k n pc L (.int x :: .int j :: .ref a :: S) := by
  subst hp hy hvs
  obtain ⟨cl, A1, A2, A3, A4, A5, A6⟩ := A
  have hin := inb_of A3 hj
  refine Go.wrote Sa hz (sl := j.toNatClampNeg) (w := .int (nar .char x)) (fun T locs cells slots X hh hx hc hm hnm hon => ?_) (fun h' W s2 ch => g h' (Keep.of_wr W) (Arv.set A1 A2 A3 A4 A5 A6 (fits_nar_char _) W i hi hl) s2 ch)
  exact stC X hx hon.2.1 hh A1 hin (g := mkF m pc L (.int x :: .int j :: .ref a :: S)) rfl rfl (hb hc hd)
theorem Go.iastore {a : Addr} {kA : ClassId} {z j x : Int32} {vs : List Value} {dv : Value} (i : Nat) (y : Int32) (vs' : List Value) (pc' : Nat) (hd : decode code pc = .ok (.iastore, 1)) (hp : pc + 1 = pc') (A : Arv Z h a kA .int z vs dv) (hj : ¬ j < 0 ∧ j < z) (hi : j.toNatClampNeg = i) (hl : i < vs.length) (hy : x = y) (hvs : vs.set i (.int y) = vs') (Sa : Safe Z EL vm h a) (hz : Z.heap.size ≤ a)
    (g : ∀ h', Keep h h' [a] → Arv Z h' a kA .int z vs' dv → Safe Z EL vm h' a → CHr Z EL vm h vm h' → Go nw p l e R s m args below meth c code ml nm ret Z a0 EL own P vm h' k n pc' L S) : Go nw p l e R s m args below meth c code ml nm ret Z a0 EL own P vm h k n pc L (.int x :: .int j :: .ref a :: S) := by
  subst hp hy hvs
  obtain ⟨cl, A1, A2, A3, A4, A5, A6⟩ := A
  have hin := inb_of A3 hj
  refine Go.wrote Sa hz (sl := j.toNatClampNeg) (w := .int (x)) (fun T locs cells slots X hh hx hc hm hnm hon => ?_) (fun h' W s2 ch => g h' (Keep.of_wr W) (Arv.set A1 A2 A3 A4 A5 A6 (rfl) W i hi hl) s2 ch)
  exact stI X hx hon.2.1 hh A1 hin (g := mkF m pc L (.int x :: .int j :: .ref a :: S)) rfl rfl (hb hc hd)
theorem Go.bastore {a : Addr} {kA : ClassId} {z j x : Int32} {vs : List Value} {dv : Value} (i : Nat) (y : Int32) (vs' : List Value) (pc' : Nat) (hd : decode code pc = .ok (.bastore, 1)) (hp : pc + 1 = pc') (A : Arv Z h a kA .byte z vs dv) (hj : ¬ j < 0 ∧ j < z) (hi : j.toNatClampNeg = i) (hl : i < vs.length) (hy : x.toInt8.toInt32 = y) (hvs : vs.set i (.int y) = vs') (Sa : Safe Z EL vm h a) (hz : Z.heap.size ≤ a)
    (g : ∀ h', Keep h h' [a] → Arv Z h' a kA .byte z vs' dv → Safe Z EL vm h' a → CHr Z EL vm h vm h' → Go nw p l e R s m args below meth c code ml nm ret Z a0 EL own P vm h' k n pc' L S) : Go nw p l e R s m args below meth c code ml nm ret Z a0 EL own P vm h k n pc L (.int x :: .int j :: .ref a :: S) := by
  subst hp hy hvs
  obtain ⟨cl, A1, A2, A3, A4, A5, A6⟩ := A
  have hin := inb_of A3 hj
  refine Go.wrote Sa hz (sl := j.toNatClampNeg) (w := .int (x.toInt8.toInt32)) (fun T locs cells slots X hh hx hc hm hnm hon => ?_) (fun h' W s2 ch => g h' (Keep.of_wr W) (Arv.set A1 A2 A3 A4 A5 A6 (fits_nar_byte _) W i hi hl) s2 ch)
  exact stB X hx hon.2.1 hh A1 hin (g := mkF m pc L (.int x :: .int j :: .ref a :: S)) rfl rfl (hb hc hd)
theorem Go.fin {v : Option Value} (hk0 : k ≤ R.cells) (hn0 : n ≤ R.slots) (hv : ret = none → v = none) (hP : ∀ vm', CHr Z EL vm h vm' h → P v vm' h)
    (st : ∀ (T : State) (locs : List Loc) (cells slots : Nat), Stand p l e R (s.setVm vm) m args below meth c T locs cells slots → p.tables.exec = Jvm.exec → c.code = code → meth.sig.returnType = ret → ∀ fs : List Frame, (∀ (f : JFrame) (acts : List Action), f.method = m → f.locked = none → f.entered = [] → (doReturn e (T.setTop f) acts v).1 = T.setFrames fs) → Steps p.tables e below (T.setTop (mkF m pc L S)) (T.setFrames fs)) : Go nw p l e R s m args below meth c code ml nm ret Z a0 EL own P vm h k n pc L S := by
  intro hx hc hm hl hnm hr hon T locs cells slots X hh hF hk hn
  obtain ⟨⟨k0, a1, a2⟩, a3, a4, a5, a6, a7, a8⟩ := hon
  obtain ⟨fs, h1, h2, h3, h4⟩ := X.leaveW a1 (by rw [hh]; exact a2) (v := v) (fun q => hv (hr ▸ q)) hl
  have ch : CHr Z EL vm h T.vm h := CHv.at X a3 a7 a5
  have hh' : (T.setFrames fs).heap = h := hh
  refine ⟨_, v, st T locs cells slots X hx hc hr fs h1, h2, h3, by rw [hh']; exact hP _ ch, by rw [hh']; exact ch, by rw [hh']; exact a6, locs, hF, ?_, fun q => ?_⟩
  · obtain ⟨q1, q2, q3, q4⟩ := h4
    exact ⟨q1, q2, q3, q4.mono (Nat.le_trans hk hk0) (Nat.le_trans hn hn0)⟩
  · exact State.WarmedH.trans (t := s.setVm vm) (a8 q) X.warmed
theorem Go.return_ (hd : decode code pc = .ok (.return_, 1)) (hr : ret = none) (hk0 : k ≤ R.cells) (hn0 : n ≤ R.slots) (hP : ∀ vm', CHr Z EL vm h vm' h → P none vm' h) : Go nw p l e R s m args below meth c code ml nm ret Z a0 EL own P vm h k n pc L ([]) :=
  Go.fin (v := none) hk0 hn0 (fun _ => rfl) hP fun T locs cells slots X hx hc hrt fs hl => X.returnOut hx (hrt.trans hr) (hb hc hd) hl
theorem Go.areturn {t : FieldType} {w : Value} (hd : decode code pc = .ok (.areturn, 1)) (hr : ret = some t) (ht : t.isReference = true) (hw : w.isRef = true) (hk0 : k ≤ R.cells) (hn0 : n ≤ R.slots) (hP : ∀ vm', CHr Z EL vm h vm' h → P (some w) vm' h) : Go nw p l e R s m args below meth c code ml nm ret Z a0 EL own P vm h k n pc L (w :: S) :=
  Go.fin (v := some w) hk0 hn0 (fun q => by rw [hr] at q; cases q) hP fun T locs cells slots X hx hc hrt fs hl => retOut X hx (hrt.trans hr) (by cases t <;> first | rfl | cases ht) (Or.inr (Or.inr (Or.inr (Or.inr ⟨rfl, ht, hw⟩)))) (hb hc hd) hl
theorem Go.ireturn {t : FieldType} {x : Int32} (hd : decode code pc = .ok (.ireturn, 1)) (hr : ret = some t) (hn' : narrow t (.int x) = .int x) (ht : t = .int ∨ t = .boolean ∨ t = .byte ∨ t = .char ∨ t = .short) (hk0 : k ≤ R.cells) (hn0 : n ≤ R.slots) (hP : ∀ vm', CHr Z EL vm h vm' h → P (some (.int x)) vm' h) : Go nw p l e R s m args below meth c code ml nm ret Z a0 EL own P vm h k n pc L (.int x :: S) :=
  Go.fin (v := some (.int x)) hk0 hn0 (fun q => by rw [hr] at q; cases q) hP fun T locs cells slots X hx hc hrt fs hl => retOut X hx (hrt.trans hr) hn' (Or.inl ⟨rfl, ht, _, rfl⟩) (hb hc hd) hl
theorem Go.initObject {idx : Nat} {a : Addr} (W : Nat) (pc' : Nat) (hd : decode code pc = .ok (.invokespecial idx, 3)) (hp : pc + 3 = pc') (w1 : (Cond.methodLink own idx Lib.objectInit).before a0 Z = true) (w2 : (Cond.instanceMethod Lib.objectInit).before a0 Z = true) (w3 : (Cond.code Lib.objectInit ⟨#[0xb1]⟩ 1 none).before a0 Z = true)
    (hsz : L.size = ml) (hf : 1 ≤ R.frames) (hW : (S.map fun v => v.category).sum ≤ W) (hl : W + 12 ≤ R.locals) (g : Go nw p l e R s m args below meth c code ml nm ret Z a0 EL own P vm h k n pc' L S) : Go nw p l e R s m args below meth c code ml nm ret Z a0 EL own P vm h k n pc L (.ref a :: S) := by
  subst hp
  exact g.note fun T locs cells slots X hh hx hc hm hon => initO X hx hon.2.1 hon.2.2.1 w1 w2 w3 hh (g := mkF m pc L (.ref a :: S)) rfl (hsz.trans hm.symm) rfl (hb hc hd) hf (by show 2 * 0 + _ ≤ _; omega) hl
/-- what a callee promises: at the heap h and tables that have booked no more than vm -/
def Ctr (nw : Bool) (l : Launch) (Z : State) (a0 : Array Value) (EL : List (String × Nat)) (y : MethodName) (code : ByteArray) (ml : Nat) (ret : Option FieldType) (rm : Room) (as' : Array Value) (vm : Vm) (h : Heap) (Q : Option Value → Vm → Heap → Prop) : Prop :=
  ∀ ws : List Jvm.Cond, MetFree l y (head1 (Jvm.Cond.code y code ml ret :: ws) rm) (fun a U => a = as' ∧ Z.Warmed39 U.vm ∧ U.heap = h ∧ CHr Z EL vm h U.vm h ∧ Ext Z.heap h ∧ EW Z a0 EL) (fun _ _ _ _ _ => True)
    (fun _ U o U' => ∃ v L, o = .returned v ∧ Q v U'.vm U'.heap ∧ CHr Z EL U.vm h U'.vm U'.heap ∧ Ext Z.heap U'.heap ∧ Fr Z.heap.size L ∧ ReturnedEndW U o U' L rm.cells rm.slots ∧ (nw = true → U.WarmedH U'.vm))
theorem Ctr.of_go {y : MethodName} {rm : Room} {as' : Array Value} {Q : Option Value → Vm → Heap → Prop} {L0 : Array Slot} (hpn : plainFor y = true) (hent : ∀ m, entryFrame m as' ml = mkF m 0 L0 [])
    (body : ∀ (p : Program) (e : Env) (s : State) (m : MethodId) (below : List Frame) (meth : Method) (c : Code) (vm1 : Vm), CHr Z EL vm h vm1 h → Go nw p l e rm s m as' below meth c code ml y.name ret Z a0 EL y.cls Q vm1 h 0 0 0 L0 []) : Ctr nw l Z a0 EL y code ml ret rm as' vm h Q := by
  intro ws
  refine MetFree.of_bodySF hpn hisR ?_
  intro p e s m args below meth c s₁ Bd hml0 hP hK
  obtain ⟨rfl, hZ, hh, hch, hext, hew⟩ := hP
  have e0 : s₁.heap = h := by rw [← hh, Bd.state]; rfl
  have X0 : Stand p l e rm (s.setVm s.vm) m args below meth c s₁ [] 0 0 := Stand.of_body Bd
  obtain ⟨s₂, v, st, h1, h2, h3, h4, hE, L', h5, h6, h7⟩ := body p e s m below meth c s.vm hch Bd.exec Bd.bytes hml0 Bd.notSynchronized (name_of_methodNamed Bd.named Bd.method).1 Bd.returns
    ⟨⟨0, (State.WarmedH.refl s).since _, Nat.zero_le _⟩, hZ, findClass_of_methodNamed Bd.named, hch.1, hext, hew, fun _ => State.WarmedH.refl s⟩ s₁ [] 0 0 X0 e0 (Fr.nil _) (Nat.le_refl _) (Nat.le_refl _)
  exact ⟨s₂, _, castTop (hent m) st, h1, h2, v, L', rfl, h3, h4, hE, h5, h6, h7⟩
/-- the callee's contract, as a call wants it -/
theorem Ctr.back {y : MethodName} {code' : ByteArray} {ml' : Nat} {ret' : Option FieldType} {rm : Room} {as' : Array Value} {Q : Option Value → Vm → Heap → Prop} {len W : Nat} (C : Ctr nw l Z a0 EL y code' ml' ret' rm as' vm h Q) (hon : On nw s m Z a0 EL own vm h)
    (wc : (Jvm.Cond.code y code' ml' ret').before a0 Z = true) (wz : (Jvm.Cond.initialized y.cls).before a0 Z = true) (hf : rm.frames + 1 ≤ R.frames) (hl : W + (ml' + 11) + rm.locals ≤ R.locals) :
    BackS l R p e below (s.setVm vm) args y len W (fun A a => a = as' ∧ A.U.heap = h ∧ A.cells + rm.cells ≤ R.cells ∧ A.slots + rm.slots ≤ R.slots)
      (fun A _ v B => ∃ L, Q v B.U.vm B.U.heap ∧ CHr Z EL vm h B.U.vm B.U.heap ∧ Ext Z.heap B.U.heap ∧ Fr Z.heap.size L ∧ B.locs = A.locs ++ L ∧ B.cells = A.cells + rm.cells ∧ B.slots = A.slots + rm.slots ∧ (nw = true → s.WarmedH B.U.vm)) := by
  obtain ⟨⟨k0, a1, a2⟩, a3, a4, a5, a6, a7, a8⟩ := hon
  refine BackS.of_freeW (bytes := code') (maxL := ml') (ret := ret') (E := fun _ first o t L k n => k = rm.cells ∧ n = rm.slots ∧ (∃ v, o = .returned v ∧ Q v t.vm t.heap) ∧ CHr Z EL first.vm h t.vm t.heap ∧ Ext Z.heap t.heap ∧ Fr Z.heap.size L ∧ (nw = true → first.WarmedH t.vm)) (C []) hf hl
    (fun m meth c A a Y hp => have hU : Z.Warmed39 A.U.vm := wtrans (s := s.setVm vm) a3 Y.warmed
      ⟨by show (Jvm.Cond.and _ .tt).before a A.U = true; rw [Cond.before_and, mv hU wc]; rfl, mv hU wc, mv hU wz, hp.2.2.1, hp.2.2.2⟩)
    (fun m meth c A a g mk Y hp => ⟨hp.1, wtrans (s := s.setVm vm) a3 Y.warmed, hp.2.1, (show CHr Z EL vm h A.U.vm h from CHv.at Y a3 a7 a5), a6, a7⟩) (fun _ _ _ _ _ _ _ _ _ => trivial)
    (fun _ _ _ _ ⟨v, L, h1, h2, h3, hE, h4, h5, h6⟩ => ⟨L, _, _, h5, rfl, rfl, ⟨v, h1, h2⟩, h3, hE, h4, h6⟩)
    (fun m meth c A a g mk v t L k n Y hp _ _ hE => ?_)
  obtain ⟨e1, e2, ⟨v', e3, e4⟩, e5, e5', e6, e7⟩ := hE
  cases e3; subst e1 e2
  refine ⟨L, e4, (CHv.at Y a3 a7 a5).trans e5, e5', e6, rfl, rfl, rfl, fun q => ?_⟩
  have w1 : s.WarmedH A.U.vm := State.WarmedH.trans (t := s.setVm vm) (a8 q) Y.warmed
  exact State.WarmedH.trans (t := A.U) w1 (e7 q)
/-- behind a call that a BackS pays -/
theorem Go.called {rm : Room} {Q : Option Value → Vm → Heap → Prop} {len pc' : Nat} {rest : List Value} (hp : pc + len = pc') (hk0 : k + rm.cells ≤ R.cells) (hn0 : n + rm.slots ≤ R.slots)
    (st : ∀ T locs cells slots, Stand p l e R (s.setVm vm) m args below meth c T locs cells slots → T.heap = h → p.tables.exec = Jvm.exec → c.code = code → c.maxLocals = ml → On nw s m Z a0 EL own vm h → cells + rm.cells ≤ R.cells → slots + rm.slots ≤ R.slots →
      ∃ (v : Option Value) (vm₁ : Vm) (B : Pt), (s.setVm vm).WarmedH vm₁ ∧ Stand p l e R ((s.setVm vm).setVm B.U.vm) m args below meth c B.U B.locs B.cells B.slots ∧ (s.setVm vm).Since B.U.vm B.U.heap.size ∧ T.heap.size ≤ B.U.heap.size ∧
        (∃ L, Q v B.U.vm B.U.heap ∧ CHr Z EL vm h B.U.vm B.U.heap ∧ Ext Z.heap B.U.heap ∧ Fr Z.heap.size L ∧ B.locs = locs ++ L ∧ B.cells = cells + rm.cells ∧ B.slots = slots + rm.slots ∧ (nw = true → s.WarmedH B.U.vm)) ∧
        Steps p.tables e below (T.setTop (mkF m pc L S)) (B.U.setTop { mkF m pc L S with pc := pc + len, stack := v.toList ++ rest }))
    (g : ∀ v vm' h', Q v vm' h' → CHr Z EL vm h vm' h' → Go nw p l e R s m args below meth c code ml nm ret Z a0 EL own P vm' h' (k + rm.cells) (n + rm.slots) pc' L (v.toList ++ rest)) : Go nw p l e R s m args below meth c code ml nm ret Z a0 EL own P vm h k n pc L S := by
  intro hx hc hm hl hnm hr hon T locs cells slots X hh hF hk hn
  obtain ⟨v, vm₁, B, -, X', hS, hg, ⟨L1, hQ, hC, hE, hFr, e1, e2, e3, hW⟩, st2⟩ := st T locs cells slots X hh hx hc hm hon (by omega) (by omega)
  obtain ⟨U, Ls, c1, s1⟩ := B
  dsimp only [Pt.U, Pt.locs, Pt.cells, Pt.slots] at X' hS hg hQ hC hE e1 e2 e3 hW st2
  subst e1 e2 e3 hp
  obtain ⟨⟨k0, a1, a2⟩, a3, a4, a5, a6, a7, a8⟩ := hon
  have hon' : On nw s m Z a0 EL own U.vm U.heap := ⟨⟨U.heap.size, a1.trans hS (Nat.le_trans a2 hC.2.1), Nat.le_refl _⟩, State.Warmed39.trans (t := s.setVm vm) a3 hS.1, (hS.1.alike.findClass _ _).trans a4, hC.1, hE, a7, hW⟩
  obtain ⟨s₂, v2, st3, r1, r2, r3, r4, r5⟩ := g v U.vm U.heap hQ hC hx hc hm hl hnm hr hon' U _ _ _ X' rfl (Fr.app hF hFr) (by omega) (by omega)
  exact ⟨s₂, v2, st2.trans st3, r1, r2, r3, hC.trans r4, r5⟩
theorem Go.invokestatic {idx : Nat} {y : MethodName} {code' : ByteArray} {ml' : Nat} {ret' : Option FieldType} {rm : Room} {Q : Option Value → Vm → Heap → Prop} {ps : List FieldType} {r : Option FieldType} {rest : List Value} (W : Nat) (argsL : List Value) (pc' : Nat) (hd : decode code pc = .ok (.invokestatic idx, 3)) (hp : pc + 3 = pc') (w1 : (Jvm.Cond.methodLink own idx y).before a0 Z = true) (w2 : (Jvm.Cond.static y).before a0 Z = true) (w3 : (Jvm.Cond.initialized y.cls).before a0 Z = true) (w4 : (Jvm.Cond.code y code' ml' ret').before a0 Z = true) (hy : y.cls ≠ "java/lang/invoke/MethodHandle" ∧ y.cls ≠ "java/lang/invoke/VarHandle")
    (C : Ctr nw l Z a0 EL y code' ml' ret' rm argsL.toArray vm h Q) (hdesc : parseMethodDescriptor y.desc = some ⟨ps, r⟩) (hlen : argsL.length = ps.length) (hst : S = argsL.reverse ++ rest) (hsz : L.size = ml) (hf : rm.frames + 1 ≤ R.frames) (hW : (rest.map fun v => v.category).sum ≤ W) (hl : W + (ml' + 11) + rm.locals ≤ R.locals) (hk0 : k + rm.cells ≤ R.cells) (hn0 : n + rm.slots ≤ R.slots)
    (g : ∀ v vm' h', Q v vm' h' → CHr Z EL vm h vm' h' → Go nw p l e R s m args below meth c code ml nm ret Z a0 EL own P vm' h' (k + rm.cells) (n + rm.slots) pc' L (v.toList ++ rest)) : Go nw p l e R s m args below meth c code ml nm ret Z a0 EL own P vm h k n pc L S := by
  refine Go.called (rm := rm) (Q := Q) (rest := rest) hp hk0 hn0 (fun T locs cells slots X hh hx hc hm hon q1 q2 => ?_) g
  exact callSS X hx hon.2.2.1 (mvT (s := s.setVm vm) hon.2.1 w1) (mvT (s := s.setVm vm) hon.2.1 w2) (mvT (s := s.setVm vm) hon.2.1 w3) (mvT (s := s.setVm vm) hon.2.1 w4) hy (C.back hon w4 w3 hf hl) (g := mkF m pc L S) rfl (hsz.trans hm.symm) (argsL := argsL) (rest := rest) (lenOf hdesc hlen) hst (by show 2 * 0 + _ ≤ _; omega) (hb hc hd) (fun _ _ => ⟨rfl, hh, q1, q2⟩)
theorem Go.invokespecial {idx : Nat} {y : MethodName} {code' : ByteArray} {ml' : Nat} {rm : Room} {Q : Option Value → Vm → Heap → Prop} {ps : List FieldType} {r : Option FieldType} {rest : List Value} (W : Nat) (a : Addr) (argsL : List Value) (pc' : Nat) (hd : decode code pc = .ok (.invokespecial idx, 3)) (hp : pc + 3 = pc') (hy1 : y.name = "<init>") (w1 : (Jvm.Cond.methodLink own idx y).before a0 Z = true) (w2 : (Jvm.Cond.instanceMethod y).before a0 Z = true) (w3 : (Jvm.Cond.initialized y.cls).before a0 Z = true) (w4 : (Jvm.Cond.code y code' ml' none).before a0 Z = true) (hy : y.cls ≠ "java/lang/invoke/MethodHandle" ∧ y.cls ≠ "java/lang/invoke/VarHandle")
    (C : Ctr nw l Z a0 EL y code' ml' none rm (.ref a :: argsL).toArray vm h Q) (hdesc : parseMethodDescriptor y.desc = some ⟨ps, r⟩) (hlen : argsL.length = ps.length) (hst : S = argsL.reverse ++ .ref a :: rest) (hsz : L.size = ml) (hf : rm.frames + 1 ≤ R.frames) (hW : (rest.map fun v => v.category).sum ≤ W) (hl : W + (ml' + 11) + rm.locals ≤ R.locals) (hk0 : k + rm.cells ≤ R.cells) (hn0 : n + rm.slots ≤ R.slots)
    (g : ∀ v vm' h', Q v vm' h' → CHr Z EL vm h vm' h' → Go nw p l e R s m args below meth c code ml nm ret Z a0 EL own P vm' h' (k + rm.cells) (n + rm.slots) pc' L (v.toList ++ rest)) : Go nw p l e R s m args below meth c code ml nm ret Z a0 EL own P vm h k n pc L S := by
  refine Go.called (rm := rm) (Q := Q) (rest := rest) hp hk0 hn0 (fun T locs cells slots X hh hx hc hm hon q1 q2 => ?_) g
  exact X.specialBackS hx hy1 hon.2.2.1 (mvT (s := s.setVm vm) hon.2.1 w1) (mvT (s := s.setVm vm) hon.2.1 w2) (mvT (s := s.setVm vm) hon.2.1 w4) hy (C.back hon w4 w3 hf hl) (g := mkF m pc L S) rfl (hsz.trans hm.symm) (Steps.refl _) (a := a) (argsL := argsL) (rest := rest) (lenOf hdesc hlen) hst (by show 2 * 0 + _ ≤ _; omega) (hb hc hd) (fun _ _ => ⟨rfl, hh, q1, q2⟩)
theorem Go.invokevirtual {idx : Nat} {y : MethodName} {code' : ByteArray} {ml' : Nat} {ret' : Option FieldType} {rm : Room} {Q : Option Value → Vm → Heap → Prop} {ps : List FieldType} {r : Option FieldType} {rest : List Value} {x : MethodName} {cls : String} (W : Nat) (a : Addr) (argsL : List Value) (pc' : Nat) (hd : decode code pc = .ok (.invokevirtual idx, 3)) (hp : pc + 3 = pc') (E : Exa Z h a cls) (w1 : (Jvm.Cond.methodLink own idx x).before a0 Z = true) (w2 : (Jvm.Cond.declares x).before a0 Z = true) (nf : ∀ s : State, Z.Warmed39 s.vm → NotFace s x) (ws : (Jvm.Cond.selects cls x y).before a0 Z = true) (wi : (Jvm.Cond.instanceMethod y).before a0 Z = true) (w3 : (Jvm.Cond.initialized y.cls).before a0 Z = true) (w4 : (Jvm.Cond.code y code' ml' ret').before a0 Z = true)
    (hy : x.cls ≠ "java/lang/invoke/MethodHandle" ∧ x.cls ≠ "java/lang/invoke/VarHandle") (C : Ctr nw l Z a0 EL y code' ml' ret' rm (.ref a :: argsL).toArray vm h Q) (hdesc : parseMethodDescriptor x.desc = some ⟨ps, r⟩) (hlen : argsL.length = ps.length) (hst : S = argsL.reverse ++ .ref a :: rest) (hsz : L.size = ml) (hf : rm.frames + 1 ≤ R.frames) (hW : (rest.map fun v => v.category).sum ≤ W) (hl : W + (ml' + 11) + rm.locals ≤ R.locals) (hk0 : k + rm.cells ≤ R.cells) (hn0 : n + rm.slots ≤ R.slots)
    (g : ∀ v vm' h', Q v vm' h' → CHr Z EL vm h vm' h' → Go nw p l e R s m args below meth c code ml nm ret Z a0 EL own P vm' h' (k + rm.cells) (n + rm.slots) pc' L (v.toList ++ rest)) : Go nw p l e R s m args below meth c code ml nm ret Z a0 EL own P vm h k n pc L S := by
  refine Go.called (rm := rm) (Q := Q) (rest := rest) hp hk0 hn0 (fun T locs cells slots X hh hx hc hm hon q1 q2 => ?_) g
  obtain ⟨cB, kB, b1, b2, b3⟩ := isOf (s := s.setVm vm) hon.2.1 hh E
  exact X.virtualBackS hx hon.2.2.1 (mvT (s := s.setVm vm) hon.2.1 w1) (mvT (s := s.setVm vm) hon.2.1 w2) (nf (s.setVm vm) hon.2.1) (mvT (s := s.setVm vm) hon.2.1 ws) (mvT (s := s.setVm vm) hon.2.1 wi) hy (C.back hon w4 w3 hf hl) b1 b3 (g := mkF m pc L S) rfl (hsz.trans hm.symm) (Steps.refl _) (argsL := argsL) (rest := rest) (lenOf hdesc hlen) hst (by show 2 * 0 + _ ≤ _; omega) (hb hc hd) (fun _ _ => ⟨rfl, hh, q1, q2⟩)
theorem On.keep {ws : List Addr} (hon : On nw s m Z a0 EL own vm h) (K : Keep h h' ws) (hs : ∀ x ∈ ws, Safe Z EL vm h x) (hz : ∀ x ∈ ws, Z.heap.size ≤ x) : On nw s m Z a0 EL own vm h' := by
  obtain ⟨⟨k0, a1, a2⟩, a3, a4, a5, a6, a7, a8⟩ := hon
  exact ⟨⟨k0, a1, Nat.le_trans a2 K.1⟩, a3, a4, a5.keep K hs, (Old.keep (Z := Z) ⟨rfl, a6⟩ K hz).2, a7, a8⟩
/-- behind a call that a Back pays: the tables' base as it was -/
theorem Go.calledB {Q : Option Value → Heap → List Loc → Prop} {dk dn len pc' : Nat} {rest : List Value} (hp : pc + len = pc') (hk0 : k + dk ≤ R.cells) (hn0 : n + dn ≤ R.slots)
    (st : ∀ T locs cells slots, Stand p l e R (s.setVm vm) m args below meth c T locs cells slots → T.heap = h → p.tables.exec = Jvm.exec → c.code = code → c.maxLocals = ml → On nw s m Z a0 EL own vm h → cells + dk ≤ R.cells → slots + dn ≤ R.slots →
      ∃ (v : Option Value) (vm₁ : Vm) (B : Pt), (s.setVm vm).WarmedH vm₁ ∧ Stand p l e R (s.setVm vm) m args below meth c B.U B.locs B.cells B.slots ∧ (∃ L, Q v B.U.heap L ∧ B.locs = locs ++ L ∧ B.cells = cells + dk ∧ B.slots = slots + dn) ∧
        Steps p.tables e below (T.setTop (mkF m pc L S)) (B.U.setTop { mkF m pc L S with pc := pc + len, stack := v.toList ++ rest }))
    (hQ : ∀ v h' lc, Q v h' lc → Fr Z.heap.size lc ∧ ∃ ws, Keep h h' ws ∧ (∀ x ∈ ws, Safe Z EL vm h x) ∧ ∀ x ∈ ws, Z.heap.size ≤ x)
    (g : ∀ v h' lc, Q v h' lc → CHr Z EL vm h vm h' → Go nw p l e R s m args below meth c code ml nm ret Z a0 EL own P vm h' (k + dk) (n + dn) pc' L (v.toList ++ rest)) : Go nw p l e R s m args below meth c code ml nm ret Z a0 EL own P vm h k n pc L S := by
  intro hx hc hm hl hnm hr hon T locs cells slots X hh hF hk hn
  obtain ⟨v, vm₁, B, -, X', ⟨L1, hq, e1, e2, e3⟩, st2⟩ := st T locs cells slots X hh hx hc hm hon (by omega) (by omega)
  obtain ⟨U, Ls, c1, s1⟩ := B
  dsimp only [Pt.U, Pt.locs, Pt.cells, Pt.slots] at X' hq e1 e2 e3 st2
  subst e1 e2 e3 hp
  obtain ⟨hFr, ws, K, hs, hz⟩ := hQ _ _ _ hq
  have ch : CHr Z EL vm h vm U.heap := CHr.keep K hs hon.2.2.2.1
  obtain ⟨s₂, v2, st3, r1, r2, r3, r4, r5⟩ := g v U.heap L1 hq ch hx hc hm hl hnm hr (hon.keep K hs hz) U _ _ _ X' rfl (Fr.app hF hFr) (by omega) (by omega)
  exact ⟨s₂, v2, st2.trans st3, r1, r2, r3, ch.trans r4, r5⟩
theorem Go.virtB {idx : Nat} {x y : MethodName} {cls : String} {Q : Option Value → Heap → List Loc → Prop} {dk dn : Nat} {ps : List FieldType} {r : Option FieldType} {rest : List Value} (W : Nat) (a : Addr) (argsL : List Value) (pc' : Nat) (hd : decode code pc = .ok (.invokevirtual idx, 3)) (hp : pc + 3 = pc') (E : Exa Z h a cls)
    (w1 : (Jvm.Cond.methodLink own idx x).before a0 Z = true) (w2 : (Jvm.Cond.declares x).before a0 Z = true) (nf : ∀ s : State, Z.Warmed39 s.vm → NotFace s x) (ws : (Jvm.Cond.selects cls x y).before a0 Z = true) (wi : (Jvm.Cond.instanceMethod y).before a0 Z = true) (hy : x.cls ≠ "java/lang/invoke/MethodHandle" ∧ x.cls ≠ "java/lang/invoke/VarHandle")
    (B : Z.Warmed39 (s.setVm vm).vm → Ext Z.heap h → Back l R p e below (s.setVm vm) args y 3 W (fun A as => as = (.ref a :: argsL).toArray ∧ A.U.heap = h ∧ A.cells + dk ≤ R.cells ∧ A.slots + dn ≤ R.slots) (fun A _ v B => ∃ L, Q v B.U.heap L ∧ B.locs = A.locs ++ L ∧ B.cells = A.cells + dk ∧ B.slots = A.slots + dn))
    (hdesc : parseMethodDescriptor x.desc = some ⟨ps, r⟩) (hlen : argsL.length = ps.length) (hst : S = argsL.reverse ++ .ref a :: rest) (hsz : L.size = ml) (hW : (rest.map fun v => v.category).sum ≤ W) (hk0 : k + dk ≤ R.cells) (hn0 : n + dn ≤ R.slots)
    (hQ : ∀ v h' lc, Q v h' lc → Fr Z.heap.size lc ∧ ∃ ws, Keep h h' ws ∧ (∀ x ∈ ws, Safe Z EL vm h x) ∧ ∀ x ∈ ws, Z.heap.size ≤ x) (g : ∀ v h' lc, Q v h' lc → CHr Z EL vm h vm h' → Go nw p l e R s m args below meth c code ml nm ret Z a0 EL own P vm h' (k + dk) (n + dn) pc' L (v.toList ++ rest)) : Go nw p l e R s m args below meth c code ml nm ret Z a0 EL own P vm h k n pc L S := by
  refine Go.calledB (rest := rest) hp hk0 hn0 (fun T locs cells slots X hh hx hc hm hon q1 q2 => ?_) hQ g
  obtain ⟨cB, kB, b1, b2, b3⟩ := isOf (s := s.setVm vm) hon.2.1 hh E
  exact X.virtualBack hx hon.2.2.1 (mvT (s := s.setVm vm) hon.2.1 w1) (mvT (s := s.setVm vm) hon.2.1 w2) (nf (s.setVm vm) hon.2.1) (mvT (s := s.setVm vm) hon.2.1 ws) (mvT (s := s.setVm vm) hon.2.1 wi) hy (B hon.2.1 hon.2.2.2.2.1) b1 b3 (g := mkF m pc L S) rfl (hsz.trans hm.symm) (Steps.refl _) (argsL := argsL) (rest := rest) (lenOf hdesc hlen) hst (by show 2 * 0 + _ ≤ _; omega) (hb hc hd) (fun _ _ => ⟨rfl, hh, q1, q2⟩)
theorem Go.specB {idx : Nat} {y : MethodName} {code' : ByteArray} {ml' : Nat} {Q : Option Value → Heap → List Loc → Prop} {dk dn : Nat} {ps : List FieldType} {r : Option FieldType} {rest : List Value} (W : Nat) (a : Addr) (argsL : List Value) (pc' : Nat) (hd : decode code pc = .ok (.invokespecial idx, 3)) (hp : pc + 3 = pc') (hy1 : y.name = "<init>")
    (w1 : (Jvm.Cond.methodLink own idx y).before a0 Z = true) (w2 : (Jvm.Cond.instanceMethod y).before a0 Z = true) (w4 : (Jvm.Cond.code y code' ml' none).before a0 Z = true) (hy : y.cls ≠ "java/lang/invoke/MethodHandle" ∧ y.cls ≠ "java/lang/invoke/VarHandle")
    (B : Z.Warmed39 (s.setVm vm).vm → Ext Z.heap h → Back l R p e below (s.setVm vm) args y 3 W (fun A as => as = (.ref a :: argsL).toArray ∧ A.U.heap = h ∧ A.cells + dk ≤ R.cells ∧ A.slots + dn ≤ R.slots) (fun A _ v B => ∃ L, Q v B.U.heap L ∧ B.locs = A.locs ++ L ∧ B.cells = A.cells + dk ∧ B.slots = A.slots + dn))
    (hdesc : parseMethodDescriptor y.desc = some ⟨ps, r⟩) (hlen : argsL.length = ps.length) (hst : S = argsL.reverse ++ .ref a :: rest) (hsz : L.size = ml) (hW : (rest.map fun v => v.category).sum ≤ W) (hk0 : k + dk ≤ R.cells) (hn0 : n + dn ≤ R.slots)
    (hQ : ∀ v h' lc, Q v h' lc → Fr Z.heap.size lc ∧ ∃ ws, Keep h h' ws ∧ (∀ x ∈ ws, Safe Z EL vm h x) ∧ ∀ x ∈ ws, Z.heap.size ≤ x) (g : ∀ v h' lc, Q v h' lc → CHr Z EL vm h vm h' → Go nw p l e R s m args below meth c code ml nm ret Z a0 EL own P vm h' (k + dk) (n + dn) pc' L (v.toList ++ rest)) : Go nw p l e R s m args below meth c code ml nm ret Z a0 EL own P vm h k n pc L S := by
  refine Go.calledB (rest := rest) hp hk0 hn0 (fun T locs cells slots X hh hx hc hm hon q1 q2 => ?_) hQ g
  exact X.specialBack hx hy1 hon.2.2.1 (mvT (s := s.setVm vm) hon.2.1 w1) (mvT (s := s.setVm vm) hon.2.1 w2) (mvT (s := s.setVm vm) hon.2.1 w4) hy (B hon.2.1 hon.2.2.2.2.1) (g := mkF m pc L S) rfl (hsz.trans hm.symm) (Steps.refl _) (a := a) (argsL := argsL) (rest := rest) (lenOf hdesc hlen) hst (by show 2 * 0 + _ ≤ _; omega) (hb hc hd) (fun _ _ => ⟨rfl, hh, q1, q2⟩)
/-- ldc of a String constant that EL lists, its text read -/
theorem Go.ldcS {idx : Nat} {text : String} {vs : List Value} {z : Int32} (cap : Nat) (pc' : Nat) (hd : decode code pc = .ok (.ldc idx, 2)) (hp : pc + 2 = pc') (hnw : nw = false) (w : (Jvm.Cond.stringLink own idx text).before a0 Z = true) (wS : ∀ a ∈ Bundle.stringAtoms, a.before a0 Z = true) (hmem : (own, idx) ∈ EL)
    (ht : (∀ c ∈ text.toList, c.toNat < 256) ∧ text.toList.map (fun c => Value.int (Jvm.Lit.byteI c.toNat.toUInt16)) = vs) (hz : ¬ z < 0) (hl : z.toNatClampNeg = vs.length) (hcap : 4 * text.toList.length ≤ cap) (hbig : cap ≤ 536870912) (hk0 : k + 2 ≤ R.cells) (hn0 : n + (cap + 4) ≤ R.slots)
    (g : ∀ (a b : Addr) (kb : ClassId) (vm' : Vm) (h' : Heap), Ext h h' → Exa Z h' a "java/lang/String" → Fld Z h' a "java/lang/String" "coder" "B" (.int 0) → Fld Z h' a "java/lang/String" "value" "[B" (.ref b) → Arv Z h' b kb .byte z vs (.int 0) → (∀ x, Safe Z EL vm' h' x → x ≠ a ∧ x ≠ b) → CHr Z EL vm h vm' h' → Go nw p l e R s m args below meth c code ml nm ret Z a0 EL own P vm' h' (k + 2) (n + (cap + 4)) pc' L (.ref a :: S)) : Go nw p l e R s m args below meth c code ml nm ret Z a0 EL own P vm h k n pc L S := by
  subst hp
  intro hx hc hm hl' hnm hr hon T locs cells slots X hh hF hk hn
  obtain ⟨⟨k0, a1, a2⟩, a3, a4, a5, a6, a7, a8⟩ := hon
  obtain ⟨a, T', h', k1, b, kb, X', e', E, hS, hk1, hZ', hf', A, C1, V1, K1, -, -, ch, -, hne, st⟩ := ldcCH X hx a3 a4 w wS hh a1 a2 a7 hmem a5 ht hz hl (g := mkF m pc L S) rfl (hb hc hd) hcap hbig (by omega) (by omega)
  have hon' : On nw s m Z a0 EL own T'.vm h' := ⟨⟨k1, hS, hk1⟩, hZ', hf', ch.1, ⟨Nat.le_trans a6.1 E.1, fun a c q => E.2 _ _ (a6.2 _ _ q)⟩, a7, fun q => by rw [hnw] at q; cases q⟩
  obtain ⟨s₂, v2, st3, r1, r2, r3, r4, r5⟩ := g a b kb T'.vm h' E A C1 V1 K1 hne ch hx hc hm hl' hnm hr hon' T' _ _ _ X' e' hF (by omega) (by omega)
  exact ⟨s₂, v2, st _ st3, r1, r2, r3, ch.trans r4, r5⟩
theorem Go.castY {K : String} {idx : Nat} {a : Addr} (pc' : Nat) (hd : decode code pc = .ok (.checkcast idx, 3)) (hp : pc + 3 = pc') (w : (Jvm.Cond.classLink own idx K).before a0 Z = true) (F : Ins Z h a K true) (g : Go nw p l e R s m args below meth c code ml nm ret Z a0 EL own P vm h k n pc' L (.ref a :: S)) : Go nw p l e R s m args below meth c code ml nm ret Z a0 EL own P vm h k n pc L (.ref a :: S) := by
  subst hp
  exact g.note fun T locs cells slots X hh hx hc hm hon => RoadKit.castY X hx hon.2.1 hon.2.2.1 w hh F (g := mkF m pc L (.ref a :: S)) rfl rfl (hb hc hd)
theorem Go.instY {K : String} {idx : Nat} {a : Addr} (pc' : Nat) (hd : decode code pc = .ok (.instanceof idx, 3)) (hp : pc + 3 = pc') (w : (Jvm.Cond.classLink own idx K).before a0 Z = true) (F : Ins Z h a K true) (g : Go nw p l e R s m args below meth c code ml nm ret Z a0 EL own P vm h k n pc' L (.int 1 :: S)) : Go nw p l e R s m args below meth c code ml nm ret Z a0 EL own P vm h k n pc L (.ref a :: S) := by
  subst hp
  exact g.note fun T locs cells slots X hh hx hc hm hon => RoadKit.instY X hx hon.2.1 hon.2.2.1 w hh F (g := mkF m pc L (.ref a :: S)) rfl rfl (hb hc hd)
theorem Go.instN {K C : String} {idx : Nat} {a : Addr} (pc' : Nat) (hd : decode code pc = .ok (.instanceof idx, 3)) (hp : pc + 3 = pc') (w : (Jvm.Cond.classLink own idx K).before a0 Z = true) (E : Exa Z h a C) (F : ∃ c t, Z.vm.findClass C = some c ∧ Z.vm.findClass K = some t ∧ Z.vm.assignable c t = false) (g : Go nw p l e R s m args below meth c code ml nm ret Z a0 EL own P vm h k n pc' L (.int 0 :: S)) : Go nw p l e R s m args below meth c code ml nm ret Z a0 EL own P vm h k n pc L (.ref a :: S) := by
  subst hp
  exact g.note fun T locs cells slots X hh hx hc hm hon => instNo X hx hon.2.1 hon.2.2.1 w hh E F (g := mkF m pc L (.ref a :: S)) rfl rfl (hb hc hd)
theorem Go.ldc2_w {idx : Nat} {v : Int64} (w : (Jvm.Cond.constantLong own idx v).before a0 Z = true) (pc' : Nat) (hd : decode code pc = .ok (.ldc2_w idx, 3)) (hp : pc + 3 = pc') (g : Go nw p l e R s m args below meth c code ml nm ret Z a0 EL own P vm h k n pc' L (.long v :: S)) : Go nw p l e R s m args below meth c code ml nm ret Z a0 EL own P vm h k n pc L S := by
  subst hp
  exact g.note fun T locs cells slots X hh hx hc hm hon => ⟨T, X, hh, fun target q => ldc2J X hx hon.2.2.1 (mvT (s := s.setVm vm) hon.2.1 w) (g := mkF m pc L S) rfl (hb hc hd) q⟩
theorem Go.instNull {idx : Nat} (pc' : Nat) (hd : decode code pc = .ok (.instanceof idx, 3)) (hp : pc + 3 = pc') (g : Go nw p l e R s m args below meth c code ml nm ret Z a0 EL own P vm h k n pc' L (.int 0 :: S)) : Go nw p l e R s m args below meth c code ml nm ret Z a0 EL own P vm h k n pc L (.null :: S) := by
  subst hp
  exact g.note fun T locs cells slots X hh hx hc hm hon => ⟨T, X, hh, instanceofNull X hx (g := mkF m pc L (.null :: S)) rfl rfl (hb hc hd)⟩
theorem Go.anewarray {C : String} {idx : Nat} {z : Int32} (cap : Nat) (pc' : Nat) (hd : decode code pc = .ok (.anewarray idx, 3)) (hp : pc + 3 = pc') (w1 : (Jvm.Cond.classLink own idx C).before a0 Z = true) (w2 : (Jvm.Cond.arrayOver (.object C)).before a0 Z = true) (hz : ¬ z < 0) (hcap : z.toNatClampNeg ≤ cap) (hb8 : cap * 8 ≤ 536870912) (hk0 : k + 1 ≤ R.cells) (hn0 : n + cap ≤ R.slots)
    (g : ∀ a h', a = h.size → Ext h h' → (∃ cA, Arv Z h' a cA (.object C) z [] .null ∧ Ovr Z cA C) → Safe Z EL vm h' a → Z.heap.size ≤ a → CHr Z EL vm h vm h' → Go nw p l e R s m args below meth c code ml nm ret Z a0 EL own P vm h' (k + 1) (n + cap) pc' L (.ref a :: S)) : Go nw p l e R s m args below meth c code ml nm ret Z a0 EL own P vm h k n pc L (.int z :: S) := by
  subst hp
  refine Go.made (dk := 1) (dn := cap) (S' := fun a => .ref a :: S) (F := fun h' a => ∃ cA, Arv Z h' a cA (.object C) z [] .null ∧ Ovr Z cA C) hk0 hn0 (fun T locs cells slots X hh hx hc hm hon q1 q2 => ?_) g
  obtain ⟨T', h', cA, X', e', E, A, O, st⟩ := newR X hx hon.2.1 hon.2.2.1 w1 w2 hh (g := mkF m pc L (.int z :: S)) rfl (hb hc hd) rfl hz hcap hb8 q1 q2
  exact ⟨T', h', X', e', E, ⟨cA, Arv.new A hz, O⟩, st⟩
theorem Go.aastore {a y : Addr} {kA : ClassId} {C : String} {z j : Int32} {vs : List Value} {dv : Value} (i : Nat) (vs' : List Value) (pc' : Nat) (hd : decode code pc = .ok (.aastore, 1)) (hp : pc + 1 = pc') (A : Arv Z h a kA (.object C) z vs dv) (O : Ovr Z kA C) (I : Ins Z h y C true) (hj : ¬ j < 0 ∧ j < z) (hi : j.toNatClampNeg = i) (hl : i < vs.length) (hvs : vs.set i (.ref y) = vs') (Sa : Safe Z EL vm h a) (hz : Z.heap.size ≤ a)
    (g : ∀ h', Keep h h' [a] → Arv Z h' a kA (.object C) z vs' dv → Safe Z EL vm h' a → CHr Z EL vm h vm h' → Go nw p l e R s m args below meth c code ml nm ret Z a0 EL own P vm h' k n pc' L S) : Go nw p l e R s m args below meth c code ml nm ret Z a0 EL own P vm h k n pc L (.ref y :: .int j :: .ref a :: S) := by
  subst hp hvs
  obtain ⟨cl, A1, A2, A3, A4, A5, A6⟩ := A
  have hin := inb_of A3 hj
  refine Go.wrote Sa hz (sl := j.toNatClampNeg) (w := .ref y) (fun T locs cells slots X hh hx hc hm hnm hon => ?_) (fun h' W s2 ch => g h' (Keep.of_wr W) (Arv.set A1 A2 A3 A4 A5 A6 rfl W i hi hl) s2 ch)
  exact stR X hx hon.2.1 hh A1 hin rfl (Sto.ofV A1 A2 O I) (g := mkF m pc L (.ref y :: .int j :: .ref a :: S)) rfl rfl (hb hc hd)
theorem Go.invokeinterface {idx : Nat} {y : MethodName} {code' : ByteArray} {ml' : Nat} {ret' : Option FieldType} {rm : Room} {Q : Option Value → Vm → Heap → Prop} {ps : List FieldType} {r : Option FieldType} {rest : List Value} {xi : MethodName} {cls : String} {cnt : Nat} (W : Nat) (a : Addr) (argsL : List Value) (pc' : Nat) (hd : decode code pc = .ok (.invokeinterface idx cnt, 5)) (hp : pc + 5 = pc') (E : Exa Z h a cls) (w1 : (Jvm.Cond.methodLink own idx xi).before a0 Z = true) (w2 : (Jvm.Cond.declares xi).before a0 Z = true) (wf : ∀ s' : State, Z.Warmed39 s'.vm → (Jvm.Cond.interfaceMethod xi.cls xi.cls xi.name xi.desc).before args s' = true) (ws : (Jvm.Cond.selects cls xi y).before a0 Z = true) (wi : (Jvm.Cond.instanceMethod y).before a0 Z = true) (wp : (Jvm.Cond.publicMethod y).before a0 Z = true) (wu : (Jvm.Cond.unhidden cls xi.name xi.desc).before a0 Z = true) (wc : (Jvm.Cond.castable cls xi.cls).before a0 Z = true) (w3 : (Jvm.Cond.initialized y.cls).before a0 Z = true) (w4 : (Jvm.Cond.code y code' ml' ret').before a0 Z = true)
    (hy : xi.cls ≠ "java/lang/invoke/MethodHandle" ∧ xi.cls ≠ "java/lang/invoke/VarHandle") (C : Ctr nw l Z a0 EL y code' ml' ret' rm (.ref a :: argsL).toArray vm h Q) (hdesc : parseMethodDescriptor xi.desc = some ⟨ps, r⟩) (hlen : argsL.length = ps.length) (hst : S = argsL.reverse ++ .ref a :: rest) (hsz : L.size = ml) (hf : rm.frames + 1 ≤ R.frames) (hW : (rest.map fun v => v.category).sum ≤ W) (hl : W + (ml' + 11) + rm.locals ≤ R.locals) (hk0 : k + rm.cells ≤ R.cells) (hn0 : n + rm.slots ≤ R.slots)
    (g : ∀ v vm' h', Q v vm' h' → CHr Z EL vm h vm' h' → Go nw p l e R s m args below meth c code ml nm ret Z a0 EL own P vm' h' (k + rm.cells) (n + rm.slots) pc' L (v.toList ++ rest)) : Go nw p l e R s m args below meth c code ml nm ret Z a0 EL own P vm h k n pc L S := by
  refine Go.called (rm := rm) (Q := Q) (rest := rest) hp hk0 hn0 (fun T locs cells slots X hh hx hc hm hon q1 q2 => ?_) g
  obtain ⟨cB, kB, b1, b2, b3⟩ := isOf (s := s.setVm vm) hon.2.1 hh E
  exact X.interfaceBackS hx hon.2.2.1 (mvT (s := s.setVm vm) hon.2.1 w1) (mvT (s := s.setVm vm) hon.2.1 w2) (wf (s.setVm vm) hon.2.1) (mvT (s := s.setVm vm) hon.2.1 ws) (mvT (s := s.setVm vm) hon.2.1 wi) (mvT (s := s.setVm vm) hon.2.1 wp) (mvT (s := s.setVm vm) hon.2.1 wu) (mvT (s := s.setVm vm) hon.2.1 wc) hy (C.back hon w4 w3 hf hl) b1 b2 b3 (g := mkF m pc L S) rfl (hsz.trans hm.symm) (Steps.refl _) (argsL := argsL) (rest := rest) (lenOf hdesc hlen) hst (by show 2 * 0 + _ ≤ _; omega) (hb hc hd) (fun _ _ => ⟨rfl, hh, q1, q2⟩)
theorem Go.ldcI {idx : Nat} {v : Int32} (w : (Jvm.Cond.constant own idx v).before a0 Z = true) (pc' : Nat) (hd : decode code pc = .ok (.ldc idx, 2)) (hp : pc + 2 = pc') (g : Go nw p l e R s m args below meth c code ml nm ret Z a0 EL own P vm h k n pc' L (.int v :: S)) : Go nw p l e R s m args below meth c code ml nm ret Z a0 EL own P vm h k n pc L S := by
  subst hp
  exact g.note fun T locs cells slots X hh hx hc hm hon => ⟨T, X, hh, fun target q => Jvm.Stand.ldcI X hx hon.2.2.1 (mvT (s := s.setVm vm) hon.2.1 w) (g := mkF m pc L S) rfl (hb hc hd) q⟩
end Core
end Jvm.Own

namespace Jvm.Own
open Sem ClassFile Op Lib Bundle Jvm.Stand Jvm.Free Jvm.LawKit Jvm.RoadKit
section Facts
variable {Z : State} {a0 : Array Value} {EL : List (String × Nat)} {vm vm' : Vm} {h h' h0 h1 h2 : Heap} {a b x : Addr} {cs ds : List Int32} {ws : List Addr} {C : String} {n : Nat}
theorem Ext.rfl' (h : Heap) : Ext h h := ⟨Nat.le_refl _, fun _ _ q => q⟩
theorem Ext.tr (E : Ext h h1) (F : Ext h1 h2) : Ext h h2 := ⟨Nat.le_trans E.1 F.1, fun a c q => F.2 _ _ (E.2 _ _ q)⟩
/-- only new cells written: from the old heap's side nothing has changed -/
theorem Ext.kp (E : Ext h h1) (K : Keep h1 h2 ws) (q : ∀ x ∈ ws, h.size ≤ x) : Ext h h2 :=
  ⟨Nat.le_trans E.1 K.1, fun a c r => K.2.1 a c (E.2 _ _ r) fun z => absurd (Array.getElem?_eq_some_iff.mp r).1 (Nat.not_lt.mpr (q a z))⟩
theorem Ext.kp1 (E : Ext h h1) (K : Keep h1 h2 [x]) (e : x = h.size) : Ext h h2 := Ext.kp E K fun y hy => by cases List.mem_singleton.mp hy; exact Nat.le_of_eq e.symm
theorem Ext.kq1 (E : Ext h h1) (K : Keep h1 h2 [x]) (e : h.size ≤ x) : Ext h h2 := Ext.kp E K fun y hy => by cases List.mem_singleton.mp hy; exact e
theorem Ext.wr1 {sl : Nat} {v : Value} (E : Ext h h1) (W : Wr h1 h2 x sl v) (e : h.size ≤ x) : Ext h h2 := Ext.kq1 E (Keep.of_wr W) e
theorem Keep.ofExt (E : Ext h h') (ws : List Addr) : Keep h h' ws := (Keep.refl h ws).ext E
theorem Keep.e0 (K : Keep h h' []) : Ext h h' := ⟨K.1, fun a c q => K.2.1 a c q nin0⟩
theorem ne_of_new (q : a < h.size) (r : h.size ≤ b) : a ≠ b := Nat.ne_of_lt (Nat.lt_of_lt_of_le q r)
/-- a Latin-1 String of these chars -/
def Str (Z : State) (h : Heap) (a : Addr) (cs : List Int32) : Prop :=
  ∃ (b : Addr) (kb : ClassId), Exa Z h a "java/lang/String" ∧ Fld Z h a "java/lang/String" "coder" "B" (.int 0) ∧ Fld Z h a "java/lang/String" "value" "[B" (.ref b) ∧
    Arv Z h b kb .byte (Int32.ofNat cs.length) ((cs.map fun c => c.toInt8.toInt32).map Value.int) (.int 0) ∧ cs.length ≤ 4000 ∧ ∀ c ∈ cs, ¬ c < 0 ∧ ¬ (255 : Int32) < c
theorem Str.ext (S : Str Z h a cs) (E : Ext h h') : Str Z h' a cs := by
  obtain ⟨b, kb, s1, s2, s3, s4, s5⟩ := S
  exact ⟨b, kb, s1.ext E, s2.ext E, s3.ext E, s4.ext E, s5⟩
theorem Str.exa (S : Str Z h a cs) : Exa Z h a "java/lang/String" := by obtain ⟨b, kb, s1, -⟩ := S; exact s1
theorem Str.lt (S : Str Z h a cs) : a < h.size := S.exa.lt
/-- an object of another class is written -/
theorem Str.keepE (S : Str Z h a cs) (K : Keep h h' [x]) (E : Exa Z h x C) (hC : C ≠ "java/lang/String") (wi : (Jvm.Cond.instantiable C n).before a0 Z = true) : Str Z h' a cs := by
  obtain ⟨b, kb, s1, s2, s3, s4, s5⟩ := S
  have n1 : a ∉ [x] := ninS (fun q => (Exa.ne E s1 hC) q.symm) nin0
  have n2 : b ∉ [x] := ninS (fun q => (Exa.neArv E s4 wi) q.symm) nin0
  exact ⟨b, kb, s1.keep K, s2.keep K n1, s3.keep K n1, s4.keep K n2, s5⟩
theorem Str.wrE {sl : Nat} {v : Value} (S : Str Z h a cs) (W : Wr h h' x sl v) (E : Exa Z h x C) (hC : C ≠ "java/lang/String") (wi : (Jvm.Cond.instantiable C n).before a0 Z = true) : Str Z h' a cs := S.keepE (Keep.of_wr W) E hC wi
/-- an array of another kind is written -/
theorem Str.keepA {k : ClassId} {ty : FieldType} {z : Int32} {vs : List Value} {dv : Value} {nI : Nat} (S : Str Z h a cs) (K : Keep h h' [x]) (A : Arv Z h x k ty z vs dv) (ht : ty ≠ .byte) (wi : (Jvm.Cond.instantiable "java/lang/String" nI).before a0 Z = true) : Str Z h' a cs := by
  obtain ⟨b, kb, s1, s2, s3, s4, s5⟩ := S
  have n1 : a ∉ [x] := ninS (Exa.neArv s1 A wi) nin0
  have n2 : b ∉ [x] := ninS (fun q => by
    subst q
    obtain ⟨c1, ⟨e1, ⟨-, k1, f1, p1, g1⟩, -⟩, -⟩ := s4
    obtain ⟨c2, ⟨e2, ⟨-, k2, f2, p2, g2⟩, -⟩, -⟩ := A
    cases e1.symm.trans e2
    cases f1.symm.trans f2
    rw [g1] at g2
    cases g2
    exact ht rfl) nin0
  exact ⟨b, kb, s1.keep K, s2.keep K n1, s3.keep K n1, s4.keep K n2, s5⟩
theorem Exa.insOf (E : Exa Z h a C) : Ins Z h a C true := Ins.self E
theorem i2c255 (x : Int32) : (x &&& 255).toUInt32.toUInt16.toUInt32.toInt32 = x &&& 255 := i2c_mask x
theorem and255 (x : Int32) : ¬ (x &&& (255 : Int32)) < 0 ∧ ¬ (255 : Int32) < (x &&& (255 : Int32)) := by
  have t : ∀ k : Fin 256, ¬ (Int32.ofNat k.val) < 0 ∧ ¬ (255 : Int32) < Int32.ofNat k.val := by decide +kernel
  have h : (x &&& 255).toBitVec.toNat < 256 := by
    simp only [Int32.toBitVec_and, BitVec.toNat_and]
    exact Nat.lt_succ_of_le Nat.and_le_right
  have e : (x &&& 255) = Int32.ofNat (x &&& 255).toBitVec.toNat := by
    apply Int32.toBitVec_inj.mp
    show _ = BitVec.ofNat 32 _
    rw [BitVec.ofNat_toNat]; simp
  rw [e]
  exact t ⟨_, h⟩
theorem narC {x : Int32} (h : ¬ x < 0 ∧ ¬ (255 : Int32) < x) : nar .char x = x := by
  have e : x = x &&& 255 := by
    obtain ⟨h1, h2⟩ := h
    apply Int32.toInt_inj.mp
    rw [c_mask x 255 8 (by decide) (by decide)]
    rw [Int32.lt_iff_toInt_lt] at h1 h2
    have e1 : (0 : Int32).toInt = 0 := rfl
    have e2 : (255 : Int32).toInt = 255 := rfl
    omega
  rw [e]; exact i2c_mask x
theorem narZ {x : Int32} (h : x = 0 ∨ x = 1) : narrow .boolean (.int x) = .int x := by rcases h with rfl | rfl <;> rfl
theorem narCv {x : Int32} (h : ¬ x < 0 ∧ ¬ (255 : Int32) < x) : narrow .char (.int x) = .int x := (show narrow .char (.int x) = .int (nar .char x) from rfl).trans (by rw [narC h])
theorem l2i_mask {y m : Int64} {k : Nat} (hk : k ≤ 30) (hm : m.toBitVec.toNat = 2 ^ k - 1) : ((y &&& m).toInt32).toInt = y.toInt % (2 ^ k : Nat) := by
  have h1 := c_maskL y m k (by omega) hm
  have h2 := c_l2i (y &&& m)
  rw [h1] at h2
  have h3 := rng32 (y &&& m).toInt32
  have h4 : (2 ^ k : Nat) ≤ 2 ^ 30 := Nat.pow_le_pow_right (by decide) hk
  have h5 : 0 < (2 ^ k : Nat) := Nat.pow_pos (by decide)
  have h6 := Int.emod_nonneg y.toInt (b := ((2 ^ k : Nat) : Int)) (by omega)
  have h7 := Int.emod_lt_of_pos y.toInt (b := ((2 ^ k : Nat) : Int)) (by omega)
  omega
theorem b255L (y : Int64) : ¬ (y &&& (255 : Int64)).toInt32 < 0 ∧ ¬ (255 : Int32) < (y &&& (255 : Int64)).toInt32 := by
  have h := l2i_mask (y := y) (m := 255) (k := 8) (by decide) (by decide)
  rw [Int32.lt_iff_toInt_lt, Int32.lt_iff_toInt_lt, h]
  have e1 : (0 : Int32).toInt = 0 := rfl
  have e2 : (255 : Int32).toInt = 255 := rfl
  omega
theorem ofNat_toInt {n : Nat} (h : n < 2 ^ 31) : (Int32.ofNat n).toInt = n := len_toInt h
theorem ofNat_lt {i n : Nat} (hi : i < 2 ^ 31) (hn : n < 2 ^ 31) : Int32.ofNat i < Int32.ofNat n ↔ i < n := by
  rw [Int32.lt_iff_toInt_lt, ofNat_toInt hi, ofNat_toInt hn]; omega
theorem Str.at {i : Nat} (S : Str Z h a cs) (hi : i < cs.length) : ¬ cs.getD i 0 < 0 ∧ ¬ (255 : Int32) < cs.getD i 0 := by
  obtain ⟨b, kb, -, -, -, -, -, q⟩ := S
  have e : cs.getD i 0 = cs[i] := by simp [List.getD_eq_getElem?_getD, hi]
  rw [e]; exact q _ (List.getElem_mem _)
theorem Str.len (S : Str Z h a cs) : cs.length ≤ 4000 := by obtain ⟨b, kb, -, -, -, -, q, -⟩ := S; exact q
theorem refCat {v : Value} (h : v.isRef = true) : v.category = 1 := by rcases ref_cases h with rfl | ⟨a, rfl⟩ <;> rfl
/-- a truth as an int -/
def bi (P : Prop) [Decidable P] : Int32 := if P then 1 else 0
theorem bi_t {P : Prop} [Decidable P] (h : P) : bi P = 1 := if_pos h
theorem bi_f {P : Prop} [Decidable P] (h : ¬ P) : bi P = 0 := if_neg h
theorem bi0 {P : Prop} [Decidable P] : bi P = 0 ↔ ¬ P := by unfold bi; by_cases h : P <;> simp [h]
theorem bi1 {P : Prop} [Decidable P] : bi P = 1 ↔ P := by unfold bi; by_cases h : P <;> simp [h]
theorem bi_iff {P Q : Prop} [Decidable P] [Decidable Q] (h : P ↔ Q) : bi P = bi Q := by unfold bi; by_cases q : Q <;> simp [q, h]
theorem bi01 (P : Prop) [Decidable P] : bi P = 0 ∨ bi P = 1 := by unfold bi; by_cases h : P <;> simp [h]
theorem biZ (P : Prop) [Decidable P] : narrow .boolean (.int (bi P)) = .int (bi P) := narZ (bi01 P)
/-- a class that is no subclass of K -/
theorem noSub {C K O : String} {nk : Nat} (hC : (Jvm.Cond.superclass C O).before a0 Z = true) (hO : (Jvm.Cond.noSuperclass O).before a0 Z = true) (hK : (Jvm.Cond.instantiable K nk).before a0 Z = true) (n1 : C ≠ K) (n2 : O ≠ K) : ∃ c t, Z.vm.findClass C = some c ∧ Z.vm.findClass K = some t ∧ Z.vm.assignable c t = false := by
  obtain ⟨t, kt, g1, g2, g3, g4⟩ := Cond.instantiable_spec hK
  obtain ⟨o, ko, o1, o2, o3, -, -⟩ := Cond.noSuperclass_spec hO
  obtain ⟨c, h0⟩ := found_sup hC
  obtain ⟨p, k, kp, h1, h2, h3, h4, h5, -, h7⟩ := Cond.superclass_spec h0 hC
  cases o1.symm.trans h1
  have ne := ids_ne h0 g1 n1
  have no := ids_ne o1 g1 n2
  refine ⟨c, t, h0, g1, ?_⟩
  have sub : ∀ fuel, Z.vm.isSubclassAux fuel c t = false := fun fuel => by
    cases fuel with
    | zero => rfl
    | succ f =>
      cases f with
      | zero => simp [Vm.isSubclassAux, ne, h2, h4]
      | succ f => simp [Vm.isSubclassAux, ne, h2, h4, no, o2, o3]
  have g5 : kt.isInterface = false := by
    have q := g4.1
    simp only [Bool.or_eq_false_iff] at q
    exact q.1
  show Z.vm.assignableAux (255 + 1) c t = false
  simp [Vm.assignableAux, ne, h2, g2, h5, g3, g5, Vm.isSubclass, sub]
end Facts
end Jvm.Own
/- laws to paste: Road.backV, Road.eqW, Road.lenW, Road.chN, Road.codOf (cut by pick.py; bodies as the Statement names them) -/
namespace Jvm.Pilot.@@N@@
namespace StrChars
open Jvm Sem ClassFile Op Lib Jvm.Stand Jvm.Free.XT Jvm.Free.ALB Jvm.Free.JM Jvm.Free
open Jvm.Lib.Cold (StaticIs)
/-- a char array whose places are chars -/
def Ch (a : Addr) (A : Cell) (U : State) : Prop := Arr .char a A U ∧ Typed .char A
theorem Ch.mv {a : Addr} {A : Cell} {U U' : State} (h : Ch a A U) (hal : U.vm.Alike U'.vm) (hh : U'.heap = U.heap) : Ch a A U' := ⟨h.1.mv hal hh, h.2⟩
theorem Ch.keep {a : Addr} {A : Cell} {U U' : State} (h : Ch a A U) (hal : U.vm.Alike U'.vm) (hk : U'.heap[a]? = some A) : Ch a A U' := ⟨h.1.keep hal hk, h.2⟩
/-- what place i of a char[]'s cell holds -/
def cv (A : Cell) (i : Nat) : Int32 := match A.slots[i]? with | some (.int x) => x | _ => 0
theorem Ch.get {a : Addr} {A : Cell} {U : State} (h : Ch a A U) {i : Nat} (hi : i < A.slots.size) : A.slots[i]? = some (.int (cv A i)) := by
  have e := Array.getElem?_eq_getElem hi
  have f := h.2 i _ e
  unfold cv; rw [e]
  generalize A.slots[i] = v at f
  cases v <;> simp [fits] at f ⊢
/-- the byte that i2b leaves of a char -/
def lo8 (x : Int32) : Int32 := x.toInt8.toInt32
theorem fits_lo8 (y : Int32) : fits .byte (.int (lo8 y)) = true := by
  have h1 := y.toInt8.le_toInt
  have h2 := y.toInt8.toInt_lt
  simp only [lo8, fits, Bool.and_eq_true, decide_eq_true_eq, Int32.le_iff_toInt_le, Int8.toInt_toInt32, show (-128 : Int32).toInt = -128 from by decide, show (127 : Int32).toInt = 127 from by decide]
  omega
/-- A' is A but that each place j of lo .. hi - 1 holds f j -/
def Laid (A A' : Cell) (lo hi : Nat) (f : Nat → Value) : Prop := A'.cls = A.cls ∧ A'.vm = A.vm ∧ A'.slots.size = A.slots.size ∧ ∀ i, A'.slots[i]? = if lo ≤ i ∧ i < hi then some (f i) else A.slots[i]?
theorem Laid.zero (A : Cell) (lo : Nat) (f : Nat → Value) : Laid A A lo (lo + 0) f := ⟨rfl, rfl, rfl, fun i => by rw [if_neg (by omega)]⟩
theorem Laid.step {A Ak : Cell} {lo k : Nat} {f : Nat → Value} {v : Value} (h : Laid A Ak lo k f) (hlo : lo ≤ k) (hk : k < Ak.slots.size) (hv : v = f k) : Laid A (Ak.setSlot k v) lo (k + 1) f := by
  refine ⟨h.1, h.2.1, by simpa [Cell.setSlot] using h.2.2.1, fun i => ?_⟩
  by_cases e : k = i
  · subst e; rw [Cell.slots_setSlot_self v hk, if_pos (by omega), hv]
  · rw [Cell.slots_setSlot_ne v e, h.2.2.2 i]
    by_cases q : lo ≤ i ∧ i < k
    · rw [if_pos q, if_pos (by omega)]
    · rw [if_neg q, if_neg (by omega)]
def U16 : String := "java/lang/StringUTF16"
namespace Cmp5
def yN : MethodName := ⟨"java/lang/StringUTF16", "compress", "([CI[BII)I"⟩
abbrev yB : ByteArray := jdk_52_method_21_code
theorem d0 : decode yB 0 = .ok (.iconst 0, 1) := by decide +kernel
theorem d1 : decode yB 1 = .ok (.istore 5, 2) := by decide +kernel
theorem d3 : decode yB 3 = .ok (.iload 5, 2) := by decide +kernel
theorem d5 : decode yB 5 = .ok (.iload 4, 2) := by decide +kernel
theorem d7 : decode yB 7 = .ok (.if_icmp (.ge) 37, 3) := by decide +kernel
theorem d10 : decode yB 10 = .ok (.aload_n 0, 1) := by decide +kernel
theorem d11 : decode yB 11 = .ok (.iload_n 1, 1) := by decide +kernel
theorem d12 : decode yB 12 = .ok (.caload, 1) := by decide +kernel
theorem d13 : decode yB 13 = .ok (.istore 6, 2) := by decide +kernel
theorem d15 : decode yB 15 = .ok (.iload 6, 2) := by decide +kernel
theorem d17 : decode yB 17 = .ok (.sipush 255, 3) := by decide +kernel
theorem d20 : decode yB 20 = .ok (.if_icmp (.le) 6, 3) := by decide +kernel
theorem d26 : decode yB 26 = .ok (.aload_n 2, 1) := by decide +kernel
theorem d27 : decode yB 27 = .ok (.iload_n 3, 1) := by decide +kernel
theorem d28 : decode yB 28 = .ok (.iload 6, 2) := by decide +kernel
theorem d30 : decode yB 30 = .ok (.i2b, 1) := by decide +kernel
theorem d31 : decode yB 31 = .ok (.bastore, 1) := by decide +kernel
theorem d32 : decode yB 32 = .ok (.iinc 1 1, 3) := by decide +kernel
theorem d35 : decode yB 35 = .ok (.iinc 3 1, 3) := by decide +kernel
theorem d38 : decode yB 38 = .ok (.iinc 5 1, 3) := by decide +kernel
theorem d41 : decode yB 41 = .ok (.goto (-38), 3) := by decide +kernel
theorem d44 : decode yB 44 = .ok (.iload 4, 2) := by decide +kernel
theorem d46 : decode yB 46 = .ok (.ireturn, 1) := by decide +kernel
def site : List Cond := []
def tab : Cond := tabOf yN yB 7 (some .int) site
def P (b : Addr) (A : Cell) (d : Addr) (B : Cell) (o q len : Nat) (args : Array Value) (s : State) : Prop := args = #[.ref b, .int (Int32.ofNat o), .ref d, .int (Int32.ofNat q), .int (Int32.ofNat len)] ∧ Ch b A s ∧ Arr .byte d B s ∧ b ≠ d ∧ o + len ≤ A.slots.size ∧ q + len ≤ B.slots.size ∧ ∀ i, i < len → ¬ 255 < cv A (o + i)
def E (b : Addr) (A : Cell) (d : Addr) (B : Cell) (o q len : Nat) (r : Option Value) (s u : State) : Prop := r = some (.int (Int32.ofNat len)) ∧ ∃ B', Put d B' s u ∧ Laid B B' q (q + len) (fun j => Value.int (lo8 (cv A (o + (j - q)))))
/-- no char of the range above 255: len; the places written hold each char's low byte -/
theorem law (l : Launch) (b : Addr) (A : Cell) (d : Addr) (B : Cell) (o q len : Nat) : Law l yN 5 5 0 0 yB 7 (some .int) site (P b A d B o q len) (E b A d B o q len) (copyLocs d q len) 0 0 := by
  refine Law.of_walk (plainFor_of_name (by decide +kernel)) (by decide +kernel) (by decide +kernel) (by decide) (fun _ _ h => by rw [h.1]; rfl) (fun _ U U' hal hh h => ⟨h.1, h.2.1.mv hal hh, h.2.2.1.mv hal hh, h.2.2.2⟩) (fun r U U' V V' h1 hal h2 h => ⟨h.1, h.2.elim fun B' q => ⟨B', q.1.mv h1 h2, q.2⟩⟩) ?_
  intro p e s m args below meth c s₁ X0 hexec hbytes hml hret hlk hnm hown hh0 W hP
  obtain ⟨rfl, hA, hB, hne, l1, l2, hp⟩ := hP
  have c1 : Steps p.tables e below (s₁.setTop (entryFrame m #[.ref b, .int (Int32.ofNat o), .ref d, .int (Int32.ofNat q), .int (Int32.ofNat len)] 7)) (s₁.setTop (mkF m 0 #[.val (.ref b), .val (.int (Int32.ofNat o)), .val (.ref d), .val (.int (Int32.ofNat q)), .val (.int (Int32.ofNat len)), .unset, .unset] [])) := entry rfl
  have hA0 := hA.1.mv X0.warmed.alike hh0
  have hB0 := hB.mv X0.warmed.alike hh0
  have a31 := hA.1.2.2.2
  have c2 : Steps p.tables e below (s₁.setTop (entryFrame m #[.ref b, .int (Int32.ofNat o), .ref d, .int (Int32.ofNat q), .int (Int32.ofNat len)] 7)) (s₁.setTop (mkF m 3 #[.val (.ref b), .val (.int (Int32.ofNat o)), .val (.ref d), .val (.int (Int32.ofNat q)), .val (.int (Int32.ofNat len)), .val (.int 0), .unset] [])) := c1.trans (by
    refine iconstV X0.here hexec rfl 0 (hb hbytes d0) (by decide) ?_
    refine XS.istore X0.here hexec rfl (hb hbytes d1) rfl rfl ?_
    exact Steps.refl _)
  have loop : ∀ (r i : Nat), i + r = len → ∀ (z : Slot), (z = .unset ∨ ∃ w, z = .val w ∧ w.category = 1) → ∀ (Tl : State) (Bk : Cell), Stand p l e { frames := 0, locals := 0, cells := 0, slots := 0 } s m #[.ref b, .int (Int32.ofNat o), .ref d, .int (Int32.ofNat q), .int (Int32.ofNat len)] below meth c Tl ([] ++ copyLocs d q i) 0 0 → Put d Bk s₁ Tl → Laid B Bk q (q + i) (fun j => Value.int (lo8 (cv A (o + (j - q))))) →
      Steps p.tables e below (s₁.setTop (entryFrame m #[.ref b, .int (Int32.ofNat o), .ref d, .int (Int32.ofNat q), .int (Int32.ofNat len)] 7)) (Tl.setTop (mkF m 3 #[.val (.ref b), .val (.int (Int32.ofNat (o + i))), .val (.ref d), .val (.int (Int32.ofNat (q + i))), .val (.int (Int32.ofNat len)), .val (.int (Int32.ofNat i)), z] [])) → ∃ (T' : State) (B' : Cell) (z' : Slot), Stand p l e { frames := 0, locals := 0, cells := 0, slots := 0 } s m #[.ref b, .int (Int32.ofNat o), .ref d, .int (Int32.ofNat q), .int (Int32.ofNat len)] below meth c T' ([] ++ copyLocs d q len) 0 0 ∧ Put d B' s₁ T' ∧ Laid B B' q (q + len) (fun j => Value.int (lo8 (cv A (o + (j - q))))) ∧
      Steps p.tables e below (s₁.setTop (entryFrame m #[.ref b, .int (Int32.ofNat o), .ref d, .int (Int32.ofNat q), .int (Int32.ofNat len)] 7)) (T'.setTop (mkF m 3 #[.val (.ref b), .val (.int (Int32.ofNat (o + len))), .val (.ref d), .val (.int (Int32.ofNat (q + len))), .val (.int (Int32.ofNat len)), .val (.int (Int32.ofNat len)), z'] [])) := by
    intro r
    induction r with
    | zero =>
      intro i hi z hz Tl Bk Xl pl fl cl
      have hil : i = len := by omega
      rw [hil] at Xl fl cl
      exact ⟨Tl, Bk, z, Xl, pl, fl, cl⟩
    | succ r ih =>
      intro i hi z hz Tl Bk Xl pl fl cl
      have all := X0.warmed.alike.symm.trans Xl.warmed.alike
      have hAl := hA0.keep all (pl.other hne hA0.1)
      have hBk := hB0.like all pl.1 fl.1 fl.2.1 fl.2.2.1
      have hlt : q + i < Bk.slots.size := by rw [fl.2.2.1]; omega
      have c3 : Steps p.tables e below (s₁.setTop (entryFrame m #[.ref b, .int (Int32.ofNat o), .ref d, .int (Int32.ofNat q), .int (Int32.ofNat len)] 7)) (Tl.setTop (mkF m 12 #[.val (.ref b), .val (.int (Int32.ofNat (o + i))), .val (.ref d), .val (.int (Int32.ofNat (q + i))), .val (.int (Int32.ofNat len)), .val (.int (Int32.ofNat i)), z] [.int (Int32.ofNat (o + i)), .ref b])) := cl.trans (by
        refine XS.iload Xl.here hexec rfl (hb hbytes d3) rfl ?_
        refine XS.iload Xl.here hexec rfl (hb hbytes d5) rfl ?_
        refine XS.icmpNo Xl.here hexec rfl (hb hbytes d7) rfl (ii_ge_f (lt32 (by omega) (by omega))) ?_
        refine XS.aloadN Xl.here hexec rfl (hb hbytes d10) rfl rfl ?_
        refine XS.iloadN Xl.here hexec rfl (hb hbytes d11) rfl ?_
        exact Steps.refl _)
      have c4 : Steps p.tables e below (s₁.setTop (entryFrame m #[.ref b, .int (Int32.ofNat o), .ref d, .int (Int32.ofNat q), .int (Int32.ofNat len)] 7)) (Tl.setTop (mkF m 13 #[.val (.ref b), .val (.int (Int32.ofNat (o + i))), .val (.ref d), .val (.int (Int32.ofNat (q + i))), .val (.int (Int32.ofNat len)), .val (.int (Int32.ofNat i)), z] [.int (cv A (o + i))])) := c3.trans (by
        refine Xl.aget hexec hAl rfl (hA.get (i := o + i) (by omega)) rfl rfl (hb hbytes d12) ?_
        exact Steps.refl _)
      have c5 : Steps p.tables e below (s₁.setTop (entryFrame m #[.ref b, .int (Int32.ofNat o), .ref d, .int (Int32.ofNat q), .int (Int32.ofNat len)] 7)) (Tl.setTop (mkF m 15 #[.val (.ref b), .val (.int (Int32.ofNat (o + i))), .val (.ref d), .val (.int (Int32.ofNat (q + i))), .val (.int (Int32.ofNat len)), .val (.int (Int32.ofNat i)), .val (.int (cv A (o + i)))] [])) := c4.trans (by
        refine XS.istoreS Xl.here hexec rfl (hb hbytes d13) rfl rfl hz ?_
        exact Steps.refl _)
      have c6 : Steps p.tables e below (s₁.setTop (entryFrame m #[.ref b, .int (Int32.ofNat o), .ref d, .int (Int32.ofNat q), .int (Int32.ofNat len)] 7)) (Tl.setTop (mkF m 31 #[.val (.ref b), .val (.int (Int32.ofNat (o + i))), .val (.ref d), .val (.int (Int32.ofNat (q + i))), .val (.int (Int32.ofNat len)), .val (.int (Int32.ofNat i)), .val (.int (cv A (o + i)))] [.int (lo8 (cv A (o + i))), .int (Int32.ofNat (q + i)), .ref d])) := c5.trans (by
        refine XS.iload Xl.here hexec rfl (hb hbytes d15) rfl ?_
        refine sipushV Xl.here hexec rfl 255 (hb hbytes d17) (by decide) ?_
        refine XS.icmpYes Xl.here hexec rfl (pc0 := 20) rfl (hb hbytes d20) rfl (ii_le_t (hp i (by omega))) (by decide) rfl ?_
        refine XS.aloadN Xl.here hexec rfl (hb hbytes d26) rfl rfl ?_
        refine XS.iloadN Xl.here hexec rfl (hb hbytes d27) rfl ?_
        refine XS.iload Xl.here hexec rfl (hb hbytes d28) rfl ?_
        refine i2b Xl.here hexec rfl (hb hbytes d30) rfl ?_
        exact Steps.refl _)
      obtain ⟨T7, X7, p7, st7⟩ := Xl.aput hexec hBk rfl hlt rfl (fits_lo8 (cv A (o + i))) (g := (mkF m 31 #[.val (.ref b), .val (.int (Int32.ofNat (o + i))), .val (.ref d), .val (.int (Int32.ofNat (q + i))), .val (.int (Int32.ofNat len)), .val (.int (Int32.ofNat i)), .val (.int (cv A (o + i)))] [.int (lo8 (cv A (o + i))), .int (Int32.ofNat (q + i)), .ref d])) rfl (rest := []) rfl (hb hbytes d31)
      have c8 : Steps p.tables e below (s₁.setTop (entryFrame m #[.ref b, .int (Int32.ofNat o), .ref d, .int (Int32.ofNat q), .int (Int32.ofNat len)] 7)) (T7.setTop (mkF m 32 #[.val (.ref b), .val (.int (Int32.ofNat (o + i))), .val (.ref d), .val (.int (Int32.ofNat (q + i))), .val (.int (Int32.ofNat len)), .val (.int (Int32.ofNat i)), .val (.int (cv A (o + i)))] [])) := c6.trans (st7 _ (Steps.refl _))
      have c9 : Steps p.tables e below (s₁.setTop (entryFrame m #[.ref b, .int (Int32.ofNat o), .ref d, .int (Int32.ofNat q), .int (Int32.ofNat len)] 7)) (T7.setTop (mkF m 3 #[.val (.ref b), .val (.int (Int32.ofNat (o + i) + 1)), .val (.ref d), .val (.int (Int32.ofNat (q + i) + 1)), .val (.int (Int32.ofNat len)), .val (.int (Int32.ofNat i + 1)), .val (.int (cv A (o + i)))] [])) := c8.trans (by
        refine iincV X7.here hexec rfl 1 (hb hbytes d32) (by decide) rfl rfl ?_
        refine iincV X7.here hexec rfl 1 (hb hbytes d35) (by decide) rfl rfl ?_
        refine iincV X7.here hexec rfl 1 (hb hbytes d38) (by decide) rfl rfl ?_
        refine XS.goto X7.here hexec rfl (pc0 := 41) rfl (hb hbytes d41) (by decide) rfl ?_
        exact Steps.refl _)
      have c10 : Steps p.tables e below (s₁.setTop (entryFrame m #[.ref b, .int (Int32.ofNat o), .ref d, .int (Int32.ofNat q), .int (Int32.ofNat len)] 7)) (T7.setTop (mkF m 3 #[.val (.ref b), .val (.int (Int32.ofNat (o + (i + 1)))), .val (.ref d), .val (.int (Int32.ofNat (q + (i + 1)))), .val (.int (Int32.ofNat len)), .val (.int (Int32.ofNat (i + 1))), .val (.int (cv A (o + i)))] [])) := by
        have := c9
        rw [succ32, succ32, succ32] at this
        exact this
      exact ih (i + 1) (by omega) _ (Or.inr ⟨_, rfl, rfl⟩) T7 _ (by rw [copyLocs_step, ← List.append_assoc]; exact X7) (pl.trans p7) (fl.step (by omega) hlt (by simp)) c10
  obtain ⟨T9, B9, z9, X9, p9, f9, g9⟩ := loop len 0 (by omega) .unset (Or.inl rfl) s₁ B (by simpa [copyLocs] using X0) ⟨hB0.1, fun _ _ => rfl, rfl⟩ (Laid.zero _ _ _) c2
  have c11 : Steps p.tables e below (s₁.setTop (entryFrame m #[.ref b, .int (Int32.ofNat o), .ref d, .int (Int32.ofNat q), .int (Int32.ofNat len)] 7)) (T9.setTop (mkF m 46 #[.val (.ref b), .val (.int (Int32.ofNat (o + len))), .val (.ref d), .val (.int (Int32.ofNat (q + len))), .val (.int (Int32.ofNat len)), .val (.int (Int32.ofNat len)), z9] [.int (Int32.ofNat len)])) := g9.trans (by
    refine XS.iload X9.here hexec rfl (hb hbytes d3) rfl ?_
    refine XS.iload X9.here hexec rfl (hb hbytes d5) rfl ?_
    refine XS.icmpYes X9.here hexec rfl (pc0 := 7) rfl (hb hbytes d7) rfl (ii_ge_t (nlt32 (by omega) (Nat.le_refl _))) (by decide) rfl ?_
    refine XS.iload X9.here hexec rfl (hb hbytes d44) rfl ?_
    exact Steps.refl _)
  exact ⟨T9, some (.int (Int32.ofNat len)), _, _, _, X9, by simp, rfl, rfl, (fun h => by cases h), ⟨rfl, B9, p9.from hh0, f9⟩, fun fs hl => c11.trans (X9.ireturnOut hexec hret rfl (Or.inl rfl) (hb hbytes d46) hl)⟩
end Cmp5
namespace Cmp3
def yN : MethodName := ⟨"java/lang/StringUTF16", "compress", "([CII)[B"⟩
abbrev yB : ByteArray := jdk_52_method_16_code
theorem d0 : decode yB 0 = .ok (.iload_n 2, 1) := by decide +kernel
theorem d1 : decode yB 1 = .ok (.newarray .byte, 2) := by decide +kernel
theorem d3 : decode yB 3 = .ok (.astore_n 3, 1) := by decide +kernel
theorem d4 : decode yB 4 = .ok (.aload_n 0, 1) := by decide +kernel
theorem d5 : decode yB 5 = .ok (.iload_n 1, 1) := by decide +kernel
theorem d6 : decode yB 6 = .ok (.aload_n 3, 1) := by decide +kernel
theorem d7 : decode yB 7 = .ok (.iconst 0, 1) := by decide +kernel
theorem d8 : decode yB 8 = .ok (.iload_n 2, 1) := by decide +kernel
theorem d9 : decode yB 9 = .ok (.invokestatic 115, 3) := by decide +kernel
theorem d12 : decode yB 12 = .ok (.istore 4, 2) := by decide +kernel
theorem d14 : decode yB 14 = .ok (.iload 4, 2) := by decide +kernel
theorem d16 : decode yB 16 = .ok (.iload_n 2, 1) := by decide +kernel
theorem d17 : decode yB 17 = .ok (.if_icmp (.eq) 40, 3) := by decide +kernel
theorem d57 : decode yB 57 = .ok (.aload_n 3, 1) := by decide +kernel
theorem d58 : decode yB 58 = .ok (.areturn, 1) := by decide +kernel
def site : List Cond := [.arrayClass .byte, Cmp5.tab] ++ staticW U16 115 Cmp5.yN
def tab : Cond := tabOf yN yB 6 (some (.array .byte)) site
def P (b : Addr) (A : Cell) (o len : Nat) (args : Array Value) (s : State) : Prop := args = #[.ref b, .int (Int32.ofNat o), .int (Int32.ofNat len)] ∧ Ch b A s ∧ o + len ≤ A.slots.size ∧ len ≤ 536870912 ∧ ∀ i, i < len → ¬ 255 < cv A (o + i)
def E (b : Addr) (A : Cell) (o len : Nat) (r : Option Value) (s u : State) : Prop := NewArr .byte "[B" len (fun j => .int (lo8 (cv A (o + j)))) r s u ∧ u.heap.size = s.heap.size + 1
/-- no char of the range above 255: a new byte[] of their low bytes -/
theorem law (l : Launch) (b : Addr) (A : Cell) (o len : Nat) : Law l yN 3 3 1 18 yB 6 (some (.array .byte)) site (P b A o len) (E b A o len) [] 1 len := by
  refine Law.of_walk (plainFor_of_name (by decide +kernel)) (by decide +kernel) (by decide +kernel) (by decide) (fun _ _ h => by rw [h.1]; rfl) (fun _ U U' hal hh h => ⟨h.1, h.2.1.mv hal hh, h.2.2⟩) (fun r U U' V V' h1 hal h2 h => ⟨NewArr.mv r U U' V V' h1 hal h2 h.1, by rw [h1, h2]; exact h.2⟩) ?_
  intro p e s m args below meth c s₁ X0 hexec hbytes hml hret hlk hnm hown hh0 W hP
  obtain ⟨rfl, hA, l1, l2, hp⟩ := hP
  have a31 := hA.1.2.2.2
  have c1 : Steps p.tables e below (s₁.setTop (entryFrame m #[.ref b, .int (Int32.ofNat o), .int (Int32.ofNat len)] 6)) (s₁.setTop (mkF m 0 #[.val (.ref b), .val (.int (Int32.ofNat o)), .val (.int (Int32.ofNat len)), .unset, .unset, .unset] [])) := entry rfl
  have c2 : Steps p.tables e below (s₁.setTop (entryFrame m #[.ref b, .int (Int32.ofNat o), .int (Int32.ofNat len)] 6)) (s₁.setTop (mkF m 1 #[.val (.ref b), .val (.int (Int32.ofNat o)), .val (.int (Int32.ofNat len)), .unset, .unset, .unset] [.int (Int32.ofNat len)])) := c1.trans (by
    refine XS.iloadN X0.here hexec rfl (hb hbytes d0) rfl ?_
    exact Steps.refl _)
  obtain ⟨T3, B3, X3, ba3, bs3, bv3, bh3, bf3, st3⟩ := X0.anew hexec (atype := .byte) (wk W (.arrayClass .byte)) rfl (by show len * 1 ≤ _; omega) (by omega) (g := (mkF m 1 #[.val (.ref b), .val (.int (Int32.ofNat o)), .val (.int (Int32.ofNat len)), .unset, .unset, .unset] [.int (Int32.ofNat len)])) rfl (hb hbytes d1) (rest := []) rfl (Nat.le_refl _) (by show 0 + len ≤ len; omega)
  rw [hh0] at ba3 st3
  have kp3 : XT.Kept s T3 := (XT.Kept.of_eq hh0).push bh3
  have hA3 := hA.keep X3.warmed.alike (kp3 _ _ hA.1.1)
  have hne : b ≠ s.heap.size := hA.1.ne
  have c4 : Steps p.tables e below (s₁.setTop (entryFrame m #[.ref b, .int (Int32.ofNat o), .int (Int32.ofNat len)] 6)) (T3.setTop (mkF m 3 #[.val (.ref b), .val (.int (Int32.ofNat o)), .val (.int (Int32.ofNat len)), .unset, .unset, .unset] [.ref s.heap.size])) := c2.trans (st3 _ (Steps.refl _))
  have c5 : Steps p.tables e below (s₁.setTop (entryFrame m #[.ref b, .int (Int32.ofNat o), .int (Int32.ofNat len)] 6)) (T3.setTop (mkF m 9 #[.val (.ref b), .val (.int (Int32.ofNat o)), .val (.int (Int32.ofNat len)), .val (.ref s.heap.size), .unset, .unset] [.int (Int32.ofNat len), .int 0, .ref s.heap.size, .int (Int32.ofNat o), .ref b])) := c4.trans (by
    refine XS.astoreN X3.here hexec rfl (hb hbytes d3) rfl rfl rfl ?_
    refine XS.aloadN X3.here hexec rfl (hb hbytes d4) rfl rfl ?_
    refine XS.iloadN X3.here hexec rfl (hb hbytes d5) rfl ?_
    refine XS.aloadN X3.here hexec rfl (hb hbytes d6) rfl rfl ?_
    refine iconstV X3.here hexec rfl 0 (hb hbytes d7) (by decide) ?_
    refine XS.iloadN X3.here hexec rfl (hb hbytes d8) rfl ?_
    exact Steps.refl _)
  obtain ⟨v6, T6, X6, E6, g6⟩ := X3.callS hexec (Cmp5.law l b A s.heap.size B3 o 0 len) hown (wks W (staticW U16 115 Cmp5.yN)) (wk W Cmp5.tab) (W := 0) (Nat.le_of_ble_eq_true rfl) (Nat.le_of_ble_eq_true rfl) (Nat.le_refl _) (by show 0 + len + 0 ≤ len; omega) (g := (mkF m 9 #[.val (.ref b), .val (.int (Int32.ofNat o)), .val (.int (Int32.ofNat len)), .val (.ref s.heap.size), .unset, .unset] [.int (Int32.ofNat len), .int (Int32.ofNat 0), .ref s.heap.size, .int (Int32.ofNat o), .ref b])) rfl (by rw [hml]; rfl) c5 (argsL := [.ref b, .int (Int32.ofNat o), .ref s.heap.size, .int (Int32.ofNat 0), .int (Int32.ofNat len)]) (rest := []) rfl rfl (by show 2 * 0 + 0 ≤ _; decide) (hb hbytes d9) (⟨rfl, hA3, ba3, hne, l1, by rw [bs3]; simp, hp⟩)
  obtain ⟨rfl, B6, p6, f6⟩ := E6
  have c7 : Steps p.tables e below (s₁.setTop (entryFrame m #[.ref b, .int (Int32.ofNat o), .int (Int32.ofNat len)] 6)) (T6.setTop (mkF m 12 #[.val (.ref b), .val (.int (Int32.ofNat o)), .val (.int (Int32.ofNat len)), .val (.ref s.heap.size), .unset, .unset] [.int (Int32.ofNat len)])) := g6
  have c8 : Steps p.tables e below (s₁.setTop (entryFrame m #[.ref b, .int (Int32.ofNat o), .int (Int32.ofNat len)] 6)) (T6.setTop (mkF m 58 #[.val (.ref b), .val (.int (Int32.ofNat o)), .val (.int (Int32.ofNat len)), .val (.ref s.heap.size), .val (.int (Int32.ofNat len)), .unset] [.ref s.heap.size])) := c7.trans (by
    refine XS.istore X6.here hexec rfl (hb hbytes d12) rfl rfl ?_
    refine XS.iload X6.here hexec rfl (hb hbytes d14) rfl ?_
    refine XS.iloadN X6.here hexec rfl (hb hbytes d16) rfl ?_
    refine XS.icmpYes X6.here hexec rfl (pc0 := 17) rfl (hb hbytes d17) rfl (ii_eq_t rfl) (by decide) rfl ?_
    refine XS.aloadN X6.here hexec rfl (hb hbytes d57) rfl rfl ?_
    exact Steps.refl _)
  have X8 := X6.wide (L' := []) (cells' := 1) (slots' := len) (fun x hx hlt => by
    simp only [List.nil_append, copyLocs, List.mem_map, List.mem_range] at hx
    obtain ⟨i, -, rfl⟩ := hx
    exact absurd hlt (Nat.lt_irrefl _)) (Nat.le_refl _) (by omega)
  exact ⟨T6, some (.ref s.heap.size), _, _, _, X8, rfl, rfl, rfl, (fun h => by cases h), ⟨⟨rfl, B6, ba3.like (X3.warmed.alike.symm.trans X6.warmed.alike) p6.1 f6.1 f6.2.1 f6.2.2.1, f6.2.1.trans bv3, by rw [X6.warmed.alike.findClass, f6.1]; exact bf3, by rw [f6.2.2.1, bs3]; simp, fun j hj => by rw [f6.2.2.2 j, if_pos (by omega)]; rfl, kp3.put p6 (Nat.le_refl _)⟩, by rw [p6.2.2, bh3, hh0]; simp⟩, fun fs hl => c8.trans (X8.areturnOut hexec rfl hret rfl (hb hbytes d58) hl)⟩
end Cmp3
namespace CodL
def yN : MethodName := ⟨"java/lang/StringUTF16", "coderFromArrayLen", "([BI)B"⟩
abbrev yB : ByteArray := jdk_52_method_15_code
theorem d0 : decode yB 0 = .ok (.iload_n 1, 1) := by decide +kernel
theorem d1 : decode yB 1 = .ok (.aload_n 0, 1) := by decide +kernel
theorem d2 : decode yB 2 = .ok (.arraylength, 1) := by decide +kernel
theorem d3 : decode yB 3 = .ok (.isub, 1) := by decide +kernel
theorem d4 : decode yB 4 = .ok (.bipush 31, 2) := by decide +kernel
theorem d6 : decode yB 6 = .ok (.iushr, 1) := by decide +kernel
theorem d7 : decode yB 7 = .ok (.i2b, 1) := by decide +kernel
theorem d8 : decode yB 8 = .ok (.ireturn, 1) := by decide +kernel
def site : List Cond := []
def tab : Cond := tabOf yN yB 2 (some .byte) site
def P (d : Addr) (B : Cell) (args : Array Value) (s : State) : Prop := args = #[.ref d, .int (Int32.ofNat B.slots.size)] ∧ Arr .byte d B s
def E (r : Option Value) (s u : State) : Prop := XT.PureE (some (.int 0)) r s u
/-- an array as long as the number of chars: LATIN1 -/
theorem law (l : Launch) (d : Addr) (B : Cell) : Law l yN 2 2 0 0 yB 2 (some .byte) site (P d B) E [] 0 0 := by
  refine Law.of_walk (plainFor_of_name (by decide +kernel)) (by decide +kernel) (by decide +kernel) (by decide) (fun _ _ h => by rw [h.1]; rfl) (fun _ U U' hal hh h => ⟨h.1, h.2.mv hal hh⟩) (fun r U U' V V' h1 hal h2 h => XT.PureE.mv r U U' V V' h1 hal h2 h) ?_
  intro p e s m args below meth c s₁ X0 hexec hbytes hml hret hlk hnm hown hh0 W hP
  obtain ⟨rfl, hB⟩ := hP
  have hB0 := hB.mv X0.warmed.alike hh0
  have c1 : Steps p.tables e below (s₁.setTop (entryFrame m #[.ref d, .int (Int32.ofNat B.slots.size)] 2)) (s₁.setTop (mkF m 0 #[.val (.ref d), .val (.int (Int32.ofNat B.slots.size))] [])) := entry rfl
  have c2 : Steps p.tables e below (s₁.setTop (entryFrame m #[.ref d, .int (Int32.ofNat B.slots.size)] 2)) (s₁.setTop (mkF m 2 #[.val (.ref d), .val (.int (Int32.ofNat B.slots.size))] [.ref d, .int (Int32.ofNat B.slots.size)])) := c1.trans (by
    refine XS.iloadN X0.here hexec rfl (hb hbytes d0) rfl ?_
    refine XS.aloadN X0.here hexec rfl (hb hbytes d1) rfl rfl ?_
    exact Steps.refl _)
  have c3 : Steps p.tables e below (s₁.setTop (entryFrame m #[.ref d, .int (Int32.ofNat B.slots.size)] 2)) (s₁.setTop (mkF m 8 #[.val (.ref d), .val (.int (Int32.ofNat B.slots.size))] [.int (lo8 (ushr (Int32.ofNat B.slots.size - Int32.ofNat B.slots.size) 31))])) := c2.trans (by
    refine X0.alen hexec hB0 rfl rfl (hb hbytes d2) ?_
    refine XS.isub X0.here hexec rfl (hb hbytes d3) rfl ?_
    refine bipushV X0.here hexec rfl 31 (hb hbytes d4) (by decide) ?_
    refine iushr X0.here hexec rfl (hb hbytes d6) rfl ?_
    refine i2b X0.here hexec rfl (hb hbytes d7) rfl ?_
    exact Steps.refl _)
  have e0 : lo8 (ushr (Int32.ofNat B.slots.size - Int32.ofNat B.slots.size) 31) = 0 := by rw [Int32.sub_self]; decide
  rw [e0] at c3
  exact ⟨s₁, some (.int 0), _, _, _, X0, rfl, rfl, rfl, (fun h => by cases h), ⟨rfl, hh0⟩, fun fs hl => c3.trans (X0.ireturnOut hexec hret rfl (Or.inr (Or.inr (Or.inl rfl))) (hb hbytes d8) hl)⟩
end CodL
/-- the String at a is Latin-1 over a new byte[] (the heap's one new cell): the low bytes of the len chars of A from o on; every cell but a is kept -/
def Got (a : Addr) (D : Cell) (fV fC : Field) (A : Cell) (o len : Nat) (r : Option Value) (s u : State) : Prop := r = none ∧ ∃ D' V : Cell, Blank "java/lang/String" a D' u ∧ Same D D' [fV.slot, fC.slot] ∧ D'.slots[fV.slot]? = some (.ref s.heap.size) ∧ D'.slots[fC.slot]? = some (.int 0) ∧ Arr .byte s.heap.size V u ∧ V.vm = .none ∧ u.vm.findClass "[B" = some V.cls ∧ V.slots.size = len ∧ (∀ j, j < len → V.slots[j]? = some (.int (lo8 (cv A (o + j))))) ∧ (∀ (y : Addr) (c : Cell), y ≠ a → s.heap[y]? = some c → u.heap[y]? = some c) ∧ u.heap.size = s.heap.size + 1
theorem Got.mv {a : Addr} {D A : Cell} {fV fC : Field} {o len : Nat} : ∀ r (U U' V V' : State), U'.heap = U.heap → V.vm.Alike V'.vm → V'.heap = V.heap → Got a D fV fC A o len r U V → Got a D fV fC A o len r U' V' :=
  fun r U U' V V' h1 hal h2 ⟨e0, D', X, a1, a2, a3, a4, a5, a6, a7, a8, a9, a10, a11⟩ => ⟨e0, D', X, a1.mv hal h2, a2, by rw [h1]; exact a3, a4, by rw [h1]; exact a5.mv hal h2, a6, by rw [hal.findClass]; exact a7, a8, a9, by rw [h1, h2]; exact a10, by rw [h1, h2]; exact a11⟩
namespace New4
def yN : MethodName := ⟨"java/lang/String", "<init>", "([CIILjava/lang/Void;)V"⟩
abbrev yB : ByteArray := jdk_42_method_149_code
theorem d0 : decode yB 0 = .ok (.aload_n 0, 1) := by decide +kernel
theorem d1 : decode yB 1 = .ok (.invokespecial 1, 3) := by decide +kernel
theorem d4 : decode yB 4 = .ok (.iload_n 3, 1) := by decide +kernel
theorem d5 : decode yB 5 = .ok (.ifCond (.ne) 22, 3) := by decide +kernel
theorem d27 : decode yB 27 = .ok (.getstatic 38, 3) := by decide +kernel
theorem d30 : decode yB 30 = .ok (.ifCond (.eq) 28, 3) := by decide +kernel
theorem d33 : decode yB 33 = .ok (.aload_n 1, 1) := by decide +kernel
theorem d34 : decode yB 34 = .ok (.iload_n 2, 1) := by decide +kernel
theorem d35 : decode yB 35 = .ok (.iload_n 3, 1) := by decide +kernel
theorem d36 : decode yB 36 = .ok (.invokestatic 177, 3) := by decide +kernel
theorem d39 : decode yB 39 = .ok (.astore 5, 2) := by decide +kernel
theorem d41 : decode yB 41 = .ok (.aload_n 0, 1) := by decide +kernel
theorem d42 : decode yB 42 = .ok (.aload 5, 2) := by decide +kernel
theorem d44 : decode yB 44 = .ok (.iload_n 3, 1) := by decide +kernel
theorem d45 : decode yB 45 = .ok (.invokestatic 47, 3) := by decide +kernel
theorem d48 : decode yB 48 = .ok (.putfield 15, 3) := by decide +kernel
theorem d51 : decode yB 51 = .ok (.aload_n 0, 1) := by decide +kernel
theorem d52 : decode yB 52 = .ok (.aload 5, 2) := by decide +kernel
theorem d54 : decode yB 54 = .ok (.putfield 9, 3) := by decide +kernel
theorem d57 : decode yB 57 = .ok (.return_, 1) := by decide +kernel
def site : List Cond := [.fieldLink "java/lang/String" 38 "java/lang/String" "COMPACT_STRINGS" "Z", Cmp3.tab, CodL.tab, .laysFinal "java/lang/String" "java/lang/String" "value" "[B", .fieldLink "java/lang/String" 9 "java/lang/String" "value" "[B", .laysFinal "java/lang/String" "java/lang/String" "coder" "B", .fieldLink "java/lang/String" 15 "java/lang/String" "coder" "B"] ++ objW "java/lang/String" 1 ++ staticW "java/lang/String" 177 Cmp3.yN ++ staticW "java/lang/String" 47 CodL.yN
def tab : Cond := tabOf yN yB 6 none site
def P (a : Addr) (D : Cell) (fV fC : Field) (b : Addr) (A : Cell) (z : Int32) (o len : Nat) (args : Array Value) (s : State) : Prop := args = #[.ref a, .ref b, .int (Int32.ofNat o), .int (Int32.ofNat len), .null] ∧ Blank "java/lang/String" a D s ∧ Found "java/lang/String" "value" "[B" fV s ∧ Found "java/lang/String" "coder" "B" fC s ∧ Ch b A s ∧ StaticIs s "java/lang/String" "COMPACT_STRINGS" "Z" (.int z) ∧ ¬ z = 0 ∧ 0 < len ∧ o + len ≤ A.slots.size ∧ len ≤ 536870912 ∧ ∀ i, i < len → ¬ 255 < cv A (o + i)
def E (a : Addr) (D : Cell) (fV fC : Field) (A : Cell) (o len : Nat) (r : Option Value) (s u : State) : Prop := Got a D fV fC A o len r s u
/-- len > 0, no char of the range above 255: a Latin-1 String of their low bytes -/
theorem law (l : Launch) (a : Addr) (D : Cell) (fV fC : Field) (b : Addr) (A : Cell) (z : Int32) (o len : Nat) : Law l yN 5 4 2 35 yB 6 none site (P a D fV fC b A z o len) (E a D fV fC A o len) [⟨a, fC.slot⟩, ⟨a, fV.slot⟩] 1 len := by
  refine Law.of_walk (plainFor_of_name (by decide +kernel)) (by decide +kernel) (by decide +kernel) (by decide) (fun _ _ h => by rw [h.1]; rfl) (fun _ U U' hal hh h => ⟨h.1, h.2.1.mv hal hh, h.2.2.1.al hal, h.2.2.2.1.al hal, h.2.2.2.2.1.mv hal hh, h.2.2.2.2.2.1.there hal hh, h.2.2.2.2.2.2⟩) (fun r U U' V V' h1 hal h2 h => Got.mv r U U' V V' h1 hal h2 h) ?_
  intro p e s m args below meth c s₁ X0 hexec hbytes hml hret hlk hnm hown hh0 W hP
  obtain ⟨rfl, hB, f1, f2, hA, s1, hz, l0, l1, l2, hp⟩ := hP
  have a31 := hA.1.2.2.2
  have c1 : Steps p.tables e below (s₁.setTop (entryFrame m #[.ref a, .ref b, .int (Int32.ofNat o), .int (Int32.ofNat len), .null] 6)) (s₁.setTop (mkF m 0 #[.val (.ref a), .val (.ref b), .val (.int (Int32.ofNat o)), .val (.int (Int32.ofNat len)), .val .null, .unset] [])) := entry rfl
  have c2 : Steps p.tables e below (s₁.setTop (entryFrame m #[.ref a, .ref b, .int (Int32.ofNat o), .int (Int32.ofNat len), .null] 6)) (s₁.setTop (mkF m 1 #[.val (.ref a), .val (.ref b), .val (.int (Int32.ofNat o)), .val (.int (Int32.ofNat len)), .val .null, .unset] [.ref a])) := c1.trans (by
    refine XS.aloadN X0.here hexec rfl (hb hbytes d0) rfl rfl ?_
    exact Steps.refl _)
  obtain ⟨T3, X3, q3, st3⟩ := X0.oinit hexec hown (wks W (objW "java/lang/String" 1)) (g := (mkF m 1 #[.val (.ref a), .val (.ref b), .val (.int (Int32.ofNat o)), .val (.int (Int32.ofNat len)), .val .null, .unset] [.ref a])) rfl (by rw [hml]; rfl) (rest := []) rfl (hb hbytes d1) (W := 0) (by show 2 * 0 + 0 ≤ _; decide) (Nat.le_of_ble_eq_true rfl) (Nat.le_of_ble_eq_true rfl)
  have hh3 := q3.trans hh0
  have c4 : Steps p.tables e below (s₁.setTop (entryFrame m #[.ref a, .ref b, .int (Int32.ofNat o), .int (Int32.ofNat len), .null] 6)) (T3.setTop (mkF m 27 #[.val (.ref a), .val (.ref b), .val (.int (Int32.ofNat o)), .val (.int (Int32.ofNat len)), .val .null, .unset] [])) := (c2.trans (st3 _ (Steps.refl _))).trans (by
    refine XS.iloadN X3.here hexec rfl (hb hbytes d4) rfl ?_
    refine XS.ifYes X3.here hexec rfl (pc0 := 5) rfl (hb hbytes d5) rfl (i0_ne_t (nz32 (by omega) l0)) (by decide) rfl ?_
    exact Steps.refl _)
  obtain ⟨T5, X5, q5, st5⟩ := X3.sget hexec hown (wk W (.fieldLink "java/lang/String" 38 "java/lang/String" "COMPACT_STRINGS" "Z")) s1 (fun _ _ h => by rw [hh3]; exact h) (g := (mkF m 27 #[.val (.ref a), .val (.ref b), .val (.int (Int32.ofNat o)), .val (.int (Int32.ofNat len)), .val .null, .unset] [])) rfl (hb hbytes d27)
  have hh5 := q5.trans hh3
  have c6 : Steps p.tables e below (s₁.setTop (entryFrame m #[.ref a, .ref b, .int (Int32.ofNat o), .int (Int32.ofNat len), .null] 6)) (T5.setTop (mkF m 30 #[.val (.ref a), .val (.ref b), .val (.int (Int32.ofNat o)), .val (.int (Int32.ofNat len)), .val .null, .unset] [.int z])) := c4.trans (st5 _ (Steps.refl _))
  have c7 : Steps p.tables e below (s₁.setTop (entryFrame m #[.ref a, .ref b, .int (Int32.ofNat o), .int (Int32.ofNat len), .null] 6)) (T5.setTop (mkF m 36 #[.val (.ref a), .val (.ref b), .val (.int (Int32.ofNat o)), .val (.int (Int32.ofNat len)), .val .null, .unset] [.int (Int32.ofNat len), .int (Int32.ofNat o), .ref b])) := c6.trans (by
    refine XS.ifNo X5.here hexec rfl (hb hbytes d30) rfl (i0_eq_f hz) ?_
    refine XS.aloadN X5.here hexec rfl (hb hbytes d33) rfl rfl ?_
    refine XS.iloadN X5.here hexec rfl (hb hbytes d34) rfl ?_
    refine XS.iloadN X5.here hexec rfl (hb hbytes d35) rfl ?_
    exact Steps.refl _)
  obtain ⟨v8, T8, X8, E8, g8⟩ := X5.callS hexec (Cmp3.law l b A o len) hown (wks W (staticW "java/lang/String" 177 Cmp3.yN)) (wk W Cmp3.tab) (W := 0) (Nat.le_of_ble_eq_true rfl) (Nat.le_of_ble_eq_true rfl) (Nat.le_refl _) (by show 0 + len ≤ len; omega) (g := (mkF m 36 #[.val (.ref a), .val (.ref b), .val (.int (Int32.ofNat o)), .val (.int (Int32.ofNat len)), .val .null, .unset] [.int (Int32.ofNat len), .int (Int32.ofNat o), .ref b])) rfl (by rw [hml]; rfl) c7 (argsL := [.ref b, .int (Int32.ofNat o), .int (Int32.ofNat len)]) (rest := []) rfl rfl (by show 2 * 0 + 0 ≤ _; decide) (hb hbytes d36) (⟨rfl, hA.mv X5.warmed.alike hh5, l1, l2, hp⟩)
  obtain ⟨e8, z8⟩ := E8
  obtain ⟨rfl, N, n1, n2, n3, n4, n5, n6⟩ := NewArr.mv _ T5 s _ _ hh5.symm (Vm.Alike.refl _) rfl e8
  rw [hh5] at z8
  have hB1 := hB.keep X8.warmed.alike (n6 _ _ hB.1)
  have hne : s.heap.size ≠ a := (Nat.ne_of_lt (Array.getElem?_eq_some_iff.mp hB.1).1).symm
  have c9 : Steps p.tables e below (s₁.setTop (entryFrame m #[.ref a, .ref b, .int (Int32.ofNat o), .int (Int32.ofNat len), .null] 6)) (T8.setTop (mkF m 39 #[.val (.ref a), .val (.ref b), .val (.int (Int32.ofNat o)), .val (.int (Int32.ofNat len)), .val .null, .unset] [.ref s.heap.size])) := g8
  have c10 : Steps p.tables e below (s₁.setTop (entryFrame m #[.ref a, .ref b, .int (Int32.ofNat o), .int (Int32.ofNat len), .null] 6)) (T8.setTop (mkF m 45 #[.val (.ref a), .val (.ref b), .val (.int (Int32.ofNat o)), .val (.int (Int32.ofNat len)), .val .null, .val (.ref s.heap.size)] [.int (Int32.ofNat N.slots.size), .ref s.heap.size, .ref a])) := by
    have hc : Steps p.tables e below (s₁.setTop (entryFrame m #[.ref a, .ref b, .int (Int32.ofNat o), .int (Int32.ofNat len), .null] 6)) (T8.setTop (mkF m 45 #[.val (.ref a), .val (.ref b), .val (.int (Int32.ofNat o)), .val (.int (Int32.ofNat len)), .val .null, .val (.ref s.heap.size)] [.int (Int32.ofNat len), .ref s.heap.size, .ref a])) := c9.trans (by
      refine XS.astore X8.here hexec rfl (hb hbytes d39) rfl rfl rfl ?_
      refine XS.aloadN X8.here hexec rfl (hb hbytes d41) rfl rfl ?_
      refine XS.aload X8.here hexec rfl (hb hbytes d42) rfl rfl ?_
      refine XS.iloadN X8.here hexec rfl (hb hbytes d44) rfl ?_
      exact Steps.refl _)
    rw [n4]; exact hc
  obtain ⟨v11, T11, X11, E11, g11⟩ := X8.callS hexec (CodL.law l s.heap.size N) hown (wks W (staticW "java/lang/String" 47 CodL.yN)) (wk W CodL.tab) (W := 1) (Nat.le_of_ble_eq_true rfl) (Nat.le_of_ble_eq_true rfl) (Nat.le_refl _) (by show 0 + len + 0 ≤ len; omega) (g := (mkF m 45 #[.val (.ref a), .val (.ref b), .val (.int (Int32.ofNat o)), .val (.int (Int32.ofNat len)), .val .null, .val (.ref s.heap.size)] [.int (Int32.ofNat N.slots.size), .ref s.heap.size, .ref a])) rfl (by rw [hml]; rfl) c10 (argsL := [.ref s.heap.size, .int (Int32.ofNat N.slots.size)]) (rest := [.ref a]) rfl rfl (by show 2 * 0 + (1 + 0) ≤ _; decide) (hb hbytes d45) (⟨rfl, n1⟩)
  obtain ⟨rfl, q11⟩ := E11
  have hB11 := hB1.mv (X8.warmed.alike.symm.trans X11.warmed.alike) q11
  have c12 : Steps p.tables e below (s₁.setTop (entryFrame m #[.ref a, .ref b, .int (Int32.ofNat o), .int (Int32.ofNat len), .null] 6)) (T11.setTop (mkF m 48 #[.val (.ref a), .val (.ref b), .val (.int (Int32.ofNat o)), .val (.int (Int32.ofNat len)), .val .null, .val (.ref s.heap.size)] [.int 0, .ref a])) := g11
  obtain ⟨T13, X13, p13, bl13, sl13, st13⟩ := X11.finit hexec hown (wk W (.fieldLink "java/lang/String" 15 "java/lang/String" "coder" "B")) (Or.inr ⟨_, (wk W (.laysFinal "java/lang/String" "java/lang/String" "coder" "B"))⟩) (Or.inl ⟨rfl, hnm⟩) f2 (Or.inl rfl) hB11 (t := .byte) (by decide +kernel) rfl (g := (mkF m 48 #[.val (.ref a), .val (.ref b), .val (.int (Int32.ofNat o)), .val (.int (Int32.ofNat len)), .val .null, .val (.ref s.heap.size)] [.int 0, .ref a])) rfl (rest := []) rfl (hb hbytes d48)
  have c14 : Steps p.tables e below (s₁.setTop (entryFrame m #[.ref a, .ref b, .int (Int32.ofNat o), .int (Int32.ofNat len), .null] 6)) (T13.setTop (mkF m 54 #[.val (.ref a), .val (.ref b), .val (.int (Int32.ofNat o)), .val (.int (Int32.ofNat len)), .val .null, .val (.ref s.heap.size)] [.ref s.heap.size, .ref a])) := (c12.trans (st13 _ (Steps.refl _))).trans (by
    refine XS.aloadN X13.here hexec rfl (hb hbytes d51) rfl rfl ?_
    refine XS.aload X13.here hexec rfl (hb hbytes d52) rfl rfl ?_
    exact Steps.refl _)
  obtain ⟨T15, X15, p15, bl15, sl15, st15⟩ := X13.finit hexec hown (wk W (.fieldLink "java/lang/String" 9 "java/lang/String" "value" "[B")) (Or.inr ⟨_, (wk W (.laysFinal "java/lang/String" "java/lang/String" "value" "[B"))⟩) (Or.inl ⟨rfl, hnm⟩) f1 (Or.inl rfl) bl13 (t := (.array .byte)) (by decide +kernel) rfl (g := (mkF m 54 #[.val (.ref a), .val (.ref b), .val (.int (Int32.ofNat o)), .val (.int (Int32.ofNat len)), .val .null, .val (.ref s.heap.size)] [.ref s.heap.size, .ref a])) rfl (rest := []) rfl (hb hbytes d54)
  have c16 : Steps p.tables e below (s₁.setTop (entryFrame m #[.ref a, .ref b, .int (Int32.ofNat o), .int (Int32.ofNat len), .null] 6)) (T15.setTop (mkF m 57 #[.val (.ref a), .val (.ref b), .val (.int (Int32.ofNat o)), .val (.int (Int32.ofNat len)), .val .null, .val (.ref s.heap.size)] [])) := c14.trans (st15 _ (Steps.refl _))
  have ap := apart (Or.inr ⟨_, (wk W (.laysFinal "java/lang/String" "java/lang/String" "value" "[B"))⟩) (Or.inr ⟨_, (wk W (.laysFinal "java/lang/String" "java/lang/String" "coder" "B"))⟩) f1 f2 (t₁ := .array .byte) (t₂ := .byte) (by decide +kernel) (by decide +kernel) (by decide)
  have al := X8.warmed.alike.symm.trans X15.warmed.alike
  have n7 : T11.heap[s.heap.size]? = some N := by rw [q11]; exact n1.1
  exact ⟨T15, none, _, _, _, X15, by simp, rfl, by omega, (fun _ => rfl), ⟨rfl, _, N, bl15, ((Same.refl D _).set _ (by simp)).set _ (by simp), sl15, (Cell.slots_setSlot_ne _ ap).trans sl13, n1.keep al (p15.other hne (p13.other hne n7)), n2, by rw [al.findClass]; exact n3, n4, n5, fun y c h1 h2 => p15.other h1 (p13.other h1 (by rw [q11]; exact n6 y c h2)), by rw [p15.2.2, p13.2.2, q11]; exact z8⟩, fun fs hl => c16.trans (X15.returnOut hexec hret (hb hbytes d57) hl)⟩
end New4
namespace New1
def yN : MethodName := ⟨"java/lang/String", "<init>", "([C)V"⟩
abbrev yB : ByteArray := jdk_42_method_3_code
theorem d0 : decode yB 0 = .ok (.aload_n 0, 1) := by decide +kernel
theorem d1 : decode yB 1 = .ok (.aload_n 1, 1) := by decide +kernel
theorem d2 : decode yB 2 = .ok (.iconst 0, 1) := by decide +kernel
theorem d3 : decode yB 3 = .ok (.aload_n 1, 1) := by decide +kernel
theorem d4 : decode yB 4 = .ok (.arraylength, 1) := by decide +kernel
theorem d5 : decode yB 5 = .ok (.aconst_null, 1) := by decide +kernel
theorem d6 : decode yB 6 = .ok (.invokespecial 27, 3) := by decide +kernel
theorem d9 : decode yB 9 = .ok (.return_, 1) := by decide +kernel
def site : List Cond := [New4.tab] ++ initW "java/lang/String" 27 New4.yN
def tab : Cond := tabOf yN yB 2 none site
def P (a : Addr) (D : Cell) (fV fC : Field) (b : Addr) (A : Cell) (z : Int32) (args : Array Value) (s : State) : Prop := args = #[.ref a, .ref b] ∧ Blank "java/lang/String" a D s ∧ Found "java/lang/String" "value" "[B" fV s ∧ Found "java/lang/String" "coder" "B" fC s ∧ Ch b A s ∧ StaticIs s "java/lang/String" "COMPACT_STRINGS" "Z" (.int z) ∧ ¬ z = 0 ∧ 0 < A.slots.size ∧ A.slots.size ≤ 536870912 ∧ ∀ i, i < A.slots.size → ¬ 255 < cv A i
def E (a : Addr) (D : Cell) (fV fC : Field) (A : Cell) (r : Option Value) (s u : State) : Prop := Got a D fV fC A 0 A.slots.size r s u
/-- new String(chars), not empty, no char above 255: a Latin-1 String of their low bytes -/
theorem law (l : Launch) (a : Addr) (D : Cell) (fV fC : Field) (b : Addr) (A : Cell) (z : Int32) : Law l yN 2 1 3 52 yB 2 none site (P a D fV fC b A z) (E a D fV fC A) [⟨a, fC.slot⟩, ⟨a, fV.slot⟩] 1 A.slots.size := by
  refine Law.of_walk (plainFor_of_name (by decide +kernel)) (by decide +kernel) (by decide +kernel) (by decide) (fun _ _ h => by rw [h.1]; rfl) (fun _ U U' hal hh h => ⟨h.1, h.2.1.mv hal hh, h.2.2.1.al hal, h.2.2.2.1.al hal, h.2.2.2.2.1.mv hal hh, h.2.2.2.2.2.1.there hal hh, h.2.2.2.2.2.2⟩) (fun r U U' V V' h1 hal h2 h => Got.mv r U U' V V' h1 hal h2 h) ?_
  intro p e s m args below meth c s₁ X0 hexec hbytes hml hret hlk hnm hown hh0 W hP
  obtain ⟨rfl, hB, f1, f2, hA, s1, hz, l0, l2, hp⟩ := hP
  have c1 : Steps p.tables e below (s₁.setTop (entryFrame m #[.ref a, .ref b] 2)) (s₁.setTop (mkF m 0 #[.val (.ref a), .val (.ref b)] [])) := entry rfl
  have c2 : Steps p.tables e below (s₁.setTop (entryFrame m #[.ref a, .ref b] 2)) (s₁.setTop (mkF m 6 #[.val (.ref a), .val (.ref b)] [.null, .int (Int32.ofNat A.slots.size), .int 0, .ref b, .ref a])) := c1.trans (by
    refine XS.aloadN X0.here hexec rfl (hb hbytes d0) rfl rfl ?_
    refine XS.aloadN X0.here hexec rfl (hb hbytes d1) rfl rfl ?_
    refine iconstV X0.here hexec rfl 0 (hb hbytes d2) (by decide) ?_
    refine XS.aloadN X0.here hexec rfl (hb hbytes d3) rfl rfl ?_
    refine X0.alen hexec (hA.1.mv X0.warmed.alike hh0) rfl rfl (hb hbytes d4) ?_
    refine XS.aconstNull X0.here hexec rfl (hb hbytes d5) ?_
    exact Steps.refl _)
  obtain ⟨v3, T3, X3, E3, g3⟩ := X0.callN hexec (New4.law l a D fV fC b A z 0 A.slots.size) rfl hown (wks W (initW "java/lang/String" 27 New4.yN)) (W New4.tab (by simp only [site, List.mem_cons, List.mem_append, true_or, or_true])) (W := 0) (Nat.le_of_ble_eq_true rfl) (Nat.le_of_ble_eq_true rfl) (Nat.le_refl _) (by show 0 + A.slots.size ≤ A.slots.size; omega) (g := (mkF m 6 #[.val (.ref a), .val (.ref b)] [.null, .int (Int32.ofNat A.slots.size), .int (Int32.ofNat 0), .ref b, .ref a])) rfl (by rw [hml]; rfl) c2 (argsL := [.ref b, .int (Int32.ofNat 0), .int (Int32.ofNat A.slots.size), .null]) (rest := []) rfl rfl (by show 2 * 0 + 0 ≤ _; decide) (hb hbytes d6) (⟨rfl, hB.mv X0.warmed.alike hh0, f1.al X0.warmed.alike, f2.al X0.warmed.alike, hA.mv X0.warmed.alike hh0, s1.there X0.warmed.alike hh0, hz, l0, by omega, l2, fun i hi => by rw [Nat.zero_add]; exact hp i hi⟩)
  have e0 := Got.mv _ s₁ s _ _ hh0.symm (Vm.Alike.refl _) rfl E3
  obtain rfl := e0.1
  have c4 : Steps p.tables e below (s₁.setTop (entryFrame m #[.ref a, .ref b] 2)) (T3.setTop (mkF m 9 #[.val (.ref a), .val (.ref b)] [])) := g3
  exact ⟨T3, none, _, _, _, X3, by simp, rfl, by omega, (fun _ => rfl), e0, fun fs hl => c4.trans (X3.returnOut hexec hret (hb hbytes d9) hl)⟩
theorem pays {l : Launch} {R : Room} {p : Program} {e : Env} {below : List Frame} {s : State} {sargs : Array Value} {len W : Nat} (a : Addr) (D : Cell) (fV fC : Field) (b : Addr) (A : Cell) (z : Int32) (htab : tab.before sargs s = true) (hfr : 4 ≤ R.frames) (hlo : W + 65 ≤ R.locals) :
    Back l R p e below s sargs yN len W (fun A₁ a₁ => A₁.cells + 1 ≤ R.cells ∧ A₁.slots + A.slots.size ≤ R.slots ∧ P a D fV fC b A z a₁ A₁.U) (fun A₁ _ v₁ B₁ => E a D fV fC A v₁ A₁.U B₁.U ∧ B₁.locs = A₁.locs ++ [⟨a, fC.slot⟩, ⟨a, fV.slot⟩] ∧ B₁.cells = A₁.cells + 1 ∧ B₁.slots = A₁.slots + A.slots.size) :=
  (law l a D fV fC b A z).pays htab hfr (by omega)
end New1
/-- the byte, read back as charAt reads it, is the char -/
theorem lo8_mask {x : Int32} (h0 : ¬ x < 0) (h1 : ¬ 255 < x) : lo8 x &&& 255 = x := by
  have t : ∀ k : Fin 256, lo8 (Int32.ofNat k.val) &&& 255 = Int32.ofNat k.val := by decide +kernel
  rw [Int32.lt_iff_toInt_lt] at h0 h1
  have e0 : (0 : Int32).toInt = 0 := rfl
  have e1 : (255 : Int32).toInt = 255 := rfl
  obtain ⟨k, hk⟩ : ∃ k : Nat, x.toInt = k := ⟨x.toInt.toNat, by omega⟩
  have hx : x = Int32.ofNat k := Int32.toInt_inj.mp (by rw [hk, Int32.toInt_ofNat_small (by omega)])
  rw [hx]
  exact t ⟨k, by omega⟩
end StrChars
namespace StrChars.Road
open Jvm Sem ClassFile Op Lib Jvm.Stand Jvm.Free Jvm.Free.XT
open Jvm.Lib.Cold (StaticIs)
abbrev ST : String := "java/lang/String"
/-- every table word that New1's law asks, flat -/
abbrev words : List Jvm.Cond := [.code New1.yN New1.yB 2 none, .initialized ST, .methodLink ST 27 New4.yN, .instanceMethod New4.yN,
  .code New4.yN New4.yB 6 none, .fieldLink ST 38 ST "COMPACT_STRINGS" "Z", .laysFinal ST ST "value" "[B", .fieldLink ST 9 ST "value" "[B", .laysFinal ST ST "coder" "B", .fieldLink ST 15 ST "coder" "B",
  .methodLink ST 1 Lib.objectInit, .instanceMethod Lib.objectInit, .code Lib.objectInit ⟨#[0xb1]⟩ 1 none, .methodLink ST 177 Cmp3.yN, .static Cmp3.yN, .methodLink ST 47 CodL.yN, .static CodL.yN,
  .code Cmp3.yN Cmp3.yB 6 (some (.array .byte)), .initialized U16, .arrayClass .byte, .methodLink U16 115 Cmp5.yN, .static Cmp5.yN, .code Cmp5.yN Cmp5.yB 7 (some .int), .code CodL.yN CodL.yB 2 (some .byte)]
theorem tab_of {a : Array Value} {s : State} (h : ∀ w ∈ words, w.before a s = true) : New1.tab.before a s = true := by
  have h5 : Cmp5.tab.before a s = true := unparts (wk h (.code Cmp5.yN Cmp5.yB 7 (some .int))) (wks h (.initialized Cmp5.yN.cls :: Cmp5.site))
  have hc : CodL.tab.before a s = true := unparts (wk h (.code CodL.yN CodL.yB 2 (some .byte))) (wks h (.initialized CodL.yN.cls :: CodL.site))
  have q5 : ∀ w ∈ Cmp5.tab :: words, w.before a s = true := fun w hw => (List.mem_cons.mp hw).elim (fun e => e ▸ h5) (h w)
  have h3 : Cmp3.tab.before a s = true := unparts (wk q5 (.code Cmp3.yN Cmp3.yB 6 (some (.array .byte)))) (wks q5 (.initialized Cmp3.yN.cls :: Cmp3.site))
  have q3 : ∀ w ∈ Cmp3.tab :: CodL.tab :: words, w.before a s = true := fun w hw => (List.mem_cons.mp hw).elim (fun e => e ▸ h3) fun hw => (List.mem_cons.mp hw).elim (fun e => e ▸ hc) (h w)
  have h4 : New4.tab.before a s = true := unparts (wk q3 (.code New4.yN New4.yB 6 none)) (wks q3 (.initialized New4.yN.cls :: New4.site))
  have q4 : ∀ w ∈ New4.tab :: words, w.before a s = true := fun w hw => (List.mem_cons.mp hw).elim (fun e => e ▸ h4) (h w)
  exact unparts (wk q4 (.code New1.yN New1.yB 2 none)) (wks q4 (.initialized New1.yN.cls :: New1.site))
/-- the words ride from the start Z to the walk's own state -/
theorem moved {Z s : State} {a0 args : Array Value} (hZ : Z.Warmed39 s.vm) (hw : ∀ d ∈ words, d.before a0 Z = true) : ∀ d ∈ words, d.before args s = true := fun d hd => by
  have q := hw d hd
  have t : ∀ d ∈ words, d = .arrayClass .byte ∨ (d.onTables && d.keepsFace) = true := by decide +kernel
  rcases t d hd with rfl | t
  · exact RoadKit.mvA hZ q
  · exact RoadKit.mv hZ q t
/-- WHAT COMES BACK, over the tables of the start Z: h the heap at the call, h' behind it -/
def Q (Z : State) (x : Addr) (A : Cell) (h : Heap) (v : Option Value) (h' : Heap) (L : List Loc) : Prop := v = none ∧ (∀ y ∈ L, y.base = x) ∧ RoadKit.Keep h h' [x] ∧ h'.size = h.size + 1 ∧ RoadKit.Exa Z h' x ST ∧ RoadKit.Fld Z h' x ST "value" "[B" (.ref h.size) ∧ RoadKit.Fld Z h' x ST "coder" "B" (.int 0) ∧
  (∃ V : Cell, RoadKit.Arr Z h' h.size V .byte ∧ V.vm = .none ∧ Z.vm.findClass "[B" = some V.cls ∧ V.slots.size = A.slots.size ∧ ∀ j, j < A.slots.size → V.slots[j]? = some (.int (lo8 (cv A j)))) ∧
  ∀ (O n d : String) (w : Value), RoadKit.Fld Z h x O n d w → RoadKit.slotOf Z O n d ≠ RoadKit.slotOf Z ST "value" "[B" → RoadKit.slotOf Z O n d ≠ RoadKit.slotOf Z ST "coder" "B" → RoadKit.Fld Z h' x O n d w
/-- **new String(chars) AT A CALL, IN THE ROAD'S FORM**: for specialBack behind newO: x the fresh String, b the char[] with the cell A -/
theorem back {p : Program} {l : Launch} {e : Env} {R : Room} {s : State} {args : Array Value} {below : List Frame} {len W : Nat} {Z : State} {a0 : Array Value} {h : Heap} (hZ : Z.Warmed39 s.vm) (hw : ∀ d ∈ words, d.before a0 Z = true) {kI : Nat} (wi : (Jvm.Cond.instantiable ST kI).before a0 Z = true)
    {x b : Addr} {A : Cell} {z : Int32} {v0 c0 : Value} (E : RoadKit.Exa Z h x ST) (V : RoadKit.Fld Z h x ST "value" "[B" v0) (C : RoadKit.Fld Z h x ST "coder" "B" c0) (K : RoadKit.Arr Z h b A .char) (hty : Typed .char A) (S : RoadKit.Sta Z h ST "COMPACT_STRINGS" "Z" (.int z)) (hz : ¬ z = 0)
    (l0 : 0 < A.slots.size) (l2 : A.slots.size ≤ 536870912) (hp : ∀ i, i < A.slots.size → ¬ 255 < cv A i) (hfr : 4 ≤ R.frames) (hlo : W + 65 ≤ R.locals) :
    Back l R p e below s args New1.yN len W (fun P a => a = #[.ref x, .ref b] ∧ P.U.heap = h ∧ P.cells + 1 ≤ R.cells ∧ P.slots + A.slots.size ≤ R.slots)
      (fun P _ v B => ∃ L, Q Z x A h v B.U.heap L ∧ B.locs = P.locs ++ L ∧ B.cells = P.cells + 1 ∧ B.slots = P.slots + A.slots.size) := by
  intro m meth c P g ig mk a X hg hsize hdg hW hn hp'
  obtain ⟨rfl, rfl, r1, r2⟩ := hp'
  have al : Z.vm.Alike P.U.vm := hZ.alike.trans X.warmed.alike
  obtain ⟨D, cfV, kV, iV, fV, hD, gV, stV, knV, obV, asV, slV⟩ := id V
  obtain ⟨D', cfC, kC, iC, fC, hD', gC, stC, -, -, asC, slC⟩ := id C
  cases hD.symm.trans hD'
  obtain ⟨D2, kD, e1, e2, e3, e4, e5⟩ := id E
  cases hD.symm.trans e1
  obtain ⟨c2, k2, i1, i2, i3, -⟩ := Cond.instantiable_spec wi
  cases e2.symm.trans i1
  cases e3.symm.trans i2
  obtain ⟨kU, u1, u2⟩ := al.2.2 _ _ e3
  have hB : Blank ST x D P.U := ⟨hD, ⟨knV, fun q hq => by rw [hq] at obV; cases obV⟩, by rw [al.findClass]; exact e2, kU, u1, by rw [u2]; exact i3, by rw [u2]; exact e5 i3⟩
  have F1 : Found ST "value" "[B" fV P.U := ⟨SBG.found_only al ⟨cfV, kV, iV, gV⟩, stV⟩
  have F2 : Found ST "coder" "B" fC P.U := ⟨SBG.found_only al ⟨cfC, kC, iC, gC⟩, stC⟩
  have hA : Ch b A P.U := ⟨⟨K.1, State.isArrayOf_alike al K.2.1, K.2.2, by omega⟩, hty⟩
  have hS : StaticIs P.U ST "COMPACT_STRINGS" "Z" (.int z) := by
    obtain ⟨cfS, iS, kS, fS, st, cS, t1, t2, t3, t4, t5, t6, t7⟩ := S
    exact StaticIs.there (s := { Z with heap := P.U.heap }) ⟨cfS, iS, kS, fS, st, cS, t1, t2, t3, t4, t5, (fun q => by rw [q] at t6; cases t6), t7⟩ al rfl
  obtain ⟨v, B, X', ⟨⟨hv, E', V', q1, q2, q3, q4, q5, q6, q7, q8, q9, q10, q11⟩, hl, hc, hs⟩, st⟩ := New1.pays x D fV fC b A z (tab_of (moved hZ hw)) hfr hlo m meth c P g ig mk _ X hg hsize hdg hW hn ⟨r1, r2, rfl, hB, F1, F2, hA, hS, hz, l0, l2, hp⟩
  have al' : Z.vm.Alike B.U.vm := hZ.alike.trans X'.warmed.alike
  have hsz : E'.slots.size = D.slots.size := by
    obtain ⟨-, -, -, kB, w1, w2, w3⟩ := q1
    obtain ⟨kB', y1, y2⟩ := al'.2.2 _ _ e3
    rw [q2.2.1] at w1
    cases w1.symm.trans y1
    rw [w3, e5 i3, y2]
  refine ⟨v, B, X', ⟨_, ⟨hv, ?_, ⟨by omega, fun y cy hy hn' => q10 y cy (by simpa using hn') hy, fun y cy hy => ?_⟩, q11, ⟨E', _, q1.1, by rw [q2.2.1]; exact e2, by rw [q2.2.1]; exact e3, by rw [q2.1]; exact obV, fun _ => by rw [hsz]; exact e5 i3⟩,
    ⟨E', cfV, kV, iV, fV, q1.1, gV, stV, by rw [q2.1]; exact knV, by rw [q2.1]; exact obV, by rw [q2.2.1]; exact asV, q3⟩, ⟨E', cfC, kC, iC, fC, q1.1, gC, stC, by rw [q2.1]; exact knV, by rw [q2.1]; exact obV, by rw [q2.2.1]; exact asC, q4⟩,
    ⟨V', ⟨q5.1, State.isArrayOf_alike al'.symm q5.2.1, q5.2.2.1⟩, q6, by rw [← al'.findClass]; exact q7, q8, fun j hj => by have := q9 j hj; rwa [Nat.zero_add] at this⟩, fun O n d w F n1 n2 => ?_⟩, hl, hc, hs⟩, st⟩
  · intro y hy
    simp only [List.mem_cons, List.not_mem_nil, or_false] at hy
    rcases hy with rfl | rfl <;> rfl
  · by_cases q : y = x
    · subst q
      cases hD.symm.trans hy
      exact ⟨E', q1.1, q2.2.1, q2.1, hsz⟩
    · exact ⟨cy, q10 y cy q hy, rfl, rfl, rfl⟩
  · obtain ⟨D3, cf, k, i, f, g1, g2, g3, g4, g5, g6, g7⟩ := F
    cases hD.symm.trans g1
    simp only [RoadKit.slotOf, g2, gV, gC, Option.map_some, Option.getD_some] at n1 n2
    exact ⟨E', cf, k, i, f, q1.1, g2, g3, by rw [q2.1]; exact g4, by rw [q2.1]; exact g5, by rw [q2.2.1]; exact g6, by rw [q2.2.2 f.slot (by simp [n1, n2])]; exact g7⟩
end StrChars.Road
namespace StrChars.Road
open Jvm Sem ClassFile Op Lib Jvm.Stand Jvm.Free Jvm.Free.XT
/-- WHAT COMES BACK, the byte[] as a list of values -/
def QA (Z : State) (x : Addr) (zn : Int32) (cs : List Int32) (h : Heap) (v : Option Value) (h' : Heap) (L : List Loc) : Prop := v = none ∧ (∀ y ∈ L, y.base = x) ∧ RoadKit.Keep h h' [x] ∧ h'.size = h.size + 1 ∧ RoadKit.Exa Z h' x ST ∧ RoadKit.Fld Z h' x ST "value" "[B" (.ref h.size) ∧ RoadKit.Fld Z h' x ST "coder" "B" (.int 0) ∧
  (∃ kb, Z.vm.findClass "[B" = some kb ∧ RoadKit.Arv Z h' h.size kb .byte zn (cs.map fun c => .int (lo8 c)) (.int 0)) ∧
  ∀ (O n d : String) (w : Value), RoadKit.Fld Z h x O n d w → RoadKit.slotOf Z O n d ≠ RoadKit.slotOf Z ST "value" "[B" → RoadKit.slotOf Z O n d ≠ RoadKit.slotOf Z ST "coder" "B" → RoadKit.Fld Z h' x O n d w
/-- **new String(chars) AT A CALL, THE ARRAYS AS LISTS**: the char[] at b holds cs, not empty, no char above 255 -/
theorem backArv {p : Program} {l : Launch} {e : Env} {R : Room} {s : State} {args : Array Value} {below : List Frame} {len W : Nat} {Z : State} {a0 : Array Value} {h : Heap} (hZ : Z.Warmed39 s.vm) (hw : ∀ d ∈ words, d.before a0 Z = true) {kI : Nat} (wi : (Jvm.Cond.instantiable ST kI).before a0 Z = true)
    {x b : Addr} {k : ClassId} {zn z : Int32} {cs : List Int32} {dv v0 c0 : Value} (E : RoadKit.Exa Z h x ST) (V : RoadKit.Fld Z h x ST "value" "[B" v0) (C : RoadKit.Fld Z h x ST "coder" "B" c0) (K : RoadKit.Arv Z h b k .char zn (cs.map Value.int) dv) (S : RoadKit.Sta Z h ST "COMPACT_STRINGS" "Z" (.int z)) (hz : ¬ z = 0)
    (hlen : zn.toNatClampNeg = cs.length) (h0 : 0 < cs.length) (hbig : cs.length ≤ 536870912) (hall : ∀ c ∈ cs, ¬ 255 < c) (hfr : 4 ≤ R.frames) (hlo : W + 65 ≤ R.locals) :
    Back l R p e below s args New1.yN len W (fun P a => a = #[.ref x, .ref b] ∧ P.U.heap = h ∧ P.cells + 1 ≤ R.cells ∧ P.slots + cs.length ≤ R.slots)
      (fun P _ v B => ∃ L, QA Z x zn cs h v B.U.heap L ∧ B.locs = P.locs ++ L ∧ B.cells = P.cells + 1 ∧ B.slots = P.slots + cs.length) := by
  obtain ⟨A, K1, K2, K3, K4, K5, K6⟩ := K
  have e : A.slots.size = cs.length := K3.trans hlen
  have hat : ∀ (i : Nat) (hi : i < cs.length), A.slots[i]? = some (.int cs[i]) := fun i hi => by rw [K5 i (by omega)]; simp [List.getD_eq_getElem?_getD, hi]
  have hcv : ∀ (i : Nat) (hi : i < cs.length), cv A i = cs[i] := fun i hi => by unfold cv; rw [hat i hi]
  have hty : Typed .char A := fun i v hv => by
    have hi : i < A.slots.size := (Array.getElem?_eq_some_iff.mp hv).1
    have q := K5 i hi
    rw [hv] at q
    rw [Option.some.inj q]
    exact K6 i hi
  refine Back.mono (back hZ hw wi E V C K1 hty S hz (by omega) (by omega) (fun i hi => by rw [hcv i (by omega)]; exact hall _ (List.getElem_mem _)) hfr hlo) (fun P a hp => ⟨hp.1, hp.2.1, hp.2.2.1, by rw [e]; exact hp.2.2.2⟩) (fun P a v B hp hq => ?_)
  obtain ⟨L, ⟨q1, q2, q3, q4, q5, q6, q7, ⟨V', v1, v2, v3, v4, v5⟩, q9⟩, hl, hc, hs⟩ := hq
  refine ⟨L, ⟨q1, q2, q3, q4, q5, q6, q7, ⟨V'.cls, v3, V', v1, rfl, by rw [v4, e, hlen], K4, fun i hi => ?_, fun i hi => ?_⟩, q9⟩, hl, hc, by rw [hs, e]⟩
  · have hi' : i < cs.length := by omega
    rw [v5 i (by omega), hcv i hi']; simp [List.getD_eq_getElem?_getD, hi']
  · have hi' : i < cs.length := by omega
    simp only [List.getD_eq_getElem?_getD, List.getElem?_map, List.getElem?_eq_getElem hi', Option.map_some, Option.getD_some]
    exact fits_lo8 _
end StrChars.Road
namespace StrChars.Road
open Jvm Sem ClassFile Op Lib Jvm.Stand Jvm.Free Jvm.Free.XT
/-- WHAT COMES BACK, in the writer's own shape -/
def QV (Z : State) (x : Addr) (N : Int32) (bs : List Int32) (h : Heap) (n0 : Nat) (v : Option Value) (h' : Heap) (L : List Loc) : Prop := v = none ∧ RoadKit.Fr n0 L ∧ RoadKit.Keep h h' [x] ∧ RoadKit.Exa Z h' x ST ∧ RoadKit.Fld Z h' x ST "coder" "B" (.int 0) ∧
  ∃ (t : Addr) (kb : ClassId), n0 ≤ t ∧ h.size ≤ t ∧ ¬ t = x ∧ RoadKit.Fld Z h' x ST "value" "[B" (.ref t) ∧ RoadKit.Arv Z h' t kb .byte N (bs.map Value.int) (.int 0)
/-- **new String(chars) AT A CALL, FOR THE WRITER**: a char[] of n known ints, each 0 to 255 -/
theorem backV {p : Program} {l : Launch} {e : Env} {R : Room} {s : State} {args : Array Value} {below : List Frame} {len W : Nat} {Z : State} {a0 : Array Value} {h : Heap} (hZ : Z.Warmed39 s.vm) (hw : ∀ d ∈ words, d.before a0 Z = true) {kI : Nat} (wi : (Jvm.Cond.instantiable ST kI).before a0 Z = true)
    {x b : Addr} {kC : ClassId} {cs bs : List Int32} {d v0 c0 : Value} {z N : Int32} {n n0 : Nat} (hx0 : n0 ≤ x) (hh0 : n0 ≤ h.size) (E : RoadKit.Exa Z h x ST) (V : RoadKit.Fld Z h x ST "value" "[B" v0) (C : RoadKit.Fld Z h x ST "coder" "B" c0) (K : RoadKit.Arv Z h b kC .char N (cs.map Value.int) d) (S : RoadKit.Sta Z h ST "COMPACT_STRINGS" "Z" (.int z)) (hz : ¬ z = 0)
    (hn : cs.length = n) (hN : N = Int32.ofNat n) (l0 : 0 < n) (l2 : n ≤ 4000) (hp : ∀ c ∈ cs, ¬ c < 0 ∧ ¬ (255 : Int32) < c) (hb : bs = cs.map (fun c => c.toInt8.toInt32)) (hfr : 4 ≤ R.frames) (hlo : W + 65 ≤ R.locals) :
    Back l R p e below s args (⟨"java/lang/String", "<init>", "([C)V"⟩ : MethodName) len W (fun P a => a = #[.ref x, .ref b] ∧ P.U.heap = h ∧ P.cells + 1 ≤ R.cells ∧ P.slots + n ≤ R.slots)
      (fun P _ v B => ∃ L, QV Z x N bs h n0 v B.U.heap L ∧ B.locs = P.locs ++ L ∧ B.cells = P.cells + 1 ∧ B.slots = P.slots + n) := by
  subst hn hN hb
  refine Back.mono (backArv hZ hw wi E V C K S hz (n32 (by omega)) l0 (by omega) (fun c hc => (hp c hc).2) hfr hlo) (fun P a hp => hp) (fun P a v B hp hq => ?_)
  obtain ⟨L, ⟨q1, q2, q3, q4, q5, q6, q7, ⟨kb, v1, v2⟩, q9⟩, hl, hc, hs⟩ := hq
  exact ⟨L, ⟨q1, fun y hy => by rw [q2 y hy]; exact hx0, q3, q5, q7, h.size, kb, hh0, Nat.le_refl _, Nat.ne_of_gt E.lt, q6, by rw [List.map_map]; exact v2⟩, hl, hc, hs⟩
end StrChars.Road
namespace StrChars
open Jvm Sem ClassFile Op Lib Jvm.Stand Jvm.Free.XT Jvm.Free.ALB Jvm.Free.JM Jvm.Free
open Jvm.Lib.Cold (StaticIs)
def hi8 (x : Int32) : Int32 := lo8 (x >>> ((8 : Int32) &&& 31))
/-- what StringUTF16.getChar makes of two bytes -/
def pairCh (u v : Int32) : Int32 := (((u &&& 255) <<< ((0 : Int32) &&& 31)) ||| ((v &&& 255) <<< ((8 : Int32) &&& 31))).toUInt32.toUInt16.toUInt32.toInt32
theorem shr0 (c : Int32) : c >>> ((0 : Int32) &&& 31) = c := by
  have e : ((0 : Int32) &&& 31) = 0 := by decide
  rw [e]
  apply Int32.toBitVec_inj.mp
  rw [Int32.toBitVec_shiftRight]
  have e1 : ((0 : Int32).toBitVec.smod 32) = 0#32 := by decide
  rw [e1, BitVec.sshiftRight_eq']
  exact BitVec.sshiftRight_zero
theorem lo8_and (x : Int32) : (lo8 x &&& 255).toBitVec.toNat = x.toBitVec.toNat % 256 := by
  have h : (lo8 x).toBitVec = (x.toBitVec.signExtend 8).signExtend 32 := by rw [lo8, Int8.toBitVec_toInt32, Int32.toBitVec_toInt8]
  rw [Int32.toBitVec_and, BitVec.toNat_and, h]
  have e : ((x.toBitVec.signExtend 8).signExtend 32).toNat % 256 = x.toBitVec.toNat % 256 := by
    rw [BitVec.toNat_signExtend]
    have hlt := x.toBitVec.isLt
    simp only [BitVec.toNat_setWidth, BitVec.toNat_signExtend]
    split <;> split <;> omega
  rw [← e]
  exact Nat.and_two_pow_sub_one_eq_mod _ 8
theorem pair_says {c : Int32} (h0 : ¬ c < 0) (h1 : ¬ 65535 < c) : pairCh (lo8 c) (hi8 c) = c := by
  rw [Int32.lt_iff_toInt_lt] at h0 h1
  have e0 : (0 : Int32).toInt = 0 := rfl
  have e1 : (65535 : Int32).toInt = 65535 := rfl
  have hc : c.toInt = c.toBitVec.toNat := by
    have := c.toBitVec.isLt
    have e : c.toInt = c.toBitVec.toInt := rfl
    rw [e] at h0 h1
    rw [e]
    rw [BitVec.toInt_eq_toNat_cond] at h0 h1 ⊢
    split at h0 <;> split <;> omega
  have hn : c.toBitVec.toNat < 65536 := by omega
  have a1 := lo8_and c
  have a2 : (hi8 c &&& 255).toBitVec.toNat = c.toBitVec.toNat / 256 := by
    rw [hi8, lo8_and]
    have e : ((8 : Int32) &&& 31) = 8 := by decide
    rw [e, Int32.toBitVec_shiftRight]
    have e2 : ((8 : Int32).toBitVec.smod 32) = 8#32 := by decide
    rw [e2, BitVec.sshiftRight_eq', BitVec.toNat_sshiftRight_of_msb_false (by rw [BitVec.msb_eq_false_iff_two_mul_lt]; omega)]
    show c.toBitVec.toNat >>> 8 % 256 = _
    rw [Nat.shiftRight_eq_div_pow]
    omega
  unfold pairCh
  apply Int32.toBitVec_inj.mp
  apply BitVec.eq_of_toNat_eq
  have f0 : ((0 : Int32) &&& 31) = 0 := by decide
  have f8 : ((8 : Int32) &&& 31) = 8 := by decide
  rw [f0, f8]
  have g : (((lo8 c &&& 255) <<< (0 : Int32)) ||| ((hi8 c &&& 255) <<< (8 : Int32))).toBitVec.toNat = c.toBitVec.toNat := by
    rw [Int32.toBitVec_or, Int32.toBitVec_shiftLeft, Int32.toBitVec_shiftLeft]
    have s0 : ((0 : Int32).toBitVec.smod 32) = 0#32 := by decide
    have s8 : ((8 : Int32).toBitVec.smod 32) = 8#32 := by decide
    rw [s0, s8, BitVec.toNat_or]
    simp only [BitVec.shiftLeft_eq', BitVec.toNat_shiftLeft, a1, a2]
    show (c.toBitVec.toNat % 256) <<< 0 % 2 ^ 32 ||| (c.toBitVec.toNat / 256) <<< 8 % 2 ^ 32 = _
    rw [Nat.shiftLeft_zero, Nat.mod_eq_of_lt (show c.toBitVec.toNat % 256 < 2 ^ 32 by omega), Nat.mod_eq_of_lt (show (c.toBitVec.toNat / 256) <<< 8 < 2 ^ 32 by rw [Nat.shiftLeft_eq]; omega), Nat.or_comm, ← Nat.shiftLeft_add_eq_or_of_lt (by omega), Nat.shiftLeft_eq]
    omega
  show BitVec.toNat (((((lo8 c &&& 255) <<< (0 : Int32)) ||| ((hi8 c &&& 255) <<< (8 : Int32))).toBitVec.setWidth 16).setWidth 32) = _
  rw [BitVec.toNat_setWidth, BitVec.toNat_setWidth, g]
  omega
end StrChars
namespace StrChars
open Jvm Sem ClassFile Op Lib Jvm.Stand Jvm.Free.XT Jvm.Free.ALB Jvm.Free.JM Jvm.Free
open Jvm.Lib.Cold (StaticIs)
theorem shr1 {n : Nat} (h : 2 * n < 2 ^ 31) : Int32.ofNat (2 * n) >>> ((1 : Int32) &&& 31) = Int32.ofNat n := by
  have e : ((1 : Int32) &&& 31) = 1 := by decide
  rw [e]
  apply Int32.toBitVec_inj.mp
  rw [Int32.toBitVec_shiftRight]
  have e1 : ((1 : Int32).toBitVec.smod 32) = 1#32 := by decide
  have hm : (BitVec.ofNat 32 (2 * n)).toNat = 2 * n := by rw [BitVec.toNat_ofNat, Nat.mod_eq_of_lt (by omega)]
  rw [e1, BitVec.sshiftRight_eq']
  apply BitVec.eq_of_toNat_eq
  show ((BitVec.ofNat 32 (2 * n)).sshiftRight 1).toNat = (BitVec.ofNat 32 n).toNat
  rw [BitVec.toNat_sshiftRight_of_msb_false (by rw [BitVec.msb_eq_false_iff_two_mul_lt, hm]; omega), hm, BitVec.toNat_ofNat, Nat.shiftRight_eq_div_pow]
  omega
/-- charAt's cast of a byte read back -/
def chr8 (u : Int32) : Int32 := (u &&& 255).toUInt32.toUInt16.toUInt32.toInt32
theorem chr8_lo8 {c : Int32} (h0 : ¬ c < 0) (h1 : ¬ 255 < c) : chr8 (lo8 c) = c := by
  have t : ∀ k : Fin 256, (Int32.ofNat k.val).toUInt32.toUInt16.toUInt32.toInt32 = Int32.ofNat k.val := by decide +kernel
  unfold chr8
  rw [lo8_mask h0 h1]
  rw [Int32.lt_iff_toInt_lt] at h0 h1
  have e0 : (0 : Int32).toInt = 0 := rfl
  have e1 : (255 : Int32).toInt = 255 := rfl
  obtain ⟨k, hk⟩ : ∃ k : Nat, c.toInt = k := ⟨c.toInt.toNat, by omega⟩
  have hx : c = Int32.ofNat k := Int32.toInt_inj.mp (by rw [hk, Int32.toInt_ofNat_small (by omega)])
  rw [hx]
  exact t ⟨k, by omega⟩
theorem narrow_ch {c : Int32} (h0 : ¬ c < 0) (h1 : ¬ 65535 < c) : narrow .char (.int c) = .int c := by
  have q : narrow .char (.int (pairCh (lo8 c) (hi8 c))) = .int (pairCh (lo8 c) (hi8 c)) := narrow_c _
  rwa [pair_says h0 h1] at q
/-- the array's cell V codes the n chars f 0 .. f (n - 1) by the coder cd, as the JDK does: coder 1 just where some char is above 255 -/
def Cod (cd : Int32) (n : Nat) (f : Nat → Int32) (V : Cell) : Prop := (cd = 0 ∧ V.slots.size = n ∧ ∀ j, j < n → V.slots[j]? = some (.int (lo8 (f j))) ∧ ¬ 255 < f j) ∨ (cd = 1 ∧ V.slots.size = 2 * n ∧ (∀ j, j < n → V.slots[2 * j]? = some (.int (lo8 (f j))) ∧ V.slots[2 * j + 1]? = some (.int (hi8 (f j)))) ∧ ∃ j, j < n ∧ 255 < f j)
theorem Cod.cd {cd : Int32} {n : Nat} {f : Nat → Int32} {V : Cell} (h : Cod cd n f V) : cd = 0 ∨ cd = 1 := h.imp (fun q => q.1) fun q => q.1
theorem Cod.len {cd : Int32} {n : Nat} {f : Nat → Int32} {V : Cell} (h : Cod cd n f V) (hs : V.slots.size < 2 ^ 31) : Int32.ofNat V.slots.size >>> (cd &&& 31) = Int32.ofNat n := by
  rcases h with ⟨rfl, h, -⟩ | ⟨rfl, h, -⟩
  · rw [shr0, h]
  · rw [h, shr1 (by omega)]
/-- **x is a String of the n chars f 0 .. f (n - 1)**, Latin-1 or UTF-16; its array at t has the cell V -/
def Txt (x t : Addr) (V : Cell) (cd : Int32) (n : Nat) (f : Nat → Int32) (U : State) : Prop := Exact "java/lang/String" x U ∧ Has x "java/lang/String" "value" "[B" (.ref t) U ∧ Has x "java/lang/String" "coder" "B" (.int cd) U ∧ XT.Arr .byte t V U ∧ Cod cd n f V ∧ ∀ j, j < n → ¬ f j < 0 ∧ ¬ 65535 < f j
theorem Txt.mv {x t : Addr} {V : Cell} {cd : Int32} {n : Nat} {f : Nat → Int32} {U U' : State} (h : Txt x t V cd n f U) (hal : U.vm.Alike U'.vm) (hh : U'.heap = U.heap) : Txt x t V cd n f U' := ⟨h.1.mv hal hh, h.2.1.mv hal hh, h.2.2.1.mv hal hh, h.2.2.2.1.mv hal hh, h.2.2.2.2⟩
namespace Cdr
def yN : MethodName := ⟨"java/lang/String", "coder", "()B"⟩
abbrev yB : ByteArray := jdk_42_method_152_code
theorem d0 : decode yB 0 = .ok (.getstatic 38, 3) := by decide +kernel
theorem d3 : decode yB 3 = .ok (.ifCond (.eq) 10, 3) := by decide +kernel
theorem d6 : decode yB 6 = .ok (.aload_n 0, 1) := by decide +kernel
theorem d7 : decode yB 7 = .ok (.getfield 15, 3) := by decide +kernel
theorem d10 : decode yB 10 = .ok (.goto 4, 3) := by decide +kernel
theorem d14 : decode yB 14 = .ok (.ireturn, 1) := by decide +kernel
def site : List Cond := [.fieldLink "java/lang/String" 38 "java/lang/String" "COMPACT_STRINGS" "Z", .fieldLink "java/lang/String" 15 "java/lang/String" "coder" "B"]
def tab : Cond := tabOf yN yB 1 (some .byte) site
def P (x : Addr) (cd z : Int32) (args : Array Value) (s : State) : Prop := args = #[.ref x] ∧ Has x "java/lang/String" "coder" "B" (.int cd) s ∧ (cd = 0 ∨ cd = 1) ∧ StaticIs s "java/lang/String" "COMPACT_STRINGS" "Z" (.int z) ∧ ¬ z = 0
def E (cd : Int32) (r : Option Value) (s u : State) : Prop := XT.PureE (some (.int cd)) r s u
theorem law (l : Launch) (x : Addr) (cd z : Int32) : Law l yN 1 0 0 0 yB 1 (some .byte) site (P x cd z) (E cd) [] 0 0 := by
  refine Law.of_walk (plainFor_of_name (by decide +kernel)) (by decide +kernel) (by decide +kernel) (by decide) (fun _ _ h => by rw [h.1]; rfl) (fun _ U U' hal hh h => ⟨h.1, h.2.1.mv hal hh, h.2.2.1, h.2.2.2.1.there hal hh, h.2.2.2.2⟩) (fun r U U' V V' h1 hal h2 h => XT.PureE.mv r U U' V V' h1 hal h2 h) ?_
  intro p e s m args below meth c s₁ X0 hexec hbytes hml hret hlk hnm hown hh0 W hP
  obtain ⟨rfl, hx, hc, s1, hz⟩ := hP
  have c1 : Steps p.tables e below (s₁.setTop (entryFrame m #[.ref x] 1)) (s₁.setTop (mkF m 0 #[.val (.ref x)] [])) := entry rfl
  obtain ⟨T2, X2, q2, st2⟩ := X0.sget hexec hown (wk W (.fieldLink "java/lang/String" 38 "java/lang/String" "COMPACT_STRINGS" "Z")) s1 (fun _ _ h => by rw [hh0]; exact h) (g := (mkF m 0 #[.val (.ref x)] [])) rfl (hb hbytes d0)
  have hh2 := q2.trans hh0
  have c3 : Steps p.tables e below (s₁.setTop (entryFrame m #[.ref x] 1)) (T2.setTop (mkF m 7 #[.val (.ref x)] [.ref x])) := (c1.trans (st2 _ (Steps.refl _))).trans (by
    refine XS.ifNo X2.here hexec rfl (hb hbytes d3) rfl (i0_eq_f hz) ?_
    refine XS.aloadN X2.here hexec rfl (hb hbytes d6) rfl rfl ?_
    exact Steps.refl _)
  obtain ⟨T4, X4, q4, st4⟩ := X2.hget hexec hown (wk W (.fieldLink "java/lang/String" 15 "java/lang/String" "coder" "B")) (hx.mv X2.warmed.alike hh2) (g := (mkF m 7 #[.val (.ref x)] [.ref x])) rfl (rest := []) rfl (hb hbytes d7)
  have c5 : Steps p.tables e below (s₁.setTop (entryFrame m #[.ref x] 1)) (T4.setTop (mkF m 14 #[.val (.ref x)] [.int cd])) := (c3.trans (st4 _ (Steps.refl _))).trans (by
    refine XS.goto X4.here hexec rfl (pc0 := 10) rfl (hb hbytes d10) (by decide) rfl ?_
    exact Steps.refl _)
  exact ⟨T4, some (.int cd), _, _, _, X4, rfl, rfl, rfl, (fun h => by cases h), ⟨rfl, q4.trans hh2⟩, fun fs hl => c5.trans (X4.ireturnOut hexec hret (by rcases hc with rfl | rfl <;> rfl) (Or.inr (Or.inr (Or.inl rfl))) (hb hbytes d14) hl)⟩
end Cdr
namespace Len
def yN : MethodName := ⟨"java/lang/String", "length", "()I"⟩
abbrev yB : ByteArray := jdk_42_method_54_code
theorem d0 : decode yB 0 = .ok (.aload_n 0, 1) := by decide +kernel
theorem d1 : decode yB 1 = .ok (.getfield 9, 3) := by decide +kernel
theorem d4 : decode yB 4 = .ok (.arraylength, 1) := by decide +kernel
theorem d5 : decode yB 5 = .ok (.aload_n 0, 1) := by decide +kernel
theorem d6 : decode yB 6 = .ok (.invokevirtual 335, 3) := by decide +kernel
theorem d9 : decode yB 9 = .ok (.ishr, 1) := by decide +kernel
theorem d10 : decode yB 10 = .ok (.ireturn, 1) := by decide +kernel
def site : List Cond := [.fieldLink "java/lang/String" 9 "java/lang/String" "value" "[B", Cdr.tab] ++ virtW "java/lang/String" 335 "java/lang/String" Cdr.yN Cdr.yN
def tab : Cond := tabOf yN yB 1 (some .int) site
def P (x t : Addr) (V : Cell) (cd : Int32) (n : Nat) (f : Nat → Int32) (z : Int32) (args : Array Value) (s : State) : Prop := args = #[.ref x] ∧ Txt x t V cd n f s ∧ StaticIs s "java/lang/String" "COMPACT_STRINGS" "Z" (.int z) ∧ ¬ z = 0
def E (n : Nat) (r : Option Value) (s u : State) : Prop := XT.PureE (some (.int (Int32.ofNat n))) r s u
/-- length() of a String of n chars, in either coding -/
theorem law (l : Launch) (x t : Addr) (V : Cell) (cd : Int32) (n : Nat) (f : Nat → Int32) (z : Int32) : Law l yN 1 0 1 13 yB 1 (some .int) site (P x t V cd n f z) (E n) [] 0 0 := by
  refine Law.of_walk (plainFor_of_name (by decide +kernel)) (by decide +kernel) (by decide +kernel) (by decide) (fun _ _ h => by rw [h.1]; rfl) (fun _ U U' hal hh h => ⟨h.1, h.2.1.mv hal hh, h.2.2.1.there hal hh, h.2.2.2⟩) (fun r U U' V V' h1 hal h2 h => XT.PureE.mv r U U' V V' h1 hal h2 h) ?_
  intro p e s m args below meth c s₁ X0 hexec hbytes hml hret hlk hnm hown hh0 W hP
  obtain ⟨rfl, hx, s1, hz⟩ := hP
  have v31 := hx.2.2.2.1.2.2.2
  have c1 : Steps p.tables e below (s₁.setTop (entryFrame m #[.ref x] 1)) (s₁.setTop (mkF m 1 #[.val (.ref x)] [.ref x])) := Steps.trans (entry rfl) (by
    show Steps p.tables e below (s₁.setTop (mkF m 0 #[.val (.ref x)] [])) _
    refine XS.aloadN X0.here hexec rfl (hb hbytes d0) rfl rfl ?_
    exact Steps.refl _)
  obtain ⟨T2, X2, q2, st2⟩ := X0.hget hexec hown (wk W (.fieldLink "java/lang/String" 9 "java/lang/String" "value" "[B")) (hx.mv X0.warmed.alike hh0).2.1 (g := (mkF m 1 #[.val (.ref x)] [.ref x])) rfl (rest := []) rfl (hb hbytes d1)
  have hh2 := q2.trans hh0
  have hx2 := hx.mv X2.warmed.alike hh2
  have c3 : Steps p.tables e below (s₁.setTop (entryFrame m #[.ref x] 1)) (T2.setTop (mkF m 6 #[.val (.ref x)] [.ref x, .int (Int32.ofNat V.slots.size)])) := (c1.trans (st2 _ (Steps.refl _))).trans (by
    refine X2.alen hexec hx2.2.2.2.1 rfl rfl (hb hbytes d4) ?_
    refine XS.aloadN X2.here hexec rfl (hb hbytes d5) rfl rfl ?_
    exact Steps.refl _)
  obtain ⟨v4, T4, X4, E4, g4⟩ := X2.callV hexec (Cdr.law l x cd z) hown (wks W (virtW "java/lang/String" 335 "java/lang/String" Cdr.yN Cdr.yN)) rfl (by decide) (wk W Cdr.tab) (W := 1) (Nat.le_of_ble_eq_true rfl) (Nat.le_of_ble_eq_true rfl) (Nat.le_refl _) (Nat.le_refl _) (hx2.1.fc X2.warmed.alike) hx2.1.is (g := (mkF m 6 #[.val (.ref x)] [.ref x, .int (Int32.ofNat V.slots.size)])) rfl (by rw [hml]; rfl) c3 (argsL := []) (rest := [.int (Int32.ofNat V.slots.size)]) rfl rfl (by show 2 * 0 + (1 + 0) ≤ _; decide) (hb hbytes d6) (⟨rfl, hx2.2.2.1, hx.2.2.2.2.1.cd, s1.there X2.warmed.alike hh2, hz⟩)
  obtain ⟨rfl, q4⟩ := E4
  have c5 : Steps p.tables e below (s₁.setTop (entryFrame m #[.ref x] 1)) (T4.setTop (mkF m 10 #[.val (.ref x)] [.int (Int32.ofNat V.slots.size >>> (cd &&& 31))])) := Steps.trans g4 (by
    refine ishr X4.here hexec rfl (hb hbytes d9) rfl ?_
    exact Steps.refl _)
  rw [hx.2.2.2.2.1.len v31] at c5
  exact ⟨T4, some (.int (Int32.ofNat n)), _, _, _, X4, rfl, rfl, rfl, (fun h => by cases h), ⟨rfl, q4.trans hh2⟩, fun fs hl => c5.trans (X4.ireturnOut hexec hret rfl (Or.inl rfl) (hb hbytes d10) hl)⟩
theorem pays {l : Launch} {R : Room} {p : Program} {e : Env} {below : List Frame} {s : State} {sargs : Array Value} {len W : Nat} (x t : Addr) (V : Cell) (cd : Int32) (n : Nat) (f : Nat → Int32) (z : Int32) (htab : tab.before sargs s = true) (hfr : 2 ≤ R.frames) (hlo : W + 25 ≤ R.locals) :
    Back l R p e below s sargs yN len W (fun A₁ a₁ => A₁.cells + 0 ≤ R.cells ∧ A₁.slots + 0 ≤ R.slots ∧ P x t V cd n f z a₁ A₁.U) (fun A₁ _ v₁ B₁ => E n v₁ A₁.U B₁.U ∧ B₁.locs = A₁.locs ++ [] ∧ B₁.cells = A₁.cells + 0 ∧ B₁.slots = A₁.slots + 0) :=
  (law l x t V cd n f z).pays htab hfr (by omega)
end Len
namespace IsL
def yN : MethodName := ⟨"java/lang/String", "isLatin1", "()Z"⟩
abbrev yB : ByteArray := jdk_42_method_154_code
theorem d0 : decode yB 0 = .ok (.getstatic 38, 3) := by decide +kernel
theorem d3 : decode yB 3 = .ok (.ifCond (.eq) 14, 3) := by decide +kernel
theorem d6 : decode yB 6 = .ok (.aload_n 0, 1) := by decide +kernel
theorem d7 : decode yB 7 = .ok (.getfield 15, 3) := by decide +kernel
theorem d10 : decode yB 10 = .ok (.ifCond (.ne) 7, 3) := by decide +kernel
theorem d13 : decode yB 13 = .ok (.iconst 1, 1) := by decide +kernel
theorem d14 : decode yB 14 = .ok (.goto 4, 3) := by decide +kernel
theorem d17 : decode yB 17 = .ok (.iconst 0, 1) := by decide +kernel
theorem d18 : decode yB 18 = .ok (.ireturn, 1) := by decide +kernel
def site : List Cond := [.fieldLink "java/lang/String" 38 "java/lang/String" "COMPACT_STRINGS" "Z", .fieldLink "java/lang/String" 15 "java/lang/String" "coder" "B"]
def tab : Cond := tabOf yN yB 1 (some .boolean) site
def P (x : Addr) (cd z : Int32) (args : Array Value) (s : State) : Prop := args = #[.ref x] ∧ Has x "java/lang/String" "coder" "B" (.int cd) s ∧ (cd = 0 ∨ cd = 1) ∧ StaticIs s "java/lang/String" "COMPACT_STRINGS" "Z" (.int z) ∧ ¬ z = 0
def E (cd : Int32) (r : Option Value) (s u : State) : Prop := XT.PureE (some (.int (1 - cd))) r s u
theorem law (l : Launch) (x : Addr) (cd z : Int32) : Law l yN 1 0 0 0 yB 1 (some .boolean) site (P x cd z) (E cd) [] 0 0 := by
  refine Law.of_walk (plainFor_of_name (by decide +kernel)) (by decide +kernel) (by decide +kernel) (by decide) (fun _ _ h => by rw [h.1]; rfl) (fun _ U U' hal hh h => ⟨h.1, h.2.1.mv hal hh, h.2.2.1, h.2.2.2.1.there hal hh, h.2.2.2.2⟩) (fun r U U' V V' h1 hal h2 h => XT.PureE.mv r U U' V V' h1 hal h2 h) ?_
  intro p e s m args below meth c s₁ X0 hexec hbytes hml hret hlk hnm hown hh0 W hP
  obtain ⟨rfl, hx, hc, s1, hz⟩ := hP
  have c1 : Steps p.tables e below (s₁.setTop (entryFrame m #[.ref x] 1)) (s₁.setTop (mkF m 0 #[.val (.ref x)] [])) := entry rfl
  obtain ⟨T2, X2, q2, st2⟩ := X0.sget hexec hown (wk W (.fieldLink "java/lang/String" 38 "java/lang/String" "COMPACT_STRINGS" "Z")) s1 (fun _ _ h => by rw [hh0]; exact h) (g := (mkF m 0 #[.val (.ref x)] [])) rfl (hb hbytes d0)
  have hh2 := q2.trans hh0
  have c3 : Steps p.tables e below (s₁.setTop (entryFrame m #[.ref x] 1)) (T2.setTop (mkF m 7 #[.val (.ref x)] [.ref x])) := (c1.trans (st2 _ (Steps.refl _))).trans (by
    refine XS.ifNo X2.here hexec rfl (hb hbytes d3) rfl (i0_eq_f hz) ?_
    refine XS.aloadN X2.here hexec rfl (hb hbytes d6) rfl rfl ?_
    exact Steps.refl _)
  obtain ⟨T4, X4, q4, st4⟩ := X2.hget hexec hown (wk W (.fieldLink "java/lang/String" 15 "java/lang/String" "coder" "B")) (hx.mv X2.warmed.alike hh2) (g := (mkF m 7 #[.val (.ref x)] [.ref x])) rfl (rest := []) rfl (hb hbytes d7)
  have c5 : Steps p.tables e below (s₁.setTop (entryFrame m #[.ref x] 1)) (T4.setTop (mkF m 10 #[.val (.ref x)] [.int cd])) := c3.trans (st4 _ (Steps.refl _))
  have c6 : Steps p.tables e below (s₁.setTop (entryFrame m #[.ref x] 1)) (T4.setTop (mkF m 18 #[.val (.ref x)] [.int (1 - cd)])) := by
    rcases hc with rfl | rfl
    · exact c5.trans (by
        refine XS.ifNo X4.here hexec rfl (hb hbytes d10) rfl (i0_ne_f rfl) ?_
        refine iconstV X4.here hexec rfl 1 (hb hbytes d13) (by decide) ?_
        refine XS.goto X4.here hexec rfl (pc0 := 14) rfl (hb hbytes d14) (by decide) rfl ?_
        exact Steps.refl _)
    · exact c5.trans (by
        refine XS.ifYes X4.here hexec rfl (pc0 := 10) rfl (hb hbytes d10) rfl (i0_ne_t (by decide)) (by decide) rfl ?_
        refine iconstV X4.here hexec rfl 0 (hb hbytes d17) (by decide) ?_
        exact Steps.refl _)
  exact ⟨T4, some (.int (1 - cd)), _, _, _, X4, rfl, rfl, rfl, (fun h => by cases h), ⟨rfl, q4.trans hh2⟩, fun fs hl => c6.trans (X4.ireturnOut hexec hret (by rcases hc with rfl | rfl <;> rfl) (Or.inr (Or.inl rfl)) (hb hbytes d18) hl)⟩
end IsL
namespace LChA
def yN : MethodName := ⟨"java/lang/StringLatin1", "charAt", "([BI)C"⟩
abbrev yB : ByteArray := jdk_43_method_2_code
theorem d0 : decode yB 0 = .ok (.iload_n 1, 1) := by decide +kernel
theorem d1 : decode yB 1 = .ok (.aload_n 0, 1) := by decide +kernel
theorem d2 : decode yB 2 = .ok (.arraylength, 1) := by decide +kernel
theorem d3 : decode yB 3 = .ok (.invokestatic 9, 3) := by decide +kernel
theorem d6 : decode yB 6 = .ok (.aload_n 0, 1) := by decide +kernel
theorem d7 : decode yB 7 = .ok (.iload_n 1, 1) := by decide +kernel
theorem d8 : decode yB 8 = .ok (.baload, 1) := by decide +kernel
theorem d9 : decode yB 9 = .ok (.sipush 255, 3) := by decide +kernel
theorem d12 : decode yB 12 = .ok (.iand, 1) := by decide +kernel
theorem d13 : decode yB 13 = .ok (.i2c, 1) := by decide +kernel
theorem d14 : decode yB 14 = .ok (.ireturn, 1) := by decide +kernel
def site : List Cond := [JO.Str_checkIndex.tab] ++ staticW "java/lang/StringLatin1" 9 JO.Str_checkIndex.yN
def tab : Cond := tabOf yN yB 2 (some .char) site
def P (t : Addr) (V : Cell) (i : Nat) (u : Int32) (fm : Value) (args : Array Value) (s : State) : Prop := args = #[.ref t, .int (Int32.ofNat i)] ∧ XT.Arr .byte t V s ∧ V.slots[i]? = some (.int u) ∧ (StaticIs s "jdk/internal/util/Preconditions" "SIOOBE_FORMATTER" "Ljava/util/function/BiFunction;" fm ∧ fm.isRef = true)
def E (u : Int32) (r : Option Value) (s w : State) : Prop := XT.PureE (some (.int (chr8 u))) r s w
theorem law (l : Launch) (t : Addr) (V : Cell) (i : Nat) (u : Int32) (fm : Value) : Law l yN 2 2 2 27 yB 2 (some .char) site (P t V i u fm) (E u) [] 0 0 := by
  refine Law.of_walk (plainFor_of_name (by decide +kernel)) (by decide +kernel) (by decide +kernel) (by decide) (fun _ _ h => by rw [h.1]; rfl) (fun _ U U' hal hh h => ⟨h.1, h.2.1.mv hal hh, h.2.2.1, h.2.2.2.1.there hal hh, h.2.2.2.2⟩) (fun r U U' V V' h1 hal h2 h => XT.PureE.mv r U U' V V' h1 hal h2 h) ?_
  intro p e s m args below meth c s₁ X0 hexec hbytes hml hret hlk hnm hown hh0 W hP
  obtain ⟨rfl, hV, hu, s1, rf⟩ := hP
  have v31 := hV.2.2.2
  have hi : i < V.slots.size := (Array.getElem?_eq_some_iff.mp hu).1
  have c1 : Steps p.tables e below (s₁.setTop (entryFrame m #[.ref t, .int (Int32.ofNat i)] 2)) (s₁.setTop (mkF m 0 #[.val (.ref t), .val (.int (Int32.ofNat i))] [])) := entry rfl
  have c2 : Steps p.tables e below (s₁.setTop (entryFrame m #[.ref t, .int (Int32.ofNat i)] 2)) (s₁.setTop (mkF m 3 #[.val (.ref t), .val (.int (Int32.ofNat i))] [.int (Int32.ofNat V.slots.size), .int (Int32.ofNat i)])) := c1.trans (by
    refine XS.iloadN X0.here hexec rfl (hb hbytes d0) rfl ?_
    refine XS.aloadN X0.here hexec rfl (hb hbytes d1) rfl rfl ?_
    refine X0.alen hexec (hV.mv X0.warmed.alike hh0) rfl rfl (hb hbytes d2) ?_
    exact Steps.refl _)
  obtain ⟨v3, T3, X3, E3, g3⟩ := X0.callS hexec (JO.Str_checkIndex.law l (Int32.ofNat i) (Int32.ofNat V.slots.size) fm) hown (wks W (staticW "java/lang/StringLatin1" 9 JO.Str_checkIndex.yN)) (wk W JO.Str_checkIndex.tab) (W := 0) (Nat.le_of_ble_eq_true rfl) (Nat.le_of_ble_eq_true rfl) (Nat.le_refl _) (Nat.le_refl _) (g := (mkF m 3 #[.val (.ref t), .val (.int (Int32.ofNat i))] [.int (Int32.ofNat V.slots.size), .int (Int32.ofNat i)])) rfl (by rw [hml]; rfl) c2 (argsL := [.int (Int32.ofNat i), .int (Int32.ofNat V.slots.size)]) (rest := []) rfl rfl (by show 2 * 0 + 0 ≤ _; decide) (hb hbytes d3) (⟨rfl, rf, s1.there X0.warmed.alike hh0, Int32.ofNat_not_neg (by omega), lt32 v31 hi⟩)
  obtain ⟨rfl, q3⟩ := E3
  have hh3 := q3.trans hh0
  have c4 : Steps p.tables e below (s₁.setTop (entryFrame m #[.ref t, .int (Int32.ofNat i)] 2)) (T3.setTop (mkF m 14 #[.val (.ref t), .val (.int (Int32.ofNat i))] [.int (chr8 u)])) := Steps.trans g3 (by
    refine XS.aloadN X3.here hexec rfl (hb hbytes d6) rfl rfl ?_
    refine XS.iloadN X3.here hexec rfl (hb hbytes d7) rfl ?_
    refine X3.aget hexec (hV.mv X3.warmed.alike hh3) rfl hu rfl rfl (hb hbytes d8) ?_
    refine sipushV X3.here hexec rfl 255 (hb hbytes d9) (by decide) ?_
    refine XS.iand X3.here hexec rfl (hb hbytes d12) rfl ?_
    refine i2c X3.here hexec rfl (hb hbytes d13) rfl ?_
    exact Steps.refl _)
  exact ⟨T3, some (.int (chr8 u)), _, _, _, X3, rfl, rfl, rfl, (fun h => by cases h), ⟨rfl, hh3⟩, fun fs hl => c4.trans (X3.ireturnOut hexec hret (narrow_c _) (Or.inr (Or.inr (Or.inr (Or.inl rfl)))) (hb hbytes d14) hl)⟩
end LChA
end StrChars
namespace StrChars.Road
open Jvm Sem ClassFile Op Lib Jvm.Stand Jvm.Free Jvm.Free.XT
open Jvm.Lib.Cold (StaticIs)
theorem consq {a : Array Value} {s : State} {c : Jvm.Cond} {L : List Jvm.Cond} (h0 : c.before a s = true) (h : ∀ w ∈ L, w.before a s = true) : ∀ w ∈ c :: L, w.before a s = true := fun w hw => (List.mem_cons.mp hw).elim (fun e => e ▸ h0) (h w)
/-- the words of String.length(), either coding -/
abbrev wordsLen : List Jvm.Cond := [.code Len.yN Len.yB 1 (some .int), .initialized ST, .fieldLink ST 9 ST "value" "[B", .fieldLink ST 38 ST "COMPACT_STRINGS" "Z", .fieldLink ST 15 ST "coder" "B", .code Cdr.yN Cdr.yB 1 (some .byte), .methodLink ST 335 Cdr.yN, .declares Cdr.yN, .selects ST Cdr.yN Cdr.yN, .instanceMethod Cdr.yN]
theorem tabLen_of {a : Array Value} {s : State} (h : ∀ w ∈ wordsLen, w.before a s = true) : Len.tab.before a s = true := by
  have hc : Cdr.tab.before a s = true := unparts (wk h (.code Cdr.yN Cdr.yB 1 (some .byte))) (wks h (.initialized Cdr.yN.cls :: Cdr.site))
  have q := consq hc h
  exact unparts (wk q (.code Len.yN Len.yB 1 (some .int))) (wks q (.initialized Len.yN.cls :: Len.site))
theorem movedLen {Z s : State} {a0 args : Array Value} (hZ : Z.Warmed39 s.vm) (hw : ∀ d ∈ wordsLen, d.before a0 Z = true) : ∀ d ∈ wordsLen, d.before args s = true := fun d hd => by
  have q := hw d hd
  have t : ∀ d ∈ wordsLen, d = .arrayClass .byte ∨ (d.onTables && d.keepsFace) = true := by decide +kernel
  rcases t d hd with rfl | t
  · exact RoadKit.mvA hZ q
  · exact RoadKit.mv hZ q t
/-- the bytes of the chars cs, low before high -/
def wideBytes : List Int32 → List Value
  | [] => []
  | c :: cs => .int (lo8 c) :: .int (hi8 c) :: wideBytes cs
theorem wide_lo (d : Value) : ∀ (cs : List Int32) (j : Nat), j < cs.length → (wideBytes cs).getD (2 * j) d = .int (lo8 (cs.getD j 0))
  | [], j, h => absurd h (Nat.not_lt_zero j)
  | c :: cs, 0, _ => rfl
  | c :: cs, j + 1, h => by
    have q := wide_lo d cs j (by simpa using h)
    rw [show 2 * (j + 1) = 2 * j + 1 + 1 from by omega]
    simpa [wideBytes] using q
theorem wide_hi (d : Value) : ∀ (cs : List Int32) (j : Nat), j < cs.length → (wideBytes cs).getD (2 * j + 1) d = .int (hi8 (cs.getD j 0))
  | [], j, h => absurd h (Nat.not_lt_zero j)
  | c :: cs, 0, _ => rfl
  | c :: cs, j + 1, h => by
    have q := wide_hi d cs j (by simpa using h)
    rw [show 2 * (j + 1) + 1 = 2 * j + 1 + 1 + 1 from by omega]
    simpa [wideBytes] using q
theorem low_at (d : Value) (cs : List Int32) (j : Nat) (h : j < cs.length) : (cs.map fun c => Value.int (lo8 c)).getD j d = .int (lo8 (cs.getD j 0)) := by
  simp [List.getD_eq_getElem?_getD, h]
/-- an array of N2 bytes vs codes the chars cs by the coder cd -/
def CodA (cs : List Int32) (cd N2 : Int32) (vs : List Value) : Prop := (cd = 0 ∧ N2 = Int32.ofNat cs.length ∧ vs = (cs.map fun c => Value.int (lo8 c)) ∧ ∀ c ∈ cs, ¬ 255 < c) ∨ (cd = 1 ∧ N2 = Int32.ofNat (2 * cs.length) ∧ vs = wideBytes cs ∧ ∃ c ∈ cs, 255 < c)
theorem CodA.cod {cs : List Int32} {cd N2 : Int32} {vs : List Value} {V : Cell} (h : CodA cs cd N2 vs) (hn : 2 * cs.length < 2 ^ 31) (hs : V.slots.size = N2.toNatClampNeg) (hv : RoadKit.Has V vs (.int 0)) : Cod cd cs.length (fun j => cs.getD j 0) V := by
  rcases h with ⟨rfl, rfl, rfl, h⟩ | ⟨rfl, rfl, rfl, c, hc, hw⟩
  · rw [n32 (by omega)] at hs
    exact Or.inl ⟨rfl, hs, fun j hj => ⟨by rw [hv j (by omega), low_at _ _ _ hj], by
      have e : cs.getD j 0 = cs[j] := by simp [List.getD_eq_getElem?_getD, hj]
      show ¬ 255 < cs.getD j 0
      rw [e]; exact h _ (List.getElem_mem _)⟩⟩
  · rw [n32 (by omega)] at hs
    obtain ⟨j, hj, rfl⟩ := List.getElem_of_mem hc
    exact Or.inr ⟨rfl, hs, fun j hj => ⟨by rw [hv _ (by omega), wide_lo _ _ _ hj], by rw [hv _ (by omega), wide_hi _ _ _ hj]⟩, j, hj, by
      have e : cs.getD j 0 = cs[j] := by simp [List.getD_eq_getElem?_getD, hj]
      show 255 < cs.getD j 0
      rw [e]; exact hw⟩
/-- an object of exactly java/lang/String, its two fields found: as the laws ask it -/
theorem strObj {Z U : State} {a0 : Array Value} {kI : Nat} (wi : (Jvm.Cond.instantiable ST kI).before a0 Z = true) (al : Z.vm.Alike U.vm) {x : Addr} {v0 c0 : Value} (E : RoadKit.Exa Z U.heap x ST) (V : RoadKit.Fld Z U.heap x ST "value" "[B" v0) (C : RoadKit.Fld Z U.heap x ST "coder" "B" c0) :
    ∃ (D : Cell) (fV fC : Field), Blank ST x D U ∧ Found ST "value" "[B" fV U ∧ Found ST "coder" "B" fC U ∧ D.slots[fV.slot]? = some v0 ∧ D.slots[fC.slot]? = some c0 ∧ RoadKit.slotOf Z ST "value" "[B" = fV.slot ∧ RoadKit.slotOf Z ST "coder" "B" = fC.slot := by
  obtain ⟨D, cfV, kV, iV, fV, hD, gV, stV, knV, obV, asV, slV⟩ := V
  obtain ⟨D', cfC, kC, iC, fC, hD', gC, stC, -, -, asC, slC⟩ := C
  cases hD.symm.trans hD'
  obtain ⟨D2, kD, e1, e2, e3, e4, e5⟩ := E
  cases hD.symm.trans e1
  obtain ⟨c2, k2, i1, i2, i3, -⟩ := Cond.instantiable_spec wi
  cases e2.symm.trans i1
  cases e3.symm.trans i2
  obtain ⟨kU, u1, u2⟩ := al.2.2 _ _ e3
  exact ⟨D, fV, fC, ⟨hD, ⟨knV, fun q hq => by rw [hq] at obV; cases obV⟩, by rw [al.findClass]; exact e2, kU, u1, by rw [u2]; exact i3, by rw [u2]; exact e5 i3⟩, ⟨SBG.found_only al ⟨cfV, kV, iV, gV⟩, stV⟩, ⟨SBG.found_only al ⟨cfC, kC, iC, gC⟩, stC⟩, slV, slC, by simp [RoadKit.slotOf, gV], by simp [RoadKit.slotOf, gC]⟩
theorem sta_is {Z U : State} (al : Z.vm.Alike U.vm) {C n d : String} {v : Value} (S : RoadKit.Sta Z U.heap C n d v) : StaticIs U C n d v := by
  obtain ⟨cfS, iS, kS, fS, st, cS, t1, t2, t3, t4, t5, t6, t7⟩ := S
  exact StaticIs.there (s := { Z with heap := U.heap }) ⟨cfS, iS, kS, fS, st, cS, t1, t2, t3, t4, t5, (fun q => by rw [q] at t6; cases t6), t7⟩ al rfl
/-- **length() OF SUCH A STRING** -/
theorem lenW {p : Program} {l : Launch} {e : Env} {R : Room} {s : State} {args : Array Value} {below : List Frame} {len W : Nat} {Z : State} {a0 : Array Value} {h : Heap} (hZ : Z.Warmed39 s.vm) (hw : ∀ d ∈ wordsLen, d.before a0 Z = true) {kI : Nat} (wi : (Jvm.Cond.instantiable ST kI).before a0 Z = true)
    {x t : Addr} {kb : ClassId} {cs : List Int32} {cd N2 z : Int32} {vs : List Value} (E : RoadKit.Exa Z h x ST) (V : RoadKit.Fld Z h x ST "value" "[B" (.ref t)) (C : RoadKit.Fld Z h x ST "coder" "B" (.int cd)) (K : RoadKit.Arv Z h t kb .byte N2 vs (.int 0)) (hc : CodA cs cd N2 vs) (hb : ∀ c ∈ cs, ¬ c < 0 ∧ ¬ (65535 : Int32) < c)
    (S : RoadKit.Sta Z h ST "COMPACT_STRINGS" "Z" (.int z)) (hz : ¬ z = 0) (l2 : cs.length ≤ 4000) (hfr : 2 ≤ R.frames) (hlo : W + 25 ≤ R.locals) :
    Back l R p e below s args (⟨"java/lang/String", "length", "()I"⟩ : MethodName) len W (fun P a => a = #[.ref x] ∧ P.U.heap = h ∧ P.cells + 0 ≤ R.cells ∧ P.slots + 0 ≤ R.slots)
      (fun P _ v B => ∃ L, (v = some (.int (Int32.ofNat cs.length)) ∧ L = [] ∧ B.U.heap = h) ∧ B.locs = P.locs ++ L ∧ B.cells = P.cells + 0 ∧ B.slots = P.slots + 0) := by
  obtain ⟨A, K1, K2, K3, K4, K5, K6⟩ := K
  have hcod := hc.cod (by omega) K3 K5
  intro m meth c P g ig mk a X hg hsize hdg hW hn hp'
  obtain ⟨rfl, rfl, r1, r2⟩ := hp'
  have al : Z.vm.Alike P.U.vm := hZ.alike.trans X.warmed.alike
  obtain ⟨D, fV, fC, hB, F1, F2, g1, g2, -, -⟩ := strObj wi al E V C
  have hx : Txt x t A cd cs.length (fun j => cs.getD j 0) P.U := ⟨⟨_, hB.2.2.1, D, hB.1, rfl, by cases q : D.vm <;> first | rfl | exact absurd q (hB.2.1.2 _)⟩, Has.of hB F1 g1, Has.of hB F2 g2, ⟨K1.1, State.isArrayOf_alike al K1.2.1, K1.2.2, by rcases hcod with ⟨-, q, -⟩ | ⟨-, q, -⟩ <;> omega⟩, hcod, fun j hj => by
    have e : cs.getD j 0 = cs[j] := by simp [List.getD_eq_getElem?_getD, hj]
    show ¬ cs.getD j 0 < 0 ∧ ¬ 65535 < cs.getD j 0
    rw [e]; exact hb _ (List.getElem_mem _)⟩
  obtain ⟨v, B, X', ⟨⟨hv, hh⟩, hl, hk, hs⟩, st⟩ := Len.pays x t A cd cs.length (fun j => cs.getD j 0) z (tabLen_of (movedLen hZ hw)) hfr hlo m meth c P g ig mk _ X hg hsize hdg hW hn ⟨r1, r2, rfl, hx, sta_is al S, hz⟩
  exact ⟨v, B, X', ⟨[], ⟨hv, rfl, hh⟩, hl, hk, hs⟩, st⟩
end StrChars.Road
namespace StrChars
open Jvm Sem ClassFile Op Lib Jvm.Stand Jvm.Free.XT Jvm.Free.ALB Jvm.Free.JM Jvm.Free
open Jvm.Lib.Cold (StaticIs)
/-- what place i of a byte[]'s cell holds -/
def yv (A : Cell) (i : Nat) : Int32 := match A.slots[i]? with | some (.int x) => x | _ => 0
theorem yv_get {a : Addr} {A : Cell} {U : State} (h : XT.Arr .byte a A U) (ht : Typed .byte A) {i : Nat} (hi : i < A.slots.size) : A.slots[i]? = some (.int (yv A i)) := by
  have e := Array.getElem?_eq_getElem hi
  have f := ht i _ e
  unfold yv; rw [e]
  generalize A.slots[i] = v at f
  cases v <;> simp [fits] at f ⊢
/-- the two arrays are equal, place for place -/
def EqC (A B : Cell) : Prop := A.slots.size = B.slots.size ∧ ∀ i, i < A.slots.size → yv A i = yv B i
/-- a boolean that says whether p -/
def Says01 (q : Prop) (r : Option Value) (s u : State) : Prop := ∃ v : Int32, r = some (.int v) ∧ u.heap = s.heap ∧ ((v = 1 ∧ q) ∨ (v = 0 ∧ ¬ q))
theorem Says01.mv {q : Prop} : ∀ r (U U' V V' : State), U'.heap = U.heap → V.vm.Alike V'.vm → V'.heap = V.heap → Says01 q r U V → Says01 q r U' V' :=
  fun r U U' V V' h1 _ h2 ⟨v, a, b, c⟩ => ⟨v, a, by rw [h1, h2]; exact b, c⟩
namespace LEq
def yN : MethodName := ⟨"java/lang/StringLatin1", "equals", "([B[B)Z"⟩
abbrev yB : ByteArray := jdk_43_method_13_code
theorem d0 : decode yB 0 = .ok (.aload_n 0, 1) := by decide +kernel
theorem d1 : decode yB 1 = .ok (.arraylength, 1) := by decide +kernel
theorem d2 : decode yB 2 = .ok (.aload_n 1, 1) := by decide +kernel
theorem d3 : decode yB 3 = .ok (.arraylength, 1) := by decide +kernel
theorem d4 : decode yB 4 = .ok (.if_icmp (.ne) 30, 3) := by decide +kernel
theorem d7 : decode yB 7 = .ok (.iconst 0, 1) := by decide +kernel
theorem d8 : decode yB 8 = .ok (.istore_n 2, 1) := by decide +kernel
theorem d9 : decode yB 9 = .ok (.iload_n 2, 1) := by decide +kernel
theorem d10 : decode yB 10 = .ok (.aload_n 0, 1) := by decide +kernel
theorem d11 : decode yB 11 = .ok (.arraylength, 1) := by decide +kernel
theorem d12 : decode yB 12 = .ok (.if_icmp (.ge) 20, 3) := by decide +kernel
theorem d15 : decode yB 15 = .ok (.aload_n 0, 1) := by decide +kernel
theorem d16 : decode yB 16 = .ok (.iload_n 2, 1) := by decide +kernel
theorem d17 : decode yB 17 = .ok (.baload, 1) := by decide +kernel
theorem d18 : decode yB 18 = .ok (.aload_n 1, 1) := by decide +kernel
theorem d19 : decode yB 19 = .ok (.iload_n 2, 1) := by decide +kernel
theorem d20 : decode yB 20 = .ok (.baload, 1) := by decide +kernel
theorem d21 : decode yB 21 = .ok (.if_icmp (.eq) 5, 3) := by decide +kernel
theorem d24 : decode yB 24 = .ok (.iconst 0, 1) := by decide +kernel
theorem d25 : decode yB 25 = .ok (.ireturn, 1) := by decide +kernel
theorem d26 : decode yB 26 = .ok (.iinc 2 1, 3) := by decide +kernel
theorem d29 : decode yB 29 = .ok (.goto (-20), 3) := by decide +kernel
theorem d32 : decode yB 32 = .ok (.iconst 1, 1) := by decide +kernel
theorem d33 : decode yB 33 = .ok (.ireturn, 1) := by decide +kernel
theorem d34 : decode yB 34 = .ok (.iconst 0, 1) := by decide +kernel
theorem d35 : decode yB 35 = .ok (.ireturn, 1) := by decide +kernel
def site : List Cond := []
def tab : Cond := tabOf yN yB 3 (some .boolean) site
def P (a : Addr) (A : Cell) (b : Addr) (B : Cell) (args : Array Value) (s : State) : Prop := args = #[.ref a, .ref b] ∧ XT.Arr .byte a A s ∧ Typed .byte A ∧ XT.Arr .byte b B s ∧ Typed .byte B
/-- whether two byte[] are equal, place for place -/
theorem law (l : Launch) (a : Addr) (A : Cell) (b : Addr) (B : Cell) : Law l yN 2 2 0 0 yB 3 (some .boolean) site (P a A b B) (Says01 (EqC A B)) [] 0 0 := by
  refine Law.of_walk (plainFor_of_name (by decide +kernel)) (by decide +kernel) (by decide +kernel) (by decide) (fun _ _ h => by rw [h.1]; rfl) (fun _ U U' hal hh h => ⟨h.1, h.2.1.mv hal hh, h.2.2.1, h.2.2.2.1.mv hal hh, h.2.2.2.2⟩) (fun r U U' V V' h1 hal h2 h => Says01.mv r U U' V V' h1 hal h2 h) ?_
  intro p e s m args below meth c s₁ X0 hexec hbytes hml hret hlk hnm hown hh0 W hP
  obtain ⟨rfl, hA, tA, hB, tB⟩ := hP
  have a31 := hA.2.2.2
  have b31 := hB.2.2.2
  have hA0 := hA.mv X0.warmed.alike hh0
  have hB0 := hB.mv X0.warmed.alike hh0
  have c1 : Steps p.tables e below (s₁.setTop (entryFrame m #[.ref a, .ref b] 3)) (s₁.setTop (mkF m 0 #[.val (.ref a), .val (.ref b), .unset] [])) := entry rfl
  have c2 : Steps p.tables e below (s₁.setTop (entryFrame m #[.ref a, .ref b] 3)) (s₁.setTop (mkF m 4 #[.val (.ref a), .val (.ref b), .unset] [.int (Int32.ofNat B.slots.size), .int (Int32.ofNat A.slots.size)])) := c1.trans (by
    refine XS.aloadN X0.here hexec rfl (hb hbytes d0) rfl rfl ?_
    refine X0.alen hexec hA0 rfl rfl (hb hbytes d1) ?_
    refine XS.aloadN X0.here hexec rfl (hb hbytes d2) rfl rfl ?_
    refine X0.alen hexec hB0 rfl rfl (hb hbytes d3) ?_
    exact Steps.refl _)
  by_cases hs : A.slots.size = B.slots.size
  · have c3 : Steps p.tables e below (s₁.setTop (entryFrame m #[.ref a, .ref b] 3)) (s₁.setTop (mkF m 9 #[.val (.ref a), .val (.ref b), .val (.int 0)] [])) := c2.trans (by
      refine XS.icmpNo X0.here hexec rfl (hb hbytes d4) rfl (ii_ne_f (by rw [hs])) ?_
      refine iconstV X0.here hexec rfl 0 (hb hbytes d7) (by decide) ?_
      refine XS.istoreN X0.here hexec rfl (hb hbytes d8) rfl rfl ?_
      exact Steps.refl _)
    have loop : ∀ (r i : Nat), i + r = A.slots.size → (∀ j, j < i → yv A j = yv B j) → Steps p.tables e below (s₁.setTop (entryFrame m #[.ref a, .ref b] 3)) (s₁.setTop (mkF m 9 #[.val (.ref a), .val (.ref b), .val (.int (Int32.ofNat i))] [])) → ∃ (pc : Nat) (Ls : Array Slot) (v : Int32), (pc = 25 ∨ pc = 33) ∧ ((v = 1 ∧ EqC A B) ∨ (v = 0 ∧ ¬ EqC A B)) ∧ Steps p.tables e below (s₁.setTop (entryFrame m #[.ref a, .ref b] 3)) (s₁.setTop (mkF m pc Ls [.int v])) := by
      intro r
      induction r with
      | zero =>
        intro i hi he cl
        exact ⟨33, _, 1, Or.inr rfl, Or.inl ⟨rfl, hs, fun j hj => he j (by omega)⟩, cl.trans (by
          refine XS.iloadN X0.here hexec rfl (hb hbytes d9) rfl ?_
          refine XS.aloadN X0.here hexec rfl (hb hbytes d10) rfl rfl ?_
          refine X0.alen hexec hA0 rfl rfl (hb hbytes d11) ?_
          refine XS.icmpYes X0.here hexec rfl (pc0 := 12) rfl (hb hbytes d12) rfl (ii_ge_t (nlt32 (by omega) (by omega))) (by decide) rfl ?_
          refine iconstV X0.here hexec rfl 1 (hb hbytes d32) (by decide) ?_
          exact Steps.refl _)⟩
      | succ r ih =>
        intro i hi he cl
        have c4 : Steps p.tables e below (s₁.setTop (entryFrame m #[.ref a, .ref b] 3)) (s₁.setTop (mkF m 21 #[.val (.ref a), .val (.ref b), .val (.int (Int32.ofNat i))] [.int (yv B i), .int (yv A i)])) := cl.trans (by
          refine XS.iloadN X0.here hexec rfl (hb hbytes d9) rfl ?_
          refine XS.aloadN X0.here hexec rfl (hb hbytes d10) rfl rfl ?_
          refine X0.alen hexec hA0 rfl rfl (hb hbytes d11) ?_
          refine XS.icmpNo X0.here hexec rfl (hb hbytes d12) rfl (ii_ge_f (lt32 (by omega) (by omega))) ?_
          refine XS.aloadN X0.here hexec rfl (hb hbytes d15) rfl rfl ?_
          refine XS.iloadN X0.here hexec rfl (hb hbytes d16) rfl ?_
          refine X0.aget hexec hA0 rfl (yv_get hA tA (i := i) (by omega)) rfl rfl (hb hbytes d17) ?_
          refine XS.aloadN X0.here hexec rfl (hb hbytes d18) rfl rfl ?_
          refine XS.iloadN X0.here hexec rfl (hb hbytes d19) rfl ?_
          refine X0.aget hexec hB0 rfl (yv_get hB tB (i := i) (by omega)) rfl rfl (hb hbytes d20) ?_
          exact Steps.refl _)
        by_cases hv : yv A i = yv B i
        · have c5 : Steps p.tables e below (s₁.setTop (entryFrame m #[.ref a, .ref b] 3)) (s₁.setTop (mkF m 9 #[.val (.ref a), .val (.ref b), .val (.int (Int32.ofNat i + 1))] [])) := c4.trans (by
            refine XS.icmpYes X0.here hexec rfl (pc0 := 21) rfl (hb hbytes d21) rfl (ii_eq_t hv) (by decide) rfl ?_
            refine iincV X0.here hexec rfl 1 (hb hbytes d26) (by decide) rfl rfl ?_
            refine XS.goto X0.here hexec rfl (pc0 := 29) rfl (hb hbytes d29) (by decide) rfl ?_
            exact Steps.refl _)
          rw [succ32] at c5
          exact ih (i + 1) (by omega) (fun j hj => by
            by_cases e : j = i
            · rw [e]; exact hv
            · exact he j (by omega)) c5
        · exact ⟨25, _, 0, Or.inl rfl, Or.inr ⟨rfl, fun q => hv (q.2 i (by omega))⟩, c4.trans (by
            refine XS.icmpNo X0.here hexec rfl (hb hbytes d21) rfl (ii_eq_f hv) ?_
            refine iconstV X0.here hexec rfl 0 (hb hbytes d24) (by decide) ?_
            exact Steps.refl _)⟩
    obtain ⟨pc, Ls, v, hpc, hv, cz⟩ := loop A.slots.size 0 (by omega) (fun j hj => absurd hj (Nat.not_lt_zero j)) c3
    have nv : narrow .boolean (.int v) = .int v := by rcases hv with ⟨rfl, -⟩ | ⟨rfl, -⟩ <;> rfl
    rcases hpc with rfl | rfl
    · exact ⟨s₁, some (.int v), _, _, _, X0, rfl, rfl, rfl, (fun h => by cases h), ⟨v, rfl, hh0, hv⟩, fun fs hl => cz.trans (X0.ireturnOut hexec hret nv (Or.inr (Or.inl rfl)) (hb hbytes d25) hl)⟩
    · exact ⟨s₁, some (.int v), _, _, _, X0, rfl, rfl, rfl, (fun h => by cases h), ⟨v, rfl, hh0, hv⟩, fun fs hl => cz.trans (X0.ireturnOut hexec hret nv (Or.inr (Or.inl rfl)) (hb hbytes d33) hl)⟩
  · have c3 : Steps p.tables e below (s₁.setTop (entryFrame m #[.ref a, .ref b] 3)) (s₁.setTop (mkF m 35 #[.val (.ref a), .val (.ref b), .unset] [.int 0])) := c2.trans (by
      refine XS.icmpYes X0.here hexec rfl (pc0 := 4) rfl (hb hbytes d4) rfl (ii_ne_t (ne32 a31 b31 hs)) (by decide) rfl ?_
      refine iconstV X0.here hexec rfl 0 (hb hbytes d34) (by decide) ?_
      exact Steps.refl _)
    exact ⟨s₁, some (.int 0), _, _, _, X0, rfl, rfl, rfl, (fun h => by cases h), ⟨0, rfl, hh0, Or.inr ⟨rfl, fun q => hs q.1⟩⟩, fun fs hl => c3.trans (X0.ireturnOut hexec hret rfl (Or.inr (Or.inl rfl)) (hb hbytes d35) hl)⟩
end LEq
theorem Cod.ty {cd : Int32} {n : Nat} {f : Nat → Int32} {V : Cell} (h : Cod cd n f V) : Typed .byte V := fun i v hv => by
  have hi : i < V.slots.size := (Array.getElem?_eq_some_iff.mp hv).1
  rcases h with ⟨-, k1, k2⟩ | ⟨-, k1, k2, -⟩
  · rw [(k2 i (by omega)).1] at hv; cases hv; exact fits_lo8 _
  · rcases Nat.mod_two_eq_zero_or_one i with e | e
    · obtain ⟨j, rfl⟩ : ∃ j, i = 2 * j := ⟨i / 2, by omega⟩
      rw [(k2 j (by omega)).1] at hv; cases hv; exact fits_lo8 _
    · obtain ⟨j, rfl⟩ : ∃ j, i = 2 * j + 1 := ⟨i / 2, by omega⟩
      rw [(k2 j (by omega)).2] at hv; cases hv; exact fits_lo8 _
/-- the same text -/
def SameT (n : Nat) (f : Nat → Int32) (k : Nat) (g : Nat → Int32) : Prop := n = k ∧ ∀ j, j < n → f j = g j
theorem lo8_inj {x y : Int32} (h0 : ¬ x < 0) (h1 : ¬ 255 < x) (k0 : ¬ y < 0) (k1 : ¬ 255 < y) (h : lo8 x = lo8 y) : x = y := by
  rw [← lo8_mask h0 h1, ← lo8_mask k0 k1, h]
/-- arrays coded by one coder are equal just where the texts are -/
theorem Cod.eqv {cd : Int32} {n k : Nat} {f g : Nat → Int32} {V V' : Cell} (h : Cod cd n f V) (h' : Cod cd k g V') (hf : ∀ j, j < n → ¬ f j < 0 ∧ ¬ 65535 < f j) (hg : ∀ j, j < k → ¬ g j < 0 ∧ ¬ 65535 < g j) : EqC V V' ↔ SameT n f k g := by
  have yvv : ∀ {W : Cell} {i : Nat} {x : Int32}, W.slots[i]? = some (.int x) → yv W i = x := fun q => by unfold yv; rw [q]
  rcases h with ⟨rfl, k1, k2⟩ | ⟨rfl, k1, k2, -⟩
  · rcases h' with ⟨-, m1, m2⟩ | ⟨e, -⟩
    · constructor
      · rintro ⟨e1, e2⟩
        refine ⟨by omega, fun j hj => ?_⟩
        have q := e2 j (by omega)
        rw [yvv (k2 j hj).1, yvv (m2 j (by omega)).1] at q
        exact lo8_inj (hf j hj).1 (k2 j hj).2 (hg j (by omega)).1 (m2 j (by omega)).2 q
      · rintro ⟨rfl, e2⟩
        refine ⟨by omega, fun j hj => ?_⟩
        rw [yvv (k2 j (by omega)).1, yvv (m2 j (by omega)).1, e2 j (by omega)]
    · exact absurd e (by decide)
  · rcases h' with ⟨e, -⟩ | ⟨-, m1, m2, -⟩
    · exact absurd e (by decide)
    · constructor
      · rintro ⟨e1, e2⟩
        refine ⟨by omega, fun j hj => ?_⟩
        have q1 := e2 (2 * j) (by omega)
        have q2 := e2 (2 * j + 1) (by omega)
        rw [yvv (k2 j hj).1, yvv (m2 j (by omega)).1] at q1
        rw [yvv (k2 j hj).2, yvv (m2 j (by omega)).2] at q2
        rw [← pair_says (hf j hj).1 (hf j hj).2, ← pair_says (hg j (by omega)).1 (hg j (by omega)).2, q1, q2]
      · rintro ⟨rfl, e2⟩
        refine ⟨by omega, fun i hi => ?_⟩
        rcases Nat.mod_two_eq_zero_or_one i with e | e
        · obtain ⟨j, rfl⟩ : ∃ j, i = 2 * j := ⟨i / 2, by omega⟩
          rw [yvv (k2 j (by omega)).1, yvv (m2 j (by omega)).1, e2 j (by omega)]
        · obtain ⟨j, rfl⟩ : ∃ j, i = 2 * j + 1 := ⟨i / 2, by omega⟩
          rw [yvv (k2 j (by omega)).2, yvv (m2 j (by omega)).2, e2 j (by omega)]
/-- two codings differ: so do the texts -/
theorem Cod.dif {cd cd' : Int32} {n k : Nat} {f g : Nat → Int32} {V V' : Cell} (h : Cod cd n f V) (h' : Cod cd' k g V') (hne : ¬ cd = cd') : ¬ SameT n f k g := by
  rintro ⟨rfl, e⟩
  rcases h with ⟨rfl, -, k2⟩ | ⟨rfl, -, -, j, hj, hw⟩
  · rcases h' with ⟨rfl, -⟩ | ⟨-, -, -, j, hj, hw⟩
    · exact hne rfl
    · exact (k2 j hj).2 (by rw [e j hj]; exact hw)
  · rcases h' with ⟨-, -, m2⟩ | ⟨rfl, -⟩
    · exact (m2 j hj).2 (by rw [← e j hj]; exact hw)
    · exact hne rfl
/-- an object of exactly C is an instance of C -/
theorem cinst {p : Program} {l : Launch} {e : Env} {R : Room} {s : State} {m : MethodId} {args : Array Value} {below : List Frame} {meth : Method} {c : Code} {T : State} {locs : List Loc} {cells slots : Nat} (X : Stand p l e R s m args below meth c T locs cells slots) (hexec : p.tables.exec = Jvm.exec) {own C : String} {index : Nat} (hown : s.vm.findClass own = some m.cls) (hlink : (Cond.classLink own index C).before args s = true) {a : Addr} (hE : Exact C a T)
    {g : JFrame} (hg : g.method = m) {rest : List Value} (hstack : g.stack = .ref a :: rest) (hdg : decode c.code g.pc = .ok (.instanceof index, 3)) :
    ∃ T', Stand p l e R s m args below meth c T' locs cells slots ∧ T'.heap = T.heap ∧ ∀ target, Steps p.tables e below (T'.setTop { g with pc := g.pc + 3, stack := .int 1 :: rest }) target → Steps p.tables e below (T.setTop g) target := by
  obtain ⟨cB, h1, D, h2, h3, h4⟩ := hE
  have h1' : s.vm.findClass C = some cB := by rw [← X.warmed.alike.findClass]; exact h1
  obtain ⟨vm', X', st⟩ := X.instanceofYes hexec hown hlink h2 h4 h1' (by rw [h3]; exact Jvm.Free.SB.assignable_self _ _) hg hstack hdg
  exact ⟨_, X', rfl, st⟩
theorem cself {p : Program} {l : Launch} {e : Env} {R : Room} {s : State} {m : MethodId} {args : Array Value} {below : List Frame} {meth : Method} {c : Code} {T : State} {locs : List Loc} {cells slots : Nat} (X : Stand p l e R s m args below meth c T locs cells slots) (hexec : p.tables.exec = Jvm.exec) {own C : String} {index : Nat} (hown : s.vm.findClass own = some m.cls) (hlink : (Cond.classLink own index C).before args s = true) {a : Addr} (hE : Exact C a T)
    {g : JFrame} (hg : g.method = m) {rest : List Value} (hstack : g.stack = .ref a :: rest) (hdg : decode c.code g.pc = .ok (.checkcast index, 3)) :
    ∃ T', Stand p l e R s m args below meth c T' locs cells slots ∧ T'.heap = T.heap ∧ ∀ target, Steps p.tables e below (T'.setTop { g with pc := g.pc + 3, stack := .ref a :: rest }) target → Steps p.tables e below (T.setTop g) target := by
  obtain ⟨cB, h1, D, h2, h3, h4⟩ := hE
  have h1' : s.vm.findClass C = some cB := by rw [← X.warmed.alike.findClass]; exact h1
  obtain ⟨vm', X', st⟩ := X.checkcastYes hexec hown hlink h2 h4 h1' (by rw [h3]; exact Jvm.Free.SB.assignable_self _ _) hg hstack hdg
  exact ⟨_, X', rfl, fun t h => st t (by rw [← hstack] at h; exact h)⟩
namespace SEq
def yN : MethodName := ⟨"java/lang/String", "equals", "(Ljava/lang/Object;)Z"⟩
abbrev yB : ByteArray := jdk_42_method_66_code
theorem d0 : decode yB 0 = .ok (.aload_n 0, 1) := by decide +kernel
theorem d1 : decode yB 1 = .ok (.aload_n 1, 1) := by decide +kernel
theorem d2 : decode yB 2 = .ok (.if_acmp (.ne) 5, 3) := by decide +kernel
theorem d5 : decode yB 5 = .ok (.iconst 1, 1) := by decide +kernel
theorem d6 : decode yB 6 = .ok (.ireturn, 1) := by decide +kernel
theorem d7 : decode yB 7 = .ok (.aload_n 1, 1) := by decide +kernel
theorem d8 : decode yB 8 = .ok (.instanceof 10, 3) := by decide +kernel
theorem d11 : decode yB 11 = .ok (.ifCond (.eq) 43, 3) := by decide +kernel
theorem d14 : decode yB 14 = .ok (.aload_n 1, 1) := by decide +kernel
theorem d15 : decode yB 15 = .ok (.checkcast 10, 3) := by decide +kernel
theorem d18 : decode yB 18 = .ok (.astore_n 2, 1) := by decide +kernel
theorem d19 : decode yB 19 = .ok (.getstatic 38, 3) := by decide +kernel
theorem d22 : decode yB 22 = .ok (.ifCond (.eq) 14, 3) := by decide +kernel
theorem d25 : decode yB 25 = .ok (.aload_n 0, 1) := by decide +kernel
theorem d26 : decode yB 26 = .ok (.getfield 15, 3) := by decide +kernel
theorem d29 : decode yB 29 = .ok (.aload_n 2, 1) := by decide +kernel
theorem d30 : decode yB 30 = .ok (.getfield 15, 3) := by decide +kernel
theorem d33 : decode yB 33 = .ok (.if_icmp (.ne) 21, 3) := by decide +kernel
theorem d36 : decode yB 36 = .ok (.aload_n 0, 1) := by decide +kernel
theorem d37 : decode yB 37 = .ok (.getfield 9, 3) := by decide +kernel
theorem d40 : decode yB 40 = .ok (.aload_n 2, 1) := by decide +kernel
theorem d41 : decode yB 41 = .ok (.getfield 9, 3) := by decide +kernel
theorem d44 : decode yB 44 = .ok (.invokestatic 541, 3) := by decide +kernel
theorem d47 : decode yB 47 = .ok (.ifCond (.eq) 7, 3) := by decide +kernel
theorem d50 : decode yB 50 = .ok (.iconst 1, 1) := by decide +kernel
theorem d51 : decode yB 51 = .ok (.goto 4, 3) := by decide +kernel
theorem d54 : decode yB 54 = .ok (.iconst 0, 1) := by decide +kernel
theorem d55 : decode yB 55 = .ok (.ireturn, 1) := by decide +kernel
def site : List Cond := [.classLink "java/lang/String" 10 "java/lang/String", .fieldLink "java/lang/String" 38 "java/lang/String" "COMPACT_STRINGS" "Z", .fieldLink "java/lang/String" 15 "java/lang/String" "coder" "B", .fieldLink "java/lang/String" 9 "java/lang/String" "value" "[B", LEq.tab] ++ staticW "java/lang/String" 541 LEq.yN
def tab : Cond := tabOf yN yB 3 (some .boolean) site
def P (x t : Addr) (V : Cell) (cd : Int32) (n : Nat) (f : Nat → Int32) (y t' : Addr) (V' : Cell) (cd' : Int32) (k : Nat) (g : Nat → Int32) (z : Int32) (args : Array Value) (s : State) : Prop := args = #[.ref x, .ref y] ∧ Txt x t V cd n f s ∧ Txt y t' V' cd' k g s ∧ StaticIs s "java/lang/String" "COMPACT_STRINGS" "Z" (.int z) ∧ ¬ z = 0
/-- equals(Object) of two Strings: whether the texts are the same -/
theorem law (l : Launch) (x t : Addr) (V : Cell) (cd : Int32) (n : Nat) (f : Nat → Int32) (y t' : Addr) (V' : Cell) (cd' : Int32) (k : Nat) (g : Nat → Int32) (z : Int32) : Law l yN 2 1 1 14 yB 3 (some .boolean) site (P x t V cd n f y t' V' cd' k g z) (Says01 (SameT n f k g)) [] 0 0 := by
  refine Law.of_walk (plainFor_of_name (by decide +kernel)) (by decide +kernel) (by decide +kernel) (by decide) (fun _ _ h => by rw [h.1]; rfl) (fun _ U U' hal hh h => ⟨h.1, h.2.1.mv hal hh, h.2.2.1.mv hal hh, h.2.2.2.1.there hal hh, h.2.2.2.2⟩) (fun r U U' V V' h1 hal h2 h => Says01.mv r U U' V V' h1 hal h2 h) ?_
  intro p e s m args below meth c s₁ X0 hexec hbytes hml hret hlk hnm hown hh0 W hP
  obtain ⟨rfl, hx, hy, s1, hz⟩ := hP
  have c1 : Steps p.tables e below (s₁.setTop (entryFrame m #[.ref x, .ref y] 3)) (s₁.setTop (mkF m 2 #[.val (.ref x), .val (.ref y), .unset] [.ref y, .ref x])) := Steps.trans (entry rfl) (by
    show Steps p.tables e below (s₁.setTop (mkF m 0 #[.val (.ref x), .val (.ref y), .unset] [])) _
    refine XS.aloadN X0.here hexec rfl (hb hbytes d0) rfl rfl ?_
    refine XS.aloadN X0.here hexec rfl (hb hbytes d1) rfl rfl ?_
    exact Steps.refl _)
  by_cases hxy : x = y
  · have c2 : Steps p.tables e below (s₁.setTop (entryFrame m #[.ref x, .ref y] 3)) (s₁.setTop (mkF m 6 #[.val (.ref x), .val (.ref y), .unset] [.int 1])) := c1.trans (by
      refine acmpNo X0.here hexec rfl (hb hbytes d2) rfl rfl rfl (by simp [acmp, hxy]) ?_
      refine iconstV X0.here hexec rfl 1 (hb hbytes d5) (by decide) ?_
      exact Steps.refl _)
    subst hxy
    have ec : cd = cd' := by
      obtain ⟨D, fd, a1, a2, a3⟩ := hx.2.2.1
      obtain ⟨D', fd', b1, b2, b3⟩ := hy.2.2.1
      cases a1.symm.trans b1
      obtain ⟨q1, q2, q3, q4⟩ := a2.1
      obtain ⟨r1, r2, r3, r4⟩ := b2.1
      cases q4.symm.trans r4
      cases a3.symm.trans b3; rfl
    have et : t = t' := by
      obtain ⟨D, fd, a1, a2, a3⟩ := hx.2.1
      obtain ⟨D', fd', b1, b2, b3⟩ := hy.2.1
      cases a1.symm.trans b1
      obtain ⟨q1, q2, q3, q4⟩ := a2.1
      obtain ⟨r1, r2, r3, r4⟩ := b2.1
      cases q4.symm.trans r4
      cases a3.symm.trans b3; rfl
    subst ec et
    have ev : V = V' := by cases hx.2.2.2.1.1.symm.trans hy.2.2.2.1.1; rfl
    subst ev
    have hs : SameT n f k g := (Cod.eqv hx.2.2.2.2.1 hy.2.2.2.2.1 hx.2.2.2.2.2 hy.2.2.2.2.2).mp ⟨rfl, fun _ _ => rfl⟩
    exact ⟨s₁, some (.int 1), _, _, _, X0, rfl, rfl, rfl, (fun h => by cases h), ⟨1, rfl, hh0, Or.inl ⟨rfl, hs⟩⟩, fun fs hl => c2.trans (X0.ireturnOut hexec hret rfl (Or.inr (Or.inl rfl)) (hb hbytes d6) hl)⟩
  · have c2 : Steps p.tables e below (s₁.setTop (entryFrame m #[.ref x, .ref y] 3)) (s₁.setTop (mkF m 8 #[.val (.ref x), .val (.ref y), .unset] [.ref y])) := c1.trans (by
      refine acmpYes X0.here hexec rfl (pc0 := 2) rfl (hb hbytes d2) rfl rfl rfl (by simp [acmp, hxy]) (by decide) rfl ?_
      refine XS.aloadN X0.here hexec rfl (hb hbytes d7) rfl rfl ?_
      exact Steps.refl _)
    obtain ⟨T3, X3, q3, st3⟩ := cinst X0 hexec hown (wk W (.classLink "java/lang/String" 10 "java/lang/String")) (hy.mv X0.warmed.alike hh0).1 (g := (mkF m 8 #[.val (.ref x), .val (.ref y), .unset] [.ref y])) rfl (rest := []) rfl (hb hbytes d8)
    have hh3 := q3.trans hh0
    have c4 : Steps p.tables e below (s₁.setTop (entryFrame m #[.ref x, .ref y] 3)) (T3.setTop (mkF m 15 #[.val (.ref x), .val (.ref y), .unset] [.ref y])) := (c2.trans (st3 _ (Steps.refl _))).trans (by
      refine XS.ifNo X3.here hexec rfl (hb hbytes d11) rfl (i0_eq_f (by decide)) ?_
      refine XS.aloadN X3.here hexec rfl (hb hbytes d14) rfl rfl ?_
      exact Steps.refl _)
    obtain ⟨T5, X5, q5, st5⟩ := cself X3 hexec hown (wk W (.classLink "java/lang/String" 10 "java/lang/String")) (hy.mv X3.warmed.alike hh3).1 (g := (mkF m 15 #[.val (.ref x), .val (.ref y), .unset] [.ref y])) rfl (rest := []) rfl (hb hbytes d15)
    have hh5 := q5.trans hh3
    have c6 : Steps p.tables e below (s₁.setTop (entryFrame m #[.ref x, .ref y] 3)) (T5.setTop (mkF m 19 #[.val (.ref x), .val (.ref y), .val (.ref y)] [])) := (c4.trans (st5 _ (Steps.refl _))).trans (by
      refine XS.astoreN X5.here hexec rfl (hb hbytes d18) rfl rfl rfl ?_
      exact Steps.refl _)
    obtain ⟨T7, X7, q7, st7⟩ := X5.sget hexec hown (wk W (.fieldLink "java/lang/String" 38 "java/lang/String" "COMPACT_STRINGS" "Z")) s1 (fun _ _ h => by rw [hh5]; exact h) (g := (mkF m 19 #[.val (.ref x), .val (.ref y), .val (.ref y)] [])) rfl (hb hbytes d19)
    have hh7 := q7.trans hh5
    have c8 : Steps p.tables e below (s₁.setTop (entryFrame m #[.ref x, .ref y] 3)) (T7.setTop (mkF m 26 #[.val (.ref x), .val (.ref y), .val (.ref y)] [.ref x])) := (c6.trans (st7 _ (Steps.refl _))).trans (by
      refine XS.ifNo X7.here hexec rfl (hb hbytes d22) rfl (i0_eq_f hz) ?_
      refine XS.aloadN X7.here hexec rfl (hb hbytes d25) rfl rfl ?_
      exact Steps.refl _)
    obtain ⟨T9, X9, q9, st9⟩ := X7.hget hexec hown (wk W (.fieldLink "java/lang/String" 15 "java/lang/String" "coder" "B")) (hx.mv X7.warmed.alike hh7).2.2.1 (g := (mkF m 26 #[.val (.ref x), .val (.ref y), .val (.ref y)] [.ref x])) rfl (rest := []) rfl (hb hbytes d26)
    have hh9 := q9.trans hh7
    have c10 : Steps p.tables e below (s₁.setTop (entryFrame m #[.ref x, .ref y] 3)) (T9.setTop (mkF m 30 #[.val (.ref x), .val (.ref y), .val (.ref y)] [.ref y, .int cd])) := (c8.trans (st9 _ (Steps.refl _))).trans (by
      refine XS.aloadN X9.here hexec rfl (hb hbytes d29) rfl rfl ?_
      exact Steps.refl _)
    obtain ⟨T11, X11, q11, st11⟩ := X9.hget hexec hown (wk W (.fieldLink "java/lang/String" 15 "java/lang/String" "coder" "B")) (hy.mv X9.warmed.alike hh9).2.2.1 (g := (mkF m 30 #[.val (.ref x), .val (.ref y), .val (.ref y)] [.ref y, .int cd])) rfl (rest := [.int cd]) rfl (hb hbytes d30)
    have hh11 := q11.trans hh9
    have c12 : Steps p.tables e below (s₁.setTop (entryFrame m #[.ref x, .ref y] 3)) (T11.setTop (mkF m 33 #[.val (.ref x), .val (.ref y), .val (.ref y)] [.int cd', .int cd])) := c10.trans (st11 _ (Steps.refl _))
    by_cases hcd : cd = cd'
    · subst hcd
      have c13 : Steps p.tables e below (s₁.setTop (entryFrame m #[.ref x, .ref y] 3)) (T11.setTop (mkF m 37 #[.val (.ref x), .val (.ref y), .val (.ref y)] [.ref x])) := c12.trans (by
        refine XS.icmpNo X11.here hexec rfl (hb hbytes d33) rfl (ii_ne_f rfl) ?_
        refine XS.aloadN X11.here hexec rfl (hb hbytes d36) rfl rfl ?_
        exact Steps.refl _)
      obtain ⟨T14, X14, q14, st14⟩ := X11.hget hexec hown (wk W (.fieldLink "java/lang/String" 9 "java/lang/String" "value" "[B")) (hx.mv X11.warmed.alike hh11).2.1 (g := (mkF m 37 #[.val (.ref x), .val (.ref y), .val (.ref y)] [.ref x])) rfl (rest := []) rfl (hb hbytes d37)
      have hh14 := q14.trans hh11
      have c15 : Steps p.tables e below (s₁.setTop (entryFrame m #[.ref x, .ref y] 3)) (T14.setTop (mkF m 41 #[.val (.ref x), .val (.ref y), .val (.ref y)] [.ref y, .ref t])) := (c13.trans (st14 _ (Steps.refl _))).trans (by
        refine XS.aloadN X14.here hexec rfl (hb hbytes d40) rfl rfl ?_
        exact Steps.refl _)
      obtain ⟨T16, X16, q16, st16⟩ := X14.hget hexec hown (wk W (.fieldLink "java/lang/String" 9 "java/lang/String" "value" "[B")) (hy.mv X14.warmed.alike hh14).2.1 (g := (mkF m 41 #[.val (.ref x), .val (.ref y), .val (.ref y)] [.ref y, .ref t])) rfl (rest := [.ref t]) rfl (hb hbytes d41)
      have hh16 := q16.trans hh14
      have c17 : Steps p.tables e below (s₁.setTop (entryFrame m #[.ref x, .ref y] 3)) (T16.setTop (mkF m 44 #[.val (.ref x), .val (.ref y), .val (.ref y)] [.ref t', .ref t])) := c15.trans (st16 _ (Steps.refl _))
      obtain ⟨v18, T18, X18, E18, g18⟩ := X16.callS hexec (LEq.law l t V t' V') hown (wks W (staticW "java/lang/String" 541 LEq.yN)) (wk W LEq.tab) (W := 0) (Nat.le_of_ble_eq_true rfl) (Nat.le_of_ble_eq_true rfl) (Nat.le_refl _) (Nat.le_refl _) (g := (mkF m 44 #[.val (.ref x), .val (.ref y), .val (.ref y)] [.ref t', .ref t])) rfl (by rw [hml]; rfl) c17 (argsL := [.ref t, .ref t']) (rest := []) rfl rfl (by show 2 * 0 + 0 ≤ _; decide) (hb hbytes d44) (⟨rfl, hx.2.2.2.1.mv X16.warmed.alike hh16, hx.2.2.2.2.1.ty, hy.2.2.2.1.mv X16.warmed.alike hh16, hy.2.2.2.2.1.ty⟩)
      obtain ⟨v, rfl, q18, hv⟩ := E18
      have iff := Cod.eqv hx.2.2.2.2.1 hy.2.2.2.2.1 hx.2.2.2.2.2 hy.2.2.2.2.2
      rcases hv with ⟨rfl, he⟩ | ⟨rfl, he⟩
      · have c19 : Steps p.tables e below (s₁.setTop (entryFrame m #[.ref x, .ref y] 3)) (T18.setTop (mkF m 55 #[.val (.ref x), .val (.ref y), .val (.ref y)] [.int 1])) := Steps.trans g18 (by
          refine XS.ifNo X18.here hexec rfl (hb hbytes d47) rfl (i0_eq_f (by decide)) ?_
          refine iconstV X18.here hexec rfl 1 (hb hbytes d50) (by decide) ?_
          refine XS.goto X18.here hexec rfl (pc0 := 51) rfl (hb hbytes d51) (by decide) rfl ?_
          exact Steps.refl _)
        exact ⟨T18, some (.int 1), _, _, _, X18, rfl, rfl, rfl, (fun h => by cases h), ⟨1, rfl, q18.trans hh16, Or.inl ⟨rfl, iff.mp he⟩⟩, fun fs hl => c19.trans (X18.ireturnOut hexec hret rfl (Or.inr (Or.inl rfl)) (hb hbytes d55) hl)⟩
      · have c19 : Steps p.tables e below (s₁.setTop (entryFrame m #[.ref x, .ref y] 3)) (T18.setTop (mkF m 55 #[.val (.ref x), .val (.ref y), .val (.ref y)] [.int 0])) := Steps.trans g18 (by
          refine XS.ifYes X18.here hexec rfl (pc0 := 47) rfl (hb hbytes d47) rfl (i0_eq_t rfl) (by decide) rfl ?_
          refine iconstV X18.here hexec rfl 0 (hb hbytes d54) (by decide) ?_
          exact Steps.refl _)
        exact ⟨T18, some (.int 0), _, _, _, X18, rfl, rfl, rfl, (fun h => by cases h), ⟨0, rfl, q18.trans hh16, Or.inr ⟨rfl, fun q => he (iff.mpr q)⟩⟩, fun fs hl => c19.trans (X18.ireturnOut hexec hret rfl (Or.inr (Or.inl rfl)) (hb hbytes d55) hl)⟩
    · have c13 : Steps p.tables e below (s₁.setTop (entryFrame m #[.ref x, .ref y] 3)) (T11.setTop (mkF m 55 #[.val (.ref x), .val (.ref y), .val (.ref y)] [.int 0])) := c12.trans (by
        refine XS.icmpYes X11.here hexec rfl (pc0 := 33) rfl (hb hbytes d33) rfl (ii_ne_t hcd) (by decide) rfl ?_
        refine iconstV X11.here hexec rfl 0 (hb hbytes d54) (by decide) ?_
        exact Steps.refl _)
      exact ⟨T11, some (.int 0), _, _, _, X11, rfl, rfl, rfl, (fun h => by cases h), ⟨0, rfl, hh11, Or.inr ⟨rfl, Cod.dif hx.2.2.2.2.1 hy.2.2.2.2.1 hcd⟩⟩, fun fs hl => c13.trans (X11.ireturnOut hexec hret rfl (Or.inr (Or.inl rfl)) (hb hbytes d55) hl)⟩
theorem pays {l : Launch} {R : Room} {p : Program} {e : Env} {below : List Frame} {s : State} {sargs : Array Value} {len W : Nat} (x t : Addr) (V : Cell) (cd : Int32) (n : Nat) (f : Nat → Int32) (y t' : Addr) (V' : Cell) (cd' : Int32) (k : Nat) (g : Nat → Int32) (z : Int32) (htab : tab.before sargs s = true) (hfr : 2 ≤ R.frames) (hlo : W + 28 ≤ R.locals) :
    Back l R p e below s sargs yN len W (fun A₁ a₁ => A₁.cells + 0 ≤ R.cells ∧ A₁.slots + 0 ≤ R.slots ∧ P x t V cd n f y t' V' cd' k g z a₁ A₁.U) (fun A₁ _ v₁ B₁ => Says01 (SameT n f k g) v₁ A₁.U B₁.U ∧ B₁.locs = A₁.locs ++ [] ∧ B₁.cells = A₁.cells + 0 ∧ B₁.slots = A₁.slots + 0) :=
  (law l x t V cd n f y t' V' cd' k g z).pays htab hfr (by omega)
end SEq
end StrChars
namespace StrChars.Road
open Jvm Sem ClassFile Op Lib Jvm.Stand Jvm.Free Jvm.Free.XT
open Jvm.Lib.Cold (StaticIs)
/-- the words of String.equals(Object) -/
abbrev wordsEq : List Jvm.Cond := [.code SEq.yN SEq.yB 3 (some .boolean), .initialized ST, .classLink ST 10 ST, .fieldLink ST 38 ST "COMPACT_STRINGS" "Z", .fieldLink ST 15 ST "coder" "B", .fieldLink ST 9 ST "value" "[B", .methodLink ST 541 LEq.yN, .static LEq.yN, .code LEq.yN LEq.yB 3 (some .boolean), .initialized "java/lang/StringLatin1"]
theorem tabEq_of {a : Array Value} {s : State} (h : ∀ w ∈ wordsEq, w.before a s = true) : SEq.tab.before a s = true := by
  have hl : LEq.tab.before a s = true := unparts (wk h (.code LEq.yN LEq.yB 3 (some .boolean))) (wks h (.initialized LEq.yN.cls :: LEq.site))
  have q := consq hl h
  exact unparts (wk q (.code SEq.yN SEq.yB 3 (some .boolean))) (wks q (.initialized SEq.yN.cls :: SEq.site))
theorem movedEq {Z s : State} {a0 args : Array Value} (hZ : Z.Warmed39 s.vm) (hw : ∀ d ∈ wordsEq, d.before a0 Z = true) : ∀ d ∈ wordsEq, d.before args s = true := fun d hd => by
  have t : ∀ d ∈ wordsEq, (d.onTables && d.keepsFace) = true := by decide +kernel
  exact RoadKit.mv hZ (hw d hd) (t d hd)
/-- the road's facts of a String, as the laws ask it -/
theorem txt_of {Z U : State} {a0 : Array Value} {kI : Nat} (wi : (Jvm.Cond.instantiable ST kI).before a0 Z = true) (al : Z.vm.Alike U.vm) {x t : Addr} {kb : ClassId} {cs : List Int32} {cd N2 : Int32} {vs : List Value} (E : RoadKit.Exa Z U.heap x ST) (V : RoadKit.Fld Z U.heap x ST "value" "[B" (.ref t)) (C : RoadKit.Fld Z U.heap x ST "coder" "B" (.int cd)) (K : RoadKit.Arv Z U.heap t kb .byte N2 vs (.int 0)) (hc : CodA cs cd N2 vs) (hb : ∀ c ∈ cs, ¬ c < 0 ∧ ¬ (65535 : Int32) < c) (l2 : cs.length ≤ 4000) :
    ∃ A, Txt x t A cd cs.length (fun j => cs.getD j 0) U := by
  obtain ⟨A, K1, K2, K3, K4, K5, K6⟩ := K
  have hcod := hc.cod (by omega) K3 K5
  obtain ⟨D, fV, fC, hB, F1, F2, g1, g2, -, -⟩ := strObj wi al E V C
  exact ⟨A, ⟨_, hB.2.2.1, D, hB.1, rfl, by cases q : D.vm <;> first | rfl | exact absurd q (hB.2.1.2 _)⟩, Has.of hB F1 g1, Has.of hB F2 g2, ⟨K1.1, State.isArrayOf_alike al K1.2.1, K1.2.2, by rcases hcod with ⟨-, q, -⟩ | ⟨-, q, -⟩ <;> omega⟩, hcod, fun j hj => by
    have e : cs.getD j 0 = cs[j] := by simp [List.getD_eq_getElem?_getD, hj]
    show ¬ cs.getD j 0 < 0 ∧ ¬ 65535 < cs.getD j 0
    rw [e]; exact hb _ (List.getElem_mem _)⟩
theorem same_list (cs ds : List Int32) : SameT cs.length (fun j => cs.getD j 0) ds.length (fun j => ds.getD j 0) ↔ cs = ds := by
  constructor
  · rintro ⟨e, q⟩
    refine List.ext_getElem e fun j h1 h2 => ?_
    have := q j h1
    simpa [List.getD_eq_getElem?_getD, h1, h2] using this
  · rintro rfl
    exact ⟨rfl, fun _ _ => rfl⟩
/-- **equals(Object) OF TWO SUCH STRINGS**: 1 just where the chars are the same -/
theorem eqW {p : Program} {l : Launch} {e : Env} {R : Room} {s : State} {args : Array Value} {below : List Frame} {len W : Nat} {Z : State} {a0 : Array Value} {h : Heap} (hZ : Z.Warmed39 s.vm) (hw : ∀ d ∈ wordsEq, d.before a0 Z = true) {kI : Nat} (wi : (Jvm.Cond.instantiable ST kI).before a0 Z = true)
    {x t : Addr} {kb : ClassId} {cs : List Int32} {cd N2 : Int32} {vs : List Value} (E : RoadKit.Exa Z h x ST) (V : RoadKit.Fld Z h x ST "value" "[B" (.ref t)) (C : RoadKit.Fld Z h x ST "coder" "B" (.int cd)) (K : RoadKit.Arv Z h t kb .byte N2 vs (.int 0)) (hc : CodA cs cd N2 vs) (hb : ∀ c ∈ cs, ¬ c < 0 ∧ ¬ (65535 : Int32) < c) (l2 : cs.length ≤ 4000)
    {y t' : Addr} {kb' : ClassId} {ds : List Int32} {cd' N2' : Int32} {vs' : List Value} (E' : RoadKit.Exa Z h y ST) (V' : RoadKit.Fld Z h y ST "value" "[B" (.ref t')) (C' : RoadKit.Fld Z h y ST "coder" "B" (.int cd')) (K' : RoadKit.Arv Z h t' kb' .byte N2' vs' (.int 0)) (hc' : CodA ds cd' N2' vs') (hb' : ∀ c ∈ ds, ¬ c < 0 ∧ ¬ (65535 : Int32) < c) (l2' : ds.length ≤ 4000)
    {z : Int32} (S : RoadKit.Sta Z h ST "COMPACT_STRINGS" "Z" (.int z)) (hz : ¬ z = 0) (hfr : 2 ≤ R.frames) (hlo : W + 28 ≤ R.locals) :
    Back l R p e below s args (⟨"java/lang/String", "equals", "(Ljava/lang/Object;)Z"⟩ : MethodName) len W (fun P a => a = #[.ref x, .ref y] ∧ P.U.heap = h ∧ P.cells + 0 ≤ R.cells ∧ P.slots + 0 ≤ R.slots)
      (fun P _ v B => ∃ L, (((v = some (.int 1) ∧ cs = ds) ∨ (v = some (.int 0) ∧ ¬ cs = ds)) ∧ L = [] ∧ B.U.heap = h) ∧ B.locs = P.locs ++ L ∧ B.cells = P.cells + 0 ∧ B.slots = P.slots + 0) := by
  intro m meth c P g ig mk a X hg hsize hdg hW hn hp'
  obtain ⟨rfl, rfl, r1, r2⟩ := hp'
  have al : Z.vm.Alike P.U.vm := hZ.alike.trans X.warmed.alike
  obtain ⟨A, hx⟩ := txt_of wi al E V C K hc hb l2
  obtain ⟨A', hy⟩ := txt_of wi al E' V' C' K' hc' hb' l2'
  obtain ⟨v, B, X', ⟨⟨w, hv, hh, hq⟩, hl, hk, hs⟩, st⟩ := SEq.pays x t A cd cs.length (fun j => cs.getD j 0) y t' A' cd' ds.length (fun j => ds.getD j 0) z (tabEq_of (movedEq hZ hw)) hfr hlo m meth c P g ig mk _ X hg hsize hdg hW hn ⟨r1, r2, rfl, hx, hy, sta_is al S, hz⟩
  refine ⟨v, B, X', ⟨[], ⟨?_, rfl, hh⟩, hl, hk, hs⟩, st⟩
  rcases hq with ⟨rfl, q⟩ | ⟨rfl, q⟩
  · exact Or.inl ⟨hv, (same_list cs ds).mp q⟩
  · exact Or.inr ⟨hv, fun e => q ((same_list cs ds).mpr e)⟩
end StrChars.Road
namespace StrChars
open Jvm Sem ClassFile Op Lib Jvm.Stand Jvm.Free.XT Jvm.Free.ALB Jvm.Free.JM Jvm.Free
open Jvm.Lib.Cold (StaticIs)
namespace ChN
def yN : MethodName := ⟨"java/lang/String", "charAt", "(I)C"⟩
abbrev yB : ByteArray := jdk_42_method_56_code
theorem d0 : decode yB 0 = .ok (.aload_n 0, 1) := by decide +kernel
theorem d1 : decode yB 1 = .ok (.invokevirtual 492, 3) := by decide +kernel
theorem d4 : decode yB 4 = .ok (.ifCond (.eq) 12, 3) := by decide +kernel
theorem d7 : decode yB 7 = .ok (.aload_n 0, 1) := by decide +kernel
theorem d8 : decode yB 8 = .ok (.getfield 9, 3) := by decide +kernel
theorem d11 : decode yB 11 = .ok (.iload_n 1, 1) := by decide +kernel
theorem d12 : decode yB 12 = .ok (.invokestatic 495, 3) := by decide +kernel
theorem d15 : decode yB 15 = .ok (.ireturn, 1) := by decide +kernel
def site : List Cond := [.fieldLink "java/lang/String" 9 "java/lang/String" "value" "[B", IsL.tab, LChA.tab] ++ virtW "java/lang/String" 492 "java/lang/String" IsL.yN IsL.yN ++ staticW "java/lang/String" 495 LChA.yN
def tab : Cond := tabOf yN yB 2 (some .char) site
def P (x t : Addr) (V : Cell) (n : Nat) (f : Nat → Int32) (z : Int32) (fm : Value) (i : Nat) (args : Array Value) (s : State) : Prop := args = #[.ref x, .int (Int32.ofNat i)] ∧ Txt x t V 0 n f s ∧ i < n ∧ StaticIs s "java/lang/String" "COMPACT_STRINGS" "Z" (.int z) ∧ ¬ z = 0 ∧ StaticIs s "jdk/internal/util/Preconditions" "SIOOBE_FORMATTER" "Ljava/util/function/BiFunction;" fm ∧ fm.isRef = true
def E (f : Nat → Int32) (i : Nat) (r : Option Value) (s u : State) : Prop := XT.PureE (some (.int (f i))) r s u
/-- charAt(i) of a Latin-1 String of n chars, i < n: f i -/
theorem law (l : Launch) (x t : Addr) (V : Cell) (n : Nat) (f : Nat → Int32) (z : Int32) (fm : Value) (i : Nat) : Law l yN 2 1 3 40 yB 2 (some .char) site (P x t V n f z fm i) (E f i) [] 0 0 := by
  refine Law.of_walk (plainFor_of_name (by decide +kernel)) (by decide +kernel) (by decide +kernel) (by decide) (fun _ _ h => by rw [h.1]; rfl) (fun _ U U' hal hh h => ⟨h.1, h.2.1.mv hal hh, h.2.2.1, h.2.2.2.1.there hal hh, h.2.2.2.2.1, h.2.2.2.2.2.1.there hal hh, h.2.2.2.2.2.2⟩) (fun r U U' V V' h1 hal h2 h => XT.PureE.mv r U U' V V' h1 hal h2 h) ?_
  intro p e s m args below meth c s₁ X0 hexec hbytes hml hret hlk hnm hown hh0 W hP
  obtain ⟨rfl, hx, hi, s1, hz, s3, rf⟩ := hP
  have v31 := hx.2.2.2.1.2.2.2
  have hr := hx.2.2.2.2.2 i hi
  have hx0 := hx.mv X0.warmed.alike hh0
  have c1 : Steps p.tables e below (s₁.setTop (entryFrame m #[.ref x, .int (Int32.ofNat i)] 2)) (s₁.setTop (mkF m 1 #[.val (.ref x), .val (.int (Int32.ofNat i))] [.ref x])) := Steps.trans (entry rfl) (by
    show Steps p.tables e below (s₁.setTop (mkF m 0 #[.val (.ref x), .val (.int (Int32.ofNat i))] [])) _
    refine XS.aloadN X0.here hexec rfl (hb hbytes d0) rfl rfl ?_
    exact Steps.refl _)
  obtain ⟨v2, T2, X2, E2, g2⟩ := X0.callV hexec (IsL.law l x 0 z) hown (wks W (virtW "java/lang/String" 492 "java/lang/String" IsL.yN IsL.yN)) rfl (by decide) (wk W IsL.tab) (W := 0) (Nat.le_of_ble_eq_true rfl) (Nat.le_of_ble_eq_true rfl) (Nat.le_refl _) (Nat.le_refl _) (hx0.1.fc X0.warmed.alike) hx0.1.is (g := (mkF m 1 #[.val (.ref x), .val (.int (Int32.ofNat i))] [.ref x])) rfl (by rw [hml]; rfl) c1 (argsL := []) (rest := []) rfl rfl (by show 2 * 0 + 0 ≤ _; decide) (hb hbytes d1) (⟨rfl, hx0.2.2.1, hx.2.2.2.2.1.cd, s1.there X0.warmed.alike hh0, hz⟩)
  obtain ⟨rfl, q2⟩ := E2
  have hh2 := q2.trans hh0
  have hx2 := hx.mv X2.warmed.alike hh2
  obtain ⟨-, k1, k2⟩ | ⟨k0, -⟩ := hx.2.2.2.2.1
  · have c3 : Steps p.tables e below (s₁.setTop (entryFrame m #[.ref x, .int (Int32.ofNat i)] 2)) (T2.setTop (mkF m 8 #[.val (.ref x), .val (.int (Int32.ofNat i))] [.ref x])) := Steps.trans g2 (by
      refine XS.ifNo X2.here hexec rfl (hb hbytes d4) rfl (i0_eq_f (by decide)) ?_
      refine XS.aloadN X2.here hexec rfl (hb hbytes d7) rfl rfl ?_
      exact Steps.refl _)
    obtain ⟨T4, X4, q4, st4⟩ := X2.hget hexec hown (wk W (.fieldLink "java/lang/String" 9 "java/lang/String" "value" "[B")) hx2.2.1 (g := (mkF m 8 #[.val (.ref x), .val (.int (Int32.ofNat i))] [.ref x])) rfl (rest := []) rfl (hb hbytes d8)
    have hh4 := q4.trans hh2
    have c5 : Steps p.tables e below (s₁.setTop (entryFrame m #[.ref x, .int (Int32.ofNat i)] 2)) (T4.setTop (mkF m 12 #[.val (.ref x), .val (.int (Int32.ofNat i))] [.int (Int32.ofNat i), .ref t])) := (c3.trans (st4 _ (Steps.refl _))).trans (by
      refine XS.iloadN X4.here hexec rfl (hb hbytes d11) rfl ?_
      exact Steps.refl _)
    obtain ⟨v6, T6, X6, E6, g6⟩ := X4.callS hexec (LChA.law l t V i (lo8 (f i)) fm) hown (wks W (staticW "java/lang/String" 495 LChA.yN)) (wk W LChA.tab) (W := 0) (Nat.le_of_ble_eq_true rfl) (Nat.le_of_ble_eq_true rfl) (Nat.le_refl _) (Nat.le_refl _) (g := (mkF m 12 #[.val (.ref x), .val (.int (Int32.ofNat i))] [.int (Int32.ofNat i), .ref t])) rfl (by rw [hml]; rfl) c5 (argsL := [.ref t, .int (Int32.ofNat i)]) (rest := []) rfl rfl (by show 2 * 0 + 0 ≤ _; decide) (hb hbytes d12) (⟨rfl, hx.2.2.2.1.mv X4.warmed.alike hh4, (k2 i hi).1, s3.there X4.warmed.alike hh4, rf⟩)
    obtain ⟨rfl, q6⟩ := E6
    rw [chr8_lo8 hr.1 (k2 i hi).2] at g6
    exact ⟨T6, some (.int (f i)), _, _, _, X6, rfl, rfl, rfl, (fun h => by cases h), ⟨rfl, q6.trans hh4⟩, fun fs hl => Steps.trans g6 (X6.ireturnOut hexec hret (narrow_ch hr.1 hr.2) (Or.inr (Or.inr (Or.inr (Or.inl rfl)))) (hb hbytes d15) hl)⟩
  · exact absurd k0 (by decide)
theorem pays {l : Launch} {R : Room} {p : Program} {e : Env} {below : List Frame} {s : State} {sargs : Array Value} {len W : Nat} (x t : Addr) (V : Cell) (n : Nat) (f : Nat → Int32) (z : Int32) (fm : Value) (i : Nat) (htab : tab.before sargs s = true) (hfr : 4 ≤ R.frames) (hlo : W + 53 ≤ R.locals) :
    Back l R p e below s sargs yN len W (fun A₁ a₁ => A₁.cells + 0 ≤ R.cells ∧ A₁.slots + 0 ≤ R.slots ∧ P x t V n f z fm i a₁ A₁.U) (fun A₁ _ v₁ B₁ => E f i v₁ A₁.U B₁.U ∧ B₁.locs = A₁.locs ++ [] ∧ B₁.cells = A₁.cells + 0 ∧ B₁.slots = A₁.slots + 0) :=
  (law l x t V n f z fm i).pays htab hfr (by omega)
end ChN
end StrChars
namespace StrChars.Road
open Jvm Sem ClassFile Op Lib Jvm.Stand Jvm.Free Jvm.Free.XT
open Jvm.Lib.Cold (StaticIs)
/-- the words of String.charAt(int), the Latin-1 road alone -/
abbrev wordsChN : List Jvm.Cond := [.code ChN.yN ChN.yB 2 (some .char), .initialized ST, .fieldLink ST 9 ST "value" "[B", .fieldLink ST 38 ST "COMPACT_STRINGS" "Z", .fieldLink ST 15 ST "coder" "B", .code IsL.yN IsL.yB 1 (some .boolean), .methodLink ST 492 IsL.yN, .declares IsL.yN, .selects ST IsL.yN IsL.yN, .instanceMethod IsL.yN,
  .methodLink ST 495 LChA.yN, .static LChA.yN, .code LChA.yN LChA.yB 2 (some .char), .initialized "java/lang/StringLatin1", .methodLink "java/lang/StringLatin1" 9 JO.Str_checkIndex.yN, .static JO.Str_checkIndex.yN, .code JO.Str_checkIndex.yN JO.Str_checkIndex.yB 2 none,
  .fieldLink ST 1053 "jdk/internal/util/Preconditions" "SIOOBE_FORMATTER" "Ljava/util/function/BiFunction;", .methodLink ST 1059 JC.PreCheck.yN, .static JC.PreCheck.yN, .code JC.PreCheck.yN JC.PreCheck.yB 3 (some .int), .initialized "jdk/internal/util/Preconditions"]
theorem tabChN_of {a : Array Value} {s : State} (h : ∀ w ∈ wordsChN, w.before a s = true) : ChN.tab.before a s = true := by
  have hp : JC.PreCheck.tab.before a s = true := unparts (wk h (.code JC.PreCheck.yN JC.PreCheck.yB 3 (some .int))) (wks h (.initialized JC.PreCheck.yN.cls :: JC.PreCheck.site))
  have qk := consq hp h
  have hk : JO.Str_checkIndex.tab.before a s = true := unparts (wk qk (.code JO.Str_checkIndex.yN JO.Str_checkIndex.yB 2 none)) (wks qk (.initialized JO.Str_checkIndex.yN.cls :: JO.Str_checkIndex.site))
  have ql := consq hk h
  have hl : LChA.tab.before a s = true := unparts (wk ql (.code LChA.yN LChA.yB 2 (some .char))) (wks ql (.initialized LChA.yN.cls :: LChA.site))
  have hi : IsL.tab.before a s = true := unparts (wk h (.code IsL.yN IsL.yB 1 (some .boolean))) (wks h (.initialized IsL.yN.cls :: IsL.site))
  have q := consq hi (consq hl h)
  exact unparts (wk q (.code ChN.yN ChN.yB 2 (some .char))) (wks q (.initialized ChN.yN.cls :: ChN.site))
theorem movedChN {Z s : State} {a0 args : Array Value} (hZ : Z.Warmed39 s.vm) (hw : ∀ d ∈ wordsChN, d.before a0 Z = true) : ∀ d ∈ wordsChN, d.before args s = true := fun d hd => by
  have t : ∀ d ∈ wordsChN, (d.onTables && d.keepsFace) = true := by decide +kernel
  exact RoadKit.mv hZ (hw d hd) (t d hd)
/-- **charAt(i) OF A LATIN-1 STRING**, i < n: the char -/
theorem chN {p : Program} {l : Launch} {e : Env} {R : Room} {s : State} {args : Array Value} {below : List Frame} {len W : Nat} {Z : State} {a0 : Array Value} {h : Heap} (hZ : Z.Warmed39 s.vm) (hw : ∀ d ∈ wordsChN, d.before a0 Z = true) {kI : Nat} (wi : (Jvm.Cond.instantiable ST kI).before a0 Z = true)
    {x t : Addr} {kb : ClassId} {cs : List Int32} {N2 z : Int32} {vs : List Value} {fm : Value} {i : Nat} {j : Int32} (E : RoadKit.Exa Z h x ST) (V : RoadKit.Fld Z h x ST "value" "[B" (.ref t)) (C : RoadKit.Fld Z h x ST "coder" "B" (.int 0)) (K : RoadKit.Arv Z h t kb .byte N2 vs (.int 0)) (hc : CodA cs 0 N2 vs) (hb : ∀ c ∈ cs, ¬ c < 0 ∧ ¬ (65535 : Int32) < c)
    (S : RoadKit.Sta Z h ST "COMPACT_STRINGS" "Z" (.int z)) (hz : ¬ z = 0) (F : RoadKit.Sta Z h "jdk/internal/util/Preconditions" "SIOOBE_FORMATTER" "Ljava/util/function/BiFunction;" fm) (rf : fm.isRef = true) (l2 : cs.length ≤ 4000) (hi : i < cs.length) (hj : j = Int32.ofNat i) (hfr : 4 ≤ R.frames) (hlo : W + 53 ≤ R.locals) :
    Back l R p e below s args (⟨"java/lang/String", "charAt", "(I)C"⟩ : MethodName) len W (fun P a => a = #[.ref x, .int j] ∧ P.U.heap = h ∧ P.cells + 0 ≤ R.cells ∧ P.slots + 0 ≤ R.slots)
      (fun P _ v B => ∃ L, (v = some (.int (cs.getD i 0)) ∧ L = [] ∧ B.U.heap = h) ∧ B.locs = P.locs ++ L ∧ B.cells = P.cells + 0 ∧ B.slots = P.slots + 0) := by
  subst hj
  intro m meth c P g ig mk a X hg hsize hdg hW hn hp'
  obtain ⟨rfl, rfl, r1, r2⟩ := hp'
  have al : Z.vm.Alike P.U.vm := hZ.alike.trans X.warmed.alike
  obtain ⟨A, hx⟩ := txt_of wi al E V C K hc hb l2
  obtain ⟨v, B, X', ⟨⟨hv, hh⟩, hl, hk, hs⟩, st⟩ := ChN.pays x t A cs.length (fun j => cs.getD j 0) z fm i (tabChN_of (movedChN hZ hw)) hfr hlo m meth c P g ig mk _ X hg hsize hdg hW hn ⟨r1, r2, rfl, hx, hi, sta_is al S, hz, sta_is al F, rf⟩
  exact ⟨v, B, X', ⟨[], ⟨hv, rfl, hh⟩, hl, hk, hs⟩, st⟩
/-- what backV says of its String, as the contracts of this text ask it: cs's low bytes, coder 0 -/
theorem codOf {cs : List Int32} {n : Nat} (hn : cs.length = n) (hb : ∀ c ∈ cs, ¬ 255 < c) : CodA cs 0 (Int32.ofNat n) ((cs.map lo8).map Value.int) := Or.inl ⟨rfl, by rw [hn], by simp [List.map_map, Function.comp_def], hb⟩
end StrChars.Road
end Jvm.Pilot.@@N@@
namespace Jvm.Pilot.@@N@@
open Jvm Jvm.ClassFile Sem Op Lib Jvm.Free Jvm.Stand Jvm.LawKit Jvm.RoadKit Bundle Jvm.Pilot.@@N@@.Jvm.D Jvm.Own
/-- what the case says of its start -/
def Wd (Z : State) (a0 : Array Value) : Prop := (∀ (k : Nat) {d : Jvm.Cond}, tables_1[k]? = some d → d.before a0 Z = true) ∧ (∃ z : Int32, Sta Z Z.heap "java/lang/String" "COMPACT_STRINGS" "Z" (.int z) ∧ ¬ z = 0) ∧ ∃ fm : Value, Sta Z Z.heap "jdk/internal/util/Preconditions" "SIOOBE_FORMATTER" "Ljava/util/function/BiFunction;" fm ∧ fm.isRef = true
theorem Wd.hw {Z : State} {a0 : Array Value} (W : Wd Z a0) : ∀ d ∈ tables_1, d.before a0 Z = true := fun d hd => by
  obtain ⟨i, hi⟩ := List.mem_iff_getElem?.mp hd
  exact W.1 i hi
theorem Wd.sub {Z : State} {a0 : Array Value} (W : Wd Z a0) {ws : List Jvm.Cond} (h : ∀ d ∈ ws, d ∈ tables_1) : ∀ d ∈ ws, d.before a0 Z = true := fun d hd => W.hw d (h d hd)
theorem pdC : parseMethodDescriptor "([C)V" = some ⟨[(.array .char)], none⟩ := by decide +kernel
theorem up255 {cs : List Int32} (h : ∀ c ∈ cs, ¬ c < 0 ∧ ¬ (255 : Int32) < c) : ∀ c ∈ cs, ¬ c < 0 ∧ ¬ (65535 : Int32) < c := fun c hc => ⟨(h c hc).1, fun q => (h c hc).2 (by rw [Int32.lt_iff_toInt_lt] at q ⊢; have e1 : (65535 : Int32).toInt = 65535 := rfl; have e2 : (255 : Int32).toInt = 255 := rfl; omega)⟩
section StrGo
variable {nw : Bool} {p : Program} {l : Launch} {e : Env} {R : Room} {s : State} {m : MethodId} {args : Array Value} {below : List Frame} {meth : Method} {c : Code} {code : ByteArray} {ml : Nat} {nm : String} {ret : Option FieldType} {Z : State} {a0 : Array Value} {EL : List (String × Nat)} {own : String} {P : Option Value → Vm → Heap → Prop}
variable {vm vm' : Vm} {h h' h0 h1 h2 : Heap} {k n pc : Nat} {L : Array Slot} {S : List Value}
/-- new String(chars), one to 4,000 of them, each 0 to 255 -/
theorem goStrNew (W : Wd Z a0) {idx : Nat} {x b : Addr} {kC : ClassId} {N : Int32} {v0 c0 dv : Value} {rest : List Value} (Wk : Nat) (cs : List Int32) (pc' : Nat) (hd : decode code pc = .ok (.invokespecial idx, 3)) (hp : pc + 3 = pc') (w1 : (Jvm.Cond.methodLink own idx (⟨"java/lang/String", "<init>", "([C)V"⟩ : MethodName)).before a0 Z = true)
    (E : Exa Z h x "java/lang/String") (V : Fld Z h x "java/lang/String" "value" "[B" v0) (C : Fld Z h x "java/lang/String" "coder" "B" c0) (K : Arv Z h b kC .char N (cs.map Value.int) dv) (hN : N = Int32.ofNat cs.length) (l0 : 0 < cs.length) (l2 : cs.length ≤ 4000) (hcs : ∀ c ∈ cs, ¬ c < 0 ∧ ¬ (255 : Int32) < c)
    (hst : S = .ref b :: .ref x :: rest) (hsz : L.size = ml) (hW : (rest.map fun v => v.category).sum ≤ Wk) (hfr : 4 ≤ R.frames) (hlo : Wk + 65 ≤ R.locals) (hk0 : k + 1 ≤ R.cells) (hn0 : n + cs.length ≤ R.slots) (Sx : Safe Z EL vm h x) (hz : Z.heap.size ≤ x)
    (g : ∀ h', Keep h h' [x] → Str Z h' x cs → CHr Z EL vm h vm h' → Go nw p l e R s m args below meth c code ml nm ret Z a0 EL own P vm h' (k + 1) (n + cs.length) pc' L rest) : Go nw p l e R s m args below meth c code ml nm ret Z a0 EL own P vm h k n pc L S := by
  obtain ⟨z, Cz, hz0⟩ := W.2.1
  refine Go.specB (Q := fun v h' L => StrChars.Road.QV Z x N (cs.map fun c => c.toInt8.toInt32) h Z.heap.size v h' L) (dk := 1) (dn := cs.length) (rest := rest) Wk x [.ref b] pc' hd hp rfl w1 (W.1 60 rfl) (W.1 61 rfl) (by decide)
    (fun hZ hE => StrChars.Road.backV hZ (W.sub (by decide +kernel)) (W.1 6 rfl) (bs := cs.map fun c => c.toInt8.toInt32) hz hE.1 E V C K (Cz.ext hE) hz0 rfl hN l0 l2 hcs rfl hfr hlo) pdC rfl hst hsz hW hk0 hn0
    (fun v h' L q => ⟨q.2.1, [x], q.2.2.1, fun y hy => by cases List.mem_singleton.mp hy; exact Sx, fun y hy => by cases List.mem_singleton.mp hy; exact hz⟩) (fun v h' L q ch => ?_)
  obtain ⟨rfl, q2, q3, q4, q5, t, kb, q6, q7, q8, q9, q10⟩ := q
  exact g h' q3 ⟨t, kb, q4, q5, q9, by rw [← hN]; exact q10, l2, hcs⟩ ch
theorem pdI0 : parseMethodDescriptor "()I" = some ⟨[], some .int⟩ := by decide +kernel
theorem goStrLen (W : Wd Z a0) {idx : Nat} {x : Addr} {cs : List Int32} {rest : List Value} (Wk : Nat) (pc' : Nat) (hd : decode code pc = .ok (.invokevirtual idx, 3)) (hp : pc + 3 = pc') (w1 : (Jvm.Cond.methodLink own idx (⟨"java/lang/String", "length", "()I"⟩ : MethodName)).before a0 Z = true)
    (T : Str Z h x cs) (hst : S = .ref x :: rest) (hsz : L.size = ml) (hW : (rest.map fun v => v.category).sum ≤ Wk) (hfr : 2 ≤ R.frames) (hlo : Wk + 25 ≤ R.locals) (hk0 : k ≤ R.cells) (hn0 : n ≤ R.slots) (g : Go nw p l e R s m args below meth c code ml nm ret Z a0 EL own P vm h k n pc' L (.int (Int32.ofNat cs.length) :: rest)) : Go nw p l e R s m args below meth c code ml nm ret Z a0 EL own P vm h k n pc L S := by
  obtain ⟨z, Cz, hz0⟩ := W.2.1
  obtain ⟨b, kb, t1, t2, t3, t4, t5, t6⟩ := T
  refine Go.virtB (Q := fun v h' L => v = some (.int (Int32.ofNat cs.length)) ∧ L = [] ∧ h' = h) (dk := 0) (dn := 0) (rest := rest) Wk x [] pc' hd hp t1 w1 (W.1 13 rfl) (fun s hs => notFace_of_selects (args := #[]) (mvT hs (W.1 15 rfl))) (W.1 15 rfl) (W.1 14 rfl) (by decide)
    (fun hZ hE => StrChars.Road.lenW hZ (W.sub (by decide +kernel)) (W.1 6 rfl) t1 t3 t2 t4 (StrChars.Road.codOf rfl (fun c hc => (t6 c hc).2)) (up255 t6) (Cz.ext hE) hz0 t5 hfr hlo) pdI0 rfl hst hsz hW hk0 hn0
    (fun v h' L q => ⟨by rw [q.2.1]; exact Fr.nil _, [], by rw [q.2.2]; exact Keep.refl _ _, sf0, fun _ q => nomatch q⟩) (fun v h' L q ch => ?_)
  obtain ⟨rfl, rfl, rfl⟩ := q
  exact g
theorem pdIC : parseMethodDescriptor "(I)C" = some ⟨[.int], some .char⟩ := by decide +kernel
theorem goStrAt (W : Wd Z a0) {idx : Nat} {x : Addr} {cs : List Int32} {j : Int32} {rest : List Value} (Wk : Nat) (i : Nat) (y : Int32) (pc' : Nat) (hd : decode code pc = .ok (.invokevirtual idx, 3)) (hp : pc + 3 = pc') (w1 : (Jvm.Cond.methodLink own idx (⟨"java/lang/String", "charAt", "(I)C"⟩ : MethodName)).before a0 Z = true)
    (T : Str Z h x cs) (hi : i < cs.length) (hj : j = Int32.ofNat i) (hy : cs.getD i 0 = y) (hst : S = .int j :: .ref x :: rest) (hsz : L.size = ml) (hW : (rest.map fun v => v.category).sum ≤ Wk) (hfr : 4 ≤ R.frames) (hlo : Wk + 53 ≤ R.locals) (hk0 : k ≤ R.cells) (hn0 : n ≤ R.slots) (g : Go nw p l e R s m args below meth c code ml nm ret Z a0 EL own P vm h k n pc' L (.int y :: rest)) : Go nw p l e R s m args below meth c code ml nm ret Z a0 EL own P vm h k n pc L S := by
  obtain ⟨z, Cz, hz0⟩ := W.2.1
  obtain ⟨fm, Fz, hr0⟩ := W.2.2
  obtain ⟨b, kb, t1, t2, t3, t4, t5, t6⟩ := T
  refine Go.virtB (Q := fun v h' L => v = some (.int (cs.getD i 0)) ∧ L = [] ∧ h' = h) (dk := 0) (dn := 0) (rest := rest) Wk x [.int j] pc' hd hp t1 w1 (W.1 34 rfl) (fun s hs => notFace_of_selects (args := #[]) (mvT hs (W.1 36 rfl))) (W.1 36 rfl) (W.1 35 rfl) (by decide)
    (fun hZ hE => StrChars.Road.chN hZ (W.sub (by decide +kernel)) (W.1 6 rfl) t1 t3 t2 t4 (StrChars.Road.codOf rfl (fun c hc => (t6 c hc).2)) (up255 t6) (Cz.ext hE) hz0 (Fz.ext hE) hr0 t5 hi hj hfr hlo) pdIC rfl hst hsz hW hk0 hn0
    (fun v h' L q => ⟨by rw [q.2.1]; exact Fr.nil _, [], by rw [q.2.2]; exact Keep.refl _ _, sf0, fun _ q => nomatch q⟩) (fun v h' L q ch => ?_)
  obtain ⟨rfl, rfl, rfl⟩ := q
  subst hy
  exact g
theorem pdE : parseMethodDescriptor "(Ljava/lang/Object;)Z" = some ⟨[(.object "java/lang/Object")], some .boolean⟩ := by decide +kernel
theorem goStrEq (W : Wd Z a0) {idx : Nat} {x y : Addr} {cs ds : List Int32} {rest : List Value} (Wk : Nat) (pc' : Nat) (hd : decode code pc = .ok (.invokevirtual idx, 3)) (hp : pc + 3 = pc') (w1 : (Jvm.Cond.methodLink own idx (⟨"java/lang/String", "equals", "(Ljava/lang/Object;)Z"⟩ : MethodName)).before a0 Z = true)
    (T : Str Z h x cs) (U : Str Z h y ds) (hst : S = .ref y :: .ref x :: rest) (hsz : L.size = ml) (hW : (rest.map fun v => v.category).sum ≤ Wk) (hfr : 2 ≤ R.frames) (hlo : Wk + 28 ≤ R.locals) (hk0 : k ≤ R.cells) (hn0 : n ≤ R.slots)
    (gt : cs = ds → Go nw p l e R s m args below meth c code ml nm ret Z a0 EL own P vm h k n pc' L (.int 1 :: rest)) (gf : ¬ cs = ds → Go nw p l e R s m args below meth c code ml nm ret Z a0 EL own P vm h k n pc' L (.int 0 :: rest)) : Go nw p l e R s m args below meth c code ml nm ret Z a0 EL own P vm h k n pc L S := by
  obtain ⟨z, Cz, hz0⟩ := W.2.1
  obtain ⟨b, kb, t1, t2, t3, t4, t5, t6⟩ := T
  obtain ⟨b', kb', u1, u2, u3, u4, u5, u6⟩ := U
  refine Go.virtB (Q := fun v h' L => ((v = some (.int 1) ∧ cs = ds) ∨ (v = some (.int 0) ∧ ¬ cs = ds)) ∧ L = [] ∧ h' = h) (dk := 0) (dn := 0) (rest := rest) Wk x [.ref y] pc' hd hp t1 w1 (W.1 88 rfl) (fun s hs => notFace_of_selects (args := #[]) (mvT hs (W.1 90 rfl))) (W.1 90 rfl) (W.1 89 rfl) (by decide)
    (fun hZ hE => StrChars.Road.eqW hZ (W.sub (by decide +kernel)) (W.1 6 rfl) t1 t3 t2 t4 (StrChars.Road.codOf rfl (fun c hc => (t6 c hc).2)) (up255 t6) t5 u1 u3 u2 u4 (StrChars.Road.codOf rfl (fun c hc => (u6 c hc).2)) (up255 u6) u5 (Cz.ext hE) hz0 hfr hlo) pdE rfl hst hsz hW hk0 hn0
    (fun v h' L q => ⟨by rw [q.2.1]; exact Fr.nil _, [], by rw [q.2.2]; exact Keep.refl _ _, sf0, fun _ q => nomatch q⟩) (fun v h' L q ch => ?_)
  obtain ⟨⟨rfl, q⟩ | ⟨rfl, q⟩, rfl, rfl⟩ := q
  · exact gt q
  · exact gf q
end StrGo
end Jvm.Pilot.@@N@@
namespace Jvm.Pilot.@@N@@
open Jvm Jvm.ClassFile Sem Op Lib Jvm.Free Jvm.Stand Jvm.LawKit Jvm.RoadKit Bundle Jvm.Pilot.@@N@@.Jvm.D Jvm.Own

/-- the two constants of Decision and their names, at the start -/
def Dec (Z : State) (ap dn na nd : Addr) : Prop := Sta Z Z.heap "com/example/dormouse/dormouse/tool/Decision" "APPROVE" "Lcom/example/dormouse/dormouse/tool/Decision;" (.ref ap) ∧ Sta Z Z.heap "com/example/dormouse/dormouse/tool/Decision" "DENY" "Lcom/example/dormouse/dormouse/tool/Decision;" (.ref dn) ∧ Fld Z Z.heap ap "com/example/dormouse/dormouse/tool/Decision" "_name" "Ljava/lang/String;" (.ref na) ∧ Fld Z Z.heap dn "com/example/dormouse/dormouse/tool/Decision" "_name" "Ljava/lang/String;" (.ref nd) ∧ Str Z Z.heap na [97, 112, 112, 114, 111, 118, 101] ∧ Str Z Z.heap nd [100, 101, 110, 121]
section Start
variable {Z : State} {args : Array Value} {t a : Term} {x na : Addr} {cl : Cell} {ty : FieldType} {k : Int32} {cs : List Int32}
theorem eqInt (h : (Jvm.Cond.eq a (.int k)).value args Z none Z [] = some true) : a.eval args Z none [] Z = some (.int k) := by
  simp only [Jvm.Cond.value, Term.int_eval] at h
  cases ha : a.eval args Z none [] Z with
  | none => simp [ha] at h
  | some v =>
    rw [ha] at h
    cases v <;> simp at h
    subst h; rfl
theorem lenAt (A : RoadKit.Arr Z Z.heap x cl ty) (ht : t.eval args Z none [] Z = some (.ref x)) (h : (Term.length t).eval args Z none [] Z = some (.int k)) : cl.slots.size < 2 ^ 31 ∧ cl.slots.size.toInt32 = k := by
  have e : Z.arrayAt? x = some cl := Arr.fin (Vm.Alike.refl _) A
  simp only [Term.eval, ht, Option.bind_eq_bind, Option.bind_some, e] at h
  by_cases q : cl.slots.size < 2147483648
  · simp [q] at h
    exact ⟨q, h⟩
  · simp [q] at h
theorem getB8 (cs : List Int32) (i : Nat) : ((cs.map fun c => c.toInt8.toInt32).map Value.int).getD i (.int 0) = .int ((cs.getD i 0).toInt8.toInt32) := by
  simp only [List.getD_eq_getElem?_getD, List.getElem?_map]
  cases cs[i]? <;> rfl
theorem strStart (u : t.eval args Z none [] Z = some (.ref na)) (p1 : (Jvm.Cond.exactly t "java/lang/String").value args Z none Z [] = some true) (p2 : (Jvm.Cond.eq (.field t "java/lang/String" "coder" "B") (.int 0)).value args Z none Z [] = some true) (p3 : (Jvm.Cond.arrayOf (.field t "java/lang/String" "value" "[B") .byte).value args Z none Z [] = some true)
    (p4 : (Jvm.Cond.eq (.length (.field t "java/lang/String" "value" "[B")) (.int (Int32.ofNat cs.length))).value args Z none Z [] = some true)
    (pe : ∀ i, i < cs.length → (Jvm.Cond.eq (.elem (.field t "java/lang/String" "value" "[B") (.int (Int32.ofNat i))) (.int ((cs.getD i 0).toInt8.toInt32))).value args Z none Z [] = some true) (hl : cs.length ≤ 4000) (hb : ∀ c ∈ cs, ¬ c < 0 ∧ ¬ (255 : Int32) < c) : Str Z Z.heap na cs := by
  obtain ⟨b, w⟩ := arr_v p3
  obtain ⟨q, A⟩ := Arr.start w p3
  obtain ⟨l1, l2⟩ := lenAt A w (eqInt p4)
  have l3 : q.slots.size = cs.length := by
    have e := congrArg Int32.toInt l2
    rw [len_toInt l1, ofNat_toInt (by omega)] at e
    omega
  have hs : ∀ i, i < q.slots.size → q.slots[i]? = some (((cs.map fun c => c.toInt8.toInt32).map Value.int).getD i (.int 0)) := fun i hi => by
    have e := eqInt (pe i (by omega))
    rw [elem_f w (Term.int_eval _) (Arr.fin (Vm.Alike.refl _) A) (by rw [Int32.lt_iff_toInt_lt, ofNat_toInt (by omega)]; have e1 : (0 : Int32).toInt = 0 := rfl; omega)] at e
    have e2 : (Int32.ofNat i).toNatClampNeg = i := by
      show ((Int32.ofNat i).toInt).toNat = i
      rw [ofNat_toInt (by omega)]; omega
    rw [e2] at e
    rw [e, getB8]
  refine ⟨b, q.cls, Exa.start u p1, Fld.start ((fld_at u).symm.trans (eqInt p2)), Fld.start ((fld_at u).symm.trans w), ⟨q, A, rfl, ?_, ?_, hs, ?_⟩, hl, hb⟩
  · show q.slots.size = ((Int32.ofNat cs.length).toInt).toNat
    rw [ofNat_toInt (by omega)]; omega
  · rw [Int32.lt_iff_toInt_lt, ofNat_toInt (by omega)]; have e1 : (0 : Int32).toInt = 0 := rfl; omega
  · intro i hi
    rw [getB8]; exact fits_nar_byte _
end Start
theorem lit_ok_ : ((∀ c ∈ ("" : String).toList, c.toNat < 256) ∧ ("" : String).toList.map (fun c => Value.int (Jvm.Lit.byteI c.toNat.toUInt16)) = []) ∧ 4 * ("" : String).toList.length ≤ 0 := by decide +kernel
theorem lit_ok_Deny : ((∀ c ∈ ("Deny" : String).toList, c.toNat < 256) ∧ ("Deny" : String).toList.map (fun c => Value.int (Jvm.Lit.byteI c.toNat.toUInt16)) = [.int (68), .int (101), .int (110), .int (121)]) ∧ 4 * ("Deny" : String).toList.length ≤ 16 := by decide +kernel
theorem lit_ok_APPROVE : ((∀ c ∈ ("APPROVE" : String).toList, c.toNat < 256) ∧ ("APPROVE" : String).toList.map (fun c => Value.int (Jvm.Lit.byteI c.toNat.toUInt16)) = [.int (65), .int (80), .int (80), .int (82), .int (79), .int (86), .int (69)]) ∧ 4 * ("APPROVE" : String).toList.length ≤ 28 := by decide +kernel
theorem lit_ok_cancelled : ((∀ c ∈ ("cancelled" : String).toList, c.toNat < 256) ∧ ("cancelled" : String).toList.map (fun c => Value.int (Jvm.Lit.byteI c.toNat.toUInt16)) = [.int (99), .int (97), .int (110), .int (99), .int (101), .int (108), .int (108), .int (101), .int (100)]) ∧ 4 * ("cancelled" : String).toList.length ≤ 36 := by decide +kernel
theorem lit_ok_expired : ((∀ c ∈ ("expired" : String).toList, c.toNat < 256) ∧ ("expired" : String).toList.map (fun c => Value.int (Jvm.Lit.byteI c.toNat.toUInt16)) = [.int (101), .int (120), .int (112), .int (105), .int (114), .int (101), .int (100)]) ∧ 4 * ("expired" : String).toList.length ≤ 28 := by decide +kernel
theorem lit_ok_deny : ((∀ c ∈ ("deny" : String).toList, c.toNat < 256) ∧ ("deny" : String).toList.map (fun c => Value.int (Jvm.Lit.byteI c.toNat.toUInt16)) = [.int (100), .int (101), .int (110), .int (121)]) ∧ 4 * ("deny" : String).toList.length ≤ 16 := by decide +kernel
theorem lit_ok_approve : ((∀ c ∈ ("approve" : String).toList, c.toNat < 256) ∧ ("approve" : String).toList.map (fun c => Value.int (Jvm.Lit.byteI c.toNat.toUInt16)) = [.int (97), .int (112), .int (112), .int (114), .int (111), .int (118), .int (101)]) ∧ 4 * ("approve" : String).toList.length ≤ 28 := by decide +kernel
theorem d_m3_0 : decode method_3_code 0 = .ok (.iload_n 0, 1) := by decide +kernel
theorem d_m3_1 : decode method_3_code 1 = .ok (.ifCond .ne 6, 3) := by decide +kernel
theorem d_m3_4 : decode method_3_code 4 = .ok (.ldc 39, 2) := by decide +kernel
theorem d_m3_6 : decode method_3_code 6 = .ok (.areturn, 1) := by decide +kernel
theorem d_m3_7 : decode method_3_code 7 = .ok (.iload_n 0, 1) := by decide +kernel
theorem d_m3_8 : decode method_3_code 8 = .ok (.iconst 1, 1) := by decide +kernel
theorem d_m3_9 : decode method_3_code 9 = .ok (.if_icmp .ne 6, 3) := by decide +kernel
theorem d_m3_12 : decode method_3_code 12 = .ok (.ldc 49, 2) := by decide +kernel
theorem d_m3_14 : decode method_3_code 14 = .ok (.areturn, 1) := by decide +kernel
theorem d_m3_15 : decode method_3_code 15 = .ok (.iload_n 0, 1) := by decide +kernel
theorem d_m3_16 : decode method_3_code 16 = .ok (.iconst 2, 1) := by decide +kernel
theorem d_m3_17 : decode method_3_code 17 = .ok (.if_icmp .ne 6, 3) := by decide +kernel
theorem d_m3_20 : decode method_3_code 20 = .ok (.ldc 54, 2) := by decide +kernel
theorem d_m3_22 : decode method_3_code 22 = .ok (.areturn, 1) := by decide +kernel
theorem d_m3_23 : decode method_3_code 23 = .ok (.iload_n 0, 1) := by decide +kernel
theorem d_m3_24 : decode method_3_code 24 = .ok (.iconst 3, 1) := by decide +kernel
theorem d_m3_25 : decode method_3_code 25 = .ok (.if_icmp .ne 6, 3) := by decide +kernel
theorem d_m3_28 : decode method_3_code 28 = .ok (.ldc 56, 2) := by decide +kernel
theorem d_m3_30 : decode method_3_code 30 = .ok (.areturn, 1) := by decide +kernel
theorem d_m3_31 : decode method_3_code 31 = .ok (.iload_n 0, 1) := by decide +kernel
theorem d_m3_32 : decode method_3_code 32 = .ok (.iconst 5, 1) := by decide +kernel
theorem d_m3_33 : decode method_3_code 33 = .ok (.if_icmp .ne 6, 3) := by decide +kernel
theorem d_m3_36 : decode method_3_code 36 = .ok (.ldc 58, 2) := by decide +kernel
theorem d_m3_38 : decode method_3_code 38 = .ok (.areturn, 1) := by decide +kernel
theorem d_m3_39 : decode method_3_code 39 = .ok (.iload_n 0, 1) := by decide +kernel
theorem d_m3_40 : decode method_3_code 40 = .ok (.bipush 6, 2) := by decide +kernel
theorem d_m3_42 : decode method_3_code 42 = .ok (.if_icmp .ne 6, 3) := by decide +kernel
theorem d_m3_45 : decode method_3_code 45 = .ok (.ldc 59, 2) := by decide +kernel
theorem d_m3_47 : decode method_3_code 47 = .ok (.areturn, 1) := by decide +kernel
theorem d_m3_48 : decode method_3_code 48 = .ok (.ldc 61, 2) := by decide +kernel
theorem d_m3_50 : decode method_3_code 50 = .ok (.areturn, 1) := by decide +kernel
set_option maxRecDepth 65536 in
set_option maxHeartbeats 40000000 in
theorem cBase {l : Launch} {Z : State} {a0 : Array Value} (W : Wd Z a0)  {vm : Vm} {h : Heap} {x : Int32} :
    Ctr false l Z a0 consts_1 (⟨"com/example/dormouse/dormouse/tool/DecisionOfReviewerPinLaw", "base", "(I)Ljava/lang/String;"⟩ : MethodName) method_3_code 1 (some (.object "java/lang/String")) ({ frames := 0, cells := 2, slots := 40, locals := 0 } : Room) #[.int x] vm h (fun v vm' h' => ∃ a cs, v = some (.ref a) ∧ Ext h h' ∧ Str Z h' a cs) := by
  refine Ctr.of_go (L0 := #[.val (.int x)]) (by first | exact plainFor_of_name (by first | (simp [plainName, overriddenIn]; done) | decide +kernel) | decide +kernel) (fun m => by first | (simp [entryFrame, mkF, argsToLocals, Value.category, maxLocals]; done) | rfl) (fun p e s m below meth c vmi chi => ?_)
  refine Go.iload_n 1 d_m3_0 rfl rfl ?_
  refine Go.ifne 7 4 d_m3_1 (by decide) rfl rfl (fun q1 => ?_) (fun q1 => ?_)
  · refine Go.iload_n 8 d_m3_7 rfl rfl ?_
    refine Go.iconst (1) 9 d_m3_8 rfl rfl ?_
    refine Go.if_icmpne 15 12 d_m3_9 (by decide) rfl rfl (fun q2 => ?_) (fun q2 => ?_)
    · refine Go.iload_n 16 d_m3_15 rfl rfl ?_
      refine Go.iconst (2) 17 d_m3_16 rfl rfl ?_
      refine Go.if_icmpne 23 20 d_m3_17 (by decide) rfl rfl (fun q3 => ?_) (fun q3 => ?_)
      · refine Go.iload_n 24 d_m3_23 rfl rfl ?_
        refine Go.iconst (3) 25 d_m3_24 rfl rfl ?_
        refine Go.if_icmpne 31 28 d_m3_25 (by decide) rfl rfl (fun q4 => ?_) (fun q4 => ?_)
        · refine Go.iload_n 32 d_m3_31 rfl rfl ?_
          refine Go.iconst (5) 33 d_m3_32 rfl rfl ?_
          refine Go.if_icmpne 39 36 d_m3_33 (by decide) rfl rfl (fun q5 => ?_) (fun q5 => ?_)
          · refine Go.iload_n 40 d_m3_39 rfl rfl ?_
            refine Go.bipush (6) 42 d_m3_40 rfl rfl ?_
            refine Go.if_icmpne 48 45 d_m3_42 (by decide) rfl rfl (fun q6 => ?_) (fun q6 => ?_)
            · refine Go.ldcS (text := "") (vs := []) (z := (0 : Int32)) 0 50 d_m3_48 rfl rfl (W.1 100 rfl) (W.sub (by decide +kernel)) (by decide) lit_ok_.1 (by decide) (by decide) lit_ok_.2 (by decide) (nl rfl) (nl rfl) (fun y1 b7 k7 vm7 h7 E7 A7 C7 V7 B7 N7 c7 => ?_)
              have T7 : Str Z h7 y1 [] := ⟨b7, k7, A7, C7, V7, B7, by decide, by decide⟩
              exact Go.areturn d_m3_50 rfl rfl rfl (nl rfl) (nl rfl) (fun vm' ch => ⟨_, _, rfl, E7, T7⟩)
            · refine Go.ldcS (text := "Deny") (vs := [.int (68), .int (101), .int (110), .int (121)]) (z := (4 : Int32)) 16 47 d_m3_45 rfl rfl (W.1 106 rfl) (W.sub (by decide +kernel)) (by decide) lit_ok_Deny.1 (by decide) (by decide) lit_ok_Deny.2 (by decide) (nl rfl) (nl rfl) (fun y1 b8 k8 vm8 h8 E8 A8 C8 V8 B8 N8 c8 => ?_)
              have T8 : Str Z h8 y1 [68, 101, 110, 121] := ⟨b8, k8, A8, C8, V8, B8, by decide, by decide⟩
              exact Go.areturn d_m3_47 rfl rfl rfl (nl rfl) (nl rfl) (fun vm' ch => ⟨_, _, rfl, E8, T8⟩)
          · refine Go.ldcS (text := "APPROVE") (vs := [.int (65), .int (80), .int (80), .int (82), .int (79), .int (86), .int (69)]) (z := (7 : Int32)) 28 38 d_m3_36 rfl rfl (W.1 105 rfl) (W.sub (by decide +kernel)) (by decide) lit_ok_APPROVE.1 (by decide) (by decide) lit_ok_APPROVE.2 (by decide) (nl rfl) (nl rfl) (fun y1 b9 k9 vm9 h9 E9 A9 C9 V9 B9 N9 c9 => ?_)
            have T9 : Str Z h9 y1 [65, 80, 80, 82, 79, 86, 69] := ⟨b9, k9, A9, C9, V9, B9, by decide, by decide⟩
            exact Go.areturn d_m3_38 rfl rfl rfl (nl rfl) (nl rfl) (fun vm' ch => ⟨_, _, rfl, E9, T9⟩)
        · refine Go.ldcS (text := "cancelled") (vs := [.int (99), .int (97), .int (110), .int (99), .int (101), .int (108), .int (108), .int (101), .int (100)]) (z := (9 : Int32)) 36 30 d_m3_28 rfl rfl (W.1 103 rfl) (W.sub (by decide +kernel)) (by decide) lit_ok_cancelled.1 (by decide) (by decide) lit_ok_cancelled.2 (by decide) (nl rfl) (nl rfl) (fun y1 b10 k10 vm10 h10 E10 A10 C10 V10 B10 N10 c10 => ?_)
          have T10 : Str Z h10 y1 [99, 97, 110, 99, 101, 108, 108, 101, 100] := ⟨b10, k10, A10, C10, V10, B10, by decide, by decide⟩
          exact Go.areturn d_m3_30 rfl rfl rfl (nl rfl) (nl rfl) (fun vm' ch => ⟨_, _, rfl, E10, T10⟩)
      · refine Go.ldcS (text := "expired") (vs := [.int (101), .int (120), .int (112), .int (105), .int (114), .int (101), .int (100)]) (z := (7 : Int32)) 28 22 d_m3_20 rfl rfl (W.1 101 rfl) (W.sub (by decide +kernel)) (by decide) lit_ok_expired.1 (by decide) (by decide) lit_ok_expired.2 (by decide) (nl rfl) (nl rfl) (fun y1 b11 k11 vm11 h11 E11 A11 C11 V11 B11 N11 c11 => ?_)
        have T11 : Str Z h11 y1 [101, 120, 112, 105, 114, 101, 100] := ⟨b11, k11, A11, C11, V11, B11, by decide, by decide⟩
        exact Go.areturn d_m3_22 rfl rfl rfl (nl rfl) (nl rfl) (fun vm' ch => ⟨_, _, rfl, E11, T11⟩)
    · refine Go.ldcS (text := "deny") (vs := [.int (100), .int (101), .int (110), .int (121)]) (z := (4 : Int32)) 16 14 d_m3_12 rfl rfl (W.1 99 rfl) (W.sub (by decide +kernel)) (by decide) lit_ok_deny.1 (by decide) (by decide) lit_ok_deny.2 (by decide) (nl rfl) (nl rfl) (fun y1 b12 k12 vm12 h12 E12 A12 C12 V12 B12 N12 c12 => ?_)
      have T12 : Str Z h12 y1 [100, 101, 110, 121] := ⟨b12, k12, A12, C12, V12, B12, by decide, by decide⟩
      exact Go.areturn d_m3_14 rfl rfl rfl (nl rfl) (nl rfl) (fun vm' ch => ⟨_, _, rfl, E12, T12⟩)
  · refine Go.ldcS (text := "approve") (vs := [.int (97), .int (112), .int (112), .int (114), .int (111), .int (118), .int (101)]) (z := (7 : Int32)) 28 6 d_m3_4 rfl rfl (W.1 4 rfl) (W.sub (by decide +kernel)) (by decide) lit_ok_approve.1 (by decide) (by decide) lit_ok_approve.2 (by decide) (nl rfl) (nl rfl) (fun y1 b13 k13 vm13 h13 E13 A13 C13 V13 B13 N13 c13 => ?_)
    have T13 : Str Z h13 y1 [97, 112, 112, 114, 111, 118, 101] := ⟨b13, k13, A13, C13, V13, B13, by decide, by decide⟩
    exact Go.areturn d_m3_6 rfl rfl rfl (nl rfl) (nl rfl) (fun vm' ch => ⟨_, _, rfl, E13, T13⟩)
theorem d_jdk_29_m65_0 : decode jdk_29_method_65_code 0 = .ok (.iload_n 0, 1) := by decide +kernel
theorem d_jdk_29_m65_1 : decode jdk_29_method_65_code 1 = .ok (.iload_n 1, 1) := by decide +kernel
theorem d_jdk_29_m65_2 : decode jdk_29_method_65_code 2 = .ok (.if_icmp .lt 7, 3) := by decide +kernel
theorem d_jdk_29_m65_5 : decode jdk_29_method_65_code 5 = .ok (.iload_n 0, 1) := by decide +kernel
theorem d_jdk_29_m65_6 : decode jdk_29_method_65_code 6 = .ok (.goto 4, 3) := by decide +kernel
theorem d_jdk_29_m65_9 : decode jdk_29_method_65_code 9 = .ok (.iload_n 1, 1) := by decide +kernel
theorem d_jdk_29_m65_10 : decode jdk_29_method_65_code 10 = .ok (.ireturn, 1) := by decide +kernel
set_option maxRecDepth 65536 in
set_option maxHeartbeats 40000000 in
theorem cMax {l : Launch} {Z : State} {a0 : Array Value} (W : Wd Z a0) {EL : List (String × Nat)} {vm : Vm} {h : Heap} {nw : Bool} {x y : Int32} :
    Ctr nw l Z a0 EL (⟨"java/lang/Math", "max", "(II)I"⟩ : MethodName) jdk_29_method_65_code 2 (some .int) ({ frames := 0, cells := 0, slots := 0, locals := 0 } : Room) #[.int x, .int y] vm h (fun v vm' h' => (∃ z, v = some (.int z)) ∧ h' = h) := by
  refine Ctr.of_go (L0 := #[.val (.int x), .val (.int y)]) (by first | exact plainFor_of_name (by first | (simp [plainName, overriddenIn]; done) | decide +kernel) | decide +kernel) (fun m => by first | (simp [entryFrame, mkF, argsToLocals, Value.category, maxLocals]; done) | rfl) (fun p e s m below meth c vmi chi => ?_)
  refine Go.iload_n 1 d_jdk_29_m65_0 rfl rfl ?_
  refine Go.iload_n 2 d_jdk_29_m65_1 rfl rfl ?_
  refine Go.if_icmplt 9 5 d_jdk_29_m65_2 (by decide) rfl rfl (fun q1 => ?_) (fun q1 => ?_)
  · refine Go.iload_n 10 d_jdk_29_m65_9 rfl rfl ?_
    exact Go.ireturn d_jdk_29_m65_10 rfl rfl (by simp) (nl rfl) (nl rfl) (fun vm' ch => ⟨⟨_, rfl⟩, rfl⟩)
  · refine Go.iload_n 6 d_jdk_29_m65_5 rfl rfl ?_
    refine Go.goto 10 d_jdk_29_m65_6 (by decide) rfl ?_
    exact Go.ireturn d_jdk_29_m65_10 rfl rfl (by simp) (nl rfl) (nl rfl) (fun vm' ch => ⟨⟨_, rfl⟩, rfl⟩)
theorem d_m4_0 : decode method_4_code 0 = .ok (.iload_n 1, 1) := by decide +kernel
theorem d_m4_1 : decode method_4_code 1 = .ok (.iload_n 2, 1) := by decide +kernel
theorem d_m4_2 : decode method_4_code 2 = .ok (.if_icmp .ne 5, 3) := by decide +kernel
theorem d_m4_5 : decode method_4_code 5 = .ok (.iload_n 3, 1) := by decide +kernel
theorem d_m4_6 : decode method_4_code 6 = .ok (.ireturn, 1) := by decide +kernel
theorem d_m4_7 : decode method_4_code 7 = .ok (.iload_n 1, 1) := by decide +kernel
theorem d_m4_8 : decode method_4_code 8 = .ok (.aload_n 0, 1) := by decide +kernel
theorem d_m4_9 : decode method_4_code 9 = .ok (.invokevirtual 13, 3) := by decide +kernel
theorem d_m4_12 : decode method_4_code 12 = .ok (.if_icmp .ge 9, 3) := by decide +kernel
theorem d_m4_15 : decode method_4_code 15 = .ok (.aload_n 0, 1) := by decide +kernel
theorem d_m4_16 : decode method_4_code 16 = .ok (.iload_n 1, 1) := by decide +kernel
theorem d_m4_17 : decode method_4_code 17 = .ok (.invokevirtual 63, 3) := by decide +kernel
theorem d_m4_20 : decode method_4_code 20 = .ok (.ireturn, 1) := by decide +kernel
theorem d_m4_21 : decode method_4_code 21 = .ok (.iload_n 3, 1) := by decide +kernel
theorem d_m4_22 : decode method_4_code 22 = .ok (.ireturn, 1) := by decide +kernel
set_option maxRecDepth 65536 in
set_option maxHeartbeats 40000000 in
theorem cPick {l : Launch} {Z : State} {a0 : Array Value} (W : Wd Z a0) {EL : List (String × Nat)} {vm : Vm} {h : Heap} {nw : Bool} {a : Addr} {i : Nat} {pp cc : Int32} {cs : List Int32} (hi : i < 10) (T : Str Z h a cs) (hc : ¬ cc < 0 ∧ ¬ (255 : Int32) < cc) :
    Ctr nw l Z a0 EL (⟨"com/example/dormouse/dormouse/tool/DecisionOfReviewerPinLaw", "pick", "(Ljava/lang/String;IIC)C"⟩ : MethodName) method_4_code 4 (some .char) ({ frames := 4, cells := 0, slots := 0, locals := 53 } : Room) #[.ref a, .int (Int32.ofNat i), .int pp, .int cc] vm h (fun v vm' h' => (∃ z : Int32, v = some (.int z) ∧ ¬ z < 0 ∧ ¬ (255 : Int32) < z) ∧ h' = h) := by
  refine Ctr.of_go (L0 := #[.val (.ref a), .val (.int (Int32.ofNat i)), .val (.int pp), .val (.int cc)]) (by first | exact plainFor_of_name (by first | (simp [plainName, overriddenIn]; done) | decide +kernel) | decide +kernel) (fun m => by first | (simp [entryFrame, mkF, argsToLocals, Value.category, maxLocals]; done) | rfl) (fun p e s m below meth c vmi chi => ?_)
  refine Go.iload_n 1 d_m4_0 rfl rfl ?_
  refine Go.iload_n 2 d_m4_1 rfl rfl ?_
  refine Go.if_icmpne 7 5 d_m4_2 (by decide) rfl rfl (fun q1 => ?_) (fun q1 => ?_)
  · refine Go.iload_n 8 d_m4_7 rfl rfl ?_
    refine Go.aload_n 9 d_m4_8 rfl rfl rfl ?_
    refine goStrLen W 1 12 d_m4_9 rfl (W.1 12 rfl) T rfl rfl (nl rfl) (nl rfl) (nl rfl) (nl rfl) (nl rfl) ?_
    refine Go.if_icmpge 21 15 d_m4_12 (by decide) rfl rfl (fun ql => ?_) (fun ql => ?_)
    · refine Go.iload_n 22 d_m4_21 rfl rfl ?_
      exact Go.ireturn d_m4_22 rfl (narCv hc) (by simp) (nl rfl) (nl rfl) (fun vm' ch => ⟨⟨_, rfl, hc⟩, rfl⟩)
    · refine Go.aload_n 16 d_m4_15 rfl rfl rfl ?_
      refine Go.iload_n 17 d_m4_16 rfl rfl ?_
      have hl : i < cs.length := (ofNat_lt (by omega) (by have := T.len; omega)).mp ql
      refine goStrAt W 0 i (cs.getD i 0) 20 d_m4_17 rfl (W.1 33 rfl) T hl rfl rfl rfl rfl (nl rfl) (nl rfl) (nl rfl) (nl rfl) (nl rfl) ?_
      exact Go.ireturn d_m4_20 rfl (narCv (T.at hl)) (by simp) (nl rfl) (nl rfl) (fun vm' ch => ⟨⟨_, rfl, T.at hl⟩, rfl⟩)
  · refine Go.iload_n 6 d_m4_5 rfl rfl ?_
    exact Go.ireturn d_m4_6 rfl (narCv hc) (by simp) (nl rfl) (nl rfl) (fun vm' ch => ⟨⟨_, rfl, hc⟩, rfl⟩)
theorem d_m5_0 : decode method_5_code 0 = .ok (.iload_n 1, 1) := by decide +kernel
theorem d_m5_1 : decode method_5_code 1 = .ok (.ifCond .gt 6, 3) := by decide +kernel
theorem d_m5_4 : decode method_5_code 4 = .ok (.ldc 61, 2) := by decide +kernel
theorem d_m5_6 : decode method_5_code 6 = .ok (.areturn, 1) := by decide +kernel
theorem d_m5_7 : decode method_5_code 7 = .ok (.iload_n 1, 1) := by decide +kernel
theorem d_m5_8 : decode method_5_code 8 = .ok (.iconst 1, 1) := by decide +kernel
theorem d_m5_9 : decode method_5_code 9 = .ok (.if_icmp .ne 20, 3) := by decide +kernel
theorem d_m5_12 : decode method_5_code 12 = .ok (.new 14, 3) := by decide +kernel
theorem d_m5_15 : decode method_5_code 15 = .ok (.dup, 1) := by decide +kernel
theorem d_m5_16 : decode method_5_code 16 = .ok (.iconst 1, 1) := by decide +kernel
theorem d_m5_17 : decode method_5_code 17 = .ok (.newarray .char, 2) := by decide +kernel
theorem d_m5_19 : decode method_5_code 19 = .ok (.dup, 1) := by decide +kernel
theorem d_m5_20 : decode method_5_code 20 = .ok (.iconst 0, 1) := by decide +kernel
theorem d_m5_21 : decode method_5_code 21 = .ok (.aload_n 0, 1) := by decide +kernel
theorem d_m5_22 : decode method_5_code 22 = .ok (.iconst 0, 1) := by decide +kernel
theorem d_m5_23 : decode method_5_code 23 = .ok (.caload, 1) := by decide +kernel
theorem d_m5_24 : decode method_5_code 24 = .ok (.castore, 1) := by decide +kernel
theorem d_m5_25 : decode method_5_code 25 = .ok (.invokespecial 67, 3) := by decide +kernel
theorem d_m5_28 : decode method_5_code 28 = .ok (.areturn, 1) := by decide +kernel
theorem d_m5_29 : decode method_5_code 29 = .ok (.iload_n 1, 1) := by decide +kernel
theorem d_m5_30 : decode method_5_code 30 = .ok (.iconst 2, 1) := by decide +kernel
theorem d_m5_31 : decode method_5_code 31 = .ok (.if_icmp .ne 26, 3) := by decide +kernel
theorem d_m5_34 : decode method_5_code 34 = .ok (.new 14, 3) := by decide +kernel
theorem d_m5_37 : decode method_5_code 37 = .ok (.dup, 1) := by decide +kernel
theorem d_m5_38 : decode method_5_code 38 = .ok (.iconst 2, 1) := by decide +kernel
theorem d_m5_39 : decode method_5_code 39 = .ok (.newarray .char, 2) := by decide +kernel
theorem d_m5_41 : decode method_5_code 41 = .ok (.dup, 1) := by decide +kernel
theorem d_m5_42 : decode method_5_code 42 = .ok (.iconst 0, 1) := by decide +kernel
theorem d_m5_43 : decode method_5_code 43 = .ok (.aload_n 0, 1) := by decide +kernel
theorem d_m5_44 : decode method_5_code 44 = .ok (.iconst 0, 1) := by decide +kernel
theorem d_m5_45 : decode method_5_code 45 = .ok (.caload, 1) := by decide +kernel
theorem d_m5_46 : decode method_5_code 46 = .ok (.castore, 1) := by decide +kernel
theorem d_m5_47 : decode method_5_code 47 = .ok (.dup, 1) := by decide +kernel
theorem d_m5_48 : decode method_5_code 48 = .ok (.iconst 1, 1) := by decide +kernel
theorem d_m5_49 : decode method_5_code 49 = .ok (.aload_n 0, 1) := by decide +kernel
theorem d_m5_50 : decode method_5_code 50 = .ok (.iconst 1, 1) := by decide +kernel
theorem d_m5_51 : decode method_5_code 51 = .ok (.caload, 1) := by decide +kernel
theorem d_m5_52 : decode method_5_code 52 = .ok (.castore, 1) := by decide +kernel
theorem d_m5_53 : decode method_5_code 53 = .ok (.invokespecial 67, 3) := by decide +kernel
theorem d_m5_56 : decode method_5_code 56 = .ok (.areturn, 1) := by decide +kernel
theorem d_m5_57 : decode method_5_code 57 = .ok (.iload_n 1, 1) := by decide +kernel
theorem d_m5_58 : decode method_5_code 58 = .ok (.iconst 3, 1) := by decide +kernel
theorem d_m5_59 : decode method_5_code 59 = .ok (.if_icmp .ne 32, 3) := by decide +kernel
theorem d_m5_62 : decode method_5_code 62 = .ok (.new 14, 3) := by decide +kernel
theorem d_m5_65 : decode method_5_code 65 = .ok (.dup, 1) := by decide +kernel
theorem d_m5_66 : decode method_5_code 66 = .ok (.iconst 3, 1) := by decide +kernel
theorem d_m5_67 : decode method_5_code 67 = .ok (.newarray .char, 2) := by decide +kernel
theorem d_m5_69 : decode method_5_code 69 = .ok (.dup, 1) := by decide +kernel
theorem d_m5_70 : decode method_5_code 70 = .ok (.iconst 0, 1) := by decide +kernel
theorem d_m5_71 : decode method_5_code 71 = .ok (.aload_n 0, 1) := by decide +kernel
theorem d_m5_72 : decode method_5_code 72 = .ok (.iconst 0, 1) := by decide +kernel
theorem d_m5_73 : decode method_5_code 73 = .ok (.caload, 1) := by decide +kernel
theorem d_m5_74 : decode method_5_code 74 = .ok (.castore, 1) := by decide +kernel
theorem d_m5_75 : decode method_5_code 75 = .ok (.dup, 1) := by decide +kernel
theorem d_m5_76 : decode method_5_code 76 = .ok (.iconst 1, 1) := by decide +kernel
theorem d_m5_77 : decode method_5_code 77 = .ok (.aload_n 0, 1) := by decide +kernel
theorem d_m5_78 : decode method_5_code 78 = .ok (.iconst 1, 1) := by decide +kernel
theorem d_m5_79 : decode method_5_code 79 = .ok (.caload, 1) := by decide +kernel
theorem d_m5_80 : decode method_5_code 80 = .ok (.castore, 1) := by decide +kernel
theorem d_m5_81 : decode method_5_code 81 = .ok (.dup, 1) := by decide +kernel
theorem d_m5_82 : decode method_5_code 82 = .ok (.iconst 2, 1) := by decide +kernel
theorem d_m5_83 : decode method_5_code 83 = .ok (.aload_n 0, 1) := by decide +kernel
theorem d_m5_84 : decode method_5_code 84 = .ok (.iconst 2, 1) := by decide +kernel
theorem d_m5_85 : decode method_5_code 85 = .ok (.caload, 1) := by decide +kernel
theorem d_m5_86 : decode method_5_code 86 = .ok (.castore, 1) := by decide +kernel
theorem d_m5_87 : decode method_5_code 87 = .ok (.invokespecial 67, 3) := by decide +kernel
theorem d_m5_90 : decode method_5_code 90 = .ok (.areturn, 1) := by decide +kernel
theorem d_m5_91 : decode method_5_code 91 = .ok (.iload_n 1, 1) := by decide +kernel
theorem d_m5_92 : decode method_5_code 92 = .ok (.iconst 4, 1) := by decide +kernel
theorem d_m5_93 : decode method_5_code 93 = .ok (.if_icmp .ne 38, 3) := by decide +kernel
theorem d_m5_96 : decode method_5_code 96 = .ok (.new 14, 3) := by decide +kernel
theorem d_m5_99 : decode method_5_code 99 = .ok (.dup, 1) := by decide +kernel
theorem d_m5_100 : decode method_5_code 100 = .ok (.iconst 4, 1) := by decide +kernel
theorem d_m5_101 : decode method_5_code 101 = .ok (.newarray .char, 2) := by decide +kernel
theorem d_m5_103 : decode method_5_code 103 = .ok (.dup, 1) := by decide +kernel
theorem d_m5_104 : decode method_5_code 104 = .ok (.iconst 0, 1) := by decide +kernel
theorem d_m5_105 : decode method_5_code 105 = .ok (.aload_n 0, 1) := by decide +kernel
theorem d_m5_106 : decode method_5_code 106 = .ok (.iconst 0, 1) := by decide +kernel
theorem d_m5_107 : decode method_5_code 107 = .ok (.caload, 1) := by decide +kernel
theorem d_m5_108 : decode method_5_code 108 = .ok (.castore, 1) := by decide +kernel
theorem d_m5_109 : decode method_5_code 109 = .ok (.dup, 1) := by decide +kernel
theorem d_m5_110 : decode method_5_code 110 = .ok (.iconst 1, 1) := by decide +kernel
theorem d_m5_111 : decode method_5_code 111 = .ok (.aload_n 0, 1) := by decide +kernel
theorem d_m5_112 : decode method_5_code 112 = .ok (.iconst 1, 1) := by decide +kernel
theorem d_m5_113 : decode method_5_code 113 = .ok (.caload, 1) := by decide +kernel
theorem d_m5_114 : decode method_5_code 114 = .ok (.castore, 1) := by decide +kernel
theorem d_m5_115 : decode method_5_code 115 = .ok (.dup, 1) := by decide +kernel
theorem d_m5_116 : decode method_5_code 116 = .ok (.iconst 2, 1) := by decide +kernel
theorem d_m5_117 : decode method_5_code 117 = .ok (.aload_n 0, 1) := by decide +kernel
theorem d_m5_118 : decode method_5_code 118 = .ok (.iconst 2, 1) := by decide +kernel
theorem d_m5_119 : decode method_5_code 119 = .ok (.caload, 1) := by decide +kernel
theorem d_m5_120 : decode method_5_code 120 = .ok (.castore, 1) := by decide +kernel
theorem d_m5_121 : decode method_5_code 121 = .ok (.dup, 1) := by decide +kernel
theorem d_m5_122 : decode method_5_code 122 = .ok (.iconst 3, 1) := by decide +kernel
theorem d_m5_123 : decode method_5_code 123 = .ok (.aload_n 0, 1) := by decide +kernel
theorem d_m5_124 : decode method_5_code 124 = .ok (.iconst 3, 1) := by decide +kernel
theorem d_m5_125 : decode method_5_code 125 = .ok (.caload, 1) := by decide +kernel
theorem d_m5_126 : decode method_5_code 126 = .ok (.castore, 1) := by decide +kernel
theorem d_m5_127 : decode method_5_code 127 = .ok (.invokespecial 67, 3) := by decide +kernel
theorem d_m5_130 : decode method_5_code 130 = .ok (.areturn, 1) := by decide +kernel
theorem d_m5_131 : decode method_5_code 131 = .ok (.iload_n 1, 1) := by decide +kernel
theorem d_m5_132 : decode method_5_code 132 = .ok (.iconst 5, 1) := by decide +kernel
theorem d_m5_133 : decode method_5_code 133 = .ok (.if_icmp .ne 44, 3) := by decide +kernel
theorem d_m5_136 : decode method_5_code 136 = .ok (.new 14, 3) := by decide +kernel
theorem d_m5_139 : decode method_5_code 139 = .ok (.dup, 1) := by decide +kernel
theorem d_m5_140 : decode method_5_code 140 = .ok (.iconst 5, 1) := by decide +kernel
theorem d_m5_141 : decode method_5_code 141 = .ok (.newarray .char, 2) := by decide +kernel
theorem d_m5_143 : decode method_5_code 143 = .ok (.dup, 1) := by decide +kernel
theorem d_m5_144 : decode method_5_code 144 = .ok (.iconst 0, 1) := by decide +kernel
theorem d_m5_145 : decode method_5_code 145 = .ok (.aload_n 0, 1) := by decide +kernel
theorem d_m5_146 : decode method_5_code 146 = .ok (.iconst 0, 1) := by decide +kernel
theorem d_m5_147 : decode method_5_code 147 = .ok (.caload, 1) := by decide +kernel
theorem d_m5_148 : decode method_5_code 148 = .ok (.castore, 1) := by decide +kernel
theorem d_m5_149 : decode method_5_code 149 = .ok (.dup, 1) := by decide +kernel
theorem d_m5_150 : decode method_5_code 150 = .ok (.iconst 1, 1) := by decide +kernel
theorem d_m5_151 : decode method_5_code 151 = .ok (.aload_n 0, 1) := by decide +kernel
theorem d_m5_152 : decode method_5_code 152 = .ok (.iconst 1, 1) := by decide +kernel
theorem d_m5_153 : decode method_5_code 153 = .ok (.caload, 1) := by decide +kernel
theorem d_m5_154 : decode method_5_code 154 = .ok (.castore, 1) := by decide +kernel
theorem d_m5_155 : decode method_5_code 155 = .ok (.dup, 1) := by decide +kernel
theorem d_m5_156 : decode method_5_code 156 = .ok (.iconst 2, 1) := by decide +kernel
theorem d_m5_157 : decode method_5_code 157 = .ok (.aload_n 0, 1) := by decide +kernel
theorem d_m5_158 : decode method_5_code 158 = .ok (.iconst 2, 1) := by decide +kernel
theorem d_m5_159 : decode method_5_code 159 = .ok (.caload, 1) := by decide +kernel
theorem d_m5_160 : decode method_5_code 160 = .ok (.castore, 1) := by decide +kernel
theorem d_m5_161 : decode method_5_code 161 = .ok (.dup, 1) := by decide +kernel
theorem d_m5_162 : decode method_5_code 162 = .ok (.iconst 3, 1) := by decide +kernel
theorem d_m5_163 : decode method_5_code 163 = .ok (.aload_n 0, 1) := by decide +kernel
theorem d_m5_164 : decode method_5_code 164 = .ok (.iconst 3, 1) := by decide +kernel
theorem d_m5_165 : decode method_5_code 165 = .ok (.caload, 1) := by decide +kernel
theorem d_m5_166 : decode method_5_code 166 = .ok (.castore, 1) := by decide +kernel
theorem d_m5_167 : decode method_5_code 167 = .ok (.dup, 1) := by decide +kernel
theorem d_m5_168 : decode method_5_code 168 = .ok (.iconst 4, 1) := by decide +kernel
theorem d_m5_169 : decode method_5_code 169 = .ok (.aload_n 0, 1) := by decide +kernel
theorem d_m5_170 : decode method_5_code 170 = .ok (.iconst 4, 1) := by decide +kernel
theorem d_m5_171 : decode method_5_code 171 = .ok (.caload, 1) := by decide +kernel
theorem d_m5_172 : decode method_5_code 172 = .ok (.castore, 1) := by decide +kernel
theorem d_m5_173 : decode method_5_code 173 = .ok (.invokespecial 67, 3) := by decide +kernel
theorem d_m5_176 : decode method_5_code 176 = .ok (.areturn, 1) := by decide +kernel
theorem d_m5_177 : decode method_5_code 177 = .ok (.iload_n 1, 1) := by decide +kernel
theorem d_m5_178 : decode method_5_code 178 = .ok (.bipush 6, 2) := by decide +kernel
theorem d_m5_180 : decode method_5_code 180 = .ok (.if_icmp .ne 51, 3) := by decide +kernel
theorem d_m5_183 : decode method_5_code 183 = .ok (.new 14, 3) := by decide +kernel
theorem d_m5_186 : decode method_5_code 186 = .ok (.dup, 1) := by decide +kernel
theorem d_m5_187 : decode method_5_code 187 = .ok (.bipush 6, 2) := by decide +kernel
theorem d_m5_189 : decode method_5_code 189 = .ok (.newarray .char, 2) := by decide +kernel
theorem d_m5_191 : decode method_5_code 191 = .ok (.dup, 1) := by decide +kernel
theorem d_m5_192 : decode method_5_code 192 = .ok (.iconst 0, 1) := by decide +kernel
theorem d_m5_193 : decode method_5_code 193 = .ok (.aload_n 0, 1) := by decide +kernel
theorem d_m5_194 : decode method_5_code 194 = .ok (.iconst 0, 1) := by decide +kernel
theorem d_m5_195 : decode method_5_code 195 = .ok (.caload, 1) := by decide +kernel
theorem d_m5_196 : decode method_5_code 196 = .ok (.castore, 1) := by decide +kernel
theorem d_m5_197 : decode method_5_code 197 = .ok (.dup, 1) := by decide +kernel
theorem d_m5_198 : decode method_5_code 198 = .ok (.iconst 1, 1) := by decide +kernel
theorem d_m5_199 : decode method_5_code 199 = .ok (.aload_n 0, 1) := by decide +kernel
theorem d_m5_200 : decode method_5_code 200 = .ok (.iconst 1, 1) := by decide +kernel
theorem d_m5_201 : decode method_5_code 201 = .ok (.caload, 1) := by decide +kernel
theorem d_m5_202 : decode method_5_code 202 = .ok (.castore, 1) := by decide +kernel
theorem d_m5_203 : decode method_5_code 203 = .ok (.dup, 1) := by decide +kernel
theorem d_m5_204 : decode method_5_code 204 = .ok (.iconst 2, 1) := by decide +kernel
theorem d_m5_205 : decode method_5_code 205 = .ok (.aload_n 0, 1) := by decide +kernel
theorem d_m5_206 : decode method_5_code 206 = .ok (.iconst 2, 1) := by decide +kernel
theorem d_m5_207 : decode method_5_code 207 = .ok (.caload, 1) := by decide +kernel
theorem d_m5_208 : decode method_5_code 208 = .ok (.castore, 1) := by decide +kernel
theorem d_m5_209 : decode method_5_code 209 = .ok (.dup, 1) := by decide +kernel
theorem d_m5_210 : decode method_5_code 210 = .ok (.iconst 3, 1) := by decide +kernel
theorem d_m5_211 : decode method_5_code 211 = .ok (.aload_n 0, 1) := by decide +kernel
theorem d_m5_212 : decode method_5_code 212 = .ok (.iconst 3, 1) := by decide +kernel
theorem d_m5_213 : decode method_5_code 213 = .ok (.caload, 1) := by decide +kernel
theorem d_m5_214 : decode method_5_code 214 = .ok (.castore, 1) := by decide +kernel
theorem d_m5_215 : decode method_5_code 215 = .ok (.dup, 1) := by decide +kernel
theorem d_m5_216 : decode method_5_code 216 = .ok (.iconst 4, 1) := by decide +kernel
theorem d_m5_217 : decode method_5_code 217 = .ok (.aload_n 0, 1) := by decide +kernel
theorem d_m5_218 : decode method_5_code 218 = .ok (.iconst 4, 1) := by decide +kernel
theorem d_m5_219 : decode method_5_code 219 = .ok (.caload, 1) := by decide +kernel
theorem d_m5_220 : decode method_5_code 220 = .ok (.castore, 1) := by decide +kernel
theorem d_m5_221 : decode method_5_code 221 = .ok (.dup, 1) := by decide +kernel
theorem d_m5_222 : decode method_5_code 222 = .ok (.iconst 5, 1) := by decide +kernel
theorem d_m5_223 : decode method_5_code 223 = .ok (.aload_n 0, 1) := by decide +kernel
theorem d_m5_224 : decode method_5_code 224 = .ok (.iconst 5, 1) := by decide +kernel
theorem d_m5_225 : decode method_5_code 225 = .ok (.caload, 1) := by decide +kernel
theorem d_m5_226 : decode method_5_code 226 = .ok (.castore, 1) := by decide +kernel
theorem d_m5_227 : decode method_5_code 227 = .ok (.invokespecial 67, 3) := by decide +kernel
theorem d_m5_230 : decode method_5_code 230 = .ok (.areturn, 1) := by decide +kernel
theorem d_m5_231 : decode method_5_code 231 = .ok (.iload_n 1, 1) := by decide +kernel
theorem d_m5_232 : decode method_5_code 232 = .ok (.bipush 7, 2) := by decide +kernel
theorem d_m5_234 : decode method_5_code 234 = .ok (.if_icmp .ne 59, 3) := by decide +kernel
theorem d_m5_237 : decode method_5_code 237 = .ok (.new 14, 3) := by decide +kernel
theorem d_m5_240 : decode method_5_code 240 = .ok (.dup, 1) := by decide +kernel
theorem d_m5_241 : decode method_5_code 241 = .ok (.bipush 7, 2) := by decide +kernel
theorem d_m5_243 : decode method_5_code 243 = .ok (.newarray .char, 2) := by decide +kernel
theorem d_m5_245 : decode method_5_code 245 = .ok (.dup, 1) := by decide +kernel
theorem d_m5_246 : decode method_5_code 246 = .ok (.iconst 0, 1) := by decide +kernel
theorem d_m5_247 : decode method_5_code 247 = .ok (.aload_n 0, 1) := by decide +kernel
theorem d_m5_248 : decode method_5_code 248 = .ok (.iconst 0, 1) := by decide +kernel
theorem d_m5_249 : decode method_5_code 249 = .ok (.caload, 1) := by decide +kernel
theorem d_m5_250 : decode method_5_code 250 = .ok (.castore, 1) := by decide +kernel
theorem d_m5_251 : decode method_5_code 251 = .ok (.dup, 1) := by decide +kernel
theorem d_m5_252 : decode method_5_code 252 = .ok (.iconst 1, 1) := by decide +kernel
theorem d_m5_253 : decode method_5_code 253 = .ok (.aload_n 0, 1) := by decide +kernel
theorem d_m5_254 : decode method_5_code 254 = .ok (.iconst 1, 1) := by decide +kernel
theorem d_m5_255 : decode method_5_code 255 = .ok (.caload, 1) := by decide +kernel
theorem d_m5_256 : decode method_5_code 256 = .ok (.castore, 1) := by decide +kernel
theorem d_m5_257 : decode method_5_code 257 = .ok (.dup, 1) := by decide +kernel
theorem d_m5_258 : decode method_5_code 258 = .ok (.iconst 2, 1) := by decide +kernel
theorem d_m5_259 : decode method_5_code 259 = .ok (.aload_n 0, 1) := by decide +kernel
theorem d_m5_260 : decode method_5_code 260 = .ok (.iconst 2, 1) := by decide +kernel
theorem d_m5_261 : decode method_5_code 261 = .ok (.caload, 1) := by decide +kernel
theorem d_m5_262 : decode method_5_code 262 = .ok (.castore, 1) := by decide +kernel
theorem d_m5_263 : decode method_5_code 263 = .ok (.dup, 1) := by decide +kernel
theorem d_m5_264 : decode method_5_code 264 = .ok (.iconst 3, 1) := by decide +kernel
theorem d_m5_265 : decode method_5_code 265 = .ok (.aload_n 0, 1) := by decide +kernel
theorem d_m5_266 : decode method_5_code 266 = .ok (.iconst 3, 1) := by decide +kernel
theorem d_m5_267 : decode method_5_code 267 = .ok (.caload, 1) := by decide +kernel
theorem d_m5_268 : decode method_5_code 268 = .ok (.castore, 1) := by decide +kernel
theorem d_m5_269 : decode method_5_code 269 = .ok (.dup, 1) := by decide +kernel
theorem d_m5_270 : decode method_5_code 270 = .ok (.iconst 4, 1) := by decide +kernel
theorem d_m5_271 : decode method_5_code 271 = .ok (.aload_n 0, 1) := by decide +kernel
theorem d_m5_272 : decode method_5_code 272 = .ok (.iconst 4, 1) := by decide +kernel
theorem d_m5_273 : decode method_5_code 273 = .ok (.caload, 1) := by decide +kernel
theorem d_m5_274 : decode method_5_code 274 = .ok (.castore, 1) := by decide +kernel
theorem d_m5_275 : decode method_5_code 275 = .ok (.dup, 1) := by decide +kernel
theorem d_m5_276 : decode method_5_code 276 = .ok (.iconst 5, 1) := by decide +kernel
theorem d_m5_277 : decode method_5_code 277 = .ok (.aload_n 0, 1) := by decide +kernel
theorem d_m5_278 : decode method_5_code 278 = .ok (.iconst 5, 1) := by decide +kernel
theorem d_m5_279 : decode method_5_code 279 = .ok (.caload, 1) := by decide +kernel
theorem d_m5_280 : decode method_5_code 280 = .ok (.castore, 1) := by decide +kernel
theorem d_m5_281 : decode method_5_code 281 = .ok (.dup, 1) := by decide +kernel
theorem d_m5_282 : decode method_5_code 282 = .ok (.bipush 6, 2) := by decide +kernel
theorem d_m5_284 : decode method_5_code 284 = .ok (.aload_n 0, 1) := by decide +kernel
theorem d_m5_285 : decode method_5_code 285 = .ok (.bipush 6, 2) := by decide +kernel
theorem d_m5_287 : decode method_5_code 287 = .ok (.caload, 1) := by decide +kernel
theorem d_m5_288 : decode method_5_code 288 = .ok (.castore, 1) := by decide +kernel
theorem d_m5_289 : decode method_5_code 289 = .ok (.invokespecial 67, 3) := by decide +kernel
theorem d_m5_292 : decode method_5_code 292 = .ok (.areturn, 1) := by decide +kernel
theorem d_m5_293 : decode method_5_code 293 = .ok (.iload_n 1, 1) := by decide +kernel
theorem d_m5_294 : decode method_5_code 294 = .ok (.bipush 8, 2) := by decide +kernel
theorem d_m5_296 : decode method_5_code 296 = .ok (.if_icmp .ne 67, 3) := by decide +kernel
theorem d_m5_299 : decode method_5_code 299 = .ok (.new 14, 3) := by decide +kernel
theorem d_m5_302 : decode method_5_code 302 = .ok (.dup, 1) := by decide +kernel
theorem d_m5_303 : decode method_5_code 303 = .ok (.bipush 8, 2) := by decide +kernel
theorem d_m5_305 : decode method_5_code 305 = .ok (.newarray .char, 2) := by decide +kernel
theorem d_m5_307 : decode method_5_code 307 = .ok (.dup, 1) := by decide +kernel
theorem d_m5_308 : decode method_5_code 308 = .ok (.iconst 0, 1) := by decide +kernel
theorem d_m5_309 : decode method_5_code 309 = .ok (.aload_n 0, 1) := by decide +kernel
theorem d_m5_310 : decode method_5_code 310 = .ok (.iconst 0, 1) := by decide +kernel
theorem d_m5_311 : decode method_5_code 311 = .ok (.caload, 1) := by decide +kernel
theorem d_m5_312 : decode method_5_code 312 = .ok (.castore, 1) := by decide +kernel
theorem d_m5_313 : decode method_5_code 313 = .ok (.dup, 1) := by decide +kernel
theorem d_m5_314 : decode method_5_code 314 = .ok (.iconst 1, 1) := by decide +kernel
theorem d_m5_315 : decode method_5_code 315 = .ok (.aload_n 0, 1) := by decide +kernel
theorem d_m5_316 : decode method_5_code 316 = .ok (.iconst 1, 1) := by decide +kernel
theorem d_m5_317 : decode method_5_code 317 = .ok (.caload, 1) := by decide +kernel
theorem d_m5_318 : decode method_5_code 318 = .ok (.castore, 1) := by decide +kernel
theorem d_m5_319 : decode method_5_code 319 = .ok (.dup, 1) := by decide +kernel
theorem d_m5_320 : decode method_5_code 320 = .ok (.iconst 2, 1) := by decide +kernel
theorem d_m5_321 : decode method_5_code 321 = .ok (.aload_n 0, 1) := by decide +kernel
theorem d_m5_322 : decode method_5_code 322 = .ok (.iconst 2, 1) := by decide +kernel
theorem d_m5_323 : decode method_5_code 323 = .ok (.caload, 1) := by decide +kernel
theorem d_m5_324 : decode method_5_code 324 = .ok (.castore, 1) := by decide +kernel
theorem d_m5_325 : decode method_5_code 325 = .ok (.dup, 1) := by decide +kernel
theorem d_m5_326 : decode method_5_code 326 = .ok (.iconst 3, 1) := by decide +kernel
theorem d_m5_327 : decode method_5_code 327 = .ok (.aload_n 0, 1) := by decide +kernel
theorem d_m5_328 : decode method_5_code 328 = .ok (.iconst 3, 1) := by decide +kernel
theorem d_m5_329 : decode method_5_code 329 = .ok (.caload, 1) := by decide +kernel
theorem d_m5_330 : decode method_5_code 330 = .ok (.castore, 1) := by decide +kernel
theorem d_m5_331 : decode method_5_code 331 = .ok (.dup, 1) := by decide +kernel
theorem d_m5_332 : decode method_5_code 332 = .ok (.iconst 4, 1) := by decide +kernel
theorem d_m5_333 : decode method_5_code 333 = .ok (.aload_n 0, 1) := by decide +kernel
theorem d_m5_334 : decode method_5_code 334 = .ok (.iconst 4, 1) := by decide +kernel
theorem d_m5_335 : decode method_5_code 335 = .ok (.caload, 1) := by decide +kernel
theorem d_m5_336 : decode method_5_code 336 = .ok (.castore, 1) := by decide +kernel
theorem d_m5_337 : decode method_5_code 337 = .ok (.dup, 1) := by decide +kernel
theorem d_m5_338 : decode method_5_code 338 = .ok (.iconst 5, 1) := by decide +kernel
theorem d_m5_339 : decode method_5_code 339 = .ok (.aload_n 0, 1) := by decide +kernel
theorem d_m5_340 : decode method_5_code 340 = .ok (.iconst 5, 1) := by decide +kernel
theorem d_m5_341 : decode method_5_code 341 = .ok (.caload, 1) := by decide +kernel
theorem d_m5_342 : decode method_5_code 342 = .ok (.castore, 1) := by decide +kernel
theorem d_m5_343 : decode method_5_code 343 = .ok (.dup, 1) := by decide +kernel
theorem d_m5_344 : decode method_5_code 344 = .ok (.bipush 6, 2) := by decide +kernel
theorem d_m5_346 : decode method_5_code 346 = .ok (.aload_n 0, 1) := by decide +kernel
theorem d_m5_347 : decode method_5_code 347 = .ok (.bipush 6, 2) := by decide +kernel
theorem d_m5_349 : decode method_5_code 349 = .ok (.caload, 1) := by decide +kernel
theorem d_m5_350 : decode method_5_code 350 = .ok (.castore, 1) := by decide +kernel
theorem d_m5_351 : decode method_5_code 351 = .ok (.dup, 1) := by decide +kernel
theorem d_m5_352 : decode method_5_code 352 = .ok (.bipush 7, 2) := by decide +kernel
theorem d_m5_354 : decode method_5_code 354 = .ok (.aload_n 0, 1) := by decide +kernel
theorem d_m5_355 : decode method_5_code 355 = .ok (.bipush 7, 2) := by decide +kernel
theorem d_m5_357 : decode method_5_code 357 = .ok (.caload, 1) := by decide +kernel
theorem d_m5_358 : decode method_5_code 358 = .ok (.castore, 1) := by decide +kernel
theorem d_m5_359 : decode method_5_code 359 = .ok (.invokespecial 67, 3) := by decide +kernel
theorem d_m5_362 : decode method_5_code 362 = .ok (.areturn, 1) := by decide +kernel
theorem d_m5_363 : decode method_5_code 363 = .ok (.iload_n 1, 1) := by decide +kernel
theorem d_m5_364 : decode method_5_code 364 = .ok (.bipush 9, 2) := by decide +kernel
theorem d_m5_366 : decode method_5_code 366 = .ok (.if_icmp .ne 75, 3) := by decide +kernel
theorem d_m5_369 : decode method_5_code 369 = .ok (.new 14, 3) := by decide +kernel
theorem d_m5_372 : decode method_5_code 372 = .ok (.dup, 1) := by decide +kernel
theorem d_m5_373 : decode method_5_code 373 = .ok (.bipush 9, 2) := by decide +kernel
theorem d_m5_375 : decode method_5_code 375 = .ok (.newarray .char, 2) := by decide +kernel
theorem d_m5_377 : decode method_5_code 377 = .ok (.dup, 1) := by decide +kernel
theorem d_m5_378 : decode method_5_code 378 = .ok (.iconst 0, 1) := by decide +kernel
theorem d_m5_379 : decode method_5_code 379 = .ok (.aload_n 0, 1) := by decide +kernel
theorem d_m5_380 : decode method_5_code 380 = .ok (.iconst 0, 1) := by decide +kernel
theorem d_m5_381 : decode method_5_code 381 = .ok (.caload, 1) := by decide +kernel
theorem d_m5_382 : decode method_5_code 382 = .ok (.castore, 1) := by decide +kernel
theorem d_m5_383 : decode method_5_code 383 = .ok (.dup, 1) := by decide +kernel
theorem d_m5_384 : decode method_5_code 384 = .ok (.iconst 1, 1) := by decide +kernel
theorem d_m5_385 : decode method_5_code 385 = .ok (.aload_n 0, 1) := by decide +kernel
theorem d_m5_386 : decode method_5_code 386 = .ok (.iconst 1, 1) := by decide +kernel
theorem d_m5_387 : decode method_5_code 387 = .ok (.caload, 1) := by decide +kernel
theorem d_m5_388 : decode method_5_code 388 = .ok (.castore, 1) := by decide +kernel
theorem d_m5_389 : decode method_5_code 389 = .ok (.dup, 1) := by decide +kernel
theorem d_m5_390 : decode method_5_code 390 = .ok (.iconst 2, 1) := by decide +kernel
theorem d_m5_391 : decode method_5_code 391 = .ok (.aload_n 0, 1) := by decide +kernel
theorem d_m5_392 : decode method_5_code 392 = .ok (.iconst 2, 1) := by decide +kernel
theorem d_m5_393 : decode method_5_code 393 = .ok (.caload, 1) := by decide +kernel
theorem d_m5_394 : decode method_5_code 394 = .ok (.castore, 1) := by decide +kernel
theorem d_m5_395 : decode method_5_code 395 = .ok (.dup, 1) := by decide +kernel
theorem d_m5_396 : decode method_5_code 396 = .ok (.iconst 3, 1) := by decide +kernel
theorem d_m5_397 : decode method_5_code 397 = .ok (.aload_n 0, 1) := by decide +kernel
theorem d_m5_398 : decode method_5_code 398 = .ok (.iconst 3, 1) := by decide +kernel
theorem d_m5_399 : decode method_5_code 399 = .ok (.caload, 1) := by decide +kernel
theorem d_m5_400 : decode method_5_code 400 = .ok (.castore, 1) := by decide +kernel
theorem d_m5_401 : decode method_5_code 401 = .ok (.dup, 1) := by decide +kernel
theorem d_m5_402 : decode method_5_code 402 = .ok (.iconst 4, 1) := by decide +kernel
theorem d_m5_403 : decode method_5_code 403 = .ok (.aload_n 0, 1) := by decide +kernel
theorem d_m5_404 : decode method_5_code 404 = .ok (.iconst 4, 1) := by decide +kernel
theorem d_m5_405 : decode method_5_code 405 = .ok (.caload, 1) := by decide +kernel
theorem d_m5_406 : decode method_5_code 406 = .ok (.castore, 1) := by decide +kernel
theorem d_m5_407 : decode method_5_code 407 = .ok (.dup, 1) := by decide +kernel
theorem d_m5_408 : decode method_5_code 408 = .ok (.iconst 5, 1) := by decide +kernel
theorem d_m5_409 : decode method_5_code 409 = .ok (.aload_n 0, 1) := by decide +kernel
theorem d_m5_410 : decode method_5_code 410 = .ok (.iconst 5, 1) := by decide +kernel
theorem d_m5_411 : decode method_5_code 411 = .ok (.caload, 1) := by decide +kernel
theorem d_m5_412 : decode method_5_code 412 = .ok (.castore, 1) := by decide +kernel
theorem d_m5_413 : decode method_5_code 413 = .ok (.dup, 1) := by decide +kernel
theorem d_m5_414 : decode method_5_code 414 = .ok (.bipush 6, 2) := by decide +kernel
theorem d_m5_416 : decode method_5_code 416 = .ok (.aload_n 0, 1) := by decide +kernel
theorem d_m5_417 : decode method_5_code 417 = .ok (.bipush 6, 2) := by decide +kernel
theorem d_m5_419 : decode method_5_code 419 = .ok (.caload, 1) := by decide +kernel
theorem d_m5_420 : decode method_5_code 420 = .ok (.castore, 1) := by decide +kernel
theorem d_m5_421 : decode method_5_code 421 = .ok (.dup, 1) := by decide +kernel
theorem d_m5_422 : decode method_5_code 422 = .ok (.bipush 7, 2) := by decide +kernel
theorem d_m5_424 : decode method_5_code 424 = .ok (.aload_n 0, 1) := by decide +kernel
theorem d_m5_425 : decode method_5_code 425 = .ok (.bipush 7, 2) := by decide +kernel
theorem d_m5_427 : decode method_5_code 427 = .ok (.caload, 1) := by decide +kernel
theorem d_m5_428 : decode method_5_code 428 = .ok (.castore, 1) := by decide +kernel
theorem d_m5_429 : decode method_5_code 429 = .ok (.dup, 1) := by decide +kernel
theorem d_m5_430 : decode method_5_code 430 = .ok (.bipush 8, 2) := by decide +kernel
theorem d_m5_432 : decode method_5_code 432 = .ok (.aload_n 0, 1) := by decide +kernel
theorem d_m5_433 : decode method_5_code 433 = .ok (.bipush 8, 2) := by decide +kernel
theorem d_m5_435 : decode method_5_code 435 = .ok (.caload, 1) := by decide +kernel
theorem d_m5_436 : decode method_5_code 436 = .ok (.castore, 1) := by decide +kernel
theorem d_m5_437 : decode method_5_code 437 = .ok (.invokespecial 67, 3) := by decide +kernel
theorem d_m5_440 : decode method_5_code 440 = .ok (.areturn, 1) := by decide +kernel
theorem d_m5_441 : decode method_5_code 441 = .ok (.new 14, 3) := by decide +kernel
theorem d_m5_444 : decode method_5_code 444 = .ok (.dup, 1) := by decide +kernel
theorem d_m5_445 : decode method_5_code 445 = .ok (.bipush 10, 2) := by decide +kernel
theorem d_m5_447 : decode method_5_code 447 = .ok (.newarray .char, 2) := by decide +kernel
theorem d_m5_449 : decode method_5_code 449 = .ok (.dup, 1) := by decide +kernel
theorem d_m5_450 : decode method_5_code 450 = .ok (.iconst 0, 1) := by decide +kernel
theorem d_m5_451 : decode method_5_code 451 = .ok (.aload_n 0, 1) := by decide +kernel
theorem d_m5_452 : decode method_5_code 452 = .ok (.iconst 0, 1) := by decide +kernel
theorem d_m5_453 : decode method_5_code 453 = .ok (.caload, 1) := by decide +kernel
theorem d_m5_454 : decode method_5_code 454 = .ok (.castore, 1) := by decide +kernel
theorem d_m5_455 : decode method_5_code 455 = .ok (.dup, 1) := by decide +kernel
theorem d_m5_456 : decode method_5_code 456 = .ok (.iconst 1, 1) := by decide +kernel
theorem d_m5_457 : decode method_5_code 457 = .ok (.aload_n 0, 1) := by decide +kernel
theorem d_m5_458 : decode method_5_code 458 = .ok (.iconst 1, 1) := by decide +kernel
theorem d_m5_459 : decode method_5_code 459 = .ok (.caload, 1) := by decide +kernel
theorem d_m5_460 : decode method_5_code 460 = .ok (.castore, 1) := by decide +kernel
theorem d_m5_461 : decode method_5_code 461 = .ok (.dup, 1) := by decide +kernel
theorem d_m5_462 : decode method_5_code 462 = .ok (.iconst 2, 1) := by decide +kernel
theorem d_m5_463 : decode method_5_code 463 = .ok (.aload_n 0, 1) := by decide +kernel
theorem d_m5_464 : decode method_5_code 464 = .ok (.iconst 2, 1) := by decide +kernel
theorem d_m5_465 : decode method_5_code 465 = .ok (.caload, 1) := by decide +kernel
theorem d_m5_466 : decode method_5_code 466 = .ok (.castore, 1) := by decide +kernel
theorem d_m5_467 : decode method_5_code 467 = .ok (.dup, 1) := by decide +kernel
theorem d_m5_468 : decode method_5_code 468 = .ok (.iconst 3, 1) := by decide +kernel
theorem d_m5_469 : decode method_5_code 469 = .ok (.aload_n 0, 1) := by decide +kernel
theorem d_m5_470 : decode method_5_code 470 = .ok (.iconst 3, 1) := by decide +kernel
theorem d_m5_471 : decode method_5_code 471 = .ok (.caload, 1) := by decide +kernel
theorem d_m5_472 : decode method_5_code 472 = .ok (.castore, 1) := by decide +kernel
theorem d_m5_473 : decode method_5_code 473 = .ok (.dup, 1) := by decide +kernel
theorem d_m5_474 : decode method_5_code 474 = .ok (.iconst 4, 1) := by decide +kernel
theorem d_m5_475 : decode method_5_code 475 = .ok (.aload_n 0, 1) := by decide +kernel
theorem d_m5_476 : decode method_5_code 476 = .ok (.iconst 4, 1) := by decide +kernel
theorem d_m5_477 : decode method_5_code 477 = .ok (.caload, 1) := by decide +kernel
theorem d_m5_478 : decode method_5_code 478 = .ok (.castore, 1) := by decide +kernel
theorem d_m5_479 : decode method_5_code 479 = .ok (.dup, 1) := by decide +kernel
theorem d_m5_480 : decode method_5_code 480 = .ok (.iconst 5, 1) := by decide +kernel
theorem d_m5_481 : decode method_5_code 481 = .ok (.aload_n 0, 1) := by decide +kernel
theorem d_m5_482 : decode method_5_code 482 = .ok (.iconst 5, 1) := by decide +kernel
theorem d_m5_483 : decode method_5_code 483 = .ok (.caload, 1) := by decide +kernel
theorem d_m5_484 : decode method_5_code 484 = .ok (.castore, 1) := by decide +kernel
theorem d_m5_485 : decode method_5_code 485 = .ok (.dup, 1) := by decide +kernel
theorem d_m5_486 : decode method_5_code 486 = .ok (.bipush 6, 2) := by decide +kernel
theorem d_m5_488 : decode method_5_code 488 = .ok (.aload_n 0, 1) := by decide +kernel
theorem d_m5_489 : decode method_5_code 489 = .ok (.bipush 6, 2) := by decide +kernel
theorem d_m5_491 : decode method_5_code 491 = .ok (.caload, 1) := by decide +kernel
theorem d_m5_492 : decode method_5_code 492 = .ok (.castore, 1) := by decide +kernel
theorem d_m5_493 : decode method_5_code 493 = .ok (.dup, 1) := by decide +kernel
theorem d_m5_494 : decode method_5_code 494 = .ok (.bipush 7, 2) := by decide +kernel
theorem d_m5_496 : decode method_5_code 496 = .ok (.aload_n 0, 1) := by decide +kernel
theorem d_m5_497 : decode method_5_code 497 = .ok (.bipush 7, 2) := by decide +kernel
theorem d_m5_499 : decode method_5_code 499 = .ok (.caload, 1) := by decide +kernel
theorem d_m5_500 : decode method_5_code 500 = .ok (.castore, 1) := by decide +kernel
theorem d_m5_501 : decode method_5_code 501 = .ok (.dup, 1) := by decide +kernel
theorem d_m5_502 : decode method_5_code 502 = .ok (.bipush 8, 2) := by decide +kernel
theorem d_m5_504 : decode method_5_code 504 = .ok (.aload_n 0, 1) := by decide +kernel
theorem d_m5_505 : decode method_5_code 505 = .ok (.bipush 8, 2) := by decide +kernel
theorem d_m5_507 : decode method_5_code 507 = .ok (.caload, 1) := by decide +kernel
theorem d_m5_508 : decode method_5_code 508 = .ok (.castore, 1) := by decide +kernel
theorem d_m5_509 : decode method_5_code 509 = .ok (.dup, 1) := by decide +kernel
theorem d_m5_510 : decode method_5_code 510 = .ok (.bipush 9, 2) := by decide +kernel
theorem d_m5_512 : decode method_5_code 512 = .ok (.aload_n 0, 1) := by decide +kernel
theorem d_m5_513 : decode method_5_code 513 = .ok (.bipush 9, 2) := by decide +kernel
theorem d_m5_515 : decode method_5_code 515 = .ok (.caload, 1) := by decide +kernel
theorem d_m5_516 : decode method_5_code 516 = .ok (.castore, 1) := by decide +kernel
theorem d_m5_517 : decode method_5_code 517 = .ok (.invokespecial 67, 3) := by decide +kernel
theorem d_m5_520 : decode method_5_code 520 = .ok (.areturn, 1) := by decide +kernel
set_option maxRecDepth 65536 in
set_option maxHeartbeats 40000000 in
theorem cCut {l : Launch} {Z : State} {a0 : Array Value} (W : Wd Z a0)  {vm : Vm} {h : Heap} {a : Addr} {n_ : Int32} {kA : ClassId} {x0_ x1_ x2_ x3_ x4_ x5_ x6_ x7_ x8_ x9_ : Int32} (A : Arv Z h a kA .char (10 : Int32) [.int x0_, .int x1_, .int x2_, .int x3_, .int x4_, .int x5_, .int x6_, .int x7_, .int x8_, .int x9_] (.int 0)) (bx0_ : ¬ x0_ < 0 ∧ ¬ (255 : Int32) < x0_) (bx1_ : ¬ x1_ < 0 ∧ ¬ (255 : Int32) < x1_) (bx2_ : ¬ x2_ < 0 ∧ ¬ (255 : Int32) < x2_) (bx3_ : ¬ x3_ < 0 ∧ ¬ (255 : Int32) < x3_) (bx4_ : ¬ x4_ < 0 ∧ ¬ (255 : Int32) < x4_) (bx5_ : ¬ x5_ < 0 ∧ ¬ (255 : Int32) < x5_) (bx6_ : ¬ x6_ < 0 ∧ ¬ (255 : Int32) < x6_) (bx7_ : ¬ x7_ < 0 ∧ ¬ (255 : Int32) < x7_) (bx8_ : ¬ x8_ < 0 ∧ ¬ (255 : Int32) < x8_) (bx9_ : ¬ x9_ < 0 ∧ ¬ (255 : Int32) < x9_) :
    Ctr false l Z a0 consts_1 (⟨"com/example/dormouse/dormouse/tool/DecisionOfReviewerPinLaw", "cut", "([CI)Ljava/lang/String;"⟩ : MethodName) method_5_code 2 (some (.object "java/lang/String")) ({ frames := 4, cells := 3, slots := 24, locals := 66 } : Room) #[.ref a, .int n_] vm h (fun v vm' h' => ∃ r cs, v = some (.ref r) ∧ Ext h h' ∧ Str Z h' r cs) := by
  refine Ctr.of_go (L0 := #[.val (.ref a), .val (.int n_)]) (by first | exact plainFor_of_name (by first | (simp [plainName, overriddenIn]; done) | decide +kernel) | decide +kernel) (fun m => by first | (simp [entryFrame, mkF, argsToLocals, Value.category, maxLocals]; done) | rfl) (fun p e s m below meth c vmi chi => ?_)
  refine Go.iload_n 1 d_m5_0 rfl rfl ?_
  refine Go.ifgt 7 4 d_m5_1 (by decide) rfl rfl (fun q1 => ?_) (fun q1 => ?_)
  · refine Go.iload_n 8 d_m5_7 rfl rfl ?_
    refine Go.iconst (1) 9 d_m5_8 rfl rfl ?_
    refine Go.if_icmpne 29 12 d_m5_9 (by decide) rfl rfl (fun q2 => ?_) (fun q2 => ?_)
    · refine Go.iload_n 30 d_m5_29 rfl rfl ?_
      refine Go.iconst (2) 31 d_m5_30 rfl rfl ?_
      refine Go.if_icmpne 57 34 d_m5_31 (by decide) rfl rfl (fun q3 => ?_) (fun q3 => ?_)
      · refine Go.iload_n 58 d_m5_57 rfl rfl ?_
        refine Go.iconst (3) 59 d_m5_58 rfl rfl ?_
        refine Go.if_icmpne 91 62 d_m5_59 (by decide) rfl rfl (fun q4 => ?_) (fun q4 => ?_)
        · refine Go.iload_n 92 d_m5_91 rfl rfl ?_
          refine Go.iconst (4) 93 d_m5_92 rfl rfl ?_
          refine Go.if_icmpne 131 96 d_m5_93 (by decide) rfl rfl (fun q5 => ?_) (fun q5 => ?_)
          · refine Go.iload_n 132 d_m5_131 rfl rfl ?_
            refine Go.iconst (5) 133 d_m5_132 rfl rfl ?_
            refine Go.if_icmpne 177 136 d_m5_133 (by decide) rfl rfl (fun q6 => ?_) (fun q6 => ?_)
            · refine Go.iload_n 178 d_m5_177 rfl rfl ?_
              refine Go.bipush (6) 180 d_m5_178 rfl rfl ?_
              refine Go.if_icmpne 231 183 d_m5_180 (by decide) rfl rfl (fun q7 => ?_) (fun q7 => ?_)
              · refine Go.iload_n 232 d_m5_231 rfl rfl ?_
                refine Go.bipush (7) 234 d_m5_232 rfl rfl ?_
                refine Go.if_icmpne 293 237 d_m5_234 (by decide) rfl rfl (fun q8 => ?_) (fun q8 => ?_)
                · refine Go.iload_n 294 d_m5_293 rfl rfl ?_
                  refine Go.bipush (8) 296 d_m5_294 rfl rfl ?_
                  refine Go.if_icmpne 363 299 d_m5_296 (by decide) rfl rfl (fun q9 => ?_) (fun q9 => ?_)
                  · refine Go.iload_n 364 d_m5_363 rfl rfl ?_
                    refine Go.bipush (9) 366 d_m5_364 rfl rfl ?_
                    refine Go.if_icmpne 441 369 d_m5_366 (by decide) rfl rfl (fun q10 => ?_) (fun q10 => ?_)
                    · refine Go.new 444 d_m5_441 rfl (W.1 58 rfl) (W.1 6 rfl) (W.1 5 rfl) (nl rfl) (nl rfl) (fun s1 h11 e11 E11 ⟨A11, D11⟩ S11 z11 c11 => ?_)
                      refine Go.dup 445 d_m5_444 rfl rfl ?_
                      refine Go.bipush (10) 447 d_m5_445 rfl rfl ?_
                      refine Go.newarray 10 449 d_m5_447 rfl (W.1 29 rfl) (by decide) (by decide) (by decide) (nl rfl) (nl rfl) (fun b1 h12 e12 E12 ⟨k12, B12⟩ S12 z12 c12 => ?_)
                      have A12 : Arv Z h12 b1 k12 .char (10 : Int32) [.int 0, .int 0, .int 0, .int 0, .int 0, .int 0, .int 0, .int 0, .int 0, .int 0] (.int 0) := B12.pad (pad_rep [] (.int 0) 10)
                      refine Go.dup 450 d_m5_449 rfl rfl ?_
                      refine Go.iconst (0) 451 d_m5_450 rfl rfl ?_
                      refine Go.aload_n 452 d_m5_451 rfl rfl rfl ?_
                      refine Go.iconst (0) 453 d_m5_452 rfl rfl ?_
                      have f13 := A.ext (Ext.tr E11 E12)
                      refine Go.caload (.int x0_) 454 d_m5_453 rfl f13 (by decide) rfl ?_
                      refine Go.castore 0 x0_ [.int x0_, .int 0, .int 0, .int 0, .int 0, .int 0, .int 0, .int 0, .int 0, .int 0] 455 d_m5_454 rfl A12 (by decide) rfl (nl rfl) (narC bx0_) rfl S12 z12 (fun h14 K14 A14 S14 c14 => ?_)
                      have E14 := Ext.kp1 E12 K14 e12
                      refine Go.dup 456 d_m5_455 rfl rfl ?_
                      refine Go.iconst (1) 457 d_m5_456 rfl rfl ?_
                      refine Go.aload_n 458 d_m5_457 rfl rfl rfl ?_
                      refine Go.iconst (1) 459 d_m5_458 rfl rfl ?_
                      have f15 := A.ext (Ext.tr E11 E14)
                      refine Go.caload (.int x1_) 460 d_m5_459 rfl f15 (by decide) rfl ?_
                      refine Go.castore 1 x1_ [.int x0_, .int x1_, .int 0, .int 0, .int 0, .int 0, .int 0, .int 0, .int 0, .int 0] 461 d_m5_460 rfl A14 (by decide) rfl (nl rfl) (narC bx1_) rfl S14 z12 (fun h16 K16 A16 S16 c16 => ?_)
                      have E16 := Ext.kp1 E14 K16 e12
                      refine Go.dup 462 d_m5_461 rfl rfl ?_
                      refine Go.iconst (2) 463 d_m5_462 rfl rfl ?_
                      refine Go.aload_n 464 d_m5_463 rfl rfl rfl ?_
                      refine Go.iconst (2) 465 d_m5_464 rfl rfl ?_
                      have f17 := A.ext (Ext.tr E11 E16)
                      refine Go.caload (.int x2_) 466 d_m5_465 rfl f17 (by decide) rfl ?_
                      refine Go.castore 2 x2_ [.int x0_, .int x1_, .int x2_, .int 0, .int 0, .int 0, .int 0, .int 0, .int 0, .int 0] 467 d_m5_466 rfl A16 (by decide) rfl (nl rfl) (narC bx2_) rfl S16 z12 (fun h18 K18 A18 S18 c18 => ?_)
                      have E18 := Ext.kp1 E16 K18 e12
                      refine Go.dup 468 d_m5_467 rfl rfl ?_
                      refine Go.iconst (3) 469 d_m5_468 rfl rfl ?_
                      refine Go.aload_n 470 d_m5_469 rfl rfl rfl ?_
                      refine Go.iconst (3) 471 d_m5_470 rfl rfl ?_
                      have f19 := A.ext (Ext.tr E11 E18)
                      refine Go.caload (.int x3_) 472 d_m5_471 rfl f19 (by decide) rfl ?_
                      refine Go.castore 3 x3_ [.int x0_, .int x1_, .int x2_, .int x3_, .int 0, .int 0, .int 0, .int 0, .int 0, .int 0] 473 d_m5_472 rfl A18 (by decide) rfl (nl rfl) (narC bx3_) rfl S18 z12 (fun h20 K20 A20 S20 c20 => ?_)
                      have E20 := Ext.kp1 E18 K20 e12
                      refine Go.dup 474 d_m5_473 rfl rfl ?_
                      refine Go.iconst (4) 475 d_m5_474 rfl rfl ?_
                      refine Go.aload_n 476 d_m5_475 rfl rfl rfl ?_
                      refine Go.iconst (4) 477 d_m5_476 rfl rfl ?_
                      have f21 := A.ext (Ext.tr E11 E20)
                      refine Go.caload (.int x4_) 478 d_m5_477 rfl f21 (by decide) rfl ?_
                      refine Go.castore 4 x4_ [.int x0_, .int x1_, .int x2_, .int x3_, .int x4_, .int 0, .int 0, .int 0, .int 0, .int 0] 479 d_m5_478 rfl A20 (by decide) rfl (nl rfl) (narC bx4_) rfl S20 z12 (fun h22 K22 A22 S22 c22 => ?_)
                      have E22 := Ext.kp1 E20 K22 e12
                      refine Go.dup 480 d_m5_479 rfl rfl ?_
                      refine Go.iconst (5) 481 d_m5_480 rfl rfl ?_
                      refine Go.aload_n 482 d_m5_481 rfl rfl rfl ?_
                      refine Go.iconst (5) 483 d_m5_482 rfl rfl ?_
                      have f23 := A.ext (Ext.tr E11 E22)
                      refine Go.caload (.int x5_) 484 d_m5_483 rfl f23 (by decide) rfl ?_
                      refine Go.castore 5 x5_ [.int x0_, .int x1_, .int x2_, .int x3_, .int x4_, .int x5_, .int 0, .int 0, .int 0, .int 0] 485 d_m5_484 rfl A22 (by decide) rfl (nl rfl) (narC bx5_) rfl S22 z12 (fun h24 K24 A24 S24 c24 => ?_)
                      have E24 := Ext.kp1 E22 K24 e12
                      refine Go.dup 486 d_m5_485 rfl rfl ?_
                      refine Go.bipush (6) 488 d_m5_486 rfl rfl ?_
                      refine Go.aload_n 489 d_m5_488 rfl rfl rfl ?_
                      refine Go.bipush (6) 491 d_m5_489 rfl rfl ?_
                      have f25 := A.ext (Ext.tr E11 E24)
                      refine Go.caload (.int x6_) 492 d_m5_491 rfl f25 (by decide) rfl ?_
                      refine Go.castore 6 x6_ [.int x0_, .int x1_, .int x2_, .int x3_, .int x4_, .int x5_, .int x6_, .int 0, .int 0, .int 0] 493 d_m5_492 rfl A24 (by decide) rfl (nl rfl) (narC bx6_) rfl S24 z12 (fun h26 K26 A26 S26 c26 => ?_)
                      have E26 := Ext.kp1 E24 K26 e12
                      refine Go.dup 494 d_m5_493 rfl rfl ?_
                      refine Go.bipush (7) 496 d_m5_494 rfl rfl ?_
                      refine Go.aload_n 497 d_m5_496 rfl rfl rfl ?_
                      refine Go.bipush (7) 499 d_m5_497 rfl rfl ?_
                      have f27 := A.ext (Ext.tr E11 E26)
                      refine Go.caload (.int x7_) 500 d_m5_499 rfl f27 (by decide) rfl ?_
                      refine Go.castore 7 x7_ [.int x0_, .int x1_, .int x2_, .int x3_, .int x4_, .int x5_, .int x6_, .int x7_, .int 0, .int 0] 501 d_m5_500 rfl A26 (by decide) rfl (nl rfl) (narC bx7_) rfl S26 z12 (fun h28 K28 A28 S28 c28 => ?_)
                      have E28 := Ext.kp1 E26 K28 e12
                      refine Go.dup 502 d_m5_501 rfl rfl ?_
                      refine Go.bipush (8) 504 d_m5_502 rfl rfl ?_
                      refine Go.aload_n 505 d_m5_504 rfl rfl rfl ?_
                      refine Go.bipush (8) 507 d_m5_505 rfl rfl ?_
                      have f29 := A.ext (Ext.tr E11 E28)
                      refine Go.caload (.int x8_) 508 d_m5_507 rfl f29 (by decide) rfl ?_
                      refine Go.castore 8 x8_ [.int x0_, .int x1_, .int x2_, .int x3_, .int x4_, .int x5_, .int x6_, .int x7_, .int x8_, .int 0] 509 d_m5_508 rfl A28 (by decide) rfl (nl rfl) (narC bx8_) rfl S28 z12 (fun h30 K30 A30 S30 c30 => ?_)
                      have E30 := Ext.kp1 E28 K30 e12
                      refine Go.dup 510 d_m5_509 rfl rfl ?_
                      refine Go.bipush (9) 512 d_m5_510 rfl rfl ?_
                      refine Go.aload_n 513 d_m5_512 rfl rfl rfl ?_
                      refine Go.bipush (9) 515 d_m5_513 rfl rfl ?_
                      have f31 := A.ext (Ext.tr E11 E30)
                      refine Go.caload (.int x9_) 516 d_m5_515 rfl f31 (by decide) rfl ?_
                      refine Go.castore 9 x9_ [.int x0_, .int x1_, .int x2_, .int x3_, .int x4_, .int x5_, .int x6_, .int x7_, .int x8_, .int x9_] 517 d_m5_516 rfl A30 (by decide) rfl (nl rfl) (narC bx9_) rfl S30 z12 (fun h32 K32 A32 S32 c32 => ?_)
                      have E32 := Ext.kp1 E30 K32 e12
                      have f34 := D11 (Or.inr (W.1 8 rfl)) (ty := (.array .byte)) (by decide)
                      have f35 := D11 (Or.inr (W.1 9 rfl)) (ty := .byte) (by decide)
                      have f36 := A11.ext E32
                      have f37 := f34.ext E32
                      have f38 := f35.ext E32
                      have f39 := CHr.safe (CHr.trans c12 (CHr.trans c14 (CHr.trans c16 (CHr.trans c18 (CHr.trans c20 (CHr.trans c22 (CHr.trans c24 (CHr.trans c26 (CHr.trans c28 (CHr.trans c30 c32)))))))))) A11.lt S11
                      have L39 := Nat.lt_of_lt_of_le A11.lt (CHr.trans c12 (CHr.trans c14 (CHr.trans c16 (CHr.trans c18 (CHr.trans c20 (CHr.trans c22 (CHr.trans c24 (CHr.trans c26 (CHr.trans c28 (CHr.trans c30 c32)))))))))).2.1
                      refine goStrNew W 1 [x0_, x1_, x2_, x3_, x4_, x5_, x6_, x7_, x8_, x9_] 520 d_m5_517 rfl (W.1 59 rfl) f36 f37 f38 A32 rfl (nl rfl) (nl rfl) (by intro c hc; simp only [List.mem_cons, List.not_mem_nil, or_false] at hc; rcases hc with rfl | rfl | rfl | rfl | rfl | rfl | rfl | rfl | rfl | rfl <;> assumption) rfl rfl (nl rfl) (nl rfl) (nl rfl) (nl rfl) (nl rfl) f39 z11 (fun h33 K33 T33 c33 => ?_)
                      have E33 := Ext.kp1 (Ext.tr E11 E32) K33 e11
                      exact Go.areturn d_m5_520 rfl rfl rfl (nl rfl) (nl rfl) (fun vm' ch => ⟨_, _, rfl, E33, T33⟩)
                    · refine Go.new 372 d_m5_369 rfl (W.1 58 rfl) (W.1 6 rfl) (W.1 5 rfl) (nl rfl) (nl rfl) (fun s1 h40 e40 E40 ⟨A40, D40⟩ S40 z40 c40 => ?_)
                      refine Go.dup 373 d_m5_372 rfl rfl ?_
                      refine Go.bipush (9) 375 d_m5_373 rfl rfl ?_
                      refine Go.newarray 9 377 d_m5_375 rfl (W.1 29 rfl) (by decide) (by decide) (by decide) (nl rfl) (nl rfl) (fun b1 h41 e41 E41 ⟨k41, B41⟩ S41 z41 c41 => ?_)
                      have A41 : Arv Z h41 b1 k41 .char (9 : Int32) [.int 0, .int 0, .int 0, .int 0, .int 0, .int 0, .int 0, .int 0, .int 0] (.int 0) := B41.pad (pad_rep [] (.int 0) 9)
                      refine Go.dup 378 d_m5_377 rfl rfl ?_
                      refine Go.iconst (0) 379 d_m5_378 rfl rfl ?_
                      refine Go.aload_n 380 d_m5_379 rfl rfl rfl ?_
                      refine Go.iconst (0) 381 d_m5_380 rfl rfl ?_
                      have f42 := A.ext (Ext.tr E40 E41)
                      refine Go.caload (.int x0_) 382 d_m5_381 rfl f42 (by decide) rfl ?_
                      refine Go.castore 0 x0_ [.int x0_, .int 0, .int 0, .int 0, .int 0, .int 0, .int 0, .int 0, .int 0] 383 d_m5_382 rfl A41 (by decide) rfl (nl rfl) (narC bx0_) rfl S41 z41 (fun h43 K43 A43 S43 c43 => ?_)
                      have E43 := Ext.kp1 E41 K43 e41
                      refine Go.dup 384 d_m5_383 rfl rfl ?_
                      refine Go.iconst (1) 385 d_m5_384 rfl rfl ?_
                      refine Go.aload_n 386 d_m5_385 rfl rfl rfl ?_
                      refine Go.iconst (1) 387 d_m5_386 rfl rfl ?_
                      have f44 := A.ext (Ext.tr E40 E43)
                      refine Go.caload (.int x1_) 388 d_m5_387 rfl f44 (by decide) rfl ?_
                      refine Go.castore 1 x1_ [.int x0_, .int x1_, .int 0, .int 0, .int 0, .int 0, .int 0, .int 0, .int 0] 389 d_m5_388 rfl A43 (by decide) rfl (nl rfl) (narC bx1_) rfl S43 z41 (fun h45 K45 A45 S45 c45 => ?_)
                      have E45 := Ext.kp1 E43 K45 e41
                      refine Go.dup 390 d_m5_389 rfl rfl ?_
                      refine Go.iconst (2) 391 d_m5_390 rfl rfl ?_
                      refine Go.aload_n 392 d_m5_391 rfl rfl rfl ?_
                      refine Go.iconst (2) 393 d_m5_392 rfl rfl ?_
                      have f46 := A.ext (Ext.tr E40 E45)
                      refine Go.caload (.int x2_) 394 d_m5_393 rfl f46 (by decide) rfl ?_
                      refine Go.castore 2 x2_ [.int x0_, .int x1_, .int x2_, .int 0, .int 0, .int 0, .int 0, .int 0, .int 0] 395 d_m5_394 rfl A45 (by decide) rfl (nl rfl) (narC bx2_) rfl S45 z41 (fun h47 K47 A47 S47 c47 => ?_)
                      have E47 := Ext.kp1 E45 K47 e41
                      refine Go.dup 396 d_m5_395 rfl rfl ?_
                      refine Go.iconst (3) 397 d_m5_396 rfl rfl ?_
                      refine Go.aload_n 398 d_m5_397 rfl rfl rfl ?_
                      refine Go.iconst (3) 399 d_m5_398 rfl rfl ?_
                      have f48 := A.ext (Ext.tr E40 E47)
                      refine Go.caload (.int x3_) 400 d_m5_399 rfl f48 (by decide) rfl ?_
                      refine Go.castore 3 x3_ [.int x0_, .int x1_, .int x2_, .int x3_, .int 0, .int 0, .int 0, .int 0, .int 0] 401 d_m5_400 rfl A47 (by decide) rfl (nl rfl) (narC bx3_) rfl S47 z41 (fun h49 K49 A49 S49 c49 => ?_)
                      have E49 := Ext.kp1 E47 K49 e41
                      refine Go.dup 402 d_m5_401 rfl rfl ?_
                      refine Go.iconst (4) 403 d_m5_402 rfl rfl ?_
                      refine Go.aload_n 404 d_m5_403 rfl rfl rfl ?_
                      refine Go.iconst (4) 405 d_m5_404 rfl rfl ?_
                      have f50 := A.ext (Ext.tr E40 E49)
                      refine Go.caload (.int x4_) 406 d_m5_405 rfl f50 (by decide) rfl ?_
                      refine Go.castore 4 x4_ [.int x0_, .int x1_, .int x2_, .int x3_, .int x4_, .int 0, .int 0, .int 0, .int 0] 407 d_m5_406 rfl A49 (by decide) rfl (nl rfl) (narC bx4_) rfl S49 z41 (fun h51 K51 A51 S51 c51 => ?_)
                      have E51 := Ext.kp1 E49 K51 e41
                      refine Go.dup 408 d_m5_407 rfl rfl ?_
                      refine Go.iconst (5) 409 d_m5_408 rfl rfl ?_
                      refine Go.aload_n 410 d_m5_409 rfl rfl rfl ?_
                      refine Go.iconst (5) 411 d_m5_410 rfl rfl ?_
                      have f52 := A.ext (Ext.tr E40 E51)
                      refine Go.caload (.int x5_) 412 d_m5_411 rfl f52 (by decide) rfl ?_
                      refine Go.castore 5 x5_ [.int x0_, .int x1_, .int x2_, .int x3_, .int x4_, .int x5_, .int 0, .int 0, .int 0] 413 d_m5_412 rfl A51 (by decide) rfl (nl rfl) (narC bx5_) rfl S51 z41 (fun h53 K53 A53 S53 c53 => ?_)
                      have E53 := Ext.kp1 E51 K53 e41
                      refine Go.dup 414 d_m5_413 rfl rfl ?_
                      refine Go.bipush (6) 416 d_m5_414 rfl rfl ?_
                      refine Go.aload_n 417 d_m5_416 rfl rfl rfl ?_
                      refine Go.bipush (6) 419 d_m5_417 rfl rfl ?_
                      have f54 := A.ext (Ext.tr E40 E53)
                      refine Go.caload (.int x6_) 420 d_m5_419 rfl f54 (by decide) rfl ?_
                      refine Go.castore 6 x6_ [.int x0_, .int x1_, .int x2_, .int x3_, .int x4_, .int x5_, .int x6_, .int 0, .int 0] 421 d_m5_420 rfl A53 (by decide) rfl (nl rfl) (narC bx6_) rfl S53 z41 (fun h55 K55 A55 S55 c55 => ?_)
                      have E55 := Ext.kp1 E53 K55 e41
                      refine Go.dup 422 d_m5_421 rfl rfl ?_
                      refine Go.bipush (7) 424 d_m5_422 rfl rfl ?_
                      refine Go.aload_n 425 d_m5_424 rfl rfl rfl ?_
                      refine Go.bipush (7) 427 d_m5_425 rfl rfl ?_
                      have f56 := A.ext (Ext.tr E40 E55)
                      refine Go.caload (.int x7_) 428 d_m5_427 rfl f56 (by decide) rfl ?_
                      refine Go.castore 7 x7_ [.int x0_, .int x1_, .int x2_, .int x3_, .int x4_, .int x5_, .int x6_, .int x7_, .int 0] 429 d_m5_428 rfl A55 (by decide) rfl (nl rfl) (narC bx7_) rfl S55 z41 (fun h57 K57 A57 S57 c57 => ?_)
                      have E57 := Ext.kp1 E55 K57 e41
                      refine Go.dup 430 d_m5_429 rfl rfl ?_
                      refine Go.bipush (8) 432 d_m5_430 rfl rfl ?_
                      refine Go.aload_n 433 d_m5_432 rfl rfl rfl ?_
                      refine Go.bipush (8) 435 d_m5_433 rfl rfl ?_
                      have f58 := A.ext (Ext.tr E40 E57)
                      refine Go.caload (.int x8_) 436 d_m5_435 rfl f58 (by decide) rfl ?_
                      refine Go.castore 8 x8_ [.int x0_, .int x1_, .int x2_, .int x3_, .int x4_, .int x5_, .int x6_, .int x7_, .int x8_] 437 d_m5_436 rfl A57 (by decide) rfl (nl rfl) (narC bx8_) rfl S57 z41 (fun h59 K59 A59 S59 c59 => ?_)
                      have E59 := Ext.kp1 E57 K59 e41
                      have f61 := D40 (Or.inr (W.1 8 rfl)) (ty := (.array .byte)) (by decide)
                      have f62 := D40 (Or.inr (W.1 9 rfl)) (ty := .byte) (by decide)
                      have f63 := A40.ext E59
                      have f64 := f61.ext E59
                      have f65 := f62.ext E59
                      have f66 := CHr.safe (CHr.trans c41 (CHr.trans c43 (CHr.trans c45 (CHr.trans c47 (CHr.trans c49 (CHr.trans c51 (CHr.trans c53 (CHr.trans c55 (CHr.trans c57 c59))))))))) A40.lt S40
                      have L66 := Nat.lt_of_lt_of_le A40.lt (CHr.trans c41 (CHr.trans c43 (CHr.trans c45 (CHr.trans c47 (CHr.trans c49 (CHr.trans c51 (CHr.trans c53 (CHr.trans c55 (CHr.trans c57 c59))))))))).2.1
                      refine goStrNew W 1 [x0_, x1_, x2_, x3_, x4_, x5_, x6_, x7_, x8_] 440 d_m5_437 rfl (W.1 59 rfl) f63 f64 f65 A59 rfl (nl rfl) (nl rfl) (by intro c hc; simp only [List.mem_cons, List.not_mem_nil, or_false] at hc; rcases hc with rfl | rfl | rfl | rfl | rfl | rfl | rfl | rfl | rfl <;> assumption) rfl rfl (nl rfl) (nl rfl) (nl rfl) (nl rfl) (nl rfl) f66 z40 (fun h60 K60 T60 c60 => ?_)
                      have E60 := Ext.kp1 (Ext.tr E40 E59) K60 e40
                      exact Go.areturn d_m5_440 rfl rfl rfl (nl rfl) (nl rfl) (fun vm' ch => ⟨_, _, rfl, E60, T60⟩)
                  · refine Go.new 302 d_m5_299 rfl (W.1 58 rfl) (W.1 6 rfl) (W.1 5 rfl) (nl rfl) (nl rfl) (fun s1 h67 e67 E67 ⟨A67, D67⟩ S67 z67 c67 => ?_)
                    refine Go.dup 303 d_m5_302 rfl rfl ?_
                    refine Go.bipush (8) 305 d_m5_303 rfl rfl ?_
                    refine Go.newarray 8 307 d_m5_305 rfl (W.1 29 rfl) (by decide) (by decide) (by decide) (nl rfl) (nl rfl) (fun b1 h68 e68 E68 ⟨k68, B68⟩ S68 z68 c68 => ?_)
                    have A68 : Arv Z h68 b1 k68 .char (8 : Int32) [.int 0, .int 0, .int 0, .int 0, .int 0, .int 0, .int 0, .int 0] (.int 0) := B68.pad (pad_rep [] (.int 0) 8)
                    refine Go.dup 308 d_m5_307 rfl rfl ?_
                    refine Go.iconst (0) 309 d_m5_308 rfl rfl ?_
                    refine Go.aload_n 310 d_m5_309 rfl rfl rfl ?_
                    refine Go.iconst (0) 311 d_m5_310 rfl rfl ?_
                    have f69 := A.ext (Ext.tr E67 E68)
                    refine Go.caload (.int x0_) 312 d_m5_311 rfl f69 (by decide) rfl ?_
                    refine Go.castore 0 x0_ [.int x0_, .int 0, .int 0, .int 0, .int 0, .int 0, .int 0, .int 0] 313 d_m5_312 rfl A68 (by decide) rfl (nl rfl) (narC bx0_) rfl S68 z68 (fun h70 K70 A70 S70 c70 => ?_)
                    have E70 := Ext.kp1 E68 K70 e68
                    refine Go.dup 314 d_m5_313 rfl rfl ?_
                    refine Go.iconst (1) 315 d_m5_314 rfl rfl ?_
                    refine Go.aload_n 316 d_m5_315 rfl rfl rfl ?_
                    refine Go.iconst (1) 317 d_m5_316 rfl rfl ?_
                    have f71 := A.ext (Ext.tr E67 E70)
                    refine Go.caload (.int x1_) 318 d_m5_317 rfl f71 (by decide) rfl ?_
                    refine Go.castore 1 x1_ [.int x0_, .int x1_, .int 0, .int 0, .int 0, .int 0, .int 0, .int 0] 319 d_m5_318 rfl A70 (by decide) rfl (nl rfl) (narC bx1_) rfl S70 z68 (fun h72 K72 A72 S72 c72 => ?_)
                    have E72 := Ext.kp1 E70 K72 e68
                    refine Go.dup 320 d_m5_319 rfl rfl ?_
                    refine Go.iconst (2) 321 d_m5_320 rfl rfl ?_
                    refine Go.aload_n 322 d_m5_321 rfl rfl rfl ?_
                    refine Go.iconst (2) 323 d_m5_322 rfl rfl ?_
                    have f73 := A.ext (Ext.tr E67 E72)
                    refine Go.caload (.int x2_) 324 d_m5_323 rfl f73 (by decide) rfl ?_
                    refine Go.castore 2 x2_ [.int x0_, .int x1_, .int x2_, .int 0, .int 0, .int 0, .int 0, .int 0] 325 d_m5_324 rfl A72 (by decide) rfl (nl rfl) (narC bx2_) rfl S72 z68 (fun h74 K74 A74 S74 c74 => ?_)
                    have E74 := Ext.kp1 E72 K74 e68
                    refine Go.dup 326 d_m5_325 rfl rfl ?_
                    refine Go.iconst (3) 327 d_m5_326 rfl rfl ?_
                    refine Go.aload_n 328 d_m5_327 rfl rfl rfl ?_
                    refine Go.iconst (3) 329 d_m5_328 rfl rfl ?_
                    have f75 := A.ext (Ext.tr E67 E74)
                    refine Go.caload (.int x3_) 330 d_m5_329 rfl f75 (by decide) rfl ?_
                    refine Go.castore 3 x3_ [.int x0_, .int x1_, .int x2_, .int x3_, .int 0, .int 0, .int 0, .int 0] 331 d_m5_330 rfl A74 (by decide) rfl (nl rfl) (narC bx3_) rfl S74 z68 (fun h76 K76 A76 S76 c76 => ?_)
                    have E76 := Ext.kp1 E74 K76 e68
                    refine Go.dup 332 d_m5_331 rfl rfl ?_
                    refine Go.iconst (4) 333 d_m5_332 rfl rfl ?_
                    refine Go.aload_n 334 d_m5_333 rfl rfl rfl ?_
                    refine Go.iconst (4) 335 d_m5_334 rfl rfl ?_
                    have f77 := A.ext (Ext.tr E67 E76)
                    refine Go.caload (.int x4_) 336 d_m5_335 rfl f77 (by decide) rfl ?_
                    refine Go.castore 4 x4_ [.int x0_, .int x1_, .int x2_, .int x3_, .int x4_, .int 0, .int 0, .int 0] 337 d_m5_336 rfl A76 (by decide) rfl (nl rfl) (narC bx4_) rfl S76 z68 (fun h78 K78 A78 S78 c78 => ?_)
                    have E78 := Ext.kp1 E76 K78 e68
                    refine Go.dup 338 d_m5_337 rfl rfl ?_
                    refine Go.iconst (5) 339 d_m5_338 rfl rfl ?_
                    refine Go.aload_n 340 d_m5_339 rfl rfl rfl ?_
                    refine Go.iconst (5) 341 d_m5_340 rfl rfl ?_
                    have f79 := A.ext (Ext.tr E67 E78)
                    refine Go.caload (.int x5_) 342 d_m5_341 rfl f79 (by decide) rfl ?_
                    refine Go.castore 5 x5_ [.int x0_, .int x1_, .int x2_, .int x3_, .int x4_, .int x5_, .int 0, .int 0] 343 d_m5_342 rfl A78 (by decide) rfl (nl rfl) (narC bx5_) rfl S78 z68 (fun h80 K80 A80 S80 c80 => ?_)
                    have E80 := Ext.kp1 E78 K80 e68
                    refine Go.dup 344 d_m5_343 rfl rfl ?_
                    refine Go.bipush (6) 346 d_m5_344 rfl rfl ?_
                    refine Go.aload_n 347 d_m5_346 rfl rfl rfl ?_
                    refine Go.bipush (6) 349 d_m5_347 rfl rfl ?_
                    have f81 := A.ext (Ext.tr E67 E80)
                    refine Go.caload (.int x6_) 350 d_m5_349 rfl f81 (by decide) rfl ?_
                    refine Go.castore 6 x6_ [.int x0_, .int x1_, .int x2_, .int x3_, .int x4_, .int x5_, .int x6_, .int 0] 351 d_m5_350 rfl A80 (by decide) rfl (nl rfl) (narC bx6_) rfl S80 z68 (fun h82 K82 A82 S82 c82 => ?_)
                    have E82 := Ext.kp1 E80 K82 e68
                    refine Go.dup 352 d_m5_351 rfl rfl ?_
                    refine Go.bipush (7) 354 d_m5_352 rfl rfl ?_
                    refine Go.aload_n 355 d_m5_354 rfl rfl rfl ?_
                    refine Go.bipush (7) 357 d_m5_355 rfl rfl ?_
                    have f83 := A.ext (Ext.tr E67 E82)
                    refine Go.caload (.int x7_) 358 d_m5_357 rfl f83 (by decide) rfl ?_
                    refine Go.castore 7 x7_ [.int x0_, .int x1_, .int x2_, .int x3_, .int x4_, .int x5_, .int x6_, .int x7_] 359 d_m5_358 rfl A82 (by decide) rfl (nl rfl) (narC bx7_) rfl S82 z68 (fun h84 K84 A84 S84 c84 => ?_)
                    have E84 := Ext.kp1 E82 K84 e68
                    have f86 := D67 (Or.inr (W.1 8 rfl)) (ty := (.array .byte)) (by decide)
                    have f87 := D67 (Or.inr (W.1 9 rfl)) (ty := .byte) (by decide)
                    have f88 := A67.ext E84
                    have f89 := f86.ext E84
                    have f90 := f87.ext E84
                    have f91 := CHr.safe (CHr.trans c68 (CHr.trans c70 (CHr.trans c72 (CHr.trans c74 (CHr.trans c76 (CHr.trans c78 (CHr.trans c80 (CHr.trans c82 c84)))))))) A67.lt S67
                    have L91 := Nat.lt_of_lt_of_le A67.lt (CHr.trans c68 (CHr.trans c70 (CHr.trans c72 (CHr.trans c74 (CHr.trans c76 (CHr.trans c78 (CHr.trans c80 (CHr.trans c82 c84)))))))).2.1
                    refine goStrNew W 1 [x0_, x1_, x2_, x3_, x4_, x5_, x6_, x7_] 362 d_m5_359 rfl (W.1 59 rfl) f88 f89 f90 A84 rfl (nl rfl) (nl rfl) (by intro c hc; simp only [List.mem_cons, List.not_mem_nil, or_false] at hc; rcases hc with rfl | rfl | rfl | rfl | rfl | rfl | rfl | rfl <;> assumption) rfl rfl (nl rfl) (nl rfl) (nl rfl) (nl rfl) (nl rfl) f91 z67 (fun h85 K85 T85 c85 => ?_)
                    have E85 := Ext.kp1 (Ext.tr E67 E84) K85 e67
                    exact Go.areturn d_m5_362 rfl rfl rfl (nl rfl) (nl rfl) (fun vm' ch => ⟨_, _, rfl, E85, T85⟩)
                · refine Go.new 240 d_m5_237 rfl (W.1 58 rfl) (W.1 6 rfl) (W.1 5 rfl) (nl rfl) (nl rfl) (fun s1 h92 e92 E92 ⟨A92, D92⟩ S92 z92 c92 => ?_)
                  refine Go.dup 241 d_m5_240 rfl rfl ?_
                  refine Go.bipush (7) 243 d_m5_241 rfl rfl ?_
                  refine Go.newarray 7 245 d_m5_243 rfl (W.1 29 rfl) (by decide) (by decide) (by decide) (nl rfl) (nl rfl) (fun b1 h93 e93 E93 ⟨k93, B93⟩ S93 z93 c93 => ?_)
                  have A93 : Arv Z h93 b1 k93 .char (7 : Int32) [.int 0, .int 0, .int 0, .int 0, .int 0, .int 0, .int 0] (.int 0) := B93.pad (pad_rep [] (.int 0) 7)
                  refine Go.dup 246 d_m5_245 rfl rfl ?_
                  refine Go.iconst (0) 247 d_m5_246 rfl rfl ?_
                  refine Go.aload_n 248 d_m5_247 rfl rfl rfl ?_
                  refine Go.iconst (0) 249 d_m5_248 rfl rfl ?_
                  have f94 := A.ext (Ext.tr E92 E93)
                  refine Go.caload (.int x0_) 250 d_m5_249 rfl f94 (by decide) rfl ?_
                  refine Go.castore 0 x0_ [.int x0_, .int 0, .int 0, .int 0, .int 0, .int 0, .int 0] 251 d_m5_250 rfl A93 (by decide) rfl (nl rfl) (narC bx0_) rfl S93 z93 (fun h95 K95 A95 S95 c95 => ?_)
                  have E95 := Ext.kp1 E93 K95 e93
                  refine Go.dup 252 d_m5_251 rfl rfl ?_
                  refine Go.iconst (1) 253 d_m5_252 rfl rfl ?_
                  refine Go.aload_n 254 d_m5_253 rfl rfl rfl ?_
                  refine Go.iconst (1) 255 d_m5_254 rfl rfl ?_
                  have f96 := A.ext (Ext.tr E92 E95)
                  refine Go.caload (.int x1_) 256 d_m5_255 rfl f96 (by decide) rfl ?_
                  refine Go.castore 1 x1_ [.int x0_, .int x1_, .int 0, .int 0, .int 0, .int 0, .int 0] 257 d_m5_256 rfl A95 (by decide) rfl (nl rfl) (narC bx1_) rfl S95 z93 (fun h97 K97 A97 S97 c97 => ?_)
                  have E97 := Ext.kp1 E95 K97 e93
                  refine Go.dup 258 d_m5_257 rfl rfl ?_
                  refine Go.iconst (2) 259 d_m5_258 rfl rfl ?_
                  refine Go.aload_n 260 d_m5_259 rfl rfl rfl ?_
                  refine Go.iconst (2) 261 d_m5_260 rfl rfl ?_
                  have f98 := A.ext (Ext.tr E92 E97)
                  refine Go.caload (.int x2_) 262 d_m5_261 rfl f98 (by decide) rfl ?_
                  refine Go.castore 2 x2_ [.int x0_, .int x1_, .int x2_, .int 0, .int 0, .int 0, .int 0] 263 d_m5_262 rfl A97 (by decide) rfl (nl rfl) (narC bx2_) rfl S97 z93 (fun h99 K99 A99 S99 c99 => ?_)
                  have E99 := Ext.kp1 E97 K99 e93
                  refine Go.dup 264 d_m5_263 rfl rfl ?_
                  refine Go.iconst (3) 265 d_m5_264 rfl rfl ?_
                  refine Go.aload_n 266 d_m5_265 rfl rfl rfl ?_
                  refine Go.iconst (3) 267 d_m5_266 rfl rfl ?_
                  have f100 := A.ext (Ext.tr E92 E99)
                  refine Go.caload (.int x3_) 268 d_m5_267 rfl f100 (by decide) rfl ?_
                  refine Go.castore 3 x3_ [.int x0_, .int x1_, .int x2_, .int x3_, .int 0, .int 0, .int 0] 269 d_m5_268 rfl A99 (by decide) rfl (nl rfl) (narC bx3_) rfl S99 z93 (fun h101 K101 A101 S101 c101 => ?_)
                  have E101 := Ext.kp1 E99 K101 e93
                  refine Go.dup 270 d_m5_269 rfl rfl ?_
                  refine Go.iconst (4) 271 d_m5_270 rfl rfl ?_
                  refine Go.aload_n 272 d_m5_271 rfl rfl rfl ?_
                  refine Go.iconst (4) 273 d_m5_272 rfl rfl ?_
                  have f102 := A.ext (Ext.tr E92 E101)
                  refine Go.caload (.int x4_) 274 d_m5_273 rfl f102 (by decide) rfl ?_
                  refine Go.castore 4 x4_ [.int x0_, .int x1_, .int x2_, .int x3_, .int x4_, .int 0, .int 0] 275 d_m5_274 rfl A101 (by decide) rfl (nl rfl) (narC bx4_) rfl S101 z93 (fun h103 K103 A103 S103 c103 => ?_)
                  have E103 := Ext.kp1 E101 K103 e93
                  refine Go.dup 276 d_m5_275 rfl rfl ?_
                  refine Go.iconst (5) 277 d_m5_276 rfl rfl ?_
                  refine Go.aload_n 278 d_m5_277 rfl rfl rfl ?_
                  refine Go.iconst (5) 279 d_m5_278 rfl rfl ?_
                  have f104 := A.ext (Ext.tr E92 E103)
                  refine Go.caload (.int x5_) 280 d_m5_279 rfl f104 (by decide) rfl ?_
                  refine Go.castore 5 x5_ [.int x0_, .int x1_, .int x2_, .int x3_, .int x4_, .int x5_, .int 0] 281 d_m5_280 rfl A103 (by decide) rfl (nl rfl) (narC bx5_) rfl S103 z93 (fun h105 K105 A105 S105 c105 => ?_)
                  have E105 := Ext.kp1 E103 K105 e93
                  refine Go.dup 282 d_m5_281 rfl rfl ?_
                  refine Go.bipush (6) 284 d_m5_282 rfl rfl ?_
                  refine Go.aload_n 285 d_m5_284 rfl rfl rfl ?_
                  refine Go.bipush (6) 287 d_m5_285 rfl rfl ?_
                  have f106 := A.ext (Ext.tr E92 E105)
                  refine Go.caload (.int x6_) 288 d_m5_287 rfl f106 (by decide) rfl ?_
                  refine Go.castore 6 x6_ [.int x0_, .int x1_, .int x2_, .int x3_, .int x4_, .int x5_, .int x6_] 289 d_m5_288 rfl A105 (by decide) rfl (nl rfl) (narC bx6_) rfl S105 z93 (fun h107 K107 A107 S107 c107 => ?_)
                  have E107 := Ext.kp1 E105 K107 e93
                  have f109 := D92 (Or.inr (W.1 8 rfl)) (ty := (.array .byte)) (by decide)
                  have f110 := D92 (Or.inr (W.1 9 rfl)) (ty := .byte) (by decide)
                  have f111 := A92.ext E107
                  have f112 := f109.ext E107
                  have f113 := f110.ext E107
                  have f114 := CHr.safe (CHr.trans c93 (CHr.trans c95 (CHr.trans c97 (CHr.trans c99 (CHr.trans c101 (CHr.trans c103 (CHr.trans c105 c107))))))) A92.lt S92
                  have L114 := Nat.lt_of_lt_of_le A92.lt (CHr.trans c93 (CHr.trans c95 (CHr.trans c97 (CHr.trans c99 (CHr.trans c101 (CHr.trans c103 (CHr.trans c105 c107))))))).2.1
                  refine goStrNew W 1 [x0_, x1_, x2_, x3_, x4_, x5_, x6_] 292 d_m5_289 rfl (W.1 59 rfl) f111 f112 f113 A107 rfl (nl rfl) (nl rfl) (by intro c hc; simp only [List.mem_cons, List.not_mem_nil, or_false] at hc; rcases hc with rfl | rfl | rfl | rfl | rfl | rfl | rfl <;> assumption) rfl rfl (nl rfl) (nl rfl) (nl rfl) (nl rfl) (nl rfl) f114 z92 (fun h108 K108 T108 c108 => ?_)
                  have E108 := Ext.kp1 (Ext.tr E92 E107) K108 e92
                  exact Go.areturn d_m5_292 rfl rfl rfl (nl rfl) (nl rfl) (fun vm' ch => ⟨_, _, rfl, E108, T108⟩)
              · refine Go.new 186 d_m5_183 rfl (W.1 58 rfl) (W.1 6 rfl) (W.1 5 rfl) (nl rfl) (nl rfl) (fun s1 h115 e115 E115 ⟨A115, D115⟩ S115 z115 c115 => ?_)
                refine Go.dup 187 d_m5_186 rfl rfl ?_
                refine Go.bipush (6) 189 d_m5_187 rfl rfl ?_
                refine Go.newarray 6 191 d_m5_189 rfl (W.1 29 rfl) (by decide) (by decide) (by decide) (nl rfl) (nl rfl) (fun b1 h116 e116 E116 ⟨k116, B116⟩ S116 z116 c116 => ?_)
                have A116 : Arv Z h116 b1 k116 .char (6 : Int32) [.int 0, .int 0, .int 0, .int 0, .int 0, .int 0] (.int 0) := B116.pad (pad_rep [] (.int 0) 6)
                refine Go.dup 192 d_m5_191 rfl rfl ?_
                refine Go.iconst (0) 193 d_m5_192 rfl rfl ?_
                refine Go.aload_n 194 d_m5_193 rfl rfl rfl ?_
                refine Go.iconst (0) 195 d_m5_194 rfl rfl ?_
                have f117 := A.ext (Ext.tr E115 E116)
                refine Go.caload (.int x0_) 196 d_m5_195 rfl f117 (by decide) rfl ?_
                refine Go.castore 0 x0_ [.int x0_, .int 0, .int 0, .int 0, .int 0, .int 0] 197 d_m5_196 rfl A116 (by decide) rfl (nl rfl) (narC bx0_) rfl S116 z116 (fun h118 K118 A118 S118 c118 => ?_)
                have E118 := Ext.kp1 E116 K118 e116
                refine Go.dup 198 d_m5_197 rfl rfl ?_
                refine Go.iconst (1) 199 d_m5_198 rfl rfl ?_
                refine Go.aload_n 200 d_m5_199 rfl rfl rfl ?_
                refine Go.iconst (1) 201 d_m5_200 rfl rfl ?_
                have f119 := A.ext (Ext.tr E115 E118)
                refine Go.caload (.int x1_) 202 d_m5_201 rfl f119 (by decide) rfl ?_
                refine Go.castore 1 x1_ [.int x0_, .int x1_, .int 0, .int 0, .int 0, .int 0] 203 d_m5_202 rfl A118 (by decide) rfl (nl rfl) (narC bx1_) rfl S118 z116 (fun h120 K120 A120 S120 c120 => ?_)
                have E120 := Ext.kp1 E118 K120 e116
                refine Go.dup 204 d_m5_203 rfl rfl ?_
                refine Go.iconst (2) 205 d_m5_204 rfl rfl ?_
                refine Go.aload_n 206 d_m5_205 rfl rfl rfl ?_
                refine Go.iconst (2) 207 d_m5_206 rfl rfl ?_
                have f121 := A.ext (Ext.tr E115 E120)
                refine Go.caload (.int x2_) 208 d_m5_207 rfl f121 (by decide) rfl ?_
                refine Go.castore 2 x2_ [.int x0_, .int x1_, .int x2_, .int 0, .int 0, .int 0] 209 d_m5_208 rfl A120 (by decide) rfl (nl rfl) (narC bx2_) rfl S120 z116 (fun h122 K122 A122 S122 c122 => ?_)
                have E122 := Ext.kp1 E120 K122 e116
                refine Go.dup 210 d_m5_209 rfl rfl ?_
                refine Go.iconst (3) 211 d_m5_210 rfl rfl ?_
                refine Go.aload_n 212 d_m5_211 rfl rfl rfl ?_
                refine Go.iconst (3) 213 d_m5_212 rfl rfl ?_
                have f123 := A.ext (Ext.tr E115 E122)
                refine Go.caload (.int x3_) 214 d_m5_213 rfl f123 (by decide) rfl ?_
                refine Go.castore 3 x3_ [.int x0_, .int x1_, .int x2_, .int x3_, .int 0, .int 0] 215 d_m5_214 rfl A122 (by decide) rfl (nl rfl) (narC bx3_) rfl S122 z116 (fun h124 K124 A124 S124 c124 => ?_)
                have E124 := Ext.kp1 E122 K124 e116
                refine Go.dup 216 d_m5_215 rfl rfl ?_
                refine Go.iconst (4) 217 d_m5_216 rfl rfl ?_
                refine Go.aload_n 218 d_m5_217 rfl rfl rfl ?_
                refine Go.iconst (4) 219 d_m5_218 rfl rfl ?_
                have f125 := A.ext (Ext.tr E115 E124)
                refine Go.caload (.int x4_) 220 d_m5_219 rfl f125 (by decide) rfl ?_
                refine Go.castore 4 x4_ [.int x0_, .int x1_, .int x2_, .int x3_, .int x4_, .int 0] 221 d_m5_220 rfl A124 (by decide) rfl (nl rfl) (narC bx4_) rfl S124 z116 (fun h126 K126 A126 S126 c126 => ?_)
                have E126 := Ext.kp1 E124 K126 e116
                refine Go.dup 222 d_m5_221 rfl rfl ?_
                refine Go.iconst (5) 223 d_m5_222 rfl rfl ?_
                refine Go.aload_n 224 d_m5_223 rfl rfl rfl ?_
                refine Go.iconst (5) 225 d_m5_224 rfl rfl ?_
                have f127 := A.ext (Ext.tr E115 E126)
                refine Go.caload (.int x5_) 226 d_m5_225 rfl f127 (by decide) rfl ?_
                refine Go.castore 5 x5_ [.int x0_, .int x1_, .int x2_, .int x3_, .int x4_, .int x5_] 227 d_m5_226 rfl A126 (by decide) rfl (nl rfl) (narC bx5_) rfl S126 z116 (fun h128 K128 A128 S128 c128 => ?_)
                have E128 := Ext.kp1 E126 K128 e116
                have f130 := D115 (Or.inr (W.1 8 rfl)) (ty := (.array .byte)) (by decide)
                have f131 := D115 (Or.inr (W.1 9 rfl)) (ty := .byte) (by decide)
                have f132 := A115.ext E128
                have f133 := f130.ext E128
                have f134 := f131.ext E128
                have f135 := CHr.safe (CHr.trans c116 (CHr.trans c118 (CHr.trans c120 (CHr.trans c122 (CHr.trans c124 (CHr.trans c126 c128)))))) A115.lt S115
                have L135 := Nat.lt_of_lt_of_le A115.lt (CHr.trans c116 (CHr.trans c118 (CHr.trans c120 (CHr.trans c122 (CHr.trans c124 (CHr.trans c126 c128)))))).2.1
                refine goStrNew W 1 [x0_, x1_, x2_, x3_, x4_, x5_] 230 d_m5_227 rfl (W.1 59 rfl) f132 f133 f134 A128 rfl (nl rfl) (nl rfl) (by intro c hc; simp only [List.mem_cons, List.not_mem_nil, or_false] at hc; rcases hc with rfl | rfl | rfl | rfl | rfl | rfl <;> assumption) rfl rfl (nl rfl) (nl rfl) (nl rfl) (nl rfl) (nl rfl) f135 z115 (fun h129 K129 T129 c129 => ?_)
                have E129 := Ext.kp1 (Ext.tr E115 E128) K129 e115
                exact Go.areturn d_m5_230 rfl rfl rfl (nl rfl) (nl rfl) (fun vm' ch => ⟨_, _, rfl, E129, T129⟩)
            · refine Go.new 139 d_m5_136 rfl (W.1 58 rfl) (W.1 6 rfl) (W.1 5 rfl) (nl rfl) (nl rfl) (fun s1 h136 e136 E136 ⟨A136, D136⟩ S136 z136 c136 => ?_)
              refine Go.dup 140 d_m5_139 rfl rfl ?_
              refine Go.iconst (5) 141 d_m5_140 rfl rfl ?_
              refine Go.newarray 5 143 d_m5_141 rfl (W.1 29 rfl) (by decide) (by decide) (by decide) (nl rfl) (nl rfl) (fun b1 h137 e137 E137 ⟨k137, B137⟩ S137 z137 c137 => ?_)
              have A137 : Arv Z h137 b1 k137 .char (5 : Int32) [.int 0, .int 0, .int 0, .int 0, .int 0] (.int 0) := B137.pad (pad_rep [] (.int 0) 5)
              refine Go.dup 144 d_m5_143 rfl rfl ?_
              refine Go.iconst (0) 145 d_m5_144 rfl rfl ?_
              refine Go.aload_n 146 d_m5_145 rfl rfl rfl ?_
              refine Go.iconst (0) 147 d_m5_146 rfl rfl ?_
              have f138 := A.ext (Ext.tr E136 E137)
              refine Go.caload (.int x0_) 148 d_m5_147 rfl f138 (by decide) rfl ?_
              refine Go.castore 0 x0_ [.int x0_, .int 0, .int 0, .int 0, .int 0] 149 d_m5_148 rfl A137 (by decide) rfl (nl rfl) (narC bx0_) rfl S137 z137 (fun h139 K139 A139 S139 c139 => ?_)
              have E139 := Ext.kp1 E137 K139 e137
              refine Go.dup 150 d_m5_149 rfl rfl ?_
              refine Go.iconst (1) 151 d_m5_150 rfl rfl ?_
              refine Go.aload_n 152 d_m5_151 rfl rfl rfl ?_
              refine Go.iconst (1) 153 d_m5_152 rfl rfl ?_
              have f140 := A.ext (Ext.tr E136 E139)
              refine Go.caload (.int x1_) 154 d_m5_153 rfl f140 (by decide) rfl ?_
              refine Go.castore 1 x1_ [.int x0_, .int x1_, .int 0, .int 0, .int 0] 155 d_m5_154 rfl A139 (by decide) rfl (nl rfl) (narC bx1_) rfl S139 z137 (fun h141 K141 A141 S141 c141 => ?_)
              have E141 := Ext.kp1 E139 K141 e137
              refine Go.dup 156 d_m5_155 rfl rfl ?_
              refine Go.iconst (2) 157 d_m5_156 rfl rfl ?_
              refine Go.aload_n 158 d_m5_157 rfl rfl rfl ?_
              refine Go.iconst (2) 159 d_m5_158 rfl rfl ?_
              have f142 := A.ext (Ext.tr E136 E141)
              refine Go.caload (.int x2_) 160 d_m5_159 rfl f142 (by decide) rfl ?_
              refine Go.castore 2 x2_ [.int x0_, .int x1_, .int x2_, .int 0, .int 0] 161 d_m5_160 rfl A141 (by decide) rfl (nl rfl) (narC bx2_) rfl S141 z137 (fun h143 K143 A143 S143 c143 => ?_)
              have E143 := Ext.kp1 E141 K143 e137
              refine Go.dup 162 d_m5_161 rfl rfl ?_
              refine Go.iconst (3) 163 d_m5_162 rfl rfl ?_
              refine Go.aload_n 164 d_m5_163 rfl rfl rfl ?_
              refine Go.iconst (3) 165 d_m5_164 rfl rfl ?_
              have f144 := A.ext (Ext.tr E136 E143)
              refine Go.caload (.int x3_) 166 d_m5_165 rfl f144 (by decide) rfl ?_
              refine Go.castore 3 x3_ [.int x0_, .int x1_, .int x2_, .int x3_, .int 0] 167 d_m5_166 rfl A143 (by decide) rfl (nl rfl) (narC bx3_) rfl S143 z137 (fun h145 K145 A145 S145 c145 => ?_)
              have E145 := Ext.kp1 E143 K145 e137
              refine Go.dup 168 d_m5_167 rfl rfl ?_
              refine Go.iconst (4) 169 d_m5_168 rfl rfl ?_
              refine Go.aload_n 170 d_m5_169 rfl rfl rfl ?_
              refine Go.iconst (4) 171 d_m5_170 rfl rfl ?_
              have f146 := A.ext (Ext.tr E136 E145)
              refine Go.caload (.int x4_) 172 d_m5_171 rfl f146 (by decide) rfl ?_
              refine Go.castore 4 x4_ [.int x0_, .int x1_, .int x2_, .int x3_, .int x4_] 173 d_m5_172 rfl A145 (by decide) rfl (nl rfl) (narC bx4_) rfl S145 z137 (fun h147 K147 A147 S147 c147 => ?_)
              have E147 := Ext.kp1 E145 K147 e137
              have f149 := D136 (Or.inr (W.1 8 rfl)) (ty := (.array .byte)) (by decide)
              have f150 := D136 (Or.inr (W.1 9 rfl)) (ty := .byte) (by decide)
              have f151 := A136.ext E147
              have f152 := f149.ext E147
              have f153 := f150.ext E147
              have f154 := CHr.safe (CHr.trans c137 (CHr.trans c139 (CHr.trans c141 (CHr.trans c143 (CHr.trans c145 c147))))) A136.lt S136
              have L154 := Nat.lt_of_lt_of_le A136.lt (CHr.trans c137 (CHr.trans c139 (CHr.trans c141 (CHr.trans c143 (CHr.trans c145 c147))))).2.1
              refine goStrNew W 1 [x0_, x1_, x2_, x3_, x4_] 176 d_m5_173 rfl (W.1 59 rfl) f151 f152 f153 A147 rfl (nl rfl) (nl rfl) (by intro c hc; simp only [List.mem_cons, List.not_mem_nil, or_false] at hc; rcases hc with rfl | rfl | rfl | rfl | rfl <;> assumption) rfl rfl (nl rfl) (nl rfl) (nl rfl) (nl rfl) (nl rfl) f154 z136 (fun h148 K148 T148 c148 => ?_)
              have E148 := Ext.kp1 (Ext.tr E136 E147) K148 e136
              exact Go.areturn d_m5_176 rfl rfl rfl (nl rfl) (nl rfl) (fun vm' ch => ⟨_, _, rfl, E148, T148⟩)
          · refine Go.new 99 d_m5_96 rfl (W.1 58 rfl) (W.1 6 rfl) (W.1 5 rfl) (nl rfl) (nl rfl) (fun s1 h155 e155 E155 ⟨A155, D155⟩ S155 z155 c155 => ?_)
            refine Go.dup 100 d_m5_99 rfl rfl ?_
            refine Go.iconst (4) 101 d_m5_100 rfl rfl ?_
            refine Go.newarray 4 103 d_m5_101 rfl (W.1 29 rfl) (by decide) (by decide) (by decide) (nl rfl) (nl rfl) (fun b1 h156 e156 E156 ⟨k156, B156⟩ S156 z156 c156 => ?_)
            have A156 : Arv Z h156 b1 k156 .char (4 : Int32) [.int 0, .int 0, .int 0, .int 0] (.int 0) := B156.pad (pad_rep [] (.int 0) 4)
            refine Go.dup 104 d_m5_103 rfl rfl ?_
            refine Go.iconst (0) 105 d_m5_104 rfl rfl ?_
            refine Go.aload_n 106 d_m5_105 rfl rfl rfl ?_
            refine Go.iconst (0) 107 d_m5_106 rfl rfl ?_
            have f157 := A.ext (Ext.tr E155 E156)
            refine Go.caload (.int x0_) 108 d_m5_107 rfl f157 (by decide) rfl ?_
            refine Go.castore 0 x0_ [.int x0_, .int 0, .int 0, .int 0] 109 d_m5_108 rfl A156 (by decide) rfl (nl rfl) (narC bx0_) rfl S156 z156 (fun h158 K158 A158 S158 c158 => ?_)
            have E158 := Ext.kp1 E156 K158 e156
            refine Go.dup 110 d_m5_109 rfl rfl ?_
            refine Go.iconst (1) 111 d_m5_110 rfl rfl ?_
            refine Go.aload_n 112 d_m5_111 rfl rfl rfl ?_
            refine Go.iconst (1) 113 d_m5_112 rfl rfl ?_
            have f159 := A.ext (Ext.tr E155 E158)
            refine Go.caload (.int x1_) 114 d_m5_113 rfl f159 (by decide) rfl ?_
            refine Go.castore 1 x1_ [.int x0_, .int x1_, .int 0, .int 0] 115 d_m5_114 rfl A158 (by decide) rfl (nl rfl) (narC bx1_) rfl S158 z156 (fun h160 K160 A160 S160 c160 => ?_)
            have E160 := Ext.kp1 E158 K160 e156
            refine Go.dup 116 d_m5_115 rfl rfl ?_
            refine Go.iconst (2) 117 d_m5_116 rfl rfl ?_
            refine Go.aload_n 118 d_m5_117 rfl rfl rfl ?_
            refine Go.iconst (2) 119 d_m5_118 rfl rfl ?_
            have f161 := A.ext (Ext.tr E155 E160)
            refine Go.caload (.int x2_) 120 d_m5_119 rfl f161 (by decide) rfl ?_
            refine Go.castore 2 x2_ [.int x0_, .int x1_, .int x2_, .int 0] 121 d_m5_120 rfl A160 (by decide) rfl (nl rfl) (narC bx2_) rfl S160 z156 (fun h162 K162 A162 S162 c162 => ?_)
            have E162 := Ext.kp1 E160 K162 e156
            refine Go.dup 122 d_m5_121 rfl rfl ?_
            refine Go.iconst (3) 123 d_m5_122 rfl rfl ?_
            refine Go.aload_n 124 d_m5_123 rfl rfl rfl ?_
            refine Go.iconst (3) 125 d_m5_124 rfl rfl ?_
            have f163 := A.ext (Ext.tr E155 E162)
            refine Go.caload (.int x3_) 126 d_m5_125 rfl f163 (by decide) rfl ?_
            refine Go.castore 3 x3_ [.int x0_, .int x1_, .int x2_, .int x3_] 127 d_m5_126 rfl A162 (by decide) rfl (nl rfl) (narC bx3_) rfl S162 z156 (fun h164 K164 A164 S164 c164 => ?_)
            have E164 := Ext.kp1 E162 K164 e156
            have f166 := D155 (Or.inr (W.1 8 rfl)) (ty := (.array .byte)) (by decide)
            have f167 := D155 (Or.inr (W.1 9 rfl)) (ty := .byte) (by decide)
            have f168 := A155.ext E164
            have f169 := f166.ext E164
            have f170 := f167.ext E164
            have f171 := CHr.safe (CHr.trans c156 (CHr.trans c158 (CHr.trans c160 (CHr.trans c162 c164)))) A155.lt S155
            have L171 := Nat.lt_of_lt_of_le A155.lt (CHr.trans c156 (CHr.trans c158 (CHr.trans c160 (CHr.trans c162 c164)))).2.1
            refine goStrNew W 1 [x0_, x1_, x2_, x3_] 130 d_m5_127 rfl (W.1 59 rfl) f168 f169 f170 A164 rfl (nl rfl) (nl rfl) (by intro c hc; simp only [List.mem_cons, List.not_mem_nil, or_false] at hc; rcases hc with rfl | rfl | rfl | rfl <;> assumption) rfl rfl (nl rfl) (nl rfl) (nl rfl) (nl rfl) (nl rfl) f171 z155 (fun h165 K165 T165 c165 => ?_)
            have E165 := Ext.kp1 (Ext.tr E155 E164) K165 e155
            exact Go.areturn d_m5_130 rfl rfl rfl (nl rfl) (nl rfl) (fun vm' ch => ⟨_, _, rfl, E165, T165⟩)
        · refine Go.new 65 d_m5_62 rfl (W.1 58 rfl) (W.1 6 rfl) (W.1 5 rfl) (nl rfl) (nl rfl) (fun s1 h172 e172 E172 ⟨A172, D172⟩ S172 z172 c172 => ?_)
          refine Go.dup 66 d_m5_65 rfl rfl ?_
          refine Go.iconst (3) 67 d_m5_66 rfl rfl ?_
          refine Go.newarray 3 69 d_m5_67 rfl (W.1 29 rfl) (by decide) (by decide) (by decide) (nl rfl) (nl rfl) (fun b1 h173 e173 E173 ⟨k173, B173⟩ S173 z173 c173 => ?_)
          have A173 : Arv Z h173 b1 k173 .char (3 : Int32) [.int 0, .int 0, .int 0] (.int 0) := B173.pad (pad_rep [] (.int 0) 3)
          refine Go.dup 70 d_m5_69 rfl rfl ?_
          refine Go.iconst (0) 71 d_m5_70 rfl rfl ?_
          refine Go.aload_n 72 d_m5_71 rfl rfl rfl ?_
          refine Go.iconst (0) 73 d_m5_72 rfl rfl ?_
          have f174 := A.ext (Ext.tr E172 E173)
          refine Go.caload (.int x0_) 74 d_m5_73 rfl f174 (by decide) rfl ?_
          refine Go.castore 0 x0_ [.int x0_, .int 0, .int 0] 75 d_m5_74 rfl A173 (by decide) rfl (nl rfl) (narC bx0_) rfl S173 z173 (fun h175 K175 A175 S175 c175 => ?_)
          have E175 := Ext.kp1 E173 K175 e173
          refine Go.dup 76 d_m5_75 rfl rfl ?_
          refine Go.iconst (1) 77 d_m5_76 rfl rfl ?_
          refine Go.aload_n 78 d_m5_77 rfl rfl rfl ?_
          refine Go.iconst (1) 79 d_m5_78 rfl rfl ?_
          have f176 := A.ext (Ext.tr E172 E175)
          refine Go.caload (.int x1_) 80 d_m5_79 rfl f176 (by decide) rfl ?_
          refine Go.castore 1 x1_ [.int x0_, .int x1_, .int 0] 81 d_m5_80 rfl A175 (by decide) rfl (nl rfl) (narC bx1_) rfl S175 z173 (fun h177 K177 A177 S177 c177 => ?_)
          have E177 := Ext.kp1 E175 K177 e173
          refine Go.dup 82 d_m5_81 rfl rfl ?_
          refine Go.iconst (2) 83 d_m5_82 rfl rfl ?_
          refine Go.aload_n 84 d_m5_83 rfl rfl rfl ?_
          refine Go.iconst (2) 85 d_m5_84 rfl rfl ?_
          have f178 := A.ext (Ext.tr E172 E177)
          refine Go.caload (.int x2_) 86 d_m5_85 rfl f178 (by decide) rfl ?_
          refine Go.castore 2 x2_ [.int x0_, .int x1_, .int x2_] 87 d_m5_86 rfl A177 (by decide) rfl (nl rfl) (narC bx2_) rfl S177 z173 (fun h179 K179 A179 S179 c179 => ?_)
          have E179 := Ext.kp1 E177 K179 e173
          have f181 := D172 (Or.inr (W.1 8 rfl)) (ty := (.array .byte)) (by decide)
          have f182 := D172 (Or.inr (W.1 9 rfl)) (ty := .byte) (by decide)
          have f183 := A172.ext E179
          have f184 := f181.ext E179
          have f185 := f182.ext E179
          have f186 := CHr.safe (CHr.trans c173 (CHr.trans c175 (CHr.trans c177 c179))) A172.lt S172
          have L186 := Nat.lt_of_lt_of_le A172.lt (CHr.trans c173 (CHr.trans c175 (CHr.trans c177 c179))).2.1
          refine goStrNew W 1 [x0_, x1_, x2_] 90 d_m5_87 rfl (W.1 59 rfl) f183 f184 f185 A179 rfl (nl rfl) (nl rfl) (by intro c hc; simp only [List.mem_cons, List.not_mem_nil, or_false] at hc; rcases hc with rfl | rfl | rfl <;> assumption) rfl rfl (nl rfl) (nl rfl) (nl rfl) (nl rfl) (nl rfl) f186 z172 (fun h180 K180 T180 c180 => ?_)
          have E180 := Ext.kp1 (Ext.tr E172 E179) K180 e172
          exact Go.areturn d_m5_90 rfl rfl rfl (nl rfl) (nl rfl) (fun vm' ch => ⟨_, _, rfl, E180, T180⟩)
      · refine Go.new 37 d_m5_34 rfl (W.1 58 rfl) (W.1 6 rfl) (W.1 5 rfl) (nl rfl) (nl rfl) (fun s1 h187 e187 E187 ⟨A187, D187⟩ S187 z187 c187 => ?_)
        refine Go.dup 38 d_m5_37 rfl rfl ?_
        refine Go.iconst (2) 39 d_m5_38 rfl rfl ?_
        refine Go.newarray 2 41 d_m5_39 rfl (W.1 29 rfl) (by decide) (by decide) (by decide) (nl rfl) (nl rfl) (fun b1 h188 e188 E188 ⟨k188, B188⟩ S188 z188 c188 => ?_)
        have A188 : Arv Z h188 b1 k188 .char (2 : Int32) [.int 0, .int 0] (.int 0) := B188.pad (pad_rep [] (.int 0) 2)
        refine Go.dup 42 d_m5_41 rfl rfl ?_
        refine Go.iconst (0) 43 d_m5_42 rfl rfl ?_
        refine Go.aload_n 44 d_m5_43 rfl rfl rfl ?_
        refine Go.iconst (0) 45 d_m5_44 rfl rfl ?_
        have f189 := A.ext (Ext.tr E187 E188)
        refine Go.caload (.int x0_) 46 d_m5_45 rfl f189 (by decide) rfl ?_
        refine Go.castore 0 x0_ [.int x0_, .int 0] 47 d_m5_46 rfl A188 (by decide) rfl (nl rfl) (narC bx0_) rfl S188 z188 (fun h190 K190 A190 S190 c190 => ?_)
        have E190 := Ext.kp1 E188 K190 e188
        refine Go.dup 48 d_m5_47 rfl rfl ?_
        refine Go.iconst (1) 49 d_m5_48 rfl rfl ?_
        refine Go.aload_n 50 d_m5_49 rfl rfl rfl ?_
        refine Go.iconst (1) 51 d_m5_50 rfl rfl ?_
        have f191 := A.ext (Ext.tr E187 E190)
        refine Go.caload (.int x1_) 52 d_m5_51 rfl f191 (by decide) rfl ?_
        refine Go.castore 1 x1_ [.int x0_, .int x1_] 53 d_m5_52 rfl A190 (by decide) rfl (nl rfl) (narC bx1_) rfl S190 z188 (fun h192 K192 A192 S192 c192 => ?_)
        have E192 := Ext.kp1 E190 K192 e188
        have f194 := D187 (Or.inr (W.1 8 rfl)) (ty := (.array .byte)) (by decide)
        have f195 := D187 (Or.inr (W.1 9 rfl)) (ty := .byte) (by decide)
        have f196 := A187.ext E192
        have f197 := f194.ext E192
        have f198 := f195.ext E192
        have f199 := CHr.safe (CHr.trans c188 (CHr.trans c190 c192)) A187.lt S187
        have L199 := Nat.lt_of_lt_of_le A187.lt (CHr.trans c188 (CHr.trans c190 c192)).2.1
        refine goStrNew W 1 [x0_, x1_] 56 d_m5_53 rfl (W.1 59 rfl) f196 f197 f198 A192 rfl (nl rfl) (nl rfl) (by intro c hc; simp only [List.mem_cons, List.not_mem_nil, or_false] at hc; rcases hc with rfl | rfl <;> assumption) rfl rfl (nl rfl) (nl rfl) (nl rfl) (nl rfl) (nl rfl) f199 z187 (fun h193 K193 T193 c193 => ?_)
        have E193 := Ext.kp1 (Ext.tr E187 E192) K193 e187
        exact Go.areturn d_m5_56 rfl rfl rfl (nl rfl) (nl rfl) (fun vm' ch => ⟨_, _, rfl, E193, T193⟩)
    · refine Go.new 15 d_m5_12 rfl (W.1 58 rfl) (W.1 6 rfl) (W.1 5 rfl) (nl rfl) (nl rfl) (fun s1 h200 e200 E200 ⟨A200, D200⟩ S200 z200 c200 => ?_)
      refine Go.dup 16 d_m5_15 rfl rfl ?_
      refine Go.iconst (1) 17 d_m5_16 rfl rfl ?_
      refine Go.newarray 1 19 d_m5_17 rfl (W.1 29 rfl) (by decide) (by decide) (by decide) (nl rfl) (nl rfl) (fun b1 h201 e201 E201 ⟨k201, B201⟩ S201 z201 c201 => ?_)
      have A201 : Arv Z h201 b1 k201 .char (1 : Int32) [.int 0] (.int 0) := B201.pad (pad_rep [] (.int 0) 1)
      refine Go.dup 20 d_m5_19 rfl rfl ?_
      refine Go.iconst (0) 21 d_m5_20 rfl rfl ?_
      refine Go.aload_n 22 d_m5_21 rfl rfl rfl ?_
      refine Go.iconst (0) 23 d_m5_22 rfl rfl ?_
      have f202 := A.ext (Ext.tr E200 E201)
      refine Go.caload (.int x0_) 24 d_m5_23 rfl f202 (by decide) rfl ?_
      refine Go.castore 0 x0_ [.int x0_] 25 d_m5_24 rfl A201 (by decide) rfl (nl rfl) (narC bx0_) rfl S201 z201 (fun h203 K203 A203 S203 c203 => ?_)
      have E203 := Ext.kp1 E201 K203 e201
      have f205 := D200 (Or.inr (W.1 8 rfl)) (ty := (.array .byte)) (by decide)
      have f206 := D200 (Or.inr (W.1 9 rfl)) (ty := .byte) (by decide)
      have f207 := A200.ext E203
      have f208 := f205.ext E203
      have f209 := f206.ext E203
      have f210 := CHr.safe (CHr.trans c201 c203) A200.lt S200
      have L210 := Nat.lt_of_lt_of_le A200.lt (CHr.trans c201 c203).2.1
      refine goStrNew W 1 [x0_] 28 d_m5_25 rfl (W.1 59 rfl) f207 f208 f209 A203 rfl (nl rfl) (nl rfl) (by intro c hc; simp only [List.mem_cons, List.not_mem_nil, or_false] at hc; rcases hc with rfl <;> assumption) rfl rfl (nl rfl) (nl rfl) (nl rfl) (nl rfl) (nl rfl) f210 z200 (fun h204 K204 T204 c204 => ?_)
      have E204 := Ext.kp1 (Ext.tr E200 E203) K204 e200
      exact Go.areturn d_m5_28 rfl rfl rfl (nl rfl) (nl rfl) (fun vm' ch => ⟨_, _, rfl, E204, T204⟩)
  · refine Go.ldcS (text := "") (vs := []) (z := (0 : Int32)) 0 6 d_m5_4 rfl rfl (W.1 100 rfl) (W.sub (by decide +kernel)) (by decide) lit_ok_.1 (by decide) (by decide) lit_ok_.2 (by decide) (nl rfl) (nl rfl) (fun y1 b211 k211 vm211 h211 E211 A211 C211 V211 B211 N211 c211 => ?_)
    have T211 : Str Z h211 y1 [] := ⟨b211, k211, A211, C211, V211, B211, by decide, by decide⟩
    exact Go.areturn d_m5_6 rfl rfl rfl (nl rfl) (nl rfl) (fun vm' ch => ⟨_, _, rfl, E211, T211⟩)
theorem d_jdk_42_m66_0 : decode jdk_42_method_66_code 0 = .ok (.aload_n 0, 1) := by decide +kernel
theorem d_jdk_42_m66_1 : decode jdk_42_method_66_code 1 = .ok (.aload_n 1, 1) := by decide +kernel
theorem d_jdk_42_m66_2 : decode jdk_42_method_66_code 2 = .ok (.if_acmp .ne 5, 3) := by decide +kernel
theorem d_jdk_42_m66_5 : decode jdk_42_method_66_code 5 = .ok (.iconst 1, 1) := by decide +kernel
theorem d_jdk_42_m66_6 : decode jdk_42_method_66_code 6 = .ok (.ireturn, 1) := by decide +kernel
theorem d_jdk_42_m66_7 : decode jdk_42_method_66_code 7 = .ok (.aload_n 1, 1) := by decide +kernel
theorem d_jdk_42_m66_8 : decode jdk_42_method_66_code 8 = .ok (.instanceof 10, 3) := by decide +kernel
theorem d_jdk_42_m66_11 : decode jdk_42_method_66_code 11 = .ok (.ifCond .eq 43, 3) := by decide +kernel
theorem d_jdk_42_m66_14 : decode jdk_42_method_66_code 14 = .ok (.aload_n 1, 1) := by decide +kernel
theorem d_jdk_42_m66_15 : decode jdk_42_method_66_code 15 = .ok (.checkcast 10, 3) := by decide +kernel
theorem d_jdk_42_m66_18 : decode jdk_42_method_66_code 18 = .ok (.astore_n 2, 1) := by decide +kernel
theorem d_jdk_42_m66_19 : decode jdk_42_method_66_code 19 = .ok (.getstatic 38, 3) := by decide +kernel
theorem d_jdk_42_m66_22 : decode jdk_42_method_66_code 22 = .ok (.ifCond .eq 14, 3) := by decide +kernel
theorem d_jdk_42_m66_25 : decode jdk_42_method_66_code 25 = .ok (.aload_n 0, 1) := by decide +kernel
theorem d_jdk_42_m66_26 : decode jdk_42_method_66_code 26 = .ok (.getfield 15, 3) := by decide +kernel
theorem d_jdk_42_m66_29 : decode jdk_42_method_66_code 29 = .ok (.aload_n 2, 1) := by decide +kernel
theorem d_jdk_42_m66_30 : decode jdk_42_method_66_code 30 = .ok (.getfield 15, 3) := by decide +kernel
theorem d_jdk_42_m66_33 : decode jdk_42_method_66_code 33 = .ok (.if_icmp .ne 21, 3) := by decide +kernel
theorem d_jdk_42_m66_36 : decode jdk_42_method_66_code 36 = .ok (.aload_n 0, 1) := by decide +kernel
theorem d_jdk_42_m66_37 : decode jdk_42_method_66_code 37 = .ok (.getfield 9, 3) := by decide +kernel
theorem d_jdk_42_m66_40 : decode jdk_42_method_66_code 40 = .ok (.aload_n 2, 1) := by decide +kernel
theorem d_jdk_42_m66_41 : decode jdk_42_method_66_code 41 = .ok (.getfield 9, 3) := by decide +kernel
theorem d_jdk_42_m66_44 : decode jdk_42_method_66_code 44 = .ok (.invokestatic 541, 3) := by decide +kernel
theorem d_jdk_42_m66_47 : decode jdk_42_method_66_code 47 = .ok (.ifCond .eq 7, 3) := by decide +kernel
theorem d_jdk_42_m66_50 : decode jdk_42_method_66_code 50 = .ok (.iconst 1, 1) := by decide +kernel
theorem d_jdk_42_m66_51 : decode jdk_42_method_66_code 51 = .ok (.goto 4, 3) := by decide +kernel
theorem d_jdk_42_m66_54 : decode jdk_42_method_66_code 54 = .ok (.iconst 0, 1) := by decide +kernel
theorem d_jdk_42_m66_55 : decode jdk_42_method_66_code 55 = .ok (.ireturn, 1) := by decide +kernel
set_option maxRecDepth 65536 in
set_option maxHeartbeats 40000000 in
theorem cEqNull {l : Launch} {Z : State} {a0 : Array Value} (W : Wd Z a0) {EL : List (String × Nat)} {vm : Vm} {h : Heap} {nw : Bool} {a : Addr} :
    Ctr nw l Z a0 EL (⟨"java/lang/String", "equals", "(Ljava/lang/Object;)Z"⟩ : MethodName) jdk_42_method_66_code 3 (some .boolean) ({ frames := 0, cells := 0, slots := 0, locals := 0 } : Room) #[.ref a, .null] vm h (fun v vm' h' => v = some (.int 0) ∧ h' = h) := by
  refine Ctr.of_go (L0 := #[.val (.ref a), .val (.null), .unset]) (by first | exact plainFor_of_name (by first | (simp [plainName, overriddenIn]; done) | decide +kernel) | decide +kernel) (fun m => by first | (simp [entryFrame, mkF, argsToLocals, Value.category, maxLocals]; done) | rfl) (fun p e s m below meth c vmi chi => ?_)
  refine Go.aload_n 1 d_jdk_42_m66_0 rfl rfl rfl ?_
  refine Go.aload_n 2 d_jdk_42_m66_1 rfl rfl rfl ?_
  refine Go.acmp_y 7 d_jdk_42_m66_2 (by decide) rfl rfl rfl (by simp [XT.acmp]) ?_
  refine Go.aload_n 8 d_jdk_42_m66_7 rfl rfl rfl ?_
  refine Go.instNull 11 d_jdk_42_m66_8 rfl ?_
  refine Go.ifeq 54 14 d_jdk_42_m66_11 (by decide) rfl rfl (fun q1 => ?_) (fun q1 => absurd rfl q1)
  refine Go.iconst (0) 55 d_jdk_42_m66_54 rfl rfl ?_
  exact Go.ireturn d_jdk_42_m66_55 rfl rfl (by simp) (nl rfl) (nl rfl) (fun vm' ch => ⟨rfl, rfl⟩)
theorem d_prog_57_m6_0 : decode prog_57_method_6_code 0 = .ok (.getstatic 3, 3) := by decide +kernel
theorem d_prog_57_m6_3 : decode prog_57_method_6_code 3 = .ok (.getfield 35, 3) := by decide +kernel
theorem d_prog_57_m6_6 : decode prog_57_method_6_code 6 = .ok (.aload_n 0, 1) := by decide +kernel
theorem d_prog_57_m6_7 : decode prog_57_method_6_code 7 = .ok (.invokevirtual 42, 3) := by decide +kernel
theorem d_prog_57_m6_10 : decode prog_57_method_6_code 10 = .ok (.ifCond .eq 10, 3) := by decide +kernel
theorem d_prog_57_m6_13 : decode prog_57_method_6_code 13 = .ok (.getstatic 3, 3) := by decide +kernel
theorem d_prog_57_m6_16 : decode prog_57_method_6_code 16 = .ok (.astore_n 1, 1) := by decide +kernel
theorem d_prog_57_m6_17 : decode prog_57_method_6_code 17 = .ok (.goto 25, 3) := by decide +kernel
theorem d_prog_57_m6_20 : decode prog_57_method_6_code 20 = .ok (.getstatic 7, 3) := by decide +kernel
theorem d_prog_57_m6_23 : decode prog_57_method_6_code 23 = .ok (.getfield 35, 3) := by decide +kernel
theorem d_prog_57_m6_26 : decode prog_57_method_6_code 26 = .ok (.aload_n 0, 1) := by decide +kernel
theorem d_prog_57_m6_27 : decode prog_57_method_6_code 27 = .ok (.invokevirtual 42, 3) := by decide +kernel
theorem d_prog_57_m6_30 : decode prog_57_method_6_code 30 = .ok (.ifCond .eq 10, 3) := by decide +kernel
theorem d_prog_57_m6_33 : decode prog_57_method_6_code 33 = .ok (.getstatic 7, 3) := by decide +kernel
theorem d_prog_57_m6_36 : decode prog_57_method_6_code 36 = .ok (.astore_n 1, 1) := by decide +kernel
theorem d_prog_57_m6_37 : decode prog_57_method_6_code 37 = .ok (.goto 5, 3) := by decide +kernel
theorem d_prog_57_m6_40 : decode prog_57_method_6_code 40 = .ok (.aconst_null, 1) := by decide +kernel
theorem d_prog_57_m6_41 : decode prog_57_method_6_code 41 = .ok (.astore_n 1, 1) := by decide +kernel
theorem d_prog_57_m6_42 : decode prog_57_method_6_code 42 = .ok (.aload_n 1, 1) := by decide +kernel
theorem d_prog_57_m6_43 : decode prog_57_method_6_code 43 = .ok (.areturn, 1) := by decide +kernel
set_option maxRecDepth 65536 in
set_option maxHeartbeats 40000000 in
theorem cOf {l : Launch} {Z : State} {a0 : Array Value} (W : Wd Z a0) {EL : List (String × Nat)} {vm : Vm} {h : Heap} {nw : Bool} {s1 : Addr} {cs : List Int32} {ap dn na nd : Addr} (D : Dec Z ap dn na nd) (T : Str Z h s1 cs) :
    Ctr nw l Z a0 EL (⟨"com/example/dormouse/dormouse/tool/Decision", "ofReviewer", "(Ljava/lang/String;)Lcom/example/dormouse/dormouse/tool/Decision;"⟩ : MethodName) prog_57_method_6_code 2 (some (.object "com/example/dormouse/dormouse/tool/Decision")) ({ frames := 2, cells := 0, slots := 0, locals := 28 } : Room) #[.ref s1] vm h (fun v vm' h' => v = some (if cs = [97, 112, 112, 114, 111, 118, 101] then .ref ap else if cs = [100, 101, 110, 121] then .ref dn else .null) ∧ h' = h) := by
  refine Ctr.of_go (L0 := #[.val (.ref s1), .unset]) (by first | exact plainFor_of_name (by first | (simp [plainName, overriddenIn]; done) | decide +kernel) | decide +kernel) (fun m => by first | (simp [entryFrame, mkF, argsToLocals, Value.category, maxLocals]; done) | rfl) (fun p e s m below meth c vmi chi => ?_)
  refine Go.know fun hE1 _ _ => ?_
  refine Go.getstatic 3 d_prog_57_m6_0 rfl (W.1 83 rfl) (D.1.ext hE1) ?_
  refine Go.getfield 6 d_prog_57_m6_3 rfl (W.1 85 rfl) (D.2.2.1.ext hE1) ?_
  refine Go.aload_n 7 d_prog_57_m6_6 rfl rfl rfl ?_
  refine goStrEq W 0 10 d_prog_57_m6_7 rfl (W.1 87 rfl) (D.2.2.2.2.1.ext hE1) T rfl rfl (nl rfl) (nl rfl) (nl rfl) (nl rfl) (nl rfl) (fun p_ap => ?_) (fun p_ap => ?_)
  · refine Go.ifeq 20 13 d_prog_57_m6_10 (by decide) rfl rfl (fun q2 => absurd q2 (by decide)) (fun q2 => ?_)
    refine Go.know fun hE3 _ _ => ?_
    refine Go.getstatic 16 d_prog_57_m6_13 rfl (W.1 83 rfl) (D.1.ext hE3) ?_
    refine Go.astore_n #[.val (.ref s1), .val (.ref ap)] 17 d_prog_57_m6_16 rfl rfl rfl ?_
    refine Go.goto 42 d_prog_57_m6_17 (by decide) rfl ?_
    refine Go.aload_n 43 d_prog_57_m6_42 rfl rfl rfl ?_
    exact Go.areturn d_prog_57_m6_43 rfl rfl rfl (nl rfl) (nl rfl) (fun vm' ch => ⟨by rw [if_pos p_ap.symm], rfl⟩)
  · refine Go.ifeq 20 13 d_prog_57_m6_10 (by decide) rfl rfl (fun q4 => ?_) (fun q4 => absurd rfl q4)
    refine Go.know fun hE5 _ _ => ?_
    refine Go.getstatic 23 d_prog_57_m6_20 rfl (W.1 96 rfl) (D.2.1.ext hE5) ?_
    refine Go.getfield 26 d_prog_57_m6_23 rfl (W.1 85 rfl) (D.2.2.2.1.ext hE5) ?_
    refine Go.aload_n 27 d_prog_57_m6_26 rfl rfl rfl ?_
    refine goStrEq W 0 30 d_prog_57_m6_27 rfl (W.1 87 rfl) (D.2.2.2.2.2.ext hE5) T rfl rfl (nl rfl) (nl rfl) (nl rfl) (nl rfl) (nl rfl) (fun p_dn => ?_) (fun p_dn => ?_)
    · refine Go.ifeq 40 33 d_prog_57_m6_30 (by decide) rfl rfl (fun q6 => absurd q6 (by decide)) (fun q6 => ?_)
      refine Go.know fun hE7 _ _ => ?_
      refine Go.getstatic 36 d_prog_57_m6_33 rfl (W.1 96 rfl) (D.2.1.ext hE7) ?_
      refine Go.astore_n #[.val (.ref s1), .val (.ref dn)] 37 d_prog_57_m6_36 rfl rfl rfl ?_
      refine Go.goto 42 d_prog_57_m6_37 (by decide) rfl ?_
      refine Go.aload_n 43 d_prog_57_m6_42 rfl rfl rfl ?_
      exact Go.areturn d_prog_57_m6_43 rfl rfl rfl (nl rfl) (nl rfl) (fun vm' ch => ⟨by rw [if_neg (fun z => p_ap z.symm), if_pos p_dn.symm], rfl⟩)
    · refine Go.ifeq 40 33 d_prog_57_m6_30 (by decide) rfl rfl (fun q8 => ?_) (fun q8 => absurd rfl q8)
      refine Go.aconst_null 41 d_prog_57_m6_40 rfl ?_
      refine Go.astore_n #[.val (.ref s1), .val (.null)] 42 d_prog_57_m6_41 rfl rfl rfl ?_
      refine Go.aload_n 43 d_prog_57_m6_42 rfl rfl rfl ?_
      exact Go.areturn d_prog_57_m6_43 rfl rfl rfl (nl rfl) (nl rfl) (fun vm' ch => ⟨by rw [if_neg (fun z => p_ap z.symm), if_neg (fun z => p_dn z.symm)], rfl⟩)
set_option maxRecDepth 65536 in
set_option maxHeartbeats 40000000 in
theorem cOfNull {l : Launch} {Z : State} {a0 : Array Value} (W : Wd Z a0) {EL : List (String × Nat)} {vm : Vm} {h : Heap} {nw : Bool} {ap dn na nd : Addr} (D : Dec Z ap dn na nd) :
    Ctr nw l Z a0 EL (⟨"com/example/dormouse/dormouse/tool/Decision", "ofReviewer", "(Ljava/lang/String;)Lcom/example/dormouse/dormouse/tool/Decision;"⟩ : MethodName) prog_57_method_6_code 2 (some (.object "com/example/dormouse/dormouse/tool/Decision")) ({ frames := 1, cells := 0, slots := 0, locals := 14 } : Room) #[.null] vm h (fun v vm' h' => v = some .null ∧ h' = h) := by
  refine Ctr.of_go (L0 := #[.val (.null), .unset]) (by first | exact plainFor_of_name (by first | (simp [plainName, overriddenIn]; done) | decide +kernel) | decide +kernel) (fun m => by first | (simp [entryFrame, mkF, argsToLocals, Value.category, maxLocals]; done) | rfl) (fun p e s m below meth c vmi chi => ?_)
  refine Go.know fun hE1 _ _ => ?_
  refine Go.getstatic 3 d_prog_57_m6_0 rfl (W.1 83 rfl) (D.1.ext hE1) ?_
  refine Go.getfield 6 d_prog_57_m6_3 rfl (W.1 85 rfl) (D.2.2.1.ext hE1) ?_
  refine Go.aload_n 7 d_prog_57_m6_6 rfl rfl rfl ?_
  refine Go.invokevirtual (rest := []) 0 na [.null] 10 d_prog_57_m6_7 rfl (D.2.2.2.2.1.ext hE1).exa (W.1 87 rfl) (W.1 88 rfl) (fun s hs => notFace_of_selects (args := #[]) (mvT hs (W.1 90 rfl))) (W.1 90 rfl) (W.1 89 rfl) (W.1 5 rfl) (W.1 91 rfl) (by decide) (cEqNull W ) (by decide +kernel : parseMethodDescriptor "(Ljava/lang/Object;)Z" = some ⟨[(.object "java/lang/Object")], (some .boolean)⟩) rfl rfl rfl (nl rfl) (nl rfl) (nl rfl) (nl rfl) (nl rfl) (fun v2 vm2 h2 ⟨rv, hh⟩ c2 => ?_)
  subst rv; replace hh := hh.symm; subst hh
  refine Go.ifeq 20 13 d_prog_57_m6_10 (by decide) rfl rfl (fun q3 => ?_) (fun q3 => absurd rfl q3)
  refine Go.know fun hE4 _ _ => ?_
  refine Go.getstatic 23 d_prog_57_m6_20 rfl (W.1 96 rfl) (D.2.1.ext hE4) ?_
  refine Go.getfield 26 d_prog_57_m6_23 rfl (W.1 85 rfl) (D.2.2.2.1.ext hE4) ?_
  refine Go.aload_n 27 d_prog_57_m6_26 rfl rfl rfl ?_
  refine Go.invokevirtual (rest := []) 0 nd [.null] 30 d_prog_57_m6_27 rfl (D.2.2.2.2.2.ext hE4).exa (W.1 87 rfl) (W.1 88 rfl) (fun s hs => notFace_of_selects (args := #[]) (mvT hs (W.1 90 rfl))) (W.1 90 rfl) (W.1 89 rfl) (W.1 5 rfl) (W.1 91 rfl) (by decide) (cEqNull W ) (by decide +kernel : parseMethodDescriptor "(Ljava/lang/Object;)Z" = some ⟨[(.object "java/lang/Object")], (some .boolean)⟩) rfl rfl rfl (nl rfl) (nl rfl) (nl rfl) (nl rfl) (nl rfl) (fun v5 vm5 h5 ⟨rv, hh⟩ c5 => ?_)
  subst rv; replace hh := hh.symm; subst hh
  refine Go.ifeq 40 33 d_prog_57_m6_30 (by decide) rfl rfl (fun q6 => ?_) (fun q6 => absurd rfl q6)
  refine Go.aconst_null 41 d_prog_57_m6_40 rfl ?_
  refine Go.astore_n #[.val (.null), .val (.null)] 42 d_prog_57_m6_41 rfl rfl rfl ?_
  refine Go.aload_n 43 d_prog_57_m6_42 rfl rfl rfl ?_
  exact Go.areturn d_prog_57_m6_43 rfl rfl rfl (nl rfl) (nl rfl) (fun vm' ch => ⟨rfl, rfl⟩)
set_option maxRecDepth 65536 in
set_option maxHeartbeats 40000000 in
theorem cLaw {l : Launch} {Z : State} {a0 : Array Value} (W : Wd Z a0)  {vm : Vm} {h : Heap} {kind pos ch len : Int32} {ap dn na nd : Addr} (D : Dec Z ap dn na nd) :
    Ctr false l Z a0 consts_1 x code maxLocals ret room_1 #[.int kind, .int pos, .int ch, .int len] vm h (fun v vm' h' => v = some (.int 1)) := by
  refine Ctr.of_go (L0 := #[.val (.int kind), .val (.int pos), .val (.int ch), .val (.int len), .unset, .unset, .unset, .unset, .unset, .unset, .unset, .unset, .unset]) (by first | exact plainFor_of_name (by first | (simp [plainName, overriddenIn]; done) | decide +kernel) | decide +kernel) (fun m => by first | (simp [entryFrame, mkF, argsToLocals, Value.category, maxLocals]; done) | rfl) (fun p e s m below meth c vmi chi => ?_)
  refine Go.iload_n 1 at_0 rfl rfl ?_
  refine Go.bipush (7) 3 at_1 rfl rfl ?_
  refine Go.iand (kind &&& (7 : Int32)) 4 at_3 rfl rfl ?_
  refine Go.istore #[.val (.int kind), .val (.int pos), .val (.int ch), .val (.int len), .val (.int (kind &&& (7 : Int32))), .unset, .unset, .unset, .unset, .unset, .unset, .unset, .unset] 6 at_4 rfl rfl ?_
  refine Go.iload 8 at_6 rfl rfl ?_
  refine Go.iconst (4) 9 at_8 rfl rfl ?_
  refine Go.if_icmpne 18 12 at_9 (by decide) rfl rfl (fun q1 => ?_) (fun q1 => ?_)
  · refine Go.iload 20 at_18 rfl rfl ?_
    refine Go.invokestatic (rest := []) 0 [.int (kind &&& (7 : Int32))] 23 at_20 rfl (W.1 0 rfl) (W.1 1 rfl) (W.1 2 rfl) (W.1 3 rfl) (by decide) (cBase W (x := (kind &&& (7 : Int32)))) (by decide +kernel : parseMethodDescriptor "(I)Ljava/lang/String;" = some ⟨[.int], (some (.object "java/lang/String"))⟩) rfl rfl rfl (nl rfl) (nl rfl) (nl rfl) (nl rfl) (nl rfl) (fun v2 vm2 h2 ⟨ba, cs, rv, E2, T2⟩ c2 => ?_)
    subst rv
    refine Go.astore #[.val (.int kind), .val (.int pos), .val (.int ch), .val (.int len), .val (.int (kind &&& (7 : Int32))), .unset, .val (.ref ba), .unset, .unset, .unset, .unset, .unset, .unset] 25 at_23 rfl rfl rfl ?_
    refine Go.iload_n 26 at_25 rfl rfl ?_
    refine Go.iconst (3) 27 at_26 rfl rfl ?_
    refine Go.ishr (kind >>> ((3 : Int32) &&& 31)) 28 at_27 rfl rfl ?_
    refine Go.iconst (1) 29 at_28 rfl rfl ?_
    refine Go.iand ((kind >>> ((3 : Int32) &&& 31)) &&& (1 : Int32)) 30 at_29 rfl rfl ?_
    have J38 : ∀ (r : Int32), Go false p l e room_1 s m #[.int kind, .int pos, .int ch, .int len] below meth c code maxLocals "law" ret Z a0 consts_1 "com/example/dormouse/dormouse/tool/DecisionOfReviewerPinLaw" (fun v vm' h' => v = some (.int 1)) vm2 h2 2 40 38 #[.val (.int kind), .val (.int pos), .val (.int ch), .val (.int len), .val (.int (kind &&& (7 : Int32))), .unset, .val (.ref ba), .unset, .unset, .unset, .unset, .unset, .unset] [.int r] := by
      intro r
      refine Go.istore #[.val (.int kind), .val (.int pos), .val (.int ch), .val (.int len), .val (.int (kind &&& (7 : Int32))), .unset, .val (.ref ba), .val (.int r), .unset, .unset, .unset, .unset, .unset] 40 at_38 rfl rfl ?_
      refine Go.iload 42 at_40 rfl rfl ?_
      have J53 : ∀ (pp : Int32), Go false p l e room_1 s m #[.int kind, .int pos, .int ch, .int len] below meth c code maxLocals "law" ret Z a0 consts_1 "com/example/dormouse/dormouse/tool/DecisionOfReviewerPinLaw" (fun v vm' h' => v = some (.int 1)) vm2 h2 2 40 53 #[.val (.int kind), .val (.int pos), .val (.int ch), .val (.int len), .val (.int (kind &&& (7 : Int32))), .unset, .val (.ref ba), .val (.int r), .unset, .unset, .unset, .unset, .unset] [.int pp] := by
        intro pp
        refine Go.istore #[.val (.int kind), .val (.int pos), .val (.int ch), .val (.int len), .val (.int (kind &&& (7 : Int32))), .unset, .val (.ref ba), .val (.int r), .val (.int pp), .unset, .unset, .unset, .unset] 55 at_53 rfl rfl ?_
        refine Go.iload_n 56 at_55 rfl rfl ?_
        refine Go.sipush (255) 59 at_56 rfl rfl ?_
        refine Go.iand (ch &&& (255 : Int32)) 60 at_59 rfl rfl ?_
        refine Go.i2c (ch &&& (255 : Int32)) 61 at_60 rfl (i2c_mask _) ?_
        refine Go.istore #[.val (.int kind), .val (.int pos), .val (.int ch), .val (.int len), .val (.int (kind &&& (7 : Int32))), .unset, .val (.ref ba), .val (.int r), .val (.int pp), .val (.int (ch &&& (255 : Int32))), .unset, .unset, .unset] 63 at_61 rfl rfl ?_
        refine Go.iload_n 64 at_63 rfl rfl ?_
        refine Go.iconst (3) 65 at_64 rfl rfl ?_
        refine Go.iand (len &&& (3 : Int32)) 66 at_65 rfl rfl ?_
        refine Go.istore #[.val (.int kind), .val (.int pos), .val (.int ch), .val (.int len), .val (.int (kind &&& (7 : Int32))), .unset, .val (.ref ba), .val (.int r), .val (.int pp), .val (.int (ch &&& (255 : Int32))), .val (.int (len &&& (3 : Int32))), .unset, .unset] 68 at_66 rfl rfl ?_
        refine Go.aload 70 at_68 rfl rfl rfl ?_
        refine goStrLen W 0 73 at_70 rfl (W.1 12 rfl) T2 rfl rfl (nl rfl) (nl rfl) (nl rfl) (nl rfl) (nl rfl) ?_
        refine Go.istore #[.val (.int kind), .val (.int pos), .val (.int ch), .val (.int len), .val (.int (kind &&& (7 : Int32))), .unset, .val (.ref ba), .val (.int r), .val (.int pp), .val (.int (ch &&& (255 : Int32))), .val (.int (len &&& (3 : Int32))), .val (.int (Int32.ofNat cs.length)), .unset] 75 at_73 rfl rfl ?_
        refine Go.iload 77 at_75 rfl rfl ?_
        refine Go.iconst (1) 78 at_77 rfl rfl ?_
        have J106 : ∀ (vmj : Vm) (lv : Int32), Go false p l e room_1 s m #[.int kind, .int pos, .int ch, .int len] below meth c code maxLocals "law" ret Z a0 consts_1 "com/example/dormouse/dormouse/tool/DecisionOfReviewerPinLaw" (fun v vm' h' => v = some (.int 1)) vmj h2 2 40 106 #[.val (.int kind), .val (.int pos), .val (.int ch), .val (.int len), .val (.int (kind &&& (7 : Int32))), .unset, .val (.ref ba), .val (.int r), .val (.int pp), .val (.int (ch &&& (255 : Int32))), .val (.int (len &&& (3 : Int32))), .val (.int lv), .unset] [] := by
          intro vmj lv
          refine Go.bipush (10) 108 at_106 rfl rfl ?_
          refine Go.newarray 10 110 at_108 rfl (W.1 29 rfl) (by decide) (by decide) (by decide) (nl rfl) (nl rfl) (fun aa h3 e3 E3 ⟨k3, B3⟩ S3 z3 c3 => ?_)
          have A3 : Arv Z h3 aa k3 .char (10 : Int32) [.int 0, .int 0, .int 0, .int 0, .int 0, .int 0, .int 0, .int 0, .int 0, .int 0] (.int 0) := B3.pad (pad_rep [] (.int 0) 10)
          refine Go.astore #[.val (.int kind), .val (.int pos), .val (.int ch), .val (.int len), .val (.int (kind &&& (7 : Int32))), .unset, .val (.ref ba), .val (.int r), .val (.int pp), .val (.int (ch &&& (255 : Int32))), .val (.int (len &&& (3 : Int32))), .val (.int lv), .val (.ref aa)] 112 at_110 rfl rfl rfl ?_
          refine Go.aload 114 at_112 rfl rfl rfl ?_
          refine Go.iconst (0) 115 at_114 rfl rfl ?_
          refine Go.aload 117 at_115 rfl rfl rfl ?_
          refine Go.iconst (0) 118 at_117 rfl rfl ?_
          refine Go.iload 120 at_118 rfl rfl ?_
          refine Go.iload 122 at_120 rfl rfl ?_
          have f4 := T2.ext E3
          refine Go.invokestatic (rest := [.int (0 : Int32), .ref aa]) 2 [.ref ba, .int (0 : Int32), .int pp, .int (ch &&& (255 : Int32))] 125 at_122 rfl (W.1 30 rfl) (W.1 31 rfl) (W.1 2 rfl) (W.1 32 rfl) (by decide) (cPick W (i := 0) (by decide) f4 (and255 _)) (by decide +kernel : parseMethodDescriptor "(Ljava/lang/String;IIC)C" = some ⟨[(.object "java/lang/String"), .int, .int, .char], (some .char)⟩) rfl rfl rfl (nl rfl) (nl rfl) (nl rfl) (nl rfl) (nl rfl) (fun v5 vm5 h5 ⟨⟨y0_, rv, hy0_⟩, hh⟩ c5 => ?_)
          subst rv; replace hh := hh.symm; subst hh
          have f6 := CHr.safe c5 A3.lt S3
          have L6 := Nat.lt_of_lt_of_le A3.lt c5.2.1
          refine Go.castore 0 y0_ [.int y0_, .int 0, .int 0, .int 0, .int 0, .int 0, .int 0, .int 0, .int 0, .int 0] 126 at_125 rfl A3 (by decide) rfl (nl rfl) (narC hy0_) rfl f6 z3 (fun h7 K7 A7 S7 c7 => ?_)
          have E7 := Ext.kp1 E3 K7 e3
          refine Go.aload 128 at_126 rfl rfl rfl ?_
          refine Go.iconst (1) 129 at_128 rfl rfl ?_
          refine Go.aload 131 at_129 rfl rfl rfl ?_
          refine Go.iconst (1) 132 at_131 rfl rfl ?_
          refine Go.iload 134 at_132 rfl rfl ?_
          refine Go.iload 136 at_134 rfl rfl ?_
          have f8 := T2.ext E7
          refine Go.invokestatic (rest := [.int (1 : Int32), .ref aa]) 2 [.ref ba, .int (1 : Int32), .int pp, .int (ch &&& (255 : Int32))] 139 at_136 rfl (W.1 30 rfl) (W.1 31 rfl) (W.1 2 rfl) (W.1 32 rfl) (by decide) (cPick W (i := 1) (by decide) f8 (and255 _)) (by decide +kernel : parseMethodDescriptor "(Ljava/lang/String;IIC)C" = some ⟨[(.object "java/lang/String"), .int, .int, .char], (some .char)⟩) rfl rfl rfl (nl rfl) (nl rfl) (nl rfl) (nl rfl) (nl rfl) (fun v9 vm9 h9 ⟨⟨y1_, rv, hy1_⟩, hh⟩ c9 => ?_)
          subst rv; replace hh := hh.symm; subst hh
          have f10 := CHr.safe c9 A7.lt S7
          have L10 := Nat.lt_of_lt_of_le A7.lt c9.2.1
          refine Go.castore 1 y1_ [.int y0_, .int y1_, .int 0, .int 0, .int 0, .int 0, .int 0, .int 0, .int 0, .int 0] 140 at_139 rfl A7 (by decide) rfl (nl rfl) (narC hy1_) rfl f10 z3 (fun h11 K11 A11 S11 c11 => ?_)
          have E11 := Ext.kp1 E7 K11 e3
          refine Go.aload 142 at_140 rfl rfl rfl ?_
          refine Go.iconst (2) 143 at_142 rfl rfl ?_
          refine Go.aload 145 at_143 rfl rfl rfl ?_
          refine Go.iconst (2) 146 at_145 rfl rfl ?_
          refine Go.iload 148 at_146 rfl rfl ?_
          refine Go.iload 150 at_148 rfl rfl ?_
          have f12 := T2.ext E11
          refine Go.invokestatic (rest := [.int (2 : Int32), .ref aa]) 2 [.ref ba, .int (2 : Int32), .int pp, .int (ch &&& (255 : Int32))] 153 at_150 rfl (W.1 30 rfl) (W.1 31 rfl) (W.1 2 rfl) (W.1 32 rfl) (by decide) (cPick W (i := 2) (by decide) f12 (and255 _)) (by decide +kernel : parseMethodDescriptor "(Ljava/lang/String;IIC)C" = some ⟨[(.object "java/lang/String"), .int, .int, .char], (some .char)⟩) rfl rfl rfl (nl rfl) (nl rfl) (nl rfl) (nl rfl) (nl rfl) (fun v13 vm13 h13 ⟨⟨y2_, rv, hy2_⟩, hh⟩ c13 => ?_)
          subst rv; replace hh := hh.symm; subst hh
          have f14 := CHr.safe c13 A11.lt S11
          have L14 := Nat.lt_of_lt_of_le A11.lt c13.2.1
          refine Go.castore 2 y2_ [.int y0_, .int y1_, .int y2_, .int 0, .int 0, .int 0, .int 0, .int 0, .int 0, .int 0] 154 at_153 rfl A11 (by decide) rfl (nl rfl) (narC hy2_) rfl f14 z3 (fun h15 K15 A15 S15 c15 => ?_)
          have E15 := Ext.kp1 E11 K15 e3
          refine Go.aload 156 at_154 rfl rfl rfl ?_
          refine Go.iconst (3) 157 at_156 rfl rfl ?_
          refine Go.aload 159 at_157 rfl rfl rfl ?_
          refine Go.iconst (3) 160 at_159 rfl rfl ?_
          refine Go.iload 162 at_160 rfl rfl ?_
          refine Go.iload 164 at_162 rfl rfl ?_
          have f16 := T2.ext E15
          refine Go.invokestatic (rest := [.int (3 : Int32), .ref aa]) 2 [.ref ba, .int (3 : Int32), .int pp, .int (ch &&& (255 : Int32))] 167 at_164 rfl (W.1 30 rfl) (W.1 31 rfl) (W.1 2 rfl) (W.1 32 rfl) (by decide) (cPick W (i := 3) (by decide) f16 (and255 _)) (by decide +kernel : parseMethodDescriptor "(Ljava/lang/String;IIC)C" = some ⟨[(.object "java/lang/String"), .int, .int, .char], (some .char)⟩) rfl rfl rfl (nl rfl) (nl rfl) (nl rfl) (nl rfl) (nl rfl) (fun v17 vm17 h17 ⟨⟨y3_, rv, hy3_⟩, hh⟩ c17 => ?_)
          subst rv; replace hh := hh.symm; subst hh
          have f18 := CHr.safe c17 A15.lt S15
          have L18 := Nat.lt_of_lt_of_le A15.lt c17.2.1
          refine Go.castore 3 y3_ [.int y0_, .int y1_, .int y2_, .int y3_, .int 0, .int 0, .int 0, .int 0, .int 0, .int 0] 168 at_167 rfl A15 (by decide) rfl (nl rfl) (narC hy3_) rfl f18 z3 (fun h19 K19 A19 S19 c19 => ?_)
          have E19 := Ext.kp1 E15 K19 e3
          refine Go.aload 170 at_168 rfl rfl rfl ?_
          refine Go.iconst (4) 171 at_170 rfl rfl ?_
          refine Go.aload 173 at_171 rfl rfl rfl ?_
          refine Go.iconst (4) 174 at_173 rfl rfl ?_
          refine Go.iload 176 at_174 rfl rfl ?_
          refine Go.iload 178 at_176 rfl rfl ?_
          have f20 := T2.ext E19
          refine Go.invokestatic (rest := [.int (4 : Int32), .ref aa]) 2 [.ref ba, .int (4 : Int32), .int pp, .int (ch &&& (255 : Int32))] 181 at_178 rfl (W.1 30 rfl) (W.1 31 rfl) (W.1 2 rfl) (W.1 32 rfl) (by decide) (cPick W (i := 4) (by decide) f20 (and255 _)) (by decide +kernel : parseMethodDescriptor "(Ljava/lang/String;IIC)C" = some ⟨[(.object "java/lang/String"), .int, .int, .char], (some .char)⟩) rfl rfl rfl (nl rfl) (nl rfl) (nl rfl) (nl rfl) (nl rfl) (fun v21 vm21 h21 ⟨⟨y4_, rv, hy4_⟩, hh⟩ c21 => ?_)
          subst rv; replace hh := hh.symm; subst hh
          have f22 := CHr.safe c21 A19.lt S19
          have L22 := Nat.lt_of_lt_of_le A19.lt c21.2.1
          refine Go.castore 4 y4_ [.int y0_, .int y1_, .int y2_, .int y3_, .int y4_, .int 0, .int 0, .int 0, .int 0, .int 0] 182 at_181 rfl A19 (by decide) rfl (nl rfl) (narC hy4_) rfl f22 z3 (fun h23 K23 A23 S23 c23 => ?_)
          have E23 := Ext.kp1 E19 K23 e3
          refine Go.aload 184 at_182 rfl rfl rfl ?_
          refine Go.iconst (5) 185 at_184 rfl rfl ?_
          refine Go.aload 187 at_185 rfl rfl rfl ?_
          refine Go.iconst (5) 188 at_187 rfl rfl ?_
          refine Go.iload 190 at_188 rfl rfl ?_
          refine Go.iload 192 at_190 rfl rfl ?_
          have f24 := T2.ext E23
          refine Go.invokestatic (rest := [.int (5 : Int32), .ref aa]) 2 [.ref ba, .int (5 : Int32), .int pp, .int (ch &&& (255 : Int32))] 195 at_192 rfl (W.1 30 rfl) (W.1 31 rfl) (W.1 2 rfl) (W.1 32 rfl) (by decide) (cPick W (i := 5) (by decide) f24 (and255 _)) (by decide +kernel : parseMethodDescriptor "(Ljava/lang/String;IIC)C" = some ⟨[(.object "java/lang/String"), .int, .int, .char], (some .char)⟩) rfl rfl rfl (nl rfl) (nl rfl) (nl rfl) (nl rfl) (nl rfl) (fun v25 vm25 h25 ⟨⟨y5_, rv, hy5_⟩, hh⟩ c25 => ?_)
          subst rv; replace hh := hh.symm; subst hh
          have f26 := CHr.safe c25 A23.lt S23
          have L26 := Nat.lt_of_lt_of_le A23.lt c25.2.1
          refine Go.castore 5 y5_ [.int y0_, .int y1_, .int y2_, .int y3_, .int y4_, .int y5_, .int 0, .int 0, .int 0, .int 0] 196 at_195 rfl A23 (by decide) rfl (nl rfl) (narC hy5_) rfl f26 z3 (fun h27 K27 A27 S27 c27 => ?_)
          have E27 := Ext.kp1 E23 K27 e3
          refine Go.aload 198 at_196 rfl rfl rfl ?_
          refine Go.bipush (6) 200 at_198 rfl rfl ?_
          refine Go.aload 202 at_200 rfl rfl rfl ?_
          refine Go.bipush (6) 204 at_202 rfl rfl ?_
          refine Go.iload 206 at_204 rfl rfl ?_
          refine Go.iload 208 at_206 rfl rfl ?_
          have f28 := T2.ext E27
          refine Go.invokestatic (rest := [.int (6 : Int32), .ref aa]) 2 [.ref ba, .int (6 : Int32), .int pp, .int (ch &&& (255 : Int32))] 211 at_208 rfl (W.1 30 rfl) (W.1 31 rfl) (W.1 2 rfl) (W.1 32 rfl) (by decide) (cPick W (i := 6) (by decide) f28 (and255 _)) (by decide +kernel : parseMethodDescriptor "(Ljava/lang/String;IIC)C" = some ⟨[(.object "java/lang/String"), .int, .int, .char], (some .char)⟩) rfl rfl rfl (nl rfl) (nl rfl) (nl rfl) (nl rfl) (nl rfl) (fun v29 vm29 h29 ⟨⟨y6_, rv, hy6_⟩, hh⟩ c29 => ?_)
          subst rv; replace hh := hh.symm; subst hh
          have f30 := CHr.safe c29 A27.lt S27
          have L30 := Nat.lt_of_lt_of_le A27.lt c29.2.1
          refine Go.castore 6 y6_ [.int y0_, .int y1_, .int y2_, .int y3_, .int y4_, .int y5_, .int y6_, .int 0, .int 0, .int 0] 212 at_211 rfl A27 (by decide) rfl (nl rfl) (narC hy6_) rfl f30 z3 (fun h31 K31 A31 S31 c31 => ?_)
          have E31 := Ext.kp1 E27 K31 e3
          refine Go.aload 214 at_212 rfl rfl rfl ?_
          refine Go.bipush (7) 216 at_214 rfl rfl ?_
          refine Go.aload 218 at_216 rfl rfl rfl ?_
          refine Go.bipush (7) 220 at_218 rfl rfl ?_
          refine Go.iload 222 at_220 rfl rfl ?_
          refine Go.iload 224 at_222 rfl rfl ?_
          have f32 := T2.ext E31
          refine Go.invokestatic (rest := [.int (7 : Int32), .ref aa]) 2 [.ref ba, .int (7 : Int32), .int pp, .int (ch &&& (255 : Int32))] 227 at_224 rfl (W.1 30 rfl) (W.1 31 rfl) (W.1 2 rfl) (W.1 32 rfl) (by decide) (cPick W (i := 7) (by decide) f32 (and255 _)) (by decide +kernel : parseMethodDescriptor "(Ljava/lang/String;IIC)C" = some ⟨[(.object "java/lang/String"), .int, .int, .char], (some .char)⟩) rfl rfl rfl (nl rfl) (nl rfl) (nl rfl) (nl rfl) (nl rfl) (fun v33 vm33 h33 ⟨⟨y7_, rv, hy7_⟩, hh⟩ c33 => ?_)
          subst rv; replace hh := hh.symm; subst hh
          have f34 := CHr.safe c33 A31.lt S31
          have L34 := Nat.lt_of_lt_of_le A31.lt c33.2.1
          refine Go.castore 7 y7_ [.int y0_, .int y1_, .int y2_, .int y3_, .int y4_, .int y5_, .int y6_, .int y7_, .int 0, .int 0] 228 at_227 rfl A31 (by decide) rfl (nl rfl) (narC hy7_) rfl f34 z3 (fun h35 K35 A35 S35 c35 => ?_)
          have E35 := Ext.kp1 E31 K35 e3
          refine Go.aload 230 at_228 rfl rfl rfl ?_
          refine Go.bipush (8) 232 at_230 rfl rfl ?_
          refine Go.aload 234 at_232 rfl rfl rfl ?_
          refine Go.bipush (8) 236 at_234 rfl rfl ?_
          refine Go.iload 238 at_236 rfl rfl ?_
          refine Go.iload 240 at_238 rfl rfl ?_
          have f36 := T2.ext E35
          refine Go.invokestatic (rest := [.int (8 : Int32), .ref aa]) 2 [.ref ba, .int (8 : Int32), .int pp, .int (ch &&& (255 : Int32))] 243 at_240 rfl (W.1 30 rfl) (W.1 31 rfl) (W.1 2 rfl) (W.1 32 rfl) (by decide) (cPick W (i := 8) (by decide) f36 (and255 _)) (by decide +kernel : parseMethodDescriptor "(Ljava/lang/String;IIC)C" = some ⟨[(.object "java/lang/String"), .int, .int, .char], (some .char)⟩) rfl rfl rfl (nl rfl) (nl rfl) (nl rfl) (nl rfl) (nl rfl) (fun v37 vm37 h37 ⟨⟨y8_, rv, hy8_⟩, hh⟩ c37 => ?_)
          subst rv; replace hh := hh.symm; subst hh
          have f38 := CHr.safe c37 A35.lt S35
          have L38 := Nat.lt_of_lt_of_le A35.lt c37.2.1
          refine Go.castore 8 y8_ [.int y0_, .int y1_, .int y2_, .int y3_, .int y4_, .int y5_, .int y6_, .int y7_, .int y8_, .int 0] 244 at_243 rfl A35 (by decide) rfl (nl rfl) (narC hy8_) rfl f38 z3 (fun h39 K39 A39 S39 c39 => ?_)
          have E39 := Ext.kp1 E35 K39 e3
          refine Go.aload 246 at_244 rfl rfl rfl ?_
          refine Go.bipush (9) 248 at_246 rfl rfl ?_
          refine Go.aload 250 at_248 rfl rfl rfl ?_
          refine Go.bipush (9) 252 at_250 rfl rfl ?_
          refine Go.iload 254 at_252 rfl rfl ?_
          refine Go.iload 256 at_254 rfl rfl ?_
          have f40 := T2.ext E39
          refine Go.invokestatic (rest := [.int (9 : Int32), .ref aa]) 2 [.ref ba, .int (9 : Int32), .int pp, .int (ch &&& (255 : Int32))] 259 at_256 rfl (W.1 30 rfl) (W.1 31 rfl) (W.1 2 rfl) (W.1 32 rfl) (by decide) (cPick W (i := 9) (by decide) f40 (and255 _)) (by decide +kernel : parseMethodDescriptor "(Ljava/lang/String;IIC)C" = some ⟨[(.object "java/lang/String"), .int, .int, .char], (some .char)⟩) rfl rfl rfl (nl rfl) (nl rfl) (nl rfl) (nl rfl) (nl rfl) (fun v41 vm41 h41 ⟨⟨y9_, rv, hy9_⟩, hh⟩ c41 => ?_)
          subst rv; replace hh := hh.symm; subst hh
          have f42 := CHr.safe c41 A39.lt S39
          have L42 := Nat.lt_of_lt_of_le A39.lt c41.2.1
          refine Go.castore 9 y9_ [.int y0_, .int y1_, .int y2_, .int y3_, .int y4_, .int y5_, .int y6_, .int y7_, .int y8_, .int y9_] 260 at_259 rfl A39 (by decide) rfl (nl rfl) (narC hy9_) rfl f42 z3 (fun h43 K43 A43 S43 c43 => ?_)
          have E43 := Ext.kp1 E39 K43 e3
          refine Go.aload 262 at_260 rfl rfl rfl ?_
          refine Go.iload 264 at_262 rfl rfl ?_
          refine Go.invokestatic (rest := []) 0 [.ref aa, .int lv] 267 at_264 rfl (W.1 55 rfl) (W.1 56 rfl) (W.1 2 rfl) (W.1 57 rfl) (by decide) (cCut W A43 hy0_ hy1_ hy2_ hy3_ hy4_ hy5_ hy6_ hy7_ hy8_ hy9_) (by decide +kernel : parseMethodDescriptor "([CI)Ljava/lang/String;" = some ⟨[(.array .char), .int], (some (.object "java/lang/String"))⟩) rfl rfl rfl (nl rfl) (nl rfl) (nl rfl) (nl rfl) (nl rfl) (fun v44 vm44 h44 ⟨na_, ds, rv, E44, T44⟩ c44 => ?_)
          subst rv
          refine Go.astore #[.val (.int kind), .val (.int pos), .val (.int ch), .val (.int len), .val (.int (kind &&& (7 : Int32))), .val (.ref na_), .val (.ref ba), .val (.int r), .val (.int pp), .val (.int (ch &&& (255 : Int32))), .val (.int (len &&& (3 : Int32))), .val (.int lv), .val (.ref aa)] 269 at_267 rfl rfl rfl ?_
          refine Go.aload 271 at_269 rfl rfl rfl ?_
          refine Go.invokestatic (rest := []) 0 [.ref na_] 274 at_271 rfl (W.1 79 rfl) (W.1 80 rfl) (W.1 81 rfl) (W.1 82 rfl) (by decide) (cOf W D T44) (by decide +kernel : parseMethodDescriptor "(Ljava/lang/String;)Lcom/example/dormouse/dormouse/tool/Decision;" = some ⟨[(.object "java/lang/String")], (some (.object "com/example/dormouse/dormouse/tool/Decision"))⟩) rfl rfl rfl (nl rfl) (nl rfl) (nl rfl) (nl rfl) (nl rfl) (fun v45 vm45 h45 ⟨rv, hh⟩ c45 => ?_)
          subst rv; replace hh := hh.symm; subst hh
          have hg : Value.isRef (if ds = [97, 112, 112, 114, 111, 118, 101] then Value.ref ap else if ds = [100, 101, 110, 121] then .ref dn else .null) = true := by split; rfl; split <;> rfl
          obtain ⟨gv, eg⟩ : ∃ g, g = (if ds = [97, 112, 112, 114, 111, 118, 101] then Value.ref ap else if ds = [100, 101, 110, 121] then .ref dn else .null) := ⟨_, rfl⟩
          rw [← eg] at hg ⊢
          refine Go.astore #[.val (.int kind), .val (.int pos), .val (.int ch), .val (.int len), .val (.int (kind &&& (7 : Int32))), .val (.ref na_), .val gv, .val (.int r), .val (.int pp), .val (.int (ch &&& (255 : Int32))), .val (.int (len &&& (3 : Int32))), .val (.int lv), .val (.ref aa)] 276 at_274 rfl hg (XS.store1 rfl (One.val rfl) (refCat hg)) ?_
          refine Go.aload 278 at_276 rfl rfl rfl ?_
          refine Go.ifnonnull_y 287 at_278 (by decide) rfl ?_
          refine Go.ldcS (text := "approve") (vs := [.int (97), .int (112), .int (112), .int (114), .int (111), .int (118), .int (101)]) (z := (7 : Int32)) 28 289 at_287 rfl rfl (W.1 4 rfl) (W.sub (by decide +kernel)) (by decide) lit_ok_approve.1 (by decide) (by decide) lit_ok_approve.2 (by decide) (nl rfl) (nl rfl) (fun y1 b46 k46 vm46 h46 E46 A46 C46 V46 B46 N46 c46 => ?_)
          have T46 : Str Z h46 y1 [97, 112, 112, 114, 111, 118, 101] := ⟨b46, k46, A46, C46, V46, B46, by decide, by decide⟩
          refine Go.aload 291 at_289 rfl rfl rfl ?_
          have f47 := T44.ext E46
          refine goStrEq W 0 294 at_291 rfl (W.1 98 rfl) T46 f47 rfl rfl (nl rfl) (nl rfl) (nl rfl) (nl rfl) (nl rfl) (fun p1 => ?_) (fun p1 => ?_)
          · refine Go.ifeq 305 297 at_294 (by decide) rfl rfl (fun q48 => absurd q48 (by decide)) (fun q48 => ?_)
            refine Go.know fun hE49 _ _ => ?_
            refine Go.getstatic 300 at_297 rfl (W.1 104 rfl) (D.1.ext hE49) ?_
            have eg2 : gv = .ref ap := eg.trans (by rw [if_pos p1.symm])
            subst eg2
            refine Go.astore #[.val (.int kind), .val (.int pos), .val (.int ch), .val (.int len), .val (.int (kind &&& (7 : Int32))), .val (.ref na_), .val (.ref ap), .val (.ref ap), .val (.int pp), .val (.int (ch &&& (255 : Int32))), .val (.int (len &&& (3 : Int32))), .val (.int lv), .val (.ref aa)] 302 at_300 rfl rfl rfl ?_
            refine Go.goto 326 at_302 (by decide) rfl ?_
            refine Go.aload 328 at_326 rfl rfl rfl ?_
            refine Go.aload 330 at_328 rfl rfl rfl ?_
            refine Go.acmp_n 333 at_330 rfl rfl rfl (by simp [XT.acmp]) ?_
            refine Go.iconst (1) 334 at_333 rfl rfl ?_
            refine Go.goto 338 at_334 (by decide) rfl ?_
            exact Go.ireturn at_338 rfl rfl (by simp) (nl rfl) (nl rfl) (fun vm' ch => rfl)
          · refine Go.ifeq 305 297 at_294 (by decide) rfl rfl (fun q50 => ?_) (fun q50 => absurd rfl q50)
            refine Go.ldcS (text := "deny") (vs := [.int (100), .int (101), .int (110), .int (121)]) (z := (4 : Int32)) 16 307 at_305 rfl rfl (W.1 99 rfl) (W.sub (by decide +kernel)) (by decide) lit_ok_deny.1 (by decide) (by decide) lit_ok_deny.2 (by decide) (nl rfl) (nl rfl) (fun y2 b51 k51 vm51 h51 E51 A51 C51 V51 B51 N51 c51 => ?_)
            have T51 : Str Z h51 y2 [100, 101, 110, 121] := ⟨b51, k51, A51, C51, V51, B51, by decide, by decide⟩
            refine Go.aload 309 at_307 rfl rfl rfl ?_
            have f52 := f47.ext E51
            refine goStrEq W 0 312 at_309 rfl (W.1 98 rfl) T51 f52 rfl rfl (nl rfl) (nl rfl) (nl rfl) (nl rfl) (nl rfl) (fun p2 => ?_) (fun p2 => ?_)
            · refine Go.ifeq 323 315 at_312 (by decide) rfl rfl (fun q53 => absurd q53 (by decide)) (fun q53 => ?_)
              refine Go.know fun hE54 _ _ => ?_
              refine Go.getstatic 318 at_315 rfl (W.1 102 rfl) (D.2.1.ext hE54) ?_
              have eg2 : gv = .ref dn := eg.trans (by rw [if_neg (fun z => p1 z.symm), if_pos p2.symm])
              subst eg2
              refine Go.astore #[.val (.int kind), .val (.int pos), .val (.int ch), .val (.int len), .val (.int (kind &&& (7 : Int32))), .val (.ref na_), .val (.ref dn), .val (.ref dn), .val (.int pp), .val (.int (ch &&& (255 : Int32))), .val (.int (len &&& (3 : Int32))), .val (.int lv), .val (.ref aa)] 320 at_318 rfl rfl rfl ?_
              refine Go.goto 326 at_320 (by decide) rfl ?_
              refine Go.aload 328 at_326 rfl rfl rfl ?_
              refine Go.aload 330 at_328 rfl rfl rfl ?_
              refine Go.acmp_n 333 at_330 rfl rfl rfl (by simp [XT.acmp]) ?_
              refine Go.iconst (1) 334 at_333 rfl rfl ?_
              refine Go.goto 338 at_334 (by decide) rfl ?_
              exact Go.ireturn at_338 rfl rfl (by simp) (nl rfl) (nl rfl) (fun vm' ch => rfl)
            · refine Go.ifeq 323 315 at_312 (by decide) rfl rfl (fun q55 => ?_) (fun q55 => absurd rfl q55)
              have eg2 : gv = .null := eg.trans (by rw [if_neg (fun z => p1 z.symm), if_neg (fun z => p2 z.symm)])
              subst eg2
              refine Go.aconst_null 324 at_323 rfl ?_
              refine Go.astore #[.val (.int kind), .val (.int pos), .val (.int ch), .val (.int len), .val (.int (kind &&& (7 : Int32))), .val (.ref na_), .val (.null), .val (.null), .val (.int pp), .val (.int (ch &&& (255 : Int32))), .val (.int (len &&& (3 : Int32))), .val (.int lv), .val (.ref aa)] 326 at_324 rfl rfl rfl ?_
              refine Go.aload 328 at_326 rfl rfl rfl ?_
              refine Go.aload 330 at_328 rfl rfl rfl ?_
              refine Go.acmp_n 333 at_330 rfl rfl rfl (by simp [XT.acmp]) ?_
              refine Go.iconst (1) 334 at_333 rfl rfl ?_
              refine Go.goto 338 at_334 (by decide) rfl ?_
              exact Go.ireturn at_338 rfl rfl (by simp) (nl rfl) (nl rfl) (fun vm' ch => rfl)
        refine Go.if_icmpne 94 81 at_78 (by decide) rfl rfl (fun q56 => ?_) (fun q56 => ?_)
        · refine Go.iload 96 at_94 rfl rfl ?_
          refine Go.iconst (2) 97 at_96 rfl rfl ?_
          refine Go.if_icmpne 106 100 at_97 (by decide) rfl rfl (fun q57 => ?_) (fun q57 => ?_)
          · exact J106 _ _
          · refine Go.iload 102 at_100 rfl rfl ?_
            refine Go.iconst (1) 103 at_102 rfl rfl ?_
            refine Go.iadd ((Int32.ofNat cs.length) + (1 : Int32)) 104 at_103 rfl rfl ?_
            refine Go.istore #[.val (.int kind), .val (.int pos), .val (.int ch), .val (.int len), .val (.int (kind &&& (7 : Int32))), .unset, .val (.ref ba), .val (.int r), .val (.int pp), .val (.int (ch &&& (255 : Int32))), .val (.int (len &&& (3 : Int32))), .val (.int ((Int32.ofNat cs.length) + (1 : Int32))), .unset] 106 at_104 rfl rfl ?_
            exact J106 _ _
        · refine Go.iconst (0) 82 at_81 rfl rfl ?_
          refine Go.iload 84 at_82 rfl rfl ?_
          refine Go.iconst (1) 85 at_84 rfl rfl ?_
          refine Go.isub ((Int32.ofNat cs.length) - (1 : Int32)) 86 at_85 rfl rfl ?_
          refine Go.invokestatic (rest := []) 0 [.int (0 : Int32), .int ((Int32.ofNat cs.length) - (1 : Int32))] 89 at_86 rfl (W.1 25 rfl) (W.1 26 rfl) (W.1 27 rfl) (W.1 28 rfl) (by decide) (cMax W ) (by decide +kernel : parseMethodDescriptor "(II)I" = some ⟨[.int, .int], (some .int)⟩) rfl rfl rfl (nl rfl) (nl rfl) (nl rfl) (nl rfl) (nl rfl) (fun v58 vm58 h58 ⟨⟨z, rv⟩, hh⟩ c58 => ?_)
          subst rv; replace hh := hh.symm; subst hh
          refine Go.istore #[.val (.int kind), .val (.int pos), .val (.int ch), .val (.int len), .val (.int (kind &&& (7 : Int32))), .unset, .val (.ref ba), .val (.int r), .val (.int pp), .val (.int (ch &&& (255 : Int32))), .val (.int (len &&& (3 : Int32))), .val (.int z), .unset] 91 at_89 rfl rfl ?_
          refine Go.goto 106 at_91 (by decide) rfl ?_
          exact J106 _ _
      refine Go.ifeq 52 45 at_42 (by decide) rfl rfl (fun q59 => ?_) (fun q59 => ?_)
      · refine Go.iconst (-1) 53 at_52 rfl rfl ?_
        exact J53 _
      · refine Go.iload_n 46 at_45 rfl rfl ?_
        refine Go.bipush (15) 48 at_46 rfl rfl ?_
        refine Go.iand (pos &&& (15 : Int32)) 49 at_48 rfl rfl ?_
        refine Go.goto 53 at_49 (by decide) rfl ?_
        exact J53 _
    refine Go.ifeq 37 33 at_30 (by decide) rfl rfl (fun q60 => ?_) (fun q60 => ?_)
    · refine Go.iconst (0) 38 at_37 rfl rfl ?_
      exact J38 _
    · refine Go.iconst (1) 34 at_33 rfl rfl ?_
      refine Go.goto 38 at_34 (by decide) rfl ?_
      exact J38 _
  · refine Go.aconst_null 13 at_12 rfl ?_
    refine Go.astore #[.val (.int kind), .val (.int pos), .val (.int ch), .val (.int len), .val (.int (kind &&& (7 : Int32))), .val (.null), .unset, .unset, .unset, .unset, .unset, .unset, .unset] 15 at_13 rfl rfl rfl ?_
    refine Go.goto 269 at_15 (by decide) rfl ?_
    refine Go.aload 271 at_269 rfl rfl rfl ?_
    refine Go.invokestatic (rest := []) 0 [.null] 274 at_271 rfl (W.1 79 rfl) (W.1 80 rfl) (W.1 81 rfl) (W.1 82 rfl) (by decide) (cOfNull W D) (by decide +kernel : parseMethodDescriptor "(Ljava/lang/String;)Lcom/example/dormouse/dormouse/tool/Decision;" = some ⟨[(.object "java/lang/String")], (some (.object "com/example/dormouse/dormouse/tool/Decision"))⟩) rfl rfl rfl (nl rfl) (nl rfl) (nl rfl) (nl rfl) (nl rfl) (fun v61 vm61 h61 ⟨rv, hh⟩ c61 => ?_)
    subst rv; replace hh := hh.symm; subst hh
    refine Go.astore #[.val (.int kind), .val (.int pos), .val (.int ch), .val (.int len), .val (.int (kind &&& (7 : Int32))), .val (.null), .val (.null), .unset, .unset, .unset, .unset, .unset, .unset] 276 at_274 rfl rfl rfl ?_
    refine Go.aload 278 at_276 rfl rfl rfl ?_
    refine Go.ifnonnull_n 281 at_278 rfl ?_
    refine Go.aconst_null 282 at_281 rfl ?_
    refine Go.astore #[.val (.int kind), .val (.int pos), .val (.int ch), .val (.int len), .val (.int (kind &&& (7 : Int32))), .val (.null), .val (.null), .val (.null), .unset, .unset, .unset, .unset, .unset] 284 at_282 rfl rfl rfl ?_
    refine Go.goto 326 at_284 (by decide) rfl ?_
    refine Go.aload 328 at_326 rfl rfl rfl ?_
    refine Go.aload 330 at_328 rfl rfl rfl ?_
    refine Go.acmp_n 333 at_330 rfl rfl rfl (by simp [XT.acmp]) ?_
    refine Go.iconst (1) 334 at_333 rfl rfl ?_
    refine Go.goto 338 at_334 (by decide) rfl ?_
    exact Go.ireturn at_338 rfl rfl (by simp) (nl rfl) (nl rfl) (fun vm' ch => rfl)
set_option maxRecDepth 65536 in
theorem comes_1 {Post : Tables → Env → Array Value → State → Outcome → State → Prop} (hpost : ∀ tb e args s v u, (limb_1_1.after args s (.returned v) u = true ∧ limb_1_2.after args s (.returned v) u = true ∧ True) → Jvm.D.FramedW s (.returned v) u (Jvm.fieldLocs frame_1_writes args s ++ Jvm.arrayLocs frame_1_arrays args s ++ Jvm.staticLocs frame_1_statics s) 32 7360 → Post tb e args s (.returned v) u) :
    ArmFor flags0 classFile x code maxLocals ret World_1 tables_1 room_1 Calls_1 rest_1 Pre_1 Post := by
  intro l hfl _ _ p e ha hc hk s m args below hf hA hF happ hP
  obtain ⟨hcalls, hrest, hpre⟩ := hP
  obtain ⟨-, -, -, hnamed, -, -, -, hat⟩ := (Spec.applies_iff hf).mp happ
  obtain ⟨hg, hn⟩ := and_e (Cond.before_iff.mp (show (Jvm.Cond.and given_1 narrow_1).before args s = true from hpre))
  obtain ⟨g0, r0⟩ := and_e hg
  obtain ⟨g1, r1⟩ := and_e r0
  obtain ⟨g2, r2⟩ := and_e r1
  obtain ⟨g3, r3⟩ := and_e r2
  obtain ⟨w0, w1, w2, w3, rfl⟩ : ∃ w0 w1 w2 w3 : Value, args = #[w0, w1, w2, w3] := by
    have hs : args.size = 4 := by simpa [Cond.value, given_1] using g0
    obtain ⟨L⟩ := args
    match L, hs with
    | [w0, w1, w2, w3], _ => exact ⟨w0, w1, w2, w3, rfl⟩
  have hw := fun d (hd : d ∈ tables_1) => atoms_spec (ws := Jvm.Cond.code x code maxLocals ret :: tables_1) hat d (List.mem_cons_of_mem _ hd)
  obtain ⟨hsets, hown0⟩ := atoms_of _ (rest_1_c_eq ▸ (show rest_1_c.before _ s = true from hrest))
  obtain ⟨i0, ei0⟩ := is_v g1
  obtain rfl : w0 = (.int i0) := Option.some.inj ei0
  obtain ⟨i1, ei1⟩ := is_v g2
  obtain rfl : w1 = (.int i1) := Option.some.inj ei1
  obtain ⟨i2, ei2⟩ := is_v g3
  obtain rfl : w2 = (.int i2) := Option.some.inj ei2
  obtain ⟨i3, ei3⟩ := is_v r3
  obtain rfl : w3 = (.int i3) := Option.some.inj ei3
  have n5 := not_v (Cond.before_iff.mp (hsets _ (List.mem_of_getElem? (i := 2) rfl)))
  obtain ⟨zz, ez⟩ := is_v (Cond.before_iff.mp (hsets _ (List.mem_of_getElem? (i := 1) rfl)))
  have Sz : Sta s s.heap "java/lang/String" "COMPACT_STRINGS" "Z" (.int zz) := Sta.start ez (Or.inl (hsets _ (List.mem_of_getElem? (i := 0) rfl)))
  obtain ⟨vf, ef, rf⟩ := isR_v (Cond.before_iff.mp (hsets _ (List.mem_of_getElem? (i := 8) rfl)))
  have Sf : Sta s s.heap "jdk/internal/util/Preconditions" "SIOOBE_FORMATTER" "Ljava/util/function/BiFunction;" vf := Sta.start ef (Or.inl (hsets _ (List.mem_of_getElem? (i := 7) rfl)))
  have cz : ¬ (zz = (0 : Int32)) := gotF (Cond.eq_ints ez (Term.int_eval (0))) n5
  have W : Wd s #[.int i0, .int i1, .int i2, .int i3] := ⟨fun k _ q => hw _ (List.mem_of_getElem? q), ⟨zz, Sz, cz⟩, vf, Sf, rf⟩
  obtain ⟨c0, k0⟩ := and_e hn
  obtain ⟨c1, k1⟩ := and_e k0
  obtain ⟨c2, k2⟩ := and_e k1
  obtain ⟨c3, k3⟩ := and_e k2
  obtain ⟨c4, k4⟩ := and_e k3
  obtain ⟨c5, k5⟩ := and_e k4
  obtain ⟨c6, k6⟩ := and_e k5
  obtain ⟨c7, k7⟩ := and_e k6
  obtain ⟨c8, k8⟩ := and_e k7
  obtain ⟨c9, k9⟩ := and_e k8
  obtain ⟨c10, k10⟩ := and_e k9
  obtain ⟨c11, k11⟩ := and_e k10
  obtain ⟨c12, k12⟩ := and_e k11
  obtain ⟨c13, k13⟩ := and_e k12
  obtain ⟨c14, k14⟩ := and_e k13
  obtain ⟨c15, k15⟩ := and_e k14
  obtain ⟨c16, k16⟩ := and_e k15
  obtain ⟨c17, k17⟩ := and_e k16
  obtain ⟨c18, k18⟩ := and_e k17
  obtain ⟨c19, k19⟩ := and_e k18
  obtain ⟨ap, uap⟩ := exa_v c0
  obtain ⟨na, una⟩ := exa_v c1
  obtain ⟨dn, udn⟩ := exa_v c5
  obtain ⟨nd, und⟩ := exa_v c6
  have TA : Str s s.heap na [97, 112, 112, 114, 111, 118, 101] := strStart una c1 c2 c3 c4 (fun i hi => match i, hi with | 0, _ => c14 | 1, _ => c15 | 2, _ => c16 | 3, _ => c17 | 4, _ => c18 | 5, _ => c19 | 6, _ => k19) (by decide) (by decide)
  have TD : Str s s.heap nd [100, 101, 110, 121] := strStart und c6 c7 c8 c9 (fun i hi => match i, hi with | 0, _ => c10 | 1, _ => c11 | 2, _ => c12 | 3, _ => c13) (by decide) (by decide)
  have hD : Dec s ap dn na nd := ⟨Sta.start uap (Or.inr ⟨W.1 81 rfl, W.1 84 rfl⟩), Sta.start udn (Or.inr ⟨W.1 81 rfl, W.1 97 rfl⟩), Fld.start ((fld_at uap).symm.trans una), Fld.start ((fld_at udn).symm.trans und), TA, TD⟩
  have hEW : EW s #[.int i0, .int i1, .int i2, .int i3] consts_1 := (EW.cons (W.1 4 rfl) (by decide +kernel) (EW.cons (W.1 99 rfl) (by decide +kernel) (EW.cons (W.1 101 rfl) (by decide +kernel) (EW.cons (W.1 103 rfl) (by decide +kernel) (EW.cons (W.1 105 rfl) (by decide +kernel) (EW.cons (W.1 106 rfl) (by decide +kernel) (EW.cons (W.1 100 rfl) (by decide +kernel) EW.nil)))))))
  have H : CHv s consts_1 s.vm s.heap := CHv.start hEW (fun p hp => hcalls.1 p hp) (hsets _ (List.mem_of_getElem? (i := 2) rfl)) (W.1 7 rfl) (W.1 6 rfl)
  obtain ⟨n, o, h1, h2, h3, v, L, rfl, q1, -, -, N, hq, hnw⟩ := cLaw W (kind := i0) (pos := i1) (ch := i2) (len := i3) (l := l) hD tables_1 p e ha hc hk s m _ below hf ((Spec.applies_iff_loose hf).mp happ).1 ⟨rfl, State.Warmed39.refl s, rfl, CHr.refl H, Ext.rfl' _, hEW⟩ trivial
  subst q1
  obtain ⟨a1, a2, a3, a4⟩ := hq
  refine ⟨n, _, h1, h2, h3, hpost _ _ _ _ _ _ ⟨Cond.after_iff.mpr rfl, Cond.after_iff.mpr (eq_i res_at (Term.int_eval (1)) rfl), trivial⟩ ⟨a1, a2, a3, (a4.sift fun y hy => Or.inr (N y hy)).mono (by decide) (by decide)⟩⟩
theorem main_1_1 : Claimed_1_1 := comes_1 fun _ _ _ _ _ _ h hF => ⟨h.1, hF⟩
theorem main_1_2 : Claimed_1_2 := comes_1 fun _ _ _ _ _ _ h hF => ⟨h.2.1, hF⟩
end Jvm.Pilot.@@N@@
namespace Jvm.Pilot.@@N@@
open Jvm Jvm.ClassFile Sem Op Lib Jvm.Free Jvm.Stand Jvm.Pilot.@@N@@.Jvm.D
/-! MADE BY PROGRAM (witnessworld.py) out of the Statement's table words and the real class files: 22 classes; the members and pool entries that the words name. The judged class is class 1, her method 1. -/
namespace start1
open Jvm.ClassFile
def u (s : String) : CpInfo := .utf8 (stringToUtf16 s)
/-- a pool by its gaps: so many unusable entries, then the entry; so many at the end -/
def gap : Nat → List CpInfo → List CpInfo
  | 0, r => r
  | n + 1, r => .unusable :: gap n r
def poolList (es : List (Nat × CpInfo)) (last : Nat) : List CpInfo := es.foldr (fun e r => gap e.1 (e.2 :: r)) (gap last [])
def pool (es : List (Nat × CpInfo)) (last : Nat) : Array CpInfo := ⟨poolList es last⟩
def fileOf (pool : Array CpInfo) (this : Nat) (attrs : Array Attribute := #[]) (ms : Array MethodInfo := #[]) (fl : Nat := 33) (sup : Nat := 0) (ifs : Array Nat := #[]) (fds : Array FieldInfo := #[]) : ClassFile where
  minorVersion := 0
  majorVersion := 65
  constantPool := pool
  accessFlags := fl
  thisClass := this
  superClass := sup
  interfaces := ifs
  fields := fds
  methods := ms
  attributes := attrs
def plain (name : String) (sup : Option ClassId) : Class where
  name := name
  kind := .ordinary
  loader := none
  accessFlags := 33
  super := sup
  interfaces := #[]
  cf := none
  fields := #[]
  methods := #[]
  instanceTypes := #[]
  staticTypes := #[]
  resolved := #[]
  callSites := []
  init := .initialized
  statics := none
  mirror := none

def pool0 : Array CpInfo := pool [(5, u "<init>"), (0, u "()V"), (1, .class_ 10), (1, u "java/lang/Object")] 113

def k0c0 : Code := { maxStack := 0, maxLocals := 1, code := object_method_1_code, exceptionTable := #[], attributes := #[] }
def k0m0 : Method := { name := "<init>", desc := "()V", sig := { parameters := [], returnType := none }, accessFlags := 1, code := some k0c0 }
/-- java/lang/Object -/
def k0 : Class := { plain "java/lang/Object" none with
  accessFlags := 33
  interfaces := #[]
  cf := some (fileOf pool0 8 #[] #[{ accessFlags := 1, nameIndex := 5, descriptorIndex := 6, attributes := #[] }] 33 0 #[] #[])
  fields := #[]
  methods := #[k0m0]
  instanceTypes := #[]
  staticTypes := #[]
  resolved := Array.replicate 124 none
  statics := none }

def pool1 : Array CpInfo := pool [(2, .class_ 4), (1, u "java/lang/Object"), (0, u "<init>"), (0, u "()V"), (0, .methodref 8 9), (0, .class_ 10), (0, .nameAndType 11 12), (0, u "com/example/dormouse/dormouse/tool/DecisionOfReviewerPinLaw"), (0, u "base"), (0, u "(I)Ljava/lang/String;"), (0, .methodref 14 15), (0, .class_ 16), (0, .nameAndType 17 18), (0, u "java/lang/String"), (0, u "length"), (0, u "()I"), (0, .methodref 20 21), (0, .class_ 22), (0, .nameAndType 23 24), (0, u "java/lang/Math"), (0, u "max"), (0, u "(II)I"), (0, .methodref 8 26), (0, .nameAndType 27 28), (0, u "pick"), (0, u "(Ljava/lang/String;IIC)C"), (0, .methodref 8 30), (0, .nameAndType 31 32), (0, u "cut"), (0, u "([CI)Ljava/lang/String;"), (0, .methodref 34 35), (0, .class_ 36), (0, .nameAndType 37 38), (0, u "com/example/dormouse/dormouse/tool/Decision"), (0, u "ofReviewer"), (0, u "(Ljava/lang/String;)Lcom/example/dormouse/dormouse/tool/Decision;"), (0, .string 40), (0, u "approve"), (0, .methodref 14 42), (0, .nameAndType 43 44), (0, u "equals"), (0, u "(Ljava/lang/Object;)Z"), (0, .fieldref 34 46), (0, .nameAndType 47 48), (0, u "APPROVE"), (0, u "Lcom/example/dormouse/dormouse/tool/Decision;"), (0, .string 50), (0, u "deny"), (0, .fieldref 34 52), (0, .nameAndType 53 48), (0, u "DENY"), (0, .string 55), (0, u "expired"), (0, .string 57), (0, u "cancelled"), (0, .string 47), (0, .string 60), (0, u "Deny"), (0, .string 62), (0, u ""), (0, .methodref 14 64), (0, .nameAndType 65 66), (0, u "charAt"), (0, u "(I)C"), (0, .methodref 14 68), (0, .nameAndType 5 69), (0, u "([C)V"), (2, u "law"), (0, u "(IIII)Z")] 3

def k1m0 : Method := { name := "<init>", desc := "()V", sig := { parameters := [], returnType := none }, accessFlags := 1, code := none }
def k1c1 : Code := { maxStack := 6, maxLocals := 13, code := code, exceptionTable := #[], attributes := #[] }
def k1m1 : Method := { name := "law", desc := "(IIII)Z", sig := { parameters := [.int, .int, .int, .int], returnType := some .boolean }, accessFlags := 9, code := some k1c1 }
def k1c2 : Code := { maxStack := 2, maxLocals := 1, code := method_3_code, exceptionTable := #[], attributes := #[] }
def k1m2 : Method := { name := "base", desc := "(I)Ljava/lang/String;", sig := { parameters := [.int], returnType := some (.object "java/lang/String") }, accessFlags := 10, code := some k1c2 }
def k1c3 : Code := { maxStack := 2, maxLocals := 4, code := method_4_code, exceptionTable := #[], attributes := #[] }
def k1m3 : Method := { name := "pick", desc := "(Ljava/lang/String;IIC)C", sig := { parameters := [(.object "java/lang/String"), .int, .int, .char], returnType := some .char }, accessFlags := 10, code := some k1c3 }
def k1c4 : Code := { maxStack := 7, maxLocals := 2, code := method_5_code, exceptionTable := #[], attributes := #[] }
def k1m4 : Method := { name := "cut", desc := "([CI)Ljava/lang/String;", sig := { parameters := [(.array .char), .int], returnType := some (.object "java/lang/String") }, accessFlags := 10, code := some k1c4 }
/-- com/example/dormouse/dormouse/tool/DecisionOfReviewerPinLaw -/
def k1 : Class := { plain "com/example/dormouse/dormouse/tool/DecisionOfReviewerPinLaw" (some 0) with
  accessFlags := 49
  interfaces := #[]
  cf := some (fileOf pool1 8 #[] #[{ accessFlags := 1, nameIndex := 5, descriptorIndex := 6, attributes := #[] }, { accessFlags := 9, nameIndex := 72, descriptorIndex := 73, attributes := #[] }, { accessFlags := 10, nameIndex := 11, descriptorIndex := 12, attributes := #[] }, { accessFlags := 10, nameIndex := 27, descriptorIndex := 28, attributes := #[] }, { accessFlags := 10, nameIndex := 31, descriptorIndex := 32, attributes := #[] }] 49 2 #[] #[])
  fields := #[]
  methods := #[k1m0, k1m1, k1m2, k1m3, k1m4]
  instanceTypes := #[]
  staticTypes := #[]
  resolved := Array.replicate 77 none
  statics := none }

def pool2 : Array CpInfo := pool [(1, .class_ 2), (0, u "java/io/Serializable"), (0, .class_ 4), (0, u "java/lang/Object")] 2

/-- java/io/Serializable -/
def k2 : Class := { plain "java/io/Serializable" (some 0) with
  accessFlags := 1537
  interfaces := #[]
  cf := some (fileOf pool2 1 #[] #[] 1537 3 #[] #[])
  fields := #[]
  methods := #[]
  instanceTypes := #[]
  staticTypes := #[]
  resolved := Array.replicate 7 none
  statics := none }

def pool3 : Array CpInfo := pool [(1, .class_ 2), (0, u "java/lang/Comparable"), (0, .class_ 4), (0, u "java/lang/Object")] 7

/-- java/lang/Comparable -/
def k3 : Class := { plain "java/lang/Comparable" (some 0) with
  accessFlags := 1537
  interfaces := #[]
  cf := some (fileOf pool3 1 #[] #[] 1537 3 #[] #[])
  fields := #[]
  methods := #[]
  instanceTypes := #[]
  staticTypes := #[]
  resolved := Array.replicate 12 none
  statics := none }

def pool4 : Array CpInfo := pool [(2, .class_ 4), (1, u "java/lang/CharSequence"), (42, .class_ 48), (0, u "java/lang/CharSequence$1CodePointIterator"), (10, .class_ 60), (0, u "java/lang/CharSequence$1CharIterator"), (5, .class_ 67), (0, u "java/lang/Object")] 63

/-- java/lang/CharSequence -/
def k4 : Class := { plain "java/lang/CharSequence" (some 0) with
  accessFlags := 1537
  interfaces := #[]
  cf := some (fileOf pool4 2 #[.nestMembers #[47, 59]] #[] 1537 66 #[] #[])
  fields := #[]
  methods := #[]
  instanceTypes := #[]
  staticTypes := #[]
  resolved := Array.replicate 131 none
  statics := none }

def pool5 : Array CpInfo := pool [(1, .class_ 2), (0, u "java/lang/constant/Constable"), (0, .class_ 4), (0, u "java/lang/Object")] 6

/-- java/lang/constant/Constable -/
def k5 : Class := { plain "java/lang/constant/Constable" (some 0) with
  accessFlags := 1537
  interfaces := #[]
  cf := some (fileOf pool5 1 #[] #[] 1537 3 #[] #[])
  fields := #[]
  methods := #[]
  instanceTypes := #[]
  staticTypes := #[]
  resolved := Array.replicate 11 none
  statics := none }

def pool6 : Array CpInfo := pool [(1, .class_ 2), (0, u "java/lang/constant/ConstantDesc"), (0, .class_ 4), (0, u "java/lang/Object")] 32

/-- java/lang/constant/ConstantDesc -/
def k6 : Class := { plain "java/lang/constant/ConstantDesc" (some 0) with
  accessFlags := 1537
  interfaces := #[]
  cf := some (fileOf pool6 1 #[] #[] 1537 3 #[] #[])
  fields := #[]
  methods := #[]
  instanceTypes := #[]
  staticTypes := #[]
  resolved := Array.replicate 37 none
  statics := none }

def pool7 : Array CpInfo := pool [(1, .methodref 2 3), (0, .class_ 4), (0, .nameAndType 5 6), (0, u "java/lang/Object"), (0, u "<init>"), (0, u "()V"), (2, .fieldref 10 11), (0, .class_ 12), (0, .nameAndType 13 14), (0, u "java/lang/String"), (0, u "value"), (0, u "[B"), (0, .fieldref 10 16), (0, .nameAndType 17 18), (0, u "coder"), (0, u "B"), (2, u "hash"), (0, u "I"), (2, u "hashIsZero"), (0, u "Z"), (0, .methodref 10 28), (0, .nameAndType 5 29), (0, u "([CIILjava/lang/Void;)V"), (8, .fieldref 10 39), (0, .nameAndType 40 26), (0, u "COMPACT_STRINGS"), (1, .class_ 44), (1, u "java/lang/StringUTF16"), (0, u "compress"), (1, .methodref 42 48), (0, .nameAndType 49 50), (0, u "coderFromArrayLen"), (0, u "([BI)B"), (56, .class_ 109), (1, u "java/lang/StringLatin1"), (32, u "()Z"), (34, .methodref 42 178), (0, .nameAndType 45 179), (0, u "([CII)[B"), (154, u "()I"), (0, .methodref 10 336), (0, .nameAndType 17 337), (0, u "()B"), (25, u "([BI)C"), (27, u "(II)V"), (35, u "(I)C"), (64, .methodref 10 493), (0, .nameAndType 494 142), (0, u "isLatin1"), (0, .methodref 107 496), (0, .nameAndType 497 363), (0, u "charAt"), (3, u "checkIndex"), (5, u "length"), (33, .methodref 107 542), (0, .nameAndType 543 544), (0, u "equals"), (0, u "([B[B)Z"), (28, u "(Ljava/lang/Object;)Z"), (1, .class_ 576), (0, u "java/lang/CharSequence"), (22, u "CASE_INSENSITIVE_ORDER"), (0, u "Ljava/util/Comparator;"), (409, u "([C)V"), (42, .fieldref 1054 1055), (0, .class_ 1056), (0, .nameAndType 1057 1058), (0, u "jdk/internal/util/Preconditions"), (0, u "SIOOBE_FORMATTER"), (0, u "Ljava/util/function/BiFunction;"), (0, .methodref 1054 1060), (0, .nameAndType 501 1061), (0, u "(IILjava/util/function/BiFunction;)I"), (39, u "serialPersistentFields"), (0, u "[Ljava/io/ObjectStreamField;"), (0, .class_ 1104), (0, u "java/lang/String$CaseInsensitiveComparator"), (1, .class_ 1107), (0, u "java/io/Serializable"), (0, .class_ 1109), (0, u "java/lang/Comparable"), (0, .class_ 1111), (0, u "java/lang/constant/Constable"), (0, .class_ 1113), (0, u "java/lang/constant/ConstantDesc"), (2, u "serialVersionUID"), (0, u "J"), (3, u "REPL"), (0, u "C"), (2, u "LATIN1"), (1, u "UTF16")] 323

def k7m0 : Method := { name := "<init>", desc := "()V", sig := { parameters := [], returnType := none }, accessFlags := 1, code := none }
def k7c1 : Code := { maxStack := 5, maxLocals := 2, code := jdk_42_method_3_code, exceptionTable := #[], attributes := #[] }
def k7m1 : Method := { name := "<init>", desc := "([C)V", sig := { parameters := [(.array .char)], returnType := none }, accessFlags := 1, code := some k7c1 }
def k7c2 : Code := { maxStack := 2, maxLocals := 1, code := jdk_42_method_54_code, exceptionTable := #[], attributes := #[] }
def k7m2 : Method := { name := "length", desc := "()I", sig := { parameters := [], returnType := some .int }, accessFlags := 1, code := some k7c2 }
def k7c3 : Code := { maxStack := 2, maxLocals := 2, code := jdk_42_method_56_code, exceptionTable := #[], attributes := #[] }
def k7m3 : Method := { name := "charAt", desc := "(I)C", sig := { parameters := [.int], returnType := some .char }, accessFlags := 1, code := some k7c3 }
def k7c4 : Code := { maxStack := 2, maxLocals := 3, code := jdk_42_method_66_code, exceptionTable := #[], attributes := #[] }
def k7m4 : Method := { name := "equals", desc := "(Ljava/lang/Object;)Z", sig := { parameters := [(.object "java/lang/Object")], returnType := some .boolean }, accessFlags := 1, code := some k7c4 }
def k7c5 : Code := { maxStack := 4, maxLocals := 6, code := jdk_42_method_149_code, exceptionTable := #[], attributes := #[] }
def k7m5 : Method := { name := "<init>", desc := "([CIILjava/lang/Void;)V", sig := { parameters := [(.array .char), .int, .int, (.object "java/lang/Void")], returnType := none }, accessFlags := 2, code := some k7c5 }
def k7c6 : Code := { maxStack := 1, maxLocals := 1, code := jdk_42_method_152_code, exceptionTable := #[], attributes := #[] }
def k7m6 : Method := { name := "coder", desc := "()B", sig := { parameters := [], returnType := some .byte }, accessFlags := 0, code := some k7c6 }
def k7c7 : Code := { maxStack := 1, maxLocals := 1, code := jdk_42_method_154_code, exceptionTable := #[], attributes := #[] }
def k7m7 : Method := { name := "isLatin1", desc := "()Z", sig := { parameters := [], returnType := some .boolean }, accessFlags := 0, code := some k7c7 }
def k7c8 : Code := { maxStack := 3, maxLocals := 2, code := jdk_42_method_155_code, exceptionTable := #[], attributes := #[] }
def k7m8 : Method := { name := "checkIndex", desc := "(II)V", sig := { parameters := [.int, .int], returnType := none }, accessFlags := 8, code := some k7c8 }
/-- java/lang/String -/
def k7 : Class := { plain "java/lang/String" (some 0) with
  accessFlags := 49
  interfaces := #[2, 3, 4, 5, 6]
  cf := some (fileOf pool7 10 #[.nestMembers #[1103]] #[{ accessFlags := 1, nameIndex := 5, descriptorIndex := 6, attributes := #[] }, { accessFlags := 1, nameIndex := 5, descriptorIndex := 1010, attributes := #[] }, { accessFlags := 1, nameIndex := 507, descriptorIndex := 334, attributes := #[] }, { accessFlags := 1, nameIndex := 497, descriptorIndex := 427, attributes := #[] }, { accessFlags := 1, nameIndex := 543, descriptorIndex := 573, attributes := #[] }, { accessFlags := 2, nameIndex := 5, descriptorIndex := 29, attributes := #[] }, { accessFlags := 0, nameIndex := 17, descriptorIndex := 337, attributes := #[] }, { accessFlags := 0, nameIndex := 494, descriptorIndex := 142, attributes := #[] }, { accessFlags := 8, nameIndex := 501, descriptorIndex := 391, attributes := #[] }] 49 2 #[1106, 1108, 575, 1110, 1112] #[{ accessFlags := 18, nameIndex := 13, descriptorIndex := 14, attributes := #[] }, { accessFlags := 18, nameIndex := 17, descriptorIndex := 18, attributes := #[] }, { accessFlags := 2, nameIndex := 21, descriptorIndex := 22, attributes := #[] }, { accessFlags := 2, nameIndex := 25, descriptorIndex := 26, attributes := #[] }, { accessFlags := 26, nameIndex := 1116, descriptorIndex := 1117, attributes := #[] }, { accessFlags := 24, nameIndex := 40, descriptorIndex := 26, attributes := #[] }, { accessFlags := 26, nameIndex := 1101, descriptorIndex := 1102, attributes := #[] }, { accessFlags := 26, nameIndex := 1121, descriptorIndex := 1122, attributes := #[] }, { accessFlags := 25, nameIndex := 599, descriptorIndex := 600, attributes := #[] }, { accessFlags := 24, nameIndex := 1125, descriptorIndex := 18, attributes := #[] }, { accessFlags := 24, nameIndex := 1127, descriptorIndex := 18, attributes := #[] }])
  fields := #[{ name := "value", type := (.array .byte), accessFlags := 18, slot := 0, constantValue := 0 }, { name := "coder", type := .byte, accessFlags := 18, slot := 1, constantValue := 0 }, { name := "hash", type := .int, accessFlags := 2, slot := 2, constantValue := 0 }, { name := "hashIsZero", type := .boolean, accessFlags := 2, slot := 3, constantValue := 0 }, { name := "serialVersionUID", type := .long, accessFlags := 26, slot := 0, constantValue := 0 }, { name := "COMPACT_STRINGS", type := .boolean, accessFlags := 24, slot := 1, constantValue := 0 }, { name := "serialPersistentFields", type := (.array (.object "java/io/ObjectStreamField")), accessFlags := 26, slot := 2, constantValue := 0 }, { name := "REPL", type := .char, accessFlags := 26, slot := 3, constantValue := 0 }, { name := "CASE_INSENSITIVE_ORDER", type := (.object "java/util/Comparator"), accessFlags := 25, slot := 4, constantValue := 0 }, { name := "LATIN1", type := .byte, accessFlags := 24, slot := 5, constantValue := 0 }, { name := "UTF16", type := .byte, accessFlags := 24, slot := 6, constantValue := 0 }]
  methods := #[k7m0, k7m1, k7m2, k7m3, k7m4, k7m5, k7m6, k7m7, k7m8]
  instanceTypes := #[(.array .byte), .byte, .int, .boolean]
  staticTypes := #[.long, .boolean, (.array (.object "java/io/ObjectStreamField")), .char, (.object "java/util/Comparator"), .byte, .byte]
  resolved := Array.replicate 1451 none
  statics := some 0 }

def pool8 : Array CpInfo := pool [(1, .class_ 2), (0, u "java/lang/Math"), (1, .class_ 6), (1, u "java/lang/Object"), (0, u "<init>"), (0, u "()V"), (89, .class_ 100), (1, u "java/lang/Math$RandomNumberGeneratorHolder"), (71, u "negativeZeroFloatBits"), (0, u "J"), (2, u "negativeZeroDoubleBits"), (21, u "max"), (46, u "$assertionsDisabled"), (0, u "Z"), (88, u "(II)I"), (2, u "twoToTheDoubleScaleDown"), (0, u "D"), (4, u "twoToTheDoubleScaleUp"), (9, u "E"), (3, u "PI"), (2, u "TAU"), (2, u "DEGREES_TO_RADIANS"), (0, u "RADIANS_TO_DEGREES")] 94

def k8m0 : Method := { name := "<init>", desc := "()V", sig := { parameters := [], returnType := none }, accessFlags := 2, code := none }
def k8c1 : Code := { maxStack := 2, maxLocals := 2, code := jdk_29_method_65_code, exceptionTable := #[], attributes := #[] }
def k8m1 : Method := { name := "max", desc := "(II)I", sig := { parameters := [.int, .int], returnType := some .int }, accessFlags := 9, code := some k8c1 }
/-- java/lang/Math -/
def k8 : Class := { plain "java/lang/Math" (some 0) with
  accessFlags := 49
  interfaces := #[]
  cf := some (fileOf pool8 1 #[.nestMembers #[98]] #[{ accessFlags := 2, nameIndex := 7, descriptorIndex := 8, attributes := #[] }, { accessFlags := 9, nameIndex := 198, descriptorIndex := 335, attributes := #[] }] 49 4 #[] #[{ accessFlags := 25, nameIndex := 354, descriptorIndex := 339, attributes := #[] }, { accessFlags := 25, nameIndex := 358, descriptorIndex := 339, attributes := #[] }, { accessFlags := 25, nameIndex := 361, descriptorIndex := 339, attributes := #[] }, { accessFlags := 26, nameIndex := 364, descriptorIndex := 339, attributes := #[] }, { accessFlags := 26, nameIndex := 365, descriptorIndex := 339, attributes := #[] }, { accessFlags := 26, nameIndex := 172, descriptorIndex := 173, attributes := #[] }, { accessFlags := 26, nameIndex := 176, descriptorIndex := 173, attributes := #[] }, { accessFlags := 8, nameIndex := 344, descriptorIndex := 339, attributes := #[] }, { accessFlags := 8, nameIndex := 338, descriptorIndex := 339, attributes := #[] }, { accessFlags := 4120, nameIndex := 245, descriptorIndex := 246, attributes := #[] }])
  fields := #[{ name := "E", type := .double, accessFlags := 25, slot := 0, constantValue := 0 }, { name := "PI", type := .double, accessFlags := 25, slot := 1, constantValue := 0 }, { name := "TAU", type := .double, accessFlags := 25, slot := 2, constantValue := 0 }, { name := "DEGREES_TO_RADIANS", type := .double, accessFlags := 26, slot := 3, constantValue := 0 }, { name := "RADIANS_TO_DEGREES", type := .double, accessFlags := 26, slot := 4, constantValue := 0 }, { name := "negativeZeroFloatBits", type := .long, accessFlags := 26, slot := 5, constantValue := 0 }, { name := "negativeZeroDoubleBits", type := .long, accessFlags := 26, slot := 6, constantValue := 0 }, { name := "twoToTheDoubleScaleUp", type := .double, accessFlags := 8, slot := 7, constantValue := 0 }, { name := "twoToTheDoubleScaleDown", type := .double, accessFlags := 8, slot := 8, constantValue := 0 }, { name := "$assertionsDisabled", type := .boolean, accessFlags := 4120, slot := 9, constantValue := 0 }]
  methods := #[k8m0, k8m1]
  instanceTypes := #[]
  staticTypes := #[.double, .double, .double, .double, .double, .long, .long, .double, .double, .boolean]
  resolved := Array.replicate 460 none
  statics := none }

def pool9 : Array CpInfo := pool [(1, .class_ 2), (0, u "java/lang/String"), (1, .class_ 6), (1, u "java/lang/Object"), (0, u "<init>"), (0, u "()V"), (0, .methodref 1 10), (0, .nameAndType 11 12), (0, u "checkIndex"), (0, u "(II)V"), (1, .class_ 16), (1, u "java/lang/StringLatin1"), (36, u "([BI)C"), (67, u "$assertionsDisabled"), (0, u "Z"), (98, .class_ 223), (1, u "java/lang/StringLatin1$LinesSpliterator"), (28, u "charAt"), (28, u "equals"), (0, u "([B[B)Z"), (107, .class_ 391), (0, u "java/lang/StringLatin1$CharsSpliterator")] 3

def k9m0 : Method := { name := "<init>", desc := "()V", sig := { parameters := [], returnType := none }, accessFlags := 0, code := none }
def k9c1 : Code := { maxStack := 2, maxLocals := 2, code := jdk_43_method_2_code, exceptionTable := #[], attributes := #[] }
def k9m1 : Method := { name := "charAt", desc := "([BI)C", sig := { parameters := [(.array .byte), .int], returnType := some .char }, accessFlags := 9, code := some k9c1 }
def k9c2 : Code := { maxStack := 3, maxLocals := 3, code := jdk_43_method_13_code, exceptionTable := #[], attributes := #[] }
def k9m2 : Method := { name := "equals", desc := "([B[B)Z", sig := { parameters := [(.array .byte), (.array .byte)], returnType := some .boolean }, accessFlags := 9, code := some k9c2 }
/-- java/lang/StringLatin1 -/
def k9 : Class := { plain "java/lang/StringLatin1" (some 0) with
  accessFlags := 48
  interfaces := #[]
  cf := some (fileOf pool9 14 #[.nestMembers #[390, 221]] #[{ accessFlags := 0, nameIndex := 7, descriptorIndex := 8, attributes := #[] }, { accessFlags := 9, nameIndex := 252, descriptorIndex := 53, attributes := #[] }, { accessFlags := 9, nameIndex := 281, descriptorIndex := 282, attributes := #[] }] 48 4 #[] #[{ accessFlags := 4120, nameIndex := 121, descriptorIndex := 122, attributes := #[] }])
  fields := #[{ name := "$assertionsDisabled", type := .boolean, accessFlags := 4120, slot := 0, constantValue := 0 }]
  methods := #[k9m0, k9m1, k9m2]
  instanceTypes := #[]
  staticTypes := #[.boolean]
  resolved := Array.replicate 395 none
  statics := none }

def pool10 : Array CpInfo := pool [(2, .class_ 4), (1, u "java/lang/Object"), (0, u "<init>"), (0, u "()V"), (17, .class_ 26), (1, u "jdk/internal/util/Preconditions"), (6, u "checkIndex"), (21, .class_ 56), (0, u "jdk/internal/util/Preconditions$4"), (57, .class_ 115), (0, u "jdk/internal/util/Preconditions$1"), (7, u "SIOOBE_FORMATTER"), (0, u "Ljava/util/function/BiFunction;"), (0, .class_ 126), (0, u "jdk/internal/util/Preconditions$2"), (3, u "AIOOBE_FORMATTER"), (0, .class_ 132), (0, u "jdk/internal/util/Preconditions$3"), (3, u "IOOBE_FORMATTER"), (41, u "(IILjava/util/function/BiFunction;)I")] 15

def k10m0 : Method := { name := "<init>", desc := "()V", sig := { parameters := [], returnType := none }, accessFlags := 1, code := none }
def k10c1 : Code := { maxStack := 3, maxLocals := 3, code := jdk_41_method_11_code, exceptionTable := #[], attributes := #[] }
def k10m1 : Method := { name := "checkIndex", desc := "(IILjava/util/function/BiFunction;)I", sig := { parameters := [.int, .int, (.object "java/util/function/BiFunction")], returnType := some .int }, accessFlags := 9, code := some k10c1 }
/-- jdk/internal/util/Preconditions -/
def k10 : Class := { plain "jdk/internal/util/Preconditions" (some 0) with
  accessFlags := 33
  interfaces := #[]
  cf := some (fileOf pool10 24 #[.nestMembers #[55, 131, 125, 114]] #[{ accessFlags := 1, nameIndex := 5, descriptorIndex := 6, attributes := #[] }, { accessFlags := 9, nameIndex := 33, descriptorIndex := 178, attributes := #[] }] 33 2 #[] #[{ accessFlags := 25, nameIndex := 123, descriptorIndex := 124, attributes := #[] }, { accessFlags := 25, nameIndex := 130, descriptorIndex := 124, attributes := #[] }, { accessFlags := 25, nameIndex := 136, descriptorIndex := 124, attributes := #[] }])
  fields := #[{ name := "SIOOBE_FORMATTER", type := (.object "java/util/function/BiFunction"), accessFlags := 25, slot := 0, constantValue := 0 }, { name := "AIOOBE_FORMATTER", type := (.object "java/util/function/BiFunction"), accessFlags := 25, slot := 1, constantValue := 0 }, { name := "IOOBE_FORMATTER", type := (.object "java/util/function/BiFunction"), accessFlags := 25, slot := 2, constantValue := 0 }]
  methods := #[k10m0, k10m1]
  instanceTypes := #[]
  staticTypes := #[(.object "java/util/function/BiFunction"), (.object "java/util/function/BiFunction"), (.object "java/util/function/BiFunction")]
  resolved := Array.replicate 194 none
  statics := some 1 }

def pool11 : Array CpInfo := pool [(6, .class_ 8), (1, u "java/lang/Object"), (0, u "<init>"), (0, u "()V"), (1, .class_ 14), (1, u "java/lang/StringUTF16"), (31, u "$assertionsDisabled"), (0, u "Z"), (13, u "HI_BYTE_SHIFT"), (0, u "I"), (2, u "LO_BYTE_SHIFT"), (49, .methodref 12 116), (0, .nameAndType 117 118), (0, u "compress"), (0, u "([CI[BII)I"), (3, u "([CII)[B"), (138, u "coderFromArrayLen"), (0, u "([BI)B"), (106, .class_ 371), (1, u "java/lang/StringUTF16$LinesSpliterator"), (58, u "MAX_LENGTH"), (196, .class_ 628), (0, u "java/lang/StringUTF16$CodePointsSpliterator"), (0, .class_ 630), (0, u "java/lang/StringUTF16$CharsSpliterator")] 4

def k11m0 : Method := { name := "<init>", desc := "()V", sig := { parameters := [], returnType := none }, accessFlags := 0, code := none }
def k11c1 : Code := { maxStack := 2, maxLocals := 2, code := jdk_52_method_15_code, exceptionTable := #[], attributes := #[] }
def k11m1 : Method := { name := "coderFromArrayLen", desc := "([BI)B", sig := { parameters := [(.array .byte), .int], returnType := some .byte }, accessFlags := 8, code := some k11c1 }
def k11c2 : Code := { maxStack := 5, maxLocals := 6, code := jdk_52_method_16_code, exceptionTable := #[], attributes := #[] }
def k11m2 : Method := { name := "compress", desc := "([CII)[B", sig := { parameters := [(.array .char), .int, .int], returnType := some (.array .byte) }, accessFlags := 9, code := some k11c2 }
def k11c3 : Code := { maxStack := 3, maxLocals := 7, code := jdk_52_method_21_code, exceptionTable := #[], attributes := #[] }
def k11m3 : Method := { name := "compress", desc := "([CI[BII)I", sig := { parameters := [(.array .char), .int, (.array .byte), .int, .int], returnType := some .int }, accessFlags := 9, code := some k11c3 }
/-- java/lang/StringUTF16 -/
def k11 : Class := { plain "java/lang/StringUTF16" (some 0) with
  accessFlags := 48
  interfaces := #[]
  cf := some (fileOf pool11 12 #[.nestMembers #[627, 629, 369]] #[{ accessFlags := 0, nameIndex := 9, descriptorIndex := 10, attributes := #[] }, { accessFlags := 8, nameIndex := 261, descriptorIndex := 262, attributes := #[] }, { accessFlags := 9, nameIndex := 117, descriptorIndex := 122, attributes := #[] }, { accessFlags := 9, nameIndex := 117, descriptorIndex := 118, attributes := #[] }] 48 6 #[] #[{ accessFlags := 26, nameIndex := 61, descriptorIndex := 62, attributes := #[] }, { accessFlags := 26, nameIndex := 65, descriptorIndex := 62, attributes := #[] }, { accessFlags := 24, nameIndex := 430, descriptorIndex := 62, attributes := #[] }, { accessFlags := 4120, nameIndex := 46, descriptorIndex := 47, attributes := #[] }])
  fields := #[{ name := "HI_BYTE_SHIFT", type := .int, accessFlags := 26, slot := 0, constantValue := 0 }, { name := "LO_BYTE_SHIFT", type := .int, accessFlags := 26, slot := 1, constantValue := 0 }, { name := "MAX_LENGTH", type := .int, accessFlags := 24, slot := 2, constantValue := 0 }, { name := "$assertionsDisabled", type := .boolean, accessFlags := 4120, slot := 3, constantValue := 0 }]
  methods := #[k11m0, k11m1, k11m2, k11m3]
  instanceTypes := #[]
  staticTypes := #[.int, .int, .int, .boolean]
  resolved := Array.replicate 635 none
  statics := none }

def pool12 : Array CpInfo := pool [(2, .class_ 4), (1, u "java/lang/Enum"), (0, u "name"), (0, u "Ljava/lang/String;"), (2, u "ordinal"), (0, u "I"), (1, .class_ 14), (1, u "java/lang/Object"), (4, u "hash"), (86, .class_ 108), (1, u "java/lang/Enum$EnumDesc"), (2, .class_ 112), (0, u "java/lang/constant/Constable"), (0, .class_ 114), (0, u "java/lang/Comparable"), (0, .class_ 116), (0, u "java/io/Serializable")] 87

/-- java/lang/Enum -/
def k12 : Class := { plain "java/lang/Enum" (some 0) with
  accessFlags := 1057
  interfaces := #[5, 3, 2]
  cf := some (fileOf pool12 2 #[.nestMembers #[106]] #[] 1057 12 #[111, 113, 115] #[{ accessFlags := 18, nameIndex := 5, descriptorIndex := 6, attributes := #[] }, { accessFlags := 18, nameIndex := 9, descriptorIndex := 10, attributes := #[] }, { accessFlags := 2, nameIndex := 19, descriptorIndex := 10, attributes := #[] }])
  fields := #[{ name := "name", type := (.object "java/lang/String"), accessFlags := 18, slot := 0, constantValue := 0 }, { name := "ordinal", type := .int, accessFlags := 18, slot := 1, constantValue := 0 }, { name := "hash", type := .int, accessFlags := 2, slot := 2, constantValue := 0 }]
  methods := #[]
  instanceTypes := #[(.object "java/lang/String"), .int, .int]
  staticTypes := #[]
  resolved := Array.replicate 204 none
  statics := none }

def pool13 : Array CpInfo := pool [(1, .class_ 2), (0, u "com/example/dormouse/dormouse/tool/Decision"), (0, .fieldref 1 4), (0, .nameAndType 5 6), (0, u "APPROVE"), (0, u "Lcom/example/dormouse/dormouse/tool/Decision;"), (0, .fieldref 1 8), (0, .nameAndType 9 6), (0, u "DENY"), (2, u "EXPIRED"), (2, u "CANCELLED"), (2, u "$VALUES"), (0, u "[Lcom/example/dormouse/dormouse/tool/Decision;"), (6, .class_ 28), (1, u "java/lang/Enum"), (6, .fieldref 1 36), (0, .nameAndType 37 38), (0, u "_name"), (0, u "Ljava/lang/String;"), (2, u "_refusal"), (0, .methodref 43 44), (0, .class_ 45), (0, .nameAndType 46 47), (0, u "java/lang/String"), (0, u "equals"), (0, u "(Ljava/lang/Object;)Z"), (28, u "(Ljava/lang/String;)Lcom/example/dormouse/dormouse/tool/Decision;"), (6, u "ofReviewer")] 6

def k13c0 : Code := { maxStack := 2, maxLocals := 2, code := prog_57_method_6_code, exceptionTable := #[], attributes := #[] }
def k13m0 : Method := { name := "ofReviewer", desc := "(Ljava/lang/String;)Lcom/example/dormouse/dormouse/tool/Decision;", sig := { parameters := [(.object "java/lang/String")], returnType := some (.object "com/example/dormouse/dormouse/tool/Decision") }, accessFlags := 9, code := some k13c0 }
/-- com/example/dormouse/dormouse/tool/Decision -/
def k13 : Class := { plain "com/example/dormouse/dormouse/tool/Decision" (some 12) with
  accessFlags := 16433
  interfaces := #[]
  cf := some (fileOf pool13 1 #[] #[{ accessFlags := 9, nameIndex := 83, descriptorIndex := 76, attributes := #[] }] 16433 26 #[] #[{ accessFlags := 16409, nameIndex := 5, descriptorIndex := 6, attributes := #[] }, { accessFlags := 16409, nameIndex := 9, descriptorIndex := 6, attributes := #[] }, { accessFlags := 16409, nameIndex := 12, descriptorIndex := 6, attributes := #[] }, { accessFlags := 16409, nameIndex := 15, descriptorIndex := 6, attributes := #[] }, { accessFlags := 18, nameIndex := 37, descriptorIndex := 38, attributes := #[] }, { accessFlags := 18, nameIndex := 41, descriptorIndex := 38, attributes := #[] }, { accessFlags := 4122, nameIndex := 18, descriptorIndex := 19, attributes := #[] }])
  fields := #[{ name := "APPROVE", type := (.object "com/example/dormouse/dormouse/tool/Decision"), accessFlags := 16409, slot := 0, constantValue := 0 }, { name := "DENY", type := (.object "com/example/dormouse/dormouse/tool/Decision"), accessFlags := 16409, slot := 1, constantValue := 0 }, { name := "EXPIRED", type := (.object "com/example/dormouse/dormouse/tool/Decision"), accessFlags := 16409, slot := 2, constantValue := 0 }, { name := "CANCELLED", type := (.object "com/example/dormouse/dormouse/tool/Decision"), accessFlags := 16409, slot := 3, constantValue := 0 }, { name := "_name", type := (.object "java/lang/String"), accessFlags := 18, slot := 3, constantValue := 0 }, { name := "_refusal", type := (.object "java/lang/String"), accessFlags := 18, slot := 4, constantValue := 0 }, { name := "$VALUES", type := (.array (.object "com/example/dormouse/dormouse/tool/Decision")), accessFlags := 4122, slot := 4, constantValue := 0 }]
  methods := #[k13m0]
  instanceTypes := #[(.object "java/lang/String"), .int, .int, (.object "java/lang/String"), (.object "java/lang/String")]
  staticTypes := #[(.object "com/example/dormouse/dormouse/tool/Decision"), (.object "com/example/dormouse/dormouse/tool/Decision"), (.object "com/example/dormouse/dormouse/tool/Decision"), (.object "com/example/dormouse/dormouse/tool/Decision"), (.array (.object "com/example/dormouse/dormouse/tool/Decision"))]
  resolved := Array.replicate 90 none
  statics := some 2 }

def pool14 : Array CpInfo := pool [(9, u "<init>"), (6, .class_ 18), (1, u "java/lang/Object"), (0, u "()V"), (1, .class_ 23), (1, u "jdk/internal/util/ArraysSupport"), (0, u "LOG2_ARRAY_LONG_INDEX_SCALE"), (0, u "I"), (2, u "U"), (0, u "Ljdk/internal/misc/Unsafe;"), (8, u "BIG_ENDIAN"), (0, u "Z"), (8, u "LOG2_BYTE_BIT_SIZE"), (4, u "LOG2_ARRAY_INT_INDEX_SCALE"), (54, u "JLA"), (0, u "Ljdk/internal/access/JavaLangAccess;"), (11, u "LOG2_ARRAY_BOOLEAN_INDEX_SCALE"), (9, u "LOG2_ARRAY_BYTE_INDEX_SCALE"), (5, u "LOG2_ARRAY_CHAR_INDEX_SCALE"), (5, u "LOG2_ARRAY_SHORT_INDEX_SCALE"), (18, u "LOG2_ARRAY_FLOAT_INDEX_SCALE"), (24, u "LOG2_ARRAY_DOUBLE_INDEX_SCALE"), (89, u "T_BOOLEAN"), (2, u "T_CHAR"), (1, u "T_FLOAT"), (1, u "T_DOUBLE"), (1, u "T_BYTE"), (1, u "T_SHORT"), (1, u "T_INT"), (1, u "T_LONG"), (1, u "SOFT_MAX_ARRAY_LENGTH")] 83

def k14m0 : Method := { name := "<init>", desc := "()V", sig := { parameters := [], returnType := none }, accessFlags := 2, code := none }
/-- jdk/internal/util/ArraysSupport -/
def k14 : Class := { plain "jdk/internal/util/ArraysSupport" (some 0) with
  accessFlags := 33
  interfaces := #[]
  cf := some (fileOf pool14 21 #[] #[{ accessFlags := 2, nameIndex := 9, descriptorIndex := 19, attributes := #[] }] 33 16 #[] #[{ accessFlags := 24, nameIndex := 28, descriptorIndex := 29, attributes := #[] }, { accessFlags := 26, nameIndex := 38, descriptorIndex := 39, attributes := #[] }, { accessFlags := 25, nameIndex := 121, descriptorIndex := 25, attributes := #[] }, { accessFlags := 25, nameIndex := 131, descriptorIndex := 25, attributes := #[] }, { accessFlags := 25, nameIndex := 137, descriptorIndex := 25, attributes := #[] }, { accessFlags := 25, nameIndex := 143, descriptorIndex := 25, attributes := #[] }, { accessFlags := 25, nameIndex := 53, descriptorIndex := 25, attributes := #[] }, { accessFlags := 25, nameIndex := 24, descriptorIndex := 25, attributes := #[] }, { accessFlags := 25, nameIndex := 162, descriptorIndex := 25, attributes := #[] }, { accessFlags := 25, nameIndex := 187, descriptorIndex := 25, attributes := #[] }, { accessFlags := 26, nameIndex := 48, descriptorIndex := 25, attributes := #[] }, { accessFlags := 25, nameIndex := 277, descriptorIndex := 25, attributes := #[] }, { accessFlags := 25, nameIndex := 280, descriptorIndex := 25, attributes := #[] }, { accessFlags := 25, nameIndex := 282, descriptorIndex := 25, attributes := #[] }, { accessFlags := 25, nameIndex := 284, descriptorIndex := 25, attributes := #[] }, { accessFlags := 25, nameIndex := 286, descriptorIndex := 25, attributes := #[] }, { accessFlags := 25, nameIndex := 288, descriptorIndex := 25, attributes := #[] }, { accessFlags := 25, nameIndex := 290, descriptorIndex := 25, attributes := #[] }, { accessFlags := 25, nameIndex := 292, descriptorIndex := 25, attributes := #[] }, { accessFlags := 26, nameIndex := 108, descriptorIndex := 109, attributes := #[] }, { accessFlags := 25, nameIndex := 294, descriptorIndex := 25, attributes := #[] }])
  fields := #[{ name := "U", type := (.object "jdk/internal/misc/Unsafe"), accessFlags := 24, slot := 0, constantValue := 0 }, { name := "BIG_ENDIAN", type := .boolean, accessFlags := 26, slot := 1, constantValue := 0 }, { name := "LOG2_ARRAY_BOOLEAN_INDEX_SCALE", type := .int, accessFlags := 25, slot := 2, constantValue := 0 }, { name := "LOG2_ARRAY_BYTE_INDEX_SCALE", type := .int, accessFlags := 25, slot := 3, constantValue := 0 }, { name := "LOG2_ARRAY_CHAR_INDEX_SCALE", type := .int, accessFlags := 25, slot := 4, constantValue := 0 }, { name := "LOG2_ARRAY_SHORT_INDEX_SCALE", type := .int, accessFlags := 25, slot := 5, constantValue := 0 }, { name := "LOG2_ARRAY_INT_INDEX_SCALE", type := .int, accessFlags := 25, slot := 6, constantValue := 0 }, { name := "LOG2_ARRAY_LONG_INDEX_SCALE", type := .int, accessFlags := 25, slot := 7, constantValue := 0 }, { name := "LOG2_ARRAY_FLOAT_INDEX_SCALE", type := .int, accessFlags := 25, slot := 8, constantValue := 0 }, { name := "LOG2_ARRAY_DOUBLE_INDEX_SCALE", type := .int, accessFlags := 25, slot := 9, constantValue := 0 }, { name := "LOG2_BYTE_BIT_SIZE", type := .int, accessFlags := 26, slot := 10, constantValue := 0 }, { name := "T_BOOLEAN", type := .int, accessFlags := 25, slot := 11, constantValue := 0 }, { name := "T_CHAR", type := .int, accessFlags := 25, slot := 12, constantValue := 0 }, { name := "T_FLOAT", type := .int, accessFlags := 25, slot := 13, constantValue := 0 }, { name := "T_DOUBLE", type := .int, accessFlags := 25, slot := 14, constantValue := 0 }, { name := "T_BYTE", type := .int, accessFlags := 25, slot := 15, constantValue := 0 }, { name := "T_SHORT", type := .int, accessFlags := 25, slot := 16, constantValue := 0 }, { name := "T_INT", type := .int, accessFlags := 25, slot := 17, constantValue := 0 }, { name := "T_LONG", type := .int, accessFlags := 25, slot := 18, constantValue := 0 }, { name := "JLA", type := (.object "jdk/internal/access/JavaLangAccess"), accessFlags := 26, slot := 19, constantValue := 0 }, { name := "SOFT_MAX_ARRAY_LENGTH", type := .int, accessFlags := 25, slot := 20, constantValue := 0 }]
  methods := #[k14m0]
  instanceTypes := #[]
  staticTypes := #[(.object "jdk/internal/misc/Unsafe"), .boolean, .int, .int, .int, .int, .int, .int, .int, .int, .int, .int, .int, .int, .int, .int, .int, .int, .int, (.object "jdk/internal/access/JavaLangAccess"), .int]
  resolved := Array.replicate 378 none
  statics := none }

def pool15 : Array CpInfo := pool [(1, u "java/lang/Cloneable"), (0, .class_ 1), (0, u "java/lang/Object"), (0, .class_ 3)] 3

/-- java/lang/Cloneable -/
def k15 : Class := { plain "java/lang/Cloneable" (some 0) with
  accessFlags := 1537
  interfaces := #[]
  cf := some (fileOf pool15 2 #[] #[] 1537 4 #[] #[])
  fields := #[]
  methods := #[]
  instanceTypes := #[]
  staticTypes := #[]
  resolved := Array.replicate 8 none
  statics := none }

/-- the primitive byte -/
def k16 : Class := { plain "byte" none with kind := .primitive 'B', accessFlags := 0x411 }
/-- [B -/
def k17 : Class := { plain "[B" (some 0) with kind := .array 16 .byte, interfaces := #[15, 2], accessFlags := 1041 }

/-- the primitive char -/
def k18 : Class := { plain "char" none with kind := .primitive 'C', accessFlags := 0x411 }
/-- [C -/
def k19 : Class := { plain "[C" (some 0) with kind := .array 18 .char, interfaces := #[15, 2], accessFlags := 1041 }

/-- the primitive int -/
def k20 : Class := { plain "int" none with kind := .primitive 'I', accessFlags := 0x411 }
/-- [I -/
def k21 : Class := { plain "[I" (some 0) with kind := .array 20 .int, interfaces := #[15, 2], accessFlags := 1041 }

def heap : Heap := #[{ cls := 7, slots := #[.long 0, .int 1, .null, .int 0, .null, .int 0, .int 0], vm := .statics 7 },
  { cls := 10, slots := #[.null, .null, .null], vm := .statics 10 },
  { cls := 13, slots := #[.ref 7, .ref 8, .null, .null, .null], vm := .statics 13 },
  { cls := 17, slots := #[.int 97, .int 112, .int 112, .int 114, .int 111, .int 118, .int 101], vm := .none },
  { cls := 7, slots := #[.ref 3, .int 0, .int 0, .int 0], vm := .none },
  { cls := 17, slots := #[.int 100, .int 101, .int 110, .int 121], vm := .none },
  { cls := 7, slots := #[.ref 5, .int 0, .int 0, .int 0], vm := .none },
  { cls := 13, slots := #[.null, .int 0, .int 0, .ref 4, .null], vm := .none },
  { cls := 13, slots := #[.null, .int 1, .int 0, .ref 6, .null], vm := .none }]
def classes : Array Class := #[k0, k1, k2, k3, k4, k5, k6, k7, k8, k9, k10, k11, k12, k13, k14, k15, k16, k17, k18, k19, k20, k21]
def interned : List (Array UInt16 × Addr) := []
def slotsUsed : Nat := 44
def theMethod : MethodId := ⟨1, 1⟩
def args0 : Array Value := #[.int 5, .int 2, .int 3, .int 4]
def aboutOver (below : List Frame) : State where
  vm := { classes := classes, interned := interned.toArray }
  heap := heap
  slotsUsed := slotsUsed
  threads := #[{ frames := .invoking theMethod args0 :: below }]
def below0 : List Frame := [.native { method := ⟨0, 0⟩, args := #[] }]
def about1 : State := aboutOver below0
def p0 : Program := .bare "" "" ""
def e0 : Env := launch0.env 0 0 0
theorem w_frames : about1.frames = Frame.invoking theMethod args0 :: below0 := rfl
set_option maxRecDepth 65536 in
theorem w_args : argsFit about1.vm theMethod args0 = true := by decide +kernel
set_option maxRecDepth 65536 in
theorem w_heap : heapFits about1 = true := by decide +kernel
set_option maxRecDepth 65536 in
theorem w_runnable : about1.curStatus? = some .runnable := by decide +kernel
set_option maxRecDepth 65536 in
theorem w_alone : about1.alone = true := by decide +kernel
set_option maxRecDepth 65536 in
theorem w_named : about1.methodNamed? x = some theMethod := by decide +kernel
set_option maxRecDepth 65536 in
theorem w_hears : about1.hears theMethod below0 = true := by decide +kernel
set_option maxRecDepth 65536 in
theorem w_ripe : about1.ripe theMethod args0 below0 = true := by decide +kernel
theorem w_running : about1.status = .running := rfl
set_option maxRecDepth 65536 in
theorem w_room : about1.hasRoom e0.platform room_1 = true :=
  launch0.hasRoom_least _ room_1 (by decide +kernel) (by decide +kernel) (by decide +kernel) (by decide +kernel) (by decide +kernel) (by decide +kernel)
theorem allAtoms_all (ts : List Jvm.Cond) (a : Array Jvm.Value) (st : Jvm.State) : (allAtoms ts).before a st = ts.all (fun c => c.before a st) := by
  induction ts with
  | nil => rfl
  | cons c t ih =>
    show (Jvm.Cond.and c (allAtoms t)).before a st = _
    rw [Jvm.Cond.before_and, ih, List.all_cons]
def words1 : List Jvm.Cond := Jvm.Cond.code x code maxLocals ret :: tables_1
/-- a 'code' word, met by the world's own term for the bytes: nothing is compared byte by byte -/
theorem code_word {y : MethodName} {bytes : ByteArray} {mx : Nat} {rt : Option FieldType} {a : Array Value} {s : State} {m : MethodId} {meth : Method} {c : Code} (h1 : s.methodNamed? y = some m) (h2 : s.vm.method? m = some meth) (h3 : meth.code = some c) (h4 : c.code = bytes)
    (h5 : (c.maxLocals == mx && c.exceptionTable.isEmpty && decide (c.maxStack ≤ mostOperands) && decide (meth.sig.returnType = rt) && !meth.locks && decide (parseMethodDescriptor y.desc = some meth.sig)) = true) : (Jvm.Cond.code y bytes mx rt).before a s = true := by
  simp only [Bool.and_eq_true, beq_iff_eq, Bool.not_eq_true', decide_eq_true_eq] at h5
  obtain ⟨⟨⟨⟨⟨g1, g2⟩, g3⟩, g4⟩, g5⟩, g6⟩ := h5
  simp [Cond.before, Cond.holds, Cond.value, h1, h2, h3, h4, g1, g2, g3, g4, g5, g6]
def isCode : Jvm.Cond → Bool
  | .code _ _ _ _ => true
  | _ => false
theorem all_split {L : List Jvm.Cond} {P : Jvm.Cond → Bool} (h1 : L.all (fun c => isCode c || P c) = true) (h2 : ∀ c ∈ L.filter isCode, P c = true) : L.all P = true := by
  refine List.all_eq_true.mpr fun c hc => ?_
  have h := List.all_eq_true.mp h1 c hc
  rcases Bool.eq_false_or_eq_true (isCode c) with hi | hi
  · exact h2 c (List.mem_filter.mpr ⟨hc, hi⟩)
  · simpa [hi] using h
set_option maxRecDepth 65536 in
theorem w_c0 : (Jvm.Cond.code x code maxLocals ret).before args0 about1 = true := code_word (m := ⟨1, 1⟩) (meth := k1m1) (c := k1c1) (by decide +kernel) rfl rfl rfl (by decide +kernel)
set_option maxRecDepth 65536 in
theorem w_c1 : (Jvm.Cond.code ({ cls := "com/example/dormouse/dormouse/tool/DecisionOfReviewerPinLaw", name := "base", desc := "(I)Ljava/lang/String;" } : Jvm.MethodName) method_3_code (1 : Nat) (Option.some (Jvm.ClassFile.FieldType.object "java/lang/String"))).before args0 about1 = true := code_word (m := ⟨1, 2⟩) (meth := k1m2) (c := k1c2) (by decide +kernel) rfl rfl rfl (by decide +kernel)
set_option maxRecDepth 65536 in
theorem w_c2 : (Jvm.Cond.code ({ cls := "java/lang/String", name := "length", desc := "()I" } : Jvm.MethodName) jdk_42_method_54_code (1 : Nat) (Option.some Jvm.ClassFile.FieldType.int)).before args0 about1 = true := code_word (m := ⟨7, 2⟩) (meth := k7m2) (c := k7c2) (by decide +kernel) rfl rfl rfl (by decide +kernel)
set_option maxRecDepth 65536 in
theorem w_c3 : (Jvm.Cond.code ({ cls := "java/lang/String", name := "coder", desc := "()B" } : Jvm.MethodName) jdk_42_method_152_code (1 : Nat) (Option.some Jvm.ClassFile.FieldType.byte)).before args0 about1 = true := code_word (m := ⟨7, 6⟩) (meth := k7m6) (c := k7c6) (by decide +kernel) rfl rfl rfl (by decide +kernel)
set_option maxRecDepth 65536 in
theorem w_c4 : (Jvm.Cond.code ({ cls := "java/lang/Math", name := "max", desc := "(II)I" } : Jvm.MethodName) jdk_29_method_65_code (2 : Nat) (Option.some Jvm.ClassFile.FieldType.int)).before args0 about1 = true := code_word (m := ⟨8, 1⟩) (meth := k8m1) (c := k8c1) (by decide +kernel) rfl rfl rfl (by decide +kernel)
set_option maxRecDepth 65536 in
theorem w_c5 : (Jvm.Cond.code ({ cls := "com/example/dormouse/dormouse/tool/DecisionOfReviewerPinLaw", name := "pick", desc := "(Ljava/lang/String;IIC)C" } : Jvm.MethodName) method_4_code (4 : Nat) (Option.some Jvm.ClassFile.FieldType.char)).before args0 about1 = true := code_word (m := ⟨1, 3⟩) (meth := k1m3) (c := k1c3) (by decide +kernel) rfl rfl rfl (by decide +kernel)
set_option maxRecDepth 65536 in
theorem w_c6 : (Jvm.Cond.code ({ cls := "java/lang/String", name := "charAt", desc := "(I)C" } : Jvm.MethodName) jdk_42_method_56_code (2 : Nat) (Option.some Jvm.ClassFile.FieldType.char)).before args0 about1 = true := code_word (m := ⟨7, 3⟩) (meth := k7m3) (c := k7c3) (by decide +kernel) rfl rfl rfl (by decide +kernel)
set_option maxRecDepth 65536 in
theorem w_c7 : (Jvm.Cond.code ({ cls := "java/lang/String", name := "isLatin1", desc := "()Z" } : Jvm.MethodName) jdk_42_method_154_code (1 : Nat) (Option.some Jvm.ClassFile.FieldType.boolean)).before args0 about1 = true := code_word (m := ⟨7, 7⟩) (meth := k7m7) (c := k7c7) (by decide +kernel) rfl rfl rfl (by decide +kernel)
set_option maxRecDepth 65536 in
theorem w_c8 : (Jvm.Cond.code ({ cls := "java/lang/StringLatin1", name := "charAt", desc := "([BI)C" } : Jvm.MethodName) jdk_43_method_2_code (2 : Nat) (Option.some Jvm.ClassFile.FieldType.char)).before args0 about1 = true := code_word (m := ⟨9, 1⟩) (meth := k9m1) (c := k9c1) (by decide +kernel) rfl rfl rfl (by decide +kernel)
set_option maxRecDepth 65536 in
theorem w_c9 : (Jvm.Cond.code ({ cls := "java/lang/String", name := "checkIndex", desc := "(II)V" } : Jvm.MethodName) jdk_42_method_155_code (2 : Nat) (Option.none : Option Jvm.ClassFile.FieldType)).before args0 about1 = true := code_word (m := ⟨7, 8⟩) (meth := k7m8) (c := k7c8) (by decide +kernel) rfl rfl rfl (by decide +kernel)
set_option maxRecDepth 65536 in
theorem w_c10 : (Jvm.Cond.code ({ cls := "jdk/internal/util/Preconditions", name := "checkIndex", desc := "(IILjava/util/function/BiFunction;)I" } : Jvm.MethodName) jdk_41_method_11_code (3 : Nat) (Option.some Jvm.ClassFile.FieldType.int)).before args0 about1 = true := code_word (m := ⟨10, 1⟩) (meth := k10m1) (c := k10c1) (by decide +kernel) rfl rfl rfl (by decide +kernel)
set_option maxRecDepth 65536 in
theorem w_c11 : (Jvm.Cond.code ({ cls := "com/example/dormouse/dormouse/tool/DecisionOfReviewerPinLaw", name := "cut", desc := "([CI)Ljava/lang/String;" } : Jvm.MethodName) method_5_code (2 : Nat) (Option.some (Jvm.ClassFile.FieldType.object "java/lang/String"))).before args0 about1 = true := code_word (m := ⟨1, 4⟩) (meth := k1m4) (c := k1c4) (by decide +kernel) rfl rfl rfl (by decide +kernel)
set_option maxRecDepth 65536 in
theorem w_c12 : (Jvm.Cond.code ({ cls := "java/lang/String", name := "<init>", desc := "([C)V" } : Jvm.MethodName) jdk_42_method_3_code (2 : Nat) (Option.none : Option Jvm.ClassFile.FieldType)).before args0 about1 = true := code_word (m := ⟨7, 1⟩) (meth := k7m1) (c := k7c1) (by decide +kernel) rfl rfl rfl (by decide +kernel)
set_option maxRecDepth 65536 in
theorem w_c13 : (Jvm.Cond.code ({ cls := "java/lang/String", name := "<init>", desc := "([CIILjava/lang/Void;)V" } : Jvm.MethodName) jdk_42_method_149_code (6 : Nat) (Option.none : Option Jvm.ClassFile.FieldType)).before args0 about1 = true := code_word (m := ⟨7, 5⟩) (meth := k7m5) (c := k7c5) (by decide +kernel) rfl rfl rfl (by decide +kernel)
set_option maxRecDepth 65536 in
theorem w_c14 : (Jvm.Cond.code ({ cls := "java/lang/Object", name := "<init>", desc := "()V" } : Jvm.MethodName) object_method_1_code (1 : Nat) (Option.none : Option Jvm.ClassFile.FieldType)).before args0 about1 = true := code_word (m := ⟨0, 0⟩) (meth := k0m0) (c := k0c0) (by decide +kernel) rfl rfl rfl (by decide +kernel)
set_option maxRecDepth 65536 in
theorem w_c15 : (Jvm.Cond.code ({ cls := "java/lang/StringUTF16", name := "compress", desc := "([CII)[B" } : Jvm.MethodName) jdk_52_method_16_code (6 : Nat) (Option.some (Jvm.ClassFile.FieldType.array Jvm.ClassFile.FieldType.byte))).before args0 about1 = true := code_word (m := ⟨11, 2⟩) (meth := k11m2) (c := k11c2) (by decide +kernel) rfl rfl rfl (by decide +kernel)
set_option maxRecDepth 65536 in
theorem w_c16 : (Jvm.Cond.code ({ cls := "java/lang/StringUTF16", name := "compress", desc := "([CI[BII)I" } : Jvm.MethodName) jdk_52_method_21_code (7 : Nat) (Option.some Jvm.ClassFile.FieldType.int)).before args0 about1 = true := code_word (m := ⟨11, 3⟩) (meth := k11m3) (c := k11c3) (by decide +kernel) rfl rfl rfl (by decide +kernel)
set_option maxRecDepth 65536 in
theorem w_c17 : (Jvm.Cond.code ({ cls := "java/lang/StringUTF16", name := "coderFromArrayLen", desc := "([BI)B" } : Jvm.MethodName) jdk_52_method_15_code (2 : Nat) (Option.some Jvm.ClassFile.FieldType.byte)).before args0 about1 = true := code_word (m := ⟨11, 1⟩) (meth := k11m1) (c := k11c1) (by decide +kernel) rfl rfl rfl (by decide +kernel)
set_option maxRecDepth 65536 in
theorem w_c18 : (Jvm.Cond.code ({ cls := "com/example/dormouse/dormouse/tool/Decision", name := "ofReviewer", desc := "(Ljava/lang/String;)Lcom/example/dormouse/dormouse/tool/Decision;" } : Jvm.MethodName) prog_57_method_6_code (2 : Nat) (Option.some (Jvm.ClassFile.FieldType.object "com/example/dormouse/dormouse/tool/Decision"))).before args0 about1 = true := code_word (m := ⟨13, 0⟩) (meth := k13m0) (c := k13c0) (by decide +kernel) rfl rfl rfl (by decide +kernel)
set_option maxRecDepth 65536 in
theorem w_c19 : (Jvm.Cond.code ({ cls := "java/lang/String", name := "equals", desc := "(Ljava/lang/Object;)Z" } : Jvm.MethodName) jdk_42_method_66_code (3 : Nat) (Option.some Jvm.ClassFile.FieldType.boolean)).before args0 about1 = true := code_word (m := ⟨7, 4⟩) (meth := k7m4) (c := k7c4) (by decide +kernel) rfl rfl rfl (by decide +kernel)
set_option maxRecDepth 65536 in
theorem w_c20 : (Jvm.Cond.code ({ cls := "java/lang/StringLatin1", name := "equals", desc := "([B[B)Z" } : Jvm.MethodName) jdk_43_method_13_code (3 : Nat) (Option.some Jvm.ClassFile.FieldType.boolean)).before args0 about1 = true := code_word (m := ⟨9, 2⟩) (meth := k9m2) (c := k9c2) (by decide +kernel) rfl rfl rfl (by decide +kernel)
def codes1 : List Jvm.Cond := [Jvm.Cond.code x code maxLocals ret, Jvm.Cond.code ({ cls := "com/example/dormouse/dormouse/tool/DecisionOfReviewerPinLaw", name := "base", desc := "(I)Ljava/lang/String;" } : Jvm.MethodName) method_3_code (1 : Nat) (Option.some (Jvm.ClassFile.FieldType.object "java/lang/String")), Jvm.Cond.code ({ cls := "java/lang/String", name := "length", desc := "()I" } : Jvm.MethodName) jdk_42_method_54_code (1 : Nat) (Option.some Jvm.ClassFile.FieldType.int), Jvm.Cond.code ({ cls := "java/lang/String", name := "coder", desc := "()B" } : Jvm.MethodName) jdk_42_method_152_code (1 : Nat) (Option.some Jvm.ClassFile.FieldType.byte), Jvm.Cond.code ({ cls := "java/lang/Math", name := "max", desc := "(II)I" } : Jvm.MethodName) jdk_29_method_65_code (2 : Nat) (Option.some Jvm.ClassFile.FieldType.int), Jvm.Cond.code ({ cls := "com/example/dormouse/dormouse/tool/DecisionOfReviewerPinLaw", name := "pick", desc := "(Ljava/lang/String;IIC)C" } : Jvm.MethodName) method_4_code (4 : Nat) (Option.some Jvm.ClassFile.FieldType.char), Jvm.Cond.code ({ cls := "java/lang/String", name := "charAt", desc := "(I)C" } : Jvm.MethodName) jdk_42_method_56_code (2 : Nat) (Option.some Jvm.ClassFile.FieldType.char), Jvm.Cond.code ({ cls := "java/lang/String", name := "isLatin1", desc := "()Z" } : Jvm.MethodName) jdk_42_method_154_code (1 : Nat) (Option.some Jvm.ClassFile.FieldType.boolean), Jvm.Cond.code ({ cls := "java/lang/StringLatin1", name := "charAt", desc := "([BI)C" } : Jvm.MethodName) jdk_43_method_2_code (2 : Nat) (Option.some Jvm.ClassFile.FieldType.char), Jvm.Cond.code ({ cls := "java/lang/String", name := "checkIndex", desc := "(II)V" } : Jvm.MethodName) jdk_42_method_155_code (2 : Nat) (Option.none : Option Jvm.ClassFile.FieldType), Jvm.Cond.code ({ cls := "jdk/internal/util/Preconditions", name := "checkIndex", desc := "(IILjava/util/function/BiFunction;)I" } : Jvm.MethodName) jdk_41_method_11_code (3 : Nat) (Option.some Jvm.ClassFile.FieldType.int), Jvm.Cond.code ({ cls := "com/example/dormouse/dormouse/tool/DecisionOfReviewerPinLaw", name := "cut", desc := "([CI)Ljava/lang/String;" } : Jvm.MethodName) method_5_code (2 : Nat) (Option.some (Jvm.ClassFile.FieldType.object "java/lang/String")), Jvm.Cond.code ({ cls := "java/lang/String", name := "<init>", desc := "([C)V" } : Jvm.MethodName) jdk_42_method_3_code (2 : Nat) (Option.none : Option Jvm.ClassFile.FieldType), Jvm.Cond.code ({ cls := "java/lang/String", name := "<init>", desc := "([CIILjava/lang/Void;)V" } : Jvm.MethodName) jdk_42_method_149_code (6 : Nat) (Option.none : Option Jvm.ClassFile.FieldType), Jvm.Cond.code ({ cls := "java/lang/Object", name := "<init>", desc := "()V" } : Jvm.MethodName) object_method_1_code (1 : Nat) (Option.none : Option Jvm.ClassFile.FieldType), Jvm.Cond.code ({ cls := "java/lang/StringUTF16", name := "compress", desc := "([CII)[B" } : Jvm.MethodName) jdk_52_method_16_code (6 : Nat) (Option.some (Jvm.ClassFile.FieldType.array Jvm.ClassFile.FieldType.byte)), Jvm.Cond.code ({ cls := "java/lang/StringUTF16", name := "compress", desc := "([CI[BII)I" } : Jvm.MethodName) jdk_52_method_21_code (7 : Nat) (Option.some Jvm.ClassFile.FieldType.int), Jvm.Cond.code ({ cls := "java/lang/StringUTF16", name := "coderFromArrayLen", desc := "([BI)B" } : Jvm.MethodName) jdk_52_method_15_code (2 : Nat) (Option.some Jvm.ClassFile.FieldType.byte), Jvm.Cond.code ({ cls := "com/example/dormouse/dormouse/tool/Decision", name := "ofReviewer", desc := "(Ljava/lang/String;)Lcom/example/dormouse/dormouse/tool/Decision;" } : Jvm.MethodName) prog_57_method_6_code (2 : Nat) (Option.some (Jvm.ClassFile.FieldType.object "com/example/dormouse/dormouse/tool/Decision")), Jvm.Cond.code ({ cls := "java/lang/String", name := "equals", desc := "(Ljava/lang/Object;)Z" } : Jvm.MethodName) jdk_42_method_66_code (3 : Nat) (Option.some Jvm.ClassFile.FieldType.boolean), Jvm.Cond.code ({ cls := "java/lang/StringLatin1", name := "equals", desc := "([B[B)Z" } : Jvm.MethodName) jdk_43_method_13_code (3 : Nat) (Option.some Jvm.ClassFile.FieldType.boolean)]
set_option maxRecDepth 65536 in
theorem codes_eq : words1.filter isCode = codes1 := rfl
theorem w_codes : ∀ c ∈ words1.filter isCode, c.before args0 about1 = true := by
  rw [codes_eq]
  intro c hc
  simp only [codes1, List.mem_cons, List.not_mem_nil, or_false] at hc
  rcases hc with rfl | rfl | rfl | rfl | rfl | rfl | rfl | rfl | rfl | rfl | rfl | rfl | rfl | rfl | rfl | rfl | rfl | rfl | rfl | rfl | rfl
  · exact w_c0
  · exact w_c1
  · exact w_c2
  · exact w_c3
  · exact w_c4
  · exact w_c5
  · exact w_c6
  · exact w_c7
  · exact w_c8
  · exact w_c9
  · exact w_c10
  · exact w_c11
  · exact w_c12
  · exact w_c13
  · exact w_c14
  · exact w_c15
  · exact w_c16
  · exact w_c17
  · exact w_c18
  · exact w_c19
  · exact w_c20
set_option maxRecDepth 65536 in
theorem w_t1 : (words1.take 24).all (fun c => isCode c || c.before args0 about1) = true := by decide +kernel
set_option maxRecDepth 65536 in
theorem w_t2 : ((words1.drop 24).take 24).all (fun c => isCode c || c.before args0 about1) = true := by decide +kernel
set_option maxRecDepth 65536 in
theorem w_t3 : (((words1.drop 24).drop 24).take 24).all (fun c => isCode c || c.before args0 about1) = true := by decide +kernel
set_option maxRecDepth 65536 in
theorem w_t4 : ((((words1.drop 24).drop 24).drop 24).take 24).all (fun c => isCode c || c.before args0 about1) = true := by decide +kernel
set_option maxRecDepth 65536 in
theorem w_t5 : ((((words1.drop 24).drop 24).drop 24).drop 24).all (fun c => isCode c || c.before args0 about1) = true := by decide +kernel
theorem w_tables : (allAtoms (Jvm.Cond.code x code maxLocals ret :: tables_1)).before args0 about1 = true := by
  rw [allAtoms_all]
  show words1.all (fun c => c.before args0 about1) = true
  refine all_split ?_ w_codes
  rw [← List.take_append_drop 24 words1, List.all_append, w_t1, ← List.take_append_drop 24 (words1.drop 24), List.all_append, w_t2, ← List.take_append_drop 24 ((words1.drop 24).drop 24), List.all_append, w_t3, ← List.take_append_drop 24 (((words1.drop 24).drop 24).drop 24), List.all_append, w_t4, w_t5]
  rfl
set_option maxRecDepth 65536 in
theorem w_rest : rest_1_c.before args0 about1 = true := by decide +kernel
set_option maxRecDepth 65536 in
theorem w_case : (Jvm.Cond.and given_1 narrow_1).before args0 about1 = true := by decide +kernel
set_option maxRecDepth 65536 in
theorem w_consts : constsHeld consts_1 about1 := Jvm.Lit.constsHeldB_iff.mp (by decide +kernel)
theorem w_applies : (headSpec (Jvm.Cond.code x code maxLocals ret :: tables_1) room_1).applies x e0.platform about1 = true :=
  (Spec.applies_iff w_frames).mpr ⟨w_running, w_runnable, w_alone, w_named, w_hears, w_ripe, w_room, w_tables⟩
theorem atStart : AtStart classFile x code maxLocals ret World_1 tables_1 room_1 Calls_1 rest_1 Pre_1 launch0 p0 e0 about1 theMethod args0 below0 :=
  ⟨lists_1, trivial, launch0.admits_env _ _ _, launch0.least_env, fairChoices_fair.cas, fairChoices_fair.clock, w_frames, w_args, w_heap, w_applies, ⟨w_consts, trivial⟩, w_rest, w_case⟩
end start1
theorem witness_1 : WitnessClaimed_1 := ⟨start1.p0, start1.e0, start1.about1, start1.theMethod, start1.args0, start1.below0, start1.atStart⟩
end Jvm.Pilot.@@N@@
