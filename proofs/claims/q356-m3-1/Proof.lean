import JvmDerived
import JvmDerived.Pilot.@@N@@Statement
import JvmDerived.Pilot.@@N@@Code
set_option linter.unusedVariables false
set_option linter.unusedSimpArgs false
namespace Jvm.Own
open Sem ClassFile Op Lib Bundle Jvm.Stand Jvm.Free Jvm.LawKit Jvm.RoadKit
theorem nl {a b : Nat} (h : Nat.ble a b = true) : a ≤ b := Nat.le_of_ble_eq_true h
section Core
variable {nw : Bool} {p : Program} {l : Launch} {e : Env} {R : Room} {s : State} {m : MethodId} {args : Array Value} {below : List Frame} {meth : Method} {c : Code} {code : ByteArray} {ml : Nat} {nm : String} {ret : Option FieldType} {Z : State} {a0 : Array Value} {EL : List (String × Nat)} {own : String} {P : Option Value → Vm → Heap → Prop}
variable {vm vm' : Vm} {h h' h0 h1 h2 : Heap} {k n pc : Nat} {L : Array Slot} {S : List Value}
/-- what the walk knows of its tables and heap -/
def On (nw : Bool) (s : State) (m : MethodId) (Z : State) (a0 : Array Value) (EL : List (String × Nat)) (own : String) (vm : Vm) (h : Heap) : Prop :=
  (∃ k0, s.Since vm k0 ∧ k0 ≤ h.size) ∧ Z.Warmed39 vm ∧ vm.findClass own = some m.cls ∧ CHv Z EL vm h ∧ Ext Z.heap h ∧ EW Z a0 EL ∧ (nw = true → s.WarmedH vm)
/-- from the heap h, the tables vm and this frame the body returns, and P holds of what it leaves -/
def Go (nw : Bool) (p : Program) (l : Launch) (e : Env) (R : Room) (s : State) (m : MethodId) (args : Array Value) (below : List Frame) (meth : Method) (c : Code) (code : ByteArray) (ml : Nat) (nm : String) (ret : Option FieldType) (Z : State) (a0 : Array Value) (EL : List (String × Nat)) (own : String) (P : Option Value → Vm → Heap → Prop)
    (vm : Vm) (h : Heap) (k n pc : Nat) (L : Array Slot) (S : List Value) : Prop :=
  p.tables.exec = Jvm.exec → c.code = code → c.maxLocals = ml → meth.locks = false → meth.name = nm → meth.sig.returnType = ret → On nw s m Z a0 EL own vm h →
  ∀ (T : State) (locs : List Loc) (cells slots : Nat), Stand p l e R (s.setVm vm) m args below meth c T locs cells slots → T.heap = h → Fr Z.heap.size locs → cells ≤ k → slots ≤ n →
  ∃ (s₂ : State) (v : Option Value), Steps p.tables e below (T.setTop (mkF m pc L S)) s₂ ∧ s₂.status = .running ∧ Ended s₂ below (.returned v) ∧ P v s₂.vm s₂.heap ∧ CHr Z EL vm h s₂.vm s₂.heap ∧ Ext Z.heap s₂.heap ∧
    ∃ L', Fr Z.heap.size L' ∧ ReturnedEndW s (.returned v) s₂ L' R.cells R.slots ∧ (nw = true → s.WarmedH s₂.vm)
theorem Go.mono {k' n' : Nat} (hk : k ≤ k') (hn : n ≤ n') (g : Go nw p l e R s m args below meth c code ml nm ret Z a0 EL own P vm h k' n' pc L S) : Go nw p l e R s m args below meth c code ml nm ret Z a0 EL own P vm h k n pc L S :=
  fun hx hc hm hl hnm hr hon T locs cells slots X hh hF q1 q2 => g hx hc hm hl hnm hr hon T locs cells slots X hh hF (Nat.le_trans q1 hk) (Nat.le_trans q2 hn)
theorem Go.know (g : Ext Z.heap h → Z.Warmed39 vm → CHv Z EL vm h → Go nw p l e R s m args below meth c code ml nm ret Z a0 EL own P vm h k n pc L S) : Go nw p l e R s m args below meth c code ml nm ret Z a0 EL own P vm h k n pc L S :=
  fun hx hc hm hl hnm hr hon => g hon.2.2.2.2.1 hon.2.1 hon.2.2.2.1 hx hc hm hl hnm hr hon
theorem Go.step {pc' : Nat} {L' : Array Slot} {S' : List Value} (st : ∀ T, At T m c below → p.tables.exec = Jvm.exec → c.code = code → ∀ target, Steps p.tables e below (T.setTop (mkF m pc' L' S')) target → Steps p.tables e below (T.setTop (mkF m pc L S)) target)
    (g : Go nw p l e R s m args below meth c code ml nm ret Z a0 EL own P vm h k n pc' L' S') : Go nw p l e R s m args below meth c code ml nm ret Z a0 EL own P vm h k n pc L S := by
  intro hx hc hm hl hnm hr hon T locs cells slots X hh hF hk hn
  obtain ⟨s₂, v, st2, r⟩ := g hx hc hm hl hnm hr hon T locs cells slots X hh hF hk hn
  exact ⟨s₂, v, st T X.here hx hc _ st2, r⟩
/-- a step that may note an entry of the pool, the heap as it was -/
theorem Go.note {pc' : Nat} {L' : Array Slot} {S' : List Value} (st : ∀ T locs cells slots, Stand p l e R (s.setVm vm) m args below meth c T locs cells slots → T.heap = h → p.tables.exec = Jvm.exec → c.code = code → c.maxLocals = ml → On nw s m Z a0 EL own vm h →
      ∃ T', Stand p l e R (s.setVm vm) m args below meth c T' locs cells slots ∧ T'.heap = h ∧ ∀ target, Steps p.tables e below (T'.setTop (mkF m pc' L' S')) target → Steps p.tables e below (T.setTop (mkF m pc L S)) target)
    (g : Go nw p l e R s m args below meth c code ml nm ret Z a0 EL own P vm h k n pc' L' S') : Go nw p l e R s m args below meth c code ml nm ret Z a0 EL own P vm h k n pc L S := by
  intro hx hc hm hl hnm hr hon T locs cells slots X hh hF hk hn
  obtain ⟨T', X', hh', st2⟩ := st T locs cells slots X hh hx hc hm hon
  obtain ⟨s₂, v, st3, r⟩ := g hx hc hm hl hnm hr hon T' locs cells slots X' hh' hF hk hn
  exact ⟨s₂, v, st2 _ st3, r⟩
theorem On.ext (hon : On nw s m Z a0 EL own vm h) (E : Ext h h') : On nw s m Z a0 EL own vm h' := by
  obtain ⟨⟨k0, a1, a2⟩, a3, a4, a5, a6, a7, a8⟩ := hon
  exact ⟨⟨k0, a1, Nat.le_trans a2 E.1⟩, a3, a4, a5.ext E, ⟨Nat.le_trans a6.1 E.1, fun a c q => E.2 _ _ (a6.2 _ _ q)⟩, a7, a8⟩
theorem On.wr {a : Addr} {sl : Nat} {v : Value} (hon : On nw s m Z a0 EL own vm h) (W : Wr h h' a sl v) (Sa : Safe Z EL vm h a) (hz : Z.heap.size ≤ a) : On nw s m Z a0 EL own vm h' := by
  obtain ⟨⟨k0, a1, a2⟩, a3, a4, a5, a6, a7, a8⟩ := hon
  have O : Old Z Z.heap.size h' := Old.wr (Z := Z) ⟨rfl, a6⟩ W hz
  exact ⟨⟨k0, a1, by rw [W.size]; exact a2⟩, a3, a4, a5.wr W Sa, O.2, a7, a8⟩
/-- a step that makes a cell -/
theorem Go.made {pc' dk dn : Nat} {L' : Array Slot} {S' : Addr → List Value} {F : Heap → Addr → Prop} (hk0 : k + dk ≤ R.cells) (hn0 : n + dn ≤ R.slots)
    (st : ∀ T locs cells slots, Stand p l e R (s.setVm vm) m args below meth c T locs cells slots → T.heap = h → p.tables.exec = Jvm.exec → c.code = code → c.maxLocals = ml → On nw s m Z a0 EL own vm h → cells + dk ≤ R.cells → slots + dn ≤ R.slots →
      ∃ T' h', Stand p l e R (s.setVm vm) m args below meth c T' locs (cells + dk) (slots + dn) ∧ T'.heap = h' ∧ Ext h h' ∧ F h' h.size ∧ ∀ target, Steps p.tables e below (T'.setTop (mkF m pc' L' (S' h.size))) target → Steps p.tables e below (T.setTop (mkF m pc L S)) target)
    (g : ∀ a h', a = h.size → Ext h h' → F h' a → Safe Z EL vm h' a → Z.heap.size ≤ a → CHr Z EL vm h vm h' → Go nw p l e R s m args below meth c code ml nm ret Z a0 EL own P vm h' (k + dk) (n + dn) pc' L' (S' a)) : Go nw p l e R s m args below meth c code ml nm ret Z a0 EL own P vm h k n pc L S := by
  intro hx hc hm hl hnm hr hon T locs cells slots X hh hF hk hn
  obtain ⟨T', h', X', hh', E, Fh, st2⟩ := st T locs cells slots X hh hx hc hm hon (by omega) (by omega)
  have ch : CHr Z EL vm h vm h' := CHr.ext E hon.2.2.2.1
  obtain ⟨s₂, v, st3, r1, r2, r3, r4, r5⟩ := g h.size h' rfl E Fh (Safe.ext E hon.2.2.2.1 (Safe.new (Nat.le_refl _))) hon.2.2.2.2.1.1 ch hx hc hm hl hnm hr (hon.ext E) T' locs (cells + dk) (slots + dn) X' hh' hF (by omega) (by omega)
  exact ⟨s₂, v, st2 _ st3, r1, r2, r3, ch.trans r4, r5⟩
/-- a step that writes one slot of a cell made since the law began -/
theorem Go.wrote {pc' : Nat} {L' : Array Slot} {S' : List Value} {a : Addr} {sl : Nat} {w : Value} (Sa : Safe Z EL vm h a) (hz : Z.heap.size ≤ a)
    (st : ∀ T locs cells slots, Stand p l e R (s.setVm vm) m args below meth c T locs cells slots → T.heap = h → p.tables.exec = Jvm.exec → c.code = code → c.maxLocals = ml → meth.name = nm → On nw s m Z a0 EL own vm h →
      ∃ T' h', Stand p l e R (s.setVm vm) m args below meth c T' (locs ++ [⟨a, sl⟩]) cells slots ∧ T'.heap = h' ∧ Wr h h' a sl w ∧ ∀ target, Steps p.tables e below (T'.setTop (mkF m pc' L' S')) target → Steps p.tables e below (T.setTop (mkF m pc L S)) target)
    (g : ∀ h', Wr h h' a sl w → Safe Z EL vm h' a → CHr Z EL vm h vm h' → Go nw p l e R s m args below meth c code ml nm ret Z a0 EL own P vm h' k n pc' L' S') : Go nw p l e R s m args below meth c code ml nm ret Z a0 EL own P vm h k n pc L S := by
  intro hx hc hm hl hnm hr hon T locs cells slots X hh hF hk hn
  obtain ⟨T', h', X', hh', W, st2⟩ := st T locs cells slots X hh hx hc hm hnm hon
  have ch : CHr Z EL vm h vm h' := CHr.wr W Sa hon.2.2.2.1
  obtain ⟨s₂, v, st3, r1, r2, r3, r4, r5⟩ := g h' W (Safe.wr W Sa hon.2.2.2.1 Sa) ch hx hc hm hl hnm hr (hon.wr W Sa hz) T' _ cells slots X' hh' (Fr.snoc X' hF hz) hk hn
  exact ⟨s₂, v, st2 _ st3, r1, r2, r3, ch.trans r4, r5⟩
theorem Go.iload_n {i : Fin 4} {v : Int32} (pc' : Nat) (hd : decode code pc = .ok (.iload_n i, 1)) (hp : pc + 1 = pc') (hl : L[i.val]? = some (.val (.int v))) (g : Go nw p l e R s m args below meth c code ml nm ret Z a0 EL own P vm h k n pc' L (.int v :: S)) : Go nw p l e R s m args below meth c code ml nm ret Z a0 EL own P vm h k n pc L S := by
  subst hp; exact g.step fun T hT hx hc _ q => XS.iloadN (g := mkF m pc L (S)) hT hx rfl (hb hc hd) hl q
theorem Go.iload {i : Nat} {v : Int32} (pc' : Nat) (hd : decode code pc = .ok (.iload i, 2)) (hp : pc + 2 = pc') (hl : L[i]? = some (.val (.int v))) (g : Go nw p l e R s m args below meth c code ml nm ret Z a0 EL own P vm h k n pc' L (.int v :: S)) : Go nw p l e R s m args below meth c code ml nm ret Z a0 EL own P vm h k n pc L S := by
  subst hp; exact g.step fun T hT hx hc _ q => XS.iload (g := mkF m pc L (S)) hT hx rfl (hb hc hd) hl q
theorem Go.lload_n {i : Fin 4} {v : Int64} (pc' : Nat) (hd : decode code pc = .ok (.lload_n i, 1)) (hp : pc + 1 = pc') (hl : L[i.val]? = some (.val (.long v))) (g : Go nw p l e R s m args below meth c code ml nm ret Z a0 EL own P vm h k n pc' L (.long v :: S)) : Go nw p l e R s m args below meth c code ml nm ret Z a0 EL own P vm h k n pc L S := by
  subst hp; exact g.step fun T hT hx hc _ q => XS.lloadN (g := mkF m pc L (S)) hT hx rfl (hb hc hd) hl q
theorem Go.lload {i : Nat} {v : Int64} (pc' : Nat) (hd : decode code pc = .ok (.lload i, 2)) (hp : pc + 2 = pc') (hl : L[i]? = some (.val (.long v))) (g : Go nw p l e R s m args below meth c code ml nm ret Z a0 EL own P vm h k n pc' L (.long v :: S)) : Go nw p l e R s m args below meth c code ml nm ret Z a0 EL own P vm h k n pc L S := by
  subst hp; exact g.step fun T hT hx hc _ q => XS.lload (g := mkF m pc L (S)) hT hx rfl (hb hc hd) hl q
theorem Go.aload_n {i : Fin 4} {v : Value} (pc' : Nat) (hd : decode code pc = .ok (.aload_n i, 1)) (hp : pc + 1 = pc') (hl : L[i.val]? = some (.val v)) (hv : v.isRef = true) (g : Go nw p l e R s m args below meth c code ml nm ret Z a0 EL own P vm h k n pc' L (v :: S)) : Go nw p l e R s m args below meth c code ml nm ret Z a0 EL own P vm h k n pc L S := by
  subst hp; exact g.step fun T hT hx hc _ q => XS.aloadN (g := mkF m pc L (S)) hT hx rfl (hb hc hd) hl hv q
theorem Go.aload {i : Nat} {v : Value} (pc' : Nat) (hd : decode code pc = .ok (.aload i, 2)) (hp : pc + 2 = pc') (hl : L[i]? = some (.val v)) (hv : v.isRef = true) (g : Go nw p l e R s m args below meth c code ml nm ret Z a0 EL own P vm h k n pc' L (v :: S)) : Go nw p l e R s m args below meth c code ml nm ret Z a0 EL own P vm h k n pc L S := by
  subst hp; exact g.step fun T hT hx hc _ q => XS.aload (g := mkF m pc L (S)) hT hx rfl (hb hc hd) hl hv q
theorem Go.iconst {i : Int} (v : Int32) (pc' : Nat) (hd : decode code pc = .ok (.iconst i, 1)) (hp : pc + 1 = pc') (hv : Int32.ofInt i = v) (g : Go nw p l e R s m args below meth c code ml nm ret Z a0 EL own P vm h k n pc' L (.int v :: S)) : Go nw p l e R s m args below meth c code ml nm ret Z a0 EL own P vm h k n pc L S := by
  subst hp hv; exact g.step fun T hT hx hc _ q => XS.iconst hT hx rfl (hb hc hd) q
theorem Go.bipush {i : Int} (v : Int32) (pc' : Nat) (hd : decode code pc = .ok (.bipush i, 2)) (hp : pc + 2 = pc') (hv : (Int8.ofInt i).toInt32 = v) (g : Go nw p l e R s m args below meth c code ml nm ret Z a0 EL own P vm h k n pc' L (.int v :: S)) : Go nw p l e R s m args below meth c code ml nm ret Z a0 EL own P vm h k n pc L S := by
  subst hp hv; exact g.step fun T hT hx hc _ q => XS.bipush hT hx rfl (hb hc hd) q
theorem Go.sipush {i : Int} (v : Int32) (pc' : Nat) (hd : decode code pc = .ok (.sipush i, 3)) (hp : pc + 3 = pc') (hv : (Int16.ofInt i).toInt32 = v) (g : Go nw p l e R s m args below meth c code ml nm ret Z a0 EL own P vm h k n pc' L (.int v :: S)) : Go nw p l e R s m args below meth c code ml nm ret Z a0 EL own P vm h k n pc L S := by
  subst hp hv; exact g.step fun T hT hx hc _ q => XS.sipush hT hx rfl (hb hc hd) q
theorem Go.lconst {i : Fin 2} (v : Int64) (pc' : Nat) (hd : decode code pc = .ok (.lconst i, 1)) (hp : pc + 1 = pc') (hv : Int64.ofNat i = v) (g : Go nw p l e R s m args below meth c code ml nm ret Z a0 EL own P vm h k n pc' L (.long v :: S)) : Go nw p l e R s m args below meth c code ml nm ret Z a0 EL own P vm h k n pc L S := by
  subst hp hv; exact g.step fun T hT hx hc _ q => XS.lconst hT hx rfl (hb hc hd) q
theorem Go.aconst_null  (pc' : Nat) (hd : decode code pc = .ok (.aconst_null, 1)) (hp : pc + 1 = pc') (g : Go nw p l e R s m args below meth c code ml nm ret Z a0 EL own P vm h k n pc' L (.null :: S)) : Go nw p l e R s m args below meth c code ml nm ret Z a0 EL own P vm h k n pc L S := by
  subst hp; exact g.step fun T hT hx hc _ q => XS.aconstNull (g := mkF m pc L (S)) hT hx rfl (hb hc hd)  q
theorem Go.istore_n {i : Fin 4} {v : Int32} (L' : Array Slot) (pc' : Nat) (hd : decode code pc = .ok (.istore_n i, 1)) (hp : pc + 1 = pc') (hl : storeLocals L i.val (.int v) = some L') (g : Go nw p l e R s m args below meth c code ml nm ret Z a0 EL own P vm h k n pc' L' S) : Go nw p l e R s m args below meth c code ml nm ret Z a0 EL own P vm h k n pc L (.int v :: S) := by
  subst hp; exact g.step fun T hT hx hc _ q => XS.istoreN hT hx rfl (hb hc hd) rfl hl q
theorem Go.istore {i : Nat} {v : Int32} (L' : Array Slot) (pc' : Nat) (hd : decode code pc = .ok (.istore i, 2)) (hp : pc + 2 = pc') (hl : storeLocals L i (.int v) = some L') (g : Go nw p l e R s m args below meth c code ml nm ret Z a0 EL own P vm h k n pc' L' S) : Go nw p l e R s m args below meth c code ml nm ret Z a0 EL own P vm h k n pc L (.int v :: S) := by
  subst hp; exact g.step fun T hT hx hc _ q => XS.istore hT hx rfl (hb hc hd) rfl hl q
theorem Go.lstore_n {i : Fin 4} {v : Int64} (L' : Array Slot) (pc' : Nat) (hd : decode code pc = .ok (.lstore_n i, 1)) (hp : pc + 1 = pc') (hl : storeLocals L i.val (.long v) = some L') (g : Go nw p l e R s m args below meth c code ml nm ret Z a0 EL own P vm h k n pc' L' S) : Go nw p l e R s m args below meth c code ml nm ret Z a0 EL own P vm h k n pc L (.long v :: S) := by
  subst hp; exact g.step fun T hT hx hc _ q => XS.lstoreN hT hx rfl (hb hc hd) rfl hl q
theorem Go.lstore {i : Nat} {v : Int64} (L' : Array Slot) (pc' : Nat) (hd : decode code pc = .ok (.lstore i, 2)) (hp : pc + 2 = pc') (hl : storeLocals L i (.long v) = some L') (g : Go nw p l e R s m args below meth c code ml nm ret Z a0 EL own P vm h k n pc' L' S) : Go nw p l e R s m args below meth c code ml nm ret Z a0 EL own P vm h k n pc L (.long v :: S) := by
  subst hp; exact g.step fun T hT hx hc _ q => XS.lstore hT hx rfl (hb hc hd) rfl hl q
theorem Go.astore_n {i : Fin 4} {v : Value} (L' : Array Slot) (pc' : Nat) (hd : decode code pc = .ok (.astore_n i, 1)) (hp : pc + 1 = pc') (hv : v.isRef = true) (hl : storeLocals L i.val v = some L') (g : Go nw p l e R s m args below meth c code ml nm ret Z a0 EL own P vm h k n pc' L' S) : Go nw p l e R s m args below meth c code ml nm ret Z a0 EL own P vm h k n pc L (v :: S) := by
  subst hp; exact g.step fun T hT hx hc _ q => XS.astoreN hT hx rfl (hb hc hd) rfl hv hl q
theorem Go.astore {i : Nat} {v : Value} (L' : Array Slot) (pc' : Nat) (hd : decode code pc = .ok (.astore i, 2)) (hp : pc + 2 = pc') (hv : v.isRef = true) (hl : storeLocals L i v = some L') (g : Go nw p l e R s m args below meth c code ml nm ret Z a0 EL own P vm h k n pc' L' S) : Go nw p l e R s m args below meth c code ml nm ret Z a0 EL own P vm h k n pc L (v :: S) := by
  subst hp; exact g.step fun T hT hx hc _ q => XS.astore hT hx rfl (hb hc hd) rfl hv hl q
theorem Go.iinc {i : Nat} {cst : Int} {x : Int32} (w : Int32) (L' : Array Slot) (pc' : Nat) (hd : decode code pc = .ok (.iinc i cst, 3)) (hp : pc + 3 = pc') (hl : L[i]? = some (.val (.int x))) (hw : x + Int32.ofInt cst = w) (hl' : storeLocals L i (.int w) = some L') (g : Go nw p l e R s m args below meth c code ml nm ret Z a0 EL own P vm h k n pc' L' S) : Go nw p l e R s m args below meth c code ml nm ret Z a0 EL own P vm h k n pc L S := by
  subst hp hw; exact g.step fun T hT hx hc _ q => XS.iinc hT hx rfl (hb hc hd) hl hl' q
theorem Go.iadd {x y : Int32} (z : Int32) (pc' : Nat) (hd : decode code pc = .ok (.iadd, 1)) (hp : pc + 1 = pc') (hz : x + y = z) (g : Go nw p l e R s m args below meth c code ml nm ret Z a0 EL own P vm h k n pc' L (.int z :: S)) : Go nw p l e R s m args below meth c code ml nm ret Z a0 EL own P vm h k n pc L (.int y :: .int x :: S) := by
  subst hp hz; exact g.step fun T hT hx hc _ q => XS.iadd hT hx rfl (hb hc hd) rfl  q
theorem Go.isub {x y : Int32} (z : Int32) (pc' : Nat) (hd : decode code pc = .ok (.isub, 1)) (hp : pc + 1 = pc') (hz : x - y = z) (g : Go nw p l e R s m args below meth c code ml nm ret Z a0 EL own P vm h k n pc' L (.int z :: S)) : Go nw p l e R s m args below meth c code ml nm ret Z a0 EL own P vm h k n pc L (.int y :: .int x :: S) := by
  subst hp hz; exact g.step fun T hT hx hc _ q => XS.isub hT hx rfl (hb hc hd) rfl  q
theorem Go.imul {x y : Int32} (z : Int32) (pc' : Nat) (hd : decode code pc = .ok (.imul, 1)) (hp : pc + 1 = pc') (hz : x * y = z) (g : Go nw p l e R s m args below meth c code ml nm ret Z a0 EL own P vm h k n pc' L (.int z :: S)) : Go nw p l e R s m args below meth c code ml nm ret Z a0 EL own P vm h k n pc L (.int y :: .int x :: S) := by
  subst hp hz; exact g.step fun T hT hx hc _ q => XS.imul hT hx rfl (hb hc hd) rfl  q
theorem Go.iand {x y : Int32} (z : Int32) (pc' : Nat) (hd : decode code pc = .ok (.iand, 1)) (hp : pc + 1 = pc') (hz : x &&& y = z) (g : Go nw p l e R s m args below meth c code ml nm ret Z a0 EL own P vm h k n pc' L (.int z :: S)) : Go nw p l e R s m args below meth c code ml nm ret Z a0 EL own P vm h k n pc L (.int y :: .int x :: S) := by
  subst hp hz; exact g.step fun T hT hx hc _ q => XS.iand hT hx rfl (hb hc hd) rfl  q
theorem Go.ior {x y : Int32} (z : Int32) (pc' : Nat) (hd : decode code pc = .ok (.ior, 1)) (hp : pc + 1 = pc') (hz : x ||| y = z) (g : Go nw p l e R s m args below meth c code ml nm ret Z a0 EL own P vm h k n pc' L (.int z :: S)) : Go nw p l e R s m args below meth c code ml nm ret Z a0 EL own P vm h k n pc L (.int y :: .int x :: S) := by
  subst hp hz; exact g.step fun T hT hx hc _ q => XS.ior hT hx rfl (hb hc hd) rfl  q
theorem Go.ixor {x y : Int32} (z : Int32) (pc' : Nat) (hd : decode code pc = .ok (.ixor, 1)) (hp : pc + 1 = pc') (hz : x ^^^ y = z) (g : Go nw p l e R s m args below meth c code ml nm ret Z a0 EL own P vm h k n pc' L (.int z :: S)) : Go nw p l e R s m args below meth c code ml nm ret Z a0 EL own P vm h k n pc L (.int y :: .int x :: S) := by
  subst hp hz; exact g.step fun T hT hx hc _ q => XS.ixor hT hx rfl (hb hc hd) rfl  q
theorem Go.ishl {x y : Int32} (z : Int32) (pc' : Nat) (hd : decode code pc = .ok (.ishl, 1)) (hp : pc + 1 = pc') (hz : x <<< (y &&& 31) = z) (g : Go nw p l e R s m args below meth c code ml nm ret Z a0 EL own P vm h k n pc' L (.int z :: S)) : Go nw p l e R s m args below meth c code ml nm ret Z a0 EL own P vm h k n pc L (.int y :: .int x :: S) := by
  subst hp hz; exact g.step fun T hT hx hc _ q => XS.ishl hT hx rfl (hb hc hd) rfl  q
theorem Go.ishr {x y : Int32} (z : Int32) (pc' : Nat) (hd : decode code pc = .ok (.ishr, 1)) (hp : pc + 1 = pc') (hz : x >>> (y &&& 31) = z) (g : Go nw p l e R s m args below meth c code ml nm ret Z a0 EL own P vm h k n pc' L (.int z :: S)) : Go nw p l e R s m args below meth c code ml nm ret Z a0 EL own P vm h k n pc L (.int y :: .int x :: S) := by
  subst hp hz; exact g.step fun T hT hx hc _ q => XS.ishr hT hx rfl (hb hc hd) rfl  q
theorem Go.iushr {x y : Int32} (z : Int32) (pc' : Nat) (hd : decode code pc = .ok (.iushr, 1)) (hp : pc + 1 = pc') (hz : XT.ushr x y = z) (g : Go nw p l e R s m args below meth c code ml nm ret Z a0 EL own P vm h k n pc' L (.int z :: S)) : Go nw p l e R s m args below meth c code ml nm ret Z a0 EL own P vm h k n pc L (.int y :: .int x :: S) := by
  subst hp hz; exact g.step fun T hT hx hc _ q => XS.iushr hT hx rfl (hb hc hd) rfl  q
theorem Go.idiv {x y : Int32} (z : Int32) (pc' : Nat) (hd : decode code pc = .ok (.idiv, 1)) (hp : pc + 1 = pc') (hy : y ≠ 0) (hz : x / y = z) (g : Go nw p l e R s m args below meth c code ml nm ret Z a0 EL own P vm h k n pc' L (.int z :: S)) : Go nw p l e R s m args below meth c code ml nm ret Z a0 EL own P vm h k n pc L (.int y :: .int x :: S) := by
  subst hp hz; exact g.step fun T hT hx hc _ q => XS.idiv hT hx rfl (hb hc hd) rfl hy q
theorem Go.irem {x y : Int32} (z : Int32) (pc' : Nat) (hd : decode code pc = .ok (.irem, 1)) (hp : pc + 1 = pc') (hy : y ≠ 0) (hz : x - (x / y) * y = z) (g : Go nw p l e R s m args below meth c code ml nm ret Z a0 EL own P vm h k n pc' L (.int z :: S)) : Go nw p l e R s m args below meth c code ml nm ret Z a0 EL own P vm h k n pc L (.int y :: .int x :: S) := by
  subst hp hz; exact g.step fun T hT hx hc _ q => XS.irem hT hx rfl (hb hc hd) rfl hy q
theorem Go.ladd {x y : Int64} (z : Int64) (pc' : Nat) (hd : decode code pc = .ok (.ladd, 1)) (hp : pc + 1 = pc') (hz : x + y = z) (g : Go nw p l e R s m args below meth c code ml nm ret Z a0 EL own P vm h k n pc' L (.long z :: S)) : Go nw p l e R s m args below meth c code ml nm ret Z a0 EL own P vm h k n pc L (.long y :: .long x :: S) := by
  subst hp hz; exact g.step fun T hT hx hc _ q => XS.ladd hT hx rfl (hb hc hd) rfl q
theorem Go.lsub {x y : Int64} (z : Int64) (pc' : Nat) (hd : decode code pc = .ok (.lsub, 1)) (hp : pc + 1 = pc') (hz : x - y = z) (g : Go nw p l e R s m args below meth c code ml nm ret Z a0 EL own P vm h k n pc' L (.long z :: S)) : Go nw p l e R s m args below meth c code ml nm ret Z a0 EL own P vm h k n pc L (.long y :: .long x :: S) := by
  subst hp hz; exact g.step fun T hT hx hc _ q => XS.lsub hT hx rfl (hb hc hd) rfl q
theorem Go.lmul {x y : Int64} (z : Int64) (pc' : Nat) (hd : decode code pc = .ok (.lmul, 1)) (hp : pc + 1 = pc') (hz : x * y = z) (g : Go nw p l e R s m args below meth c code ml nm ret Z a0 EL own P vm h k n pc' L (.long z :: S)) : Go nw p l e R s m args below meth c code ml nm ret Z a0 EL own P vm h k n pc L (.long y :: .long x :: S) := by
  subst hp hz; exact g.step fun T hT hx hc _ q => XS.lmul hT hx rfl (hb hc hd) rfl q
theorem Go.land {x y : Int64} (z : Int64) (pc' : Nat) (hd : decode code pc = .ok (.land, 1)) (hp : pc + 1 = pc') (hz : x &&& y = z) (g : Go nw p l e R s m args below meth c code ml nm ret Z a0 EL own P vm h k n pc' L (.long z :: S)) : Go nw p l e R s m args below meth c code ml nm ret Z a0 EL own P vm h k n pc L (.long y :: .long x :: S) := by
  subst hp hz; exact g.step fun T hT hx hc _ q => XS.land hT hx rfl (hb hc hd) rfl q
theorem Go.lor {x y : Int64} (z : Int64) (pc' : Nat) (hd : decode code pc = .ok (.lor, 1)) (hp : pc + 1 = pc') (hz : x ||| y = z) (g : Go nw p l e R s m args below meth c code ml nm ret Z a0 EL own P vm h k n pc' L (.long z :: S)) : Go nw p l e R s m args below meth c code ml nm ret Z a0 EL own P vm h k n pc L (.long y :: .long x :: S) := by
  subst hp hz; exact g.step fun T hT hx hc _ q => XS.lor hT hx rfl (hb hc hd) rfl q
theorem Go.lxor {x y : Int64} (z : Int64) (pc' : Nat) (hd : decode code pc = .ok (.lxor, 1)) (hp : pc + 1 = pc') (hz : x ^^^ y = z) (g : Go nw p l e R s m args below meth c code ml nm ret Z a0 EL own P vm h k n pc' L (.long z :: S)) : Go nw p l e R s m args below meth c code ml nm ret Z a0 EL own P vm h k n pc L (.long y :: .long x :: S) := by
  subst hp hz; exact g.step fun T hT hx hc _ q => XS.lxor hT hx rfl (hb hc hd) rfl q
theorem Go.lshl {x : Int64} {y : Int32} (z : Int64) (pc' : Nat) (hd : decode code pc = .ok (.lshl, 1)) (hp : pc + 1 = pc') (hz : x <<< (y.toInt64 &&& 63) = z) (g : Go nw p l e R s m args below meth c code ml nm ret Z a0 EL own P vm h k n pc' L (.long z :: S)) : Go nw p l e R s m args below meth c code ml nm ret Z a0 EL own P vm h k n pc L (.int y :: .long x :: S) := by
  subst hp hz; exact g.step fun T hT hx hc _ q => XT.lshl hT hx rfl (hb hc hd) rfl q
theorem Go.lshr {x : Int64} {y : Int32} (z : Int64) (pc' : Nat) (hd : decode code pc = .ok (.lshr, 1)) (hp : pc + 1 = pc') (hz : x >>> (y.toInt64 &&& 63) = z) (g : Go nw p l e R s m args below meth c code ml nm ret Z a0 EL own P vm h k n pc' L (.long z :: S)) : Go nw p l e R s m args below meth c code ml nm ret Z a0 EL own P vm h k n pc L (.int y :: .long x :: S) := by
  subst hp hz; exact g.step fun T hT hx hc _ q => XT.lshr hT hx rfl (hb hc hd) rfl q
theorem Go.lushr {x : Int64} {y : Int32} (z : Int64) (pc' : Nat) (hd : decode code pc = .ok (.lushr, 1)) (hp : pc + 1 = pc') (hz : XT.ushrL x y = z) (g : Go nw p l e R s m args below meth c code ml nm ret Z a0 EL own P vm h k n pc' L (.long z :: S)) : Go nw p l e R s m args below meth c code ml nm ret Z a0 EL own P vm h k n pc L (.int y :: .long x :: S) := by
  subst hp hz; exact g.step fun T hT hx hc _ q => XT.lushr hT hx rfl (hb hc hd) rfl q
theorem Go.lcmp {x y : Int64} (z : Int32) (pc' : Nat) (hd : decode code pc = .ok (.lcmp, 1)) (hp : pc + 1 = pc') (hz : XT.cmpL x y = z) (g : Go nw p l e R s m args below meth c code ml nm ret Z a0 EL own P vm h k n pc' L (.int z :: S)) : Go nw p l e R s m args below meth c code ml nm ret Z a0 EL own P vm h k n pc L (.long y :: .long x :: S) := by
  subst hp hz; exact g.step fun T hT hx hc _ q => XS.lcmp hT hx rfl (hb hc hd) rfl q
theorem Go.ineg {x : Int32} (z : Int32) (pc' : Nat) (hd : decode code pc = .ok (.ineg, 1)) (hp : pc + 1 = pc') (hz : -x = z) (g : Go nw p l e R s m args below meth c code ml nm ret Z a0 EL own P vm h k n pc' L (.int z :: S)) : Go nw p l e R s m args below meth c code ml nm ret Z a0 EL own P vm h k n pc L (.int x :: S) := by
  subst hp hz; exact g.step fun T hT hx hc _ q => XS.ineg hT hx rfl (hb hc hd) rfl q
theorem Go.i2b {x : Int32} (z : Int32) (pc' : Nat) (hd : decode code pc = .ok (.i2b, 1)) (hp : pc + 1 = pc') (hz : x.toInt8.toInt32 = z) (g : Go nw p l e R s m args below meth c code ml nm ret Z a0 EL own P vm h k n pc' L (.int z :: S)) : Go nw p l e R s m args below meth c code ml nm ret Z a0 EL own P vm h k n pc L (.int x :: S) := by
  subst hp hz; exact g.step fun T hT hx hc _ q => XS.i2b hT hx rfl (hb hc hd) rfl q
theorem Go.i2c {x : Int32} (z : Int32) (pc' : Nat) (hd : decode code pc = .ok (.i2c, 1)) (hp : pc + 1 = pc') (hz : x.toUInt32.toUInt16.toUInt32.toInt32 = z) (g : Go nw p l e R s m args below meth c code ml nm ret Z a0 EL own P vm h k n pc' L (.int z :: S)) : Go nw p l e R s m args below meth c code ml nm ret Z a0 EL own P vm h k n pc L (.int x :: S) := by
  subst hp hz; exact g.step fun T hT hx hc _ q => XS.i2c hT hx rfl (hb hc hd) rfl q
theorem Go.i2s {x : Int32} (z : Int32) (pc' : Nat) (hd : decode code pc = .ok (.i2s, 1)) (hp : pc + 1 = pc') (hz : x.toInt16.toInt32 = z) (g : Go nw p l e R s m args below meth c code ml nm ret Z a0 EL own P vm h k n pc' L (.int z :: S)) : Go nw p l e R s m args below meth c code ml nm ret Z a0 EL own P vm h k n pc L (.int x :: S) := by
  subst hp hz; exact g.step fun T hT hx hc _ q => XS.i2s hT hx rfl (hb hc hd) rfl q
theorem Go.i2l {x : Int32} (z : Int64) (pc' : Nat) (hd : decode code pc = .ok (.i2l, 1)) (hp : pc + 1 = pc') (hz : x.toInt64 = z) (g : Go nw p l e R s m args below meth c code ml nm ret Z a0 EL own P vm h k n pc' L (.long z :: S)) : Go nw p l e R s m args below meth c code ml nm ret Z a0 EL own P vm h k n pc L (.int x :: S) := by
  subst hp hz; exact g.step fun T hT hx hc _ q => XS.i2l hT hx rfl (hb hc hd) rfl q
theorem Go.l2i {x : Int64} (z : Int32) (pc' : Nat) (hd : decode code pc = .ok (.l2i, 1)) (hp : pc + 1 = pc') (hz : x.toInt32 = z) (g : Go nw p l e R s m args below meth c code ml nm ret Z a0 EL own P vm h k n pc' L (.int z :: S)) : Go nw p l e R s m args below meth c code ml nm ret Z a0 EL own P vm h k n pc L (.long x :: S) := by
  subst hp hz; exact g.step fun T hT hx hc _ q => XS.l2i hT hx rfl (hb hc hd) rfl q
theorem Go.lneg {x : Int64} (z : Int64) (pc' : Nat) (hd : decode code pc = .ok (.lneg, 1)) (hp : pc + 1 = pc') (hz : -x = z) (g : Go nw p l e R s m args below meth c code ml nm ret Z a0 EL own P vm h k n pc' L (.long z :: S)) : Go nw p l e R s m args below meth c code ml nm ret Z a0 EL own P vm h k n pc L (.long x :: S) := by
  subst hp hz; exact g.step fun T hT hx hc _ q => XS.lneg hT hx rfl (hb hc hd) rfl q
theorem Go.dup {x : Value} (pc' : Nat) (hd : decode code pc = .ok (.dup, 1)) (hp : pc + 1 = pc') (hx1 : x.category = 1) (g : Go nw p l e R s m args below meth c code ml nm ret Z a0 EL own P vm h k n pc' L (x :: x :: S)) : Go nw p l e R s m args below meth c code ml nm ret Z a0 EL own P vm h k n pc L (x :: S) := by
  subst hp; exact g.step fun T hT hx hc _ q => XS.dup (g := mkF m pc L (x :: S)) hT hx rfl (hb hc hd) rfl hx1 q
theorem Go.pop {x : Value} (pc' : Nat) (hd : decode code pc = .ok (.pop, 1)) (hp : pc + 1 = pc') (hx1 : x.category = 1) (g : Go nw p l e R s m args below meth c code ml nm ret Z a0 EL own P vm h k n pc' L S) : Go nw p l e R s m args below meth c code ml nm ret Z a0 EL own P vm h k n pc L (x :: S) := by
  subst hp; exact g.step fun T hT hx hc _ q => XS.pop (g := mkF m pc L (x :: S)) hT hx rfl (hb hc hd) rfl hx1 q
theorem Go.dup_x1 {x y : Value} (pc' : Nat) (hd : decode code pc = .ok (.dup_x1, 1)) (hp : pc + 1 = pc') (hx1 : x.category = 1) (hx2 : y.category = 1) (g : Go nw p l e R s m args below meth c code ml nm ret Z a0 EL own P vm h k n pc' L (x :: y :: x :: S)) : Go nw p l e R s m args below meth c code ml nm ret Z a0 EL own P vm h k n pc L (x :: y :: S) := by
  subst hp; exact g.step fun T hT hx hc _ q => XS.dupX1 (g := mkF m pc L (x :: y :: S)) hT hx rfl (hb hc hd) rfl hx1 hx2 q
theorem Go.dup2 {x y : Value} (pc' : Nat) (hd : decode code pc = .ok (.dup2, 1)) (hp : pc + 1 = pc') (hx1 : x.category = 1) (hx2 : y.category = 1) (g : Go nw p l e R s m args below meth c code ml nm ret Z a0 EL own P vm h k n pc' L (x :: y :: x :: y :: S)) : Go nw p l e R s m args below meth c code ml nm ret Z a0 EL own P vm h k n pc L (x :: y :: S) := by
  subst hp; exact g.step fun T hT hx hc _ q => XT.dup2 (g := mkF m pc L (x :: y :: S)) hT hx rfl (hb hc hd) rfl hx1 hx2 q
theorem Go.goto {o : Int} (pc' : Nat) (hd : decode code pc = .ok (.goto o, 3)) (ho : 0 ≤ (pc : Int) + o) (hp : ((pc : Int) + o).toNat = pc') (g : Go nw p l e R s m args below meth c code ml nm ret Z a0 EL own P vm h k n pc' L S) : Go nw p l e R s m args below meth c code ml nm ret Z a0 EL own P vm h k n pc L S :=
  g.step fun T hT hx hc _ q => XS.goto hT hx rfl rfl (hb hc hd) ho hp q
theorem Go.ifB {cd : ClassFile.Cond} {x : Int32} {o : Int} (pc' pc'' : Nat) (hd : decode code pc = .ok (.ifCond cd o, 3)) (ho : 0 ≤ (pc : Int) + o) (hp : ((pc : Int) + o).toNat = pc') (hq : pc + 3 = pc'')
    (gt : ifCond.holds cd x = true → Go nw p l e R s m args below meth c code ml nm ret Z a0 EL own P vm h k n pc' L S) (gf : ifCond.holds cd x = false → Go nw p l e R s m args below meth c code ml nm ret Z a0 EL own P vm h k n pc'' L S) : Go nw p l e R s m args below meth c code ml nm ret Z a0 EL own P vm h k n pc L (.int x :: S) := by
  subst hq
  cases hh : ifCond.holds cd x
  · exact (gf hh).step fun T hT hx hc _ q => XS.ifNo hT hx rfl (hb hc hd) rfl hh q
  · exact (gt hh).step fun T hT hx hc _ q => XS.ifYes hT hx rfl rfl (hb hc hd) rfl hh ho hp q
theorem Go.icmpB {cd : ClassFile.Cond} {x y : Int32} {o : Int} (pc' pc'' : Nat) (hd : decode code pc = .ok (.if_icmp cd o, 3)) (ho : 0 ≤ (pc : Int) + o) (hp : ((pc : Int) + o).toNat = pc') (hq : pc + 3 = pc'')
    (gt : if_icmp.holds cd x y = true → Go nw p l e R s m args below meth c code ml nm ret Z a0 EL own P vm h k n pc' L S) (gf : if_icmp.holds cd x y = false → Go nw p l e R s m args below meth c code ml nm ret Z a0 EL own P vm h k n pc'' L S) : Go nw p l e R s m args below meth c code ml nm ret Z a0 EL own P vm h k n pc L (.int y :: .int x :: S) := by
  subst hq
  cases hh : if_icmp.holds cd x y
  · exact (gf hh).step fun T hT hx hc _ q => XS.icmpNo hT hx rfl (hb hc hd) rfl hh q
  · exact (gt hh).step fun T hT hx hc _ q => XS.icmpYes hT hx rfl rfl (hb hc hd) rfl hh ho hp q
theorem Go.if_icmpeq {x y : Int32} {o : Int} (pc' pc'' : Nat) (hd : decode code pc = .ok (.if_icmp .eq o, 3)) (ho : 0 ≤ (pc : Int) + o) (hp : ((pc : Int) + o).toNat = pc') (hq : pc + 3 = pc'')
    (gt : x = y → Go nw p l e R s m args below meth c code ml nm ret Z a0 EL own P vm h k n pc' L S) (gf : ¬ x = y → Go nw p l e R s m args below meth c code ml nm ret Z a0 EL own P vm h k n pc'' L S) : Go nw p l e R s m args below meth c code ml nm ret Z a0 EL own P vm h k n pc L (.int y :: .int x :: S) := by
  by_cases q : x = y
  · exact Go.icmpB pc' pc'' hd ho hp hq (fun r => by first | exact gt q | exact absurd (r.symm.trans (teq q).1) (by simp)) (fun r => by first | exact gf q | exact absurd (r.symm.trans (teq q).1) (by simp))
  · exact Go.icmpB pc' pc'' hd ho hp hq (fun r => by first | exact gt q | exact absurd (r.symm.trans (feq q).1) (by simp)) (fun r => by first | exact gf q | exact absurd (r.symm.trans (feq q).1) (by simp))
theorem Go.ifeq {x : Int32} {o : Int} (pc' pc'' : Nat) (hd : decode code pc = .ok (.ifCond .eq o, 3)) (ho : 0 ≤ (pc : Int) + o) (hp : ((pc : Int) + o).toNat = pc') (hq : pc + 3 = pc'')
    (gt : x = 0 → Go nw p l e R s m args below meth c code ml nm ret Z a0 EL own P vm h k n pc' L S) (gf : ¬ x = 0 → Go nw p l e R s m args below meth c code ml nm ret Z a0 EL own P vm h k n pc'' L S) : Go nw p l e R s m args below meth c code ml nm ret Z a0 EL own P vm h k n pc L (.int x :: S) := by
  by_cases q : x = 0
  · exact Go.ifB pc' pc'' hd ho hp hq (fun r => by first | exact gt q | exact absurd (r.symm.trans ((if0 _ _).trans (teq q).1)) (by simp)) (fun r => by first | exact gf q | exact absurd (r.symm.trans ((if0 _ _).trans (teq q).1)) (by simp))
  · exact Go.ifB pc' pc'' hd ho hp hq (fun r => by first | exact gt q | exact absurd (r.symm.trans ((if0 _ _).trans (feq q).1)) (by simp)) (fun r => by first | exact gf q | exact absurd (r.symm.trans ((if0 _ _).trans (feq q).1)) (by simp))
theorem Go.if_icmpne {x y : Int32} {o : Int} (pc' pc'' : Nat) (hd : decode code pc = .ok (.if_icmp .ne o, 3)) (ho : 0 ≤ (pc : Int) + o) (hp : ((pc : Int) + o).toNat = pc') (hq : pc + 3 = pc'')
    (gt : ¬ x = y → Go nw p l e R s m args below meth c code ml nm ret Z a0 EL own P vm h k n pc' L S) (gf : x = y → Go nw p l e R s m args below meth c code ml nm ret Z a0 EL own P vm h k n pc'' L S) : Go nw p l e R s m args below meth c code ml nm ret Z a0 EL own P vm h k n pc L (.int y :: .int x :: S) := by
  by_cases q : x = y
  · exact Go.icmpB pc' pc'' hd ho hp hq (fun r => by first | exact gt q | exact absurd (r.symm.trans (teq q).2) (by simp)) (fun r => by first | exact gf q | exact absurd (r.symm.trans (teq q).2) (by simp))
  · exact Go.icmpB pc' pc'' hd ho hp hq (fun r => by first | exact gt q | exact absurd (r.symm.trans (feq q).2) (by simp)) (fun r => by first | exact gf q | exact absurd (r.symm.trans (feq q).2) (by simp))
theorem Go.ifne {x : Int32} {o : Int} (pc' pc'' : Nat) (hd : decode code pc = .ok (.ifCond .ne o, 3)) (ho : 0 ≤ (pc : Int) + o) (hp : ((pc : Int) + o).toNat = pc') (hq : pc + 3 = pc'')
    (gt : ¬ x = 0 → Go nw p l e R s m args below meth c code ml nm ret Z a0 EL own P vm h k n pc' L S) (gf : x = 0 → Go nw p l e R s m args below meth c code ml nm ret Z a0 EL own P vm h k n pc'' L S) : Go nw p l e R s m args below meth c code ml nm ret Z a0 EL own P vm h k n pc L (.int x :: S) := by
  by_cases q : x = 0
  · exact Go.ifB pc' pc'' hd ho hp hq (fun r => by first | exact gt q | exact absurd (r.symm.trans ((if0 _ _).trans (teq q).2)) (by simp)) (fun r => by first | exact gf q | exact absurd (r.symm.trans ((if0 _ _).trans (teq q).2)) (by simp))
  · exact Go.ifB pc' pc'' hd ho hp hq (fun r => by first | exact gt q | exact absurd (r.symm.trans ((if0 _ _).trans (feq q).2)) (by simp)) (fun r => by first | exact gf q | exact absurd (r.symm.trans ((if0 _ _).trans (feq q).2)) (by simp))
theorem Go.if_icmplt {x y : Int32} {o : Int} (pc' pc'' : Nat) (hd : decode code pc = .ok (.if_icmp .lt o, 3)) (ho : 0 ≤ (pc : Int) + o) (hp : ((pc : Int) + o).toNat = pc') (hq : pc + 3 = pc'')
    (gt : x < y → Go nw p l e R s m args below meth c code ml nm ret Z a0 EL own P vm h k n pc' L S) (gf : ¬ x < y → Go nw p l e R s m args below meth c code ml nm ret Z a0 EL own P vm h k n pc'' L S) : Go nw p l e R s m args below meth c code ml nm ret Z a0 EL own P vm h k n pc L (.int y :: .int x :: S) := by
  by_cases q : x < y
  · exact Go.icmpB pc' pc'' hd ho hp hq (fun r => by first | exact gt q | exact absurd (r.symm.trans (tlt q).1) (by simp)) (fun r => by first | exact gf q | exact absurd (r.symm.trans (tlt q).1) (by simp))
  · exact Go.icmpB pc' pc'' hd ho hp hq (fun r => by first | exact gt q | exact absurd (r.symm.trans (flt q).1) (by simp)) (fun r => by first | exact gf q | exact absurd (r.symm.trans (flt q).1) (by simp))
theorem Go.iflt {x : Int32} {o : Int} (pc' pc'' : Nat) (hd : decode code pc = .ok (.ifCond .lt o, 3)) (ho : 0 ≤ (pc : Int) + o) (hp : ((pc : Int) + o).toNat = pc') (hq : pc + 3 = pc'')
    (gt : x < 0 → Go nw p l e R s m args below meth c code ml nm ret Z a0 EL own P vm h k n pc' L S) (gf : ¬ x < 0 → Go nw p l e R s m args below meth c code ml nm ret Z a0 EL own P vm h k n pc'' L S) : Go nw p l e R s m args below meth c code ml nm ret Z a0 EL own P vm h k n pc L (.int x :: S) := by
  by_cases q : x < 0
  · exact Go.ifB pc' pc'' hd ho hp hq (fun r => by first | exact gt q | exact absurd (r.symm.trans ((if0 _ _).trans (tlt q).1)) (by simp)) (fun r => by first | exact gf q | exact absurd (r.symm.trans ((if0 _ _).trans (tlt q).1)) (by simp))
  · exact Go.ifB pc' pc'' hd ho hp hq (fun r => by first | exact gt q | exact absurd (r.symm.trans ((if0 _ _).trans (flt q).1)) (by simp)) (fun r => by first | exact gf q | exact absurd (r.symm.trans ((if0 _ _).trans (flt q).1)) (by simp))
theorem Go.if_icmpge {x y : Int32} {o : Int} (pc' pc'' : Nat) (hd : decode code pc = .ok (.if_icmp .ge o, 3)) (ho : 0 ≤ (pc : Int) + o) (hp : ((pc : Int) + o).toNat = pc') (hq : pc + 3 = pc'')
    (gt : ¬ x < y → Go nw p l e R s m args below meth c code ml nm ret Z a0 EL own P vm h k n pc' L S) (gf : x < y → Go nw p l e R s m args below meth c code ml nm ret Z a0 EL own P vm h k n pc'' L S) : Go nw p l e R s m args below meth c code ml nm ret Z a0 EL own P vm h k n pc L (.int y :: .int x :: S) := by
  by_cases q : x < y
  · exact Go.icmpB pc' pc'' hd ho hp hq (fun r => by first | exact gt q | exact absurd (r.symm.trans (tlt q).2.1) (by simp)) (fun r => by first | exact gf q | exact absurd (r.symm.trans (tlt q).2.1) (by simp))
  · exact Go.icmpB pc' pc'' hd ho hp hq (fun r => by first | exact gt q | exact absurd (r.symm.trans (flt q).2.1) (by simp)) (fun r => by first | exact gf q | exact absurd (r.symm.trans (flt q).2.1) (by simp))
theorem Go.ifge {x : Int32} {o : Int} (pc' pc'' : Nat) (hd : decode code pc = .ok (.ifCond .ge o, 3)) (ho : 0 ≤ (pc : Int) + o) (hp : ((pc : Int) + o).toNat = pc') (hq : pc + 3 = pc'')
    (gt : ¬ x < 0 → Go nw p l e R s m args below meth c code ml nm ret Z a0 EL own P vm h k n pc' L S) (gf : x < 0 → Go nw p l e R s m args below meth c code ml nm ret Z a0 EL own P vm h k n pc'' L S) : Go nw p l e R s m args below meth c code ml nm ret Z a0 EL own P vm h k n pc L (.int x :: S) := by
  by_cases q : x < 0
  · exact Go.ifB pc' pc'' hd ho hp hq (fun r => by first | exact gt q | exact absurd (r.symm.trans ((if0 _ _).trans (tlt q).2.1)) (by simp)) (fun r => by first | exact gf q | exact absurd (r.symm.trans ((if0 _ _).trans (tlt q).2.1)) (by simp))
  · exact Go.ifB pc' pc'' hd ho hp hq (fun r => by first | exact gt q | exact absurd (r.symm.trans ((if0 _ _).trans (flt q).2.1)) (by simp)) (fun r => by first | exact gf q | exact absurd (r.symm.trans ((if0 _ _).trans (flt q).2.1)) (by simp))
theorem Go.if_icmpgt {x y : Int32} {o : Int} (pc' pc'' : Nat) (hd : decode code pc = .ok (.if_icmp .gt o, 3)) (ho : 0 ≤ (pc : Int) + o) (hp : ((pc : Int) + o).toNat = pc') (hq : pc + 3 = pc'')
    (gt : y < x → Go nw p l e R s m args below meth c code ml nm ret Z a0 EL own P vm h k n pc' L S) (gf : ¬ y < x → Go nw p l e R s m args below meth c code ml nm ret Z a0 EL own P vm h k n pc'' L S) : Go nw p l e R s m args below meth c code ml nm ret Z a0 EL own P vm h k n pc L (.int y :: .int x :: S) := by
  by_cases q : y < x
  · exact Go.icmpB pc' pc'' hd ho hp hq (fun r => by first | exact gt q | exact absurd (r.symm.trans (tlt q).2.2.1) (by simp)) (fun r => by first | exact gf q | exact absurd (r.symm.trans (tlt q).2.2.1) (by simp))
  · exact Go.icmpB pc' pc'' hd ho hp hq (fun r => by first | exact gt q | exact absurd (r.symm.trans (flt q).2.2.1) (by simp)) (fun r => by first | exact gf q | exact absurd (r.symm.trans (flt q).2.2.1) (by simp))
theorem Go.ifgt {x : Int32} {o : Int} (pc' pc'' : Nat) (hd : decode code pc = .ok (.ifCond .gt o, 3)) (ho : 0 ≤ (pc : Int) + o) (hp : ((pc : Int) + o).toNat = pc') (hq : pc + 3 = pc'')
    (gt : 0 < x → Go nw p l e R s m args below meth c code ml nm ret Z a0 EL own P vm h k n pc' L S) (gf : ¬ 0 < x → Go nw p l e R s m args below meth c code ml nm ret Z a0 EL own P vm h k n pc'' L S) : Go nw p l e R s m args below meth c code ml nm ret Z a0 EL own P vm h k n pc L (.int x :: S) := by
  by_cases q : 0 < x
  · exact Go.ifB pc' pc'' hd ho hp hq (fun r => by first | exact gt q | exact absurd (r.symm.trans ((if0 _ _).trans (tlt q).2.2.1)) (by simp)) (fun r => by first | exact gf q | exact absurd (r.symm.trans ((if0 _ _).trans (tlt q).2.2.1)) (by simp))
  · exact Go.ifB pc' pc'' hd ho hp hq (fun r => by first | exact gt q | exact absurd (r.symm.trans ((if0 _ _).trans (flt q).2.2.1)) (by simp)) (fun r => by first | exact gf q | exact absurd (r.symm.trans ((if0 _ _).trans (flt q).2.2.1)) (by simp))
theorem Go.if_icmple {x y : Int32} {o : Int} (pc' pc'' : Nat) (hd : decode code pc = .ok (.if_icmp .le o, 3)) (ho : 0 ≤ (pc : Int) + o) (hp : ((pc : Int) + o).toNat = pc') (hq : pc + 3 = pc'')
    (gt : ¬ y < x → Go nw p l e R s m args below meth c code ml nm ret Z a0 EL own P vm h k n pc' L S) (gf : y < x → Go nw p l e R s m args below meth c code ml nm ret Z a0 EL own P vm h k n pc'' L S) : Go nw p l e R s m args below meth c code ml nm ret Z a0 EL own P vm h k n pc L (.int y :: .int x :: S) := by
  by_cases q : y < x
  · exact Go.icmpB pc' pc'' hd ho hp hq (fun r => by first | exact gt q | exact absurd (r.symm.trans (tlt q).2.2.2) (by simp)) (fun r => by first | exact gf q | exact absurd (r.symm.trans (tlt q).2.2.2) (by simp))
  · exact Go.icmpB pc' pc'' hd ho hp hq (fun r => by first | exact gt q | exact absurd (r.symm.trans (flt q).2.2.2) (by simp)) (fun r => by first | exact gf q | exact absurd (r.symm.trans (flt q).2.2.2) (by simp))
theorem Go.ifle {x : Int32} {o : Int} (pc' pc'' : Nat) (hd : decode code pc = .ok (.ifCond .le o, 3)) (ho : 0 ≤ (pc : Int) + o) (hp : ((pc : Int) + o).toNat = pc') (hq : pc + 3 = pc'')
    (gt : ¬ 0 < x → Go nw p l e R s m args below meth c code ml nm ret Z a0 EL own P vm h k n pc' L S) (gf : 0 < x → Go nw p l e R s m args below meth c code ml nm ret Z a0 EL own P vm h k n pc'' L S) : Go nw p l e R s m args below meth c code ml nm ret Z a0 EL own P vm h k n pc L (.int x :: S) := by
  by_cases q : 0 < x
  · exact Go.ifB pc' pc'' hd ho hp hq (fun r => by first | exact gt q | exact absurd (r.symm.trans ((if0 _ _).trans (tlt q).2.2.2)) (by simp)) (fun r => by first | exact gf q | exact absurd (r.symm.trans ((if0 _ _).trans (tlt q).2.2.2)) (by simp))
  · exact Go.ifB pc' pc'' hd ho hp hq (fun r => by first | exact gt q | exact absurd (r.symm.trans ((if0 _ _).trans (flt q).2.2.2)) (by simp)) (fun r => by first | exact gf q | exact absurd (r.symm.trans ((if0 _ _).trans (flt q).2.2.2)) (by simp))
theorem Go.ifnull_y {o : Int} (pc' : Nat) (hd : decode code pc = .ok (.ifnull o, 3)) (ho : 0 ≤ (pc : Int) + o) (hp : ((pc : Int) + o).toNat = pc') (g : Go nw p l e R s m args below meth c code ml nm ret Z a0 EL own P vm h k n pc' L S) : Go nw p l e R s m args below meth c code ml nm ret Z a0 EL own P vm h k n pc L (.null :: S) :=
  g.step fun T hT hx hc _ q => XS.ifnullYes hT hx rfl rfl (hb hc hd) rfl ho hp q
theorem Go.ifnull_n {o : Int} {b : Addr} (pc' : Nat) (hd : decode code pc = .ok (.ifnull o, 3)) (hp : pc + 3 = pc') (g : Go nw p l e R s m args below meth c code ml nm ret Z a0 EL own P vm h k n pc' L S) : Go nw p l e R s m args below meth c code ml nm ret Z a0 EL own P vm h k n pc L (.ref b :: S) := by
  subst hp; exact g.step fun T hT hx hc _ q => XS.ifnullNo hT hx rfl (hb hc hd) rfl q
theorem Go.ifnonnull_y {o : Int} {b : Addr} (pc' : Nat) (hd : decode code pc = .ok (.ifnonnull o, 3)) (ho : 0 ≤ (pc : Int) + o) (hp : ((pc : Int) + o).toNat = pc') (g : Go nw p l e R s m args below meth c code ml nm ret Z a0 EL own P vm h k n pc' L S) : Go nw p l e R s m args below meth c code ml nm ret Z a0 EL own P vm h k n pc L (.ref b :: S) :=
  g.step fun T hT hx hc _ q => XS.ifnonnullYes hT hx rfl rfl (hb hc hd) rfl ho hp q
theorem Go.ifnonnull_n {o : Int} (pc' : Nat) (hd : decode code pc = .ok (.ifnonnull o, 3)) (hp : pc + 3 = pc') (g : Go nw p l e R s m args below meth c code ml nm ret Z a0 EL own P vm h k n pc' L S) : Go nw p l e R s m args below meth c code ml nm ret Z a0 EL own P vm h k n pc L (.null :: S) := by
  subst hp; exact g.step fun T hT hx hc _ q => XS.ifnonnullNo hT hx rfl (hb hc hd) rfl q
theorem Go.acmp_y {cd : ClassFile.ACond} {x y : Value} {o : Int} (pc' : Nat) (hd : decode code pc = .ok (.if_acmp cd o, 3)) (ho : 0 ≤ (pc : Int) + o) (hp : ((pc : Int) + o).toNat = pc') (h1 : x.isRef = true) (h2 : y.isRef = true) (hq : XT.acmp cd x y = true) (g : Go nw p l e R s m args below meth c code ml nm ret Z a0 EL own P vm h k n pc' L S) : Go nw p l e R s m args below meth c code ml nm ret Z a0 EL own P vm h k n pc L (y :: x :: S) :=
  g.step fun T hT hx hc _ q => XT.acmpYes hT hx rfl rfl (hb hc hd) rfl h1 h2 hq ho hp q
theorem Go.acmp_n {cd : ClassFile.ACond} {x y : Value} {o : Int} (pc' : Nat) (hd : decode code pc = .ok (.if_acmp cd o, 3)) (hp : pc + 3 = pc') (h1 : x.isRef = true) (h2 : y.isRef = true) (hq : XT.acmp cd x y = false) (g : Go nw p l e R s m args below meth c code ml nm ret Z a0 EL own P vm h k n pc' L S) : Go nw p l e R s m args below meth c code ml nm ret Z a0 EL own P vm h k n pc L (y :: x :: S) := by
  subst hp; exact g.step fun T hT hx hc _ q => XT.acmpNo hT hx rfl (hb hc hd) rfl h1 h2 hq q
theorem Go.getfield {O n' d : String} {idx : Nat} {a : Addr} {v : Value} (pc' : Nat) (hd : decode code pc = .ok (.getfield idx, 3)) (hp : pc + 3 = pc') (w : (Cond.fieldLink own idx O n' d).before a0 Z = true) (F : Fld Z h a O n' d v) (g : Go nw p l e R s m args below meth c code ml nm ret Z a0 EL own P vm h k n pc' L (v :: S)) : Go nw p l e R s m args below meth c code ml nm ret Z a0 EL own P vm h k n pc L (.ref a :: S) := by
  subst hp
  exact g.note fun T locs cells slots X hh hx hc hm hon => getF X hx hon.2.1 (host := "") hon.2.2.1 (Or.inl w) Via.refl hh F (g := mkF m pc L (.ref a :: S)) rfl rfl (hb hc hd)
theorem Go.getfieldV {R0 O n' d : String} {idx : Nat} {a : Addr} {v : Value} (pc' : Nat) (hd : decode code pc = .ok (.getfield idx, 3)) (hp : pc + 3 = pc') (w : (Cond.fieldLink own idx R0 n' d).before a0 Z = true) (via : (Cond.sameField R0 O n' d).before a0 Z = true) (F : Fld Z h a O n' d v) (g : Go nw p l e R s m args below meth c code ml nm ret Z a0 EL own P vm h k n pc' L (v :: S)) : Go nw p l e R s m args below meth c code ml nm ret Z a0 EL own P vm h k n pc L (.ref a :: S) := by
  subst hp
  exact g.note fun T locs cells slots X hh hx hc hm hon => getF X hx hon.2.1 (host := "") hon.2.2.1 (Or.inl w) (Via.of via) hh F (g := mkF m pc L (.ref a :: S)) rfl rfl (hb hc hd)
theorem Go.getstatic {O n' d : String} {idx : Nat} {v : Value} (pc' : Nat) (hd : decode code pc = .ok (.getstatic idx, 3)) (hp : pc + 3 = pc') (w : (Cond.fieldLink own idx O n' d).before a0 Z = true) (F : Sta Z h O n' d v) (g : Go nw p l e R s m args below meth c code ml nm ret Z a0 EL own P vm h k n pc' L (v :: S)) : Go nw p l e R s m args below meth c code ml nm ret Z a0 EL own P vm h k n pc L S := by
  subst hp
  exact g.note fun T locs cells slots X hh hx hc hm hon => getS X hx hon.2.1 (host := "") hon.2.2.1 w Via.refl hh F (g := mkF m pc L S) rfl (hb hc hd)
theorem Go.putfield {O n' d C : String} {idx kk : Nat} {ty : FieldType} {a : Addr} {v v0 : Value} (pc' : Nat) (hd : decode code pc = .ok (.putfield idx, 3)) (hp : pc + 3 = pc') (w : (Cond.fieldLink own idx O n' d).before a0 Z = true) (F : Fld Z h a O n' d v0) (E : Exa Z h a C)
    (Lf : (Cond.lays C O n' d).before a0 Z = true ∨ ((Cond.laysFinal C O n' d).before a0 Z = true ∧ own = O ∧ nm = "<init>")) (wi : (Cond.instantiable C kk).before a0 Z = true) (hty : parseFieldDescriptor d = some ty) (hn' : narrow ty v = v) (hf : fits ty v = true)
    (Sa : Safe Z EL vm h a) (hz : Z.heap.size ≤ a) (g : ∀ h', Wr h h' a (RoadKit.slotOf Z O n' d) v → Safe Z EL vm h' a → CHr Z EL vm h vm h' → Go nw p l e R s m args below meth c code ml nm ret Z a0 EL own P vm h' k n pc' L S) : Go nw p l e R s m args below meth c code ml nm ret Z a0 EL own P vm h k n pc L (v :: .ref a :: S) := by
  subst hp
  refine Go.wrote Sa hz (fun T locs cells slots X hh hx hc hm hnm hon => ?_) g
  exact putF X hx hon.2.1 (host := "") hon.2.2.1 (Or.inl w) Via.refl hh F E (Lf.imp id fun q => ⟨q.1, q.2.1, hnm.trans q.2.2⟩) wi hty hn' hf (g := mkF m pc L (v :: .ref a :: S)) rfl rfl (hb hc hd)
theorem Go.putfieldV {R0 O n' d C : String} {idx kk : Nat} {ty : FieldType} {a : Addr} {v v0 : Value} (pc' : Nat) (hd : decode code pc = .ok (.putfield idx, 3)) (hp : pc + 3 = pc') (w : (Cond.fieldLink own idx R0 n' d).before a0 Z = true) (via : (Cond.sameField R0 O n' d).before a0 Z = true) (F : Fld Z h a O n' d v0) (E : Exa Z h a C)
    (Lf : (Cond.lays C O n' d).before a0 Z = true ∨ ((Cond.laysFinal C O n' d).before a0 Z = true ∧ own = O ∧ nm = "<init>")) (wi : (Cond.instantiable C kk).before a0 Z = true) (hty : parseFieldDescriptor d = some ty) (hn' : narrow ty v = v) (hf : fits ty v = true)
    (Sa : Safe Z EL vm h a) (hz : Z.heap.size ≤ a) (g : ∀ h', Wr h h' a (RoadKit.slotOf Z O n' d) v → Safe Z EL vm h' a → CHr Z EL vm h vm h' → Go nw p l e R s m args below meth c code ml nm ret Z a0 EL own P vm h' k n pc' L S) : Go nw p l e R s m args below meth c code ml nm ret Z a0 EL own P vm h k n pc L (v :: .ref a :: S) := by
  subst hp
  refine Go.wrote Sa hz (fun T locs cells slots X hh hx hc hm hnm hon => ?_) g
  exact putF X hx hon.2.1 (host := "") hon.2.2.1 (Or.inl w) (Via.of via) hh F E (Lf.imp id fun q => ⟨q.1, q.2.1, hnm.trans q.2.2⟩) wi hty hn' hf (g := mkF m pc L (v :: .ref a :: S)) rfl rfl (hb hc hd)
theorem Go.new {C : String} {idx nf : Nat} (pc' : Nat) (hd : decode code pc = .ok (.new idx, 3)) (hp : pc + 3 = pc') (w : (Cond.classLink own idx C).before a0 Z = true) (wi : (Cond.instantiable C nf).before a0 Z = true) (wz : (Cond.initialized C).before a0 Z = true) (hk0 : k + 1 ≤ R.cells) (hn0 : n + nf ≤ R.slots)
    (g : ∀ a h', a = h.size → Ext h h' → (Exa Z h' a C ∧ ∀ {O n' d : String} {ty : FieldType}, Laid Z a0 C O n' d → parseFieldDescriptor d = some ty → Fld Z h' a O n' d (defaultValue ty)) → Safe Z EL vm h' a → Z.heap.size ≤ a → CHr Z EL vm h vm h' → Go nw p l e R s m args below meth c code ml nm ret Z a0 EL own P vm h' (k + 1) (n + nf) pc' L (.ref a :: S)) : Go nw p l e R s m args below meth c code ml nm ret Z a0 EL own P vm h k n pc L S := by
  subst hp
  refine Go.made (dk := 1) (dn := nf) (S' := fun a => .ref a :: S) (F := fun h' a => Exa Z h' a C ∧ ∀ {O n' d : String} {ty : FieldType}, Laid Z a0 C O n' d → parseFieldDescriptor d = some ty → Fld Z h' a O n' d (defaultValue ty)) hk0 hn0 (fun T locs cells slots X hh hx hc hm hon q1 q2 => ?_) g
  obtain ⟨T', h', X', e', E, A, D, -, st⟩ := newO X hx hon.2.1 hon.2.2.1 w wi wz hh (g := mkF m pc L S) rfl (hb hc hd) q1 q2
  exact ⟨T', h', X', e', E, ⟨A, D⟩, st⟩
theorem Go.newarray {aty : ArrayType} {z : Int32} (cap : Nat) (pc' : Nat) (hd : decode code pc = .ok (.newarray aty, 2)) (hp : pc + 2 = pc') (w : (Cond.arrayClass (newarray.typeOf aty)).before a0 Z = true) (hz : ¬ z < 0) (hcap : z.toNatClampNeg ≤ cap) (hb8 : cap * 8 ≤ 536870912) (hk0 : k + 1 ≤ R.cells) (hn0 : n + cap ≤ R.slots)
    (g : ∀ a h', a = h.size → Ext h h' → (∃ cA, Arv Z h' a cA (newarray.typeOf aty) z [] (defaultValue (newarray.typeOf aty))) → Safe Z EL vm h' a → Z.heap.size ≤ a → CHr Z EL vm h vm h' → Go nw p l e R s m args below meth c code ml nm ret Z a0 EL own P vm h' (k + 1) (n + cap) pc' L (.ref a :: S)) : Go nw p l e R s m args below meth c code ml nm ret Z a0 EL own P vm h k n pc L (.int z :: S) := by
  subst hp
  refine Go.made (dk := 1) (dn := cap) (S' := fun a => .ref a :: S) (F := fun h' a => ∃ cA, Arv Z h' a cA (newarray.typeOf aty) z [] (defaultValue (newarray.typeOf aty))) hk0 hn0 (fun T locs cells slots X hh hx hc hm hon q1 q2 => ?_) g
  obtain ⟨T', h', cA, X', e', E, A, st⟩ := newP X hx hon.2.1 w hh (g := mkF m pc L (.int z :: S)) rfl (hb hc hd) rfl hz hcap hb8 q1 q2
  exact ⟨T', h', X', e', E, ⟨cA, Arv.new A hz⟩, st⟩
theorem Go.arraylength {a : Addr} {kA : ClassId} {ty : FieldType} {z : Int32} {vs : List Value} {dv : Value} (pc' : Nat) (hd : decode code pc = .ok (.arraylength, 1)) (hp : pc + 1 = pc') (A : Arv Z h a kA ty z vs dv) (g : Go nw p l e R s m args below meth c code ml nm ret Z a0 EL own P vm h k n pc' L (.int z :: S)) : Go nw p l e R s m args below meth c code ml nm ret Z a0 EL own P vm h k n pc L (.ref a :: S) := by
  subst hp
  refine g.note fun T locs cells slots X hh hx hc hm hon => ⟨T, X, hh, fun target q => ?_⟩
  obtain ⟨cl, A1, A2, A3, A4, A5, A6⟩ := A
  refine X.arraylength hx (cell := cl) (by rw [hh]; exact A1.1) (State.isArrayOf_alike hon.2.1.alike A1.2.1) (g := mkF m pc L (.ref a :: S)) rfl (rest := S) rfl (hb hc hd) _ ?_
  rw [len_of A3 A4]; exact q
theorem Go.caload {a : Addr} {kA : ClassId} {z j : Int32} {vs : List Value} {dv : Value} (v : Value) (pc' : Nat) (hd : decode code pc = .ok (.caload, 1)) (hp : pc + 1 = pc') (A : Arv Z h a kA .char z vs dv) (hj : ¬ j < 0 ∧ j < z) (hv : vs.getD j.toNatClampNeg dv = v) (g : Go nw p l e R s m args below meth c code ml nm ret Z a0 EL own P vm h k n pc' L (v :: S)) : Go nw p l e R s m args below meth c code ml nm ret Z a0 EL own P vm h k n pc L (.int j :: .ref a :: S) := by
  subst hp
  refine g.note fun T locs cells slots X hh hx hc hm hon => ⟨T, X, hh, fun target q => ?_⟩
  obtain ⟨cl, A1, A2, A3, A4, A5, A6⟩ := A
  have hin := inb_of A3 hj
  exact X.caload hx (by rw [hh]; exact A1.1) (State.isArrayOf_alike hon.2.1.alike A1.2.1) A1.2.2 hin (A5.at hin hv) (g := mkF m pc L (.int j :: .ref a :: S)) rfl rfl (hb hc hd) _ q
theorem Go.iaload {a : Addr} {kA : ClassId} {z j : Int32} {vs : List Value} {dv : Value} (v : Value) (pc' : Nat) (hd : decode code pc = .ok (.iaload, 1)) (hp : pc + 1 = pc') (A : Arv Z h a kA .int z vs dv) (hj : ¬ j < 0 ∧ j < z) (hv : vs.getD j.toNatClampNeg dv = v) (g : Go nw p l e R s m args below meth c code ml nm ret Z a0 EL own P vm h k n pc' L (v :: S)) : Go nw p l e R s m args below meth c code ml nm ret Z a0 EL own P vm h k n pc L (.int j :: .ref a :: S) := by
  subst hp
  refine g.note fun T locs cells slots X hh hx hc hm hon => ⟨T, X, hh, fun target q => ?_⟩
  obtain ⟨cl, A1, A2, A3, A4, A5, A6⟩ := A
  have hin := inb_of A3 hj
  exact X.iaload hx (by rw [hh]; exact A1.1) (State.isArrayOf_alike hon.2.1.alike A1.2.1) A1.2.2 hin (A5.at hin hv) (g := mkF m pc L (.int j :: .ref a :: S)) rfl rfl (hb hc hd) _ q
theorem Go.baload {a : Addr} {kA : ClassId} {z j : Int32} {vs : List Value} {dv : Value} (v : Value) (pc' : Nat) (hd : decode code pc = .ok (.baload, 1)) (hp : pc + 1 = pc') (A : Arv Z h a kA .byte z vs dv) (hj : ¬ j < 0 ∧ j < z) (hv : vs.getD j.toNatClampNeg dv = v) (g : Go nw p l e R s m args below meth c code ml nm ret Z a0 EL own P vm h k n pc' L (v :: S)) : Go nw p l e R s m args below meth c code ml nm ret Z a0 EL own P vm h k n pc L (.int j :: .ref a :: S) := by
  subst hp
  refine g.note fun T locs cells slots X hh hx hc hm hon => ⟨T, X, hh, fun target q => ?_⟩
  obtain ⟨cl, A1, A2, A3, A4, A5, A6⟩ := A
  have hin := inb_of A3 hj
  exact X.baloadBytes hx (by rw [hh]; exact A1.1) (State.isArrayOf_alike hon.2.1.alike A1.2.1) A1.2.2 hin (A5.at hin hv) (g := mkF m pc L (.int j :: .ref a :: S)) rfl rfl (hb hc hd) _ q
theorem Go.aaload {a : Addr} {kA : ClassId} {ty : FieldType} {z j : Int32} {vs : List Value} {dv : Value} (v : Value) (pc' : Nat) (hd : decode code pc = .ok (.aaload, 1)) (hp : pc + 1 = pc') (A : Arv Z h a kA ty z vs dv) (hty : ty.isReference = true) (hj : ¬ j < 0 ∧ j < z) (hv : vs.getD j.toNatClampNeg dv = v) (g : Go nw p l e R s m args below meth c code ml nm ret Z a0 EL own P vm h k n pc' L (v :: S)) : Go nw p l e R s m args below meth c code ml nm ret Z a0 EL own P vm h k n pc L (.int j :: .ref a :: S) := by
  subst hp
  refine g.note fun T locs cells slots X hh hx hc hm hon => ⟨T, X, hh, fun target q => ?_⟩
  obtain ⟨cl, A1, A2, A3, A4, A5, A6⟩ := A
  have hin := inb_of A3 hj
  exact X.aaload hx (by rw [hh]; exact A1.1) (State.isArrayOf_alike hon.2.1.alike A1.2.1) hty A1.2.2 hin (A5.at hin hv) (g := mkF m pc L (.int j :: .ref a :: S)) rfl rfl (hb hc hd) _ q
theorem Go.castore {a : Addr} {kA : ClassId} {z j x : Int32} {vs : List Value} {dv : Value} (i : Nat) (y : Int32) (vs' : List Value) (pc' : Nat) (hd : decode code pc = .ok (.castore, 1)) (hp : pc + 1 = pc') (A : Arv Z h a kA .char z vs dv) (hj : ¬ j < 0 ∧ j < z) (hi : j.toNatClampNeg = i) (hl : i < vs.length) (hy : nar .char x = y) (hvs : vs.set i (.int y) = vs') (Sa : Safe Z EL vm h a) (hz : Z.heap.size ≤ a)
    (g : ∀ h', Keep h h' [a] → Arv Z h' a kA .char z vs' dv → Safe Z EL vm h' a → CHr Z EL vm h vm h' → Go nw p l e R s m args below meth c code ml nm ret Z a0 EL own P vm h' k n pc' L S) : Go nw p l e R s m args below meth c code ml nm ret Z a0 EL own P vm h k n pc L (.int x :: .int j :: .ref a :: S) := by
  subst hp hy hvs
  obtain ⟨cl, A1, A2, A3, A4, A5, A6⟩ := A
  have hin := inb_of A3 hj
  refine Go.wrote Sa hz (sl := j.toNatClampNeg) (w := .int (nar .char x)) (fun T locs cells slots X hh hx hc hm hnm hon => ?_) (fun h' W s2 ch => g h' (Keep.of_wr W) (Arv.set A1 A2 A3 A4 A5 A6 (fits_nar_char _) W i hi hl) s2 ch)
  exact stC X hx hon.2.1 hh A1 hin (g := mkF m pc L (.int x :: .int j :: .ref a :: S)) rfl rfl (hb hc hd)
theorem Go.iastore {a : Addr} {kA : ClassId} {z j x : Int32} {vs : List Value} {dv : Value} (i : Nat) (y : Int32) (vs' : List Value) (pc' : Nat) (hd : decode code pc = .ok (.iastore, 1)) (hp : pc + 1 = pc') (A : Arv Z h a kA .int z vs dv) (hj : ¬ j < 0 ∧ j < z) (hi : j.toNatClampNeg = i) (hl : i < vs.length) (hy : x = y) (hvs : vs.set i (.int y) = vs') (Sa : Safe Z EL vm h a) (hz : Z.heap.size ≤ a)
    (g : ∀ h', Keep h h' [a] → Arv Z h' a kA .int z vs' dv → Safe Z EL vm h' a → CHr Z EL vm h vm h' → Go nw p l e R s m args below meth c code ml nm ret Z a0 EL own P vm h' k n pc' L S) : Go nw p l e R s m args below meth c code ml nm ret Z a0 EL own P vm h k n pc L (.int x :: .int j :: .ref a :: S) := by
  subst hp hy hvs
  obtain ⟨cl, A1, A2, A3, A4, A5, A6⟩ := A
  have hin := inb_of A3 hj
  refine Go.wrote Sa hz (sl := j.toNatClampNeg) (w := .int (x)) (fun T locs cells slots X hh hx hc hm hnm hon => ?_) (fun h' W s2 ch => g h' (Keep.of_wr W) (Arv.set A1 A2 A3 A4 A5 A6 (rfl) W i hi hl) s2 ch)
  exact stI X hx hon.2.1 hh A1 hin (g := mkF m pc L (.int x :: .int j :: .ref a :: S)) rfl rfl (hb hc hd)
theorem Go.bastore {a : Addr} {kA : ClassId} {z j x : Int32} {vs : List Value} {dv : Value} (i : Nat) (y : Int32) (vs' : List Value) (pc' : Nat) (hd : decode code pc = .ok (.bastore, 1)) (hp : pc + 1 = pc') (A : Arv Z h a kA .byte z vs dv) (hj : ¬ j < 0 ∧ j < z) (hi : j.toNatClampNeg = i) (hl : i < vs.length) (hy : x.toInt8.toInt32 = y) (hvs : vs.set i (.int y) = vs') (Sa : Safe Z EL vm h a) (hz : Z.heap.size ≤ a)
    (g : ∀ h', Keep h h' [a] → Arv Z h' a kA .byte z vs' dv → Safe Z EL vm h' a → CHr Z EL vm h vm h' → Go nw p l e R s m args below meth c code ml nm ret Z a0 EL own P vm h' k n pc' L S) : Go nw p l e R s m args below meth c code ml nm ret Z a0 EL own P vm h k n pc L (.int x :: .int j :: .ref a :: S) := by
  subst hp hy hvs
  obtain ⟨cl, A1, A2, A3, A4, A5, A6⟩ := A
  have hin := inb_of A3 hj
  refine Go.wrote Sa hz (sl := j.toNatClampNeg) (w := .int (x.toInt8.toInt32)) (fun T locs cells slots X hh hx hc hm hnm hon => ?_) (fun h' W s2 ch => g h' (Keep.of_wr W) (Arv.set A1 A2 A3 A4 A5 A6 (fits_nar_byte _) W i hi hl) s2 ch)
  exact stB X hx hon.2.1 hh A1 hin (g := mkF m pc L (.int x :: .int j :: .ref a :: S)) rfl rfl (hb hc hd)
theorem Go.fin {v : Option Value} (hk0 : k ≤ R.cells) (hn0 : n ≤ R.slots) (hv : ret = none → v = none) (hP : ∀ vm', CHr Z EL vm h vm' h → P v vm' h)
    (st : ∀ (T : State) (locs : List Loc) (cells slots : Nat), Stand p l e R (s.setVm vm) m args below meth c T locs cells slots → p.tables.exec = Jvm.exec → c.code = code → meth.sig.returnType = ret → ∀ fs : List Frame, (∀ (f : JFrame) (acts : List Action), f.method = m → f.locked = none → f.entered = [] → (doReturn e (T.setTop f) acts v).1 = T.setFrames fs) → Steps p.tables e below (T.setTop (mkF m pc L S)) (T.setFrames fs)) : Go nw p l e R s m args below meth c code ml nm ret Z a0 EL own P vm h k n pc L S := by
  intro hx hc hm hl hnm hr hon T locs cells slots X hh hF hk hn
  obtain ⟨⟨k0, a1, a2⟩, a3, a4, a5, a6, a7, a8⟩ := hon
  obtain ⟨fs, h1, h2, h3, h4⟩ := X.leaveW a1 (by rw [hh]; exact a2) (v := v) (fun q => hv (hr ▸ q)) hl
  have ch : CHr Z EL vm h T.vm h := CHv.at X a3 a7 a5
  have hh' : (T.setFrames fs).heap = h := hh
  refine ⟨_, v, st T locs cells slots X hx hc hr fs h1, h2, h3, by rw [hh']; exact hP _ ch, by rw [hh']; exact ch, by rw [hh']; exact a6, locs, hF, ?_, fun q => ?_⟩
  · obtain ⟨q1, q2, q3, q4⟩ := h4
    exact ⟨q1, q2, q3, q4.mono (Nat.le_trans hk hk0) (Nat.le_trans hn hn0)⟩
  · exact State.WarmedH.trans (t := s.setVm vm) (a8 q) X.warmed
theorem Go.return_ (hd : decode code pc = .ok (.return_, 1)) (hr : ret = none) (hk0 : k ≤ R.cells) (hn0 : n ≤ R.slots) (hP : ∀ vm', CHr Z EL vm h vm' h → P none vm' h) : Go nw p l e R s m args below meth c code ml nm ret Z a0 EL own P vm h k n pc L ([]) :=
  Go.fin (v := none) hk0 hn0 (fun _ => rfl) hP fun T locs cells slots X hx hc hrt fs hl => X.returnOut hx (hrt.trans hr) (hb hc hd) hl
theorem Go.areturn {t : FieldType} {w : Value} (hd : decode code pc = .ok (.areturn, 1)) (hr : ret = some t) (ht : t.isReference = true) (hw : w.isRef = true) (hk0 : k ≤ R.cells) (hn0 : n ≤ R.slots) (hP : ∀ vm', CHr Z EL vm h vm' h → P (some w) vm' h) : Go nw p l e R s m args below meth c code ml nm ret Z a0 EL own P vm h k n pc L (w :: S) :=
  Go.fin (v := some w) hk0 hn0 (fun q => by rw [hr] at q; cases q) hP fun T locs cells slots X hx hc hrt fs hl => retOut X hx (hrt.trans hr) (by cases t <;> first | rfl | cases ht) (Or.inr (Or.inr (Or.inr (Or.inr ⟨rfl, ht, hw⟩)))) (hb hc hd) hl
theorem Go.ireturn {t : FieldType} {x : Int32} (hd : decode code pc = .ok (.ireturn, 1)) (hr : ret = some t) (hn' : narrow t (.int x) = .int x) (ht : t = .int ∨ t = .boolean ∨ t = .byte ∨ t = .char ∨ t = .short) (hk0 : k ≤ R.cells) (hn0 : n ≤ R.slots) (hP : ∀ vm', CHr Z EL vm h vm' h → P (some (.int x)) vm' h) : Go nw p l e R s m args below meth c code ml nm ret Z a0 EL own P vm h k n pc L (.int x :: S) :=
  Go.fin (v := some (.int x)) hk0 hn0 (fun q => by rw [hr] at q; cases q) hP fun T locs cells slots X hx hc hrt fs hl => retOut X hx (hrt.trans hr) hn' (Or.inl ⟨rfl, ht, _, rfl⟩) (hb hc hd) hl
theorem Go.initObject {idx : Nat} {a : Addr} (W : Nat) (pc' : Nat) (hd : decode code pc = .ok (.invokespecial idx, 3)) (hp : pc + 3 = pc') (w1 : (Cond.methodLink own idx Lib.objectInit).before a0 Z = true) (w2 : (Cond.instanceMethod Lib.objectInit).before a0 Z = true) (w3 : (Cond.code Lib.objectInit ⟨#[0xb1]⟩ 1 none).before a0 Z = true)
    (hsz : L.size = ml) (hf : 1 ≤ R.frames) (hW : (S.map fun v => v.category).sum ≤ W) (hl : W + 12 ≤ R.locals) (g : Go nw p l e R s m args below meth c code ml nm ret Z a0 EL own P vm h k n pc' L S) : Go nw p l e R s m args below meth c code ml nm ret Z a0 EL own P vm h k n pc L (.ref a :: S) := by
  subst hp
  exact g.note fun T locs cells slots X hh hx hc hm hon => initO X hx hon.2.1 hon.2.2.1 w1 w2 w3 hh (g := mkF m pc L (.ref a :: S)) rfl (hsz.trans hm.symm) rfl (hb hc hd) hf (by show 2 * 0 + _ ≤ _; omega) hl
/-- what a callee promises: at the heap h and tables that have booked no more than vm -/
def Ctr (nw : Bool) (l : Launch) (Z : State) (a0 : Array Value) (EL : List (String × Nat)) (y : MethodName) (code : ByteArray) (ml : Nat) (ret : Option FieldType) (rm : Room) (as' : Array Value) (vm : Vm) (h : Heap) (Q : Option Value → Vm → Heap → Prop) : Prop :=
  ∀ ws : List Jvm.Cond, MetFree l y (head1 (Jvm.Cond.code y code ml ret :: ws) rm) (fun a U => a = as' ∧ Z.Warmed39 U.vm ∧ U.heap = h ∧ CHr Z EL vm h U.vm h ∧ Ext Z.heap h ∧ EW Z a0 EL) (fun _ _ _ _ _ => True)
    (fun _ U o U' => ∃ v L, o = .returned v ∧ Q v U'.vm U'.heap ∧ CHr Z EL U.vm h U'.vm U'.heap ∧ Ext Z.heap U'.heap ∧ Fr Z.heap.size L ∧ ReturnedEndW U o U' L rm.cells rm.slots ∧ (nw = true → U.WarmedH U'.vm))
theorem Ctr.of_go {y : MethodName} {rm : Room} {as' : Array Value} {Q : Option Value → Vm → Heap → Prop} {L0 : Array Slot} (hpn : plainName y.cls = true) (hent : ∀ m, entryFrame m as' ml = mkF m 0 L0 [])
    (body : ∀ (p : Program) (e : Env) (s : State) (m : MethodId) (below : List Frame) (meth : Method) (c : Code) (vm1 : Vm), CHr Z EL vm h vm1 h → Go nw p l e rm s m as' below meth c code ml y.name ret Z a0 EL y.cls Q vm1 h 0 0 0 L0 []) : Ctr nw l Z a0 EL y code ml ret rm as' vm h Q := by
  intro ws
  refine MetFree.of_bodySF (plainFor_of_name hpn) hisR ?_
  intro p e s m args below meth c s₁ Bd hml0 hP hK
  obtain ⟨rfl, hZ, hh, hch, hext, hew⟩ := hP
  have e0 : s₁.heap = h := by rw [← hh, Bd.state]; rfl
  have X0 : Stand p l e rm (s.setVm s.vm) m args below meth c s₁ [] 0 0 := Stand.of_body Bd
  obtain ⟨s₂, v, st, h1, h2, h3, h4, hE, L', h5, h6, h7⟩ := body p e s m below meth c s.vm hch Bd.exec Bd.bytes hml0 Bd.notSynchronized (name_of_methodNamed Bd.named Bd.method).1 Bd.returns
    ⟨⟨0, (State.WarmedH.refl s).since _, Nat.zero_le _⟩, hZ, findClass_of_methodNamed Bd.named, hch.1, hext, hew, fun _ => State.WarmedH.refl s⟩ s₁ [] 0 0 X0 e0 (Fr.nil _) (Nat.le_refl _) (Nat.le_refl _)
  exact ⟨s₂, _, castTop (hent m) st, h1, h2, v, L', rfl, h3, h4, hE, h5, h6, h7⟩
/-- the callee's contract, as a call wants it -/
theorem Ctr.back {y : MethodName} {code' : ByteArray} {ml' : Nat} {ret' : Option FieldType} {rm : Room} {as' : Array Value} {Q : Option Value → Vm → Heap → Prop} {len W : Nat} (C : Ctr nw l Z a0 EL y code' ml' ret' rm as' vm h Q) (hon : On nw s m Z a0 EL own vm h)
    (wc : (Jvm.Cond.code y code' ml' ret').before a0 Z = true) (wz : (Jvm.Cond.initialized y.cls).before a0 Z = true) (hf : rm.frames + 1 ≤ R.frames) (hl : W + (ml' + 11) + rm.locals ≤ R.locals) :
    BackS l R p e below (s.setVm vm) args y len W (fun A a => a = as' ∧ A.U.heap = h ∧ A.cells + rm.cells ≤ R.cells ∧ A.slots + rm.slots ≤ R.slots)
      (fun A _ v B => ∃ L, Q v B.U.vm B.U.heap ∧ CHr Z EL vm h B.U.vm B.U.heap ∧ Ext Z.heap B.U.heap ∧ Fr Z.heap.size L ∧ B.locs = A.locs ++ L ∧ B.cells = A.cells + rm.cells ∧ B.slots = A.slots + rm.slots ∧ (nw = true → s.WarmedH B.U.vm)) := by
  obtain ⟨⟨k0, a1, a2⟩, a3, a4, a5, a6, a7, a8⟩ := hon
  refine BackS.of_freeW (bytes := code') (maxL := ml') (ret := ret') (E := fun _ first o t L k n => k = rm.cells ∧ n = rm.slots ∧ (∃ v, o = .returned v ∧ Q v t.vm t.heap) ∧ CHr Z EL first.vm h t.vm t.heap ∧ Ext Z.heap t.heap ∧ Fr Z.heap.size L ∧ (nw = true → first.WarmedH t.vm)) (C []) hf hl
    (fun m meth c A a Y hp => have hU : Z.Warmed39 A.U.vm := wtrans (s := s.setVm vm) a3 Y.warmed
      ⟨by show (Jvm.Cond.and _ .tt).before a A.U = true; rw [Cond.before_and, mv hU wc]; rfl, mv hU wc, mv hU wz, hp.2.2.1, hp.2.2.2⟩)
    (fun m meth c A a g mk Y hp => ⟨hp.1, wtrans (s := s.setVm vm) a3 Y.warmed, hp.2.1, (show CHr Z EL vm h A.U.vm h from CHv.at Y a3 a7 a5), a6, a7⟩) (fun _ _ _ _ _ _ _ _ _ => trivial)
    (fun _ _ _ _ ⟨v, L, h1, h2, h3, hE, h4, h5, h6⟩ => ⟨L, _, _, h5, rfl, rfl, ⟨v, h1, h2⟩, h3, hE, h4, h6⟩)
    (fun m meth c A a g mk v t L k n Y hp _ _ hE => ?_)
  obtain ⟨e1, e2, ⟨v', e3, e4⟩, e5, e5', e6, e7⟩ := hE
  cases e3; subst e1 e2
  refine ⟨L, e4, (CHv.at Y a3 a7 a5).trans e5, e5', e6, rfl, rfl, rfl, fun q => ?_⟩
  have w1 : s.WarmedH A.U.vm := State.WarmedH.trans (t := s.setVm vm) (a8 q) Y.warmed
  exact State.WarmedH.trans (t := A.U) w1 (e7 q)
/-- behind a call that a BackS pays -/
theorem Go.called {rm : Room} {Q : Option Value → Vm → Heap → Prop} {len pc' : Nat} {rest : List Value} (hp : pc + len = pc') (hk0 : k + rm.cells ≤ R.cells) (hn0 : n + rm.slots ≤ R.slots)
    (st : ∀ T locs cells slots, Stand p l e R (s.setVm vm) m args below meth c T locs cells slots → T.heap = h → p.tables.exec = Jvm.exec → c.code = code → c.maxLocals = ml → On nw s m Z a0 EL own vm h → cells + rm.cells ≤ R.cells → slots + rm.slots ≤ R.slots →
      ∃ (v : Option Value) (vm₁ : Vm) (B : Pt), (s.setVm vm).WarmedH vm₁ ∧ Stand p l e R ((s.setVm vm).setVm B.U.vm) m args below meth c B.U B.locs B.cells B.slots ∧ (s.setVm vm).Since B.U.vm B.U.heap.size ∧ T.heap.size ≤ B.U.heap.size ∧
        (∃ L, Q v B.U.vm B.U.heap ∧ CHr Z EL vm h B.U.vm B.U.heap ∧ Ext Z.heap B.U.heap ∧ Fr Z.heap.size L ∧ B.locs = locs ++ L ∧ B.cells = cells + rm.cells ∧ B.slots = slots + rm.slots ∧ (nw = true → s.WarmedH B.U.vm)) ∧
        Steps p.tables e below (T.setTop (mkF m pc L S)) (B.U.setTop { mkF m pc L S with pc := pc + len, stack := v.toList ++ rest }))
    (g : ∀ v vm' h', Q v vm' h' → CHr Z EL vm h vm' h' → Go nw p l e R s m args below meth c code ml nm ret Z a0 EL own P vm' h' (k + rm.cells) (n + rm.slots) pc' L (v.toList ++ rest)) : Go nw p l e R s m args below meth c code ml nm ret Z a0 EL own P vm h k n pc L S := by
  intro hx hc hm hl hnm hr hon T locs cells slots X hh hF hk hn
  obtain ⟨v, vm₁, B, -, X', hS, hg, ⟨L1, hQ, hC, hE, hFr, e1, e2, e3, hW⟩, st2⟩ := st T locs cells slots X hh hx hc hm hon (by omega) (by omega)
  obtain ⟨U, Ls, c1, s1⟩ := B
  dsimp only [Pt.U, Pt.locs, Pt.cells, Pt.slots] at X' hS hg hQ hC hE e1 e2 e3 hW st2
  subst e1 e2 e3 hp
  obtain ⟨⟨k0, a1, a2⟩, a3, a4, a5, a6, a7, a8⟩ := hon
  have hon' : On nw s m Z a0 EL own U.vm U.heap := ⟨⟨U.heap.size, a1.trans hS (Nat.le_trans a2 hC.2.1), Nat.le_refl _⟩, State.Warmed39.trans (t := s.setVm vm) a3 hS.1, (hS.1.alike.findClass _ _).trans a4, hC.1, hE, a7, hW⟩
  obtain ⟨s₂, v2, st3, r1, r2, r3, r4, r5⟩ := g v U.vm U.heap hQ hC hx hc hm hl hnm hr hon' U _ _ _ X' rfl (Fr.app hF hFr) (by omega) (by omega)
  exact ⟨s₂, v2, st2.trans st3, r1, r2, r3, hC.trans r4, r5⟩
theorem Go.invokestatic {idx : Nat} {y : MethodName} {code' : ByteArray} {ml' : Nat} {ret' : Option FieldType} {rm : Room} {Q : Option Value → Vm → Heap → Prop} {ps : List FieldType} {r : Option FieldType} {rest : List Value} (W : Nat) (argsL : List Value) (pc' : Nat) (hd : decode code pc = .ok (.invokestatic idx, 3)) (hp : pc + 3 = pc') (w1 : (Jvm.Cond.methodLink own idx y).before a0 Z = true) (w2 : (Jvm.Cond.static y).before a0 Z = true) (w3 : (Jvm.Cond.initialized y.cls).before a0 Z = true) (w4 : (Jvm.Cond.code y code' ml' ret').before a0 Z = true) (hy : y.cls ≠ "java/lang/invoke/MethodHandle" ∧ y.cls ≠ "java/lang/invoke/VarHandle")
    (C : Ctr nw l Z a0 EL y code' ml' ret' rm argsL.toArray vm h Q) (hdesc : parseMethodDescriptor y.desc = some ⟨ps, r⟩) (hlen : argsL.length = ps.length) (hst : S = argsL.reverse ++ rest) (hsz : L.size = ml) (hf : rm.frames + 1 ≤ R.frames) (hW : (rest.map fun v => v.category).sum ≤ W) (hl : W + (ml' + 11) + rm.locals ≤ R.locals) (hk0 : k + rm.cells ≤ R.cells) (hn0 : n + rm.slots ≤ R.slots)
    (g : ∀ v vm' h', Q v vm' h' → CHr Z EL vm h vm' h' → Go nw p l e R s m args below meth c code ml nm ret Z a0 EL own P vm' h' (k + rm.cells) (n + rm.slots) pc' L (v.toList ++ rest)) : Go nw p l e R s m args below meth c code ml nm ret Z a0 EL own P vm h k n pc L S := by
  refine Go.called (rm := rm) (Q := Q) (rest := rest) hp hk0 hn0 (fun T locs cells slots X hh hx hc hm hon q1 q2 => ?_) g
  exact callSS X hx hon.2.2.1 (mvT (s := s.setVm vm) hon.2.1 w1) (mvT (s := s.setVm vm) hon.2.1 w2) (mvT (s := s.setVm vm) hon.2.1 w3) (mvT (s := s.setVm vm) hon.2.1 w4) hy (C.back hon w4 w3 hf hl) (g := mkF m pc L S) rfl (hsz.trans hm.symm) (argsL := argsL) (rest := rest) (lenOf hdesc hlen) hst (by show 2 * 0 + _ ≤ _; omega) (hb hc hd) (fun _ _ => ⟨rfl, hh, q1, q2⟩)
theorem Go.invokespecial {idx : Nat} {y : MethodName} {code' : ByteArray} {ml' : Nat} {rm : Room} {Q : Option Value → Vm → Heap → Prop} {ps : List FieldType} {r : Option FieldType} {rest : List Value} (W : Nat) (a : Addr) (argsL : List Value) (pc' : Nat) (hd : decode code pc = .ok (.invokespecial idx, 3)) (hp : pc + 3 = pc') (hy1 : y.name = "<init>") (w1 : (Jvm.Cond.methodLink own idx y).before a0 Z = true) (w2 : (Jvm.Cond.instanceMethod y).before a0 Z = true) (w3 : (Jvm.Cond.initialized y.cls).before a0 Z = true) (w4 : (Jvm.Cond.code y code' ml' none).before a0 Z = true) (hy : y.cls ≠ "java/lang/invoke/MethodHandle" ∧ y.cls ≠ "java/lang/invoke/VarHandle")
    (C : Ctr nw l Z a0 EL y code' ml' none rm (.ref a :: argsL).toArray vm h Q) (hdesc : parseMethodDescriptor y.desc = some ⟨ps, r⟩) (hlen : argsL.length = ps.length) (hst : S = argsL.reverse ++ .ref a :: rest) (hsz : L.size = ml) (hf : rm.frames + 1 ≤ R.frames) (hW : (rest.map fun v => v.category).sum ≤ W) (hl : W + (ml' + 11) + rm.locals ≤ R.locals) (hk0 : k + rm.cells ≤ R.cells) (hn0 : n + rm.slots ≤ R.slots)
    (g : ∀ v vm' h', Q v vm' h' → CHr Z EL vm h vm' h' → Go nw p l e R s m args below meth c code ml nm ret Z a0 EL own P vm' h' (k + rm.cells) (n + rm.slots) pc' L (v.toList ++ rest)) : Go nw p l e R s m args below meth c code ml nm ret Z a0 EL own P vm h k n pc L S := by
  refine Go.called (rm := rm) (Q := Q) (rest := rest) hp hk0 hn0 (fun T locs cells slots X hh hx hc hm hon q1 q2 => ?_) g
  exact X.specialBackS hx hy1 hon.2.2.1 (mvT (s := s.setVm vm) hon.2.1 w1) (mvT (s := s.setVm vm) hon.2.1 w2) (mvT (s := s.setVm vm) hon.2.1 w4) hy (C.back hon w4 w3 hf hl) (g := mkF m pc L S) rfl (hsz.trans hm.symm) (Steps.refl _) (a := a) (argsL := argsL) (rest := rest) (lenOf hdesc hlen) hst (by show 2 * 0 + _ ≤ _; omega) (hb hc hd) (fun _ _ => ⟨rfl, hh, q1, q2⟩)
theorem Go.invokevirtual {idx : Nat} {y : MethodName} {code' : ByteArray} {ml' : Nat} {ret' : Option FieldType} {rm : Room} {Q : Option Value → Vm → Heap → Prop} {ps : List FieldType} {r : Option FieldType} {rest : List Value} {x : MethodName} {cls : String} (W : Nat) (a : Addr) (argsL : List Value) (pc' : Nat) (hd : decode code pc = .ok (.invokevirtual idx, 3)) (hp : pc + 3 = pc') (E : Exa Z h a cls) (w1 : (Jvm.Cond.methodLink own idx x).before a0 Z = true) (w2 : (Jvm.Cond.declares x).before a0 Z = true) (nf : ∀ s : State, Z.Warmed39 s.vm → NotFace s x) (ws : (Jvm.Cond.selects cls x y).before a0 Z = true) (wi : (Jvm.Cond.instanceMethod y).before a0 Z = true) (w3 : (Jvm.Cond.initialized y.cls).before a0 Z = true) (w4 : (Jvm.Cond.code y code' ml' ret').before a0 Z = true)
    (hy : x.cls ≠ "java/lang/invoke/MethodHandle" ∧ x.cls ≠ "java/lang/invoke/VarHandle") (C : Ctr nw l Z a0 EL y code' ml' ret' rm (.ref a :: argsL).toArray vm h Q) (hdesc : parseMethodDescriptor x.desc = some ⟨ps, r⟩) (hlen : argsL.length = ps.length) (hst : S = argsL.reverse ++ .ref a :: rest) (hsz : L.size = ml) (hf : rm.frames + 1 ≤ R.frames) (hW : (rest.map fun v => v.category).sum ≤ W) (hl : W + (ml' + 11) + rm.locals ≤ R.locals) (hk0 : k + rm.cells ≤ R.cells) (hn0 : n + rm.slots ≤ R.slots)
    (g : ∀ v vm' h', Q v vm' h' → CHr Z EL vm h vm' h' → Go nw p l e R s m args below meth c code ml nm ret Z a0 EL own P vm' h' (k + rm.cells) (n + rm.slots) pc' L (v.toList ++ rest)) : Go nw p l e R s m args below meth c code ml nm ret Z a0 EL own P vm h k n pc L S := by
  refine Go.called (rm := rm) (Q := Q) (rest := rest) hp hk0 hn0 (fun T locs cells slots X hh hx hc hm hon q1 q2 => ?_) g
  obtain ⟨cB, kB, b1, b2, b3⟩ := isOf (s := s.setVm vm) hon.2.1 hh E
  exact X.virtualBackS hx hon.2.2.1 (mvT (s := s.setVm vm) hon.2.1 w1) (mvT (s := s.setVm vm) hon.2.1 w2) (nf (s.setVm vm) hon.2.1) (mvT (s := s.setVm vm) hon.2.1 ws) (mvT (s := s.setVm vm) hon.2.1 wi) hy (C.back hon w4 w3 hf hl) b1 b3 (g := mkF m pc L S) rfl (hsz.trans hm.symm) (Steps.refl _) (argsL := argsL) (rest := rest) (lenOf hdesc hlen) hst (by show 2 * 0 + _ ≤ _; omega) (hb hc hd) (fun _ _ => ⟨rfl, hh, q1, q2⟩)
theorem On.keep {ws : List Addr} (hon : On nw s m Z a0 EL own vm h) (K : Keep h h' ws) (hs : ∀ x ∈ ws, Safe Z EL vm h x) (hz : ∀ x ∈ ws, Z.heap.size ≤ x) : On nw s m Z a0 EL own vm h' := by
  obtain ⟨⟨k0, a1, a2⟩, a3, a4, a5, a6, a7, a8⟩ := hon
  exact ⟨⟨k0, a1, Nat.le_trans a2 K.1⟩, a3, a4, a5.keep K hs, (Old.keep (Z := Z) ⟨rfl, a6⟩ K hz).2, a7, a8⟩
/-- behind a call that a Back pays: the tables' base as it was -/
theorem Go.calledB {Q : Option Value → Heap → List Loc → Prop} {dk dn len pc' : Nat} {rest : List Value} (hp : pc + len = pc') (hk0 : k + dk ≤ R.cells) (hn0 : n + dn ≤ R.slots)
    (st : ∀ T locs cells slots, Stand p l e R (s.setVm vm) m args below meth c T locs cells slots → T.heap = h → p.tables.exec = Jvm.exec → c.code = code → c.maxLocals = ml → On nw s m Z a0 EL own vm h → cells + dk ≤ R.cells → slots + dn ≤ R.slots →
      ∃ (v : Option Value) (vm₁ : Vm) (B : Pt), (s.setVm vm).WarmedH vm₁ ∧ Stand p l e R (s.setVm vm) m args below meth c B.U B.locs B.cells B.slots ∧ (∃ L, Q v B.U.heap L ∧ B.locs = locs ++ L ∧ B.cells = cells + dk ∧ B.slots = slots + dn) ∧
        Steps p.tables e below (T.setTop (mkF m pc L S)) (B.U.setTop { mkF m pc L S with pc := pc + len, stack := v.toList ++ rest }))
    (hQ : ∀ v h' lc, Q v h' lc → Fr Z.heap.size lc ∧ ∃ ws, Keep h h' ws ∧ (∀ x ∈ ws, Safe Z EL vm h x) ∧ ∀ x ∈ ws, Z.heap.size ≤ x)
    (g : ∀ v h' lc, Q v h' lc → CHr Z EL vm h vm h' → Go nw p l e R s m args below meth c code ml nm ret Z a0 EL own P vm h' (k + dk) (n + dn) pc' L (v.toList ++ rest)) : Go nw p l e R s m args below meth c code ml nm ret Z a0 EL own P vm h k n pc L S := by
  intro hx hc hm hl hnm hr hon T locs cells slots X hh hF hk hn
  obtain ⟨v, vm₁, B, -, X', ⟨L1, hq, e1, e2, e3⟩, st2⟩ := st T locs cells slots X hh hx hc hm hon (by omega) (by omega)
  obtain ⟨U, Ls, c1, s1⟩ := B
  dsimp only [Pt.U, Pt.locs, Pt.cells, Pt.slots] at X' hq e1 e2 e3 st2
  subst e1 e2 e3 hp
  obtain ⟨hFr, ws, K, hs, hz⟩ := hQ _ _ _ hq
  have ch : CHr Z EL vm h vm U.heap := CHr.keep K hs hon.2.2.2.1
  obtain ⟨s₂, v2, st3, r1, r2, r3, r4, r5⟩ := g v U.heap L1 hq ch hx hc hm hl hnm hr (hon.keep K hs hz) U _ _ _ X' rfl (Fr.app hF hFr) (by omega) (by omega)
  exact ⟨s₂, v2, st2.trans st3, r1, r2, r3, ch.trans r4, r5⟩
theorem Go.virtB {idx : Nat} {x y : MethodName} {cls : String} {Q : Option Value → Heap → List Loc → Prop} {dk dn : Nat} {ps : List FieldType} {r : Option FieldType} {rest : List Value} (W : Nat) (a : Addr) (argsL : List Value) (pc' : Nat) (hd : decode code pc = .ok (.invokevirtual idx, 3)) (hp : pc + 3 = pc') (E : Exa Z h a cls)
    (w1 : (Jvm.Cond.methodLink own idx x).before a0 Z = true) (w2 : (Jvm.Cond.declares x).before a0 Z = true) (nf : ∀ s : State, Z.Warmed39 s.vm → NotFace s x) (ws : (Jvm.Cond.selects cls x y).before a0 Z = true) (wi : (Jvm.Cond.instanceMethod y).before a0 Z = true) (hy : x.cls ≠ "java/lang/invoke/MethodHandle" ∧ x.cls ≠ "java/lang/invoke/VarHandle")
    (B : Z.Warmed39 (s.setVm vm).vm → Ext Z.heap h → Back l R p e below (s.setVm vm) args y 3 W (fun A as => as = (.ref a :: argsL).toArray ∧ A.U.heap = h ∧ A.cells + dk ≤ R.cells ∧ A.slots + dn ≤ R.slots) (fun A _ v B => ∃ L, Q v B.U.heap L ∧ B.locs = A.locs ++ L ∧ B.cells = A.cells + dk ∧ B.slots = A.slots + dn))
    (hdesc : parseMethodDescriptor x.desc = some ⟨ps, r⟩) (hlen : argsL.length = ps.length) (hst : S = argsL.reverse ++ .ref a :: rest) (hsz : L.size = ml) (hW : (rest.map fun v => v.category).sum ≤ W) (hk0 : k + dk ≤ R.cells) (hn0 : n + dn ≤ R.slots)
    (hQ : ∀ v h' lc, Q v h' lc → Fr Z.heap.size lc ∧ ∃ ws, Keep h h' ws ∧ (∀ x ∈ ws, Safe Z EL vm h x) ∧ ∀ x ∈ ws, Z.heap.size ≤ x) (g : ∀ v h' lc, Q v h' lc → CHr Z EL vm h vm h' → Go nw p l e R s m args below meth c code ml nm ret Z a0 EL own P vm h' (k + dk) (n + dn) pc' L (v.toList ++ rest)) : Go nw p l e R s m args below meth c code ml nm ret Z a0 EL own P vm h k n pc L S := by
  refine Go.calledB (rest := rest) hp hk0 hn0 (fun T locs cells slots X hh hx hc hm hon q1 q2 => ?_) hQ g
  obtain ⟨cB, kB, b1, b2, b3⟩ := isOf (s := s.setVm vm) hon.2.1 hh E
  exact X.virtualBack hx hon.2.2.1 (mvT (s := s.setVm vm) hon.2.1 w1) (mvT (s := s.setVm vm) hon.2.1 w2) (nf (s.setVm vm) hon.2.1) (mvT (s := s.setVm vm) hon.2.1 ws) (mvT (s := s.setVm vm) hon.2.1 wi) hy (B hon.2.1 hon.2.2.2.2.1) b1 b3 (g := mkF m pc L S) rfl (hsz.trans hm.symm) (Steps.refl _) (argsL := argsL) (rest := rest) (lenOf hdesc hlen) hst (by show 2 * 0 + _ ≤ _; omega) (hb hc hd) (fun _ _ => ⟨rfl, hh, q1, q2⟩)
theorem Go.specB {idx : Nat} {y : MethodName} {code' : ByteArray} {ml' : Nat} {Q : Option Value → Heap → List Loc → Prop} {dk dn : Nat} {ps : List FieldType} {r : Option FieldType} {rest : List Value} (W : Nat) (a : Addr) (argsL : List Value) (pc' : Nat) (hd : decode code pc = .ok (.invokespecial idx, 3)) (hp : pc + 3 = pc') (hy1 : y.name = "<init>")
    (w1 : (Jvm.Cond.methodLink own idx y).before a0 Z = true) (w2 : (Jvm.Cond.instanceMethod y).before a0 Z = true) (w4 : (Jvm.Cond.code y code' ml' none).before a0 Z = true) (hy : y.cls ≠ "java/lang/invoke/MethodHandle" ∧ y.cls ≠ "java/lang/invoke/VarHandle")
    (B : Z.Warmed39 (s.setVm vm).vm → Ext Z.heap h → Back l R p e below (s.setVm vm) args y 3 W (fun A as => as = (.ref a :: argsL).toArray ∧ A.U.heap = h ∧ A.cells + dk ≤ R.cells ∧ A.slots + dn ≤ R.slots) (fun A _ v B => ∃ L, Q v B.U.heap L ∧ B.locs = A.locs ++ L ∧ B.cells = A.cells + dk ∧ B.slots = A.slots + dn))
    (hdesc : parseMethodDescriptor y.desc = some ⟨ps, r⟩) (hlen : argsL.length = ps.length) (hst : S = argsL.reverse ++ .ref a :: rest) (hsz : L.size = ml) (hW : (rest.map fun v => v.category).sum ≤ W) (hk0 : k + dk ≤ R.cells) (hn0 : n + dn ≤ R.slots)
    (hQ : ∀ v h' lc, Q v h' lc → Fr Z.heap.size lc ∧ ∃ ws, Keep h h' ws ∧ (∀ x ∈ ws, Safe Z EL vm h x) ∧ ∀ x ∈ ws, Z.heap.size ≤ x) (g : ∀ v h' lc, Q v h' lc → CHr Z EL vm h vm h' → Go nw p l e R s m args below meth c code ml nm ret Z a0 EL own P vm h' (k + dk) (n + dn) pc' L (v.toList ++ rest)) : Go nw p l e R s m args below meth c code ml nm ret Z a0 EL own P vm h k n pc L S := by
  refine Go.calledB (rest := rest) hp hk0 hn0 (fun T locs cells slots X hh hx hc hm hon q1 q2 => ?_) hQ g
  exact X.specialBack hx hy1 hon.2.2.1 (mvT (s := s.setVm vm) hon.2.1 w1) (mvT (s := s.setVm vm) hon.2.1 w2) (mvT (s := s.setVm vm) hon.2.1 w4) hy (B hon.2.1 hon.2.2.2.2.1) (g := mkF m pc L S) rfl (hsz.trans hm.symm) (Steps.refl _) (a := a) (argsL := argsL) (rest := rest) (lenOf hdesc hlen) hst (by show 2 * 0 + _ ≤ _; omega) (hb hc hd) (fun _ _ => ⟨rfl, hh, q1, q2⟩)
/-- ldc of a String constant that EL lists, its text read -/
theorem Go.ldcS {idx : Nat} {text : String} {vs : List Value} {z : Int32} (cap : Nat) (pc' : Nat) (hd : decode code pc = .ok (.ldc idx, 2)) (hp : pc + 2 = pc') (hnw : nw = false) (w : (Jvm.Cond.stringLink own idx text).before a0 Z = true) (wS : ∀ a ∈ Bundle.stringAtoms, a.before a0 Z = true) (hmem : (own, idx) ∈ EL)
    (ht : (∀ c ∈ text.toList, c.toNat < 256) ∧ text.toList.map (fun c => Value.int (Jvm.Lit.byteI c.toNat.toUInt16)) = vs) (hz : ¬ z < 0) (hl : z.toNatClampNeg = vs.length) (hcap : 4 * text.toList.length ≤ cap) (hbig : cap ≤ 536870912) (hk0 : k + 2 ≤ R.cells) (hn0 : n + (cap + 4) ≤ R.slots)
    (g : ∀ (a b : Addr) (kb : ClassId) (vm' : Vm) (h' : Heap), Ext h h' → Exa Z h' a "java/lang/String" → Fld Z h' a "java/lang/String" "coder" "B" (.int 0) → Fld Z h' a "java/lang/String" "value" "[B" (.ref b) → Arv Z h' b kb .byte z vs (.int 0) → (∀ x, Safe Z EL vm' h' x → x ≠ a ∧ x ≠ b) → CHr Z EL vm h vm' h' → Go nw p l e R s m args below meth c code ml nm ret Z a0 EL own P vm' h' (k + 2) (n + (cap + 4)) pc' L (.ref a :: S)) : Go nw p l e R s m args below meth c code ml nm ret Z a0 EL own P vm h k n pc L S := by
  subst hp
  intro hx hc hm hl' hnm hr hon T locs cells slots X hh hF hk hn
  obtain ⟨⟨k0, a1, a2⟩, a3, a4, a5, a6, a7, a8⟩ := hon
  obtain ⟨a, T', h', k1, b, kb, X', e', E, hS, hk1, hZ', hf', A, C1, V1, K1, -, -, ch, -, hne, st⟩ := ldcCH X hx a3 a4 w wS hh a1 a2 a7 hmem a5 ht hz hl (g := mkF m pc L S) rfl (hb hc hd) hcap hbig (by omega) (by omega)
  have hon' : On nw s m Z a0 EL own T'.vm h' := ⟨⟨k1, hS, hk1⟩, hZ', hf', ch.1, ⟨Nat.le_trans a6.1 E.1, fun a c q => E.2 _ _ (a6.2 _ _ q)⟩, a7, fun q => by rw [hnw] at q; cases q⟩
  obtain ⟨s₂, v2, st3, r1, r2, r3, r4, r5⟩ := g a b kb T'.vm h' E A C1 V1 K1 hne ch hx hc hm hl' hnm hr hon' T' _ _ _ X' e' hF (by omega) (by omega)
  exact ⟨s₂, v2, st _ st3, r1, r2, r3, ch.trans r4, r5⟩
theorem Go.castY {K : String} {idx : Nat} {a : Addr} (pc' : Nat) (hd : decode code pc = .ok (.checkcast idx, 3)) (hp : pc + 3 = pc') (w : (Jvm.Cond.classLink own idx K).before a0 Z = true) (F : Ins Z h a K true) (g : Go nw p l e R s m args below meth c code ml nm ret Z a0 EL own P vm h k n pc' L (.ref a :: S)) : Go nw p l e R s m args below meth c code ml nm ret Z a0 EL own P vm h k n pc L (.ref a :: S) := by
  subst hp
  exact g.note fun T locs cells slots X hh hx hc hm hon => RoadKit.castY X hx hon.2.1 hon.2.2.1 w hh F (g := mkF m pc L (.ref a :: S)) rfl rfl (hb hc hd)
theorem Go.instY {K : String} {idx : Nat} {a : Addr} (pc' : Nat) (hd : decode code pc = .ok (.instanceof idx, 3)) (hp : pc + 3 = pc') (w : (Jvm.Cond.classLink own idx K).before a0 Z = true) (F : Ins Z h a K true) (g : Go nw p l e R s m args below meth c code ml nm ret Z a0 EL own P vm h k n pc' L (.int 1 :: S)) : Go nw p l e R s m args below meth c code ml nm ret Z a0 EL own P vm h k n pc L (.ref a :: S) := by
  subst hp
  exact g.note fun T locs cells slots X hh hx hc hm hon => RoadKit.instY X hx hon.2.1 hon.2.2.1 w hh F (g := mkF m pc L (.ref a :: S)) rfl rfl (hb hc hd)
theorem Go.instN {K C : String} {idx : Nat} {a : Addr} (pc' : Nat) (hd : decode code pc = .ok (.instanceof idx, 3)) (hp : pc + 3 = pc') (w : (Jvm.Cond.classLink own idx K).before a0 Z = true) (E : Exa Z h a C) (F : ∃ c t, Z.vm.findClass C = some c ∧ Z.vm.findClass K = some t ∧ Z.vm.assignable c t = false) (g : Go nw p l e R s m args below meth c code ml nm ret Z a0 EL own P vm h k n pc' L (.int 0 :: S)) : Go nw p l e R s m args below meth c code ml nm ret Z a0 EL own P vm h k n pc L (.ref a :: S) := by
  subst hp
  exact g.note fun T locs cells slots X hh hx hc hm hon => instNo X hx hon.2.1 hon.2.2.1 w hh E F (g := mkF m pc L (.ref a :: S)) rfl rfl (hb hc hd)
theorem Go.ldc2_w {idx : Nat} {v : Int64} (w : (Jvm.Cond.constantLong own idx v).before a0 Z = true) (pc' : Nat) (hd : decode code pc = .ok (.ldc2_w idx, 3)) (hp : pc + 3 = pc') (g : Go nw p l e R s m args below meth c code ml nm ret Z a0 EL own P vm h k n pc' L (.long v :: S)) : Go nw p l e R s m args below meth c code ml nm ret Z a0 EL own P vm h k n pc L S := by
  subst hp
  exact g.note fun T locs cells slots X hh hx hc hm hon => ⟨T, X, hh, fun target q => ldc2J X hx hon.2.2.1 (mvT (s := s.setVm vm) hon.2.1 w) (g := mkF m pc L S) rfl (hb hc hd) q⟩
theorem Go.instNull {idx : Nat} (pc' : Nat) (hd : decode code pc = .ok (.instanceof idx, 3)) (hp : pc + 3 = pc') (g : Go nw p l e R s m args below meth c code ml nm ret Z a0 EL own P vm h k n pc' L (.int 0 :: S)) : Go nw p l e R s m args below meth c code ml nm ret Z a0 EL own P vm h k n pc L (.null :: S) := by
  subst hp
  exact g.note fun T locs cells slots X hh hx hc hm hon => ⟨T, X, hh, instanceofNull X hx (g := mkF m pc L (.null :: S)) rfl rfl (hb hc hd)⟩
theorem Go.anewarray {C : String} {idx : Nat} {z : Int32} (cap : Nat) (pc' : Nat) (hd : decode code pc = .ok (.anewarray idx, 3)) (hp : pc + 3 = pc') (w1 : (Jvm.Cond.classLink own idx C).before a0 Z = true) (w2 : (Jvm.Cond.arrayOver (.object C)).before a0 Z = true) (hz : ¬ z < 0) (hcap : z.toNatClampNeg ≤ cap) (hb8 : cap * 8 ≤ 536870912) (hk0 : k + 1 ≤ R.cells) (hn0 : n + cap ≤ R.slots)
    (g : ∀ a h', a = h.size → Ext h h' → (∃ cA, Arv Z h' a cA (.object C) z [] .null ∧ Ovr Z cA C) → Safe Z EL vm h' a → Z.heap.size ≤ a → CHr Z EL vm h vm h' → Go nw p l e R s m args below meth c code ml nm ret Z a0 EL own P vm h' (k + 1) (n + cap) pc' L (.ref a :: S)) : Go nw p l e R s m args below meth c code ml nm ret Z a0 EL own P vm h k n pc L (.int z :: S) := by
  subst hp
  refine Go.made (dk := 1) (dn := cap) (S' := fun a => .ref a :: S) (F := fun h' a => ∃ cA, Arv Z h' a cA (.object C) z [] .null ∧ Ovr Z cA C) hk0 hn0 (fun T locs cells slots X hh hx hc hm hon q1 q2 => ?_) g
  obtain ⟨T', h', cA, X', e', E, A, O, st⟩ := newR X hx hon.2.1 hon.2.2.1 w1 w2 hh (g := mkF m pc L (.int z :: S)) rfl (hb hc hd) rfl hz hcap hb8 q1 q2
  exact ⟨T', h', X', e', E, ⟨cA, Arv.new A hz, O⟩, st⟩
theorem Go.aastore {a y : Addr} {kA : ClassId} {C : String} {z j : Int32} {vs : List Value} {dv : Value} (i : Nat) (vs' : List Value) (pc' : Nat) (hd : decode code pc = .ok (.aastore, 1)) (hp : pc + 1 = pc') (A : Arv Z h a kA (.object C) z vs dv) (O : Ovr Z kA C) (I : Ins Z h y C true) (hj : ¬ j < 0 ∧ j < z) (hi : j.toNatClampNeg = i) (hl : i < vs.length) (hvs : vs.set i (.ref y) = vs') (Sa : Safe Z EL vm h a) (hz : Z.heap.size ≤ a)
    (g : ∀ h', Keep h h' [a] → Arv Z h' a kA (.object C) z vs' dv → Safe Z EL vm h' a → CHr Z EL vm h vm h' → Go nw p l e R s m args below meth c code ml nm ret Z a0 EL own P vm h' k n pc' L S) : Go nw p l e R s m args below meth c code ml nm ret Z a0 EL own P vm h k n pc L (.ref y :: .int j :: .ref a :: S) := by
  subst hp hvs
  obtain ⟨cl, A1, A2, A3, A4, A5, A6⟩ := A
  have hin := inb_of A3 hj
  refine Go.wrote Sa hz (sl := j.toNatClampNeg) (w := .ref y) (fun T locs cells slots X hh hx hc hm hnm hon => ?_) (fun h' W s2 ch => g h' (Keep.of_wr W) (Arv.set A1 A2 A3 A4 A5 A6 rfl W i hi hl) s2 ch)
  exact stR X hx hon.2.1 hh A1 hin rfl (Sto.ofV A1 A2 O I) (g := mkF m pc L (.ref y :: .int j :: .ref a :: S)) rfl rfl (hb hc hd)
theorem Go.invokeinterface {idx : Nat} {y : MethodName} {code' : ByteArray} {ml' : Nat} {ret' : Option FieldType} {rm : Room} {Q : Option Value → Vm → Heap → Prop} {ps : List FieldType} {r : Option FieldType} {rest : List Value} {xi : MethodName} {cls : String} {cnt : Nat} (W : Nat) (a : Addr) (argsL : List Value) (pc' : Nat) (hd : decode code pc = .ok (.invokeinterface idx cnt, 5)) (hp : pc + 5 = pc') (E : Exa Z h a cls) (w1 : (Jvm.Cond.methodLink own idx xi).before a0 Z = true) (w2 : (Jvm.Cond.declares xi).before a0 Z = true) (wf : ∀ s' : State, Z.Warmed39 s'.vm → (Jvm.Cond.interfaceMethod xi.cls xi.cls xi.name xi.desc).before args s' = true) (ws : (Jvm.Cond.selects cls xi y).before a0 Z = true) (wi : (Jvm.Cond.instanceMethod y).before a0 Z = true) (wp : (Jvm.Cond.publicMethod y).before a0 Z = true) (wu : (Jvm.Cond.unhidden cls xi.name xi.desc).before a0 Z = true) (wc : (Jvm.Cond.castable cls xi.cls).before a0 Z = true) (w3 : (Jvm.Cond.initialized y.cls).before a0 Z = true) (w4 : (Jvm.Cond.code y code' ml' ret').before a0 Z = true)
    (hy : xi.cls ≠ "java/lang/invoke/MethodHandle" ∧ xi.cls ≠ "java/lang/invoke/VarHandle") (C : Ctr nw l Z a0 EL y code' ml' ret' rm (.ref a :: argsL).toArray vm h Q) (hdesc : parseMethodDescriptor xi.desc = some ⟨ps, r⟩) (hlen : argsL.length = ps.length) (hst : S = argsL.reverse ++ .ref a :: rest) (hsz : L.size = ml) (hf : rm.frames + 1 ≤ R.frames) (hW : (rest.map fun v => v.category).sum ≤ W) (hl : W + (ml' + 11) + rm.locals ≤ R.locals) (hk0 : k + rm.cells ≤ R.cells) (hn0 : n + rm.slots ≤ R.slots)
    (g : ∀ v vm' h', Q v vm' h' → CHr Z EL vm h vm' h' → Go nw p l e R s m args below meth c code ml nm ret Z a0 EL own P vm' h' (k + rm.cells) (n + rm.slots) pc' L (v.toList ++ rest)) : Go nw p l e R s m args below meth c code ml nm ret Z a0 EL own P vm h k n pc L S := by
  refine Go.called (rm := rm) (Q := Q) (rest := rest) hp hk0 hn0 (fun T locs cells slots X hh hx hc hm hon q1 q2 => ?_) g
  obtain ⟨cB, kB, b1, b2, b3⟩ := isOf (s := s.setVm vm) hon.2.1 hh E
  exact X.interfaceBackS hx hon.2.2.1 (mvT (s := s.setVm vm) hon.2.1 w1) (mvT (s := s.setVm vm) hon.2.1 w2) (wf (s.setVm vm) hon.2.1) (mvT (s := s.setVm vm) hon.2.1 ws) (mvT (s := s.setVm vm) hon.2.1 wi) (mvT (s := s.setVm vm) hon.2.1 wp) (mvT (s := s.setVm vm) hon.2.1 wu) (mvT (s := s.setVm vm) hon.2.1 wc) hy (C.back hon w4 w3 hf hl) b1 b2 b3 (g := mkF m pc L S) rfl (hsz.trans hm.symm) (Steps.refl _) (argsL := argsL) (rest := rest) (lenOf hdesc hlen) hst (by show 2 * 0 + _ ≤ _; omega) (hb hc hd) (fun _ _ => ⟨rfl, hh, q1, q2⟩)
theorem Go.ldcI {idx : Nat} {v : Int32} (w : (Jvm.Cond.constant own idx v).before a0 Z = true) (pc' : Nat) (hd : decode code pc = .ok (.ldc idx, 2)) (hp : pc + 2 = pc') (g : Go nw p l e R s m args below meth c code ml nm ret Z a0 EL own P vm h k n pc' L (.int v :: S)) : Go nw p l e R s m args below meth c code ml nm ret Z a0 EL own P vm h k n pc L S := by
  subst hp
  exact g.note fun T locs cells slots X hh hx hc hm hon => ⟨T, X, hh, fun target q => Jvm.Stand.ldcI X hx hon.2.2.1 (mvT (s := s.setVm vm) hon.2.1 w) (g := mkF m pc L S) rfl (hb hc hd) q⟩
end Core
end Jvm.Own

namespace Jvm.Own
open Sem ClassFile Op Lib Bundle Jvm.Stand Jvm.Free Jvm.LawKit Jvm.RoadKit
section Facts
variable {Z : State} {a0 : Array Value} {EL : List (String × Nat)} {vm vm' : Vm} {h h' h0 h1 h2 : Heap} {a b x : Addr} {cs ds : List Int32} {ws : List Addr} {C : String} {n : Nat}
theorem Ext.rfl' (h : Heap) : Ext h h := ⟨Nat.le_refl _, fun _ _ q => q⟩
theorem Ext.tr (E : Ext h h1) (F : Ext h1 h2) : Ext h h2 := ⟨Nat.le_trans E.1 F.1, fun a c q => F.2 _ _ (E.2 _ _ q)⟩
/-- only new cells written: from the old heap's side nothing has changed -/
theorem Ext.kp (E : Ext h h1) (K : Keep h1 h2 ws) (q : ∀ x ∈ ws, h.size ≤ x) : Ext h h2 :=
  ⟨Nat.le_trans E.1 K.1, fun a c r => K.2.1 a c (E.2 _ _ r) fun z => absurd (Array.getElem?_eq_some_iff.mp r).1 (Nat.not_lt.mpr (q a z))⟩
theorem Ext.kp1 (E : Ext h h1) (K : Keep h1 h2 [x]) (e : x = h.size) : Ext h h2 := Ext.kp E K fun y hy => by cases List.mem_singleton.mp hy; exact Nat.le_of_eq e.symm
theorem Ext.kq1 (E : Ext h h1) (K : Keep h1 h2 [x]) (e : h.size ≤ x) : Ext h h2 := Ext.kp E K fun y hy => by cases List.mem_singleton.mp hy; exact e
theorem Ext.wr1 {sl : Nat} {v : Value} (E : Ext h h1) (W : Wr h1 h2 x sl v) (e : h.size ≤ x) : Ext h h2 := Ext.kq1 E (Keep.of_wr W) e
theorem Keep.ofExt (E : Ext h h') (ws : List Addr) : Keep h h' ws := (Keep.refl h ws).ext E
theorem Keep.e0 (K : Keep h h' []) : Ext h h' := ⟨K.1, fun a c q => K.2.1 a c q nin0⟩
theorem ne_of_new (q : a < h.size) (r : h.size ≤ b) : a ≠ b := Nat.ne_of_lt (Nat.lt_of_lt_of_le q r)
/-- a Latin-1 String of these chars -/
def Str (Z : State) (h : Heap) (a : Addr) (cs : List Int32) : Prop :=
  ∃ (b : Addr) (kb : ClassId), Exa Z h a "java/lang/String" ∧ Fld Z h a "java/lang/String" "coder" "B" (.int 0) ∧ Fld Z h a "java/lang/String" "value" "[B" (.ref b) ∧
    Arv Z h b kb .byte (Int32.ofNat cs.length) ((cs.map fun c => c.toInt8.toInt32).map Value.int) (.int 0) ∧ cs.length ≤ 4000 ∧ ∀ c ∈ cs, ¬ c < 0 ∧ ¬ (255 : Int32) < c
theorem Str.ext (S : Str Z h a cs) (E : Ext h h') : Str Z h' a cs := by
  obtain ⟨b, kb, s1, s2, s3, s4, s5⟩ := S
  exact ⟨b, kb, s1.ext E, s2.ext E, s3.ext E, s4.ext E, s5⟩
theorem Str.exa (S : Str Z h a cs) : Exa Z h a "java/lang/String" := by obtain ⟨b, kb, s1, -⟩ := S; exact s1
theorem Str.lt (S : Str Z h a cs) : a < h.size := S.exa.lt
/-- an object of another class is written -/
theorem Str.keepE (S : Str Z h a cs) (K : Keep h h' [x]) (E : Exa Z h x C) (hC : C ≠ "java/lang/String") (wi : (Jvm.Cond.instantiable C n).before a0 Z = true) : Str Z h' a cs := by
  obtain ⟨b, kb, s1, s2, s3, s4, s5⟩ := S
  have n1 : a ∉ [x] := ninS (fun q => (Exa.ne E s1 hC) q.symm) nin0
  have n2 : b ∉ [x] := ninS (fun q => (Exa.neArv E s4 wi) q.symm) nin0
  exact ⟨b, kb, s1.keep K, s2.keep K n1, s3.keep K n1, s4.keep K n2, s5⟩
theorem Str.wrE {sl : Nat} {v : Value} (S : Str Z h a cs) (W : Wr h h' x sl v) (E : Exa Z h x C) (hC : C ≠ "java/lang/String") (wi : (Jvm.Cond.instantiable C n).before a0 Z = true) : Str Z h' a cs := S.keepE (Keep.of_wr W) E hC wi
/-- an array of another kind is written -/
theorem Str.keepA {k : ClassId} {ty : FieldType} {z : Int32} {vs : List Value} {dv : Value} {nI : Nat} (S : Str Z h a cs) (K : Keep h h' [x]) (A : Arv Z h x k ty z vs dv) (ht : ty ≠ .byte) (wi : (Jvm.Cond.instantiable "java/lang/String" nI).before a0 Z = true) : Str Z h' a cs := by
  obtain ⟨b, kb, s1, s2, s3, s4, s5⟩ := S
  have n1 : a ∉ [x] := ninS (Exa.neArv s1 A wi) nin0
  have n2 : b ∉ [x] := ninS (fun q => by
    subst q
    obtain ⟨c1, ⟨e1, ⟨-, k1, f1, p1, g1⟩, -⟩, -⟩ := s4
    obtain ⟨c2, ⟨e2, ⟨-, k2, f2, p2, g2⟩, -⟩, -⟩ := A
    cases e1.symm.trans e2
    cases f1.symm.trans f2
    rw [g1] at g2
    cases g2
    exact ht rfl) nin0
  exact ⟨b, kb, s1.keep K, s2.keep K n1, s3.keep K n1, s4.keep K n2, s5⟩
theorem Exa.insOf (E : Exa Z h a C) : Ins Z h a C true := Ins.self E
theorem i2c255 (x : Int32) : (x &&& 255).toUInt32.toUInt16.toUInt32.toInt32 = x &&& 255 := i2c_mask x
theorem and255 (x : Int32) : ¬ (x &&& (255 : Int32)) < 0 ∧ ¬ (255 : Int32) < (x &&& (255 : Int32)) := by
  have t : ∀ k : Fin 256, ¬ (Int32.ofNat k.val) < 0 ∧ ¬ (255 : Int32) < Int32.ofNat k.val := by decide +kernel
  have h : (x &&& 255).toBitVec.toNat < 256 := by
    simp only [Int32.toBitVec_and, BitVec.toNat_and]
    exact Nat.lt_succ_of_le Nat.and_le_right
  have e : (x &&& 255) = Int32.ofNat (x &&& 255).toBitVec.toNat := by
    apply Int32.toBitVec_inj.mp
    show _ = BitVec.ofNat 32 _
    rw [BitVec.ofNat_toNat]; simp
  rw [e]
  exact t ⟨_, h⟩
theorem narC {x : Int32} (h : ¬ x < 0 ∧ ¬ (255 : Int32) < x) : nar .char x = x := by
  have e : x = x &&& 255 := by
    obtain ⟨h1, h2⟩ := h
    apply Int32.toInt_inj.mp
    rw [c_mask x 255 8 (by decide) (by decide)]
    rw [Int32.lt_iff_toInt_lt] at h1 h2
    have e1 : (0 : Int32).toInt = 0 := rfl
    have e2 : (255 : Int32).toInt = 255 := rfl
    omega
  rw [e]; exact i2c_mask x
theorem narZ {x : Int32} (h : x = 0 ∨ x = 1) : narrow .boolean (.int x) = .int x := by rcases h with rfl | rfl <;> rfl
theorem narCv {x : Int32} (h : ¬ x < 0 ∧ ¬ (255 : Int32) < x) : narrow .char (.int x) = .int x := (show narrow .char (.int x) = .int (nar .char x) from rfl).trans (by rw [narC h])
theorem l2i_mask {y m : Int64} {k : Nat} (hk : k ≤ 30) (hm : m.toBitVec.toNat = 2 ^ k - 1) : ((y &&& m).toInt32).toInt = y.toInt % (2 ^ k : Nat) := by
  have h1 := c_maskL y m k (by omega) hm
  have h2 := c_l2i (y &&& m)
  rw [h1] at h2
  have h3 := rng32 (y &&& m).toInt32
  have h4 : (2 ^ k : Nat) ≤ 2 ^ 30 := Nat.pow_le_pow_right (by decide) hk
  have h5 : 0 < (2 ^ k : Nat) := Nat.pow_pos (by decide)
  have h6 := Int.emod_nonneg y.toInt (b := ((2 ^ k : Nat) : Int)) (by omega)
  have h7 := Int.emod_lt_of_pos y.toInt (b := ((2 ^ k : Nat) : Int)) (by omega)
  omega
theorem b255L (y : Int64) : ¬ (y &&& (255 : Int64)).toInt32 < 0 ∧ ¬ (255 : Int32) < (y &&& (255 : Int64)).toInt32 := by
  have h := l2i_mask (y := y) (m := 255) (k := 8) (by decide) (by decide)
  rw [Int32.lt_iff_toInt_lt, Int32.lt_iff_toInt_lt, h]
  have e1 : (0 : Int32).toInt = 0 := rfl
  have e2 : (255 : Int32).toInt = 255 := rfl
  omega
theorem ofNat_toInt {n : Nat} (h : n < 2 ^ 31) : (Int32.ofNat n).toInt = n := len_toInt h
theorem ofNat_lt {i n : Nat} (hi : i < 2 ^ 31) (hn : n < 2 ^ 31) : Int32.ofNat i < Int32.ofNat n ↔ i < n := by
  rw [Int32.lt_iff_toInt_lt, ofNat_toInt hi, ofNat_toInt hn]; omega
theorem Str.at {i : Nat} (S : Str Z h a cs) (hi : i < cs.length) : ¬ cs.getD i 0 < 0 ∧ ¬ (255 : Int32) < cs.getD i 0 := by
  obtain ⟨b, kb, -, -, -, -, -, q⟩ := S
  have e : cs.getD i 0 = cs[i] := by simp [List.getD_eq_getElem?_getD, hi]
  rw [e]; exact q _ (List.getElem_mem _)
theorem Str.len (S : Str Z h a cs) : cs.length ≤ 4000 := by obtain ⟨b, kb, -, -, -, -, q, -⟩ := S; exact q
/-- a truth as an int -/
def bi (P : Prop) [Decidable P] : Int32 := if P then 1 else 0
theorem bi_t {P : Prop} [Decidable P] (h : P) : bi P = 1 := if_pos h
theorem bi_f {P : Prop} [Decidable P] (h : ¬ P) : bi P = 0 := if_neg h
theorem bi0 {P : Prop} [Decidable P] : bi P = 0 ↔ ¬ P := by unfold bi; by_cases h : P <;> simp [h]
theorem bi1 {P : Prop} [Decidable P] : bi P = 1 ↔ P := by unfold bi; by_cases h : P <;> simp [h]
theorem bi01 (P : Prop) [Decidable P] : bi P = 0 ∨ bi P = 1 := by unfold bi; by_cases h : P <;> simp [h]
theorem biZ (P : Prop) [Decidable P] : narrow .boolean (.int (bi P)) = .int (bi P) := narZ (bi01 P)
/-- a class that is no subclass of K -/
theorem noSub {C K O : String} {nk : Nat} (hC : (Jvm.Cond.superclass C O).before a0 Z = true) (hO : (Jvm.Cond.noSuperclass O).before a0 Z = true) (hK : (Jvm.Cond.instantiable K nk).before a0 Z = true) (n1 : C ≠ K) (n2 : O ≠ K) : ∃ c t, Z.vm.findClass C = some c ∧ Z.vm.findClass K = some t ∧ Z.vm.assignable c t = false := by
  obtain ⟨t, kt, g1, g2, g3, g4⟩ := Cond.instantiable_spec hK
  obtain ⟨o, ko, o1, o2, o3, -, -⟩ := Cond.noSuperclass_spec hO
  obtain ⟨c, h0⟩ := found_sup hC
  obtain ⟨p, k, kp, h1, h2, h3, h4, h5, -, h7⟩ := Cond.superclass_spec h0 hC
  cases o1.symm.trans h1
  have ne := ids_ne h0 g1 n1
  have no := ids_ne o1 g1 n2
  refine ⟨c, t, h0, g1, ?_⟩
  have sub : ∀ fuel, Z.vm.isSubclassAux fuel c t = false := fun fuel => by
    cases fuel with
    | zero => rfl
    | succ f =>
      cases f with
      | zero => simp [Vm.isSubclassAux, ne, h2, h4]
      | succ f => simp [Vm.isSubclassAux, ne, h2, h4, no, o2, o3]
  have g5 : kt.isInterface = false := by
    have q := g4.1
    simp only [Bool.or_eq_false_iff] at q
    exact q.1
  show Z.vm.assignableAux (255 + 1) c t = false
  simp [Vm.assignableAux, ne, h2, g2, h5, g3, g5, Vm.isSubclass, sub]
end Facts
end Jvm.Own
/- laws to paste: Road.backV (cut by pick.py; bodies as the Statement names them) -/
namespace Jvm.Pilot.@@N@@
namespace StrChars
open Jvm Sem ClassFile Op Lib Jvm.Stand Jvm.Free.XT Jvm.Free.ALB Jvm.Free.JM Jvm.Free
open Jvm.Lib.Cold (StaticIs)
/-- a char array whose places are chars -/
def Ch (a : Addr) (A : Cell) (U : State) : Prop := Arr .char a A U ∧ Typed .char A
theorem Ch.mv {a : Addr} {A : Cell} {U U' : State} (h : Ch a A U) (hal : U.vm.Alike U'.vm) (hh : U'.heap = U.heap) : Ch a A U' := ⟨h.1.mv hal hh, h.2⟩
theorem Ch.keep {a : Addr} {A : Cell} {U U' : State} (h : Ch a A U) (hal : U.vm.Alike U'.vm) (hk : U'.heap[a]? = some A) : Ch a A U' := ⟨h.1.keep hal hk, h.2⟩
/-- what place i of a char[]'s cell holds -/
def cv (A : Cell) (i : Nat) : Int32 := match A.slots[i]? with | some (.int x) => x | _ => 0
theorem Ch.get {a : Addr} {A : Cell} {U : State} (h : Ch a A U) {i : Nat} (hi : i < A.slots.size) : A.slots[i]? = some (.int (cv A i)) := by
  have e := Array.getElem?_eq_getElem hi
  have f := h.2 i _ e
  unfold cv; rw [e]
  generalize A.slots[i] = v at f
  cases v <;> simp [fits] at f ⊢
/-- the byte that i2b leaves of a char -/
def lo8 (x : Int32) : Int32 := x.toInt8.toInt32
theorem fits_lo8 (y : Int32) : fits .byte (.int (lo8 y)) = true := by
  have h1 := y.toInt8.le_toInt
  have h2 := y.toInt8.toInt_lt
  simp only [lo8, fits, Bool.and_eq_true, decide_eq_true_eq, Int32.le_iff_toInt_le, Int8.toInt_toInt32, show (-128 : Int32).toInt = -128 from by decide, show (127 : Int32).toInt = 127 from by decide]
  omega
/-- A' is A but that each place j of lo .. hi - 1 holds f j -/
def Laid (A A' : Cell) (lo hi : Nat) (f : Nat → Value) : Prop := A'.cls = A.cls ∧ A'.vm = A.vm ∧ A'.slots.size = A.slots.size ∧ ∀ i, A'.slots[i]? = if lo ≤ i ∧ i < hi then some (f i) else A.slots[i]?
theorem Laid.zero (A : Cell) (lo : Nat) (f : Nat → Value) : Laid A A lo (lo + 0) f := ⟨rfl, rfl, rfl, fun i => by rw [if_neg (by omega)]⟩
theorem Laid.step {A Ak : Cell} {lo k : Nat} {f : Nat → Value} {v : Value} (h : Laid A Ak lo k f) (hlo : lo ≤ k) (hk : k < Ak.slots.size) (hv : v = f k) : Laid A (Ak.setSlot k v) lo (k + 1) f := by
  refine ⟨h.1, h.2.1, by simpa [Cell.setSlot] using h.2.2.1, fun i => ?_⟩
  by_cases e : k = i
  · subst e; rw [Cell.slots_setSlot_self v hk, if_pos (by omega), hv]
  · rw [Cell.slots_setSlot_ne v e, h.2.2.2 i]
    by_cases q : lo ≤ i ∧ i < k
    · rw [if_pos q, if_pos (by omega)]
    · rw [if_neg q, if_neg (by omega)]
def U16 : String := "java/lang/StringUTF16"
namespace Cmp5
def yN : MethodName := ⟨"java/lang/StringUTF16", "compress", "([CI[BII)I"⟩
abbrev yB : ByteArray := jdk_52_method_21_code
theorem d0 : decode yB 0 = .ok (.iconst 0, 1) := by decide +kernel
theorem d1 : decode yB 1 = .ok (.istore 5, 2) := by decide +kernel
theorem d3 : decode yB 3 = .ok (.iload 5, 2) := by decide +kernel
theorem d5 : decode yB 5 = .ok (.iload 4, 2) := by decide +kernel
theorem d7 : decode yB 7 = .ok (.if_icmp (.ge) 37, 3) := by decide +kernel
theorem d10 : decode yB 10 = .ok (.aload_n 0, 1) := by decide +kernel
theorem d11 : decode yB 11 = .ok (.iload_n 1, 1) := by decide +kernel
theorem d12 : decode yB 12 = .ok (.caload, 1) := by decide +kernel
theorem d13 : decode yB 13 = .ok (.istore 6, 2) := by decide +kernel
theorem d15 : decode yB 15 = .ok (.iload 6, 2) := by decide +kernel
theorem d17 : decode yB 17 = .ok (.sipush 255, 3) := by decide +kernel
theorem d20 : decode yB 20 = .ok (.if_icmp (.le) 6, 3) := by decide +kernel
theorem d26 : decode yB 26 = .ok (.aload_n 2, 1) := by decide +kernel
theorem d27 : decode yB 27 = .ok (.iload_n 3, 1) := by decide +kernel
theorem d28 : decode yB 28 = .ok (.iload 6, 2) := by decide +kernel
theorem d30 : decode yB 30 = .ok (.i2b, 1) := by decide +kernel
theorem d31 : decode yB 31 = .ok (.bastore, 1) := by decide +kernel
theorem d32 : decode yB 32 = .ok (.iinc 1 1, 3) := by decide +kernel
theorem d35 : decode yB 35 = .ok (.iinc 3 1, 3) := by decide +kernel
theorem d38 : decode yB 38 = .ok (.iinc 5 1, 3) := by decide +kernel
theorem d41 : decode yB 41 = .ok (.goto (-38), 3) := by decide +kernel
theorem d44 : decode yB 44 = .ok (.iload 4, 2) := by decide +kernel
theorem d46 : decode yB 46 = .ok (.ireturn, 1) := by decide +kernel
def site : List Cond := []
def tab : Cond := tabOf yN yB 7 (some .int) site
def P (b : Addr) (A : Cell) (d : Addr) (B : Cell) (o q len : Nat) (args : Array Value) (s : State) : Prop := args = #[.ref b, .int (Int32.ofNat o), .ref d, .int (Int32.ofNat q), .int (Int32.ofNat len)] ∧ Ch b A s ∧ Arr .byte d B s ∧ b ≠ d ∧ o + len ≤ A.slots.size ∧ q + len ≤ B.slots.size ∧ ∀ i, i < len → ¬ 255 < cv A (o + i)
def E (b : Addr) (A : Cell) (d : Addr) (B : Cell) (o q len : Nat) (r : Option Value) (s u : State) : Prop := r = some (.int (Int32.ofNat len)) ∧ ∃ B', Put d B' s u ∧ Laid B B' q (q + len) (fun j => Value.int (lo8 (cv A (o + (j - q)))))
/-- no char of the range above 255: len; the places written hold each char's low byte -/
theorem law (l : Launch) (b : Addr) (A : Cell) (d : Addr) (B : Cell) (o q len : Nat) : Law l yN 5 5 0 0 yB 7 (some .int) site (P b A d B o q len) (E b A d B o q len) (copyLocs d q len) 0 0 := by
  refine Law.of_walk (plainFor_of_name (by decide +kernel)) (by decide +kernel) (by decide +kernel) (by decide) (fun _ _ h => by rw [h.1]; rfl) (fun _ U U' hal hh h => ⟨h.1, h.2.1.mv hal hh, h.2.2.1.mv hal hh, h.2.2.2⟩) (fun r U U' V V' h1 hal h2 h => ⟨h.1, h.2.elim fun B' q => ⟨B', q.1.mv h1 h2, q.2⟩⟩) ?_
  intro p e s m args below meth c s₁ X0 hexec hbytes hml hret hlk hnm hown hh0 W hP
  obtain ⟨rfl, hA, hB, hne, l1, l2, hp⟩ := hP
  have c1 : Steps p.tables e below (s₁.setTop (entryFrame m #[.ref b, .int (Int32.ofNat o), .ref d, .int (Int32.ofNat q), .int (Int32.ofNat len)] 7)) (s₁.setTop (mkF m 0 #[.val (.ref b), .val (.int (Int32.ofNat o)), .val (.ref d), .val (.int (Int32.ofNat q)), .val (.int (Int32.ofNat len)), .unset, .unset] [])) := entry rfl
  have hA0 := hA.1.mv X0.warmed.alike hh0
  have hB0 := hB.mv X0.warmed.alike hh0
  have a31 := hA.1.2.2.2
  have c2 : Steps p.tables e below (s₁.setTop (entryFrame m #[.ref b, .int (Int32.ofNat o), .ref d, .int (Int32.ofNat q), .int (Int32.ofNat len)] 7)) (s₁.setTop (mkF m 3 #[.val (.ref b), .val (.int (Int32.ofNat o)), .val (.ref d), .val (.int (Int32.ofNat q)), .val (.int (Int32.ofNat len)), .val (.int 0), .unset] [])) := c1.trans (by
    refine iconstV X0.here hexec rfl 0 (hb hbytes d0) (by decide) ?_
    refine XS.istore X0.here hexec rfl (hb hbytes d1) rfl rfl ?_
    exact Steps.refl _)
  have loop : ∀ (r i : Nat), i + r = len → ∀ (z : Slot), (z = .unset ∨ ∃ w, z = .val w ∧ w.category = 1) → ∀ (Tl : State) (Bk : Cell), Stand p l e { frames := 0, locals := 0, cells := 0, slots := 0 } s m #[.ref b, .int (Int32.ofNat o), .ref d, .int (Int32.ofNat q), .int (Int32.ofNat len)] below meth c Tl ([] ++ copyLocs d q i) 0 0 → Put d Bk s₁ Tl → Laid B Bk q (q + i) (fun j => Value.int (lo8 (cv A (o + (j - q))))) →
      Steps p.tables e below (s₁.setTop (entryFrame m #[.ref b, .int (Int32.ofNat o), .ref d, .int (Int32.ofNat q), .int (Int32.ofNat len)] 7)) (Tl.setTop (mkF m 3 #[.val (.ref b), .val (.int (Int32.ofNat (o + i))), .val (.ref d), .val (.int (Int32.ofNat (q + i))), .val (.int (Int32.ofNat len)), .val (.int (Int32.ofNat i)), z] [])) → ∃ (T' : State) (B' : Cell) (z' : Slot), Stand p l e { frames := 0, locals := 0, cells := 0, slots := 0 } s m #[.ref b, .int (Int32.ofNat o), .ref d, .int (Int32.ofNat q), .int (Int32.ofNat len)] below meth c T' ([] ++ copyLocs d q len) 0 0 ∧ Put d B' s₁ T' ∧ Laid B B' q (q + len) (fun j => Value.int (lo8 (cv A (o + (j - q))))) ∧
      Steps p.tables e below (s₁.setTop (entryFrame m #[.ref b, .int (Int32.ofNat o), .ref d, .int (Int32.ofNat q), .int (Int32.ofNat len)] 7)) (T'.setTop (mkF m 3 #[.val (.ref b), .val (.int (Int32.ofNat (o + len))), .val (.ref d), .val (.int (Int32.ofNat (q + len))), .val (.int (Int32.ofNat len)), .val (.int (Int32.ofNat len)), z'] [])) := by
    intro r
    induction r with
    | zero =>
      intro i hi z hz Tl Bk Xl pl fl cl
      have hil : i = len := by omega
      rw [hil] at Xl fl cl
      exact ⟨Tl, Bk, z, Xl, pl, fl, cl⟩
    | succ r ih =>
      intro i hi z hz Tl Bk Xl pl fl cl
      have all := X0.warmed.alike.symm.trans Xl.warmed.alike
      have hAl := hA0.keep all (pl.other hne hA0.1)
      have hBk := hB0.like all pl.1 fl.1 fl.2.1 fl.2.2.1
      have hlt : q + i < Bk.slots.size := by rw [fl.2.2.1]; omega
      have c3 : Steps p.tables e below (s₁.setTop (entryFrame m #[.ref b, .int (Int32.ofNat o), .ref d, .int (Int32.ofNat q), .int (Int32.ofNat len)] 7)) (Tl.setTop (mkF m 12 #[.val (.ref b), .val (.int (Int32.ofNat (o + i))), .val (.ref d), .val (.int (Int32.ofNat (q + i))), .val (.int (Int32.ofNat len)), .val (.int (Int32.ofNat i)), z] [.int (Int32.ofNat (o + i)), .ref b])) := cl.trans (by
        refine XS.iload Xl.here hexec rfl (hb hbytes d3) rfl ?_
        refine XS.iload Xl.here hexec rfl (hb hbytes d5) rfl ?_
        refine XS.icmpNo Xl.here hexec rfl (hb hbytes d7) rfl (ii_ge_f (lt32 (by omega) (by omega))) ?_
        refine XS.aloadN Xl.here hexec rfl (hb hbytes d10) rfl rfl ?_
        refine XS.iloadN Xl.here hexec rfl (hb hbytes d11) rfl ?_
        exact Steps.refl _)
      have c4 : Steps p.tables e below (s₁.setTop (entryFrame m #[.ref b, .int (Int32.ofNat o), .ref d, .int (Int32.ofNat q), .int (Int32.ofNat len)] 7)) (Tl.setTop (mkF m 13 #[.val (.ref b), .val (.int (Int32.ofNat (o + i))), .val (.ref d), .val (.int (Int32.ofNat (q + i))), .val (.int (Int32.ofNat len)), .val (.int (Int32.ofNat i)), z] [.int (cv A (o + i))])) := c3.trans (by
        refine Xl.aget hexec hAl rfl (hA.get (i := o + i) (by omega)) rfl rfl (hb hbytes d12) ?_
        exact Steps.refl _)
      have c5 : Steps p.tables e below (s₁.setTop (entryFrame m #[.ref b, .int (Int32.ofNat o), .ref d, .int (Int32.ofNat q), .int (Int32.ofNat len)] 7)) (Tl.setTop (mkF m 15 #[.val (.ref b), .val (.int (Int32.ofNat (o + i))), .val (.ref d), .val (.int (Int32.ofNat (q + i))), .val (.int (Int32.ofNat len)), .val (.int (Int32.ofNat i)), .val (.int (cv A (o + i)))] [])) := c4.trans (by
        refine XS.istoreS Xl.here hexec rfl (hb hbytes d13) rfl rfl hz ?_
        exact Steps.refl _)
      have c6 : Steps p.tables e below (s₁.setTop (entryFrame m #[.ref b, .int (Int32.ofNat o), .ref d, .int (Int32.ofNat q), .int (Int32.ofNat len)] 7)) (Tl.setTop (mkF m 31 #[.val (.ref b), .val (.int (Int32.ofNat (o + i))), .val (.ref d), .val (.int (Int32.ofNat (q + i))), .val (.int (Int32.ofNat len)), .val (.int (Int32.ofNat i)), .val (.int (cv A (o + i)))] [.int (lo8 (cv A (o + i))), .int (Int32.ofNat (q + i)), .ref d])) := c5.trans (by
        refine XS.iload Xl.here hexec rfl (hb hbytes d15) rfl ?_
        refine sipushV Xl.here hexec rfl 255 (hb hbytes d17) (by decide) ?_
        refine XS.icmpYes Xl.here hexec rfl (pc0 := 20) rfl (hb hbytes d20) rfl (ii_le_t (hp i (by omega))) (by decide) rfl ?_
        refine XS.aloadN Xl.here hexec rfl (hb hbytes d26) rfl rfl ?_
        refine XS.iloadN Xl.here hexec rfl (hb hbytes d27) rfl ?_
        refine XS.iload Xl.here hexec rfl (hb hbytes d28) rfl ?_
        refine i2b Xl.here hexec rfl (hb hbytes d30) rfl ?_
        exact Steps.refl _)
      obtain ⟨T7, X7, p7, st7⟩ := Xl.aput hexec hBk rfl hlt rfl (fits_lo8 (cv A (o + i))) (g := (mkF m 31 #[.val (.ref b), .val (.int (Int32.ofNat (o + i))), .val (.ref d), .val (.int (Int32.ofNat (q + i))), .val (.int (Int32.ofNat len)), .val (.int (Int32.ofNat i)), .val (.int (cv A (o + i)))] [.int (lo8 (cv A (o + i))), .int (Int32.ofNat (q + i)), .ref d])) rfl (rest := []) rfl (hb hbytes d31)
      have c8 : Steps p.tables e below (s₁.setTop (entryFrame m #[.ref b, .int (Int32.ofNat o), .ref d, .int (Int32.ofNat q), .int (Int32.ofNat len)] 7)) (T7.setTop (mkF m 32 #[.val (.ref b), .val (.int (Int32.ofNat (o + i))), .val (.ref d), .val (.int (Int32.ofNat (q + i))), .val (.int (Int32.ofNat len)), .val (.int (Int32.ofNat i)), .val (.int (cv A (o + i)))] [])) := c6.trans (st7 _ (Steps.refl _))
      have c9 : Steps p.tables e below (s₁.setTop (entryFrame m #[.ref b, .int (Int32.ofNat o), .ref d, .int (Int32.ofNat q), .int (Int32.ofNat len)] 7)) (T7.setTop (mkF m 3 #[.val (.ref b), .val (.int (Int32.ofNat (o + i) + 1)), .val (.ref d), .val (.int (Int32.ofNat (q + i) + 1)), .val (.int (Int32.ofNat len)), .val (.int (Int32.ofNat i + 1)), .val (.int (cv A (o + i)))] [])) := c8.trans (by
        refine iincV X7.here hexec rfl 1 (hb hbytes d32) (by decide) rfl rfl ?_
        refine iincV X7.here hexec rfl 1 (hb hbytes d35) (by decide) rfl rfl ?_
        refine iincV X7.here hexec rfl 1 (hb hbytes d38) (by decide) rfl rfl ?_
        refine XS.goto X7.here hexec rfl (pc0 := 41) rfl (hb hbytes d41) (by decide) rfl ?_
        exact Steps.refl _)
      have c10 : Steps p.tables e below (s₁.setTop (entryFrame m #[.ref b, .int (Int32.ofNat o), .ref d, .int (Int32.ofNat q), .int (Int32.ofNat len)] 7)) (T7.setTop (mkF m 3 #[.val (.ref b), .val (.int (Int32.ofNat (o + (i + 1)))), .val (.ref d), .val (.int (Int32.ofNat (q + (i + 1)))), .val (.int (Int32.ofNat len)), .val (.int (Int32.ofNat (i + 1))), .val (.int (cv A (o + i)))] [])) := by
        have := c9
        rw [succ32, succ32, succ32] at this
        exact this
      exact ih (i + 1) (by omega) _ (Or.inr ⟨_, rfl, rfl⟩) T7 _ (by rw [copyLocs_step, ← List.append_assoc]; exact X7) (pl.trans p7) (fl.step (by omega) hlt (by simp)) c10
  obtain ⟨T9, B9, z9, X9, p9, f9, g9⟩ := loop len 0 (by omega) .unset (Or.inl rfl) s₁ B (by simpa [copyLocs] using X0) ⟨hB0.1, fun _ _ => rfl, rfl⟩ (Laid.zero _ _ _) c2
  have c11 : Steps p.tables e below (s₁.setTop (entryFrame m #[.ref b, .int (Int32.ofNat o), .ref d, .int (Int32.ofNat q), .int (Int32.ofNat len)] 7)) (T9.setTop (mkF m 46 #[.val (.ref b), .val (.int (Int32.ofNat (o + len))), .val (.ref d), .val (.int (Int32.ofNat (q + len))), .val (.int (Int32.ofNat len)), .val (.int (Int32.ofNat len)), z9] [.int (Int32.ofNat len)])) := g9.trans (by
    refine XS.iload X9.here hexec rfl (hb hbytes d3) rfl ?_
    refine XS.iload X9.here hexec rfl (hb hbytes d5) rfl ?_
    refine XS.icmpYes X9.here hexec rfl (pc0 := 7) rfl (hb hbytes d7) rfl (ii_ge_t (nlt32 (by omega) (Nat.le_refl _))) (by decide) rfl ?_
    refine XS.iload X9.here hexec rfl (hb hbytes d44) rfl ?_
    exact Steps.refl _)
  exact ⟨T9, some (.int (Int32.ofNat len)), _, _, _, X9, by simp, rfl, rfl, (fun h => by cases h), ⟨rfl, B9, p9.from hh0, f9⟩, fun fs hl => c11.trans (X9.ireturnOut hexec hret rfl (Or.inl rfl) (hb hbytes d46) hl)⟩
end Cmp5
namespace Cmp3
def yN : MethodName := ⟨"java/lang/StringUTF16", "compress", "([CII)[B"⟩
abbrev yB : ByteArray := jdk_52_method_16_code
theorem d0 : decode yB 0 = .ok (.iload_n 2, 1) := by decide +kernel
theorem d1 : decode yB 1 = .ok (.newarray .byte, 2) := by decide +kernel
theorem d3 : decode yB 3 = .ok (.astore_n 3, 1) := by decide +kernel
theorem d4 : decode yB 4 = .ok (.aload_n 0, 1) := by decide +kernel
theorem d5 : decode yB 5 = .ok (.iload_n 1, 1) := by decide +kernel
theorem d6 : decode yB 6 = .ok (.aload_n 3, 1) := by decide +kernel
theorem d7 : decode yB 7 = .ok (.iconst 0, 1) := by decide +kernel
theorem d8 : decode yB 8 = .ok (.iload_n 2, 1) := by decide +kernel
theorem d9 : decode yB 9 = .ok (.invokestatic 115, 3) := by decide +kernel
theorem d12 : decode yB 12 = .ok (.istore 4, 2) := by decide +kernel
theorem d14 : decode yB 14 = .ok (.iload 4, 2) := by decide +kernel
theorem d16 : decode yB 16 = .ok (.iload_n 2, 1) := by decide +kernel
theorem d17 : decode yB 17 = .ok (.if_icmp (.eq) 40, 3) := by decide +kernel
theorem d57 : decode yB 57 = .ok (.aload_n 3, 1) := by decide +kernel
theorem d58 : decode yB 58 = .ok (.areturn, 1) := by decide +kernel
def site : List Cond := [.arrayClass .byte, Cmp5.tab] ++ staticW U16 115 Cmp5.yN
def tab : Cond := tabOf yN yB 6 (some (.array .byte)) site
def P (b : Addr) (A : Cell) (o len : Nat) (args : Array Value) (s : State) : Prop := args = #[.ref b, .int (Int32.ofNat o), .int (Int32.ofNat len)] ∧ Ch b A s ∧ o + len ≤ A.slots.size ∧ len ≤ 536870912 ∧ ∀ i, i < len → ¬ 255 < cv A (o + i)
def E (b : Addr) (A : Cell) (o len : Nat) (r : Option Value) (s u : State) : Prop := NewArr .byte "[B" len (fun j => .int (lo8 (cv A (o + j)))) r s u ∧ u.heap.size = s.heap.size + 1
/-- no char of the range above 255: a new byte[] of their low bytes -/
theorem law (l : Launch) (b : Addr) (A : Cell) (o len : Nat) : Law l yN 3 3 1 18 yB 6 (some (.array .byte)) site (P b A o len) (E b A o len) [] 1 len := by
  refine Law.of_walk (plainFor_of_name (by decide +kernel)) (by decide +kernel) (by decide +kernel) (by decide) (fun _ _ h => by rw [h.1]; rfl) (fun _ U U' hal hh h => ⟨h.1, h.2.1.mv hal hh, h.2.2⟩) (fun r U U' V V' h1 hal h2 h => ⟨NewArr.mv r U U' V V' h1 hal h2 h.1, by rw [h1, h2]; exact h.2⟩) ?_
  intro p e s m args below meth c s₁ X0 hexec hbytes hml hret hlk hnm hown hh0 W hP
  obtain ⟨rfl, hA, l1, l2, hp⟩ := hP
  have a31 := hA.1.2.2.2
  have c1 : Steps p.tables e below (s₁.setTop (entryFrame m #[.ref b, .int (Int32.ofNat o), .int (Int32.ofNat len)] 6)) (s₁.setTop (mkF m 0 #[.val (.ref b), .val (.int (Int32.ofNat o)), .val (.int (Int32.ofNat len)), .unset, .unset, .unset] [])) := entry rfl
  have c2 : Steps p.tables e below (s₁.setTop (entryFrame m #[.ref b, .int (Int32.ofNat o), .int (Int32.ofNat len)] 6)) (s₁.setTop (mkF m 1 #[.val (.ref b), .val (.int (Int32.ofNat o)), .val (.int (Int32.ofNat len)), .unset, .unset, .unset] [.int (Int32.ofNat len)])) := c1.trans (by
    refine XS.iloadN X0.here hexec rfl (hb hbytes d0) rfl ?_
    exact Steps.refl _)
  obtain ⟨T3, B3, X3, ba3, bs3, bv3, bh3, bf3, st3⟩ := X0.anew hexec (atype := .byte) (wk W (.arrayClass .byte)) rfl (by show len * 1 ≤ _; omega) (by omega) (g := (mkF m 1 #[.val (.ref b), .val (.int (Int32.ofNat o)), .val (.int (Int32.ofNat len)), .unset, .unset, .unset] [.int (Int32.ofNat len)])) rfl (hb hbytes d1) (rest := []) rfl (Nat.le_refl _) (by show 0 + len ≤ len; omega)
  rw [hh0] at ba3 st3
  have kp3 : XT.Kept s T3 := (XT.Kept.of_eq hh0).push bh3
  have hA3 := hA.keep X3.warmed.alike (kp3 _ _ hA.1.1)
  have hne : b ≠ s.heap.size := hA.1.ne
  have c4 : Steps p.tables e below (s₁.setTop (entryFrame m #[.ref b, .int (Int32.ofNat o), .int (Int32.ofNat len)] 6)) (T3.setTop (mkF m 3 #[.val (.ref b), .val (.int (Int32.ofNat o)), .val (.int (Int32.ofNat len)), .unset, .unset, .unset] [.ref s.heap.size])) := c2.trans (st3 _ (Steps.refl _))
  have c5 : Steps p.tables e below (s₁.setTop (entryFrame m #[.ref b, .int (Int32.ofNat o), .int (Int32.ofNat len)] 6)) (T3.setTop (mkF m 9 #[.val (.ref b), .val (.int (Int32.ofNat o)), .val (.int (Int32.ofNat len)), .val (.ref s.heap.size), .unset, .unset] [.int (Int32.ofNat len), .int 0, .ref s.heap.size, .int (Int32.ofNat o), .ref b])) := c4.trans (by
    refine XS.astoreN X3.here hexec rfl (hb hbytes d3) rfl rfl rfl ?_
    refine XS.aloadN X3.here hexec rfl (hb hbytes d4) rfl rfl ?_
    refine XS.iloadN X3.here hexec rfl (hb hbytes d5) rfl ?_
    refine XS.aloadN X3.here hexec rfl (hb hbytes d6) rfl rfl ?_
    refine iconstV X3.here hexec rfl 0 (hb hbytes d7) (by decide) ?_
    refine XS.iloadN X3.here hexec rfl (hb hbytes d8) rfl ?_
    exact Steps.refl _)
  obtain ⟨v6, T6, X6, E6, g6⟩ := X3.callS hexec (Cmp5.law l b A s.heap.size B3 o 0 len) hown (wks W (staticW U16 115 Cmp5.yN)) (wk W Cmp5.tab) (W := 0) (Nat.le_of_ble_eq_true rfl) (Nat.le_of_ble_eq_true rfl) (Nat.le_refl _) (by show 0 + len + 0 ≤ len; omega) (g := (mkF m 9 #[.val (.ref b), .val (.int (Int32.ofNat o)), .val (.int (Int32.ofNat len)), .val (.ref s.heap.size), .unset, .unset] [.int (Int32.ofNat len), .int (Int32.ofNat 0), .ref s.heap.size, .int (Int32.ofNat o), .ref b])) rfl (by rw [hml]; rfl) c5 (argsL := [.ref b, .int (Int32.ofNat o), .ref s.heap.size, .int (Int32.ofNat 0), .int (Int32.ofNat len)]) (rest := []) rfl rfl (by show 2 * 0 + 0 ≤ _; decide) (hb hbytes d9) (⟨rfl, hA3, ba3, hne, l1, by rw [bs3]; simp, hp⟩)
  obtain ⟨rfl, B6, p6, f6⟩ := E6
  have c7 : Steps p.tables e below (s₁.setTop (entryFrame m #[.ref b, .int (Int32.ofNat o), .int (Int32.ofNat len)] 6)) (T6.setTop (mkF m 12 #[.val (.ref b), .val (.int (Int32.ofNat o)), .val (.int (Int32.ofNat len)), .val (.ref s.heap.size), .unset, .unset] [.int (Int32.ofNat len)])) := g6
  have c8 : Steps p.tables e below (s₁.setTop (entryFrame m #[.ref b, .int (Int32.ofNat o), .int (Int32.ofNat len)] 6)) (T6.setTop (mkF m 58 #[.val (.ref b), .val (.int (Int32.ofNat o)), .val (.int (Int32.ofNat len)), .val (.ref s.heap.size), .val (.int (Int32.ofNat len)), .unset] [.ref s.heap.size])) := c7.trans (by
    refine XS.istore X6.here hexec rfl (hb hbytes d12) rfl rfl ?_
    refine XS.iload X6.here hexec rfl (hb hbytes d14) rfl ?_
    refine XS.iloadN X6.here hexec rfl (hb hbytes d16) rfl ?_
    refine XS.icmpYes X6.here hexec rfl (pc0 := 17) rfl (hb hbytes d17) rfl (ii_eq_t rfl) (by decide) rfl ?_
    refine XS.aloadN X6.here hexec rfl (hb hbytes d57) rfl rfl ?_
    exact Steps.refl _)
  have X8 := X6.wide (L' := []) (cells' := 1) (slots' := len) (fun x hx hlt => by
    simp only [List.nil_append, copyLocs, List.mem_map, List.mem_range] at hx
    obtain ⟨i, -, rfl⟩ := hx
    exact absurd hlt (Nat.lt_irrefl _)) (Nat.le_refl _) (by omega)
  exact ⟨T6, some (.ref s.heap.size), _, _, _, X8, rfl, rfl, rfl, (fun h => by cases h), ⟨⟨rfl, B6, ba3.like (X3.warmed.alike.symm.trans X6.warmed.alike) p6.1 f6.1 f6.2.1 f6.2.2.1, f6.2.1.trans bv3, by rw [X6.warmed.alike.findClass, f6.1]; exact bf3, by rw [f6.2.2.1, bs3]; simp, fun j hj => by rw [f6.2.2.2 j, if_pos (by omega)]; rfl, kp3.put p6 (Nat.le_refl _)⟩, by rw [p6.2.2, bh3, hh0]; simp⟩, fun fs hl => c8.trans (X8.areturnOut hexec rfl hret rfl (hb hbytes d58) hl)⟩
end Cmp3
namespace CodL
def yN : MethodName := ⟨"java/lang/StringUTF16", "coderFromArrayLen", "([BI)B"⟩
abbrev yB : ByteArray := jdk_52_method_15_code
theorem d0 : decode yB 0 = .ok (.iload_n 1, 1) := by decide +kernel
theorem d1 : decode yB 1 = .ok (.aload_n 0, 1) := by decide +kernel
theorem d2 : decode yB 2 = .ok (.arraylength, 1) := by decide +kernel
theorem d3 : decode yB 3 = .ok (.isub, 1) := by decide +kernel
theorem d4 : decode yB 4 = .ok (.bipush 31, 2) := by decide +kernel
theorem d6 : decode yB 6 = .ok (.iushr, 1) := by decide +kernel
theorem d7 : decode yB 7 = .ok (.i2b, 1) := by decide +kernel
theorem d8 : decode yB 8 = .ok (.ireturn, 1) := by decide +kernel
def site : List Cond := []
def tab : Cond := tabOf yN yB 2 (some .byte) site
def P (d : Addr) (B : Cell) (args : Array Value) (s : State) : Prop := args = #[.ref d, .int (Int32.ofNat B.slots.size)] ∧ Arr .byte d B s
def E (r : Option Value) (s u : State) : Prop := XT.PureE (some (.int 0)) r s u
/-- an array as long as the number of chars: LATIN1 -/
theorem law (l : Launch) (d : Addr) (B : Cell) : Law l yN 2 2 0 0 yB 2 (some .byte) site (P d B) E [] 0 0 := by
  refine Law.of_walk (plainFor_of_name (by decide +kernel)) (by decide +kernel) (by decide +kernel) (by decide) (fun _ _ h => by rw [h.1]; rfl) (fun _ U U' hal hh h => ⟨h.1, h.2.mv hal hh⟩) (fun r U U' V V' h1 hal h2 h => XT.PureE.mv r U U' V V' h1 hal h2 h) ?_
  intro p e s m args below meth c s₁ X0 hexec hbytes hml hret hlk hnm hown hh0 W hP
  obtain ⟨rfl, hB⟩ := hP
  have hB0 := hB.mv X0.warmed.alike hh0
  have c1 : Steps p.tables e below (s₁.setTop (entryFrame m #[.ref d, .int (Int32.ofNat B.slots.size)] 2)) (s₁.setTop (mkF m 0 #[.val (.ref d), .val (.int (Int32.ofNat B.slots.size))] [])) := entry rfl
  have c2 : Steps p.tables e below (s₁.setTop (entryFrame m #[.ref d, .int (Int32.ofNat B.slots.size)] 2)) (s₁.setTop (mkF m 2 #[.val (.ref d), .val (.int (Int32.ofNat B.slots.size))] [.ref d, .int (Int32.ofNat B.slots.size)])) := c1.trans (by
    refine XS.iloadN X0.here hexec rfl (hb hbytes d0) rfl ?_
    refine XS.aloadN X0.here hexec rfl (hb hbytes d1) rfl rfl ?_
    exact Steps.refl _)
  have c3 : Steps p.tables e below (s₁.setTop (entryFrame m #[.ref d, .int (Int32.ofNat B.slots.size)] 2)) (s₁.setTop (mkF m 8 #[.val (.ref d), .val (.int (Int32.ofNat B.slots.size))] [.int (lo8 (ushr (Int32.ofNat B.slots.size - Int32.ofNat B.slots.size) 31))])) := c2.trans (by
    refine X0.alen hexec hB0 rfl rfl (hb hbytes d2) ?_
    refine XS.isub X0.here hexec rfl (hb hbytes d3) rfl ?_
    refine bipushV X0.here hexec rfl 31 (hb hbytes d4) (by decide) ?_
    refine iushr X0.here hexec rfl (hb hbytes d6) rfl ?_
    refine i2b X0.here hexec rfl (hb hbytes d7) rfl ?_
    exact Steps.refl _)
  have e0 : lo8 (ushr (Int32.ofNat B.slots.size - Int32.ofNat B.slots.size) 31) = 0 := by rw [Int32.sub_self]; decide
  rw [e0] at c3
  exact ⟨s₁, some (.int 0), _, _, _, X0, rfl, rfl, rfl, (fun h => by cases h), ⟨rfl, hh0⟩, fun fs hl => c3.trans (X0.ireturnOut hexec hret rfl (Or.inr (Or.inr (Or.inl rfl))) (hb hbytes d8) hl)⟩
end CodL
/-- the String at a is Latin-1 over a new byte[] (the heap's one new cell): the low bytes of the len chars of A from o on; every cell but a is kept -/
def Got (a : Addr) (D : Cell) (fV fC : Field) (A : Cell) (o len : Nat) (r : Option Value) (s u : State) : Prop := r = none ∧ ∃ D' V : Cell, Blank "java/lang/String" a D' u ∧ Same D D' [fV.slot, fC.slot] ∧ D'.slots[fV.slot]? = some (.ref s.heap.size) ∧ D'.slots[fC.slot]? = some (.int 0) ∧ Arr .byte s.heap.size V u ∧ V.vm = .none ∧ u.vm.findClass "[B" = some V.cls ∧ V.slots.size = len ∧ (∀ j, j < len → V.slots[j]? = some (.int (lo8 (cv A (o + j))))) ∧ (∀ (y : Addr) (c : Cell), y ≠ a → s.heap[y]? = some c → u.heap[y]? = some c) ∧ u.heap.size = s.heap.size + 1
theorem Got.mv {a : Addr} {D A : Cell} {fV fC : Field} {o len : Nat} : ∀ r (U U' V V' : State), U'.heap = U.heap → V.vm.Alike V'.vm → V'.heap = V.heap → Got a D fV fC A o len r U V → Got a D fV fC A o len r U' V' :=
  fun r U U' V V' h1 hal h2 ⟨e0, D', X, a1, a2, a3, a4, a5, a6, a7, a8, a9, a10, a11⟩ => ⟨e0, D', X, a1.mv hal h2, a2, by rw [h1]; exact a3, a4, by rw [h1]; exact a5.mv hal h2, a6, by rw [hal.findClass]; exact a7, a8, a9, by rw [h1, h2]; exact a10, by rw [h1, h2]; exact a11⟩
namespace New4
def yN : MethodName := ⟨"java/lang/String", "<init>", "([CIILjava/lang/Void;)V"⟩
abbrev yB : ByteArray := jdk_42_method_149_code
theorem d0 : decode yB 0 = .ok (.aload_n 0, 1) := by decide +kernel
theorem d1 : decode yB 1 = .ok (.invokespecial 1, 3) := by decide +kernel
theorem d4 : decode yB 4 = .ok (.iload_n 3, 1) := by decide +kernel
theorem d5 : decode yB 5 = .ok (.ifCond (.ne) 22, 3) := by decide +kernel
theorem d27 : decode yB 27 = .ok (.getstatic 38, 3) := by decide +kernel
theorem d30 : decode yB 30 = .ok (.ifCond (.eq) 28, 3) := by decide +kernel
theorem d33 : decode yB 33 = .ok (.aload_n 1, 1) := by decide +kernel
theorem d34 : decode yB 34 = .ok (.iload_n 2, 1) := by decide +kernel
theorem d35 : decode yB 35 = .ok (.iload_n 3, 1) := by decide +kernel
theorem d36 : decode yB 36 = .ok (.invokestatic 177, 3) := by decide +kernel
theorem d39 : decode yB 39 = .ok (.astore 5, 2) := by decide +kernel
theorem d41 : decode yB 41 = .ok (.aload_n 0, 1) := by decide +kernel
theorem d42 : decode yB 42 = .ok (.aload 5, 2) := by decide +kernel
theorem d44 : decode yB 44 = .ok (.iload_n 3, 1) := by decide +kernel
theorem d45 : decode yB 45 = .ok (.invokestatic 47, 3) := by decide +kernel
theorem d48 : decode yB 48 = .ok (.putfield 15, 3) := by decide +kernel
theorem d51 : decode yB 51 = .ok (.aload_n 0, 1) := by decide +kernel
theorem d52 : decode yB 52 = .ok (.aload 5, 2) := by decide +kernel
theorem d54 : decode yB 54 = .ok (.putfield 9, 3) := by decide +kernel
theorem d57 : decode yB 57 = .ok (.return_, 1) := by decide +kernel
def site : List Cond := [.fieldLink "java/lang/String" 38 "java/lang/String" "COMPACT_STRINGS" "Z", Cmp3.tab, CodL.tab, .laysFinal "java/lang/String" "java/lang/String" "value" "[B", .fieldLink "java/lang/String" 9 "java/lang/String" "value" "[B", .laysFinal "java/lang/String" "java/lang/String" "coder" "B", .fieldLink "java/lang/String" 15 "java/lang/String" "coder" "B"] ++ objW "java/lang/String" 1 ++ staticW "java/lang/String" 177 Cmp3.yN ++ staticW "java/lang/String" 47 CodL.yN
def tab : Cond := tabOf yN yB 6 none site
def P (a : Addr) (D : Cell) (fV fC : Field) (b : Addr) (A : Cell) (z : Int32) (o len : Nat) (args : Array Value) (s : State) : Prop := args = #[.ref a, .ref b, .int (Int32.ofNat o), .int (Int32.ofNat len), .null] ∧ Blank "java/lang/String" a D s ∧ Found "java/lang/String" "value" "[B" fV s ∧ Found "java/lang/String" "coder" "B" fC s ∧ Ch b A s ∧ StaticIs s "java/lang/String" "COMPACT_STRINGS" "Z" (.int z) ∧ ¬ z = 0 ∧ 0 < len ∧ o + len ≤ A.slots.size ∧ len ≤ 536870912 ∧ ∀ i, i < len → ¬ 255 < cv A (o + i)
def E (a : Addr) (D : Cell) (fV fC : Field) (A : Cell) (o len : Nat) (r : Option Value) (s u : State) : Prop := Got a D fV fC A o len r s u
/-- len > 0, no char of the range above 255: a Latin-1 String of their low bytes -/
theorem law (l : Launch) (a : Addr) (D : Cell) (fV fC : Field) (b : Addr) (A : Cell) (z : Int32) (o len : Nat) : Law l yN 5 4 2 35 yB 6 none site (P a D fV fC b A z o len) (E a D fV fC A o len) [⟨a, fC.slot⟩, ⟨a, fV.slot⟩] 1 len := by
  refine Law.of_walk (plainFor_of_name (by decide +kernel)) (by decide +kernel) (by decide +kernel) (by decide) (fun _ _ h => by rw [h.1]; rfl) (fun _ U U' hal hh h => ⟨h.1, h.2.1.mv hal hh, h.2.2.1.al hal, h.2.2.2.1.al hal, h.2.2.2.2.1.mv hal hh, h.2.2.2.2.2.1.there hal hh, h.2.2.2.2.2.2⟩) (fun r U U' V V' h1 hal h2 h => Got.mv r U U' V V' h1 hal h2 h) ?_
  intro p e s m args below meth c s₁ X0 hexec hbytes hml hret hlk hnm hown hh0 W hP
  obtain ⟨rfl, hB, f1, f2, hA, s1, hz, l0, l1, l2, hp⟩ := hP
  have a31 := hA.1.2.2.2
  have c1 : Steps p.tables e below (s₁.setTop (entryFrame m #[.ref a, .ref b, .int (Int32.ofNat o), .int (Int32.ofNat len), .null] 6)) (s₁.setTop (mkF m 0 #[.val (.ref a), .val (.ref b), .val (.int (Int32.ofNat o)), .val (.int (Int32.ofNat len)), .val .null, .unset] [])) := entry rfl
  have c2 : Steps p.tables e below (s₁.setTop (entryFrame m #[.ref a, .ref b, .int (Int32.ofNat o), .int (Int32.ofNat len), .null] 6)) (s₁.setTop (mkF m 1 #[.val (.ref a), .val (.ref b), .val (.int (Int32.ofNat o)), .val (.int (Int32.ofNat len)), .val .null, .unset] [.ref a])) := c1.trans (by
    refine XS.aloadN X0.here hexec rfl (hb hbytes d0) rfl rfl ?_
    exact Steps.refl _)
  obtain ⟨T3, X3, q3, st3⟩ := X0.oinit hexec hown (wks W (objW "java/lang/String" 1)) (g := (mkF m 1 #[.val (.ref a), .val (.ref b), .val (.int (Int32.ofNat o)), .val (.int (Int32.ofNat len)), .val .null, .unset] [.ref a])) rfl (by rw [hml]; rfl) (rest := []) rfl (hb hbytes d1) (W := 0) (by show 2 * 0 + 0 ≤ _; decide) (Nat.le_of_ble_eq_true rfl) (Nat.le_of_ble_eq_true rfl)
  have hh3 := q3.trans hh0
  have c4 : Steps p.tables e below (s₁.setTop (entryFrame m #[.ref a, .ref b, .int (Int32.ofNat o), .int (Int32.ofNat len), .null] 6)) (T3.setTop (mkF m 27 #[.val (.ref a), .val (.ref b), .val (.int (Int32.ofNat o)), .val (.int (Int32.ofNat len)), .val .null, .unset] [])) := (c2.trans (st3 _ (Steps.refl _))).trans (by
    refine XS.iloadN X3.here hexec rfl (hb hbytes d4) rfl ?_
    refine XS.ifYes X3.here hexec rfl (pc0 := 5) rfl (hb hbytes d5) rfl (i0_ne_t (nz32 (by omega) l0)) (by decide) rfl ?_
    exact Steps.refl _)
  obtain ⟨T5, X5, q5, st5⟩ := X3.sget hexec hown (wk W (.fieldLink "java/lang/String" 38 "java/lang/String" "COMPACT_STRINGS" "Z")) s1 (fun _ _ h => by rw [hh3]; exact h) (g := (mkF m 27 #[.val (.ref a), .val (.ref b), .val (.int (Int32.ofNat o)), .val (.int (Int32.ofNat len)), .val .null, .unset] [])) rfl (hb hbytes d27)
  have hh5 := q5.trans hh3
  have c6 : Steps p.tables e below (s₁.setTop (entryFrame m #[.ref a, .ref b, .int (Int32.ofNat o), .int (Int32.ofNat len), .null] 6)) (T5.setTop (mkF m 30 #[.val (.ref a), .val (.ref b), .val (.int (Int32.ofNat o)), .val (.int (Int32.ofNat len)), .val .null, .unset] [.int z])) := c4.trans (st5 _ (Steps.refl _))
  have c7 : Steps p.tables e below (s₁.setTop (entryFrame m #[.ref a, .ref b, .int (Int32.ofNat o), .int (Int32.ofNat len), .null] 6)) (T5.setTop (mkF m 36 #[.val (.ref a), .val (.ref b), .val (.int (Int32.ofNat o)), .val (.int (Int32.ofNat len)), .val .null, .unset] [.int (Int32.ofNat len), .int (Int32.ofNat o), .ref b])) := c6.trans (by
    refine XS.ifNo X5.here hexec rfl (hb hbytes d30) rfl (i0_eq_f hz) ?_
    refine XS.aloadN X5.here hexec rfl (hb hbytes d33) rfl rfl ?_
    refine XS.iloadN X5.here hexec rfl (hb hbytes d34) rfl ?_
    refine XS.iloadN X5.here hexec rfl (hb hbytes d35) rfl ?_
    exact Steps.refl _)
  obtain ⟨v8, T8, X8, E8, g8⟩ := X5.callS hexec (Cmp3.law l b A o len) hown (wks W (staticW "java/lang/String" 177 Cmp3.yN)) (wk W Cmp3.tab) (W := 0) (Nat.le_of_ble_eq_true rfl) (Nat.le_of_ble_eq_true rfl) (Nat.le_refl _) (by show 0 + len ≤ len; omega) (g := (mkF m 36 #[.val (.ref a), .val (.ref b), .val (.int (Int32.ofNat o)), .val (.int (Int32.ofNat len)), .val .null, .unset] [.int (Int32.ofNat len), .int (Int32.ofNat o), .ref b])) rfl (by rw [hml]; rfl) c7 (argsL := [.ref b, .int (Int32.ofNat o), .int (Int32.ofNat len)]) (rest := []) rfl rfl (by show 2 * 0 + 0 ≤ _; decide) (hb hbytes d36) (⟨rfl, hA.mv X5.warmed.alike hh5, l1, l2, hp⟩)
  obtain ⟨e8, z8⟩ := E8
  obtain ⟨rfl, N, n1, n2, n3, n4, n5, n6⟩ := NewArr.mv _ T5 s _ _ hh5.symm (Vm.Alike.refl _) rfl e8
  rw [hh5] at z8
  have hB1 := hB.keep X8.warmed.alike (n6 _ _ hB.1)
  have hne : s.heap.size ≠ a := (Nat.ne_of_lt (Array.getElem?_eq_some_iff.mp hB.1).1).symm
  have c9 : Steps p.tables e below (s₁.setTop (entryFrame m #[.ref a, .ref b, .int (Int32.ofNat o), .int (Int32.ofNat len), .null] 6)) (T8.setTop (mkF m 39 #[.val (.ref a), .val (.ref b), .val (.int (Int32.ofNat o)), .val (.int (Int32.ofNat len)), .val .null, .unset] [.ref s.heap.size])) := g8
  have c10 : Steps p.tables e below (s₁.setTop (entryFrame m #[.ref a, .ref b, .int (Int32.ofNat o), .int (Int32.ofNat len), .null] 6)) (T8.setTop (mkF m 45 #[.val (.ref a), .val (.ref b), .val (.int (Int32.ofNat o)), .val (.int (Int32.ofNat len)), .val .null, .val (.ref s.heap.size)] [.int (Int32.ofNat N.slots.size), .ref s.heap.size, .ref a])) := by
    have hc : Steps p.tables e below (s₁.setTop (entryFrame m #[.ref a, .ref b, .int (Int32.ofNat o), .int (Int32.ofNat len), .null] 6)) (T8.setTop (mkF m 45 #[.val (.ref a), .val (.ref b), .val (.int (Int32.ofNat o)), .val (.int (Int32.ofNat len)), .val .null, .val (.ref s.heap.size)] [.int (Int32.ofNat len), .ref s.heap.size, .ref a])) := c9.trans (by
      refine XS.astore X8.here hexec rfl (hb hbytes d39) rfl rfl rfl ?_
      refine XS.aloadN X8.here hexec rfl (hb hbytes d41) rfl rfl ?_
      refine XS.aload X8.here hexec rfl (hb hbytes d42) rfl rfl ?_
      refine XS.iloadN X8.here hexec rfl (hb hbytes d44) rfl ?_
      exact Steps.refl _)
    rw [n4]; exact hc
  obtain ⟨v11, T11, X11, E11, g11⟩ := X8.callS hexec (CodL.law l s.heap.size N) hown (wks W (staticW "java/lang/String" 47 CodL.yN)) (wk W CodL.tab) (W := 1) (Nat.le_of_ble_eq_true rfl) (Nat.le_of_ble_eq_true rfl) (Nat.le_refl _) (by show 0 + len + 0 ≤ len; omega) (g := (mkF m 45 #[.val (.ref a), .val (.ref b), .val (.int (Int32.ofNat o)), .val (.int (Int32.ofNat len)), .val .null, .val (.ref s.heap.size)] [.int (Int32.ofNat N.slots.size), .ref s.heap.size, .ref a])) rfl (by rw [hml]; rfl) c10 (argsL := [.ref s.heap.size, .int (Int32.ofNat N.slots.size)]) (rest := [.ref a]) rfl rfl (by show 2 * 0 + (1 + 0) ≤ _; decide) (hb hbytes d45) (⟨rfl, n1⟩)
  obtain ⟨rfl, q11⟩ := E11
  have hB11 := hB1.mv (X8.warmed.alike.symm.trans X11.warmed.alike) q11
  have c12 : Steps p.tables e below (s₁.setTop (entryFrame m #[.ref a, .ref b, .int (Int32.ofNat o), .int (Int32.ofNat len), .null] 6)) (T11.setTop (mkF m 48 #[.val (.ref a), .val (.ref b), .val (.int (Int32.ofNat o)), .val (.int (Int32.ofNat len)), .val .null, .val (.ref s.heap.size)] [.int 0, .ref a])) := g11
  obtain ⟨T13, X13, p13, bl13, sl13, st13⟩ := X11.finit hexec hown (wk W (.fieldLink "java/lang/String" 15 "java/lang/String" "coder" "B")) (Or.inr ⟨_, (wk W (.laysFinal "java/lang/String" "java/lang/String" "coder" "B"))⟩) (Or.inl ⟨rfl, hnm⟩) f2 (Or.inl rfl) hB11 (t := .byte) (by decide +kernel) rfl (g := (mkF m 48 #[.val (.ref a), .val (.ref b), .val (.int (Int32.ofNat o)), .val (.int (Int32.ofNat len)), .val .null, .val (.ref s.heap.size)] [.int 0, .ref a])) rfl (rest := []) rfl (hb hbytes d48)
  have c14 : Steps p.tables e below (s₁.setTop (entryFrame m #[.ref a, .ref b, .int (Int32.ofNat o), .int (Int32.ofNat len), .null] 6)) (T13.setTop (mkF m 54 #[.val (.ref a), .val (.ref b), .val (.int (Int32.ofNat o)), .val (.int (Int32.ofNat len)), .val .null, .val (.ref s.heap.size)] [.ref s.heap.size, .ref a])) := (c12.trans (st13 _ (Steps.refl _))).trans (by
    refine XS.aloadN X13.here hexec rfl (hb hbytes d51) rfl rfl ?_
    refine XS.aload X13.here hexec rfl (hb hbytes d52) rfl rfl ?_
    exact Steps.refl _)
  obtain ⟨T15, X15, p15, bl15, sl15, st15⟩ := X13.finit hexec hown (wk W (.fieldLink "java/lang/String" 9 "java/lang/String" "value" "[B")) (Or.inr ⟨_, (wk W (.laysFinal "java/lang/String" "java/lang/String" "value" "[B"))⟩) (Or.inl ⟨rfl, hnm⟩) f1 (Or.inl rfl) bl13 (t := (.array .byte)) (by decide +kernel) rfl (g := (mkF m 54 #[.val (.ref a), .val (.ref b), .val (.int (Int32.ofNat o)), .val (.int (Int32.ofNat len)), .val .null, .val (.ref s.heap.size)] [.ref s.heap.size, .ref a])) rfl (rest := []) rfl (hb hbytes d54)
  have c16 : Steps p.tables e below (s₁.setTop (entryFrame m #[.ref a, .ref b, .int (Int32.ofNat o), .int (Int32.ofNat len), .null] 6)) (T15.setTop (mkF m 57 #[.val (.ref a), .val (.ref b), .val (.int (Int32.ofNat o)), .val (.int (Int32.ofNat len)), .val .null, .val (.ref s.heap.size)] [])) := c14.trans (st15 _ (Steps.refl _))
  have ap := apart (Or.inr ⟨_, (wk W (.laysFinal "java/lang/String" "java/lang/String" "value" "[B"))⟩) (Or.inr ⟨_, (wk W (.laysFinal "java/lang/String" "java/lang/String" "coder" "B"))⟩) f1 f2 (t₁ := .array .byte) (t₂ := .byte) (by decide +kernel) (by decide +kernel) (by decide)
  have al := X8.warmed.alike.symm.trans X15.warmed.alike
  have n7 : T11.heap[s.heap.size]? = some N := by rw [q11]; exact n1.1
  exact ⟨T15, none, _, _, _, X15, by simp, rfl, by omega, (fun _ => rfl), ⟨rfl, _, N, bl15, ((Same.refl D _).set _ (by simp)).set _ (by simp), sl15, (Cell.slots_setSlot_ne _ ap).trans sl13, n1.keep al (p15.other hne (p13.other hne n7)), n2, by rw [al.findClass]; exact n3, n4, n5, fun y c h1 h2 => p15.other h1 (p13.other h1 (by rw [q11]; exact n6 y c h2)), by rw [p15.2.2, p13.2.2, q11]; exact z8⟩, fun fs hl => c16.trans (X15.returnOut hexec hret (hb hbytes d57) hl)⟩
end New4
namespace New1
def yN : MethodName := ⟨"java/lang/String", "<init>", "([C)V"⟩
abbrev yB : ByteArray := jdk_42_method_3_code
theorem d0 : decode yB 0 = .ok (.aload_n 0, 1) := by decide +kernel
theorem d1 : decode yB 1 = .ok (.aload_n 1, 1) := by decide +kernel
theorem d2 : decode yB 2 = .ok (.iconst 0, 1) := by decide +kernel
theorem d3 : decode yB 3 = .ok (.aload_n 1, 1) := by decide +kernel
theorem d4 : decode yB 4 = .ok (.arraylength, 1) := by decide +kernel
theorem d5 : decode yB 5 = .ok (.aconst_null, 1) := by decide +kernel
theorem d6 : decode yB 6 = .ok (.invokespecial 27, 3) := by decide +kernel
theorem d9 : decode yB 9 = .ok (.return_, 1) := by decide +kernel
def site : List Cond := [New4.tab] ++ initW "java/lang/String" 27 New4.yN
def tab : Cond := tabOf yN yB 2 none site
def P (a : Addr) (D : Cell) (fV fC : Field) (b : Addr) (A : Cell) (z : Int32) (args : Array Value) (s : State) : Prop := args = #[.ref a, .ref b] ∧ Blank "java/lang/String" a D s ∧ Found "java/lang/String" "value" "[B" fV s ∧ Found "java/lang/String" "coder" "B" fC s ∧ Ch b A s ∧ StaticIs s "java/lang/String" "COMPACT_STRINGS" "Z" (.int z) ∧ ¬ z = 0 ∧ 0 < A.slots.size ∧ A.slots.size ≤ 536870912 ∧ ∀ i, i < A.slots.size → ¬ 255 < cv A i
def E (a : Addr) (D : Cell) (fV fC : Field) (A : Cell) (r : Option Value) (s u : State) : Prop := Got a D fV fC A 0 A.slots.size r s u
/-- new String(chars), not empty, no char above 255: a Latin-1 String of their low bytes -/
theorem law (l : Launch) (a : Addr) (D : Cell) (fV fC : Field) (b : Addr) (A : Cell) (z : Int32) : Law l yN 2 1 3 52 yB 2 none site (P a D fV fC b A z) (E a D fV fC A) [⟨a, fC.slot⟩, ⟨a, fV.slot⟩] 1 A.slots.size := by
  refine Law.of_walk (plainFor_of_name (by decide +kernel)) (by decide +kernel) (by decide +kernel) (by decide) (fun _ _ h => by rw [h.1]; rfl) (fun _ U U' hal hh h => ⟨h.1, h.2.1.mv hal hh, h.2.2.1.al hal, h.2.2.2.1.al hal, h.2.2.2.2.1.mv hal hh, h.2.2.2.2.2.1.there hal hh, h.2.2.2.2.2.2⟩) (fun r U U' V V' h1 hal h2 h => Got.mv r U U' V V' h1 hal h2 h) ?_
  intro p e s m args below meth c s₁ X0 hexec hbytes hml hret hlk hnm hown hh0 W hP
  obtain ⟨rfl, hB, f1, f2, hA, s1, hz, l0, l2, hp⟩ := hP
  have c1 : Steps p.tables e below (s₁.setTop (entryFrame m #[.ref a, .ref b] 2)) (s₁.setTop (mkF m 0 #[.val (.ref a), .val (.ref b)] [])) := entry rfl
  have c2 : Steps p.tables e below (s₁.setTop (entryFrame m #[.ref a, .ref b] 2)) (s₁.setTop (mkF m 6 #[.val (.ref a), .val (.ref b)] [.null, .int (Int32.ofNat A.slots.size), .int 0, .ref b, .ref a])) := c1.trans (by
    refine XS.aloadN X0.here hexec rfl (hb hbytes d0) rfl rfl ?_
    refine XS.aloadN X0.here hexec rfl (hb hbytes d1) rfl rfl ?_
    refine iconstV X0.here hexec rfl 0 (hb hbytes d2) (by decide) ?_
    refine XS.aloadN X0.here hexec rfl (hb hbytes d3) rfl rfl ?_
    refine X0.alen hexec (hA.1.mv X0.warmed.alike hh0) rfl rfl (hb hbytes d4) ?_
    refine XS.aconstNull X0.here hexec rfl (hb hbytes d5) ?_
    exact Steps.refl _)
  obtain ⟨v3, T3, X3, E3, g3⟩ := X0.callN hexec (New4.law l a D fV fC b A z 0 A.slots.size) rfl hown (wks W (initW "java/lang/String" 27 New4.yN)) (W New4.tab (by simp only [site, List.mem_cons, List.mem_append, true_or, or_true])) (W := 0) (Nat.le_of_ble_eq_true rfl) (Nat.le_of_ble_eq_true rfl) (Nat.le_refl _) (by show 0 + A.slots.size ≤ A.slots.size; omega) (g := (mkF m 6 #[.val (.ref a), .val (.ref b)] [.null, .int (Int32.ofNat A.slots.size), .int (Int32.ofNat 0), .ref b, .ref a])) rfl (by rw [hml]; rfl) c2 (argsL := [.ref b, .int (Int32.ofNat 0), .int (Int32.ofNat A.slots.size), .null]) (rest := []) rfl rfl (by show 2 * 0 + 0 ≤ _; decide) (hb hbytes d6) (⟨rfl, hB.mv X0.warmed.alike hh0, f1.al X0.warmed.alike, f2.al X0.warmed.alike, hA.mv X0.warmed.alike hh0, s1.there X0.warmed.alike hh0, hz, l0, by omega, l2, fun i hi => by rw [Nat.zero_add]; exact hp i hi⟩)
  have e0 := Got.mv _ s₁ s _ _ hh0.symm (Vm.Alike.refl _) rfl E3
  obtain rfl := e0.1
  have c4 : Steps p.tables e below (s₁.setTop (entryFrame m #[.ref a, .ref b] 2)) (T3.setTop (mkF m 9 #[.val (.ref a), .val (.ref b)] [])) := g3
  exact ⟨T3, none, _, _, _, X3, by simp, rfl, by omega, (fun _ => rfl), e0, fun fs hl => c4.trans (X3.returnOut hexec hret (hb hbytes d9) hl)⟩
theorem pays {l : Launch} {R : Room} {p : Program} {e : Env} {below : List Frame} {s : State} {sargs : Array Value} {len W : Nat} (a : Addr) (D : Cell) (fV fC : Field) (b : Addr) (A : Cell) (z : Int32) (htab : tab.before sargs s = true) (hfr : 4 ≤ R.frames) (hlo : W + 65 ≤ R.locals) :
    Back l R p e below s sargs yN len W (fun A₁ a₁ => A₁.cells + 1 ≤ R.cells ∧ A₁.slots + A.slots.size ≤ R.slots ∧ P a D fV fC b A z a₁ A₁.U) (fun A₁ _ v₁ B₁ => E a D fV fC A v₁ A₁.U B₁.U ∧ B₁.locs = A₁.locs ++ [⟨a, fC.slot⟩, ⟨a, fV.slot⟩] ∧ B₁.cells = A₁.cells + 1 ∧ B₁.slots = A₁.slots + A.slots.size) :=
  (law l a D fV fC b A z).pays htab hfr (by omega)
end New1
end StrChars
namespace StrChars.Road
open Jvm Sem ClassFile Op Lib Jvm.Stand Jvm.Free Jvm.Free.XT
open Jvm.Lib.Cold (StaticIs)
abbrev ST : String := "java/lang/String"
/-- every table word that New1's law asks, flat -/
abbrev words : List Jvm.Cond := [.code New1.yN New1.yB 2 none, .initialized ST, .methodLink ST 27 New4.yN, .instanceMethod New4.yN,
  .code New4.yN New4.yB 6 none, .fieldLink ST 38 ST "COMPACT_STRINGS" "Z", .laysFinal ST ST "value" "[B", .fieldLink ST 9 ST "value" "[B", .laysFinal ST ST "coder" "B", .fieldLink ST 15 ST "coder" "B",
  .methodLink ST 1 Lib.objectInit, .instanceMethod Lib.objectInit, .code Lib.objectInit ⟨#[0xb1]⟩ 1 none, .methodLink ST 177 Cmp3.yN, .static Cmp3.yN, .methodLink ST 47 CodL.yN, .static CodL.yN,
  .code Cmp3.yN Cmp3.yB 6 (some (.array .byte)), .initialized U16, .arrayClass .byte, .methodLink U16 115 Cmp5.yN, .static Cmp5.yN, .code Cmp5.yN Cmp5.yB 7 (some .int), .code CodL.yN CodL.yB 2 (some .byte)]
theorem tab_of {a : Array Value} {s : State} (h : ∀ w ∈ words, w.before a s = true) : New1.tab.before a s = true := by
  have h5 : Cmp5.tab.before a s = true := unparts (wk h (.code Cmp5.yN Cmp5.yB 7 (some .int))) (wks h (.initialized Cmp5.yN.cls :: Cmp5.site))
  have hc : CodL.tab.before a s = true := unparts (wk h (.code CodL.yN CodL.yB 2 (some .byte))) (wks h (.initialized CodL.yN.cls :: CodL.site))
  have q5 : ∀ w ∈ Cmp5.tab :: words, w.before a s = true := fun w hw => (List.mem_cons.mp hw).elim (fun e => e ▸ h5) (h w)
  have h3 : Cmp3.tab.before a s = true := unparts (wk q5 (.code Cmp3.yN Cmp3.yB 6 (some (.array .byte)))) (wks q5 (.initialized Cmp3.yN.cls :: Cmp3.site))
  have q3 : ∀ w ∈ Cmp3.tab :: CodL.tab :: words, w.before a s = true := fun w hw => (List.mem_cons.mp hw).elim (fun e => e ▸ h3) fun hw => (List.mem_cons.mp hw).elim (fun e => e ▸ hc) (h w)
  have h4 : New4.tab.before a s = true := unparts (wk q3 (.code New4.yN New4.yB 6 none)) (wks q3 (.initialized New4.yN.cls :: New4.site))
  have q4 : ∀ w ∈ New4.tab :: words, w.before a s = true := fun w hw => (List.mem_cons.mp hw).elim (fun e => e ▸ h4) (h w)
  exact unparts (wk q4 (.code New1.yN New1.yB 2 none)) (wks q4 (.initialized New1.yN.cls :: New1.site))
/-- the words ride from the start Z to the walk's own state -/
theorem moved {Z s : State} {a0 args : Array Value} (hZ : Z.Warmed39 s.vm) (hw : ∀ d ∈ words, d.before a0 Z = true) : ∀ d ∈ words, d.before args s = true := fun d hd => by
  have q := hw d hd
  have t : ∀ d ∈ words, d = .arrayClass .byte ∨ (d.onTables && d.keepsFace) = true := by decide +kernel
  rcases t d hd with rfl | t
  · exact RoadKit.mvA hZ q
  · exact RoadKit.mv hZ q t
/-- WHAT COMES BACK, over the tables of the start Z: h the heap at the call, h' behind it -/
def Q (Z : State) (x : Addr) (A : Cell) (h : Heap) (v : Option Value) (h' : Heap) (L : List Loc) : Prop := v = none ∧ (∀ y ∈ L, y.base = x) ∧ RoadKit.Keep h h' [x] ∧ h'.size = h.size + 1 ∧ RoadKit.Exa Z h' x ST ∧ RoadKit.Fld Z h' x ST "value" "[B" (.ref h.size) ∧ RoadKit.Fld Z h' x ST "coder" "B" (.int 0) ∧
  (∃ V : Cell, RoadKit.Arr Z h' h.size V .byte ∧ V.vm = .none ∧ Z.vm.findClass "[B" = some V.cls ∧ V.slots.size = A.slots.size ∧ ∀ j, j < A.slots.size → V.slots[j]? = some (.int (lo8 (cv A j)))) ∧
  ∀ (O n d : String) (w : Value), RoadKit.Fld Z h x O n d w → RoadKit.slotOf Z O n d ≠ RoadKit.slotOf Z ST "value" "[B" → RoadKit.slotOf Z O n d ≠ RoadKit.slotOf Z ST "coder" "B" → RoadKit.Fld Z h' x O n d w
/-- **new String(chars) AT A CALL, IN THE ROAD'S FORM**: for specialBack behind newO: x the fresh String, b the char[] with the cell A -/
theorem back {p : Program} {l : Launch} {e : Env} {R : Room} {s : State} {args : Array Value} {below : List Frame} {len W : Nat} {Z : State} {a0 : Array Value} {h : Heap} (hZ : Z.Warmed39 s.vm) (hw : ∀ d ∈ words, d.before a0 Z = true) {kI : Nat} (wi : (Jvm.Cond.instantiable ST kI).before a0 Z = true)
    {x b : Addr} {A : Cell} {z : Int32} {v0 c0 : Value} (E : RoadKit.Exa Z h x ST) (V : RoadKit.Fld Z h x ST "value" "[B" v0) (C : RoadKit.Fld Z h x ST "coder" "B" c0) (K : RoadKit.Arr Z h b A .char) (hty : Typed .char A) (S : RoadKit.Sta Z h ST "COMPACT_STRINGS" "Z" (.int z)) (hz : ¬ z = 0)
    (l0 : 0 < A.slots.size) (l2 : A.slots.size ≤ 536870912) (hp : ∀ i, i < A.slots.size → ¬ 255 < cv A i) (hfr : 4 ≤ R.frames) (hlo : W + 65 ≤ R.locals) :
    Back l R p e below s args New1.yN len W (fun P a => a = #[.ref x, .ref b] ∧ P.U.heap = h ∧ P.cells + 1 ≤ R.cells ∧ P.slots + A.slots.size ≤ R.slots)
      (fun P _ v B => ∃ L, Q Z x A h v B.U.heap L ∧ B.locs = P.locs ++ L ∧ B.cells = P.cells + 1 ∧ B.slots = P.slots + A.slots.size) := by
  intro m meth c P g ig mk a X hg hsize hdg hW hn hp'
  obtain ⟨rfl, rfl, r1, r2⟩ := hp'
  have al : Z.vm.Alike P.U.vm := hZ.alike.trans X.warmed.alike
  obtain ⟨D, cfV, kV, iV, fV, hD, gV, stV, knV, obV, asV, slV⟩ := id V
  obtain ⟨D', cfC, kC, iC, fC, hD', gC, stC, -, -, asC, slC⟩ := id C
  cases hD.symm.trans hD'
  obtain ⟨D2, kD, e1, e2, e3, e4, e5⟩ := id E
  cases hD.symm.trans e1
  obtain ⟨c2, k2, i1, i2, i3, -⟩ := Cond.instantiable_spec wi
  cases e2.symm.trans i1
  cases e3.symm.trans i2
  obtain ⟨kU, u1, u2⟩ := al.2.2 _ _ e3
  have hB : Blank ST x D P.U := ⟨hD, ⟨knV, fun q hq => by rw [hq] at obV; cases obV⟩, by rw [al.findClass]; exact e2, kU, u1, by rw [u2]; exact i3, by rw [u2]; exact e5 i3⟩
  have F1 : Found ST "value" "[B" fV P.U := ⟨SBG.found_only al ⟨cfV, kV, iV, gV⟩, stV⟩
  have F2 : Found ST "coder" "B" fC P.U := ⟨SBG.found_only al ⟨cfC, kC, iC, gC⟩, stC⟩
  have hA : Ch b A P.U := ⟨⟨K.1, State.isArrayOf_alike al K.2.1, K.2.2, by omega⟩, hty⟩
  have hS : StaticIs P.U ST "COMPACT_STRINGS" "Z" (.int z) := by
    obtain ⟨cfS, iS, kS, fS, st, cS, t1, t2, t3, t4, t5, t6, t7⟩ := S
    exact StaticIs.there (s := { Z with heap := P.U.heap }) ⟨cfS, iS, kS, fS, st, cS, t1, t2, t3, t4, t5, (fun q => by rw [q] at t6; cases t6), t7⟩ al rfl
  obtain ⟨v, B, X', ⟨⟨hv, E', V', q1, q2, q3, q4, q5, q6, q7, q8, q9, q10, q11⟩, hl, hc, hs⟩, st⟩ := New1.pays x D fV fC b A z (tab_of (moved hZ hw)) hfr hlo m meth c P g ig mk _ X hg hsize hdg hW hn ⟨r1, r2, rfl, hB, F1, F2, hA, hS, hz, l0, l2, hp⟩
  have al' : Z.vm.Alike B.U.vm := hZ.alike.trans X'.warmed.alike
  have hsz : E'.slots.size = D.slots.size := by
    obtain ⟨-, -, -, kB, w1, w2, w3⟩ := q1
    obtain ⟨kB', y1, y2⟩ := al'.2.2 _ _ e3
    rw [q2.2.1] at w1
    cases w1.symm.trans y1
    rw [w3, e5 i3, y2]
  refine ⟨v, B, X', ⟨_, ⟨hv, ?_, ⟨by omega, fun y cy hy hn' => q10 y cy (by simpa using hn') hy, fun y cy hy => ?_⟩, q11, ⟨E', _, q1.1, by rw [q2.2.1]; exact e2, by rw [q2.2.1]; exact e3, by rw [q2.1]; exact obV, fun _ => by rw [hsz]; exact e5 i3⟩,
    ⟨E', cfV, kV, iV, fV, q1.1, gV, stV, by rw [q2.1]; exact knV, by rw [q2.1]; exact obV, by rw [q2.2.1]; exact asV, q3⟩, ⟨E', cfC, kC, iC, fC, q1.1, gC, stC, by rw [q2.1]; exact knV, by rw [q2.1]; exact obV, by rw [q2.2.1]; exact asC, q4⟩,
    ⟨V', ⟨q5.1, State.isArrayOf_alike al'.symm q5.2.1, q5.2.2.1⟩, q6, by rw [← al'.findClass]; exact q7, q8, fun j hj => by have := q9 j hj; rwa [Nat.zero_add] at this⟩, fun O n d w F n1 n2 => ?_⟩, hl, hc, hs⟩, st⟩
  · intro y hy
    simp only [List.mem_cons, List.not_mem_nil, or_false] at hy
    rcases hy with rfl | rfl <;> rfl
  · by_cases q : y = x
    · subst q
      cases hD.symm.trans hy
      exact ⟨E', q1.1, q2.2.1, q2.1, hsz⟩
    · exact ⟨cy, q10 y cy q hy, rfl, rfl, rfl⟩
  · obtain ⟨D3, cf, k, i, f, g1, g2, g3, g4, g5, g6, g7⟩ := F
    cases hD.symm.trans g1
    simp only [RoadKit.slotOf, g2, gV, gC, Option.map_some, Option.getD_some] at n1 n2
    exact ⟨E', cf, k, i, f, q1.1, g2, g3, by rw [q2.1]; exact g4, by rw [q2.1]; exact g5, by rw [q2.2.1]; exact g6, by rw [q2.2.2 f.slot (by simp [n1, n2])]; exact g7⟩
end StrChars.Road
namespace StrChars.Road
open Jvm Sem ClassFile Op Lib Jvm.Stand Jvm.Free Jvm.Free.XT
/-- WHAT COMES BACK, the byte[] as a list of values -/
def QA (Z : State) (x : Addr) (zn : Int32) (cs : List Int32) (h : Heap) (v : Option Value) (h' : Heap) (L : List Loc) : Prop := v = none ∧ (∀ y ∈ L, y.base = x) ∧ RoadKit.Keep h h' [x] ∧ h'.size = h.size + 1 ∧ RoadKit.Exa Z h' x ST ∧ RoadKit.Fld Z h' x ST "value" "[B" (.ref h.size) ∧ RoadKit.Fld Z h' x ST "coder" "B" (.int 0) ∧
  (∃ kb, Z.vm.findClass "[B" = some kb ∧ RoadKit.Arv Z h' h.size kb .byte zn (cs.map fun c => .int (lo8 c)) (.int 0)) ∧
  ∀ (O n d : String) (w : Value), RoadKit.Fld Z h x O n d w → RoadKit.slotOf Z O n d ≠ RoadKit.slotOf Z ST "value" "[B" → RoadKit.slotOf Z O n d ≠ RoadKit.slotOf Z ST "coder" "B" → RoadKit.Fld Z h' x O n d w
/-- **new String(chars) AT A CALL, THE ARRAYS AS LISTS**: the char[] at b holds cs, not empty, no char above 255 -/
theorem backArv {p : Program} {l : Launch} {e : Env} {R : Room} {s : State} {args : Array Value} {below : List Frame} {len W : Nat} {Z : State} {a0 : Array Value} {h : Heap} (hZ : Z.Warmed39 s.vm) (hw : ∀ d ∈ words, d.before a0 Z = true) {kI : Nat} (wi : (Jvm.Cond.instantiable ST kI).before a0 Z = true)
    {x b : Addr} {k : ClassId} {zn z : Int32} {cs : List Int32} {dv v0 c0 : Value} (E : RoadKit.Exa Z h x ST) (V : RoadKit.Fld Z h x ST "value" "[B" v0) (C : RoadKit.Fld Z h x ST "coder" "B" c0) (K : RoadKit.Arv Z h b k .char zn (cs.map Value.int) dv) (S : RoadKit.Sta Z h ST "COMPACT_STRINGS" "Z" (.int z)) (hz : ¬ z = 0)
    (hlen : zn.toNatClampNeg = cs.length) (h0 : 0 < cs.length) (hbig : cs.length ≤ 536870912) (hall : ∀ c ∈ cs, ¬ 255 < c) (hfr : 4 ≤ R.frames) (hlo : W + 65 ≤ R.locals) :
    Back l R p e below s args New1.yN len W (fun P a => a = #[.ref x, .ref b] ∧ P.U.heap = h ∧ P.cells + 1 ≤ R.cells ∧ P.slots + cs.length ≤ R.slots)
      (fun P _ v B => ∃ L, QA Z x zn cs h v B.U.heap L ∧ B.locs = P.locs ++ L ∧ B.cells = P.cells + 1 ∧ B.slots = P.slots + cs.length) := by
  obtain ⟨A, K1, K2, K3, K4, K5, K6⟩ := K
  have e : A.slots.size = cs.length := K3.trans hlen
  have hat : ∀ (i : Nat) (hi : i < cs.length), A.slots[i]? = some (.int cs[i]) := fun i hi => by rw [K5 i (by omega)]; simp [List.getD_eq_getElem?_getD, hi]
  have hcv : ∀ (i : Nat) (hi : i < cs.length), cv A i = cs[i] := fun i hi => by unfold cv; rw [hat i hi]
  have hty : Typed .char A := fun i v hv => by
    have hi : i < A.slots.size := (Array.getElem?_eq_some_iff.mp hv).1
    have q := K5 i hi
    rw [hv] at q
    rw [Option.some.inj q]
    exact K6 i hi
  refine Back.mono (back hZ hw wi E V C K1 hty S hz (by omega) (by omega) (fun i hi => by rw [hcv i (by omega)]; exact hall _ (List.getElem_mem _)) hfr hlo) (fun P a hp => ⟨hp.1, hp.2.1, hp.2.2.1, by rw [e]; exact hp.2.2.2⟩) (fun P a v B hp hq => ?_)
  obtain ⟨L, ⟨q1, q2, q3, q4, q5, q6, q7, ⟨V', v1, v2, v3, v4, v5⟩, q9⟩, hl, hc, hs⟩ := hq
  refine ⟨L, ⟨q1, q2, q3, q4, q5, q6, q7, ⟨V'.cls, v3, V', v1, rfl, by rw [v4, e, hlen], K4, fun i hi => ?_, fun i hi => ?_⟩, q9⟩, hl, hc, by rw [hs, e]⟩
  · have hi' : i < cs.length := by omega
    rw [v5 i (by omega), hcv i hi']; simp [List.getD_eq_getElem?_getD, hi']
  · have hi' : i < cs.length := by omega
    simp only [List.getD_eq_getElem?_getD, List.getElem?_map, List.getElem?_eq_getElem hi', Option.map_some, Option.getD_some]
    exact fits_lo8 _
end StrChars.Road
namespace StrChars.Road
open Jvm Sem ClassFile Op Lib Jvm.Stand Jvm.Free Jvm.Free.XT
/-- WHAT COMES BACK, in the writer's own shape -/
def QV (Z : State) (x : Addr) (N : Int32) (bs : List Int32) (h : Heap) (n0 : Nat) (v : Option Value) (h' : Heap) (L : List Loc) : Prop := v = none ∧ RoadKit.Fr n0 L ∧ RoadKit.Keep h h' [x] ∧ RoadKit.Exa Z h' x ST ∧ RoadKit.Fld Z h' x ST "coder" "B" (.int 0) ∧
  ∃ (t : Addr) (kb : ClassId), n0 ≤ t ∧ h.size ≤ t ∧ ¬ t = x ∧ RoadKit.Fld Z h' x ST "value" "[B" (.ref t) ∧ RoadKit.Arv Z h' t kb .byte N (bs.map Value.int) (.int 0)
/-- **new String(chars) AT A CALL, FOR THE WRITER**: a char[] of n known ints, each 0 to 255 -/
theorem backV {p : Program} {l : Launch} {e : Env} {R : Room} {s : State} {args : Array Value} {below : List Frame} {len W : Nat} {Z : State} {a0 : Array Value} {h : Heap} (hZ : Z.Warmed39 s.vm) (hw : ∀ d ∈ words, d.before a0 Z = true) {kI : Nat} (wi : (Jvm.Cond.instantiable ST kI).before a0 Z = true)
    {x b : Addr} {kC : ClassId} {cs bs : List Int32} {d v0 c0 : Value} {z N : Int32} {n n0 : Nat} (hx0 : n0 ≤ x) (hh0 : n0 ≤ h.size) (E : RoadKit.Exa Z h x ST) (V : RoadKit.Fld Z h x ST "value" "[B" v0) (C : RoadKit.Fld Z h x ST "coder" "B" c0) (K : RoadKit.Arv Z h b kC .char N (cs.map Value.int) d) (S : RoadKit.Sta Z h ST "COMPACT_STRINGS" "Z" (.int z)) (hz : ¬ z = 0)
    (hn : cs.length = n) (hN : N = Int32.ofNat n) (l0 : 0 < n) (l2 : n ≤ 4000) (hp : ∀ c ∈ cs, ¬ c < 0 ∧ ¬ (255 : Int32) < c) (hb : bs = cs.map (fun c => c.toInt8.toInt32)) (hfr : 4 ≤ R.frames) (hlo : W + 65 ≤ R.locals) :
    Back l R p e below s args (⟨"java/lang/String", "<init>", "([C)V"⟩ : MethodName) len W (fun P a => a = #[.ref x, .ref b] ∧ P.U.heap = h ∧ P.cells + 1 ≤ R.cells ∧ P.slots + n ≤ R.slots)
      (fun P _ v B => ∃ L, QV Z x N bs h n0 v B.U.heap L ∧ B.locs = P.locs ++ L ∧ B.cells = P.cells + 1 ∧ B.slots = P.slots + n) := by
  subst hn hN hb
  refine Back.mono (backArv hZ hw wi E V C K S hz (n32 (by omega)) l0 (by omega) (fun c hc => (hp c hc).2) hfr hlo) (fun P a hp => hp) (fun P a v B hp hq => ?_)
  obtain ⟨L, ⟨q1, q2, q3, q4, q5, q6, q7, ⟨kb, v1, v2⟩, q9⟩, hl, hc, hs⟩ := hq
  exact ⟨L, ⟨q1, fun y hy => by rw [q2 y hy]; exact hx0, q3, q5, q7, h.size, kb, hh0, Nat.le_refl _, Nat.ne_of_gt E.lt, q6, by rw [List.map_map]; exact v2⟩, hl, hc, hs⟩
end StrChars.Road
end Jvm.Pilot.@@N@@
namespace Jvm.Pilot.@@N@@
open Jvm Jvm.ClassFile Sem Op Lib Jvm.Free Jvm.Stand Jvm.LawKit Jvm.RoadKit Bundle Jvm.Pilot.@@N@@.Jvm.D Jvm.Own
/-- what the case says of its start -/
def Wd (Z : State) (a0 : Array Value) : Prop := (∀ (k : Nat) {d : Jvm.Cond}, tables_1[k]? = some d → d.before a0 Z = true) ∧ (∃ z : Int32, Sta Z Z.heap "java/lang/String" "COMPACT_STRINGS" "Z" (.int z) ∧ ¬ z = 0) ∧ ∃ fm : Value, Sta Z Z.heap "jdk/internal/util/Preconditions" "SIOOBE_FORMATTER" "Ljava/util/function/BiFunction;" fm ∧ fm.isRef = true
theorem Wd.hw {Z : State} {a0 : Array Value} (W : Wd Z a0) : ∀ d ∈ tables_1, d.before a0 Z = true := fun d hd => by
  obtain ⟨i, hi⟩ := List.mem_iff_getElem?.mp hd
  exact W.1 i hi
theorem Wd.sub {Z : State} {a0 : Array Value} (W : Wd Z a0) {ws : List Jvm.Cond} (h : ∀ d ∈ ws, d ∈ tables_1) : ∀ d ∈ ws, d.before a0 Z = true := fun d hd => W.hw d (h d hd)
theorem pdC : parseMethodDescriptor "([C)V" = some ⟨[(.array .char)], none⟩ := by decide +kernel
theorem up255 {cs : List Int32} (h : ∀ c ∈ cs, ¬ c < 0 ∧ ¬ (255 : Int32) < c) : ∀ c ∈ cs, ¬ c < 0 ∧ ¬ (65535 : Int32) < c := fun c hc => ⟨(h c hc).1, fun q => (h c hc).2 (by rw [Int32.lt_iff_toInt_lt] at q ⊢; have e1 : (65535 : Int32).toInt = 65535 := rfl; have e2 : (255 : Int32).toInt = 255 := rfl; omega)⟩
section StrGo
variable {nw : Bool} {p : Program} {l : Launch} {e : Env} {R : Room} {s : State} {m : MethodId} {args : Array Value} {below : List Frame} {meth : Method} {c : Code} {code : ByteArray} {ml : Nat} {nm : String} {ret : Option FieldType} {Z : State} {a0 : Array Value} {EL : List (String × Nat)} {own : String} {P : Option Value → Vm → Heap → Prop}
variable {vm vm' : Vm} {h h' h0 h1 h2 : Heap} {k n pc : Nat} {L : Array Slot} {S : List Value}
/-- new String(chars), one to 4,000 of them, each 0 to 255 -/
theorem goStrNew (W : Wd Z a0) {idx : Nat} {x b : Addr} {kC : ClassId} {N : Int32} {v0 c0 dv : Value} {rest : List Value} (Wk : Nat) (cs : List Int32) (pc' : Nat) (hd : decode code pc = .ok (.invokespecial idx, 3)) (hp : pc + 3 = pc') (w1 : (Jvm.Cond.methodLink own idx (⟨"java/lang/String", "<init>", "([C)V"⟩ : MethodName)).before a0 Z = true)
    (E : Exa Z h x "java/lang/String") (V : Fld Z h x "java/lang/String" "value" "[B" v0) (C : Fld Z h x "java/lang/String" "coder" "B" c0) (K : Arv Z h b kC .char N (cs.map Value.int) dv) (hN : N = Int32.ofNat cs.length) (l0 : 0 < cs.length) (l2 : cs.length ≤ 4000) (hcs : ∀ c ∈ cs, ¬ c < 0 ∧ ¬ (255 : Int32) < c)
    (hst : S = .ref b :: .ref x :: rest) (hsz : L.size = ml) (hW : (rest.map fun v => v.category).sum ≤ Wk) (hfr : 4 ≤ R.frames) (hlo : Wk + 65 ≤ R.locals) (hk0 : k + 1 ≤ R.cells) (hn0 : n + cs.length ≤ R.slots) (Sx : Safe Z EL vm h x) (hz : Z.heap.size ≤ x)
    (g : ∀ h', Keep h h' [x] → Str Z h' x cs → CHr Z EL vm h vm h' → Go nw p l e R s m args below meth c code ml nm ret Z a0 EL own P vm h' (k + 1) (n + cs.length) pc' L rest) : Go nw p l e R s m args below meth c code ml nm ret Z a0 EL own P vm h k n pc L S := by
  obtain ⟨z, Cz, hz0⟩ := W.2.1
  refine Go.specB (Q := fun v h' L => StrChars.Road.QV Z x N (cs.map fun c => c.toInt8.toInt32) h Z.heap.size v h' L) (dk := 1) (dn := cs.length) (rest := rest) Wk x [.ref b] pc' hd hp rfl w1 (W.1 5 rfl) (W.1 6 rfl) (by decide)
    (fun hZ hE => StrChars.Road.backV hZ (W.sub (by decide +kernel)) (W.1 1 rfl) (bs := cs.map fun c => c.toInt8.toInt32) hz hE.1 E V C K (Cz.ext hE) hz0 rfl hN l0 l2 hcs rfl hfr hlo) pdC rfl hst hsz hW hk0 hn0
    (fun v h' L q => ⟨q.2.1, [x], q.2.2.1, fun y hy => by cases List.mem_singleton.mp hy; exact Sx, fun y hy => by cases List.mem_singleton.mp hy; exact hz⟩) (fun v h' L q ch => ?_)
  obtain ⟨rfl, q2, q3, q4, q5, t, kb, q6, q7, q8, q9, q10⟩ := q
  exact g h' q3 ⟨t, kb, q4, q5, q9, by rw [← hN]; exact q10, l2, hcs⟩ ch
end StrGo
end Jvm.Pilot.@@N@@
namespace Jvm.Pilot.@@N@@
open Jvm Jvm.ClassFile Sem Op Lib Jvm.Free Jvm.Stand Jvm.LawKit Jvm.RoadKit Bundle Jvm.Pilot.@@N@@.Jvm.D Jvm.Own
theorem lit_ok_ : ((∀ c ∈ ("" : String).toList, c.toNat < 256) ∧ ("" : String).toList.map (fun c => Value.int (Jvm.Lit.byteI c.toNat.toUInt16)) = []) ∧ 4 * ("" : String).toList.length ≤ 0 := by decide +kernel
theorem lit_ok_text : ((∀ c ∈ ("text" : String).toList, c.toNat < 256) ∧ ("text" : String).toList.map (fun c => Value.int (Jvm.Lit.byteI c.toNat.toUInt16)) = [.int (116), .int (101), .int (120), .int (116)]) ∧ 4 * ("text" : String).toList.length ≤ 16 := by decide +kernel
theorem d_jdk_42_m149_0 : decode jdk_42_method_149_code 0 = .ok (.aload_n 0, 1) := by decide +kernel
theorem d_jdk_42_m149_1 : decode jdk_42_method_149_code 1 = .ok (.invokespecial 1, 3) := by decide +kernel
theorem d_jdk_42_m149_4 : decode jdk_42_method_149_code 4 = .ok (.iload_n 3, 1) := by decide +kernel
theorem d_jdk_42_m149_5 : decode jdk_42_method_149_code 5 = .ok (.ifCond .ne 22, 3) := by decide +kernel
theorem d_jdk_42_m149_8 : decode jdk_42_method_149_code 8 = .ok (.aload_n 0, 1) := by decide +kernel
theorem d_jdk_42_m149_9 : decode jdk_42_method_149_code 9 = .ok (.ldc 7, 2) := by decide +kernel
theorem d_jdk_42_m149_11 : decode jdk_42_method_149_code 11 = .ok (.getfield 9, 3) := by decide +kernel
theorem d_jdk_42_m149_14 : decode jdk_42_method_149_code 14 = .ok (.putfield 9, 3) := by decide +kernel
theorem d_jdk_42_m149_17 : decode jdk_42_method_149_code 17 = .ok (.aload_n 0, 1) := by decide +kernel
theorem d_jdk_42_m149_18 : decode jdk_42_method_149_code 18 = .ok (.ldc 7, 2) := by decide +kernel
theorem d_jdk_42_m149_20 : decode jdk_42_method_149_code 20 = .ok (.getfield 15, 3) := by decide +kernel
theorem d_jdk_42_m149_23 : decode jdk_42_method_149_code 23 = .ok (.putfield 15, 3) := by decide +kernel
theorem d_jdk_42_m149_26 : decode jdk_42_method_149_code 26 = .ok (.return_, 1) := by decide +kernel
theorem d_jdk_42_m149_27 : decode jdk_42_method_149_code 27 = .ok (.getstatic 38, 3) := by decide +kernel
theorem d_jdk_42_m149_30 : decode jdk_42_method_149_code 30 = .ok (.ifCond .eq 28, 3) := by decide +kernel
theorem d_jdk_42_m149_33 : decode jdk_42_method_149_code 33 = .ok (.aload_n 1, 1) := by decide +kernel
theorem d_jdk_42_m149_34 : decode jdk_42_method_149_code 34 = .ok (.iload_n 2, 1) := by decide +kernel
theorem d_jdk_42_m149_35 : decode jdk_42_method_149_code 35 = .ok (.iload_n 3, 1) := by decide +kernel
theorem d_jdk_42_m149_36 : decode jdk_42_method_149_code 36 = .ok (.invokestatic 177, 3) := by decide +kernel
theorem d_jdk_42_m149_39 : decode jdk_42_method_149_code 39 = .ok (.astore 5, 2) := by decide +kernel
theorem d_jdk_42_m149_41 : decode jdk_42_method_149_code 41 = .ok (.aload_n 0, 1) := by decide +kernel
theorem d_jdk_42_m149_42 : decode jdk_42_method_149_code 42 = .ok (.aload 5, 2) := by decide +kernel
theorem d_jdk_42_m149_44 : decode jdk_42_method_149_code 44 = .ok (.iload_n 3, 1) := by decide +kernel
theorem d_jdk_42_m149_45 : decode jdk_42_method_149_code 45 = .ok (.invokestatic 47, 3) := by decide +kernel
theorem d_jdk_42_m149_48 : decode jdk_42_method_149_code 48 = .ok (.putfield 15, 3) := by decide +kernel
theorem d_jdk_42_m149_51 : decode jdk_42_method_149_code 51 = .ok (.aload_n 0, 1) := by decide +kernel
theorem d_jdk_42_m149_52 : decode jdk_42_method_149_code 52 = .ok (.aload 5, 2) := by decide +kernel
theorem d_jdk_42_m149_54 : decode jdk_42_method_149_code 54 = .ok (.putfield 9, 3) := by decide +kernel
theorem d_jdk_42_m149_57 : decode jdk_42_method_149_code 57 = .ok (.return_, 1) := by decide +kernel
theorem d_jdk_42_m149_58 : decode jdk_42_method_149_code 58 = .ok (.aload_n 0, 1) := by decide +kernel
theorem d_jdk_42_m149_59 : decode jdk_42_method_149_code 59 = .ok (.iconst 1, 1) := by decide +kernel
theorem d_jdk_42_m149_60 : decode jdk_42_method_149_code 60 = .ok (.putfield 15, 3) := by decide +kernel
theorem d_jdk_42_m149_63 : decode jdk_42_method_149_code 63 = .ok (.aload_n 0, 1) := by decide +kernel
theorem d_jdk_42_m149_64 : decode jdk_42_method_149_code 64 = .ok (.aload_n 1, 1) := by decide +kernel
theorem d_jdk_42_m149_65 : decode jdk_42_method_149_code 65 = .ok (.iload_n 2, 1) := by decide +kernel
theorem d_jdk_42_m149_66 : decode jdk_42_method_149_code 66 = .ok (.iload_n 3, 1) := by decide +kernel
theorem d_jdk_42_m149_67 : decode jdk_42_method_149_code 67 = .ok (.invokestatic 180, 3) := by decide +kernel
theorem d_jdk_42_m149_70 : decode jdk_42_method_149_code 70 = .ok (.putfield 9, 3) := by decide +kernel
theorem d_jdk_42_m149_73 : decode jdk_42_method_149_code 73 = .ok (.return_, 1) := by decide +kernel
set_option maxRecDepth 65536 in
set_option maxHeartbeats 40000000 in
theorem cEmp4 {l : Launch} {Z : State} {a0 : Array Value} (W : Wd Z a0) {EL : List (String × Nat)} {vm : Vm} {h : Heap} {a b : Addr} {v0 c0 : Value} (hm : ("java/lang/String", 7) ∈ EL) (E : Exa Z h a "java/lang/String") (F1 : Fld Z h a "java/lang/String" "value" "[B" (v0)) (F2 : Fld Z h a "java/lang/String" "coder" "B" (c0)) (Sa : Safe Z EL vm h a) (hz : Z.heap.size ≤ a) :
    Ctr false l Z a0 EL (⟨"java/lang/String", "<init>", "([CIILjava/lang/Void;)V"⟩ : MethodName) jdk_42_method_149_code 6 none ({ frames := 1, cells := 4, slots := 8, locals := 12 } : Room) #[.ref a, .ref b, .int (0 : Int32), .int (0 : Int32), .null] vm h (fun v vm' h' => v = none ∧ Keep h h' [a] ∧ Str Z h' a []) := by
  refine Ctr.of_go (L0 := #[.val (.ref a), .val (.ref b), .val (.int (0 : Int32)), .val (.int (0 : Int32)), .val (.null), .unset]) (by first | (simp [plainName, overriddenIn]; done) | decide +kernel) (fun m => by first | rfl | (simp [entryFrame, mkF, argsToLocals, Value.category]; done)) (fun p e s m below meth c vmi chi => ?_)
  refine Go.aload_n 1 d_jdk_42_m149_0 rfl rfl rfl ?_
  refine Go.initObject 0 4 d_jdk_42_m149_1 rfl (W.1 11 rfl) (W.1 12 rfl) (W.1 13 rfl) rfl (nl rfl) (nl rfl) (nl rfl) ?_
  refine Go.iload_n 5 d_jdk_42_m149_4 rfl rfl ?_
  refine Go.ifne 27 8 d_jdk_42_m149_5 (by decide) rfl rfl (fun q1 => absurd rfl q1) (fun q1 => ?_)
  refine Go.aload_n 9 d_jdk_42_m149_8 rfl rfl rfl ?_
  refine Go.ldcS (text := "") (vs := []) (z := (0 : Int32)) 0 11 d_jdk_42_m149_9 rfl rfl (W.1 14 rfl) (W.sub (by decide +kernel)) hm lit_ok_.1 (by decide) (by decide) lit_ok_.2 (by decide) (nl rfl) (nl rfl) (fun y1 b2 k2 vm2 h2 E2 A2 C2 V2 B2 N2 c2 => ?_)
  have T2 : Str Z h2 y1 [] := ⟨b2, k2, A2, C2, V2, B2, by decide, by decide⟩
  refine Go.getfield 14 d_jdk_42_m149_11 rfl (W.1 20 rfl) V2 ?_
  have f3 := F1.ext E2
  have f4 := E.ext E2
  have f5 := CHr.safe (CHr.trans chi c2) E.lt Sa
  have L5 := Nat.lt_of_lt_of_le E.lt (CHr.trans chi c2).2.1
  refine Go.putfield 17 d_jdk_42_m149_14 rfl (W.1 20 rfl) f3 f4 (Or.inr ⟨(W.1 16 rfl), rfl, rfl⟩) (W.1 1 rfl) (ty := (.array .byte)) (by decide) rfl rfl f5 hz (fun h6 X6 S6 c6 => ?_)
  have Ea := f4.wr X6
  have G1 := f3.same X6
  have F2a := (F2.ext E2).other X6 (Or.inr (slot_ne (a0 := a0) (C := "java/lang/String") (Or.inr (W.1 17 rfl)) (Or.inr (W.1 16 rfl)) (by decide) (t := .byte) (t' := (.array .byte)) (by decide) (by decide)))
  have K1 := Arv.other B2 X6 (Ne.symm (N2 _ f5).2)
  have ba := (N2 _ f5).2
  refine Go.aload_n 18 d_jdk_42_m149_17 rfl rfl rfl ?_
  refine Go.ldcS (text := "") (vs := []) (z := (0 : Int32)) 0 20 d_jdk_42_m149_18 rfl rfl (W.1 14 rfl) (W.sub (by decide +kernel)) hm lit_ok_.1 (by decide) (by decide) lit_ok_.2 (by decide) (nl rfl) (nl rfl) (fun y2 b7 k7 vm7 h7 E7 A7 C7 V7 B7 N7 c7 => ?_)
  have T7 : Str Z h7 y2 [] := ⟨b7, k7, A7, C7, V7, B7, by decide, by decide⟩
  refine Go.getfield 23 d_jdk_42_m149_20 rfl (W.1 21 rfl) C7 ?_
  have f8 := CHr.safe c7 Ea.lt S6
  have L8 := Nat.lt_of_lt_of_le Ea.lt c7.2.1
  refine Go.putfield 26 d_jdk_42_m149_23 rfl (W.1 21 rfl) (F2a.ext E7) (Ea.ext E7) (Or.inr ⟨(W.1 17 rfl), rfl, rfl⟩) (W.1 1 rfl) (ty := .byte) (by decide) rfl rfl f8 hz (fun h9 X9 S9 c9 => ?_)
  exact Go.return_ d_jdk_42_m149_26 rfl (nl rfl) (nl rfl) (fun vm' ch => ⟨rfl, (((Keep.ofExt E2 [a]).wr X6 (Or.inl (by simp))).ext E7).wr X9 (Or.inl (by simp)), ⟨_, _, (Ea.ext E7).wr X9, (F2a.ext E7).same X9, (G1.ext E7).other X9 (Or.inr (slot_ne (a0 := a0) (C := "java/lang/String") (Or.inr (W.1 16 rfl)) (Or.inr (W.1 17 rfl)) (by decide) (t := (.array .byte)) (t' := .byte) (by decide) (by decide))), Arv.other (K1.ext E7) X9 (Ne.symm ba), by decide, fun _ q => nomatch q⟩⟩)
theorem d_jdk_42_m3_0 : decode jdk_42_method_3_code 0 = .ok (.aload_n 0, 1) := by decide +kernel
theorem d_jdk_42_m3_1 : decode jdk_42_method_3_code 1 = .ok (.aload_n 1, 1) := by decide +kernel
theorem d_jdk_42_m3_2 : decode jdk_42_method_3_code 2 = .ok (.iconst 0, 1) := by decide +kernel
theorem d_jdk_42_m3_3 : decode jdk_42_method_3_code 3 = .ok (.aload_n 1, 1) := by decide +kernel
theorem d_jdk_42_m3_4 : decode jdk_42_method_3_code 4 = .ok (.arraylength, 1) := by decide +kernel
theorem d_jdk_42_m3_5 : decode jdk_42_method_3_code 5 = .ok (.aconst_null, 1) := by decide +kernel
theorem d_jdk_42_m3_6 : decode jdk_42_method_3_code 6 = .ok (.invokespecial 27, 3) := by decide +kernel
theorem d_jdk_42_m3_9 : decode jdk_42_method_3_code 9 = .ok (.return_, 1) := by decide +kernel
set_option maxRecDepth 65536 in
set_option maxHeartbeats 40000000 in
theorem cEmp1 {l : Launch} {Z : State} {a0 : Array Value} (W : Wd Z a0) {EL : List (String × Nat)} {vm : Vm} {h : Heap} {a b : Addr} {v0 c0 dv : Value} {kC : ClassId} {vs : List Value} (hm : ("java/lang/String", 7) ∈ EL) (E : Exa Z h a "java/lang/String") (F1 : Fld Z h a "java/lang/String" "value" "[B" (v0)) (F2 : Fld Z h a "java/lang/String" "coder" "B" (c0)) (A : Arv Z h b kC .char (0 : Int32) vs dv) (Sa : Safe Z EL vm h a) (hz : Z.heap.size ≤ a) :
    Ctr false l Z a0 EL (⟨"java/lang/String", "<init>", "([C)V"⟩ : MethodName) jdk_42_method_3_code 2 none ({ frames := 2, cells := 4, slots := 8, locals := 29 } : Room) #[.ref a, .ref b] vm h (fun v vm' h' => v = none ∧ Keep h h' [a] ∧ Str Z h' a []) := by
  refine Ctr.of_go (L0 := #[.val (.ref a), .val (.ref b)]) (by first | (simp [plainName, overriddenIn]; done) | decide +kernel) (fun m => by first | rfl | (simp [entryFrame, mkF, argsToLocals, Value.category]; done)) (fun p e s m below meth c vmi chi => ?_)
  refine Go.aload_n 1 d_jdk_42_m3_0 rfl rfl rfl ?_
  refine Go.aload_n 2 d_jdk_42_m3_1 rfl rfl rfl ?_
  refine Go.iconst (0) 3 d_jdk_42_m3_2 rfl rfl ?_
  refine Go.aload_n 4 d_jdk_42_m3_3 rfl rfl rfl ?_
  refine Go.arraylength 5 d_jdk_42_m3_4 rfl A ?_
  refine Go.aconst_null 6 d_jdk_42_m3_5 rfl ?_
  refine Go.invokespecial (rest := []) 0 a [.ref b, .int (0 : Int32), .int (0 : Int32), .null] 9 d_jdk_42_m3_6 rfl rfl (W.1 7 rfl) (W.1 8 rfl) (W.1 2 rfl) (W.1 10 rfl) (by decide) (cEmp4 W hm E F1 F2 (chi.safe E.lt Sa) hz) (by decide +kernel : parseMethodDescriptor "([CIILjava/lang/Void;)V" = some ⟨[(.array .char), .int, .int, (.object "java/lang/Void")], none⟩) rfl rfl rfl (nl rfl) (nl rfl) (nl rfl) (nl rfl) (nl rfl) (fun v1 vm1 h1 ⟨rv, K, T⟩ c1 => ?_)
  subst rv
  exact Go.return_ d_jdk_42_m3_9 rfl (nl rfl) (nl rfl) (fun vm' ch => ⟨rfl, K, T⟩)
theorem d_jdk_42_m66_0 : decode jdk_42_method_66_code 0 = .ok (.aload_n 0, 1) := by decide +kernel
theorem d_jdk_42_m66_1 : decode jdk_42_method_66_code 1 = .ok (.aload_n 1, 1) := by decide +kernel
theorem d_jdk_42_m66_2 : decode jdk_42_method_66_code 2 = .ok (.if_acmp .ne 5, 3) := by decide +kernel
theorem d_jdk_42_m66_5 : decode jdk_42_method_66_code 5 = .ok (.iconst 1, 1) := by decide +kernel
theorem d_jdk_42_m66_6 : decode jdk_42_method_66_code 6 = .ok (.ireturn, 1) := by decide +kernel
theorem d_jdk_42_m66_7 : decode jdk_42_method_66_code 7 = .ok (.aload_n 1, 1) := by decide +kernel
theorem d_jdk_42_m66_8 : decode jdk_42_method_66_code 8 = .ok (.instanceof 10, 3) := by decide +kernel
theorem d_jdk_42_m66_11 : decode jdk_42_method_66_code 11 = .ok (.ifCond .eq 43, 3) := by decide +kernel
theorem d_jdk_42_m66_14 : decode jdk_42_method_66_code 14 = .ok (.aload_n 1, 1) := by decide +kernel
theorem d_jdk_42_m66_15 : decode jdk_42_method_66_code 15 = .ok (.checkcast 10, 3) := by decide +kernel
theorem d_jdk_42_m66_18 : decode jdk_42_method_66_code 18 = .ok (.astore_n 2, 1) := by decide +kernel
theorem d_jdk_42_m66_19 : decode jdk_42_method_66_code 19 = .ok (.getstatic 38, 3) := by decide +kernel
theorem d_jdk_42_m66_22 : decode jdk_42_method_66_code 22 = .ok (.ifCond .eq 14, 3) := by decide +kernel
theorem d_jdk_42_m66_25 : decode jdk_42_method_66_code 25 = .ok (.aload_n 0, 1) := by decide +kernel
theorem d_jdk_42_m66_26 : decode jdk_42_method_66_code 26 = .ok (.getfield 15, 3) := by decide +kernel
theorem d_jdk_42_m66_29 : decode jdk_42_method_66_code 29 = .ok (.aload_n 2, 1) := by decide +kernel
theorem d_jdk_42_m66_30 : decode jdk_42_method_66_code 30 = .ok (.getfield 15, 3) := by decide +kernel
theorem d_jdk_42_m66_33 : decode jdk_42_method_66_code 33 = .ok (.if_icmp .ne 21, 3) := by decide +kernel
theorem d_jdk_42_m66_36 : decode jdk_42_method_66_code 36 = .ok (.aload_n 0, 1) := by decide +kernel
theorem d_jdk_42_m66_37 : decode jdk_42_method_66_code 37 = .ok (.getfield 9, 3) := by decide +kernel
theorem d_jdk_42_m66_40 : decode jdk_42_method_66_code 40 = .ok (.aload_n 2, 1) := by decide +kernel
theorem d_jdk_42_m66_41 : decode jdk_42_method_66_code 41 = .ok (.getfield 9, 3) := by decide +kernel
theorem d_jdk_42_m66_44 : decode jdk_42_method_66_code 44 = .ok (.invokestatic 541, 3) := by decide +kernel
theorem d_jdk_42_m66_47 : decode jdk_42_method_66_code 47 = .ok (.ifCond .eq 7, 3) := by decide +kernel
theorem d_jdk_42_m66_50 : decode jdk_42_method_66_code 50 = .ok (.iconst 1, 1) := by decide +kernel
theorem d_jdk_42_m66_51 : decode jdk_42_method_66_code 51 = .ok (.goto 4, 3) := by decide +kernel
theorem d_jdk_42_m66_54 : decode jdk_42_method_66_code 54 = .ok (.iconst 0, 1) := by decide +kernel
theorem d_jdk_42_m66_55 : decode jdk_42_method_66_code 55 = .ok (.ireturn, 1) := by decide +kernel
set_option maxRecDepth 65536 in
set_option maxHeartbeats 40000000 in
theorem cEqSelf {l : Launch} {Z : State} {a0 : Array Value} (W : Wd Z a0) {EL : List (String × Nat)} {vm : Vm} {h : Heap} {nw : Bool} {a : Addr} :
    Ctr nw l Z a0 EL (⟨"java/lang/String", "equals", "(Ljava/lang/Object;)Z"⟩ : MethodName) jdk_42_method_66_code 3 (some .boolean) ({ frames := 0, cells := 0, slots := 0, locals := 0 } : Room) #[.ref a, .ref a] vm h (fun v vm' h' => v = some (.int 1) ∧ h' = h) := by
  refine Ctr.of_go (L0 := #[.val (.ref a), .val (.ref a), .unset]) (by first | (simp [plainName, overriddenIn]; done) | decide +kernel) (fun m => by first | rfl | (simp [entryFrame, mkF, argsToLocals, Value.category]; done)) (fun p e s m below meth c vmi chi => ?_)
  refine Go.aload_n 1 d_jdk_42_m66_0 rfl rfl rfl ?_
  refine Go.aload_n 2 d_jdk_42_m66_1 rfl rfl rfl ?_
  refine Go.acmp_n 5 d_jdk_42_m66_2 rfl rfl rfl (by simp [XT.acmp]) ?_
  refine Go.iconst (1) 6 d_jdk_42_m66_5 rfl rfl ?_
  exact Go.ireturn d_jdk_42_m66_6 rfl rfl (by simp) (nl rfl) (nl rfl) (fun vm' ch => ⟨rfl, rfl⟩)
theorem d_jdk_31_m11_0 : decode jdk_31_method_11_code 0 = .ok (.aload_n 0, 1) := by decide +kernel
theorem d_jdk_31_m11_1 : decode jdk_31_method_11_code 1 = .ok (.ifnonnull 12, 3) := by decide +kernel
theorem d_jdk_31_m11_4 : decode jdk_31_method_11_code 4 = .ok (.new 84, 3) := by decide +kernel
theorem d_jdk_31_m11_7 : decode jdk_31_method_11_code 7 = .ok (.dup, 1) := by decide +kernel
theorem d_jdk_31_m11_8 : decode jdk_31_method_11_code 8 = .ok (.aload_n 1, 1) := by decide +kernel
theorem d_jdk_31_m11_9 : decode jdk_31_method_11_code 9 = .ok (.invokespecial 87, 3) := by decide +kernel
theorem d_jdk_31_m11_12 : decode jdk_31_method_11_code 12 = .ok (.athrow, 1) := by decide +kernel
theorem d_jdk_31_m11_13 : decode jdk_31_method_11_code 13 = .ok (.aload_n 0, 1) := by decide +kernel
theorem d_jdk_31_m11_14 : decode jdk_31_method_11_code 14 = .ok (.areturn, 1) := by decide +kernel
set_option maxRecDepth 65536 in
set_option maxHeartbeats 40000000 in
theorem cReq {l : Launch} {Z : State} {a0 : Array Value} (W : Wd Z a0) {EL : List (String × Nat)} {vm : Vm} {h : Heap} {nw : Bool} {a b : Addr} :
    Ctr nw l Z a0 EL (⟨"java/util/Objects", "requireNonNull", "(Ljava/lang/Object;Ljava/lang/String;)Ljava/lang/Object;"⟩ : MethodName) jdk_31_method_11_code 2 (some (.object "java/lang/Object")) ({ frames := 0, cells := 0, slots := 0, locals := 0 } : Room) #[.ref a, .ref b] vm h (fun v vm' h' => v = some (.ref a) ∧ h' = h) := by
  refine Ctr.of_go (L0 := #[.val (.ref a), .val (.ref b)]) (by first | (simp [plainName, overriddenIn]; done) | decide +kernel) (fun m => by first | rfl | (simp [entryFrame, mkF, argsToLocals, Value.category]; done)) (fun p e s m below meth c vmi chi => ?_)
  refine Go.aload_n 1 d_jdk_31_m11_0 rfl rfl rfl ?_
  refine Go.ifnonnull_y 13 d_jdk_31_m11_1 (by decide) rfl ?_
  refine Go.aload_n 14 d_jdk_31_m11_13 rfl rfl rfl ?_
  exact Go.areturn d_jdk_31_m11_14 rfl rfl rfl (nl rfl) (nl rfl) (fun vm' ch => ⟨rfl, rfl⟩)
theorem d_jdk_30_m1_0 : decode jdk_30_method_1_code 0 = .ok (.aload_n 0, 1) := by decide +kernel
theorem d_jdk_30_m1_1 : decode jdk_30_method_1_code 1 = .ok (.invokespecial 1, 3) := by decide +kernel
theorem d_jdk_30_m1_4 : decode jdk_30_method_1_code 4 = .ok (.return_, 1) := by decide +kernel
set_option maxRecDepth 65536 in
set_option maxHeartbeats 40000000 in
theorem cRec {l : Launch} {Z : State} {a0 : Array Value} (W : Wd Z a0) {EL : List (String × Nat)} {vm : Vm} {h : Heap} {nw : Bool} {a : Addr} :
    Ctr nw l Z a0 EL (⟨"java/lang/Record", "<init>", "()V"⟩ : MethodName) jdk_30_method_1_code 1 none ({ frames := 1, cells := 0, slots := 0, locals := 12 } : Room) #[.ref a] vm h (fun v vm' h' => v = none ∧ h' = h) := by
  refine Ctr.of_go (L0 := #[.val (.ref a)]) (by first | (simp [plainName, overriddenIn]; done) | decide +kernel) (fun m => by first | rfl | (simp [entryFrame, mkF, argsToLocals, Value.category]; done)) (fun p e s m below meth c vmi chi => ?_)
  refine Go.aload_n 1 d_jdk_30_m1_0 rfl rfl rfl ?_
  refine Go.initObject 0 4 d_jdk_30_m1_1 rfl (W.1 40 rfl) (W.1 12 rfl) (W.1 13 rfl) rfl (nl rfl) (nl rfl) (nl rfl) ?_
  exact Go.return_ d_jdk_30_m1_4 rfl (nl rfl) (nl rfl) (fun vm' ch => ⟨rfl, rfl⟩)
theorem d_prog_32_m1_0 : decode prog_32_method_1_code 0 = .ok (.aload_n 0, 1) := by decide +kernel
theorem d_prog_32_m1_1 : decode prog_32_method_1_code 1 = .ok (.invokespecial 1, 3) := by decide +kernel
theorem d_prog_32_m1_4 : decode prog_32_method_1_code 4 = .ok (.return_, 1) := by decide +kernel
set_option maxRecDepth 65536 in
set_option maxHeartbeats 40000000 in
theorem cUA {l : Launch} {Z : State} {a0 : Array Value} (W : Wd Z a0) {EL : List (String × Nat)} {vm : Vm} {h : Heap} {nw : Bool} {a : Addr} :
    Ctr nw l Z a0 EL (⟨"com/example/dormouse/dormouse/examples/UnreachableAgent", "<init>", "()V"⟩ : MethodName) prog_32_method_1_code 1 none ({ frames := 1, cells := 0, slots := 0, locals := 12 } : Room) #[.ref a] vm h (fun v vm' h' => v = none ∧ h' = h) := by
  refine Ctr.of_go (L0 := #[.val (.ref a)]) (by first | (simp [plainName, overriddenIn]; done) | decide +kernel) (fun m => by first | rfl | (simp [entryFrame, mkF, argsToLocals, Value.category]; done)) (fun p e s m below meth c vmi chi => ?_)
  refine Go.aload_n 1 d_prog_32_m1_0 rfl rfl rfl ?_
  refine Go.initObject 0 4 d_prog_32_m1_1 rfl (W.1 28 rfl) (W.1 12 rfl) (W.1 13 rfl) rfl (nl rfl) (nl rfl) (nl rfl) ?_
  exact Go.return_ d_prog_32_m1_4 rfl (nl rfl) (nl rfl) (fun vm' ch => ⟨rfl, rfl⟩)
theorem d_prog_16_m1_0 : decode prog_16_method_1_code 0 = .ok (.aload_n 0, 1) := by decide +kernel
theorem d_prog_16_m1_1 : decode prog_16_method_1_code 1 = .ok (.invokespecial 1, 3) := by decide +kernel
theorem d_prog_16_m1_4 : decode prog_16_method_1_code 4 = .ok (.aload_n 1, 1) := by decide +kernel
theorem d_prog_16_m1_5 : decode prog_16_method_1_code 5 = .ok (.ldc 7, 2) := by decide +kernel
theorem d_prog_16_m1_7 : decode prog_16_method_1_code 7 = .ok (.invokestatic 9, 3) := by decide +kernel
theorem d_prog_16_m1_10 : decode prog_16_method_1_code 10 = .ok (.pop, 1) := by decide +kernel
theorem d_prog_16_m1_11 : decode prog_16_method_1_code 11 = .ok (.aload_n 0, 1) := by decide +kernel
theorem d_prog_16_m1_12 : decode prog_16_method_1_code 12 = .ok (.aload_n 1, 1) := by decide +kernel
theorem d_prog_16_m1_13 : decode prog_16_method_1_code 13 = .ok (.putfield 15, 3) := by decide +kernel
theorem d_prog_16_m1_16 : decode prog_16_method_1_code 16 = .ok (.return_, 1) := by decide +kernel
set_option maxRecDepth 65536 in
set_option maxHeartbeats 40000000 in
theorem cUI {l : Launch} {Z : State} {a0 : Array Value} (W : Wd Z a0) {EL : List (String × Nat)} {vm : Vm} {h : Heap} {a s1 : Addr} {v0 : Value} (hm : ("com/example/dormouse/dormouse/agent/UserInput", 7) ∈ EL) (E : Exa Z h a "com/example/dormouse/dormouse/agent/UserInput") (F1 : Fld Z h a "com/example/dormouse/dormouse/agent/UserInput" "text" "Ljava/lang/String;" (v0)) (Sa : Safe Z EL vm h a) (hz : Z.heap.size ≤ a) :
    Ctr false l Z a0 EL (⟨"com/example/dormouse/dormouse/agent/UserInput", "<init>", "(Ljava/lang/String;)V"⟩ : MethodName) prog_16_method_1_code 2 none ({ frames := 2, cells := 2, slots := 20, locals := 24 } : Room) #[.ref a, .ref s1] vm h (fun v vm' h' => v = none ∧ Keep h h' [a] ∧ Exa Z h' a "com/example/dormouse/dormouse/agent/UserInput" ∧ Fld Z h' a "com/example/dormouse/dormouse/agent/UserInput" "text" "Ljava/lang/String;" (.ref s1)) := by
  refine Ctr.of_go (L0 := #[.val (.ref a), .val (.ref s1)]) (by first | (simp [plainName, overriddenIn]; done) | decide +kernel) (fun m => by first | rfl | (simp [entryFrame, mkF, argsToLocals, Value.category]; done)) (fun p e s m below meth c vmi chi => ?_)
  refine Go.aload_n 1 d_prog_16_m1_0 rfl rfl rfl ?_
  refine Go.invokespecial (rest := []) 0 a [] 4 d_prog_16_m1_1 rfl rfl (W.1 35 rfl) (W.1 36 rfl) (W.1 38 rfl) (W.1 39 rfl) (by decide) (cRec W ) (by decide +kernel : parseMethodDescriptor "()V" = some ⟨[], none⟩) rfl rfl rfl (nl rfl) (nl rfl) (nl rfl) (nl rfl) (nl rfl) (fun v1 vm1 h1 ⟨rv, hh⟩ c1 => ?_)
  subst rv hh
  refine Go.aload_n 5 d_prog_16_m1_4 rfl rfl rfl ?_
  refine Go.ldcS (text := "text") (vs := [.int (116), .int (101), .int (120), .int (116)]) (z := (4 : Int32)) 16 7 d_prog_16_m1_5 rfl rfl (W.1 41 rfl) (W.sub (by decide +kernel)) hm lit_ok_text.1 (by decide) (by decide) lit_ok_text.2 (by decide) (nl rfl) (nl rfl) (fun y1 b2 k2 vm2 h2 E2 A2 C2 V2 B2 N2 c2 => ?_)
  have T2 : Str Z h2 y1 [116, 101, 120, 116] := ⟨b2, k2, A2, C2, V2, B2, by decide, by decide⟩
  refine Go.invokestatic (rest := []) 0 [.ref s1, .ref y1] 10 d_prog_16_m1_7 rfl (W.1 42 rfl) (W.1 43 rfl) (W.1 44 rfl) (W.1 45 rfl) (by decide) (cReq W ) (by decide +kernel : parseMethodDescriptor "(Ljava/lang/Object;Ljava/lang/String;)Ljava/lang/Object;" = some ⟨[(.object "java/lang/Object"), (.object "java/lang/String")], (some (.object "java/lang/Object"))⟩) rfl rfl rfl (nl rfl) (nl rfl) (nl rfl) (nl rfl) (nl rfl) (fun v3 vm3 h3 ⟨rv, hh⟩ c3 => ?_)
  subst rv hh
  refine Go.pop 11 d_prog_16_m1_10 rfl rfl ?_
  refine Go.aload_n 12 d_prog_16_m1_11 rfl rfl rfl ?_
  refine Go.aload_n 13 d_prog_16_m1_12 rfl rfl rfl ?_
  have f4 := F1.ext E2
  have f5 := E.ext E2
  have f6 := CHr.safe (CHr.trans chi (CHr.trans c1 (CHr.trans c2 c3))) E.lt Sa
  have L6 := Nat.lt_of_lt_of_le E.lt (CHr.trans chi (CHr.trans c1 (CHr.trans c2 c3))).2.1
  refine Go.putfield 16 d_prog_16_m1_13 rfl (W.1 46 rfl) f4 f5 (Or.inr ⟨(W.1 47 rfl), rfl, rfl⟩) (W.1 30 rfl) (ty := (.object "java/lang/String")) (by decide) rfl rfl f6 hz (fun h7 X7 S7 c7 => ?_)
  exact Go.return_ d_prog_16_m1_16 rfl (nl rfl) (nl rfl) (fun vm' ch => ⟨rfl, (Keep.ofExt E2 [a]).wr X7 (Or.inl (by simp)), f5.wr X7, f4.same X7⟩)
theorem d_prog_16_m5_0 : decode prog_16_method_5_code 0 = .ok (.aload_n 0, 1) := by decide +kernel
theorem d_prog_16_m5_1 : decode prog_16_method_5_code 1 = .ok (.getfield 15, 3) := by decide +kernel
theorem d_prog_16_m5_4 : decode prog_16_method_5_code 4 = .ok (.areturn, 1) := by decide +kernel
set_option maxRecDepth 65536 in
set_option maxHeartbeats 40000000 in
theorem cUIText {l : Launch} {Z : State} {a0 : Array Value} (W : Wd Z a0) {EL : List (String × Nat)} {vm : Vm} {h : Heap} {nw : Bool} {a u : Addr} (F : Fld Z h a "com/example/dormouse/dormouse/agent/UserInput" "text" "Ljava/lang/String;" (.ref u)) :
    Ctr nw l Z a0 EL (⟨"com/example/dormouse/dormouse/agent/UserInput", "text", "()Ljava/lang/String;"⟩ : MethodName) prog_16_method_5_code 1 (some (.object "java/lang/String")) ({ frames := 0, cells := 0, slots := 0, locals := 0 } : Room) #[.ref a] vm h (fun v vm' h' => v = some (.ref u) ∧ h' = h) := by
  refine Ctr.of_go (L0 := #[.val (.ref a)]) (by first | (simp [plainName, overriddenIn]; done) | decide +kernel) (fun m => by first | rfl | (simp [entryFrame, mkF, argsToLocals, Value.category]; done)) (fun p e s m below meth c vmi chi => ?_)
  refine Go.aload_n 1 d_prog_16_m5_0 rfl rfl rfl ?_
  refine Go.getfield 4 d_prog_16_m5_1 rfl (W.1 46 rfl) F ?_
  exact Go.areturn d_prog_16_m5_4 rfl rfl rfl (nl rfl) (nl rfl) (fun vm' ch => ⟨rfl, rfl⟩)
theorem d_prog_27_m5_0 : decode prog_27_method_5_code 0 = .ok (.aload_n 0, 1) := by decide +kernel
theorem d_prog_27_m5_1 : decode prog_27_method_5_code 1 = .ok (.getfield 7, 3) := by decide +kernel
theorem d_prog_27_m5_4 : decode prog_27_method_5_code 4 = .ok (.areturn, 1) := by decide +kernel
set_option maxRecDepth 65536 in
set_option maxHeartbeats 40000000 in
theorem cNoteText {l : Launch} {Z : State} {a0 : Array Value} (W : Wd Z a0) {EL : List (String × Nat)} {vm : Vm} {h : Heap} {nw : Bool} {a u : Addr} (F : Fld Z h a "com/example/dormouse/dormouse/examples/Note" "text" "Ljava/lang/String;" (.ref u)) :
    Ctr nw l Z a0 EL (⟨"com/example/dormouse/dormouse/examples/Note", "text", "()Ljava/lang/String;"⟩ : MethodName) prog_27_method_5_code 1 (some (.object "java/lang/String")) ({ frames := 0, cells := 0, slots := 0, locals := 0 } : Room) #[.ref a] vm h (fun v vm' h' => v = some (.ref u) ∧ h' = h) := by
  refine Ctr.of_go (L0 := #[.val (.ref a)]) (by first | (simp [plainName, overriddenIn]; done) | decide +kernel) (fun m => by first | rfl | (simp [entryFrame, mkF, argsToLocals, Value.category]; done)) (fun p e s m below meth c vmi chi => ?_)
  refine Go.aload_n 1 d_prog_27_m5_0 rfl rfl rfl ?_
  refine Go.getfield 4 d_prog_27_m5_1 rfl (W.1 65 rfl) F ?_
  exact Go.areturn d_prog_27_m5_4 rfl rfl rfl (nl rfl) (nl rfl) (fun vm' ch => ⟨rfl, rfl⟩)
theorem d_prog_27_m1_0 : decode prog_27_method_1_code 0 = .ok (.aload_n 0, 1) := by decide +kernel
theorem d_prog_27_m1_1 : decode prog_27_method_1_code 1 = .ok (.invokespecial 1, 3) := by decide +kernel
theorem d_prog_27_m1_4 : decode prog_27_method_1_code 4 = .ok (.aload_n 0, 1) := by decide +kernel
theorem d_prog_27_m1_5 : decode prog_27_method_1_code 5 = .ok (.aload_n 1, 1) := by decide +kernel
theorem d_prog_27_m1_6 : decode prog_27_method_1_code 6 = .ok (.putfield 7, 3) := by decide +kernel
theorem d_prog_27_m1_9 : decode prog_27_method_1_code 9 = .ok (.return_, 1) := by decide +kernel
set_option maxRecDepth 65536 in
set_option maxHeartbeats 40000000 in
theorem cNoteInit {l : Launch} {Z : State} {a0 : Array Value} (W : Wd Z a0) {EL : List (String × Nat)} {vm : Vm} {h : Heap} {nw : Bool} {a s1 : Addr} {v0 : Value} (E : Exa Z h a "com/example/dormouse/dormouse/examples/Note") (F1 : Fld Z h a "com/example/dormouse/dormouse/examples/Note" "text" "Ljava/lang/String;" (v0)) (Sa : Safe Z EL vm h a) (hz : Z.heap.size ≤ a) :
    Ctr nw l Z a0 EL (⟨"com/example/dormouse/dormouse/examples/Note", "<init>", "(Ljava/lang/String;)V"⟩ : MethodName) prog_27_method_1_code 2 none ({ frames := 2, cells := 0, slots := 0, locals := 24 } : Room) #[.ref a, .ref s1] vm h (fun v vm' h' => v = none ∧ Keep h h' [a] ∧ Exa Z h' a "com/example/dormouse/dormouse/examples/Note" ∧ Fld Z h' a "com/example/dormouse/dormouse/examples/Note" "text" "Ljava/lang/String;" (.ref s1)) := by
  refine Ctr.of_go (L0 := #[.val (.ref a), .val (.ref s1)]) (by first | (simp [plainName, overriddenIn]; done) | decide +kernel) (fun m => by first | rfl | (simp [entryFrame, mkF, argsToLocals, Value.category]; done)) (fun p e s m below meth c vmi chi => ?_)
  refine Go.aload_n 1 d_prog_27_m1_0 rfl rfl rfl ?_
  refine Go.invokespecial (rest := []) 0 a [] 4 d_prog_27_m1_1 rfl rfl (W.1 64 rfl) (W.1 36 rfl) (W.1 38 rfl) (W.1 39 rfl) (by decide) (cRec W ) (by decide +kernel : parseMethodDescriptor "()V" = some ⟨[], none⟩) rfl rfl rfl (nl rfl) (nl rfl) (nl rfl) (nl rfl) (nl rfl) (fun v1 vm1 h1 ⟨rv, hh⟩ c1 => ?_)
  subst rv hh
  refine Go.aload_n 5 d_prog_27_m1_4 rfl rfl rfl ?_
  refine Go.aload_n 6 d_prog_27_m1_5 rfl rfl rfl ?_
  have f2 := CHr.safe (CHr.trans chi c1) E.lt Sa
  have L2 := Nat.lt_of_lt_of_le E.lt (CHr.trans chi c1).2.1
  refine Go.putfield 9 d_prog_27_m1_6 rfl (W.1 65 rfl) F1 E (Or.inr ⟨(W.1 66 rfl), rfl, rfl⟩) (W.1 54 rfl) (ty := (.object "java/lang/String")) (by decide) rfl rfl f2 hz (fun h3 X3 S3 c3 => ?_)
  exact Go.return_ d_prog_27_m1_9 rfl (nl rfl) (nl rfl) (fun vm' ch => ⟨rfl, Keep.of_wr X3, E.wr X3, F1.same X3⟩)
theorem d_prog_32_m2_0 : decode prog_32_method_2_code 0 = .ok (.new 7, 3) := by decide +kernel
theorem d_prog_32_m2_3 : decode prog_32_method_2_code 3 = .ok (.dup, 1) := by decide +kernel
theorem d_prog_32_m2_4 : decode prog_32_method_2_code 4 = .ok (.aload_n 1, 1) := by decide +kernel
theorem d_prog_32_m2_5 : decode prog_32_method_2_code 5 = .ok (.invokevirtual 9, 3) := by decide +kernel
theorem d_prog_32_m2_8 : decode prog_32_method_2_code 8 = .ok (.invokespecial 15, 3) := by decide +kernel
theorem d_prog_32_m2_11 : decode prog_32_method_2_code 11 = .ok (.areturn, 1) := by decide +kernel
set_option maxRecDepth 65536 in
set_option maxHeartbeats 40000000 in
theorem cNote {l : Launch} {Z : State} {a0 : Array Value} (W : Wd Z a0) {EL : List (String × Nat)} {vm : Vm} {h : Heap} {nw : Bool} {a u s1 : Addr} (E : Exa Z h u "com/example/dormouse/dormouse/agent/UserInput") (F : Fld Z h u "com/example/dormouse/dormouse/agent/UserInput" "text" "Ljava/lang/String;" (.ref s1)) :
    Ctr nw l Z a0 EL (⟨"com/example/dormouse/dormouse/examples/UnreachableAgent", "note", "(Lcom/example/dormouse/dormouse/agent/UserInput;)Lcom/example/dormouse/dormouse/examples/Note;"⟩ : MethodName) prog_32_method_2_code 2 (some (.object "com/example/dormouse/dormouse/examples/Note")) ({ frames := 3, cells := 1, slots := 1, locals := 38 } : Room) #[.ref a, .ref u] vm h (fun v vm' h' => ∃ b, v = some (.ref b) ∧ Ext h h' ∧ Exa Z h' b "com/example/dormouse/dormouse/examples/Note" ∧ Fld Z h' b "com/example/dormouse/dormouse/examples/Note" "text" "Ljava/lang/String;" (.ref s1)) := by
  refine Ctr.of_go (L0 := #[.val (.ref a), .val (.ref u)]) (by first | (simp [plainName, overriddenIn]; done) | decide +kernel) (fun m => by first | rfl | (simp [entryFrame, mkF, argsToLocals, Value.category]; done)) (fun p e s m below meth c vmi chi => ?_)
  refine Go.new 3 d_prog_32_m2_0 rfl (W.1 53 rfl) (W.1 54 rfl) (W.1 55 rfl) (nl rfl) (nl rfl) (fun b h1 e1 E1 ⟨A1, D1⟩ S1 z1 c1 => ?_)
  refine Go.dup 4 d_prog_32_m2_3 rfl rfl ?_
  refine Go.aload_n 5 d_prog_32_m2_4 rfl rfl rfl ?_
  have f2 := D1 (Or.inr (W.1 66 rfl)) (ty := (.object "java/lang/String")) (by decide)
  have f3 := F.ext E1
  have f4 := E.ext E1
  refine Go.invokevirtual (rest := [.ref b, .ref b]) 2 u [] 8 d_prog_32_m2_5 rfl f4 (W.1 56 rfl) (W.1 57 rfl) (fun s hs => notFace_of_selects (args := #[]) (mvT hs (W.1 59 rfl))) (W.1 59 rfl) (W.1 58 rfl) (W.1 31 rfl) (W.1 60 rfl) (by decide) (cUIText W f3) (by decide +kernel : parseMethodDescriptor "()Ljava/lang/String;" = some ⟨[], (some (.object "java/lang/String"))⟩) rfl rfl rfl (nl rfl) (nl rfl) (nl rfl) (nl rfl) (nl rfl) (fun v5 vm5 h5 ⟨rv, hh⟩ c5 => ?_)
  subst rv hh
  have f6 := CHr.safe c5 A1.lt S1
  have L6 := Nat.lt_of_lt_of_le A1.lt c5.2.1
  refine Go.invokespecial (rest := [.ref b]) 1 b [.ref s1] 11 d_prog_32_m2_8 rfl rfl (W.1 61 rfl) (W.1 62 rfl) (W.1 55 rfl) (W.1 63 rfl) (by decide) (cNoteInit W A1 f2 f6 z1) (by decide +kernel : parseMethodDescriptor "(Ljava/lang/String;)V" = some ⟨[(.object "java/lang/String")], none⟩) rfl rfl rfl (nl rfl) (nl rfl) (nl rfl) (nl rfl) (nl rfl) (fun v7 vm7 h7 ⟨rv, K, E', F'⟩ c7 => ?_)
  subst rv
  exact Go.areturn d_prog_32_m2_11 rfl rfl rfl (nl rfl) (nl rfl) (fun vm' ch => ⟨_, rfl, Ext.kp1 E1 K e1, E', F'⟩)
set_option maxRecDepth 65536 in
set_option maxHeartbeats 40000000 in
theorem cLaw {l : Launch} {Z : State} {a0 : Array Value} (W : Wd Z a0)  {vm : Vm} {h : Heap} {len a b d : Int32} :
    Ctr false l Z a0 consts_1 x code maxLocals ret room_1 #[.int len, .int a, .int b, .int d] vm h (fun v vm' h' => v = some (.int 1)) := by
  refine Ctr.of_go (L0 := #[.val (.int len), .val (.int a), .val (.int b), .val (.int d), .unset, .unset, .unset, .unset, .unset, .unset, .unset, .unset]) (by first | (simp [plainName, overriddenIn]; done) | decide +kernel) (fun m => by first | rfl | (simp [entryFrame, mkF, argsToLocals, Value.category]; done)) (fun p e s m below meth c vmi chi => ?_)
  refine Go.iload_n 1 at_0 rfl rfl ?_
  refine Go.iconst (3) 2 at_1 rfl rfl ?_
  refine Go.iand (len &&& (3 : Int32)) 3 at_2 rfl rfl ?_
  refine Go.istore #[.val (.int len), .val (.int a), .val (.int b), .val (.int d), .val (.int (len &&& (3 : Int32))), .unset, .unset, .unset, .unset, .unset, .unset, .unset] 5 at_3 rfl rfl ?_
  refine Go.iload_n 6 at_5 rfl rfl ?_
  refine Go.sipush (255) 9 at_6 rfl rfl ?_
  refine Go.iand (a &&& (255 : Int32)) 10 at_9 rfl rfl ?_
  refine Go.i2c (a &&& (255 : Int32)) 11 at_10 rfl (i2c_mask _) ?_
  refine Go.istore #[.val (.int len), .val (.int a), .val (.int b), .val (.int d), .val (.int (len &&& (3 : Int32))), .val (.int (a &&& (255 : Int32))), .unset, .unset, .unset, .unset, .unset, .unset] 13 at_11 rfl rfl ?_
  refine Go.iload_n 14 at_13 rfl rfl ?_
  refine Go.sipush (255) 17 at_14 rfl rfl ?_
  refine Go.iand (b &&& (255 : Int32)) 18 at_17 rfl rfl ?_
  refine Go.i2c (b &&& (255 : Int32)) 19 at_18 rfl (i2c_mask _) ?_
  refine Go.istore #[.val (.int len), .val (.int a), .val (.int b), .val (.int d), .val (.int (len &&& (3 : Int32))), .val (.int (a &&& (255 : Int32))), .val (.int (b &&& (255 : Int32))), .unset, .unset, .unset, .unset, .unset] 21 at_19 rfl rfl ?_
  refine Go.iload_n 22 at_21 rfl rfl ?_
  refine Go.sipush (255) 25 at_22 rfl rfl ?_
  refine Go.iand (d &&& (255 : Int32)) 26 at_25 rfl rfl ?_
  refine Go.i2c (d &&& (255 : Int32)) 27 at_26 rfl (i2c_mask _) ?_
  refine Go.istore #[.val (.int len), .val (.int a), .val (.int b), .val (.int d), .val (.int (len &&& (3 : Int32))), .val (.int (a &&& (255 : Int32))), .val (.int (b &&& (255 : Int32))), .val (.int (d &&& (255 : Int32))), .unset, .unset, .unset, .unset] 29 at_27 rfl rfl ?_
  refine Go.iload 31 at_29 rfl rfl ?_
  have J : ∀ (cs : List Int32) (sa : Addr) (vmj : Vm) (hj : Heap), Str Z hj sa cs → Go false p l e room_1 s m #[.int len, .int a, .int b, .int d] below meth c code maxLocals "law" ret Z a0 consts_1 "com/example/dormouse/dormouse/examples/UnreachableAgentNotePinLaw" (fun v vm' h' => v = some (.int 1)) vmj hj 12 40 133 #[.val (.int len), .val (.int a), .val (.int b), .val (.int d), .val (.int (len &&& (3 : Int32))), .val (.int (a &&& (255 : Int32))), .val (.int (b &&& (255 : Int32))), .val (.int (d &&& (255 : Int32))), .val (.ref sa), .unset, .unset, .unset] [] := by
    intro cs sa vmj hj Ts
    refine Go.new 136 at_133 rfl (W.1 22 rfl) (W.1 23 rfl) (W.1 24 rfl) (nl rfl) (nl rfl) (fun ag h1 e1 E1 ⟨A1, D1⟩ S1 z1 c1 => ?_)
    refine Go.dup 137 at_136 rfl rfl ?_
    refine Go.invokespecial (rest := [.ref ag]) 1 ag [] 140 at_137 rfl rfl (W.1 25 rfl) (W.1 26 rfl) (W.1 24 rfl) (W.1 27 rfl) (by decide) (cUA W ) (by decide +kernel : parseMethodDescriptor "()V" = some ⟨[], none⟩) rfl rfl rfl (nl rfl) (nl rfl) (nl rfl) (nl rfl) (nl rfl) (fun v2 vm2 h2 ⟨rv, hh⟩ c2 => ?_)
    subst rv hh
    refine Go.astore #[.val (.int len), .val (.int a), .val (.int b), .val (.int d), .val (.int (len &&& (3 : Int32))), .val (.int (a &&& (255 : Int32))), .val (.int (b &&& (255 : Int32))), .val (.int (d &&& (255 : Int32))), .val (.ref sa), .val (.ref ag), .unset, .unset] 142 at_140 rfl rfl rfl ?_
    refine Go.aload 144 at_142 rfl rfl rfl ?_
    refine Go.new 147 at_144 rfl (W.1 29 rfl) (W.1 30 rfl) (W.1 31 rfl) (nl rfl) (nl rfl) (fun ui h3 e3 E3 ⟨A3, D3⟩ S3 z3 c3 => ?_)
    refine Go.dup 148 at_147 rfl rfl ?_
    refine Go.aload 150 at_148 rfl rfl rfl ?_
    have f4 := D3 (Or.inr (W.1 47 rfl)) (ty := (.object "java/lang/String")) (by decide)
    refine Go.invokespecial (rest := [.ref ui, .ref ag]) 2 ui [.ref sa] 153 at_150 rfl rfl (W.1 32 rfl) (W.1 33 rfl) (W.1 31 rfl) (W.1 34 rfl) (by decide) (cUI W (by decide) A3 f4 S3 z3) (by decide +kernel : parseMethodDescriptor "(Ljava/lang/String;)V" = some ⟨[(.object "java/lang/String")], none⟩) rfl rfl rfl (nl rfl) (nl rfl) (nl rfl) (nl rfl) (nl rfl) (fun v5 vm5 h5 ⟨rv, K, E', F'⟩ c5 => ?_)
    subst rv
    have EK := Ext.kp1 E3 K e3
    have f6 := A1.ext EK
    refine Go.invokevirtual (rest := []) 0 ag [.ref ui] 156 at_153 rfl f6 (W.1 48 rfl) (W.1 49 rfl) (fun s hs => notFace_of_selects (args := #[]) (mvT hs (W.1 51 rfl))) (W.1 51 rfl) (W.1 50 rfl) (W.1 24 rfl) (W.1 52 rfl) (by decide) (cNote W E' F') (by decide +kernel : parseMethodDescriptor "(Lcom/example/dormouse/dormouse/agent/UserInput;)Lcom/example/dormouse/dormouse/examples/Note;" = some ⟨[(.object "com/example/dormouse/dormouse/agent/UserInput")], (some (.object "com/example/dormouse/dormouse/examples/Note"))⟩) rfl rfl rfl (nl rfl) (nl rfl) (nl rfl) (nl rfl) (nl rfl) (fun v7 vm7 h7 ⟨nb, rv, E2, X2, G2⟩ c7 => ?_)
    subst rv
    refine Go.astore #[.val (.int len), .val (.int a), .val (.int b), .val (.int d), .val (.int (len &&& (3 : Int32))), .val (.int (a &&& (255 : Int32))), .val (.int (b &&& (255 : Int32))), .val (.int (d &&& (255 : Int32))), .val (.ref sa), .val (.ref ag), .val (.ref nb), .unset] 158 at_156 rfl rfl rfl ?_
    refine Go.aload 160 at_158 rfl rfl rfl ?_
    refine Go.ifnonnull_y 165 at_160 (by decide) rfl ?_
    refine Go.aload 167 at_165 rfl rfl rfl ?_
    refine Go.invokevirtual (rest := []) 0 nb [] 170 at_167 rfl X2 (W.1 67 rfl) (W.1 68 rfl) (fun s hs => notFace_of_selects (args := #[]) (mvT hs (W.1 70 rfl))) (W.1 70 rfl) (W.1 69 rfl) (W.1 55 rfl) (W.1 71 rfl) (by decide) (cNoteText W G2) (by decide +kernel : parseMethodDescriptor "()Ljava/lang/String;" = some ⟨[], (some (.object "java/lang/String"))⟩) rfl rfl rfl (nl rfl) (nl rfl) (nl rfl) (nl rfl) (nl rfl) (fun v8 vm8 h8 ⟨rv, hh⟩ c8 => ?_)
    subst rv hh
    refine Go.astore #[.val (.int len), .val (.int a), .val (.int b), .val (.int d), .val (.int (len &&& (3 : Int32))), .val (.int (a &&& (255 : Int32))), .val (.int (b &&& (255 : Int32))), .val (.int (d &&& (255 : Int32))), .val (.ref sa), .val (.ref ag), .val (.ref nb), .val (.ref sa)] 172 at_170 rfl rfl rfl ?_
    refine Go.aload 174 at_172 rfl rfl rfl ?_
    refine Go.ifnonnull_y 179 at_174 (by decide) rfl ?_
    refine Go.aload 181 at_179 rfl rfl rfl ?_
    refine Go.aload 183 at_181 rfl rfl rfl ?_
    have f9 := Ts.ext (Ext.tr E1 (Ext.tr EK E2))
    refine Go.invokevirtual (rest := []) 0 sa [.ref sa] 186 at_183 rfl f9.exa (W.1 72 rfl) (W.1 73 rfl) (fun s hs => notFace_of_selects (args := #[]) (mvT hs (W.1 75 rfl))) (W.1 75 rfl) (W.1 74 rfl) (W.1 2 rfl) (W.1 76 rfl) (by decide) (cEqSelf W (a := sa)) (by decide +kernel : parseMethodDescriptor "(Ljava/lang/Object;)Z" = some ⟨[(.object "java/lang/Object")], (some .boolean)⟩) rfl rfl rfl (nl rfl) (nl rfl) (nl rfl) (nl rfl) (nl rfl) (fun v10 vm10 h10 ⟨rv, hh⟩ c10 => ?_)
    subst rv hh
    exact Go.ireturn at_186 rfl rfl (by simp) (nl rfl) (nl rfl) (fun vm' ch => rfl)
  refine Go.ifne 49 34 at_31 (by decide) rfl rfl (fun q11 => ?_) (fun q11 => ?_)
  · refine Go.iload 51 at_49 rfl rfl ?_
    refine Go.iconst (1) 52 at_51 rfl rfl ?_
    refine Go.if_icmpne 75 55 at_52 (by decide) rfl rfl (fun q12 => ?_) (fun q12 => ?_)
    · refine Go.iload 77 at_75 rfl rfl ?_
      refine Go.iconst (2) 78 at_77 rfl rfl ?_
      refine Go.if_icmpne 106 81 at_78 (by decide) rfl rfl (fun q13 => ?_) (fun q13 => ?_)
      · refine Go.new 109 at_106 rfl (W.1 0 rfl) (W.1 1 rfl) (W.1 2 rfl) (nl rfl) (nl rfl) (fun x1 h14 e14 E14 ⟨A14, D14⟩ S14 z14 c14 => ?_)
        refine Go.dup 110 at_109 rfl rfl ?_
        refine Go.iconst (3) 111 at_110 rfl rfl ?_
        refine Go.newarray 3 113 at_111 rfl (W.1 3 rfl) (by decide) (by decide) (by decide) (nl rfl) (nl rfl) (fun b1 h15 e15 E15 ⟨k15, B15⟩ S15 z15 c15 => ?_)
        have A15 : Arv Z h15 b1 k15 .char (3 : Int32) [.int 0, .int 0, .int 0] (.int 0) := B15.pad (pad_rep [] (.int 0) 3)
        refine Go.dup 114 at_113 rfl rfl ?_
        refine Go.iconst (0) 115 at_114 rfl rfl ?_
        refine Go.iload 117 at_115 rfl rfl ?_
        refine Go.castore 0 (a &&& (255 : Int32)) [.int (a &&& (255 : Int32)), .int 0, .int 0] 118 at_117 rfl A15 (by decide) rfl (nl rfl) (narC (and255 _)) rfl S15 z15 (fun h16 K16 A16 S16 c16 => ?_)
        have E16 := Ext.kp1 E15 K16 e15
        refine Go.dup 119 at_118 rfl rfl ?_
        refine Go.iconst (1) 120 at_119 rfl rfl ?_
        refine Go.iload 122 at_120 rfl rfl ?_
        refine Go.castore 1 (b &&& (255 : Int32)) [.int (a &&& (255 : Int32)), .int (b &&& (255 : Int32)), .int 0] 123 at_122 rfl A16 (by decide) rfl (nl rfl) (narC (and255 _)) rfl S16 z15 (fun h17 K17 A17 S17 c17 => ?_)
        have E17 := Ext.kp1 E16 K17 e15
        refine Go.dup 124 at_123 rfl rfl ?_
        refine Go.iconst (2) 125 at_124 rfl rfl ?_
        refine Go.iload 127 at_125 rfl rfl ?_
        refine Go.castore 2 (d &&& (255 : Int32)) [.int (a &&& (255 : Int32)), .int (b &&& (255 : Int32)), .int (d &&& (255 : Int32))] 128 at_127 rfl A17 (by decide) rfl (nl rfl) (narC (and255 _)) rfl S17 z15 (fun h18 K18 A18 S18 c18 => ?_)
        have E18 := Ext.kp1 E17 K18 e15
        have f20 := D14 (Or.inr (W.1 16 rfl)) (ty := (.array .byte)) (by decide)
        have f21 := D14 (Or.inr (W.1 17 rfl)) (ty := .byte) (by decide)
        have f22 := A14.ext E18
        have f23 := f20.ext E18
        have f24 := f21.ext E18
        have f25 := CHr.safe (CHr.trans c15 (CHr.trans c16 (CHr.trans c17 c18))) A14.lt S14
        have L25 := Nat.lt_of_lt_of_le A14.lt (CHr.trans c15 (CHr.trans c16 (CHr.trans c17 c18))).2.1
        refine goStrNew W 1 [(a &&& (255 : Int32)), (b &&& (255 : Int32)), (d &&& (255 : Int32))] 131 at_128 rfl (W.1 4 rfl) f22 f23 f24 A18 rfl (nl rfl) (nl rfl) (by intro c hc; simp only [List.mem_cons, List.not_mem_nil, or_false] at hc; rcases hc with rfl | rfl | rfl <;> exact and255 _) rfl rfl (nl rfl) (nl rfl) (nl rfl) (nl rfl) (nl rfl) f25 z14 (fun h19 K19 T19 c19 => ?_)
        have E19 := Ext.kp1 (Ext.tr E14 E18) K19 e14
        refine Go.astore #[.val (.int len), .val (.int a), .val (.int b), .val (.int d), .val (.int (len &&& (3 : Int32))), .val (.int (a &&& (255 : Int32))), .val (.int (b &&& (255 : Int32))), .val (.int (d &&& (255 : Int32))), .val (.ref x1), .unset, .unset, .unset] 133 at_131 rfl rfl rfl ?_
        refine Go.mono (k' := 12) (n' := 40) (nl rfl) (nl rfl) ?_
        exact J _ _ _ _ T19
      · refine Go.new 84 at_81 rfl (W.1 0 rfl) (W.1 1 rfl) (W.1 2 rfl) (nl rfl) (nl rfl) (fun x1 h26 e26 E26 ⟨A26, D26⟩ S26 z26 c26 => ?_)
        refine Go.dup 85 at_84 rfl rfl ?_
        refine Go.iconst (2) 86 at_85 rfl rfl ?_
        refine Go.newarray 2 88 at_86 rfl (W.1 3 rfl) (by decide) (by decide) (by decide) (nl rfl) (nl rfl) (fun b1 h27 e27 E27 ⟨k27, B27⟩ S27 z27 c27 => ?_)
        have A27 : Arv Z h27 b1 k27 .char (2 : Int32) [.int 0, .int 0] (.int 0) := B27.pad (pad_rep [] (.int 0) 2)
        refine Go.dup 89 at_88 rfl rfl ?_
        refine Go.iconst (0) 90 at_89 rfl rfl ?_
        refine Go.iload 92 at_90 rfl rfl ?_
        refine Go.castore 0 (a &&& (255 : Int32)) [.int (a &&& (255 : Int32)), .int 0] 93 at_92 rfl A27 (by decide) rfl (nl rfl) (narC (and255 _)) rfl S27 z27 (fun h28 K28 A28 S28 c28 => ?_)
        have E28 := Ext.kp1 E27 K28 e27
        refine Go.dup 94 at_93 rfl rfl ?_
        refine Go.iconst (1) 95 at_94 rfl rfl ?_
        refine Go.iload 97 at_95 rfl rfl ?_
        refine Go.castore 1 (b &&& (255 : Int32)) [.int (a &&& (255 : Int32)), .int (b &&& (255 : Int32))] 98 at_97 rfl A28 (by decide) rfl (nl rfl) (narC (and255 _)) rfl S28 z27 (fun h29 K29 A29 S29 c29 => ?_)
        have E29 := Ext.kp1 E28 K29 e27
        have f31 := D26 (Or.inr (W.1 16 rfl)) (ty := (.array .byte)) (by decide)
        have f32 := D26 (Or.inr (W.1 17 rfl)) (ty := .byte) (by decide)
        have f33 := A26.ext E29
        have f34 := f31.ext E29
        have f35 := f32.ext E29
        have f36 := CHr.safe (CHr.trans c27 (CHr.trans c28 c29)) A26.lt S26
        have L36 := Nat.lt_of_lt_of_le A26.lt (CHr.trans c27 (CHr.trans c28 c29)).2.1
        refine goStrNew W 1 [(a &&& (255 : Int32)), (b &&& (255 : Int32))] 101 at_98 rfl (W.1 4 rfl) f33 f34 f35 A29 rfl (nl rfl) (nl rfl) (by intro c hc; simp only [List.mem_cons, List.not_mem_nil, or_false] at hc; rcases hc with rfl | rfl <;> exact and255 _) rfl rfl (nl rfl) (nl rfl) (nl rfl) (nl rfl) (nl rfl) f36 z26 (fun h30 K30 T30 c30 => ?_)
        have E30 := Ext.kp1 (Ext.tr E26 E29) K30 e26
        refine Go.astore #[.val (.int len), .val (.int a), .val (.int b), .val (.int d), .val (.int (len &&& (3 : Int32))), .val (.int (a &&& (255 : Int32))), .val (.int (b &&& (255 : Int32))), .val (.int (d &&& (255 : Int32))), .val (.ref x1), .unset, .unset, .unset] 103 at_101 rfl rfl rfl ?_
        refine Go.goto 133 at_103 (by decide) rfl ?_
        refine Go.mono (k' := 12) (n' := 40) (nl rfl) (nl rfl) ?_
        exact J _ _ _ _ T30
    · refine Go.new 58 at_55 rfl (W.1 0 rfl) (W.1 1 rfl) (W.1 2 rfl) (nl rfl) (nl rfl) (fun x1 h37 e37 E37 ⟨A37, D37⟩ S37 z37 c37 => ?_)
      refine Go.dup 59 at_58 rfl rfl ?_
      refine Go.iconst (1) 60 at_59 rfl rfl ?_
      refine Go.newarray 1 62 at_60 rfl (W.1 3 rfl) (by decide) (by decide) (by decide) (nl rfl) (nl rfl) (fun b1 h38 e38 E38 ⟨k38, B38⟩ S38 z38 c38 => ?_)
      have A38 : Arv Z h38 b1 k38 .char (1 : Int32) [.int 0] (.int 0) := B38.pad (pad_rep [] (.int 0) 1)
      refine Go.dup 63 at_62 rfl rfl ?_
      refine Go.iconst (0) 64 at_63 rfl rfl ?_
      refine Go.iload 66 at_64 rfl rfl ?_
      refine Go.castore 0 (a &&& (255 : Int32)) [.int (a &&& (255 : Int32))] 67 at_66 rfl A38 (by decide) rfl (nl rfl) (narC (and255 _)) rfl S38 z38 (fun h39 K39 A39 S39 c39 => ?_)
      have E39 := Ext.kp1 E38 K39 e38
      have f41 := D37 (Or.inr (W.1 16 rfl)) (ty := (.array .byte)) (by decide)
      have f42 := D37 (Or.inr (W.1 17 rfl)) (ty := .byte) (by decide)
      have f43 := A37.ext E39
      have f44 := f41.ext E39
      have f45 := f42.ext E39
      have f46 := CHr.safe (CHr.trans c38 c39) A37.lt S37
      have L46 := Nat.lt_of_lt_of_le A37.lt (CHr.trans c38 c39).2.1
      refine goStrNew W 1 [(a &&& (255 : Int32))] 70 at_67 rfl (W.1 4 rfl) f43 f44 f45 A39 rfl (nl rfl) (nl rfl) (by intro c hc; simp only [List.mem_cons, List.not_mem_nil, or_false] at hc; rcases hc with rfl <;> exact and255 _) rfl rfl (nl rfl) (nl rfl) (nl rfl) (nl rfl) (nl rfl) f46 z37 (fun h40 K40 T40 c40 => ?_)
      have E40 := Ext.kp1 (Ext.tr E37 E39) K40 e37
      refine Go.astore #[.val (.int len), .val (.int a), .val (.int b), .val (.int d), .val (.int (len &&& (3 : Int32))), .val (.int (a &&& (255 : Int32))), .val (.int (b &&& (255 : Int32))), .val (.int (d &&& (255 : Int32))), .val (.ref x1), .unset, .unset, .unset] 72 at_70 rfl rfl rfl ?_
      refine Go.goto 133 at_72 (by decide) rfl ?_
      refine Go.mono (k' := 12) (n' := 40) (nl rfl) (nl rfl) ?_
      exact J _ _ _ _ T40
  · refine Go.new 37 at_34 rfl (W.1 0 rfl) (W.1 1 rfl) (W.1 2 rfl) (nl rfl) (nl rfl) (fun x1 h47 e47 E47 ⟨A47, D47⟩ S47 z47 c47 => ?_)
    refine Go.dup 38 at_37 rfl rfl ?_
    refine Go.iconst (0) 39 at_38 rfl rfl ?_
    refine Go.newarray 0 41 at_39 rfl (W.1 3 rfl) (by decide) (by decide) (by decide) (nl rfl) (nl rfl) (fun b1 h48 e48 E48 ⟨k48, B48⟩ S48 z48 c48 => ?_)
    have A48 : Arv Z h48 b1 k48 .char (0 : Int32) [] (.int 0) := B48.pad (pad_rep [] (.int 0) 0)
    have f49 := D47 (Or.inr (W.1 16 rfl)) (ty := (.array .byte)) (by decide)
    have f50 := D47 (Or.inr (W.1 17 rfl)) (ty := .byte) (by decide)
    have f51 := A47.ext E48
    have f52 := f49.ext E48
    have f53 := f50.ext E48
    have f54 := CHr.safe c48 A47.lt S47
    have L54 := Nat.lt_of_lt_of_le A47.lt c48.2.1
    refine Go.invokespecial (rest := [.ref x1]) 1 x1 [.ref b1] 44 at_41 rfl rfl (W.1 4 rfl) (W.1 5 rfl) (W.1 2 rfl) (W.1 6 rfl) (by decide) (cEmp1 W (by decide) f51 f52 f53 A48 f54 z47) (by decide +kernel : parseMethodDescriptor "([C)V" = some ⟨[(.array .char)], none⟩) rfl rfl rfl (nl rfl) (nl rfl) (nl rfl) (nl rfl) (nl rfl) (fun v55 vm55 h55 ⟨rv, K55, T55⟩ c55 => ?_)
    subst rv
    have E55 := Ext.kp1 (Ext.tr E47 E48) K55 e47
    refine Go.astore #[.val (.int len), .val (.int a), .val (.int b), .val (.int d), .val (.int (len &&& (3 : Int32))), .val (.int (a &&& (255 : Int32))), .val (.int (b &&& (255 : Int32))), .val (.int (d &&& (255 : Int32))), .val (.ref x1), .unset, .unset, .unset] 46 at_44 rfl rfl rfl ?_
    refine Go.goto 133 at_46 (by decide) rfl ?_
    refine Go.mono (k' := 12) (n' := 40) (nl rfl) (nl rfl) ?_
    exact J _ _ _ _ T55
set_option maxRecDepth 65536 in
theorem comes_1 {Post : Tables → Env → Array Value → State → Outcome → State → Prop} (hpost : ∀ tb e args s v u, (limb_1_1.after args s (.returned v) u = true ∧ limb_1_2.after args s (.returned v) u = true ∧ True) → Jvm.D.FramedW s (.returned v) u (Jvm.fieldLocs frame_1_writes args s ++ Jvm.arrayLocs frame_1_arrays args s ++ Jvm.staticLocs frame_1_statics s) 24 2176 → Post tb e args s (.returned v) u) :
    ArmFor flags0 classFile x code maxLocals ret World_1 tables_1 room_1 Calls_1 rest_1 Pre_1 Post := by
  intro l hfl _ _ p e ha hc hk s m args below hf hA hF happ hP
  obtain ⟨hcalls, hrest, hpre⟩ := hP
  obtain ⟨-, -, -, hnamed, -, -, -, hat⟩ := (Spec.applies_iff hf).mp happ
  obtain ⟨hg, hn⟩ := and_e (Cond.before_iff.mp (show (Jvm.Cond.and given_1 narrow_1).before args s = true from hpre))
  obtain ⟨g0, r0⟩ := and_e hg
  obtain ⟨g1, r1⟩ := and_e r0
  obtain ⟨g2, r2⟩ := and_e r1
  obtain ⟨g3, r3⟩ := and_e r2
  obtain ⟨w0, w1, w2, w3, rfl⟩ : ∃ w0 w1 w2 w3 : Value, args = #[w0, w1, w2, w3] := by
    have hs : args.size = 4 := by simpa [Cond.value, given_1] using g0
    obtain ⟨L⟩ := args
    match L, hs with
    | [w0, w1, w2, w3], _ => exact ⟨w0, w1, w2, w3, rfl⟩
  have hw := fun d (hd : d ∈ tables_1) => atoms_spec (ws := Jvm.Cond.code x code maxLocals ret :: tables_1) hat d (List.mem_cons_of_mem _ hd)
  obtain ⟨hsets, hown0⟩ := atoms_of _ (rest_1_c_eq ▸ (show rest_1_c.before _ s = true from hrest))
  obtain ⟨i0, ei0⟩ := is_v g1
  obtain rfl : w0 = (.int i0) := Option.some.inj ei0
  obtain ⟨i1, ei1⟩ := is_v g2
  obtain rfl : w1 = (.int i1) := Option.some.inj ei1
  obtain ⟨i2, ei2⟩ := is_v g3
  obtain rfl : w2 = (.int i2) := Option.some.inj ei2
  obtain ⟨i3, ei3⟩ := is_v r3
  obtain rfl : w3 = (.int i3) := Option.some.inj ei3
  have n5 := not_v (Cond.before_iff.mp (hsets _ (List.mem_of_getElem? (i := 2) rfl)))
  obtain ⟨zz, ez⟩ := is_v (Cond.before_iff.mp (hsets _ (List.mem_of_getElem? (i := 1) rfl)))
  have Sz : Sta s s.heap "java/lang/String" "COMPACT_STRINGS" "Z" (.int zz) := Sta.start ez (Or.inl (hsets _ (List.mem_of_getElem? (i := 0) rfl)))
  obtain ⟨vf, ef, rf⟩ := isR_v (Cond.before_iff.mp (hsets _ (List.mem_of_getElem? (i := 8) rfl)))
  have Sf : Sta s s.heap "jdk/internal/util/Preconditions" "SIOOBE_FORMATTER" "Ljava/util/function/BiFunction;" vf := Sta.start ef (Or.inl (hsets _ (List.mem_of_getElem? (i := 7) rfl)))
  have cz : ¬ (zz = (0 : Int32)) := gotF (Cond.eq_ints ez (Term.int_eval (0))) n5
  have W : Wd s #[.int i0, .int i1, .int i2, .int i3] := ⟨fun k _ q => hw _ (List.mem_of_getElem? q), ⟨zz, Sz, cz⟩, vf, Sf, rf⟩
  have hEW : EW s #[.int i0, .int i1, .int i2, .int i3] consts_1 := (EW.cons (W.1 41 rfl) (by decide +kernel) (EW.cons (W.1 14 rfl) (by decide +kernel) EW.nil))
  have H : CHv s consts_1 s.vm s.heap := CHv.start hEW (fun p hp => hcalls.1 p hp) (hsets _ (List.mem_of_getElem? (i := 2) rfl)) (W.1 15 rfl) (W.1 1 rfl)
  obtain ⟨n, o, h1, h2, h3, v, L, rfl, q1, -, -, N, hq, hnw⟩ := cLaw W (len := i0) (a := i1) (b := i2) (d := i3) (l := l) tables_1 p e ha hc hk s m _ below hf ((Spec.applies_iff_loose hf).mp happ).1 ⟨rfl, State.Warmed39.refl s, rfl, CHr.refl H, Ext.rfl' _, hEW⟩ trivial
  subst q1
  obtain ⟨a1, a2, a3, a4⟩ := hq
  refine ⟨n, _, h1, h2, h3, hpost _ _ _ _ _ _ ⟨Cond.after_iff.mpr rfl, Cond.after_iff.mpr (eq_i res_at (Term.int_eval (1)) rfl), trivial⟩ ⟨a1, a2, a3, (a4.sift fun y hy => Or.inr (N y hy)).mono (by decide) (by decide)⟩⟩
theorem main_1_1 : Claimed_1_1 := comes_1 fun _ _ _ _ _ _ h hF => ⟨h.1, hF⟩
theorem main_1_2 : Claimed_1_2 := comes_1 fun _ _ _ _ _ _ h hF => ⟨h.2.1, hF⟩
end Jvm.Pilot.@@N@@
namespace Jvm.Pilot.@@N@@
open Jvm Jvm.ClassFile Sem Op Lib Jvm.Free Jvm.Stand Jvm.Pilot.@@N@@.Jvm.D
/-! MADE BY PROGRAM (witnessworld.py) out of the Statement's table words and the real class files: 24 classes; the members and pool entries that the words name. The judged class is class 1, her method 1. -/
namespace start1
open Jvm.ClassFile
def u (s : String) : CpInfo := .utf8 (stringToUtf16 s)
/-- a pool by its gaps: so many unusable entries, then the entry; so many at the end -/
def gap : Nat → List CpInfo → List CpInfo
  | 0, r => r
  | n + 1, r => .unusable :: gap n r
def poolList (es : List (Nat × CpInfo)) (last : Nat) : List CpInfo := es.foldr (fun e r => gap e.1 (e.2 :: r)) (gap last [])
def pool (es : List (Nat × CpInfo)) (last : Nat) : Array CpInfo := ⟨poolList es last⟩
def fileOf (pool : Array CpInfo) (this : Nat) (attrs : Array Attribute := #[]) (ms : Array MethodInfo := #[]) (fl : Nat := 33) (sup : Nat := 0) (ifs : Array Nat := #[]) (fds : Array FieldInfo := #[]) : ClassFile where
  minorVersion := 0
  majorVersion := 65
  constantPool := pool
  accessFlags := fl
  thisClass := this
  superClass := sup
  interfaces := ifs
  fields := fds
  methods := ms
  attributes := attrs
def plain (name : String) (sup : Option ClassId) : Class where
  name := name
  kind := .ordinary
  loader := none
  accessFlags := 33
  super := sup
  interfaces := #[]
  cf := none
  fields := #[]
  methods := #[]
  instanceTypes := #[]
  staticTypes := #[]
  resolved := #[]
  callSites := []
  init := .initialized
  statics := none
  mirror := none

def pool0 : Array CpInfo := pool [(5, u "<init>"), (0, u "()V"), (1, .class_ 10), (1, u "java/lang/Object")] 113

def k0c0 : Code := { maxStack := 0, maxLocals := 1, code := object_method_1_code, exceptionTable := #[], attributes := #[] }
def k0m0 : Method := { name := "<init>", desc := "()V", sig := { parameters := [], returnType := none }, accessFlags := 1, code := some k0c0 }
/-- java/lang/Object -/
def k0 : Class := { plain "java/lang/Object" none with
  accessFlags := 33
  interfaces := #[]
  cf := some (fileOf pool0 8 #[] #[{ accessFlags := 1, nameIndex := 5, descriptorIndex := 6, attributes := #[] }] 33 0 #[] #[])
  fields := #[]
  methods := #[k0m0]
  instanceTypes := #[]
  staticTypes := #[]
  resolved := Array.replicate 124 none
  statics := none }

def pool1 : Array CpInfo := pool [(2, .class_ 4), (0, .nameAndType 5 6), (0, u "java/lang/Object"), (0, u "<init>"), (0, u "()V"), (0, .class_ 8), (0, u "java/lang/String"), (0, .methodref 7 10), (0, .nameAndType 5 11), (0, u "([C)V"), (0, .class_ 13), (0, u "com/example/dormouse/dormouse/examples/UnreachableAgent"), (0, .methodref 12 3), (0, .class_ 16), (0, u "com/example/dormouse/dormouse/agent/UserInput"), (0, .methodref 15 18), (0, .nameAndType 5 19), (0, u "(Ljava/lang/String;)V"), (0, .methodref 12 21), (0, .nameAndType 22 23), (0, u "note"), (0, u "(Lcom/example/dormouse/dormouse/agent/UserInput;)Lcom/example/dormouse/dormouse/examples/Note;"), (0, .methodref 25 26), (0, .class_ 27), (0, .nameAndType 28 29), (0, u "com/example/dormouse/dormouse/examples/Note"), (0, u "text"), (0, u "()Ljava/lang/String;"), (0, .methodref 7 31), (0, .nameAndType 32 33), (0, u "equals"), (0, u "(Ljava/lang/Object;)Z"), (0, .class_ 35), (0, u "com/example/dormouse/dormouse/examples/UnreachableAgentNotePinLaw"), (2, u "law"), (0, u "(IIII)Z")] 3

def k1m0 : Method := { name := "<init>", desc := "()V", sig := { parameters := [], returnType := none }, accessFlags := 1, code := none }
def k1c1 : Code := { maxStack := 6, maxLocals := 12, code := code, exceptionTable := #[], attributes := #[] }
def k1m1 : Method := { name := "law", desc := "(IIII)Z", sig := { parameters := [.int, .int, .int, .int], returnType := some .boolean }, accessFlags := 9, code := some k1c1 }
/-- com/example/dormouse/dormouse/examples/UnreachableAgentNotePinLaw -/
def k1 : Class := { plain "com/example/dormouse/dormouse/examples/UnreachableAgentNotePinLaw" (some 0) with
  accessFlags := 49
  interfaces := #[]
  cf := some (fileOf pool1 34 #[] #[{ accessFlags := 1, nameIndex := 5, descriptorIndex := 6, attributes := #[] }, { accessFlags := 9, nameIndex := 38, descriptorIndex := 39, attributes := #[] }] 49 2 #[] #[])
  fields := #[]
  methods := #[k1m0, k1m1]
  instanceTypes := #[]
  staticTypes := #[]
  resolved := Array.replicate 43 none
  statics := none }

def pool2 : Array CpInfo := pool [(1, .class_ 2), (0, u "java/io/Serializable"), (0, .class_ 4), (0, u "java/lang/Object")] 2

/-- java/io/Serializable -/
def k2 : Class := { plain "java/io/Serializable" (some 0) with
  accessFlags := 1537
  interfaces := #[]
  cf := some (fileOf pool2 1 #[] #[] 1537 3 #[] #[])
  fields := #[]
  methods := #[]
  instanceTypes := #[]
  staticTypes := #[]
  resolved := Array.replicate 7 none
  statics := none }

def pool3 : Array CpInfo := pool [(1, .class_ 2), (0, u "java/lang/Comparable"), (0, .class_ 4), (0, u "java/lang/Object")] 7

/-- java/lang/Comparable -/
def k3 : Class := { plain "java/lang/Comparable" (some 0) with
  accessFlags := 1537
  interfaces := #[]
  cf := some (fileOf pool3 1 #[] #[] 1537 3 #[] #[])
  fields := #[]
  methods := #[]
  instanceTypes := #[]
  staticTypes := #[]
  resolved := Array.replicate 12 none
  statics := none }

def pool4 : Array CpInfo := pool [(2, .class_ 4), (1, u "java/lang/CharSequence"), (42, .class_ 48), (0, u "java/lang/CharSequence$1CodePointIterator"), (10, .class_ 60), (0, u "java/lang/CharSequence$1CharIterator"), (5, .class_ 67), (0, u "java/lang/Object")] 63

/-- java/lang/CharSequence -/
def k4 : Class := { plain "java/lang/CharSequence" (some 0) with
  accessFlags := 1537
  interfaces := #[]
  cf := some (fileOf pool4 2 #[.nestMembers #[47, 59]] #[] 1537 66 #[] #[])
  fields := #[]
  methods := #[]
  instanceTypes := #[]
  staticTypes := #[]
  resolved := Array.replicate 131 none
  statics := none }

def pool5 : Array CpInfo := pool [(1, .class_ 2), (0, u "java/lang/constant/Constable"), (0, .class_ 4), (0, u "java/lang/Object")] 6

/-- java/lang/constant/Constable -/
def k5 : Class := { plain "java/lang/constant/Constable" (some 0) with
  accessFlags := 1537
  interfaces := #[]
  cf := some (fileOf pool5 1 #[] #[] 1537 3 #[] #[])
  fields := #[]
  methods := #[]
  instanceTypes := #[]
  staticTypes := #[]
  resolved := Array.replicate 11 none
  statics := none }

def pool6 : Array CpInfo := pool [(1, .class_ 2), (0, u "java/lang/constant/ConstantDesc"), (0, .class_ 4), (0, u "java/lang/Object")] 32

/-- java/lang/constant/ConstantDesc -/
def k6 : Class := { plain "java/lang/constant/ConstantDesc" (some 0) with
  accessFlags := 1537
  interfaces := #[]
  cf := some (fileOf pool6 1 #[] #[] 1537 3 #[] #[])
  fields := #[]
  methods := #[]
  instanceTypes := #[]
  staticTypes := #[]
  resolved := Array.replicate 37 none
  statics := none }

def pool7 : Array CpInfo := pool [(1, .methodref 2 3), (0, .class_ 4), (0, .nameAndType 5 6), (0, u "java/lang/Object"), (0, u "<init>"), (0, u "()V"), (0, .string 8), (0, u ""), (0, .fieldref 10 11), (0, .class_ 12), (0, .nameAndType 13 14), (0, u "java/lang/String"), (0, u "value"), (0, u "[B"), (0, .fieldref 10 16), (0, .nameAndType 17 18), (0, u "coder"), (0, u "B"), (2, u "hash"), (0, u "I"), (2, u "hashIsZero"), (0, u "Z"), (0, .methodref 10 28), (0, .nameAndType 5 29), (0, u "([CIILjava/lang/Void;)V"), (8, .fieldref 10 39), (0, .nameAndType 40 26), (0, u "COMPACT_STRINGS"), (1, .class_ 44), (1, u "java/lang/StringUTF16"), (0, u "compress"), (1, .methodref 42 48), (0, .nameAndType 49 50), (0, u "coderFromArrayLen"), (0, u "([BI)B"), (126, .methodref 42 178), (0, .nameAndType 45 179), (0, u "([CII)[B"), (363, u "equals"), (29, u "(Ljava/lang/Object;)Z"), (1, .class_ 576), (0, u "java/lang/CharSequence"), (22, u "CASE_INSENSITIVE_ORDER"), (0, u "Ljava/util/Comparator;"), (409, u "([C)V"), (90, u "serialPersistentFields"), (0, u "[Ljava/io/ObjectStreamField;"), (0, .class_ 1104), (0, u "java/lang/String$CaseInsensitiveComparator"), (1, .class_ 1107), (0, u "java/io/Serializable"), (0, .class_ 1109), (0, u "java/lang/Comparable"), (0, .class_ 1111), (0, u "java/lang/constant/Constable"), (0, .class_ 1113), (0, u "java/lang/constant/ConstantDesc"), (2, u "serialVersionUID"), (0, u "J"), (3, u "REPL"), (0, u "C"), (2, u "LATIN1"), (1, u "UTF16")] 323

def k7m0 : Method := { name := "<init>", desc := "()V", sig := { parameters := [], returnType := none }, accessFlags := 1, code := none }
def k7c1 : Code := { maxStack := 5, maxLocals := 2, code := jdk_42_method_3_code, exceptionTable := #[], attributes := #[] }
def k7m1 : Method := { name := "<init>", desc := "([C)V", sig := { parameters := [(.array .char)], returnType := none }, accessFlags := 1, code := some k7c1 }
def k7c2 : Code := { maxStack := 2, maxLocals := 3, code := jdk_42_method_66_code, exceptionTable := #[], attributes := #[] }
def k7m2 : Method := { name := "equals", desc := "(Ljava/lang/Object;)Z", sig := { parameters := [(.object "java/lang/Object")], returnType := some .boolean }, accessFlags := 1, code := some k7c2 }
def k7c3 : Code := { maxStack := 4, maxLocals := 6, code := jdk_42_method_149_code, exceptionTable := #[], attributes := #[] }
def k7m3 : Method := { name := "<init>", desc := "([CIILjava/lang/Void;)V", sig := { parameters := [(.array .char), .int, .int, (.object "java/lang/Void")], returnType := none }, accessFlags := 2, code := some k7c3 }
/-- java/lang/String -/
def k7 : Class := { plain "java/lang/String" (some 0) with
  accessFlags := 49
  interfaces := #[2, 3, 4, 5, 6]
  cf := some (fileOf pool7 10 #[.nestMembers #[1103]] #[{ accessFlags := 1, nameIndex := 5, descriptorIndex := 6, attributes := #[] }, { accessFlags := 1, nameIndex := 5, descriptorIndex := 1010, attributes := #[] }, { accessFlags := 1, nameIndex := 543, descriptorIndex := 573, attributes := #[] }, { accessFlags := 2, nameIndex := 5, descriptorIndex := 29, attributes := #[] }] 49 2 #[1106, 1108, 575, 1110, 1112] #[{ accessFlags := 18, nameIndex := 13, descriptorIndex := 14, attributes := #[] }, { accessFlags := 18, nameIndex := 17, descriptorIndex := 18, attributes := #[] }, { accessFlags := 2, nameIndex := 21, descriptorIndex := 22, attributes := #[] }, { accessFlags := 2, nameIndex := 25, descriptorIndex := 26, attributes := #[] }, { accessFlags := 26, nameIndex := 1116, descriptorIndex := 1117, attributes := #[] }, { accessFlags := 24, nameIndex := 40, descriptorIndex := 26, attributes := #[] }, { accessFlags := 26, nameIndex := 1101, descriptorIndex := 1102, attributes := #[] }, { accessFlags := 26, nameIndex := 1121, descriptorIndex := 1122, attributes := #[] }, { accessFlags := 25, nameIndex := 599, descriptorIndex := 600, attributes := #[] }, { accessFlags := 24, nameIndex := 1125, descriptorIndex := 18, attributes := #[] }, { accessFlags := 24, nameIndex := 1127, descriptorIndex := 18, attributes := #[] }])
  fields := #[{ name := "value", type := (.array .byte), accessFlags := 18, slot := 0, constantValue := 0 }, { name := "coder", type := .byte, accessFlags := 18, slot := 1, constantValue := 0 }, { name := "hash", type := .int, accessFlags := 2, slot := 2, constantValue := 0 }, { name := "hashIsZero", type := .boolean, accessFlags := 2, slot := 3, constantValue := 0 }, { name := "serialVersionUID", type := .long, accessFlags := 26, slot := 0, constantValue := 0 }, { name := "COMPACT_STRINGS", type := .boolean, accessFlags := 24, slot := 1, constantValue := 0 }, { name := "serialPersistentFields", type := (.array (.object "java/io/ObjectStreamField")), accessFlags := 26, slot := 2, constantValue := 0 }, { name := "REPL", type := .char, accessFlags := 26, slot := 3, constantValue := 0 }, { name := "CASE_INSENSITIVE_ORDER", type := (.object "java/util/Comparator"), accessFlags := 25, slot := 4, constantValue := 0 }, { name := "LATIN1", type := .byte, accessFlags := 24, slot := 5, constantValue := 0 }, { name := "UTF16", type := .byte, accessFlags := 24, slot := 6, constantValue := 0 }]
  methods := #[k7m0, k7m1, k7m2, k7m3]
  instanceTypes := #[(.array .byte), .byte, .int, .boolean]
  staticTypes := #[.long, .boolean, (.array (.object "java/io/ObjectStreamField")), .char, (.object "java/util/Comparator"), .byte, .byte]
  resolved := Array.replicate 1451 none
  statics := some 0 }

def pool8 : Array CpInfo := pool [(1, .methodref 2 3), (0, .class_ 4), (0, .nameAndType 5 6), (0, u "java/lang/Object"), (0, u "<init>"), (0, u "()V"), (0, .class_ 8), (0, u "com/example/dormouse/dormouse/examples/Note"), (0, .methodref 10 11), (0, .class_ 12), (0, .nameAndType 13 14), (0, u "com/example/dormouse/dormouse/agent/UserInput"), (0, u "text"), (0, u "()Ljava/lang/String;"), (0, .methodref 7 16), (0, .nameAndType 5 17), (0, u "(Ljava/lang/String;)V"), (12, .class_ 31), (0, u "com/example/dormouse/dormouse/examples/UnreachableAgent"), (2, u "note"), (0, u "(Lcom/example/dormouse/dormouse/agent/UserInput;)Lcom/example/dormouse/dormouse/examples/Note;")] 23

def k8c0 : Code := { maxStack := 1, maxLocals := 1, code := prog_32_method_1_code, exceptionTable := #[], attributes := #[] }
def k8m0 : Method := { name := "<init>", desc := "()V", sig := { parameters := [], returnType := none }, accessFlags := 1, code := some k8c0 }
def k8c1 : Code := { maxStack := 3, maxLocals := 2, code := prog_32_method_2_code, exceptionTable := #[], attributes := #[] }
def k8m1 : Method := { name := "note", desc := "(Lcom/example/dormouse/dormouse/agent/UserInput;)Lcom/example/dormouse/dormouse/examples/Note;", sig := { parameters := [(.object "com/example/dormouse/dormouse/agent/UserInput")], returnType := some (.object "com/example/dormouse/dormouse/examples/Note") }, accessFlags := 1, code := some k8c1 }
/-- com/example/dormouse/dormouse/examples/UnreachableAgent -/
def k8 : Class := { plain "com/example/dormouse/dormouse/examples/UnreachableAgent" (some 0) with
  accessFlags := 49
  interfaces := #[]
  cf := some (fileOf pool8 30 #[] #[{ accessFlags := 1, nameIndex := 5, descriptorIndex := 6, attributes := #[] }, { accessFlags := 1, nameIndex := 34, descriptorIndex := 35, attributes := #[] }] 49 2 #[] #[])
  fields := #[]
  methods := #[k8m0, k8m1]
  instanceTypes := #[]
  staticTypes := #[]
  resolved := Array.replicate 59 none
  statics := none }

def pool9 : Array CpInfo := pool [(1, .methodref 2 3), (0, .class_ 4), (0, .nameAndType 5 6), (0, u "java/lang/Object"), (0, u "<init>"), (0, u "()V"), (0, .class_ 8), (0, u "java/lang/Record")] 13

def k9c0 : Code := { maxStack := 1, maxLocals := 1, code := jdk_30_method_1_code, exceptionTable := #[], attributes := #[] }
def k9m0 : Method := { name := "<init>", desc := "()V", sig := { parameters := [], returnType := none }, accessFlags := 4, code := some k9c0 }
/-- java/lang/Record -/
def k9 : Class := { plain "java/lang/Record" (some 0) with
  accessFlags := 1057
  interfaces := #[]
  cf := some (fileOf pool9 7 #[] #[{ accessFlags := 4, nameIndex := 5, descriptorIndex := 6, attributes := #[] }] 1057 2 #[] #[])
  fields := #[]
  methods := #[k9m0]
  instanceTypes := #[]
  staticTypes := #[]
  resolved := Array.replicate 22 none
  statics := none }

def pool10 : Array CpInfo := pool [(1, .methodref 2 3), (0, .class_ 4), (0, .nameAndType 5 6), (0, u "java/lang/Record"), (0, u "<init>"), (0, u "()V"), (0, .string 8), (0, u "text"), (0, .methodref 10 11), (0, .class_ 12), (0, .nameAndType 13 14), (0, u "java/util/Objects"), (0, u "requireNonNull"), (0, u "(Ljava/lang/Object;Ljava/lang/String;)Ljava/lang/Object;"), (0, .fieldref 16 17), (0, .class_ 18), (0, .nameAndType 8 19), (0, u "com/example/dormouse/dormouse/agent/UserInput"), (0, u "Ljava/lang/String;"), (12, u "(Ljava/lang/String;)V"), (3, u "()Ljava/lang/String;")] 20

def k10c0 : Code := { maxStack := 2, maxLocals := 2, code := prog_16_method_1_code, exceptionTable := #[], attributes := #[] }
def k10m0 : Method := { name := "<init>", desc := "(Ljava/lang/String;)V", sig := { parameters := [(.object "java/lang/String")], returnType := none }, accessFlags := 1, code := some k10c0 }
def k10c1 : Code := { maxStack := 1, maxLocals := 1, code := prog_16_method_5_code, exceptionTable := #[], attributes := #[] }
def k10m1 : Method := { name := "text", desc := "()Ljava/lang/String;", sig := { parameters := [], returnType := some (.object "java/lang/String") }, accessFlags := 1, code := some k10c1 }
/-- com/example/dormouse/dormouse/agent/UserInput -/
def k10 : Class := { plain "com/example/dormouse/dormouse/agent/UserInput" (some 9) with
  accessFlags := 49
  interfaces := #[]
  cf := some (fileOf pool10 16 #[] #[{ accessFlags := 1, nameIndex := 5, descriptorIndex := 32, attributes := #[] }, { accessFlags := 1, nameIndex := 8, descriptorIndex := 36, attributes := #[] }] 49 2 #[] #[{ accessFlags := 18, nameIndex := 8, descriptorIndex := 19, attributes := #[] }])
  fields := #[{ name := "text", type := (.object "java/lang/String"), accessFlags := 18, slot := 0, constantValue := 0 }]
  methods := #[k10m0, k10m1]
  instanceTypes := #[(.object "java/lang/String")]
  staticTypes := #[]
  resolved := Array.replicate 57 none
  statics := none }

def pool11 : Array CpInfo := pool [(2, .class_ 4), (1, u "java/lang/Object"), (0, u "<init>"), (0, u "()V"), (35, .class_ 44), (1, u "java/util/Objects"), (0, u "requireNonNull"), (48, u "(Ljava/lang/Object;Ljava/lang/String;)Ljava/lang/Object;")] 89

def k11m0 : Method := { name := "<init>", desc := "()V", sig := { parameters := [], returnType := none }, accessFlags := 2, code := none }
def k11c1 : Code := { maxStack := 3, maxLocals := 2, code := jdk_31_method_11_code, exceptionTable := #[], attributes := #[] }
def k11m1 : Method := { name := "requireNonNull", desc := "(Ljava/lang/Object;Ljava/lang/String;)Ljava/lang/Object;", sig := { parameters := [(.object "java/lang/Object"), (.object "java/lang/String")], returnType := some (.object "java/lang/Object") }, accessFlags := 9, code := some k11c1 }
/-- java/util/Objects -/
def k11 : Class := { plain "java/util/Objects" (some 0) with
  accessFlags := 49
  interfaces := #[]
  cf := some (fileOf pool11 42 #[] #[{ accessFlags := 2, nameIndex := 5, descriptorIndex := 6, attributes := #[] }, { accessFlags := 9, nameIndex := 45, descriptorIndex := 94, attributes := #[] }] 49 2 #[] #[])
  fields := #[]
  methods := #[k11m0, k11m1]
  instanceTypes := #[]
  staticTypes := #[]
  resolved := Array.replicate 184 none
  statics := none }

def pool12 : Array CpInfo := pool [(1, .methodref 2 3), (0, .class_ 4), (0, .nameAndType 5 6), (0, u "java/lang/Record"), (0, u "<init>"), (0, u "()V"), (0, .fieldref 8 9), (0, .class_ 10), (0, .nameAndType 11 12), (0, u "com/example/dormouse/dormouse/examples/Note"), (0, u "text"), (0, u "Ljava/lang/String;"), (12, u "(Ljava/lang/String;)V"), (3, u "()Ljava/lang/String;")] 21

def k12c0 : Code := { maxStack := 2, maxLocals := 2, code := prog_27_method_1_code, exceptionTable := #[], attributes := #[] }
def k12m0 : Method := { name := "<init>", desc := "(Ljava/lang/String;)V", sig := { parameters := [(.object "java/lang/String")], returnType := none }, accessFlags := 1, code := some k12c0 }
def k12c1 : Code := { maxStack := 1, maxLocals := 1, code := prog_27_method_5_code, exceptionTable := #[], attributes := #[] }
def k12m1 : Method := { name := "text", desc := "()Ljava/lang/String;", sig := { parameters := [], returnType := some (.object "java/lang/String") }, accessFlags := 1, code := some k12c1 }
/-- com/example/dormouse/dormouse/examples/Note -/
def k12 : Class := { plain "com/example/dormouse/dormouse/examples/Note" (some 9) with
  accessFlags := 49
  interfaces := #[]
  cf := some (fileOf pool12 8 #[] #[{ accessFlags := 1, nameIndex := 5, descriptorIndex := 25, attributes := #[] }, { accessFlags := 1, nameIndex := 11, descriptorIndex := 29, attributes := #[] }] 49 2 #[] #[{ accessFlags := 18, nameIndex := 11, descriptorIndex := 12, attributes := #[] }])
  fields := #[{ name := "text", type := (.object "java/lang/String"), accessFlags := 18, slot := 0, constantValue := 0 }]
  methods := #[k12m0, k12m1]
  instanceTypes := #[(.object "java/lang/String")]
  staticTypes := #[]
  resolved := Array.replicate 51 none
  statics := none }

def pool13 : Array CpInfo := pool [(6, .class_ 8), (1, u "java/lang/Object"), (0, u "<init>"), (0, u "()V"), (1, .class_ 14), (1, u "java/lang/StringUTF16"), (31, u "$assertionsDisabled"), (0, u "Z"), (13, u "HI_BYTE_SHIFT"), (0, u "I"), (2, u "LO_BYTE_SHIFT"), (49, .methodref 12 116), (0, .nameAndType 117 118), (0, u "compress"), (0, u "([CI[BII)I"), (3, u "([CII)[B"), (138, u "coderFromArrayLen"), (0, u "([BI)B"), (106, .class_ 371), (1, u "java/lang/StringUTF16$LinesSpliterator"), (58, u "MAX_LENGTH"), (196, .class_ 628), (0, u "java/lang/StringUTF16$CodePointsSpliterator"), (0, .class_ 630), (0, u "java/lang/StringUTF16$CharsSpliterator")] 4

def k13m0 : Method := { name := "<init>", desc := "()V", sig := { parameters := [], returnType := none }, accessFlags := 0, code := none }
def k13c1 : Code := { maxStack := 2, maxLocals := 2, code := jdk_52_method_15_code, exceptionTable := #[], attributes := #[] }
def k13m1 : Method := { name := "coderFromArrayLen", desc := "([BI)B", sig := { parameters := [(.array .byte), .int], returnType := some .byte }, accessFlags := 8, code := some k13c1 }
def k13c2 : Code := { maxStack := 5, maxLocals := 6, code := jdk_52_method_16_code, exceptionTable := #[], attributes := #[] }
def k13m2 : Method := { name := "compress", desc := "([CII)[B", sig := { parameters := [(.array .char), .int, .int], returnType := some (.array .byte) }, accessFlags := 9, code := some k13c2 }
def k13c3 : Code := { maxStack := 3, maxLocals := 7, code := jdk_52_method_21_code, exceptionTable := #[], attributes := #[] }
def k13m3 : Method := { name := "compress", desc := "([CI[BII)I", sig := { parameters := [(.array .char), .int, (.array .byte), .int, .int], returnType := some .int }, accessFlags := 9, code := some k13c3 }
/-- java/lang/StringUTF16 -/
def k13 : Class := { plain "java/lang/StringUTF16" (some 0) with
  accessFlags := 48
  interfaces := #[]
  cf := some (fileOf pool13 12 #[.nestMembers #[627, 629, 369]] #[{ accessFlags := 0, nameIndex := 9, descriptorIndex := 10, attributes := #[] }, { accessFlags := 8, nameIndex := 261, descriptorIndex := 262, attributes := #[] }, { accessFlags := 9, nameIndex := 117, descriptorIndex := 122, attributes := #[] }, { accessFlags := 9, nameIndex := 117, descriptorIndex := 118, attributes := #[] }] 48 6 #[] #[{ accessFlags := 26, nameIndex := 61, descriptorIndex := 62, attributes := #[] }, { accessFlags := 26, nameIndex := 65, descriptorIndex := 62, attributes := #[] }, { accessFlags := 24, nameIndex := 430, descriptorIndex := 62, attributes := #[] }, { accessFlags := 4120, nameIndex := 46, descriptorIndex := 47, attributes := #[] }])
  fields := #[{ name := "HI_BYTE_SHIFT", type := .int, accessFlags := 26, slot := 0, constantValue := 0 }, { name := "LO_BYTE_SHIFT", type := .int, accessFlags := 26, slot := 1, constantValue := 0 }, { name := "MAX_LENGTH", type := .int, accessFlags := 24, slot := 2, constantValue := 0 }, { name := "$assertionsDisabled", type := .boolean, accessFlags := 4120, slot := 3, constantValue := 0 }]
  methods := #[k13m0, k13m1, k13m2, k13m3]
  instanceTypes := #[]
  staticTypes := #[.int, .int, .int, .boolean]
  resolved := Array.replicate 635 none
  statics := none }

def pool14 : Array CpInfo := pool [(4, .class_ 6), (1, u "java/lang/Object"), (0, u "<init>"), (0, u "()V"), (5, .class_ 16), (1, u "java/lang/StringLatin1"), (104, u "$assertionsDisabled"), (0, u "Z"), (98, .class_ 223), (1, u "java/lang/StringLatin1$LinesSpliterator"), (166, .class_ 391), (0, u "java/lang/StringLatin1$CharsSpliterator")] 3

def k14m0 : Method := { name := "<init>", desc := "()V", sig := { parameters := [], returnType := none }, accessFlags := 0, code := none }
/-- java/lang/StringLatin1 -/
def k14 : Class := { plain "java/lang/StringLatin1" (some 0) with
  accessFlags := 48
  interfaces := #[]
  cf := some (fileOf pool14 14 #[.nestMembers #[390, 221]] #[{ accessFlags := 0, nameIndex := 7, descriptorIndex := 8, attributes := #[] }] 48 4 #[] #[{ accessFlags := 4120, nameIndex := 121, descriptorIndex := 122, attributes := #[] }])
  fields := #[{ name := "$assertionsDisabled", type := .boolean, accessFlags := 4120, slot := 0, constantValue := 0 }]
  methods := #[k14m0]
  instanceTypes := #[]
  staticTypes := #[.boolean]
  resolved := Array.replicate 395 none
  statics := none }

def pool15 : Array CpInfo := pool [(2, .class_ 4), (1, u "java/lang/Object"), (0, u "<init>"), (0, u "()V"), (17, .class_ 26), (1, u "jdk/internal/util/Preconditions"), (28, .class_ 56), (0, u "jdk/internal/util/Preconditions$4"), (57, .class_ 115), (0, u "jdk/internal/util/Preconditions$1"), (7, u "SIOOBE_FORMATTER"), (0, u "Ljava/util/function/BiFunction;"), (0, .class_ 126), (0, u "jdk/internal/util/Preconditions$2"), (3, u "AIOOBE_FORMATTER"), (0, .class_ 132), (0, u "jdk/internal/util/Preconditions$3"), (3, u "IOOBE_FORMATTER")] 57

def k15m0 : Method := { name := "<init>", desc := "()V", sig := { parameters := [], returnType := none }, accessFlags := 1, code := none }
/-- jdk/internal/util/Preconditions -/
def k15 : Class := { plain "jdk/internal/util/Preconditions" (some 0) with
  accessFlags := 33
  interfaces := #[]
  cf := some (fileOf pool15 24 #[.nestMembers #[55, 131, 125, 114]] #[{ accessFlags := 1, nameIndex := 5, descriptorIndex := 6, attributes := #[] }] 33 2 #[] #[{ accessFlags := 25, nameIndex := 123, descriptorIndex := 124, attributes := #[] }, { accessFlags := 25, nameIndex := 130, descriptorIndex := 124, attributes := #[] }, { accessFlags := 25, nameIndex := 136, descriptorIndex := 124, attributes := #[] }])
  fields := #[{ name := "SIOOBE_FORMATTER", type := (.object "java/util/function/BiFunction"), accessFlags := 25, slot := 0, constantValue := 0 }, { name := "AIOOBE_FORMATTER", type := (.object "java/util/function/BiFunction"), accessFlags := 25, slot := 1, constantValue := 0 }, { name := "IOOBE_FORMATTER", type := (.object "java/util/function/BiFunction"), accessFlags := 25, slot := 2, constantValue := 0 }]
  methods := #[k15m0]
  instanceTypes := #[]
  staticTypes := #[(.object "java/util/function/BiFunction"), (.object "java/util/function/BiFunction"), (.object "java/util/function/BiFunction")]
  resolved := Array.replicate 194 none
  statics := some 1 }

def pool16 : Array CpInfo := pool [(9, u "<init>"), (6, .class_ 18), (1, u "java/lang/Object"), (0, u "()V"), (1, .class_ 23), (1, u "jdk/internal/util/ArraysSupport"), (0, u "LOG2_ARRAY_LONG_INDEX_SCALE"), (0, u "I"), (2, u "U"), (0, u "Ljdk/internal/misc/Unsafe;"), (8, u "BIG_ENDIAN"), (0, u "Z"), (8, u "LOG2_BYTE_BIT_SIZE"), (4, u "LOG2_ARRAY_INT_INDEX_SCALE"), (54, u "JLA"), (0, u "Ljdk/internal/access/JavaLangAccess;"), (11, u "LOG2_ARRAY_BOOLEAN_INDEX_SCALE"), (9, u "LOG2_ARRAY_BYTE_INDEX_SCALE"), (5, u "LOG2_ARRAY_CHAR_INDEX_SCALE"), (5, u "LOG2_ARRAY_SHORT_INDEX_SCALE"), (18, u "LOG2_ARRAY_FLOAT_INDEX_SCALE"), (24, u "LOG2_ARRAY_DOUBLE_INDEX_SCALE"), (89, u "T_BOOLEAN"), (2, u "T_CHAR"), (1, u "T_FLOAT"), (1, u "T_DOUBLE"), (1, u "T_BYTE"), (1, u "T_SHORT"), (1, u "T_INT"), (1, u "T_LONG"), (1, u "SOFT_MAX_ARRAY_LENGTH")] 83

def k16m0 : Method := { name := "<init>", desc := "()V", sig := { parameters := [], returnType := none }, accessFlags := 2, code := none }
/-- jdk/internal/util/ArraysSupport -/
def k16 : Class := { plain "jdk/internal/util/ArraysSupport" (some 0) with
  accessFlags := 33
  interfaces := #[]
  cf := some (fileOf pool16 21 #[] #[{ accessFlags := 2, nameIndex := 9, descriptorIndex := 19, attributes := #[] }] 33 16 #[] #[{ accessFlags := 24, nameIndex := 28, descriptorIndex := 29, attributes := #[] }, { accessFlags := 26, nameIndex := 38, descriptorIndex := 39, attributes := #[] }, { accessFlags := 25, nameIndex := 121, descriptorIndex := 25, attributes := #[] }, { accessFlags := 25, nameIndex := 131, descriptorIndex := 25, attributes := #[] }, { accessFlags := 25, nameIndex := 137, descriptorIndex := 25, attributes := #[] }, { accessFlags := 25, nameIndex := 143, descriptorIndex := 25, attributes := #[] }, { accessFlags := 25, nameIndex := 53, descriptorIndex := 25, attributes := #[] }, { accessFlags := 25, nameIndex := 24, descriptorIndex := 25, attributes := #[] }, { accessFlags := 25, nameIndex := 162, descriptorIndex := 25, attributes := #[] }, { accessFlags := 25, nameIndex := 187, descriptorIndex := 25, attributes := #[] }, { accessFlags := 26, nameIndex := 48, descriptorIndex := 25, attributes := #[] }, { accessFlags := 25, nameIndex := 277, descriptorIndex := 25, attributes := #[] }, { accessFlags := 25, nameIndex := 280, descriptorIndex := 25, attributes := #[] }, { accessFlags := 25, nameIndex := 282, descriptorIndex := 25, attributes := #[] }, { accessFlags := 25, nameIndex := 284, descriptorIndex := 25, attributes := #[] }, { accessFlags := 25, nameIndex := 286, descriptorIndex := 25, attributes := #[] }, { accessFlags := 25, nameIndex := 288, descriptorIndex := 25, attributes := #[] }, { accessFlags := 25, nameIndex := 290, descriptorIndex := 25, attributes := #[] }, { accessFlags := 25, nameIndex := 292, descriptorIndex := 25, attributes := #[] }, { accessFlags := 26, nameIndex := 108, descriptorIndex := 109, attributes := #[] }, { accessFlags := 25, nameIndex := 294, descriptorIndex := 25, attributes := #[] }])
  fields := #[{ name := "U", type := (.object "jdk/internal/misc/Unsafe"), accessFlags := 24, slot := 0, constantValue := 0 }, { name := "BIG_ENDIAN", type := .boolean, accessFlags := 26, slot := 1, constantValue := 0 }, { name := "LOG2_ARRAY_BOOLEAN_INDEX_SCALE", type := .int, accessFlags := 25, slot := 2, constantValue := 0 }, { name := "LOG2_ARRAY_BYTE_INDEX_SCALE", type := .int, accessFlags := 25, slot := 3, constantValue := 0 }, { name := "LOG2_ARRAY_CHAR_INDEX_SCALE", type := .int, accessFlags := 25, slot := 4, constantValue := 0 }, { name := "LOG2_ARRAY_SHORT_INDEX_SCALE", type := .int, accessFlags := 25, slot := 5, constantValue := 0 }, { name := "LOG2_ARRAY_INT_INDEX_SCALE", type := .int, accessFlags := 25, slot := 6, constantValue := 0 }, { name := "LOG2_ARRAY_LONG_INDEX_SCALE", type := .int, accessFlags := 25, slot := 7, constantValue := 0 }, { name := "LOG2_ARRAY_FLOAT_INDEX_SCALE", type := .int, accessFlags := 25, slot := 8, constantValue := 0 }, { name := "LOG2_ARRAY_DOUBLE_INDEX_SCALE", type := .int, accessFlags := 25, slot := 9, constantValue := 0 }, { name := "LOG2_BYTE_BIT_SIZE", type := .int, accessFlags := 26, slot := 10, constantValue := 0 }, { name := "T_BOOLEAN", type := .int, accessFlags := 25, slot := 11, constantValue := 0 }, { name := "T_CHAR", type := .int, accessFlags := 25, slot := 12, constantValue := 0 }, { name := "T_FLOAT", type := .int, accessFlags := 25, slot := 13, constantValue := 0 }, { name := "T_DOUBLE", type := .int, accessFlags := 25, slot := 14, constantValue := 0 }, { name := "T_BYTE", type := .int, accessFlags := 25, slot := 15, constantValue := 0 }, { name := "T_SHORT", type := .int, accessFlags := 25, slot := 16, constantValue := 0 }, { name := "T_INT", type := .int, accessFlags := 25, slot := 17, constantValue := 0 }, { name := "T_LONG", type := .int, accessFlags := 25, slot := 18, constantValue := 0 }, { name := "JLA", type := (.object "jdk/internal/access/JavaLangAccess"), accessFlags := 26, slot := 19, constantValue := 0 }, { name := "SOFT_MAX_ARRAY_LENGTH", type := .int, accessFlags := 25, slot := 20, constantValue := 0 }]
  methods := #[k16m0]
  instanceTypes := #[]
  staticTypes := #[(.object "jdk/internal/misc/Unsafe"), .boolean, .int, .int, .int, .int, .int, .int, .int, .int, .int, .int, .int, .int, .int, .int, .int, .int, .int, (.object "jdk/internal/access/JavaLangAccess"), .int]
  resolved := Array.replicate 378 none
  statics := none }

def pool17 : Array CpInfo := pool [(1, u "java/lang/Cloneable"), (0, .class_ 1), (0, u "java/lang/Object"), (0, .class_ 3)] 3

/-- java/lang/Cloneable -/
def k17 : Class := { plain "java/lang/Cloneable" (some 0) with
  accessFlags := 1537
  interfaces := #[]
  cf := some (fileOf pool17 2 #[] #[] 1537 4 #[] #[])
  fields := #[]
  methods := #[]
  instanceTypes := #[]
  staticTypes := #[]
  resolved := Array.replicate 8 none
  statics := none }

/-- the primitive byte -/
def k18 : Class := { plain "byte" none with kind := .primitive 'B', accessFlags := 0x411 }
/-- [B -/
def k19 : Class := { plain "[B" (some 0) with kind := .array 18 .byte, interfaces := #[17, 2], accessFlags := 1041 }

/-- the primitive char -/
def k20 : Class := { plain "char" none with kind := .primitive 'C', accessFlags := 0x411 }
/-- [C -/
def k21 : Class := { plain "[C" (some 0) with kind := .array 20 .char, interfaces := #[17, 2], accessFlags := 1041 }

/-- the primitive int -/
def k22 : Class := { plain "int" none with kind := .primitive 'I', accessFlags := 0x411 }
/-- [I -/
def k23 : Class := { plain "[I" (some 0) with kind := .array 22 .int, interfaces := #[17, 2], accessFlags := 1041 }

def heap : Heap := #[{ cls := 7, slots := #[.long 0, .int 1, .null, .int 0, .null, .int 0, .int 0], vm := .statics 7 },
  { cls := 15, slots := #[.null, .null, .null], vm := .statics 15 }]
def classes : Array Class := #[k0, k1, k2, k3, k4, k5, k6, k7, k8, k9, k10, k11, k12, k13, k14, k15, k16, k17, k18, k19, k20, k21, k22, k23]
def interned : List (Array UInt16 × Addr) := []
def slotsUsed : Nat := 10
def theMethod : MethodId := ⟨1, 1⟩
def args0 : Array Value := #[.int 2, .int 65, .int 66, .int 67]
def aboutOver (below : List Frame) : State where
  vm := { classes := classes, interned := interned.toArray }
  heap := heap
  slotsUsed := slotsUsed
  threads := #[{ frames := .invoking theMethod args0 :: below }]
def below0 : List Frame := [.native { method := ⟨0, 0⟩, args := #[] }]
def about1 : State := aboutOver below0
def p0 : Program := .bare "" "" ""
def e0 : Env := launch0.env 0 0 0
theorem w_frames : about1.frames = Frame.invoking theMethod args0 :: below0 := rfl
set_option maxRecDepth 65536 in
theorem w_args : argsFit about1.vm theMethod args0 = true := by decide +kernel
set_option maxRecDepth 65536 in
theorem w_heap : heapFits about1 = true := by decide +kernel
set_option maxRecDepth 65536 in
theorem w_runnable : about1.curStatus? = some .runnable := by decide +kernel
set_option maxRecDepth 65536 in
theorem w_alone : about1.alone = true := by decide +kernel
set_option maxRecDepth 65536 in
theorem w_named : about1.methodNamed? x = some theMethod := by decide +kernel
set_option maxRecDepth 65536 in
theorem w_hears : about1.hears theMethod below0 = true := by decide +kernel
set_option maxRecDepth 65536 in
theorem w_ripe : about1.ripe theMethod args0 below0 = true := by decide +kernel
theorem w_running : about1.status = .running := rfl
set_option maxRecDepth 65536 in
theorem w_room : about1.hasRoom e0.platform room_1 = true :=
  launch0.hasRoom_least _ room_1 (by decide +kernel) (by decide +kernel) (by decide +kernel) (by decide +kernel) (by decide +kernel) (by decide +kernel)
theorem allAtoms_all (ts : List Jvm.Cond) (a : Array Jvm.Value) (st : Jvm.State) : (allAtoms ts).before a st = ts.all (fun c => c.before a st) := by
  induction ts with
  | nil => rfl
  | cons c t ih =>
    show (Jvm.Cond.and c (allAtoms t)).before a st = _
    rw [Jvm.Cond.before_and, ih, List.all_cons]
def words1 : List Jvm.Cond := Jvm.Cond.code x code maxLocals ret :: tables_1
/-- a 'code' word, met by the world's own term for the bytes: nothing is compared byte by byte -/
theorem code_word {y : MethodName} {bytes : ByteArray} {mx : Nat} {rt : Option FieldType} {a : Array Value} {s : State} {m : MethodId} {meth : Method} {c : Code} (h1 : s.methodNamed? y = some m) (h2 : s.vm.method? m = some meth) (h3 : meth.code = some c) (h4 : c.code = bytes)
    (h5 : (c.maxLocals == mx && c.exceptionTable.isEmpty && decide (c.maxStack ≤ mostOperands) && decide (meth.sig.returnType = rt) && !meth.locks && decide (parseMethodDescriptor y.desc = some meth.sig)) = true) : (Jvm.Cond.code y bytes mx rt).before a s = true := by
  simp only [Bool.and_eq_true, beq_iff_eq, Bool.not_eq_true', decide_eq_true_eq] at h5
  obtain ⟨⟨⟨⟨⟨g1, g2⟩, g3⟩, g4⟩, g5⟩, g6⟩ := h5
  simp [Cond.before, Cond.holds, Cond.value, h1, h2, h3, h4, g1, g2, g3, g4, g5, g6]
def isCode : Jvm.Cond → Bool
  | .code _ _ _ _ => true
  | _ => false
theorem all_split {L : List Jvm.Cond} {P : Jvm.Cond → Bool} (h1 : L.all (fun c => isCode c || P c) = true) (h2 : ∀ c ∈ L.filter isCode, P c = true) : L.all P = true := by
  refine List.all_eq_true.mpr fun c hc => ?_
  have h := List.all_eq_true.mp h1 c hc
  rcases Bool.eq_false_or_eq_true (isCode c) with hi | hi
  · exact h2 c (List.mem_filter.mpr ⟨hc, hi⟩)
  · simpa [hi] using h
set_option maxRecDepth 65536 in
theorem w_c0 : (Jvm.Cond.code x code maxLocals ret).before args0 about1 = true := code_word (m := ⟨1, 1⟩) (meth := k1m1) (c := k1c1) (by decide +kernel) rfl rfl rfl (by decide +kernel)
set_option maxRecDepth 65536 in
theorem w_c1 : (Jvm.Cond.code ({ cls := "java/lang/String", name := "<init>", desc := "([C)V" } : Jvm.MethodName) jdk_42_method_3_code (2 : Nat) (Option.none : Option Jvm.ClassFile.FieldType)).before args0 about1 = true := code_word (m := ⟨7, 1⟩) (meth := k7m1) (c := k7c1) (by decide +kernel) rfl rfl rfl (by decide +kernel)
set_option maxRecDepth 65536 in
theorem w_c2 : (Jvm.Cond.code ({ cls := "java/lang/String", name := "<init>", desc := "([CIILjava/lang/Void;)V" } : Jvm.MethodName) jdk_42_method_149_code (6 : Nat) (Option.none : Option Jvm.ClassFile.FieldType)).before args0 about1 = true := code_word (m := ⟨7, 3⟩) (meth := k7m3) (c := k7c3) (by decide +kernel) rfl rfl rfl (by decide +kernel)
set_option maxRecDepth 65536 in
theorem w_c3 : (Jvm.Cond.code ({ cls := "java/lang/Object", name := "<init>", desc := "()V" } : Jvm.MethodName) object_method_1_code (1 : Nat) (Option.none : Option Jvm.ClassFile.FieldType)).before args0 about1 = true := code_word (m := ⟨0, 0⟩) (meth := k0m0) (c := k0c0) (by decide +kernel) rfl rfl rfl (by decide +kernel)
set_option maxRecDepth 65536 in
theorem w_c4 : (Jvm.Cond.code ({ cls := "com/example/dormouse/dormouse/examples/UnreachableAgent", name := "<init>", desc := "()V" } : Jvm.MethodName) prog_32_method_1_code (1 : Nat) (Option.none : Option Jvm.ClassFile.FieldType)).before args0 about1 = true := code_word (m := ⟨8, 0⟩) (meth := k8m0) (c := k8c0) (by decide +kernel) rfl rfl rfl (by decide +kernel)
set_option maxRecDepth 65536 in
theorem w_c5 : (Jvm.Cond.code ({ cls := "com/example/dormouse/dormouse/agent/UserInput", name := "<init>", desc := "(Ljava/lang/String;)V" } : Jvm.MethodName) prog_16_method_1_code (2 : Nat) (Option.none : Option Jvm.ClassFile.FieldType)).before args0 about1 = true := code_word (m := ⟨10, 0⟩) (meth := k10m0) (c := k10c0) (by decide +kernel) rfl rfl rfl (by decide +kernel)
set_option maxRecDepth 65536 in
theorem w_c6 : (Jvm.Cond.code ({ cls := "java/lang/Record", name := "<init>", desc := "()V" } : Jvm.MethodName) jdk_30_method_1_code (1 : Nat) (Option.none : Option Jvm.ClassFile.FieldType)).before args0 about1 = true := code_word (m := ⟨9, 0⟩) (meth := k9m0) (c := k9c0) (by decide +kernel) rfl rfl rfl (by decide +kernel)
set_option maxRecDepth 65536 in
theorem w_c7 : (Jvm.Cond.code ({ cls := "java/util/Objects", name := "requireNonNull", desc := "(Ljava/lang/Object;Ljava/lang/String;)Ljava/lang/Object;" } : Jvm.MethodName) jdk_31_method_11_code (2 : Nat) (Option.some (Jvm.ClassFile.FieldType.object "java/lang/Object"))).before args0 about1 = true := code_word (m := ⟨11, 1⟩) (meth := k11m1) (c := k11c1) (by decide +kernel) rfl rfl rfl (by decide +kernel)
set_option maxRecDepth 65536 in
theorem w_c8 : (Jvm.Cond.code ({ cls := "com/example/dormouse/dormouse/examples/UnreachableAgent", name := "note", desc := "(Lcom/example/dormouse/dormouse/agent/UserInput;)Lcom/example/dormouse/dormouse/examples/Note;" } : Jvm.MethodName) prog_32_method_2_code (2 : Nat) (Option.some (Jvm.ClassFile.FieldType.object "com/example/dormouse/dormouse/examples/Note"))).before args0 about1 = true := code_word (m := ⟨8, 1⟩) (meth := k8m1) (c := k8c1) (by decide +kernel) rfl rfl rfl (by decide +kernel)
set_option maxRecDepth 65536 in
theorem w_c9 : (Jvm.Cond.code ({ cls := "com/example/dormouse/dormouse/agent/UserInput", name := "text", desc := "()Ljava/lang/String;" } : Jvm.MethodName) prog_16_method_5_code (1 : Nat) (Option.some (Jvm.ClassFile.FieldType.object "java/lang/String"))).before args0 about1 = true := code_word (m := ⟨10, 1⟩) (meth := k10m1) (c := k10c1) (by decide +kernel) rfl rfl rfl (by decide +kernel)
set_option maxRecDepth 65536 in
theorem w_c10 : (Jvm.Cond.code ({ cls := "com/example/dormouse/dormouse/examples/Note", name := "<init>", desc := "(Ljava/lang/String;)V" } : Jvm.MethodName) prog_27_method_1_code (2 : Nat) (Option.none : Option Jvm.ClassFile.FieldType)).before args0 about1 = true := code_word (m := ⟨12, 0⟩) (meth := k12m0) (c := k12c0) (by decide +kernel) rfl rfl rfl (by decide +kernel)
set_option maxRecDepth 65536 in
theorem w_c11 : (Jvm.Cond.code ({ cls := "com/example/dormouse/dormouse/examples/Note", name := "text", desc := "()Ljava/lang/String;" } : Jvm.MethodName) prog_27_method_5_code (1 : Nat) (Option.some (Jvm.ClassFile.FieldType.object "java/lang/String"))).before args0 about1 = true := code_word (m := ⟨12, 1⟩) (meth := k12m1) (c := k12c1) (by decide +kernel) rfl rfl rfl (by decide +kernel)
set_option maxRecDepth 65536 in
theorem w_c12 : (Jvm.Cond.code ({ cls := "java/lang/String", name := "equals", desc := "(Ljava/lang/Object;)Z" } : Jvm.MethodName) jdk_42_method_66_code (3 : Nat) (Option.some Jvm.ClassFile.FieldType.boolean)).before args0 about1 = true := code_word (m := ⟨7, 2⟩) (meth := k7m2) (c := k7c2) (by decide +kernel) rfl rfl rfl (by decide +kernel)
set_option maxRecDepth 65536 in
theorem w_c13 : (Jvm.Cond.code ({ cls := "java/lang/StringUTF16", name := "compress", desc := "([CII)[B" } : Jvm.MethodName) jdk_52_method_16_code (6 : Nat) (Option.some (Jvm.ClassFile.FieldType.array Jvm.ClassFile.FieldType.byte))).before args0 about1 = true := code_word (m := ⟨13, 2⟩) (meth := k13m2) (c := k13c2) (by decide +kernel) rfl rfl rfl (by decide +kernel)
set_option maxRecDepth 65536 in
theorem w_c14 : (Jvm.Cond.code ({ cls := "java/lang/StringUTF16", name := "compress", desc := "([CI[BII)I" } : Jvm.MethodName) jdk_52_method_21_code (7 : Nat) (Option.some Jvm.ClassFile.FieldType.int)).before args0 about1 = true := code_word (m := ⟨13, 3⟩) (meth := k13m3) (c := k13c3) (by decide +kernel) rfl rfl rfl (by decide +kernel)
set_option maxRecDepth 65536 in
theorem w_c15 : (Jvm.Cond.code ({ cls := "java/lang/StringUTF16", name := "coderFromArrayLen", desc := "([BI)B" } : Jvm.MethodName) jdk_52_method_15_code (2 : Nat) (Option.some Jvm.ClassFile.FieldType.byte)).before args0 about1 = true := code_word (m := ⟨13, 1⟩) (meth := k13m1) (c := k13c1) (by decide +kernel) rfl rfl rfl (by decide +kernel)
def codes1 : List Jvm.Cond := [Jvm.Cond.code x code maxLocals ret, Jvm.Cond.code ({ cls := "java/lang/String", name := "<init>", desc := "([C)V" } : Jvm.MethodName) jdk_42_method_3_code (2 : Nat) (Option.none : Option Jvm.ClassFile.FieldType), Jvm.Cond.code ({ cls := "java/lang/String", name := "<init>", desc := "([CIILjava/lang/Void;)V" } : Jvm.MethodName) jdk_42_method_149_code (6 : Nat) (Option.none : Option Jvm.ClassFile.FieldType), Jvm.Cond.code ({ cls := "java/lang/Object", name := "<init>", desc := "()V" } : Jvm.MethodName) object_method_1_code (1 : Nat) (Option.none : Option Jvm.ClassFile.FieldType), Jvm.Cond.code ({ cls := "com/example/dormouse/dormouse/examples/UnreachableAgent", name := "<init>", desc := "()V" } : Jvm.MethodName) prog_32_method_1_code (1 : Nat) (Option.none : Option Jvm.ClassFile.FieldType), Jvm.Cond.code ({ cls := "com/example/dormouse/dormouse/agent/UserInput", name := "<init>", desc := "(Ljava/lang/String;)V" } : Jvm.MethodName) prog_16_method_1_code (2 : Nat) (Option.none : Option Jvm.ClassFile.FieldType), Jvm.Cond.code ({ cls := "java/lang/Record", name := "<init>", desc := "()V" } : Jvm.MethodName) jdk_30_method_1_code (1 : Nat) (Option.none : Option Jvm.ClassFile.FieldType), Jvm.Cond.code ({ cls := "java/util/Objects", name := "requireNonNull", desc := "(Ljava/lang/Object;Ljava/lang/String;)Ljava/lang/Object;" } : Jvm.MethodName) jdk_31_method_11_code (2 : Nat) (Option.some (Jvm.ClassFile.FieldType.object "java/lang/Object")), Jvm.Cond.code ({ cls := "com/example/dormouse/dormouse/examples/UnreachableAgent", name := "note", desc := "(Lcom/example/dormouse/dormouse/agent/UserInput;)Lcom/example/dormouse/dormouse/examples/Note;" } : Jvm.MethodName) prog_32_method_2_code (2 : Nat) (Option.some (Jvm.ClassFile.FieldType.object "com/example/dormouse/dormouse/examples/Note")), Jvm.Cond.code ({ cls := "com/example/dormouse/dormouse/agent/UserInput", name := "text", desc := "()Ljava/lang/String;" } : Jvm.MethodName) prog_16_method_5_code (1 : Nat) (Option.some (Jvm.ClassFile.FieldType.object "java/lang/String")), Jvm.Cond.code ({ cls := "com/example/dormouse/dormouse/examples/Note", name := "<init>", desc := "(Ljava/lang/String;)V" } : Jvm.MethodName) prog_27_method_1_code (2 : Nat) (Option.none : Option Jvm.ClassFile.FieldType), Jvm.Cond.code ({ cls := "com/example/dormouse/dormouse/examples/Note", name := "text", desc := "()Ljava/lang/String;" } : Jvm.MethodName) prog_27_method_5_code (1 : Nat) (Option.some (Jvm.ClassFile.FieldType.object "java/lang/String")), Jvm.Cond.code ({ cls := "java/lang/String", name := "equals", desc := "(Ljava/lang/Object;)Z" } : Jvm.MethodName) jdk_42_method_66_code (3 : Nat) (Option.some Jvm.ClassFile.FieldType.boolean), Jvm.Cond.code ({ cls := "java/lang/StringUTF16", name := "compress", desc := "([CII)[B" } : Jvm.MethodName) jdk_52_method_16_code (6 : Nat) (Option.some (Jvm.ClassFile.FieldType.array Jvm.ClassFile.FieldType.byte)), Jvm.Cond.code ({ cls := "java/lang/StringUTF16", name := "compress", desc := "([CI[BII)I" } : Jvm.MethodName) jdk_52_method_21_code (7 : Nat) (Option.some Jvm.ClassFile.FieldType.int), Jvm.Cond.code ({ cls := "java/lang/StringUTF16", name := "coderFromArrayLen", desc := "([BI)B" } : Jvm.MethodName) jdk_52_method_15_code (2 : Nat) (Option.some Jvm.ClassFile.FieldType.byte)]
set_option maxRecDepth 65536 in
theorem codes_eq : words1.filter isCode = codes1 := rfl
theorem w_codes : ∀ c ∈ words1.filter isCode, c.before args0 about1 = true := by
  rw [codes_eq]
  intro c hc
  simp only [codes1, List.mem_cons, List.not_mem_nil, or_false] at hc
  rcases hc with rfl | rfl | rfl | rfl | rfl | rfl | rfl | rfl | rfl | rfl | rfl | rfl | rfl | rfl | rfl | rfl
  · exact w_c0
  · exact w_c1
  · exact w_c2
  · exact w_c3
  · exact w_c4
  · exact w_c5
  · exact w_c6
  · exact w_c7
  · exact w_c8
  · exact w_c9
  · exact w_c10
  · exact w_c11
  · exact w_c12
  · exact w_c13
  · exact w_c14
  · exact w_c15
set_option maxRecDepth 65536 in
theorem w_t1 : (words1.take 24).all (fun c => isCode c || c.before args0 about1) = true := by decide +kernel
set_option maxRecDepth 65536 in
theorem w_t2 : ((words1.drop 24).take 24).all (fun c => isCode c || c.before args0 about1) = true := by decide +kernel
set_option maxRecDepth 65536 in
theorem w_t3 : (((words1.drop 24).drop 24).take 24).all (fun c => isCode c || c.before args0 about1) = true := by decide +kernel
set_option maxRecDepth 65536 in
theorem w_t4 : (((words1.drop 24).drop 24).drop 24).all (fun c => isCode c || c.before args0 about1) = true := by decide +kernel
theorem w_tables : (allAtoms (Jvm.Cond.code x code maxLocals ret :: tables_1)).before args0 about1 = true := by
  rw [allAtoms_all]
  show words1.all (fun c => c.before args0 about1) = true
  refine all_split ?_ w_codes
  rw [← List.take_append_drop 24 words1, List.all_append, w_t1, ← List.take_append_drop 24 (words1.drop 24), List.all_append, w_t2, ← List.take_append_drop 24 ((words1.drop 24).drop 24), List.all_append, w_t3, w_t4]
  rfl
set_option maxRecDepth 65536 in
theorem w_rest : rest_1_c.before args0 about1 = true := by decide +kernel
set_option maxRecDepth 65536 in
theorem w_case : (Jvm.Cond.and given_1 narrow_1).before args0 about1 = true := by decide +kernel
set_option maxRecDepth 65536 in
theorem w_consts : constsHeld consts_1 about1 := Jvm.Lit.constsHeldB_iff.mp (by decide +kernel)
theorem w_applies : (headSpec (Jvm.Cond.code x code maxLocals ret :: tables_1) room_1).applies x e0.platform about1 = true :=
  (Spec.applies_iff w_frames).mpr ⟨w_running, w_runnable, w_alone, w_named, w_hears, w_ripe, w_room, w_tables⟩
theorem atStart : AtStart classFile x code maxLocals ret World_1 tables_1 room_1 Calls_1 rest_1 Pre_1 launch0 p0 e0 about1 theMethod args0 below0 :=
  ⟨lists_1, trivial, launch0.admits_env _ _ _, launch0.least_env, fairChoices_fair.cas, fairChoices_fair.clock, w_frames, w_args, w_heap, w_applies, ⟨w_consts, trivial⟩, w_rest, w_case⟩
end start1
theorem witness_1 : WitnessClaimed_1 := ⟨start1.p0, start1.e0, start1.about1, start1.theMethod, start1.args0, start1.below0, start1.atStart⟩
end Jvm.Pilot.@@N@@
