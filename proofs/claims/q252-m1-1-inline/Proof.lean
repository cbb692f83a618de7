import JvmDerived
import JvmDerived.Pilot.@@N@@Statement
import JvmDerived.Pilot.@@N@@Code
set_option linter.unusedVariables false
set_option linter.unusedSimpArgs false
namespace Jvm.Own
open Jvm Jvm.ClassFile Sem Op Lib Jvm.Free Jvm.Stand Jvm.LawKit Jvm.RoadKit Bundle
/-! OWN LAYER: one bundle (W) for all that a walk knows of the machine; one goal (Go): from this state the method returns as Q says. Every step is a law 'W.step w .. : Go (behind) → Go (before)'. -/
abbrev Ka : Type := Program × Env × State × MethodId × List Frame × Method × Code × Array Value
abbrev kp (κ : Ka) : Program := κ.1
abbrev ke (κ : Ka) : Env := κ.2.1
abbrev ks (κ : Ka) : State := κ.2.2.1
abbrev km (κ : Ka) : MethodId := κ.2.2.2.1
abbrev kb (κ : Ka) : List Frame := κ.2.2.2.2.1
abbrev kt (κ : Ka) : Method := κ.2.2.2.2.2.1
abbrev kc (κ : Ka) : Code := κ.2.2.2.2.2.2.1
abbrev ka (κ : Ka) : Array Value := κ.2.2.2.2.2.2.2
/-- how a walk ends: the wide frame; under nar the narrow one too -/
def EndOk (nw : Bool) (U : State) (o : Outcome) (U' : State) (L : List Loc) (k n : Nat) : Prop := ReturnedEndW U o U' L k n ∧ (nw = true → FrameEnd U o U' L k n)
/-- the places that the walk may write: made since the law's start, and no String constant's -/
def Mut (Z : State) (EL : List (String × Nat)) (vm : Vm) (h : Heap) (M : List Addr) : Prop := ∀ x ∈ M, Z.heap.size ≤ x ∧ x < h.size ∧ Safe Z EL vm h x
def Ctr (l : Launch) (Z : State) (EL : List (String × Nat)) (nw : Bool) (y : MethodName) (bytes : ByteArray) (ml : Nat) (ret : Option FieldType) (rm : Room) (as : List Value) (h0 : Heap) (M : List Addr) (Q : Option Value → Heap → List Addr → Prop) : Prop :=
  MetFree l y (head1 [Cond.code y bytes ml ret] rm) (fun a U => a = as.toArray ∧ Z.Warmed39 U.vm ∧ U.heap = h0 ∧ CHv Z EL U.vm h0 ∧ Mut Z EL U.vm h0 M) (fun _ _ _ _ _ => True)
    (fun _ U o U' => ∃ v L M', o = .returned v ∧ Q v U'.heap M' ∧ Fr Z.heap.size L ∧ CHr Z EL U.vm U.heap U'.vm U'.heap ∧ Mut Z EL U'.vm U'.heap M' ∧ Old Z Z.heap.size U'.heap ∧ EndOk nw U o U' L rm.cells rm.slots)
def W (l : Launch) (Z : State) (a0 : Array Value) (EL : List (String × Nat)) (nw : Bool) (own : String) (bytes : ByteArray) (ml : Nat) (ret : Option FieldType) (R : Room) (κ : Ka) (T : State) (h : Heap) (M : List Addr) (cells slots : Nat) : Prop :=
  ((kp κ).tables.exec = Jvm.exec ∧ (kc κ).code = bytes ∧ (kc κ).maxLocals = ml ∧ (kt κ).sig.returnType = ret ∧ (kt κ).locks = false ∧ EW Z a0 EL) ∧
  ∃ (vm0 : Vm) (k0 : Nat) (locs : List Loc), Stand (kp κ) l (ke κ) R ((ks κ).setVm vm0) (km κ) (ka κ) (kb κ) (kt κ) (kc κ) T locs cells slots ∧ Fr Z.heap.size locs ∧ Z.Warmed39 vm0 ∧ vm0.findClass own = some (km κ).cls ∧ (ks κ).Since vm0 k0 ∧ k0 ≤ h.size ∧ T.heap = h ∧
    CHr Z EL (ks κ).vm (ks κ).heap vm0 h ∧ Mut Z EL vm0 h M ∧ Old Z Z.heap.size h ∧ (nw = true → (ks κ).WarmedH vm0)
def Go (Z : State) (EL : List (String × Nat)) (nw : Bool) (R : Room) (κ : Ka) (Q : Option Value → Heap → List Addr → Prop) (U : State) : Prop :=
  ∃ s₂ o, Steps (kp κ).tables (ke κ) (kb κ) U s₂ ∧ s₂.status = .running ∧ Ended s₂ (kb κ) o ∧ ∃ v L M', o = .returned v ∧ Q v s₂.heap M' ∧ Fr Z.heap.size L ∧ CHr Z EL (ks κ).vm (ks κ).heap s₂.vm s₂.heap ∧ Mut Z EL s₂.vm s₂.heap M' ∧ Old Z Z.heap.size s₂.heap ∧ EndOk nw (ks κ) o s₂ L R.cells R.slots
section Base
variable {l : Launch} {Z : State} {a0 : Array Value} {EL : List (String × Nat)} {nw : Bool} {own : String} {bytes : ByteArray} {ml : Nat} {ret : Option FieldType} {R : Room} {κ : Ka} {T : State} {h : Heap} {M : List Addr} {cells slots : Nat} {Q : Option Value → Heap → List Addr → Prop} {U U' : State} {G : JFrame}
theorem Go.via (st : ∀ t, Steps (kp κ).tables (ke κ) (kb κ) U' t → Steps (kp κ).tables (ke κ) (kb κ) U t) (g : Go Z EL nw R κ Q U') : Go Z EL nw R κ Q U := by
  obtain ⟨s₂, o, h1, r⟩ := g
  exact ⟨s₂, o, st _ h1, r⟩
theorem Go.tr (st : Steps (kp κ).tables (ke κ) (kb κ) U U') (g : Go Z EL nw R κ Q U') : Go Z EL nw R κ Q U := Go.via (fun _ k => st.trans k) g
theorem Go.mono {Q' : Option Value → Heap → List Addr → Prop} (g : Go Z EL nw R κ Q U) (q : ∀ v h M, Q v h M → Q' v h M) : Go Z EL nw R κ Q' U := by
  obtain ⟨s₂, o, h1, h2, h3, v, L, M', h4, h5, r⟩ := g
  exact ⟨s₂, o, h1, h2, h3, v, L, M', h4, q _ _ _ h5, r⟩
theorem W.old (w : W l Z a0 EL nw own bytes ml ret R κ T h M cells slots) : Old Z Z.heap.size h := by
  obtain ⟨-, vm0, k0, locs, -, -, -, -, -, -, -, -, -, hO, -⟩ := w
  exact hO
theorem W.ew (w : W l Z a0 EL nw own bytes ml ret R κ T h M cells slots) : EW Z a0 EL := w.1.2.2.2.2.2
theorem W.mut (w : W l Z a0 EL nw own bytes ml ret R κ T h M cells slots) {x : Addr} (hx : x ∈ M) : Z.heap.size ≤ x ∧ x < h.size := by
  obtain ⟨-, vm0, k0, locs, -, -, -, -, -, -, -, -, hM, -⟩ := w
  exact ⟨(hM x hx).1, (hM x hx).2.1⟩
theorem W.grow (w : W l Z a0 EL nw own bytes ml ret R κ T h M cells slots) {cells' slots' : Nat} (hc : cells ≤ cells') (hs : slots ≤ slots') : W l Z a0 EL nw own bytes ml ret R κ T h M cells' slots' := by
  obtain ⟨hC, vm0, k0, locs, X, r⟩ := w
  exact ⟨hC, vm0, k0, locs, X.mono hc hs, r⟩
theorem W.less (w : W l Z a0 EL nw own bytes ml ret R κ T h M cells slots) {M' : List Addr} (hM : ∀ x ∈ M', x ∈ M) : W l Z a0 EL nw own bytes ml ret R κ T h M' cells slots := by
  obtain ⟨hC, vm0, k0, locs, X, h1, h2, h3, h4, h5, h6, h7, h8, r⟩ := w
  exact ⟨hC, vm0, k0, locs, X, h1, h2, h3, h4, h5, h6, h7, fun x hx => h8 x (hM x hx), r⟩
/-- a pure step -/
theorem W.pure (w : W l Z a0 EL nw own bytes ml ret R κ T h M cells slots) (st : (kp κ).tables.exec = Jvm.exec → (kc κ).code = bytes → At T (km κ) (kc κ) (kb κ) → ∀ t, Steps (kp κ).tables (ke κ) (kb κ) U' t → Steps (kp κ).tables (ke κ) (kb κ) U t) (g : Go Z EL nw R κ Q U') : Go Z EL nw R κ Q U := by
  obtain ⟨⟨hx, hby, -⟩, vm0, k0, locs, X, -⟩ := w
  exact Go.via (st hx hby X.here) g
/-- the tables have moved by a resolution alone -/
theorem W.noted (w : W l Z a0 EL nw own bytes ml ret R κ T h M cells slots) (st : ∀ (s : State) (locs : List Loc), (kp κ).tables.exec = Jvm.exec → (kc κ).code = bytes → (kc κ).maxLocals = ml → Z.Warmed39 s.vm → s.vm.findClass own = some (km κ).cls → T.heap = h → Stand (kp κ) l (ke κ) R s (km κ) (ka κ) (kb κ) (kt κ) (kc κ) T locs cells slots →
      ∃ T', Stand (kp κ) l (ke κ) R s (km κ) (ka κ) (kb κ) (kt κ) (kc κ) T' locs cells slots ∧ T'.heap = h ∧ ∀ t, Steps (kp κ).tables (ke κ) (kb κ) (T'.setTop G) t → Steps (kp κ).tables (ke κ) (kb κ) U t)
    (g : ∀ T', W l Z a0 EL nw own bytes ml ret R κ T' h M cells slots → Go Z EL nw R κ Q (T'.setTop G)) : Go Z EL nw R κ Q U := by
  obtain ⟨hC, vm0, k0, locs, X, h1, h2, h3, h4, h5, h6, r⟩ := w
  obtain ⟨T', X', e', k⟩ := st ((ks κ).setVm vm0) locs hC.1 hC.2.1 hC.2.2.1 h2 h3 h6 X
  exact Go.via k (g T' ⟨hC, vm0, k0, locs, X', h1, h2, h3, h4, h5, e', r⟩)
theorem mem0 {x : Addr} {L : List Addr} : x ∈ x :: L := List.mem_cons_self ..
theorem memS {x y : Addr} {L : List Addr} (q : x ∈ L) : x ∈ y :: L := List.mem_cons_of_mem _ q
theorem memA {x : Addr} {L K : List Addr} (q : x ∈ K) : x ∈ L ++ K := List.mem_append_right _ q
theorem memB {x : Addr} {L K : List Addr} (q : x ∈ L) : x ∈ L ++ K := List.mem_append_left _ q
theorem keepE {h h' : Heap} (E : Ext h h') : Keep h h' [] := (Keep.refl h []).ext E
theorem neL {x a : Addr} {h : Heap} (q : x < h.size) (r : h.size ≤ a) : x ≠ a := Nat.ne_of_lt (Nat.lt_of_lt_of_le q r)
/-- something was made: an object or an array, as Ext says; its place may be written -/
theorem W.made (w : W l Z a0 EL nw own bytes ml ret R κ T h M cells slots) {k n : Nat} {P : Heap → Prop} (st : ∀ (s : State) (locs : List Loc), (kp κ).tables.exec = Jvm.exec → (kc κ).code = bytes → (kc κ).maxLocals = ml → Z.Warmed39 s.vm → s.vm.findClass own = some (km κ).cls → T.heap = h → Stand (kp κ) l (ke κ) R s (km κ) (ka κ) (kb κ) (kt κ) (kc κ) T locs cells slots →
      ∃ T' h', Stand (kp κ) l (ke κ) R s (km κ) (ka κ) (kb κ) (kt κ) (kc κ) T' locs (cells + k) (slots + n) ∧ T'.heap = h' ∧ Ext h h' ∧ h.size < h'.size ∧ P h' ∧ ∀ t, Steps (kp κ).tables (ke κ) (kb κ) (T'.setTop G) t → Steps (kp κ).tables (ke κ) (kb κ) U t)
    (g : ∀ T' h', W l Z a0 EL nw own bytes ml ret R κ T' h' (h.size :: M) (cells + k) (slots + n) → Keep h h' [] → P h' → Go Z EL nw R κ Q (T'.setTop G)) : Go Z EL nw R κ Q U := by
  obtain ⟨hC, vm0, k0, locs, X, h1, h2, h3, h4, h5, h6, h7, h8, h9, r⟩ := w
  obtain ⟨T', h', X', e', E, hlt, hP, k⟩ := st ((ks κ).setVm vm0) locs hC.1 hC.2.1 hC.2.2.1 h2 h3 h6 X
  refine Go.via k (g T' h' ⟨hC, vm0, k0, locs, X', h1, h2, h3, h4, Nat.le_trans h5 E.1, e', h7.trans (CHr.ext E h7.1), fun x hx => ?_, h9.ext E, r⟩ (keepE E) hP)
  rcases List.mem_cons.mp hx with rfl | hx
  · exact ⟨h9.1 ▸ h9.2.1, hlt, Safe.ext E h7.1 (Safe.new (Nat.le_refl _))⟩
  · obtain ⟨a, b, c⟩ := h8 x hx
    exact ⟨a, Nat.lt_of_lt_of_le b E.1, Safe.ext E h7.1 c⟩
/-- one place was written -/
theorem W.wrote (w : W l Z a0 EL nw own bytes ml ret R κ T h M cells slots) {a : Addr} (ha : a ∈ M) {sl : Nat} {v : Value} (st : ∀ (s : State) (locs : List Loc), (kp κ).tables.exec = Jvm.exec → (kc κ).code = bytes → (kc κ).maxLocals = ml → Z.Warmed39 s.vm → s.vm.findClass own = some (km κ).cls → T.heap = h → Stand (kp κ) l (ke κ) R s (km κ) (ka κ) (kb κ) (kt κ) (kc κ) T locs cells slots →
      ∃ T' h', Stand (kp κ) l (ke κ) R s (km κ) (ka κ) (kb κ) (kt κ) (kc κ) T' (locs ++ [⟨a, sl⟩]) cells slots ∧ T'.heap = h' ∧ Wr h h' a sl v ∧ ∀ t, Steps (kp κ).tables (ke κ) (kb κ) (T'.setTop G) t → Steps (kp κ).tables (ke κ) (kb κ) U t)
    (g : ∀ T' h', W l Z a0 EL nw own bytes ml ret R κ T' h' M cells slots → Wr h h' a sl v → Go Z EL nw R κ Q (T'.setTop G)) : Go Z EL nw R κ Q U := by
  obtain ⟨hC, vm0, k0, locs, X, h1, h2, h3, h4, h5, h6, h7, h8, h9, r⟩ := w
  obtain ⟨T', h', X', e', Wr', k⟩ := st ((ks κ).setVm vm0) locs hC.1 hC.2.1 hC.2.2.1 h2 h3 h6 X
  obtain ⟨a1, a2, a3⟩ := h8 a ha
  refine Go.via k (g T' h' ⟨hC, vm0, k0, _, X', Fr.snoc X' h1 a1, h2, h3, h4, by rw [Wr'.size]; exact h5, e', h7.trans (CHr.wr Wr' a3 h7.1), fun x hx => ?_, h9.wr Wr' a1, r⟩ Wr')
  obtain ⟨a, b, c⟩ := h8 x hx
  exact ⟨a, by rw [Wr'.size]; exact b, Safe.wr Wr' a3 h7.1 c⟩
/-- old places among ws were written, at once -/
theorem W.kept (w : W l Z a0 EL nw own bytes ml ret R κ T h M cells slots) {ws : List Addr} (hws : ∀ x ∈ ws, x ∈ M) {P : Heap → Prop} (st : ∀ (s : State) (locs : List Loc), (kp κ).tables.exec = Jvm.exec → (kc κ).code = bytes → (kc κ).maxLocals = ml → Z.Warmed39 s.vm → s.vm.findClass own = some (km κ).cls → T.heap = h → Fr Z.heap.size locs → Stand (kp κ) l (ke κ) R s (km κ) (ka κ) (kb κ) (kt κ) (kc κ) T locs cells slots →
      ∃ T' h' L, Stand (kp κ) l (ke κ) R s (km κ) (ka κ) (kb κ) (kt κ) (kc κ) T' L cells slots ∧ T'.heap = h' ∧ Fr Z.heap.size L ∧ Keep h h' ws ∧ P h' ∧ ∀ t, Steps (kp κ).tables (ke κ) (kb κ) (T'.setTop G) t → Steps (kp κ).tables (ke κ) (kb κ) U t)
    (g : ∀ T' h', W l Z a0 EL nw own bytes ml ret R κ T' h' M cells slots → Keep h h' ws → P h' → Go Z EL nw R κ Q (T'.setTop G)) : Go Z EL nw R κ Q U := by
  obtain ⟨hC, vm0, k0, locs, X, h1, h2, h3, h4, h5, h6, h7, h8, h9, r⟩ := w
  obtain ⟨T', h', L, X', e', N', K, hP, k⟩ := st ((ks κ).setVm vm0) locs hC.1 hC.2.1 hC.2.2.1 h2 h3 h6 h1 X
  have hs : ∀ x ∈ ws, Safe Z EL vm0 h x := fun x hx => (h8 x (hws x hx)).2.2
  refine Go.via k (g T' h' ⟨hC, vm0, k0, L, X', N', h2, h3, h4, Nat.le_trans h5 K.1, e', h7.trans (CHr.keep K hs h7.1), fun x hx => ?_, h9.keep K (fun x hx => (h8 x (hws x hx)).1), r⟩ K hP)
  obtain ⟨a, b, c⟩ := h8 x hx
  exact ⟨a, Nat.lt_of_lt_of_le b K.1, Safe.keep K hs h7.1 c⟩
/-- the walk leaves -/
theorem W.leave (w : W l Z a0 EL nw own bytes ml ret R κ T h M cells slots) {v : Option Value} (hv : ret = none → v = none) (hc : cells ≤ R.cells) (hs : slots ≤ R.slots) {M' : List Addr} (hM : ∀ x ∈ M', x ∈ M) (hq : Q v h M')
    (st : ∀ (s : State) (locs : List Loc) (fs : List Frame), (kp κ).tables.exec = Jvm.exec → (kc κ).code = bytes → (kt κ).sig.returnType = ret → Stand (kp κ) l (ke κ) R s (km κ) (ka κ) (kb κ) (kt κ) (kc κ) T locs cells slots →
      (∀ (f : JFrame) (acts : List Action), f.method = km κ → f.locked = none → f.entered = [] → (doReturn (ke κ) (T.setTop f) acts v).1 = T.setFrames fs) → Steps (kp κ).tables (ke κ) (kb κ) U (T.setFrames fs)) : Go Z EL nw R κ Q U := by
  obtain ⟨⟨hx, hby, hml, hret, hlk, hEL⟩, vm0, k0, locs, X, h1, h2, h3, h4, h5, h6, h7, h8, h9, h10⟩ := w
  obtain ⟨fs, l1, l2, l3, l4, l5⟩ := X.leave (v := v) (fun q => hv (hret.symm.trans q)) hlk
  have A := CHv.at X h2 hEL h7.1
  obtain ⟨b1, b2, b3⟩ := h4.ended (U := T.setFrames fs) l4 (by show k0 ≤ T.heap.size; rw [h6]; exact h5) l5
  refine ⟨T.setFrames fs, _, st _ locs fs hx hby hret X l1, l2, l3, v, locs, M', rfl, ?_, h1, ?_, ?_, ?_, ⟨⟨⟨_, rfl⟩, b1, b2, b3.mono hc hs⟩, fun q => ⟨⟨_, rfl⟩, State.WarmedH.trans (h10 q) l4, b3.mono hc hs⟩⟩⟩
  · show Q v T.heap M'
    rw [h6]; exact hq
  · show CHr Z EL (ks κ).vm (ks κ).heap T.vm T.heap
    rw [h6]; exact h7.trans A
  · intro x hx
    obtain ⟨a, b, c⟩ := h8 x (hM x hx)
    show Z.heap.size ≤ x ∧ x < T.heap.size ∧ Safe Z EL T.vm T.heap x
    rw [h6]; exact ⟨a, b, A.safe b c⟩
  · show Old Z Z.heap.size T.heap
    rw [h6]; exact h9
/-- entering a body -/
theorem of_body {y : MethodName} {rm : Room} {as : List Value} {h0 : Heap} (hp : plainFor y = true) (hEL : EW Z a0 EL) (hO : Old Z Z.heap.size h0) {Ls : Array Slot} (hent : ∀ m, entryFrame m as.toArray ml = mkF m 0 Ls [])
    (body : ∀ (κ : Ka) (T : State), W l Z a0 EL nw y.cls bytes ml ret rm κ T h0 M 0 0 → (kt κ).name = y.name → Go Z EL nw rm κ Q (T.setTop (mkF (km κ) 0 Ls []))) : Ctr l Z EL nw y bytes ml ret rm as h0 M Q := by
  refine MetFree.of_bodySF hp hisR ?_
  intro p e s m args below meth c s₁ Bd hml0 hP hK
  obtain ⟨rfl, hZ, hh, hCH, hMu⟩ := hP
  have X0 : Stand p l e rm s m as.toArray below meth c s₁ [] 0 0 := Stand.of_body Bd
  have e0 : s₁.heap = h0 := by rw [← hh, Bd.state]; rfl
  have hnm := (name_of_methodNamed Bd.named Bd.method).1
  have w : W l Z a0 EL nw y.cls bytes ml ret rm (p, e, s, m, below, meth, c, as.toArray) s₁ h0 M 0 0 :=
    ⟨⟨Bd.exec, Bd.bytes, hml0, Bd.returns, BodyLoose.notSynchronized Bd, hEL⟩, s.vm, 0, [], X0, Fr.nil _, hZ, findClass_of_methodNamed Bd.named, (State.WarmedH.refl s).since 0, Nat.zero_le _, e0, hh ▸ CHr.refl (hh ▸ hCH), hMu, hO, fun _ => State.WarmedH.refl s⟩
  have g := body _ s₁ w hnm
  rw [← hent] at g
  exact g
end Base
section Calls
variable {l : Launch} {Z : State} {a0 : Array Value} {EL : List (String × Nat)} {nw : Bool} {own : String} {bytes : ByteArray} {ml : Nat} {ret : Option FieldType} {R : Room} {κ : Ka} {T : State} {h : Heap} {M : List Addr} {cells slots : Nat} {Q : Option Value → Heap → List Addr → Prop} {U U' : State} {G : JFrame}
/-- who pays a call of y with the arguments as at the heap h -/
def Pay (l : Launch) (Z : State) (EL : List (String × Nat)) (nw : Bool) (y : MethodName) (len kf kl kn kw : Nat) (as : List Value) (h : Heap) (M : List Addr) (Q : Option Value → Heap → List Addr → Prop) : Prop :=
  ∀ (R : Room) (p : Program) (e : Env) (below : List Frame) (s : State) (vm0 : Vm) (args : Array Value) (Wd : Nat), Z.Warmed39 vm0 → CHv Z EL vm0 h → Mut Z EL vm0 h M → kf ≤ R.frames → Wd + kl ≤ R.locals →
    BackS l R p e below (s.setVm vm0) args y len Wd (fun P a => a = as.toArray ∧ P.U.heap = h ∧ P.cells + kn ≤ R.cells ∧ P.slots + kw ≤ R.slots)
      (fun P _ v B => ∃ L M', Q v B.U.heap M' ∧ Fr Z.heap.size L ∧ B.locs = P.locs ++ L ∧ B.cells = P.cells + kn ∧ B.slots = P.slots + kw ∧ CHr Z EL vm0 h B.U.vm B.U.heap ∧ Mut Z EL B.U.vm B.U.heap M' ∧ Old Z Z.heap.size B.U.heap ∧ (nw = true → (s.setVm vm0).WarmedH B.U.vm))
theorem Mut.at {vm0 vm1 : Vm} {h' : Heap} (C : CHr Z EL vm0 h vm1 h') (m : Mut Z EL vm0 h M) : Mut Z EL vm1 h' M := fun x hx => by
  obtain ⟨a, b, c⟩ := m x hx
  exact ⟨a, Nat.lt_of_lt_of_le b C.2.1, C.safe b c⟩
theorem Ctr.pay {y : MethodName} {rm : Room} {as : List Value} {len : Nat} (hM : Ctr l Z EL nw y bytes ml ret rm as h M Q) (hEL : EW Z a0 EL) (wc : (Cond.code y bytes ml ret).before a0 Z = true) (wz : (Cond.initialized y.cls).before a0 Z = true) {kf kl : Nat} (ekf : rm.frames + 1 ≤ kf) (ekl : ml + 11 + rm.locals ≤ kl) :
    Pay l Z EL nw y len kf kl rm.cells rm.slots as h M Q := by
  intro R p e below s vm0 args Wd hZ H hMu hf hl
  refine BackS.of_freeW (bytes := bytes) (maxL := ml) (ret := ret) (E := fun _ first o t L k n => k = rm.cells ∧ n = rm.slots ∧ ∃ v M', o = .returned v ∧ Q v t.heap M' ∧ Fr Z.heap.size L ∧ CHr Z EL first.vm first.heap t.vm t.heap ∧ Mut Z EL t.vm t.heap M' ∧ Old Z Z.heap.size t.heap ∧ (nw = true → first.WarmedH t.vm)) hM (Nat.le_trans ekf hf) (by show Wd + (ml + 11) + rm.locals ≤ R.locals; omega)
    (fun m meth c A a Y hp => have hU : Z.Warmed39 A.U.vm := wtrans (s := s.setVm vm0) hZ Y.warmed
      ⟨by show (Cond.and _ .tt).before a A.U = true; rw [Cond.before_and, mv hU wc]; rfl, mv hU wc, mv hU wz, hp.2.2.1, hp.2.2.2⟩)
    (fun m meth c A a g mk Y hp => ⟨hp.1, wtrans (s := s.setVm vm0) hZ Y.warmed, hp.2.1, (CHv.at Y hZ hEL H).1, (show Mut Z EL A.U.vm h M from hMu.at (CHv.at Y hZ hEL H))⟩) (fun _ _ _ _ _ _ _ _ _ => trivial)
    (fun _ _ _ _ ⟨v, L, M', h1, h2, h3, h4, h5, h6, h7⟩ => ⟨L, _, _, h7.1, rfl, rfl, v, M', h1, h2, h3, h4, h5, h6, fun q => (h7.2 q).2.1⟩)
    (fun m meth c A a g mk v t L k n Y hp _ _ ⟨e1, e2, v', M', e3, e4, e5, e6, e7, e8, e9⟩ => by
      cases e3; subst e1 e2
      refine ⟨L, M', e4, e5, rfl, rfl, rfl, (CHv.at Y hZ hEL H).trans ?_, e7, e8, fun q => State.WarmedH.trans Y.warmed (e9 q)⟩
      rw [← hp.2.1]; exact e6)
theorem Pay.of_back {y : MethodName} {as : List Value} {len kf kl kn kw : Nat} {Q' : Option Value → Heap → List Loc → Prop} {ws : List Addr} (hEL : EW Z a0 EL) (hO : Old Z Z.heap.size h)
    (hB : ∀ (R : Room) (p : Program) (e : Env) (below : List Frame) (s : State) (args : Array Value) (Wd : Nat), Z.Warmed39 s.vm → kf ≤ R.frames → Wd + kl ≤ R.locals →
      Back l R p e below s args y len Wd (fun P a => a = as.toArray ∧ P.U.heap = h ∧ P.cells + kn ≤ R.cells ∧ P.slots + kw ≤ R.slots) (fun P _ v B => ∃ L, Q' v B.U.heap L ∧ B.locs = P.locs ++ L ∧ B.cells = P.cells + kn ∧ B.slots = P.slots + kw))
    (hws : ∀ x ∈ ws, x ∈ M) (hQ : ∀ v h' L, Q' v h' L → Q v h' [] ∧ Fr Z.heap.size L ∧ Keep h h' ws) : Pay l Z EL nw y len kf kl kn kw as h M Q := by
  intro R p e below s vm0 args Wd hZ H hMu hf hl m meth c A g ig mk a X hg hsize hdg hW hn hp
  obtain ⟨v, B, X', ⟨L, q1, q2, q3, q4⟩, st⟩ := hB R p e below (s.setVm vm0) args Wd hZ hf hl m meth c A g ig mk a X hg hsize hdg hW hn hp
  obtain ⟨r1, r2, K⟩ := hQ _ _ _ q1
  have C1 := CHr.keep K (fun x hx => (hMu x (hws x hx)).2.2) H
  have C2 := C1.trans (CHv.at X' hZ hEL C1.1)
  refine ⟨v, B, X'.retabled X'.warmed.wide, X'.warmed.since _, by rw [hp.2.1]; exact K.1, ⟨L, [], r1, r2, q2, q3, q4, C2, (fun x hx => nomatch hx), hO.keep K (fun x hx => (hMu x (hws x hx)).1), fun _ => X'.warmed⟩, st⟩
/-- a call was made and paid -/
theorem W.called (w : W l Z a0 EL nw own bytes ml ret R κ T h M cells slots) {y : MethodName} {len kf kl kn kw : Nat} {as : List Value} {M0 : List Addr} {Qc : Option Value → Heap → List Addr → Prop} (P : Pay l Z EL nw y len kf kl kn kw as h M0 Qc) (hM0 : ∀ x ∈ M0, x ∈ M) {Wd : Nat} (hf : kf ≤ R.frames) (hlo : Wd + kl ≤ R.locals) (hcl : cells + kn ≤ R.cells) (hsl : slots + kw ≤ R.slots) {F : Option Value → JFrame}
    (st : ∀ (s : State) (locs : List Loc) (Post : Pt → Array Value → Option Value → Pt → Prop), (kp κ).tables.exec = Jvm.exec → (kc κ).code = bytes → (kc κ).maxLocals = ml → Z.Warmed39 s.vm → s.vm.findClass own = some (km κ).cls → T.heap = h → Stand (kp κ) l (ke κ) R s (km κ) (ka κ) (kb κ) (kt κ) (kc κ) T locs cells slots →
      BackS l R (kp κ) (ke κ) (kb κ) s (ka κ) y len Wd (fun P a => a = as.toArray ∧ P.U.heap = h ∧ P.cells + kn ≤ R.cells ∧ P.slots + kw ≤ R.slots) Post →
      ∃ (v : Option Value) (vm₁ : Vm) (B : Pt), s.WarmedH vm₁ ∧ Stand (kp κ) l (ke κ) R (s.setVm B.U.vm) (km κ) (ka κ) (kb κ) (kt κ) (kc κ) B.U B.locs B.cells B.slots ∧ s.Since B.U.vm B.U.heap.size ∧ T.heap.size ≤ B.U.heap.size ∧ Post ⟨T.setVm vm₁, locs, cells, slots⟩ as.toArray v B ∧ Steps (kp κ).tables (ke κ) (kb κ) U (B.U.setTop (F v)))
    (g : ∀ v T' h' M', W l Z a0 EL nw own bytes ml ret R κ T' h' (M' ++ M) (cells + kn) (slots + kw) → Qc v h' M' → Go Z EL nw R κ Q (T'.setTop (F v))) : Go Z EL nw R κ Q U := by
  obtain ⟨hC, vm0, k0, locs, X, h1, h2, h3, h4, h5, h6, h7, h8, h9, h10⟩ := w
  have hK := P R (kp κ) (ke κ) (kb κ) (ks κ) vm0 (ka κ) Wd h2 h7.1 (fun x hx => h8 x (hM0 x hx)) hf hlo
  obtain ⟨v, vm₁, ⟨T', L', c', n'⟩, hW, X', hS, hg, ⟨L, M', q1, q2, q3, q4, q5, q6, q7, q8, q9⟩, k⟩ := st ((ks κ).setVm vm0) locs _ hC.1 hC.2.1 hC.2.2.1 h2 h3 h6 X hK
  dsimp only [Pt.U, Pt.locs, Pt.cells, Pt.slots] at X' hS hg q1 q3 q4 q5 q6 q7 q8 q9 k
  subst q3 q4 q5
  refine Go.tr k (g v T' T'.heap M' ⟨hC, T'.vm, T'.heap.size, _, X', h1.app q2, State.Warmed39.trans (t := (ks κ).setVm vm0) h2 hS.1, ?_, h4.trans hS (by rw [← h6] at h5; exact Nat.le_trans h5 hg), Nat.le_refl _, rfl, h7.trans q6, fun x hx => ?_, q8, fun q => State.WarmedH.trans (h10 q) (q9 q)⟩ q1)
  · rw [hS.1.alike.findClass]; exact h3
  · rcases List.mem_append.mp hx with hx | hx
    · exact q7 x hx
    · exact (h8.at q6) x hx
theorem mr0 (m : MethodId) (pc : Nat) (Ls : Array Slot) (S : List Value) : (mkF m pc Ls S).monitorRoom = 0 := rfl
theorem W.callS (w : W l Z a0 EL nw own bytes ml ret R κ T h M cells slots) {index : Nat} {y : MethodName} {yb : ByteArray} {yl : Nat} {yr : Option FieldType} (w1 : (Cond.methodLink own index y).before a0 Z = true) (w2 : (Cond.static y).before a0 Z = true) (w3 : (Cond.initialized y.cls).before a0 Z = true) (w4 : (Cond.code y yb yl yr).before a0 Z = true)
    (hy : y.cls ≠ "java/lang/invoke/MethodHandle" ∧ y.cls ≠ "java/lang/invoke/VarHandle") {ps : List FieldType} {rt : Option FieldType} (hd : parseMethodDescriptor y.desc = some ⟨ps, rt⟩)
    {kf kl kn kw : Nat} {as : List Value} {M0 : List Addr} {Qc : Option Value → Heap → List Addr → Prop} (P : Pay l Z EL nw y 3 kf kl kn kw as h M0 Qc) (hM0 : ∀ x ∈ M0, x ∈ M) {pc pc' : Nat} {Ls : Array Slot} {S rest : List Value} (hdg : decode bytes pc = .ok (.invokestatic index, 3)) (hp : pc + 3 = pc') (hsz : Ls.size = ml) (hln : as.length = ps.length) (hst : S = as.reverse ++ rest)
    {Wd : Nat} (hwd : (rest.map fun v => v.category).sum = Wd) (hf : kf ≤ R.frames) (hlo : Wd + kl ≤ R.locals) (hcl : cells + kn ≤ R.cells) (hsl : slots + kw ≤ R.slots)
    (g : ∀ v T' h' M', W l Z a0 EL nw own bytes ml ret R κ T' h' (M' ++ M) (cells + kn) (slots + kw) → Qc v h' M' → Go Z EL nw R κ Q (T'.setTop (mkF (km κ) pc' Ls (v.toList ++ rest)))) : Go Z EL nw R κ Q (T.setTop (mkF (km κ) pc Ls S)) := by
  subst hp
  refine w.called P hM0 hf hlo hcl hsl (F := fun v => mkF (km κ) (pc + 3) Ls (v.toList ++ rest)) (fun s locs Post hx hby hml hZ hown eT X hK => ?_) g
  exact callSS X hx hown (mvT hZ w1) (mvT hZ w2) (mvT hZ w3) (mvT hZ w4) hy hK (g := mkF (km κ) pc Ls S) rfl (hsz.trans hml.symm) (lenOf hd hln) hst (by rw [mr0]; omega) (hb hby hdg) (fun vm₁ _ => ⟨rfl, eT, hcl, hsl⟩)
theorem W.callI (w : W l Z a0 EL nw own bytes ml ret R κ T h M cells slots) {index : Nat} {y : MethodName} {yb : ByteArray} {yl : Nat} (w1 : (Cond.methodLink own index y).before a0 Z = true) (w2 : (Cond.instanceMethod y).before a0 Z = true) (w4 : (Cond.code y yb yl none).before a0 Z = true) (hy1 : y.name = "<init>")
    (hy : y.cls ≠ "java/lang/invoke/MethodHandle" ∧ y.cls ≠ "java/lang/invoke/VarHandle") {ps : List FieldType} {rt : Option FieldType} (hd : parseMethodDescriptor y.desc = some ⟨ps, rt⟩)
    {kf kl kn kw : Nat} {a : Addr} {as : List Value} {M0 : List Addr} {Qc : Option Value → Heap → List Addr → Prop} (P : Pay l Z EL nw y 3 kf kl kn kw (.ref a :: as) h M0 Qc) (hM0 : ∀ x ∈ M0, x ∈ M) {pc pc' : Nat} {Ls : Array Slot} {S rest : List Value} (hdg : decode bytes pc = .ok (.invokespecial index, 3)) (hp : pc + 3 = pc') (hsz : Ls.size = ml) (hln : as.length = ps.length) (hst : S = as.reverse ++ .ref a :: rest)
    {Wd : Nat} (hwd : (rest.map fun v => v.category).sum = Wd) (hf : kf ≤ R.frames) (hlo : Wd + kl ≤ R.locals) (hcl : cells + kn ≤ R.cells) (hsl : slots + kw ≤ R.slots)
    (g : ∀ v T' h' M', W l Z a0 EL nw own bytes ml ret R κ T' h' (M' ++ M) (cells + kn) (slots + kw) → Qc v h' M' → Go Z EL nw R κ Q (T'.setTop (mkF (km κ) pc' Ls (v.toList ++ rest)))) : Go Z EL nw R κ Q (T.setTop (mkF (km κ) pc Ls S)) := by
  subst hp
  refine w.called P hM0 hf hlo hcl hsl (F := fun v => mkF (km κ) (pc + 3) Ls (v.toList ++ rest)) (fun s locs Post hx hby hml hZ hown eT X hK => ?_) g
  exact X.specialBackS hx hy1 hown (mvT hZ w1) (mvT hZ w2) (mvT hZ w4) hy hK (g := mkF (km κ) pc Ls S) rfl (hsz.trans hml.symm) (Steps.refl _) (lenOf hd hln) hst (by rw [mr0]; omega) (hb hby hdg) (fun vm₁ _ => ⟨rfl, eT, hcl, hsl⟩)
theorem W.callV (w : W l Z a0 EL nw own bytes ml ret R κ T h M cells slots) {index : Nat} {C : String} {y z : MethodName} (w1 : (Cond.methodLink own index y).before a0 Z = true) (w2 : (Cond.declares y).before a0 Z = true) (nf : ∀ (s : State), Z.Warmed39 s.vm → NotFace s y) (w3 : (Cond.selects C y z).before a0 Z = true) (w4 : (Cond.instanceMethod z).before a0 Z = true)
    (hy : y.cls ≠ "java/lang/invoke/MethodHandle" ∧ y.cls ≠ "java/lang/invoke/VarHandle") {ps : List FieldType} {rt : Option FieldType} (hd : parseMethodDescriptor y.desc = some ⟨ps, rt⟩) {a : Addr} (E : Exa Z h a C)
    {kf kl kn kw : Nat} {as : List Value} {M0 : List Addr} {Qc : Option Value → Heap → List Addr → Prop} (P : Pay l Z EL nw z 3 kf kl kn kw (.ref a :: as) h M0 Qc) (hM0 : ∀ x ∈ M0, x ∈ M) {pc pc' : Nat} {Ls : Array Slot} {S rest : List Value} (hdg : decode bytes pc = .ok (.invokevirtual index, 3)) (hp : pc + 3 = pc') (hsz : Ls.size = ml) (hln : as.length = ps.length) (hst : S = as.reverse ++ .ref a :: rest)
    {Wd : Nat} (hwd : (rest.map fun v => v.category).sum = Wd) (hf : kf ≤ R.frames) (hlo : Wd + kl ≤ R.locals) (hcl : cells + kn ≤ R.cells) (hsl : slots + kw ≤ R.slots)
    (g : ∀ v T' h' M', W l Z a0 EL nw own bytes ml ret R κ T' h' (M' ++ M) (cells + kn) (slots + kw) → Qc v h' M' → Go Z EL nw R κ Q (T'.setTop (mkF (km κ) pc' Ls (v.toList ++ rest)))) : Go Z EL nw R κ Q (T.setTop (mkF (km κ) pc Ls S)) := by
  subst hp
  refine w.called P hM0 hf hlo hcl hsl (F := fun v => mkF (km κ) (pc + 3) Ls (v.toList ++ rest)) (fun s locs Post hx hby hml hZ hown eT X hK => ?_) g
  obtain ⟨cB, kB, q1, q2, q3⟩ := isOf hZ eT E
  exact X.virtualBackS hx hown (mvT hZ w1) (mvT hZ w2) (nf s hZ) (mvT hZ w3) (mvT hZ w4) hy hK q1 q3 (g := mkF (km κ) pc Ls S) rfl (hsz.trans hml.symm) (Steps.refl _) (lenOf hd hln) hst (by rw [mr0]; omega) (hb hby hdg) (fun vm₁ _ => ⟨rfl, eT, hcl, hsl⟩)
theorem W.callU (w : W l Z a0 EL nw own bytes ml ret R κ T h M cells slots) {index : Nat} {K : String} {y : MethodName} {yb : ByteArray} {yl : Nat} {yr : Option FieldType} (w1 : (Cond.methodLink own index y).before a0 Z = true) (w2 : (Cond.sameMethod y.cls y.cls y.name y.desc).before a0 Z = true) (w3 : (Cond.instanceMethod y).before a0 Z = true) (w4 : (Cond.superclass own y.cls).before a0 Z = true) (w5 : (Cond.code y yb yl yr).before a0 Z = true) (hn : y.name ≠ "<init>")
    {ps : List FieldType} {rt : Option FieldType} (hd : parseMethodDescriptor y.desc = some ⟨ps, rt⟩) {a : Addr} (F : Ins Z h a K true)
    {kf kl kn kw : Nat} {as : List Value} {M0 : List Addr} {Qc : Option Value → Heap → List Addr → Prop} (P : Pay l Z EL nw y 3 kf kl kn kw (.ref a :: as) h M0 Qc) (hM0 : ∀ x ∈ M0, x ∈ M) {pc pc' : Nat} {Ls : Array Slot} {S rest : List Value} (hdg : decode bytes pc = .ok (.invokespecial index, 3)) (hp : pc + 3 = pc') (hsz : Ls.size = ml) (hln : as.length = ps.length) (hst : S = as.reverse ++ .ref a :: rest)
    {Wd : Nat} (hwd : (rest.map fun v => v.category).sum = Wd) (hf : kf ≤ R.frames) (hlo : Wd + kl ≤ R.locals) (hcl : cells + kn ≤ R.cells) (hsl : slots + kw ≤ R.slots)
    (g : ∀ v T' h' M', W l Z a0 EL nw own bytes ml ret R κ T' h' (M' ++ M) (cells + kn) (slots + kw) → Qc v h' M' → Go Z EL nw R κ Q (T'.setTop (mkF (km κ) pc' Ls (v.toList ++ rest)))) : Go Z EL nw R κ Q (T.setTop (mkF (km κ) pc Ls S)) := by
  subst hp
  refine w.called P hM0 hf hlo hcl hsl (F := fun v => mkF (km κ) (pc + 3) Ls (v.toList ++ rest)) (fun s locs Post hx hby hml hZ hown eT X hK => ?_) g
  exact superBackS X hx hZ hown w1 w2 w3 w4 hn hK eT F (g := mkF (km κ) pc Ls S) rfl (hsz.trans hml.symm) w5 (lenOf hd hln) hst (by rw [mr0]; omega) (hb hby hdg) (fun vm₁ _ => ⟨rfl, eT, hcl, hsl⟩)
theorem W.callF (w : W l Z a0 EL nw own bytes ml ret R κ T h M cells slots) {index count : Nat} {C : String} {y z : MethodName} (w1 : (Cond.methodLink own index y).before a0 Z = true) (w2 : (Cond.declares y).before a0 Z = true) (w3 : (Cond.interfaceMethod y.cls y.cls y.name y.desc).before a0 Z = true) (w4 : (Cond.selects C y z).before a0 Z = true) (w5 : (Cond.instanceMethod z).before a0 Z = true)
    (w6 : (Cond.publicMethod z).before a0 Z = true) (w7 : (Cond.unhidden C y.name y.desc).before a0 Z = true) (w8 : (Cond.castable C y.cls).before a0 Z = true) (k3 : ((Cond.interfaceMethod y.cls y.cls y.name y.desc).onTables && (Cond.interfaceMethod y.cls y.cls y.name y.desc).keepsFace) = true)
    (hy : y.cls ≠ "java/lang/invoke/MethodHandle" ∧ y.cls ≠ "java/lang/invoke/VarHandle") {ps : List FieldType} {rt : Option FieldType} (hd : parseMethodDescriptor y.desc = some ⟨ps, rt⟩) {a : Addr} (E : Exa Z h a C)
    {kf kl kn kw : Nat} {as : List Value} {M0 : List Addr} {Qc : Option Value → Heap → List Addr → Prop} (P : Pay l Z EL nw z 5 kf kl kn kw (.ref a :: as) h M0 Qc) (hM0 : ∀ x ∈ M0, x ∈ M) {pc pc' : Nat} {Ls : Array Slot} {S rest : List Value} (hdg : decode bytes pc = .ok (.invokeinterface index count, 5)) (hp : pc + 5 = pc') (hsz : Ls.size = ml) (hln : as.length = ps.length) (hst : S = as.reverse ++ .ref a :: rest)
    {Wd : Nat} (hwd : (rest.map fun v => v.category).sum = Wd) (hf : kf ≤ R.frames) (hlo : Wd + kl ≤ R.locals) (hcl : cells + kn ≤ R.cells) (hsl : slots + kw ≤ R.slots)
    (g : ∀ v T' h' M', W l Z a0 EL nw own bytes ml ret R κ T' h' (M' ++ M) (cells + kn) (slots + kw) → Qc v h' M' → Go Z EL nw R κ Q (T'.setTop (mkF (km κ) pc' Ls (v.toList ++ rest)))) : Go Z EL nw R κ Q (T.setTop (mkF (km κ) pc Ls S)) := by
  subst hp
  refine w.called P hM0 hf hlo hcl hsl (F := fun v => mkF (km κ) (pc + 5) Ls (v.toList ++ rest)) (fun s locs Post hx hby hml hZ hown eT X hK => ?_) g
  obtain ⟨cB, kB, q1, q2, q3⟩ := isOf hZ eT E
  exact X.interfaceBackS hx hown (mvT hZ w1) (mvT hZ w2) (mvT hZ w3 k3) (mvT hZ w4) (mvT hZ w5) (mvT hZ w6) (mvT hZ w7) (mvT hZ w8) hy hK q1 q2 q3 (g := mkF (km κ) pc Ls S) rfl (hsz.trans hml.symm) (Steps.refl _) (lenOf hd hln) hst (by rw [mr0]; omega) (hb hby hdg) (fun vm₁ _ => ⟨rfl, eT, hcl, hsl⟩)
/-- a private method is declared too -/
theorem decl_of {y : MethodName} {yb : ByteArray} {yl : Nat} {yr : Option FieldType} (w1 : (Cond.instanceMethod y).before a0 Z = true) (w2 : (Cond.code y yb yl yr).before a0 Z = true) : (Cond.declares y).before a0 Z = true := by
  obtain ⟨m, meth, h1, h2, h3, -⟩ := Cond.instanceMethod_spec w1
  obtain ⟨meth', c, q1, -, -, -, -, -, -, hsig⟩ := Cond.code_spec h1 w2
  cases h2.symm.trans q1
  simp [Cond.before, Cond.holds, Cond.value, h1, h2, h3, hsig]
/-- the lookup from a class finds what the class declares itself -/
theorem sm_of {C : String} {y y' : MethodName} (w1 : (Cond.declares y).before a0 Z = true) (w2 : (Cond.selects C y' y').before a0 Z = true) (hc : y'.cls = y.cls) (hy : y.cls ≠ "java/lang/invoke/MethodHandle" ∧ y.cls ≠ "java/lang/invoke/VarHandle") : (Cond.sameMethod y.cls y.cls y.name y.desc).before a0 Z = true := by
  obtain ⟨m, meth, h1, h2, -, -⟩ := Cond.declares_spec w1
  obtain ⟨c2, r2, m2, q1, q2, q3, q4, kP, hkP, hkPi⟩ := Cond.selects_spec w2
  have hf := State.methodFound?_of_named h1 hy
  have hc1 := findClass_of_methodNamed h1
  have hc2 := findClass_of_methodNamed q3
  rw [hc] at hc2
  have e : m2.cls = m.cls := Option.some.inj (hc2.symm.trans hc1)
  rw [e] at hkP
  have h1' : Z.methodNamed? ⟨y.cls, y.name, y.desc⟩ = some m := h1
  simp [Cond.before, Cond.holds, Cond.value, hc1, hf, h1', hkP, hkPi]
theorem nfSel {C : String} {y : MethodName} (w : (Cond.selects C y y).before a0 Z = true) : ∀ (s : State), Z.Warmed39 s.vm → NotFace s y := fun s hZ => notFace_of_selects (args := #[]) (mvT hZ w)
theorem nfCls {C : String} {y y' : MethodName} (w : (Cond.selects C y' y').before a0 Z = true) (hc : y'.cls = y.cls) : ∀ (s : State), Z.Warmed39 s.vm → NotFace s y := fun s hZ r0 h0 => by
  obtain ⟨c2, r2, m2, q1, q2, q3, q4, kP, hkP, hkPi⟩ := Cond.selects_spec (mvT (args := #[]) hZ w)
  have a := findClass_of_methodNamed h0
  have b := findClass_of_methodNamed q3
  rw [hc] at b
  have e : m2.cls = r0.cls := Option.some.inj (b.symm.trans a)
  rw [e] at hkP
  exact ⟨kP, hkP, hkPi⟩
theorem nfSup {S : String} {y : MethodName} (w : (Cond.superclass y.cls S).before a0 Z = true) : ∀ (s : State), Z.Warmed39 s.vm → NotFace s y := fun s hZ => nf_super (args := #[]) (mvT hZ w)
end Calls
section Heap1
variable {l : Launch} {Z : State} {a0 : Array Value} {EL : List (String × Nat)} {nw : Bool} {own : String} {bytes : ByteArray} {ml : Nat} {ret : Option FieldType} {R : Room} {κ : Ka} {T : State} {h : Heap} {M : List Addr} {cells slots : Nat} {Q : Option Value → Heap → List Addr → Prop} {pc pc' : Nat} {Ls : Array Slot} {S rest : List Value}
theorem W.newO (w : W l Z a0 EL nw own bytes ml ret R κ T h M cells slots) {index n : Nat} {C : String} (w1 : (Cond.classLink own index C).before a0 Z = true) (w2 : (Cond.instantiable C n).before a0 Z = true) (w3 : (Cond.initialized C).before a0 Z = true) (hd : decode bytes pc = .ok (.new index, 3)) (hp : pc + 3 = pc') (hc : cells + 1 ≤ R.cells) (hs : slots + n ≤ R.slots)
    (g : ∀ T' h' a, W l Z a0 EL nw own bytes ml ret R κ T' h' (a :: M) (cells + 1) (slots + n) → Keep h h' [] → h.size ≤ a → Exa Z h' a C → (∀ {O nm d : String} {ty : FieldType}, Laid Z a0 C O nm d → parseFieldDescriptor d = some ty → Fld Z h' a O nm d (defaultValue ty)) → Go Z EL nw R κ Q (T'.setTop (mkF (km κ) pc' Ls (.ref a :: S)))) : Go Z EL nw R κ Q (T.setTop (mkF (km κ) pc Ls S)) := by
  subst hp
  refine w.made (k := 1) (n := n) (P := fun h' => Exa Z h' h.size C ∧ (∀ {O nm d : String} {ty : FieldType}, Laid Z a0 C O nm d → parseFieldDescriptor d = some ty → Fld Z h' h.size O nm d (defaultValue ty))) (G := mkF (km κ) (pc + 3) Ls (.ref h.size :: S)) (fun s locs hx hby hml hZ hown eT X => ?_) (fun T' h' w' K hP => g T' h' _ w' K (Nat.le_refl _) hP.1 hP.2)
  obtain ⟨T', h', X', e', E, A, D, -, st⟩ := RoadKit.newO X hx hZ hown w1 w2 w3 eT (g := mkF (km κ) pc Ls S) rfl (hb hby hd) hc hs
  exact ⟨T', h', X', e', E, A.lt, ⟨A, D⟩, st⟩
theorem W.newP (w : W l Z a0 EL nw own bytes ml ret R κ T h M cells slots) {aty : ArrayType} {ty : FieldType} (hty : newarray.typeOf aty = ty) (w1 : (Cond.arrayClass ty).before a0 Z = true) {n : Int32} (hd : decode bytes pc = .ok (.newarray aty, 2)) (hp : pc + 2 = pc') (hn : ¬ n < 0) {cap : Nat} (hcap : n.toNatClampNeg = cap) (hbig : cap ≤ 67108864) (hc : cells + 1 ≤ R.cells) (hs : slots + cap ≤ R.slots)
    (g : ∀ T' h' a k, W l Z a0 EL nw own bytes ml ret R κ T' h' (a :: M) (cells + 1) (slots + cap) → Keep h h' [] → h.size ≤ a → Arv Z h' a k ty n (List.replicate cap (defaultValue ty)) (defaultValue ty) → Go Z EL nw R κ Q (T'.setTop (mkF (km κ) pc' Ls (.ref a :: S)))) : Go Z EL nw R κ Q (T.setTop (mkF (km κ) pc Ls (.int n :: S))) := by
  subst hp hty
  refine w.made (k := 1) (n := cap) (P := fun h' => ∃ k, Arv Z h' h.size k (newarray.typeOf aty) n (List.replicate cap (defaultValue (newarray.typeOf aty))) (defaultValue (newarray.typeOf aty))) (G := mkF (km κ) (pc + 2) Ls (.ref h.size :: S)) (fun s locs hx hby hml hZ hown eT X => ?_) (fun T' h' w' K hP => g T' h' _ _ w' K (Nat.le_refl _) hP.choose_spec)
  obtain ⟨T', h', k, X', e', E, A, st⟩ := RoadKit.newP X hx hZ w1 eT (g := mkF (km κ) pc Ls (.int n :: S)) rfl (hb hby hd) rfl hn (cap := cap) (Nat.le_of_eq hcap) (by omega) hc hs
  exact ⟨T', h', X', e', E, A.lt, ⟨k, (Arv.new A hn).pad (pad_rep [] (defaultValue (newarray.typeOf aty)) cap)⟩, st⟩
theorem W.newPB (w : W l Z a0 EL nw own bytes ml ret R κ T h M cells slots) {aty : ArrayType} {ty : FieldType} (hty : newarray.typeOf aty = ty) (w1 : (Cond.arrayClass ty).before a0 Z = true) {n : Int32} (hd : decode bytes pc = .ok (.newarray aty, 2)) (hp : pc + 2 = pc') (hn : ¬ n < 0) {len cap : Nat} (hlen : n.toNatClampNeg = len) (hcap : len ≤ cap) (hbig : cap ≤ 67108864) (hc : cells + 1 ≤ R.cells) (hs : slots + cap ≤ R.slots)
    (g : ∀ T' h' a k, W l Z a0 EL nw own bytes ml ret R κ T' h' (a :: M) (cells + 1) (slots + cap) → Keep h h' [] → h.size ≤ a → Arv Z h' a k ty n (List.replicate len (defaultValue ty)) (defaultValue ty) → Go Z EL nw R κ Q (T'.setTop (mkF (km κ) pc' Ls (.ref a :: S)))) : Go Z EL nw R κ Q (T.setTop (mkF (km κ) pc Ls (.int n :: S))) := by
  subst hp hty
  refine w.made (k := 1) (n := cap) (P := fun h' => ∃ k, Arv Z h' h.size k (newarray.typeOf aty) n (List.replicate len (defaultValue (newarray.typeOf aty))) (defaultValue (newarray.typeOf aty))) (G := mkF (km κ) (pc + 2) Ls (.ref h.size :: S)) (fun s locs hx hby hml hZ hown eT X => ?_) (fun T' h' w' K hP => g T' h' _ _ w' K (Nat.le_refl _) hP.choose_spec)
  obtain ⟨T', h', k, X', e', E, A, st⟩ := RoadKit.newP X hx hZ w1 eT (g := mkF (km κ) pc Ls (.int n :: S)) rfl (hb hby hd) rfl hn (cap := cap) (by omega) (by omega) hc hs
  exact ⟨T', h', X', e', E, A.lt, ⟨k, (Arv.new A hn).pad (pad_rep [] (defaultValue (newarray.typeOf aty)) len)⟩, st⟩
theorem W.getF (w : W l Z a0 EL nw own bytes ml ret R κ T h M cells slots) {R0 O n d host : String} {index : Nat} (w1 : (Cond.fieldLink own index R0 n d).before a0 Z = true ∨ (Cond.fieldLinkNest own index R0 n d host).before a0 Z = true) (via : Via Z R0 O n d) {a : Addr} {v : Value} (F : Fld Z h a O n d v) (hd : decode bytes pc = .ok (.getfield index, 3)) (hp : pc + 3 = pc')
    (g : ∀ T', W l Z a0 EL nw own bytes ml ret R κ T' h M cells slots → Go Z EL nw R κ Q (T'.setTop (mkF (km κ) pc' Ls (v :: S)))) : Go Z EL nw R κ Q (T.setTop (mkF (km κ) pc Ls (.ref a :: S))) := by
  subst hp
  exact w.noted (G := mkF (km κ) (pc + 3) Ls (v :: S)) (fun s locs hx hby hml hZ hown eT X => RoadKit.getF X hx hZ hown w1 via eT F (g := mkF (km κ) pc Ls (.ref a :: S)) rfl rfl (hb hby hd)) g
theorem W.getS (w : W l Z a0 EL nw own bytes ml ret R κ T h M cells slots) {R0 O n d : String} {index : Nat} (w1 : (Cond.fieldLink own index R0 n d).before a0 Z = true) (via : Via Z R0 O n d) {v : Value} (F : Sta Z h O n d v) (hd : decode bytes pc = .ok (.getstatic index, 3)) (hp : pc + 3 = pc')
    (g : ∀ T', W l Z a0 EL nw own bytes ml ret R κ T' h M cells slots → Go Z EL nw R κ Q (T'.setTop (mkF (km κ) pc' Ls (v :: S)))) : Go Z EL nw R κ Q (T.setTop (mkF (km κ) pc Ls S)) := by
  subst hp
  exact w.noted (G := mkF (km κ) (pc + 3) Ls (v :: S)) (fun s locs hx hby hml hZ hown eT X => RoadKit.getS (host := "") X hx hZ hown w1 via eT F (g := mkF (km κ) pc Ls S) rfl (hb hby hd)) g
theorem W.putF (w : W l Z a0 EL nw own bytes ml ret R κ T h M cells slots) {R0 O n d host C : String} {index kk : Nat} {ty : FieldType} (w1 : (Cond.fieldLink own index R0 n d).before a0 Z = true ∨ (Cond.fieldLinkNest own index R0 n d host).before a0 Z = true) (via : Via Z R0 O n d) {a : Addr} {v old : Value} (F : Fld Z h a O n d old) (E : Exa Z h a C)
    (L : (Cond.lays C O n d).before a0 Z = true ∨ ((Cond.laysFinal C O n d).before a0 Z = true ∧ own = O ∧ (kt κ).name = "<init>")) (wi : (Cond.instantiable C kk).before a0 Z = true) (hty : parseFieldDescriptor d = some ty) (hn : narrow ty v = v) (hf : fits ty v = true) (ha : a ∈ M) (hd : decode bytes pc = .ok (.putfield index, 3)) (hp : pc + 3 = pc')
    (g : ∀ T' h', W l Z a0 EL nw own bytes ml ret R κ T' h' M cells slots → Wr h h' a (RoadKit.slotOf Z O n d) v → Go Z EL nw R κ Q (T'.setTop (mkF (km κ) pc' Ls S))) : Go Z EL nw R κ Q (T.setTop (mkF (km κ) pc Ls (v :: .ref a :: S))) := by
  subst hp
  exact w.wrote ha (G := mkF (km κ) (pc + 3) Ls S) (fun s locs hx hby hml hZ hown eT X => RoadKit.putF X hx hZ hown w1 via eT F E L wi hty hn hf (g := mkF (km κ) pc Ls (v :: .ref a :: S)) rfl rfl (hb hby hd)) g
theorem W.putFN (w : W l Z a0 EL nw own bytes ml ret R κ T h M cells slots) {R0 O n d C : String} {index kk : Nat} {ty : FieldType} (w1 : (Cond.fieldLink own index R0 n d).before a0 Z = true) (via : Via Z R0 O n d) {a : Addr} {v v' old : Value} (F : Fld Z h a O n d old) (E : Exa Z h a C)
    (L : (Cond.lays C O n d).before a0 Z = true ∨ ((Cond.laysFinal C O n d).before a0 Z = true ∧ own = O ∧ (kt κ).name = "<init>")) (wi : (Cond.instantiable C kk).before a0 Z = true) (hty : parseFieldDescriptor d = some ty) (hn : narrow ty v = v') (hf : fits ty v' = true) (ha : a ∈ M) (hd : decode bytes pc = .ok (.putfield index, 3)) (hp : pc + 3 = pc')
    (g : ∀ T' h', W l Z a0 EL nw own bytes ml ret R κ T' h' M cells slots → Wr h h' a (RoadKit.slotOf Z O n d) v' → Go Z EL nw R κ Q (T'.setTop (mkF (km κ) pc' Ls S))) : Go Z EL nw R κ Q (T.setTop (mkF (km κ) pc Ls (v :: .ref a :: S))) := by
  subst hp
  exact w.wrote ha (G := mkF (km κ) (pc + 3) Ls S) (fun s locs hx hby hml hZ hown eT X => RoadKit.putFN X hx hZ hown w1 via eT F E L wi hty hn hf (g := mkF (km κ) pc Ls (v :: .ref a :: S)) rfl rfl (hb hby hd)) g
theorem W.stC (w : W l Z a0 EL nw own bytes ml ret R κ T h M cells slots) {a : Addr} {k : ClassId} {z j x x' : Int32} (hn : nar .char x = x') {vs : List Value} {dv : Value} (V : Arv Z h a k .char z vs dv) {i : Nat} (hj : j.toNatClampNeg = i) (hj0 : ¬ j < 0 ∧ j < z) (hi : i < vs.length) (ha : a ∈ M) (hd : decode bytes pc = .ok (.castore, 1)) (hp : pc + 1 = pc')
    (g : ∀ T' h', W l Z a0 EL nw own bytes ml ret R κ T' h' M cells slots → Keep h h' [a] → Arv Z h' a k .char z (vs.set i (.int x')) dv → Go Z EL nw R κ Q (T'.setTop (mkF (km κ) pc' Ls S))) : Go Z EL nw R κ Q (T.setTop (mkF (km κ) pc Ls (.int x :: .int j :: .ref a :: S))) := by
  subst hp hn
  obtain ⟨c, A, q, Sz, N, H, Gf⟩ := V
  exact w.wrote ha (G := mkF (km κ) (pc + 1) Ls S) (fun s locs hx hby hml hZ hown eT X => RoadKit.stC X hx hZ eT A (inb_of Sz hj0) (g := mkF (km κ) pc Ls (.int x :: .int j :: .ref a :: S)) rfl rfl (hb hby hd)) (fun T' h' w' W' => g T' h' w' (Keep.of_wr W') (Arv.set A q Sz N H Gf (fits_nar_char _) W' i hj hi))
theorem W.stB (w : W l Z a0 EL nw own bytes ml ret R κ T h M cells slots) {a : Addr} {k : ClassId} {z j x x' : Int32} (hn : nar .byte x = x') {vs : List Value} {dv : Value} (V : Arv Z h a k .byte z vs dv) {i : Nat} (hj : j.toNatClampNeg = i) (hj0 : ¬ j < 0 ∧ j < z) (hi : i < vs.length) (ha : a ∈ M) (hd : decode bytes pc = .ok (.bastore, 1)) (hp : pc + 1 = pc')
    (g : ∀ T' h', W l Z a0 EL nw own bytes ml ret R κ T' h' M cells slots → Keep h h' [a] → Arv Z h' a k .byte z (vs.set i (.int x')) dv → Go Z EL nw R κ Q (T'.setTop (mkF (km κ) pc' Ls S))) : Go Z EL nw R κ Q (T.setTop (mkF (km κ) pc Ls (.int x :: .int j :: .ref a :: S))) := by
  subst hp hn
  obtain ⟨c, A, q, Sz, N, H, Gf⟩ := V
  exact w.wrote ha (G := mkF (km κ) (pc + 1) Ls S) (fun s locs hx hby hml hZ hown eT X => RoadKit.stB X hx hZ eT A (inb_of Sz hj0) (g := mkF (km κ) pc Ls (.int x :: .int j :: .ref a :: S)) rfl rfl (hb hby hd)) (fun T' h' w' W' => g T' h' w' (Keep.of_wr W') (Arv.set A q Sz N H Gf (fits_nar_byte _) W' i hj hi))
theorem W.stI (w : W l Z a0 EL nw own bytes ml ret R κ T h M cells slots) {a : Addr} {k : ClassId} {z j x : Int32} {vs : List Value} {dv : Value} (V : Arv Z h a k .int z vs dv) {i : Nat} (hj : j.toNatClampNeg = i) (hj0 : ¬ j < 0 ∧ j < z) (hi : i < vs.length) (ha : a ∈ M) (hd : decode bytes pc = .ok (.iastore, 1)) (hp : pc + 1 = pc')
    (g : ∀ T' h', W l Z a0 EL nw own bytes ml ret R κ T' h' M cells slots → Keep h h' [a] → Arv Z h' a k .int z (vs.set i (.int x)) dv → Go Z EL nw R κ Q (T'.setTop (mkF (km κ) pc' Ls S))) : Go Z EL nw R κ Q (T.setTop (mkF (km κ) pc Ls (.int x :: .int j :: .ref a :: S))) := by
  subst hp
  obtain ⟨c, A, q, Sz, N, H, Gf⟩ := V
  exact w.wrote ha (G := mkF (km κ) (pc + 1) Ls S) (fun s locs hx hby hml hZ hown eT X => RoadKit.stI X hx hZ eT A (inb_of Sz hj0) (g := mkF (km κ) pc Ls (.int x :: .int j :: .ref a :: S)) rfl rfl (hb hby hd)) (fun T' h' w' W' => g T' h' w' (Keep.of_wr W') (Arv.set A q Sz N H Gf rfl W' i hj hi))
theorem W.stJ (w : W l Z a0 EL nw own bytes ml ret R κ T h M cells slots) {a : Addr} {k : ClassId} {z j : Int32} {x : Int64} {vs : List Value} {dv : Value} (V : Arv Z h a k .long z vs dv) {i : Nat} (hj : j.toNatClampNeg = i) (hj0 : ¬ j < 0 ∧ j < z) (hi : i < vs.length) (ha : a ∈ M) (hd : decode bytes pc = .ok (.lastore, 1)) (hp : pc + 1 = pc')
    (g : ∀ T' h', W l Z a0 EL nw own bytes ml ret R κ T' h' M cells slots → Keep h h' [a] → Arv Z h' a k .long z (vs.set i (.long x)) dv → Go Z EL nw R κ Q (T'.setTop (mkF (km κ) pc' Ls S))) : Go Z EL nw R κ Q (T.setTop (mkF (km κ) pc Ls (.long x :: .int j :: .ref a :: S))) := by
  subst hp
  obtain ⟨c, A, q, Sz, N, H, Gf⟩ := V
  exact w.wrote ha (G := mkF (km κ) (pc + 1) Ls S) (fun s locs hx hby hml hZ hown eT X => RoadKit.stJ X hx hZ eT A (inb_of Sz hj0) (g := mkF (km κ) pc Ls (.long x :: .int j :: .ref a :: S)) rfl rfl (hb hby hd)) (fun T' h' w' W' => g T' h' w' (Keep.of_wr W') (Arv.set A q Sz N H Gf rfl W' i hj hi))
theorem W.alen (w : W l Z a0 EL nw own bytes ml ret R κ T h M cells slots) {a : Addr} {k : ClassId} {ty : FieldType} {z : Int32} {vs : List Value} {dv : Value} (V : Arv Z h a k ty z vs dv) (hd : decode bytes pc = .ok (.arraylength, 1)) (hp : pc + 1 = pc') (g : Go Z EL nw R κ Q (T.setTop (mkF (km κ) pc' Ls (.int z :: S)))) : Go Z EL nw R κ Q (T.setTop (mkF (km κ) pc Ls (.ref a :: S))) := by
  subst hp
  obtain ⟨c, A, q, Sz, N, H, Gf⟩ := V
  obtain ⟨⟨hx, hby, -⟩, vm0, k0, locs, X, -, h2, -, -, -, h6, -⟩ := w
  refine Go.via (X.arraylength hx (by rw [h6]; exact A.1) (State.isArrayOf_alike (T := (ks κ).setVm vm0) h2.alike A.2.1) (g := mkF (km κ) pc Ls (.ref a :: S)) rfl rfl (hb hby hd)) ?_
  rw [len_of Sz N]; exact g
theorem W.ldC (w : W l Z a0 EL nw own bytes ml ret R κ T h M cells slots) {a : Addr} {k : ClassId} {z j : Int32} {vs : List Value} {dv v : Value} (V : Arv Z h a k .char z vs dv) (hj0 : ¬ j < 0 ∧ j < z) (hv : vs.getD j.toNatClampNeg dv = v) (hd : decode bytes pc = .ok (.caload, 1)) (hp : pc + 1 = pc') (g : Go Z EL nw R κ Q (T.setTop (mkF (km κ) pc' Ls (v :: S)))) : Go Z EL nw R κ Q (T.setTop (mkF (km κ) pc Ls (.int j :: .ref a :: S))) := by
  subst hp
  obtain ⟨c, A, q, Sz, N, H, Gf⟩ := V
  obtain ⟨⟨hx, hby, -⟩, vm0, k0, locs, X, -, h2, -, -, -, h6, -⟩ := w
  exact Go.via (X.caload hx (by rw [h6]; exact A.1) (State.isArrayOf_alike (T := (ks κ).setVm vm0) h2.alike A.2.1) A.2.2 (inb_of Sz hj0) (H.at (inb_of Sz hj0) hv) (g := mkF (km κ) pc Ls (.int j :: .ref a :: S)) rfl rfl (hb hby hd)) g
theorem W.ldB (w : W l Z a0 EL nw own bytes ml ret R κ T h M cells slots) {a : Addr} {k : ClassId} {z j : Int32} {vs : List Value} {dv v : Value} (V : Arv Z h a k .byte z vs dv) (hj0 : ¬ j < 0 ∧ j < z) (hv : vs.getD j.toNatClampNeg dv = v) (hd : decode bytes pc = .ok (.baload, 1)) (hp : pc + 1 = pc') (g : Go Z EL nw R κ Q (T.setTop (mkF (km κ) pc' Ls (v :: S)))) : Go Z EL nw R κ Q (T.setTop (mkF (km κ) pc Ls (.int j :: .ref a :: S))) := by
  subst hp
  obtain ⟨c, A, q, Sz, N, H, Gf⟩ := V
  obtain ⟨⟨hx, hby, -⟩, vm0, k0, locs, X, -, h2, -, -, -, h6, -⟩ := w
  exact Go.via (X.baloadBytes hx (by rw [h6]; exact A.1) (State.isArrayOf_alike (T := (ks κ).setVm vm0) h2.alike A.2.1) A.2.2 (inb_of Sz hj0) (H.at (inb_of Sz hj0) hv) (g := mkF (km κ) pc Ls (.int j :: .ref a :: S)) rfl rfl (hb hby hd)) g
theorem W.ldI (w : W l Z a0 EL nw own bytes ml ret R κ T h M cells slots) {a : Addr} {k : ClassId} {z j : Int32} {vs : List Value} {dv v : Value} (V : Arv Z h a k .int z vs dv) (hj0 : ¬ j < 0 ∧ j < z) (hv : vs.getD j.toNatClampNeg dv = v) (hd : decode bytes pc = .ok (.iaload, 1)) (hp : pc + 1 = pc') (g : Go Z EL nw R κ Q (T.setTop (mkF (km κ) pc' Ls (v :: S)))) : Go Z EL nw R κ Q (T.setTop (mkF (km κ) pc Ls (.int j :: .ref a :: S))) := by
  subst hp
  obtain ⟨c, A, q, Sz, N, H, Gf⟩ := V
  obtain ⟨⟨hx, hby, -⟩, vm0, k0, locs, X, -, h2, -, -, -, h6, -⟩ := w
  exact Go.via (X.iaload hx (by rw [h6]; exact A.1) (State.isArrayOf_alike (T := (ks κ).setVm vm0) h2.alike A.2.1) A.2.2 (inb_of Sz hj0) (H.at (inb_of Sz hj0) hv) (g := mkF (km κ) pc Ls (.int j :: .ref a :: S)) rfl rfl (hb hby hd)) g
theorem W.ldJ (w : W l Z a0 EL nw own bytes ml ret R κ T h M cells slots) {a : Addr} {k : ClassId} {z j : Int32} {vs : List Value} {dv v : Value} (V : Arv Z h a k .long z vs dv) (hj0 : ¬ j < 0 ∧ j < z) (hv : vs.getD j.toNatClampNeg dv = v) (hd : decode bytes pc = .ok (.laload, 1)) (hp : pc + 1 = pc') (g : Go Z EL nw R κ Q (T.setTop (mkF (km κ) pc' Ls (v :: S)))) : Go Z EL nw R κ Q (T.setTop (mkF (km κ) pc Ls (.int j :: .ref a :: S))) := by
  subst hp
  obtain ⟨c, A, q, Sz, N, H, Gf⟩ := V
  obtain ⟨⟨hx, hby, -⟩, vm0, k0, locs, X, -, h2, -, -, -, h6, -⟩ := w
  exact Go.via (X.laload hx (by rw [h6]; exact A.1) (State.isArrayOf_alike (T := (ks κ).setVm vm0) h2.alike A.2.1) A.2.2 (inb_of Sz hj0) (H.at (inb_of Sz hj0) hv) (g := mkF (km κ) pc Ls (.int j :: .ref a :: S)) rfl rfl (hb hby hd)) g
theorem W.ldA (w : W l Z a0 EL nw own bytes ml ret R κ T h M cells slots) {a : Addr} {k : ClassId} {ty : FieldType} {z j : Int32} {vs : List Value} {dv v : Value} (V : Arv Z h a k ty z vs dv) (hty : ty.isReference = true) (hj0 : ¬ j < 0 ∧ j < z) (hv : vs.getD j.toNatClampNeg dv = v) (hd : decode bytes pc = .ok (.aaload, 1)) (hp : pc + 1 = pc') (g : Go Z EL nw R κ Q (T.setTop (mkF (km κ) pc' Ls (v :: S)))) : Go Z EL nw R κ Q (T.setTop (mkF (km κ) pc Ls (.int j :: .ref a :: S))) := by
  subst hp
  obtain ⟨c, A, q, Sz, N, H, Gf⟩ := V
  obtain ⟨⟨hx, hby, -⟩, vm0, k0, locs, X, -, h2, -, -, -, h6, -⟩ := w
  exact Go.via (X.aaload hx (by rw [h6]; exact A.1) (State.isArrayOf_alike (T := (ks κ).setVm vm0) h2.alike A.2.1) hty A.2.2 (inb_of Sz hj0) (H.at (inb_of Sz hj0) hv) (g := mkF (km κ) pc Ls (.int j :: .ref a :: S)) rfl rfl (hb hby hd)) g
theorem W.ldcI (w : W l Z a0 EL nw own bytes ml ret R κ T h M cells slots) {index : Nat} {v : Int32} (w1 : (Cond.constant own index v).before a0 Z = true) (hd : decode bytes pc = .ok (.ldc index, 2)) (hp : pc + 2 = pc') (g : Go Z EL nw R κ Q (T.setTop (mkF (km κ) pc' Ls (.int v :: S)))) : Go Z EL nw R κ Q (T.setTop (mkF (km κ) pc Ls S)) := by
  subst hp
  obtain ⟨⟨hx, hby, -⟩, vm0, k0, locs, X, -, h2, h3, -⟩ := w
  exact Go.via (X.ldcInt hx h3 (mvT (s := (ks κ).setVm vm0) h2 w1) (g := mkF (km κ) pc Ls S) rfl (hb hby hd)) g
theorem W.ldcJ (w : W l Z a0 EL nw own bytes ml ret R κ T h M cells slots) {index : Nat} {v : Int64} (w1 : (Cond.constantLong own index v).before a0 Z = true) (hd : decode bytes pc = .ok (.ldc2_w index, 3)) (hp : pc + 3 = pc') (g : Go Z EL nw R κ Q (T.setTop (mkF (km κ) pc' Ls (.long v :: S)))) : Go Z EL nw R κ Q (T.setTop (mkF (km κ) pc Ls S)) := by
  subst hp
  obtain ⟨⟨hx, hby, -⟩, vm0, k0, locs, X, -, h2, h3, -⟩ := w
  exact Go.via (X.ldc2Long hx h3 (mvT (s := (ks κ).setVm vm0) h2 w1) (g := mkF (km κ) pc Ls S) rfl (hb hby hd)) g
theorem W.initO (w : W l Z a0 EL nw own bytes ml ret R κ T h M cells slots) {index : Nat} (w1 : (Cond.methodLink own index Lib.objectInit).before a0 Z = true) (w2 : (Cond.instanceMethod Lib.objectInit).before a0 Z = true) (w3 : (Cond.code Lib.objectInit ⟨#[0xb1]⟩ 1 none).before a0 Z = true) {a : Addr} (hd : decode bytes pc = .ok (.invokespecial index, 3)) (hp : pc + 3 = pc') (hsz : Ls.size = ml) (hf : 1 ≤ R.frames) {Wd : Nat} (hwd : (S.map fun v => v.category).sum = Wd) (hlo : Wd + 12 ≤ R.locals)
    (g : ∀ T', W l Z a0 EL nw own bytes ml ret R κ T' h M cells slots → Go Z EL nw R κ Q (T'.setTop (mkF (km κ) pc' Ls S))) : Go Z EL nw R κ Q (T.setTop (mkF (km κ) pc Ls (.ref a :: S))) := by
  subst hp
  exact w.noted (G := mkF (km κ) (pc + 3) Ls S) (fun s locs hx hby hml hZ hown eT X => RoadKit.initO X hx hZ hown w1 w2 w3 eT (g := mkF (km κ) pc Ls (.ref a :: S)) rfl (hsz.trans hml.symm) rfl (hb hby hd) hf (W := Wd) (by rw [mr0]; omega) hlo) g
theorem W.cast (w : W l Z a0 EL nw own bytes ml ret R κ T h M cells slots) {index : Nat} {K : String} (w1 : (Cond.classLink own index K).before a0 Z = true) {a : Addr} (F : Ins Z h a K true) (hd : decode bytes pc = .ok (.checkcast index, 3)) (hp : pc + 3 = pc')
    (g : ∀ T', W l Z a0 EL nw own bytes ml ret R κ T' h M cells slots → Go Z EL nw R κ Q (T'.setTop (mkF (km κ) pc' Ls (.ref a :: S)))) : Go Z EL nw R κ Q (T.setTop (mkF (km κ) pc Ls (.ref a :: S))) := by
  subst hp
  exact w.noted (G := mkF (km κ) (pc + 3) Ls (.ref a :: S)) (fun s locs hx hby hml hZ hown eT X => RoadKit.castY X hx hZ hown w1 eT F (g := mkF (km κ) pc Ls (.ref a :: S)) rfl rfl (hb hby hd)) g
theorem W.inst (w : W l Z a0 EL nw own bytes ml ret R κ T h M cells slots) {index : Nat} {K : String} (w1 : (Cond.classLink own index K).before a0 Z = true) {a : Addr} (F : Ins Z h a K true) (hd : decode bytes pc = .ok (.instanceof index, 3)) (hp : pc + 3 = pc')
    (g : ∀ T', W l Z a0 EL nw own bytes ml ret R κ T' h M cells slots → Go Z EL nw R κ Q (T'.setTop (mkF (km κ) pc' Ls (.int 1 :: S)))) : Go Z EL nw R κ Q (T.setTop (mkF (km κ) pc Ls (.ref a :: S))) := by
  subst hp
  exact w.noted (G := mkF (km κ) (pc + 3) Ls (.int 1 :: S)) (fun s locs hx hby hml hZ hown eT X => RoadKit.instY X hx hZ hown w1 eT F (g := mkF (km κ) pc Ls (.ref a :: S)) rfl rfl (hb hby hd)) g
theorem W.retI (w : W l Z a0 EL nw own bytes ml ret R κ T h M cells slots) {z : Int32} (hr : ret = some .int) (hd : decode bytes pc = .ok (.ireturn, 1)) {M' : List Addr} (hM : ∀ x ∈ M', x ∈ M) (hc : cells ≤ R.cells) (hs : slots ≤ R.slots) (hq : Q (some (.int z)) h M') : Go Z EL nw R κ Q (T.setTop (mkF (km κ) pc Ls (.int z :: S))) :=
  w.leave (fun q => by rw [hr] at q; cases q) hc hs hM hq (fun s locs fs hx hby hret X hl => retOut X hx (hret.trans hr) rfl (Or.inl ⟨rfl, Or.inl rfl, _, rfl⟩) (hb hby hd) hl)
theorem W.retN (w : W l Z a0 EL nw own bytes ml ret R κ T h M cells slots) {z z' : Int32} {t : FieldType} (hr : ret = some t) (hn : nar t z = z') (ht : t = .boolean ∨ t = .byte ∨ t = .char ∨ t = .short) (hd : decode bytes pc = .ok (.ireturn, 1)) {M' : List Addr} (hM : ∀ x ∈ M', x ∈ M) (hc : cells ≤ R.cells) (hs : slots ≤ R.slots) (hq : Q (some (.int z')) h M') : Go Z EL nw R κ Q (T.setTop (mkF (km κ) pc Ls (.int z :: S))) := by
  subst hn
  exact w.leave (fun q => by rw [hr] at q; cases q) hc hs hM hq (fun s locs fs hx hby hret X hl => RoadKit.retN X hx (hret.trans hr) ht (hb hby hd) hl)
theorem W.retJ (w : W l Z a0 EL nw own bytes ml ret R κ T h M cells slots) {z : Int64} (hr : ret = some .long) (hd : decode bytes pc = .ok (.lreturn, 1)) {M' : List Addr} (hM : ∀ x ∈ M', x ∈ M) (hc : cells ≤ R.cells) (hs : slots ≤ R.slots) (hq : Q (some (.long z)) h M') : Go Z EL nw R κ Q (T.setTop (mkF (km κ) pc Ls (.long z :: S))) :=
  w.leave (fun q => by rw [hr] at q; cases q) hc hs hM hq (fun s locs fs hx hby hret X hl => retOut X hx (hret.trans hr) rfl (Or.inr (Or.inl ⟨rfl, rfl, _, rfl⟩)) (hb hby hd) hl)
theorem nar_ref {t : FieldType} {v : Value} (ht : t.isReference = true) (hv : v.isRef = true) : narrow t v = v := by rcases ref_cases hv with rfl | ⟨a, rfl⟩ <;> cases t <;> first | rfl | (simp [FieldType.isReference] at ht)
theorem W.retR (w : W l Z a0 EL nw own bytes ml ret R κ T h M cells slots) {v : Value} {t : FieldType} (hr : ret = some t) (ht : t.isReference = true) (hv : v.isRef = true) (hd : decode bytes pc = .ok (.areturn, 1)) {M' : List Addr} (hM : ∀ x ∈ M', x ∈ M) (hc : cells ≤ R.cells) (hs : slots ≤ R.slots) (hq : Q (some v) h M') : Go Z EL nw R κ Q (T.setTop (mkF (km κ) pc Ls (v :: S))) :=
  w.leave (fun q => by rw [hr] at q; cases q) hc hs hM hq (fun s locs fs hx hby hret X hl => retOut X hx (hret.trans hr) (nar_ref ht hv) (Or.inr (Or.inr (Or.inr (Or.inr ⟨rfl, ht, hv⟩)))) (hb hby hd) hl)
theorem W.ret0 (w : W l Z a0 EL nw own bytes ml ret R κ T h M cells slots) (hr : ret = none) (hd : decode bytes pc = .ok (.return_, 1)) {M' : List Addr} (hM : ∀ x ∈ M', x ∈ M) (hc : cells ≤ R.cells) (hs : slots ≤ R.slots) (hq : Q none h M') : Go Z EL nw R κ Q (T.setTop (mkF (km κ) pc Ls [])) :=
  w.leave (fun _ => rfl) hc hs hM hq (fun s locs fs hx hby hret X hl => X.returnOut hx (hret.trans hr) (hb hby hd) hl)
theorem W.ldcS (w : W l Z a0 EL nw own bytes ml ret R κ T h M cells slots) (hnw : nw = false) {index : Nat} {text : String} (w1 : (Cond.stringLink own index text).before a0 Z = true) (wS : ∀ a ∈ Bundle.stringAtoms, a.before a0 Z = true) (hmem : (own, index) ∈ EL) {vs : List Value} {z : Int32}
    (ht : (∀ c ∈ text.toList, c.toNat < 256) ∧ text.toList.map (fun c => Value.int (Jvm.Lit.byteI c.toNat.toUInt16)) = vs) (hz : ¬ z < 0) (hl : z.toNatClampNeg = vs.length) (hd : decode bytes pc = .ok (.ldc index, 2)) (hp : pc + 2 = pc') {n : Nat} (hn : 4 * text.toList.length ≤ n) (hbig : n ≤ 536870912) (hc : cells + 2 ≤ R.cells) (hs : slots + (n + 4) ≤ R.slots)
    (g : ∀ T' h' a b k, W l Z a0 EL nw own bytes ml ret R κ T' h' M (cells + 2) (slots + (n + 4)) → Keep h h' [] → Exa Z h' a "java/lang/String" → Fld Z h' a "java/lang/String" "coder" "B" (.int 0) → Fld Z h' a "java/lang/String" "value" "[B" (.ref b) → Arv Z h' b k .byte z vs (.int 0) → (∀ x ∈ M, x ≠ a ∧ x ≠ b) → Go Z EL nw R κ Q (T'.setTop (mkF (km κ) pc' Ls (.ref a :: S)))) : Go Z EL nw R κ Q (T.setTop (mkF (km κ) pc Ls S)) := by
  subst hp
  obtain ⟨hC, vm0, k0, locs, X, h1, h2, h3, h4, h5, h6, h7, h8, h9, h10⟩ := w
  obtain ⟨a, T', h', k1, b, k, X', e', E, hS', hk', hZ', hown', q1, q2, q3, q4, -, -, q7, -, q9, st⟩ := ldcCH X hC.1 h2 h3 w1 wS h6 h4 h5 hC.2.2.2.2.2 hmem h7.1 ht hz hl (g := mkF (km κ) pc Ls S) rfl (hb hC.2.1 hd) hn hbig hc hs
  have hM' := h8.at q7
  exact Go.via st (g T' h' a b k ⟨hC, T'.vm, k1, locs, X', h1, hZ', hown', hS', hk', e', h7.trans q7, hM', h9.ext E, fun q => by rw [hnw] at q; cases q⟩ (keepE E) q1 q2 q3 q4 (fun x hx => q9 x (hM' x hx).2.2))
theorem W.copy (w : W l Z a0 EL nw own bytes ml ret R κ T h M cells slots) {index : Nat} (w1 : (Cond.methodLink own index Jvm.Stand.acN).before a0 Z = true) (w2 : (Cond.native Jvm.Stand.acN).before a0 Z = true) (w3 : (Cond.static Jvm.Stand.acN).before a0 Z = true) (w4 : (Cond.initialized "java/lang/System").before a0 Z = true)
    {a b : Addr} {k k' : ClassId} {ty : FieldType} {z z' sp dp nn : Int32} {vs vd us : List Value} {dv dd : Value} (A : Arv Z h a k ty z vs dv) (B : Arv Z h b k' ty z' vd dd) (hty : refKind ty = false) (h1 : ¬ sp < 0) (h2 : ¬ dp < 0) (h3 : ¬ nn < 0) (h4 : sp.toNatClampNeg + nn.toNatClampNeg ≤ z.toNatClampNeg) (h5 : dp.toNatClampNeg + nn.toNatClampNeg ≤ z'.toNatClampNeg)
    (hus : vd.take dp.toNatClampNeg ++ ((List.range nn.toNatClampNeg).map fun i => vs.getD (sp.toNatClampNeg + i) dv) ++ vd.drop (dp.toNatClampNeg + nn.toNatClampNeg) = us) (hl : dp.toNatClampNeg + nn.toNatClampNeg ≤ vd.length) (hb' : b ∈ M) (hd : decode bytes pc = .ok (.invokestatic index, 3)) (hp : pc + 3 = pc') (hsz : Ls.size = ml) (hf : 1 ≤ R.frames) {Wd : Nat} (hwd : (S.map fun v => v.category).sum = Wd) (hlo : Wd + (nativeFrameWords "java/lang/System" "arraycopy" 5 + 11) ≤ R.locals)
    (g : ∀ T' h', W l Z a0 EL nw own bytes ml ret R κ T' h' M cells slots → Keep h h' [b] → Arv Z h' b k' ty z' us dd → Go Z EL nw R κ Q (T'.setTop (mkF (km κ) pc' Ls S))) : Go Z EL nw R κ Q (T.setTop (mkF (km κ) pc Ls (.int nn :: .int dp :: .ref b :: .int sp :: .ref a :: S))) := by
  subst hp hus
  refine w.kept (ws := [b]) (fun x hx => by rw [List.mem_singleton.mp hx]; exact hb') (G := mkF (km κ) (pc + 3) Ls S) (P := fun h' => Arv Z h' b k' ty z' _ dd) (fun s locs hx hby hml hZ hown eT N X => ?_) g
  obtain ⟨T', h', L, X', e', N', K, A', st⟩ := RoadKit.cpA X hx hZ hown w1 w2 w3 w4 eT A B (Or.inl ⟨rfl, hty⟩) h1 h2 h3 h4 h5 rfl hl N (w.mut hb').1 (g := mkF (km κ) pc Ls (.int nn :: .int dp :: .ref b :: .int sp :: .ref a :: S)) rfl (hsz.trans hml.symm) rfl (hb hby hd) hf (W := Wd) (by rw [mr0]; omega) hlo
  exact ⟨T', h', L, X', e', N', K, A', st⟩
theorem W.copyN (w : W l Z a0 EL nw own bytes ml ret R κ T h M cells slots) {index : Nat} (w1 : (Cond.methodLink own index Jvm.Stand.acN).before a0 Z = true) (w2 : (Cond.native Jvm.Stand.acN).before a0 Z = true) (w3 : (Cond.static Jvm.Stand.acN).before a0 Z = true) (w4 : (Cond.initialized "java/lang/System").before a0 Z = true)
    {a b : Addr} {k k' : ClassId} {ty : FieldType} {z z' sp dp nn : Int32} {vs vd us : List Value} {dv dd : Value} (A : Arv Z h a k ty z vs dv) (B : Arv Z h b k' ty z' vd dd) (hty : refKind ty = false) {a' b' n' L1 L2 : Nat} (h1 : ¬ sp < 0 ∧ sp.toNatClampNeg = a') (h2 : ¬ dp < 0 ∧ dp.toNatClampNeg = b') (h3 : ¬ nn < 0 ∧ nn.toNatClampNeg = n') (hz : z.toNatClampNeg = L1) (hz' : z'.toNatClampNeg = L2) (h4 : a' + n' ≤ L1) (h5 : b' + n' ≤ L2)
    (hus : vd.take b' ++ ((List.range n').map fun i => vs.getD (a' + i) dv) ++ vd.drop (b' + n') = us) (hl : b' + n' ≤ vd.length) (hb' : b ∈ M) (hd : decode bytes pc = .ok (.invokestatic index, 3)) (hp : pc + 3 = pc') (hsz : Ls.size = ml) (hf : 1 ≤ R.frames) {Wd : Nat} (hwd : (S.map fun v => v.category).sum = Wd) (hlo : Wd + 18 ≤ R.locals)
    (g : ∀ T' h', W l Z a0 EL nw own bytes ml ret R κ T' h' M cells slots → Keep h h' [b] → Arv Z h' b k' ty z' us dd → Go Z EL nw R κ Q (T'.setTop (mkF (km κ) pc' Ls S))) : Go Z EL nw R κ Q (T.setTop (mkF (km κ) pc Ls (.int nn :: .int dp :: .ref b :: .int sp :: .ref a :: S))) := by
  obtain ⟨g1, rfl⟩ := h1
  obtain ⟨g2, rfl⟩ := h2
  obtain ⟨g3, rfl⟩ := h3
  subst hz hz'
  exact w.copy w1 w2 w3 w4 A B hty g1 g2 g3 h4 h5 hus hl hb' hd hp hsz hf hwd (by have e : nativeFrameWords "java/lang/System" "arraycopy" 5 = 7 := (by decide); omega) g
theorem W.clone (w : W l Z a0 EL nw own bytes ml ret R κ T h M cells slots) {index : Nat} {ad : String} (w1 : (Cond.methodLink own index ⟨ad, "clone", "()Ljava/lang/Object;"⟩).before a0 Z = true) (w2 : (Cond.sameMethod ad "java/lang/Object" "clone" "()Ljava/lang/Object;").before a0 Z = true) (w3 : (Cond.native ⟨"java/lang/Object", "clone", "()Ljava/lang/Object;"⟩).before a0 Z = true)
    (w4 : (Cond.instanceMethod ⟨"java/lang/Object", "clone", "()Ljava/lang/Object;"⟩).before a0 Z = true) (w5 : (Cond.selects ad ⟨ad, "clone", "()Ljava/lang/Object;"⟩ ⟨"java/lang/Object", "clone", "()Ljava/lang/Object;"⟩).before a0 Z = true) (w6 : (Cond.castable ad "java/lang/Cloneable").before a0 Z = true)
    {a : Addr} {k : ClassId} {ty : FieldType} {z : Int32} {vs : List Value} {dv : Value} (F : Arv Z h a k ty z vs dv) (E : Exa Z h a ad) (hd : decode bytes pc = .ok (.invokevirtual index, 3)) (hp : pc + 3 = pc') (hsz : Ls.size = ml) (hf : 1 ≤ R.frames) {Wd cap : Nat} (hwd : (S.map fun v => v.category).sum = Wd) (hlo : Wd + 14 ≤ R.locals) (hcap : z.toNatClampNeg ≤ cap) (hc : cells + 1 ≤ R.cells) (hs : slots + cap ≤ R.slots)
    (g : ∀ T' h' b, W l Z a0 EL nw own bytes ml ret R κ T' h' (b :: M) (cells + 1) (slots + cap) → Keep h h' [] → h.size ≤ b → Arv Z h' b k ty z vs dv → Exa Z h' b ad → Go Z EL nw R κ Q (T'.setTop (mkF (km κ) pc' Ls (.ref b :: S)))) : Go Z EL nw R κ Q (T.setTop (mkF (km κ) pc Ls (.ref a :: S))) := by
  subst hp
  refine w.made (k := 1) (n := cap) (P := fun h' => Arv Z h' h.size k ty z vs dv ∧ Exa Z h' h.size ad) (G := mkF (km κ) (pc + 3) Ls (.ref h.size :: S)) (fun s locs hx hby hml hZ hown eT X => ?_) (fun T' h' w' K hP => g T' h' _ w' K (Nat.le_refl _) hP.1 hP.2)
  obtain ⟨T', h', X', e', Ex, A, E', st⟩ := cloneH X hx hZ hown w1 w2 w3 w4 w5 w6 eT F.arh E (g := mkF (km κ) pc Ls (.ref a :: S)) rfl (hsz.trans hml.symm) rfl (hb hby hd) hf (W := Wd) (by rw [mr0]; omega) hlo hcap hc hs
  exact ⟨T', h', X', e', Ex, E'.lt, ⟨A, E'⟩, st⟩
theorem mN {M : List Addr} : ∀ x ∈ ([] : List Addr), x ∈ M := fun _ q => nomatch q
theorem mC {a : Addr} {L M : List Addr} (q : a ∈ M) (r : ∀ x ∈ L, x ∈ M) : ∀ x ∈ a :: L, x ∈ M := fun x z => (List.mem_cons.mp z).elim (fun u => u ▸ q) (r x)
end Heap1
section Pure
variable {l : Launch} {Z : State} {a0 : Array Value} {EL : List (String × Nat)} {nw : Bool} {own : String} {bytes : ByteArray} {ml : Nat} {ret : Option FieldType} {R : Room} {κ : Ka} {T : State} {h : Heap} {M : List Addr} {cells slots : Nat} {Q : Option Value → Heap → List Addr → Prop} {pc pc' : Nat} {Ls Ls' : Array Slot} {S : List Value}
theorem W.iloadN (w : W l Z a0 EL nw own bytes ml ret R κ T h M cells slots) {k : Fin 4} {v : Int32} (hd : decode bytes pc = .ok (.iload_n k, 1)) (hp : pc + 1 = pc') (hl : Ls[k.val]? = some (.val (.int v)))
    (g : Go Z EL nw R κ Q (T.setTop (mkF (km κ) pc' Ls (.int v :: S)))) : Go Z EL nw R κ Q (T.setTop (mkF (km κ) pc Ls (S))) := by
  subst hp
  exact w.pure (fun hx hby H t k => XS.iloadN H hx rfl (g := mkF (km κ) pc Ls (S)) (hb hby hd) hl k) g
theorem W.iload (w : W l Z a0 EL nw own bytes ml ret R κ T h M cells slots) {k : Nat} {v : Int32} (hd : decode bytes pc = .ok (.iload k, 2)) (hp : pc + 2 = pc') (hl : Ls[k]? = some (.val (.int v)))
    (g : Go Z EL nw R κ Q (T.setTop (mkF (km κ) pc' Ls (.int v :: S)))) : Go Z EL nw R κ Q (T.setTop (mkF (km κ) pc Ls (S))) := by
  subst hp
  exact w.pure (fun hx hby H t k => XS.iload H hx rfl (g := mkF (km κ) pc Ls (S)) (hb hby hd) hl k) g
theorem W.lloadN (w : W l Z a0 EL nw own bytes ml ret R κ T h M cells slots) {k : Fin 4} {v : Int64} (hd : decode bytes pc = .ok (.lload_n k, 1)) (hp : pc + 1 = pc') (hl : Ls[k.val]? = some (.val (.long v)))
    (g : Go Z EL nw R κ Q (T.setTop (mkF (km κ) pc' Ls (.long v :: S)))) : Go Z EL nw R κ Q (T.setTop (mkF (km κ) pc Ls (S))) := by
  subst hp
  exact w.pure (fun hx hby H t k => XT.lloadN H hx rfl (g := mkF (km κ) pc Ls (S)) (hb hby hd) hl k) g
theorem W.lload (w : W l Z a0 EL nw own bytes ml ret R κ T h M cells slots) {k : Nat} {v : Int64} (hd : decode bytes pc = .ok (.lload k, 2)) (hp : pc + 2 = pc') (hl : Ls[k]? = some (.val (.long v)))
    (g : Go Z EL nw R κ Q (T.setTop (mkF (km κ) pc' Ls (.long v :: S)))) : Go Z EL nw R κ Q (T.setTop (mkF (km κ) pc Ls (S))) := by
  subst hp
  exact w.pure (fun hx hby H t k => XT.lload H hx rfl (g := mkF (km κ) pc Ls (S)) (hb hby hd) hl k) g
theorem W.aloadN (w : W l Z a0 EL nw own bytes ml ret R κ T h M cells slots) {k : Fin 4} {v : Value} (hd : decode bytes pc = .ok (.aload_n k, 1)) (hp : pc + 1 = pc') (hl : Ls[k.val]? = some (.val v)) (hv : v.isRef = true)
    (g : Go Z EL nw R κ Q (T.setTop (mkF (km κ) pc' Ls (v :: S)))) : Go Z EL nw R κ Q (T.setTop (mkF (km κ) pc Ls (S))) := by
  subst hp
  exact w.pure (fun hx hby H t k => XS.aloadN H hx rfl (g := mkF (km κ) pc Ls (S)) (hb hby hd) hl hv k) g
theorem W.aload (w : W l Z a0 EL nw own bytes ml ret R κ T h M cells slots) {k : Nat} {v : Value} (hd : decode bytes pc = .ok (.aload k, 2)) (hp : pc + 2 = pc') (hl : Ls[k]? = some (.val v)) (hv : v.isRef = true)
    (g : Go Z EL nw R κ Q (T.setTop (mkF (km κ) pc' Ls (v :: S)))) : Go Z EL nw R κ Q (T.setTop (mkF (km κ) pc Ls (S))) := by
  subst hp
  exact w.pure (fun hx hby H t k => XS.aload H hx rfl (g := mkF (km κ) pc Ls (S)) (hb hby hd) hl hv k) g
theorem W.istoreN (w : W l Z a0 EL nw own bytes ml ret R κ T h M cells slots) {k : Fin 4} {x : Int32} (hd : decode bytes pc = .ok (.istore_n k, 1)) (hp : pc + 1 = pc') (hl : storeLocals Ls k.val (.int x) = some Ls')
    (g : Go Z EL nw R κ Q (T.setTop (mkF (km κ) pc' Ls' (S)))) : Go Z EL nw R κ Q (T.setTop (mkF (km κ) pc Ls (.int x :: S))) := by
  subst hp
  exact w.pure (fun hx hby H t k => XS.istoreN H hx rfl (g := mkF (km κ) pc Ls (.int x :: S)) (hb hby hd) rfl hl k) g
theorem W.istore (w : W l Z a0 EL nw own bytes ml ret R κ T h M cells slots) {k : Nat} {x : Int32} (hd : decode bytes pc = .ok (.istore k, 2)) (hp : pc + 2 = pc') (hl : storeLocals Ls k (.int x) = some Ls')
    (g : Go Z EL nw R κ Q (T.setTop (mkF (km κ) pc' Ls' (S)))) : Go Z EL nw R κ Q (T.setTop (mkF (km κ) pc Ls (.int x :: S))) := by
  subst hp
  exact w.pure (fun hx hby H t k => XS.istore H hx rfl (g := mkF (km κ) pc Ls (.int x :: S)) (hb hby hd) rfl hl k) g
theorem W.lstoreN (w : W l Z a0 EL nw own bytes ml ret R κ T h M cells slots) {k : Fin 4} {x : Int64} (hd : decode bytes pc = .ok (.lstore_n k, 1)) (hp : pc + 1 = pc') (hl : storeLocals Ls k.val (.long x) = some Ls')
    (g : Go Z EL nw R κ Q (T.setTop (mkF (km κ) pc' Ls' (S)))) : Go Z EL nw R κ Q (T.setTop (mkF (km κ) pc Ls (.long x :: S))) := by
  subst hp
  exact w.pure (fun hx hby H t k => XT.lstoreN H hx rfl (g := mkF (km κ) pc Ls (.long x :: S)) (hb hby hd) rfl hl k) g
theorem W.lstore (w : W l Z a0 EL nw own bytes ml ret R κ T h M cells slots) {k : Nat} {x : Int64} (hd : decode bytes pc = .ok (.lstore k, 2)) (hp : pc + 2 = pc') (hl : storeLocals Ls k (.long x) = some Ls')
    (g : Go Z EL nw R κ Q (T.setTop (mkF (km κ) pc' Ls' (S)))) : Go Z EL nw R κ Q (T.setTop (mkF (km κ) pc Ls (.long x :: S))) := by
  subst hp
  exact w.pure (fun hx hby H t k => XT.lstore H hx rfl (g := mkF (km κ) pc Ls (.long x :: S)) (hb hby hd) rfl hl k) g
theorem W.astoreN (w : W l Z a0 EL nw own bytes ml ret R κ T h M cells slots) {k : Fin 4} {x : Value} (hd : decode bytes pc = .ok (.astore_n k, 1)) (hp : pc + 1 = pc') (hv : x.isRef = true) (hl : storeLocals Ls k.val x = some Ls')
    (g : Go Z EL nw R κ Q (T.setTop (mkF (km κ) pc' Ls' (S)))) : Go Z EL nw R κ Q (T.setTop (mkF (km κ) pc Ls (x :: S))) := by
  subst hp
  exact w.pure (fun hx hby H t k => XS.astoreN H hx rfl (g := mkF (km κ) pc Ls (x :: S)) (hb hby hd) rfl hv hl k) g
theorem W.astore (w : W l Z a0 EL nw own bytes ml ret R κ T h M cells slots) {k : Nat} {x : Value} (hd : decode bytes pc = .ok (.astore k, 2)) (hp : pc + 2 = pc') (hv : x.isRef = true) (hl : storeLocals Ls k x = some Ls')
    (g : Go Z EL nw R κ Q (T.setTop (mkF (km κ) pc' Ls' (S)))) : Go Z EL nw R κ Q (T.setTop (mkF (km κ) pc Ls (x :: S))) := by
  subst hp
  exact w.pure (fun hx hby H t k => XS.astore H hx rfl (g := mkF (km κ) pc Ls (x :: S)) (hb hby hd) rfl hv hl k) g
theorem W.iinc (w : W l Z a0 EL nw own bytes ml ret R κ T h M cells slots) {k : Nat} {cst : Int} {x : Int32} (hd : decode bytes pc = .ok (.iinc k cst, 3)) (hp : pc + 3 = pc') {z : Int32} (hz : x + Int32.ofInt cst = z) (hl : Ls[k]? = some (.val (.int x))) (hl' : storeLocals Ls k (.int z) = some Ls')
    (g : Go Z EL nw R κ Q (T.setTop (mkF (km κ) pc' Ls' (S)))) : Go Z EL nw R κ Q (T.setTop (mkF (km κ) pc Ls (S))) := by
  subst hp hz
  exact w.pure (fun hx hby H t k => XS.iinc H hx rfl (g := mkF (km κ) pc Ls (S)) (hb hby hd) hl hl' k) g
theorem W.iconst (w : W l Z a0 EL nw own bytes ml ret R κ T h M cells slots) {i : Int} (hd : decode bytes pc = .ok (.iconst i, 1)) (hp : pc + 1 = pc') {z : Int32} (hz : Int32.ofInt i = z)
    (g : Go Z EL nw R κ Q (T.setTop (mkF (km κ) pc' Ls (.int z :: S)))) : Go Z EL nw R κ Q (T.setTop (mkF (km κ) pc Ls (S))) := by
  subst hp hz
  exact w.pure (fun hx hby H t k => XS.iconst H hx rfl (g := mkF (km κ) pc Ls (S)) (hb hby hd)  k) g
theorem W.bipush (w : W l Z a0 EL nw own bytes ml ret R κ T h M cells slots) {i : Int} (hd : decode bytes pc = .ok (.bipush i, 2)) (hp : pc + 2 = pc') {z : Int32} (hz : (Int8.ofInt i).toInt32 = z)
    (g : Go Z EL nw R κ Q (T.setTop (mkF (km κ) pc' Ls (.int z :: S)))) : Go Z EL nw R κ Q (T.setTop (mkF (km κ) pc Ls (S))) := by
  subst hp hz
  exact w.pure (fun hx hby H t k => XS.bipush H hx rfl (g := mkF (km κ) pc Ls (S)) (hb hby hd)  k) g
theorem W.sipush (w : W l Z a0 EL nw own bytes ml ret R κ T h M cells slots) {i : Int} (hd : decode bytes pc = .ok (.sipush i, 3)) (hp : pc + 3 = pc') {z : Int32} (hz : (Int16.ofInt i).toInt32 = z)
    (g : Go Z EL nw R κ Q (T.setTop (mkF (km κ) pc' Ls (.int z :: S)))) : Go Z EL nw R κ Q (T.setTop (mkF (km κ) pc Ls (S))) := by
  subst hp hz
  exact w.pure (fun hx hby H t k => XS.sipush H hx rfl (g := mkF (km κ) pc Ls (S)) (hb hby hd)  k) g
theorem W.lconst (w : W l Z a0 EL nw own bytes ml ret R κ T h M cells slots) {k : Fin 2} (hd : decode bytes pc = .ok (.lconst k, 1)) (hp : pc + 1 = pc') {z : Int64} (hz : Int64.ofNat k = z)
    (g : Go Z EL nw R κ Q (T.setTop (mkF (km κ) pc' Ls (.long z :: S)))) : Go Z EL nw R κ Q (T.setTop (mkF (km κ) pc Ls (S))) := by
  subst hp hz
  exact w.pure (fun hx hby H t k => XT.lconst H hx rfl (g := mkF (km κ) pc Ls (S)) (hb hby hd)  k) g
theorem W.aconstNull (w : W l Z a0 EL nw own bytes ml ret R κ T h M cells slots)  (hd : decode bytes pc = .ok (.aconst_null, 1)) (hp : pc + 1 = pc')
    (g : Go Z EL nw R κ Q (T.setTop (mkF (km κ) pc' Ls (.null :: S)))) : Go Z EL nw R κ Q (T.setTop (mkF (km κ) pc Ls (S))) := by
  subst hp
  exact w.pure (fun hx hby H t k => XS.aconstNull H hx rfl (g := mkF (km κ) pc Ls (S)) (hb hby hd)  k) g
theorem W.iadd (w : W l Z a0 EL nw own bytes ml ret R κ T h M cells slots) {x y : Int32} (hd : decode bytes pc = .ok (.iadd, 1)) (hp : pc + 1 = pc') {z : Int32} (hz : x + y = z)
    (g : Go Z EL nw R κ Q (T.setTop (mkF (km κ) pc' Ls (.int z :: S)))) : Go Z EL nw R κ Q (T.setTop (mkF (km κ) pc Ls (.int y :: .int x :: S))) := by
  subst hp hz
  exact w.pure (fun hx hby H t k => XS.iadd H hx rfl (g := mkF (km κ) pc Ls (.int y :: .int x :: S)) (hb hby hd) rfl k) g
theorem W.isub (w : W l Z a0 EL nw own bytes ml ret R κ T h M cells slots) {x y : Int32} (hd : decode bytes pc = .ok (.isub, 1)) (hp : pc + 1 = pc') {z : Int32} (hz : x - y = z)
    (g : Go Z EL nw R κ Q (T.setTop (mkF (km κ) pc' Ls (.int z :: S)))) : Go Z EL nw R κ Q (T.setTop (mkF (km κ) pc Ls (.int y :: .int x :: S))) := by
  subst hp hz
  exact w.pure (fun hx hby H t k => XS.isub H hx rfl (g := mkF (km κ) pc Ls (.int y :: .int x :: S)) (hb hby hd) rfl k) g
theorem W.imul (w : W l Z a0 EL nw own bytes ml ret R κ T h M cells slots) {x y : Int32} (hd : decode bytes pc = .ok (.imul, 1)) (hp : pc + 1 = pc') {z : Int32} (hz : x * y = z)
    (g : Go Z EL nw R κ Q (T.setTop (mkF (km κ) pc' Ls (.int z :: S)))) : Go Z EL nw R κ Q (T.setTop (mkF (km κ) pc Ls (.int y :: .int x :: S))) := by
  subst hp hz
  exact w.pure (fun hx hby H t k => XS.imul H hx rfl (g := mkF (km κ) pc Ls (.int y :: .int x :: S)) (hb hby hd) rfl k) g
theorem W.iand (w : W l Z a0 EL nw own bytes ml ret R κ T h M cells slots) {x y : Int32} (hd : decode bytes pc = .ok (.iand, 1)) (hp : pc + 1 = pc') {z : Int32} (hz : x &&& y = z)
    (g : Go Z EL nw R κ Q (T.setTop (mkF (km κ) pc' Ls (.int z :: S)))) : Go Z EL nw R κ Q (T.setTop (mkF (km κ) pc Ls (.int y :: .int x :: S))) := by
  subst hp hz
  exact w.pure (fun hx hby H t k => XS.iand H hx rfl (g := mkF (km κ) pc Ls (.int y :: .int x :: S)) (hb hby hd) rfl k) g
theorem W.ior (w : W l Z a0 EL nw own bytes ml ret R κ T h M cells slots) {x y : Int32} (hd : decode bytes pc = .ok (.ior, 1)) (hp : pc + 1 = pc') {z : Int32} (hz : x ||| y = z)
    (g : Go Z EL nw R κ Q (T.setTop (mkF (km κ) pc' Ls (.int z :: S)))) : Go Z EL nw R κ Q (T.setTop (mkF (km κ) pc Ls (.int y :: .int x :: S))) := by
  subst hp hz
  exact w.pure (fun hx hby H t k => XT.ior H hx rfl (g := mkF (km κ) pc Ls (.int y :: .int x :: S)) (hb hby hd) rfl k) g
theorem W.ixor (w : W l Z a0 EL nw own bytes ml ret R κ T h M cells slots) {x y : Int32} (hd : decode bytes pc = .ok (.ixor, 1)) (hp : pc + 1 = pc') {z : Int32} (hz : x ^^^ y = z)
    (g : Go Z EL nw R κ Q (T.setTop (mkF (km κ) pc' Ls (.int z :: S)))) : Go Z EL nw R κ Q (T.setTop (mkF (km κ) pc Ls (.int y :: .int x :: S))) := by
  subst hp hz
  exact w.pure (fun hx hby H t k => XT.ixor H hx rfl (g := mkF (km κ) pc Ls (.int y :: .int x :: S)) (hb hby hd) rfl k) g
theorem W.ishl (w : W l Z a0 EL nw own bytes ml ret R κ T h M cells slots) {x y : Int32} (hd : decode bytes pc = .ok (.ishl, 1)) (hp : pc + 1 = pc') {z : Int32} (hz : x <<< (y &&& 31) = z)
    (g : Go Z EL nw R κ Q (T.setTop (mkF (km κ) pc' Ls (.int z :: S)))) : Go Z EL nw R κ Q (T.setTop (mkF (km κ) pc Ls (.int y :: .int x :: S))) := by
  subst hp hz
  exact w.pure (fun hx hby H t k => XT.ishl H hx rfl (g := mkF (km κ) pc Ls (.int y :: .int x :: S)) (hb hby hd) rfl k) g
theorem W.ishr (w : W l Z a0 EL nw own bytes ml ret R κ T h M cells slots) {x y : Int32} (hd : decode bytes pc = .ok (.ishr, 1)) (hp : pc + 1 = pc') {z : Int32} (hz : x >>> (y &&& 31) = z)
    (g : Go Z EL nw R κ Q (T.setTop (mkF (km κ) pc' Ls (.int z :: S)))) : Go Z EL nw R κ Q (T.setTop (mkF (km κ) pc Ls (.int y :: .int x :: S))) := by
  subst hp hz
  exact w.pure (fun hx hby H t k => XT.ishr H hx rfl (g := mkF (km κ) pc Ls (.int y :: .int x :: S)) (hb hby hd) rfl k) g
theorem W.iushr (w : W l Z a0 EL nw own bytes ml ret R κ T h M cells slots) {x y : Int32} (hd : decode bytes pc = .ok (.iushr, 1)) (hp : pc + 1 = pc') {z : Int32} (hz : XT.ushr x y = z)
    (g : Go Z EL nw R κ Q (T.setTop (mkF (km κ) pc' Ls (.int z :: S)))) : Go Z EL nw R κ Q (T.setTop (mkF (km κ) pc Ls (.int y :: .int x :: S))) := by
  subst hp hz
  exact w.pure (fun hx hby H t k => XT.iushr H hx rfl (g := mkF (km κ) pc Ls (.int y :: .int x :: S)) (hb hby hd) rfl k) g
theorem W.ladd (w : W l Z a0 EL nw own bytes ml ret R κ T h M cells slots) {x y : Int64} (hd : decode bytes pc = .ok (.ladd, 1)) (hp : pc + 1 = pc') {z : Int64} (hz : x + y = z)
    (g : Go Z EL nw R κ Q (T.setTop (mkF (km κ) pc' Ls (.long z :: S)))) : Go Z EL nw R κ Q (T.setTop (mkF (km κ) pc Ls (.long y :: .long x :: S))) := by
  subst hp hz
  exact w.pure (fun hx hby H t k => XT.ladd H hx rfl (g := mkF (km κ) pc Ls (.long y :: .long x :: S)) (hb hby hd) rfl k) g
theorem W.lsub (w : W l Z a0 EL nw own bytes ml ret R κ T h M cells slots) {x y : Int64} (hd : decode bytes pc = .ok (.lsub, 1)) (hp : pc + 1 = pc') {z : Int64} (hz : x - y = z)
    (g : Go Z EL nw R κ Q (T.setTop (mkF (km κ) pc' Ls (.long z :: S)))) : Go Z EL nw R κ Q (T.setTop (mkF (km κ) pc Ls (.long y :: .long x :: S))) := by
  subst hp hz
  exact w.pure (fun hx hby H t k => XT.lsub H hx rfl (g := mkF (km κ) pc Ls (.long y :: .long x :: S)) (hb hby hd) rfl k) g
theorem W.lmul (w : W l Z a0 EL nw own bytes ml ret R κ T h M cells slots) {x y : Int64} (hd : decode bytes pc = .ok (.lmul, 1)) (hp : pc + 1 = pc') {z : Int64} (hz : x * y = z)
    (g : Go Z EL nw R κ Q (T.setTop (mkF (km κ) pc' Ls (.long z :: S)))) : Go Z EL nw R κ Q (T.setTop (mkF (km κ) pc Ls (.long y :: .long x :: S))) := by
  subst hp hz
  exact w.pure (fun hx hby H t k => XT.lmul H hx rfl (g := mkF (km κ) pc Ls (.long y :: .long x :: S)) (hb hby hd) rfl k) g
theorem W.land (w : W l Z a0 EL nw own bytes ml ret R κ T h M cells slots) {x y : Int64} (hd : decode bytes pc = .ok (.land, 1)) (hp : pc + 1 = pc') {z : Int64} (hz : x &&& y = z)
    (g : Go Z EL nw R κ Q (T.setTop (mkF (km κ) pc' Ls (.long z :: S)))) : Go Z EL nw R κ Q (T.setTop (mkF (km κ) pc Ls (.long y :: .long x :: S))) := by
  subst hp hz
  exact w.pure (fun hx hby H t k => XT.land H hx rfl (g := mkF (km κ) pc Ls (.long y :: .long x :: S)) (hb hby hd) rfl k) g
theorem W.lor (w : W l Z a0 EL nw own bytes ml ret R κ T h M cells slots) {x y : Int64} (hd : decode bytes pc = .ok (.lor, 1)) (hp : pc + 1 = pc') {z : Int64} (hz : x ||| y = z)
    (g : Go Z EL nw R κ Q (T.setTop (mkF (km κ) pc' Ls (.long z :: S)))) : Go Z EL nw R κ Q (T.setTop (mkF (km κ) pc Ls (.long y :: .long x :: S))) := by
  subst hp hz
  exact w.pure (fun hx hby H t k => XT.lor H hx rfl (g := mkF (km κ) pc Ls (.long y :: .long x :: S)) (hb hby hd) rfl k) g
theorem W.lxor (w : W l Z a0 EL nw own bytes ml ret R κ T h M cells slots) {x y : Int64} (hd : decode bytes pc = .ok (.lxor, 1)) (hp : pc + 1 = pc') {z : Int64} (hz : x ^^^ y = z)
    (g : Go Z EL nw R κ Q (T.setTop (mkF (km κ) pc' Ls (.long z :: S)))) : Go Z EL nw R κ Q (T.setTop (mkF (km κ) pc Ls (.long y :: .long x :: S))) := by
  subst hp hz
  exact w.pure (fun hx hby H t k => XT.lxor H hx rfl (g := mkF (km κ) pc Ls (.long y :: .long x :: S)) (hb hby hd) rfl k) g
theorem W.lshl (w : W l Z a0 EL nw own bytes ml ret R κ T h M cells slots) {x : Int64} {y : Int32} (hd : decode bytes pc = .ok (.lshl, 1)) (hp : pc + 1 = pc') {z : Int64} (hz : x <<< (y.toInt64 &&& 63) = z)
    (g : Go Z EL nw R κ Q (T.setTop (mkF (km κ) pc' Ls (.long z :: S)))) : Go Z EL nw R κ Q (T.setTop (mkF (km κ) pc Ls (.int y :: .long x :: S))) := by
  subst hp hz
  exact w.pure (fun hx hby H t k => XT.lshl H hx rfl (g := mkF (km κ) pc Ls (.int y :: .long x :: S)) (hb hby hd) rfl k) g
theorem W.lshr (w : W l Z a0 EL nw own bytes ml ret R κ T h M cells slots) {x : Int64} {y : Int32} (hd : decode bytes pc = .ok (.lshr, 1)) (hp : pc + 1 = pc') {z : Int64} (hz : x >>> (y.toInt64 &&& 63) = z)
    (g : Go Z EL nw R κ Q (T.setTop (mkF (km κ) pc' Ls (.long z :: S)))) : Go Z EL nw R κ Q (T.setTop (mkF (km κ) pc Ls (.int y :: .long x :: S))) := by
  subst hp hz
  exact w.pure (fun hx hby H t k => XT.lshr H hx rfl (g := mkF (km κ) pc Ls (.int y :: .long x :: S)) (hb hby hd) rfl k) g
theorem W.lushr (w : W l Z a0 EL nw own bytes ml ret R κ T h M cells slots) {x : Int64} {y : Int32} (hd : decode bytes pc = .ok (.lushr, 1)) (hp : pc + 1 = pc') {z : Int64} (hz : XT.ushrL x y = z)
    (g : Go Z EL nw R κ Q (T.setTop (mkF (km κ) pc' Ls (.long z :: S)))) : Go Z EL nw R κ Q (T.setTop (mkF (km κ) pc Ls (.int y :: .long x :: S))) := by
  subst hp hz
  exact w.pure (fun hx hby H t k => XT.lushr H hx rfl (g := mkF (km κ) pc Ls (.int y :: .long x :: S)) (hb hby hd) rfl k) g
theorem W.idiv (w : W l Z a0 EL nw own bytes ml ret R κ T h M cells slots) {x y : Int32} (hd : decode bytes pc = .ok (.idiv, 1)) (hp : pc + 1 = pc') {z : Int32} (hz : x / y = z) (hy : y ≠ 0)
    (g : Go Z EL nw R κ Q (T.setTop (mkF (km κ) pc' Ls (.int z :: S)))) : Go Z EL nw R κ Q (T.setTop (mkF (km κ) pc Ls (.int y :: .int x :: S))) := by
  subst hp hz
  exact w.pure (fun hx hby H t k => XS.idiv H hx rfl (g := mkF (km κ) pc Ls (.int y :: .int x :: S)) (hb hby hd) rfl hy k) g
theorem W.irem (w : W l Z a0 EL nw own bytes ml ret R κ T h M cells slots) {x y : Int32} (hd : decode bytes pc = .ok (.irem, 1)) (hp : pc + 1 = pc') {z : Int32} (hz : x - (x / y) * y = z) (hy : y ≠ 0)
    (g : Go Z EL nw R κ Q (T.setTop (mkF (km κ) pc' Ls (.int z :: S)))) : Go Z EL nw R κ Q (T.setTop (mkF (km κ) pc Ls (.int y :: .int x :: S))) := by
  subst hp hz
  exact w.pure (fun hx hby H t k => XS.irem H hx rfl (g := mkF (km κ) pc Ls (.int y :: .int x :: S)) (hb hby hd) rfl hy k) g
theorem W.ldiv (w : W l Z a0 EL nw own bytes ml ret R κ T h M cells slots) {x y : Int64} (hd : decode bytes pc = .ok (.ldiv, 1)) (hp : pc + 1 = pc') {z : Int64} (hz : x / y = z) (hy : y ≠ 0)
    (g : Go Z EL nw R κ Q (T.setTop (mkF (km κ) pc' Ls (.long z :: S)))) : Go Z EL nw R κ Q (T.setTop (mkF (km κ) pc Ls (.long y :: .long x :: S))) := by
  subst hp hz
  exact w.pure (fun hx hby H t k => XT.ldiv H hx rfl (g := mkF (km κ) pc Ls (.long y :: .long x :: S)) (hb hby hd) rfl hy k) g
theorem W.lrem (w : W l Z a0 EL nw own bytes ml ret R κ T h M cells slots) {x y : Int64} (hd : decode bytes pc = .ok (.lrem, 1)) (hp : pc + 1 = pc') {z : Int64} (hz : x - (x / y) * y = z) (hy : y ≠ 0)
    (g : Go Z EL nw R κ Q (T.setTop (mkF (km κ) pc' Ls (.long z :: S)))) : Go Z EL nw R κ Q (T.setTop (mkF (km κ) pc Ls (.long y :: .long x :: S))) := by
  subst hp hz
  exact w.pure (fun hx hby H t k => XT.lrem H hx rfl (g := mkF (km κ) pc Ls (.long y :: .long x :: S)) (hb hby hd) rfl hy k) g
theorem W.ineg (w : W l Z a0 EL nw own bytes ml ret R κ T h M cells slots) {x : Int32} (hd : decode bytes pc = .ok (.ineg, 1)) (hp : pc + 1 = pc') {z : Int32} (hz : -x = z)
    (g : Go Z EL nw R κ Q (T.setTop (mkF (km κ) pc' Ls (.int z :: S)))) : Go Z EL nw R κ Q (T.setTop (mkF (km κ) pc Ls (.int x :: S))) := by
  subst hp hz
  exact w.pure (fun hx hby H t k => XS.ineg H hx rfl (g := mkF (km κ) pc Ls (.int x :: S)) (hb hby hd) rfl k) g
theorem W.lneg (w : W l Z a0 EL nw own bytes ml ret R κ T h M cells slots) {x : Int64} (hd : decode bytes pc = .ok (.lneg, 1)) (hp : pc + 1 = pc') {z : Int64} (hz : -x = z)
    (g : Go Z EL nw R κ Q (T.setTop (mkF (km κ) pc' Ls (.long z :: S)))) : Go Z EL nw R κ Q (T.setTop (mkF (km κ) pc Ls (.long x :: S))) := by
  subst hp hz
  exact w.pure (fun hx hby H t k => XT.lneg H hx rfl (g := mkF (km κ) pc Ls (.long x :: S)) (hb hby hd) rfl k) g
theorem W.i2l (w : W l Z a0 EL nw own bytes ml ret R κ T h M cells slots) {x : Int32} (hd : decode bytes pc = .ok (.i2l, 1)) (hp : pc + 1 = pc') {z : Int64} (hz : x.toInt64 = z)
    (g : Go Z EL nw R κ Q (T.setTop (mkF (km κ) pc' Ls (.long z :: S)))) : Go Z EL nw R κ Q (T.setTop (mkF (km κ) pc Ls (.int x :: S))) := by
  subst hp hz
  exact w.pure (fun hx hby H t k => XT.i2l H hx rfl (g := mkF (km κ) pc Ls (.int x :: S)) (hb hby hd) rfl k) g
theorem W.l2i (w : W l Z a0 EL nw own bytes ml ret R κ T h M cells slots) {x : Int64} (hd : decode bytes pc = .ok (.l2i, 1)) (hp : pc + 1 = pc') {z : Int32} (hz : x.toInt32 = z)
    (g : Go Z EL nw R κ Q (T.setTop (mkF (km κ) pc' Ls (.int z :: S)))) : Go Z EL nw R κ Q (T.setTop (mkF (km κ) pc Ls (.long x :: S))) := by
  subst hp hz
  exact w.pure (fun hx hby H t k => XT.l2i H hx rfl (g := mkF (km κ) pc Ls (.long x :: S)) (hb hby hd) rfl k) g
theorem W.i2b (w : W l Z a0 EL nw own bytes ml ret R κ T h M cells slots) {x : Int32} (hd : decode bytes pc = .ok (.i2b, 1)) (hp : pc + 1 = pc') {z : Int32} (hz : x.toInt8.toInt32 = z)
    (g : Go Z EL nw R κ Q (T.setTop (mkF (km κ) pc' Ls (.int z :: S)))) : Go Z EL nw R κ Q (T.setTop (mkF (km κ) pc Ls (.int x :: S))) := by
  subst hp hz
  exact w.pure (fun hx hby H t k => XT.i2b H hx rfl (g := mkF (km κ) pc Ls (.int x :: S)) (hb hby hd) rfl k) g
theorem W.i2c (w : W l Z a0 EL nw own bytes ml ret R κ T h M cells slots) {x : Int32} (hd : decode bytes pc = .ok (.i2c, 1)) (hp : pc + 1 = pc') {z : Int32} (hz : x.toUInt32.toUInt16.toUInt32.toInt32 = z)
    (g : Go Z EL nw R κ Q (T.setTop (mkF (km κ) pc' Ls (.int z :: S)))) : Go Z EL nw R κ Q (T.setTop (mkF (km κ) pc Ls (.int x :: S))) := by
  subst hp hz
  exact w.pure (fun hx hby H t k => XT.i2c H hx rfl (g := mkF (km κ) pc Ls (.int x :: S)) (hb hby hd) rfl k) g
theorem W.i2s (w : W l Z a0 EL nw own bytes ml ret R κ T h M cells slots) {x : Int32} (hd : decode bytes pc = .ok (.i2s, 1)) (hp : pc + 1 = pc') {z : Int32} (hz : x.toInt16.toInt32 = z)
    (g : Go Z EL nw R κ Q (T.setTop (mkF (km κ) pc' Ls (.int z :: S)))) : Go Z EL nw R κ Q (T.setTop (mkF (km κ) pc Ls (.int x :: S))) := by
  subst hp hz
  exact w.pure (fun hx hby H t k => XT.i2s H hx rfl (g := mkF (km κ) pc Ls (.int x :: S)) (hb hby hd) rfl k) g
theorem W.lcmp (w : W l Z a0 EL nw own bytes ml ret R κ T h M cells slots) {x y : Int64} (hd : decode bytes pc = .ok (.lcmp, 1)) (hp : pc + 1 = pc') {z : Int32} (hz : XT.cmpL x y = z)
    (g : Go Z EL nw R κ Q (T.setTop (mkF (km κ) pc' Ls (.int z :: S)))) : Go Z EL nw R κ Q (T.setTop (mkF (km κ) pc Ls (.long y :: .long x :: S))) := by
  subst hp hz
  exact w.pure (fun hx hby H t k => XT.lcmp H hx rfl (g := mkF (km κ) pc Ls (.long y :: .long x :: S)) (hb hby hd) rfl k) g
theorem W.dup (w : W l Z a0 EL nw own bytes ml ret R κ T h M cells slots) {x : Value} (hd : decode bytes pc = .ok (.dup, 1)) (hp : pc + 1 = pc') (hc : x.category = 1)
    (g : Go Z EL nw R κ Q (T.setTop (mkF (km κ) pc' Ls (x :: x :: S)))) : Go Z EL nw R κ Q (T.setTop (mkF (km κ) pc Ls (x :: S))) := by
  subst hp
  exact w.pure (fun hx hby H t k => XS.dup H hx rfl (g := mkF (km κ) pc Ls (x :: S)) (hb hby hd) rfl hc k) g
theorem W.pop (w : W l Z a0 EL nw own bytes ml ret R κ T h M cells slots) {x : Value} (hd : decode bytes pc = .ok (.pop, 1)) (hp : pc + 1 = pc') (hc : x.category = 1)
    (g : Go Z EL nw R κ Q (T.setTop (mkF (km κ) pc' Ls (S)))) : Go Z EL nw R κ Q (T.setTop (mkF (km κ) pc Ls (x :: S))) := by
  subst hp
  exact w.pure (fun hx hby H t k => XT.pop H hx rfl (g := mkF (km κ) pc Ls (x :: S)) (hb hby hd) rfl hc k) g
theorem W.dupX1 (w : W l Z a0 EL nw own bytes ml ret R κ T h M cells slots) {x y : Value} (hd : decode bytes pc = .ok (.dup_x1, 1)) (hp : pc + 1 = pc') (hc : x.category = 1) (hc' : y.category = 1)
    (g : Go Z EL nw R κ Q (T.setTop (mkF (km κ) pc' Ls (x :: y :: x :: S)))) : Go Z EL nw R κ Q (T.setTop (mkF (km κ) pc Ls (x :: y :: S))) := by
  subst hp
  exact w.pure (fun hx hby H t k => XT.dupX1 H hx rfl (g := mkF (km κ) pc Ls (x :: y :: S)) (hb hby hd) rfl hc hc' k) g
theorem W.dup2 (w : W l Z a0 EL nw own bytes ml ret R κ T h M cells slots) {x y : Value} (hd : decode bytes pc = .ok (.dup2, 1)) (hp : pc + 1 = pc') (hc : x.category = 1) (hc' : y.category = 1)
    (g : Go Z EL nw R κ Q (T.setTop (mkF (km κ) pc' Ls (x :: y :: x :: y :: S)))) : Go Z EL nw R κ Q (T.setTop (mkF (km κ) pc Ls (x :: y :: S))) := by
  subst hp
  exact w.pure (fun hx hby H t k => XT.dup2 H hx rfl (g := mkF (km κ) pc Ls (x :: y :: S)) (hb hby hd) rfl hc hc' k) g
theorem W.dup2L (w : W l Z a0 EL nw own bytes ml ret R κ T h M cells slots) {x : Int64} (hd : decode bytes pc = .ok (.dup2, 1)) (hp : pc + 1 = pc')
    (g : Go Z EL nw R κ Q (T.setTop (mkF (km κ) pc' Ls (.long x :: .long x :: S)))) : Go Z EL nw R κ Q (T.setTop (mkF (km κ) pc Ls (.long x :: S))) := by
  subst hp
  exact w.pure (fun hx hby H t k => XT.dup2L H hx rfl (g := mkF (km κ) pc Ls (.long x :: S)) (hb hby hd) rfl k) g
theorem W.goto (w : W l Z a0 EL nw own bytes ml ret R κ T h M cells slots) {o : Int} (hd : decode bytes pc = .ok (.goto o, 3)) (ho : 0 ≤ (pc : Int) + o) (hp : ((pc : Int) + o).toNat = pc')
    (g : Go Z EL nw R κ Q (T.setTop (mkF (km κ) pc' Ls (S)))) : Go Z EL nw R κ Q (T.setTop (mkF (km κ) pc Ls (S))) := by
  subst hp
  exact w.pure (fun hx hby H t k => XS.goto H hx rfl (g := mkF (km κ) pc Ls (S)) (pc0 := pc) rfl (hb hby hd) ho rfl k) g
theorem W.ifYes (w : W l Z a0 EL nw own bytes ml ret R κ T h M cells slots) {cd : ClassFile.Cond} {x : Int32} {o : Int} (hd : decode bytes pc = .ok (.ifCond cd o, 3)) (ho : 0 ≤ (pc : Int) + o) (hp : ((pc : Int) + o).toNat = pc') (hc : ifCond.holds cd x = true)
    (g : Go Z EL nw R κ Q (T.setTop (mkF (km κ) pc' Ls (S)))) : Go Z EL nw R κ Q (T.setTop (mkF (km κ) pc Ls (.int x :: S))) := by
  subst hp
  exact w.pure (fun hx hby H t k => XS.ifYes H hx rfl (g := mkF (km κ) pc Ls (.int x :: S)) (pc0 := pc) rfl (hb hby hd) rfl hc ho rfl k) g
theorem W.ifNo (w : W l Z a0 EL nw own bytes ml ret R κ T h M cells slots) {cd : ClassFile.Cond} {x : Int32} {o : Int} (hd : decode bytes pc = .ok (.ifCond cd o, 3)) (hp : pc + 3 = pc') (hc : ifCond.holds cd x = false)
    (g : Go Z EL nw R κ Q (T.setTop (mkF (km κ) pc' Ls (S)))) : Go Z EL nw R κ Q (T.setTop (mkF (km κ) pc Ls (.int x :: S))) := by
  subst hp
  exact w.pure (fun hx hby H t k => XS.ifNo H hx rfl (g := mkF (km κ) pc Ls (.int x :: S)) (hb hby hd) rfl hc k) g
theorem W.icmpYes (w : W l Z a0 EL nw own bytes ml ret R κ T h M cells slots) {cd : ClassFile.Cond} {x y : Int32} {o : Int} (hd : decode bytes pc = .ok (.if_icmp cd o, 3)) (ho : 0 ≤ (pc : Int) + o) (hp : ((pc : Int) + o).toNat = pc') (hc : if_icmp.holds cd x y = true)
    (g : Go Z EL nw R κ Q (T.setTop (mkF (km κ) pc' Ls (S)))) : Go Z EL nw R κ Q (T.setTop (mkF (km κ) pc Ls (.int y :: .int x :: S))) := by
  subst hp
  exact w.pure (fun hx hby H t k => XS.icmpYes H hx rfl (g := mkF (km κ) pc Ls (.int y :: .int x :: S)) (pc0 := pc) rfl (hb hby hd) rfl hc ho rfl k) g
theorem W.icmpNo (w : W l Z a0 EL nw own bytes ml ret R κ T h M cells slots) {cd : ClassFile.Cond} {x y : Int32} {o : Int} (hd : decode bytes pc = .ok (.if_icmp cd o, 3)) (hp : pc + 3 = pc') (hc : if_icmp.holds cd x y = false)
    (g : Go Z EL nw R κ Q (T.setTop (mkF (km κ) pc' Ls (S)))) : Go Z EL nw R κ Q (T.setTop (mkF (km κ) pc Ls (.int y :: .int x :: S))) := by
  subst hp
  exact w.pure (fun hx hby H t k => XS.icmpNo H hx rfl (g := mkF (km κ) pc Ls (.int y :: .int x :: S)) (hb hby hd) rfl hc k) g
theorem W.ifnullYes (w : W l Z a0 EL nw own bytes ml ret R κ T h M cells slots) {o : Int} (hd : decode bytes pc = .ok (.ifnull o, 3)) (ho : 0 ≤ (pc : Int) + o) (hp : ((pc : Int) + o).toNat = pc')
    (g : Go Z EL nw R κ Q (T.setTop (mkF (km κ) pc' Ls (S)))) : Go Z EL nw R κ Q (T.setTop (mkF (km κ) pc Ls (.null :: S))) := by
  subst hp
  exact w.pure (fun hx hby H t k => XS.ifnullYes H hx rfl (g := mkF (km κ) pc Ls (.null :: S)) (pc0 := pc) rfl (hb hby hd) rfl ho rfl k) g
theorem W.ifnullNo (w : W l Z a0 EL nw own bytes ml ret R κ T h M cells slots) {o : Int} {b : Addr} (hd : decode bytes pc = .ok (.ifnull o, 3)) (hp : pc + 3 = pc')
    (g : Go Z EL nw R κ Q (T.setTop (mkF (km κ) pc' Ls (S)))) : Go Z EL nw R κ Q (T.setTop (mkF (km κ) pc Ls (.ref b :: S))) := by
  subst hp
  exact w.pure (fun hx hby H t k => XS.ifnullNo H hx rfl (g := mkF (km κ) pc Ls (.ref b :: S)) (hb hby hd) rfl k) g
theorem W.ifnonnullYes (w : W l Z a0 EL nw own bytes ml ret R κ T h M cells slots) {o : Int} {b : Addr} (hd : decode bytes pc = .ok (.ifnonnull o, 3)) (ho : 0 ≤ (pc : Int) + o) (hp : ((pc : Int) + o).toNat = pc')
    (g : Go Z EL nw R κ Q (T.setTop (mkF (km κ) pc' Ls (S)))) : Go Z EL nw R κ Q (T.setTop (mkF (km κ) pc Ls (.ref b :: S))) := by
  subst hp
  exact w.pure (fun hx hby H t k => XT.ifnonnullYes H hx rfl (g := mkF (km κ) pc Ls (.ref b :: S)) (pc0 := pc) rfl (hb hby hd) rfl ho rfl k) g
theorem W.ifnonnullNo (w : W l Z a0 EL nw own bytes ml ret R κ T h M cells slots) {o : Int} (hd : decode bytes pc = .ok (.ifnonnull o, 3)) (hp : pc + 3 = pc')
    (g : Go Z EL nw R κ Q (T.setTop (mkF (km κ) pc' Ls (S)))) : Go Z EL nw R κ Q (T.setTop (mkF (km κ) pc Ls (.null :: S))) := by
  subst hp
  exact w.pure (fun hx hby H t k => XT.ifnonnullNo H hx rfl (g := mkF (km κ) pc Ls (.null :: S)) (hb hby hd) rfl k) g
theorem W.acmpYes (w : W l Z a0 EL nw own bytes ml ret R κ T h M cells slots) {cd : ClassFile.ACond} {x y : Value} {o : Int} (hd : decode bytes pc = .ok (.if_acmp cd o, 3)) (ho : 0 ≤ (pc : Int) + o) (hp : ((pc : Int) + o).toNat = pc') (hx' : x.isRef = true) (hy' : y.isRef = true) (hc : XT.acmp cd x y = true)
    (g : Go Z EL nw R κ Q (T.setTop (mkF (km κ) pc' Ls (S)))) : Go Z EL nw R κ Q (T.setTop (mkF (km κ) pc Ls (y :: x :: S))) := by
  subst hp
  exact w.pure (fun hx hby H t k => XT.acmpYes H hx rfl (g := mkF (km κ) pc Ls (y :: x :: S)) (pc0 := pc) rfl (hb hby hd) rfl hx' hy' hc ho rfl k) g
theorem W.acmpNo (w : W l Z a0 EL nw own bytes ml ret R κ T h M cells slots) {cd : ClassFile.ACond} {x y : Value} {o : Int} (hd : decode bytes pc = .ok (.if_acmp cd o, 3)) (hp : pc + 3 = pc') (hx' : x.isRef = true) (hy' : y.isRef = true) (hc : XT.acmp cd x y = false)
    (g : Go Z EL nw R κ Q (T.setTop (mkF (km κ) pc' Ls (S)))) : Go Z EL nw R κ Q (T.setTop (mkF (km κ) pc Ls (y :: x :: S))) := by
  subst hp
  exact w.pure (fun hx hby H t k => XT.acmpNo H hx rfl (g := mkF (km κ) pc Ls (y :: x :: S)) (hb hby hd) rfl hx' hy' hc k) g
end Pure
end Jvm.Own
/- laws to paste: Road.backV, Road.lenW, Road.eqW, Road.codOf (cut by pick.py; bodies as the Statement names them) -/
namespace Jvm.Pilot.@@N@@
namespace StrChars
open Jvm Sem ClassFile Op Lib Jvm.Stand Jvm.Free.XT Jvm.Free.ALB Jvm.Free.JM Jvm.Free
open Jvm.Lib.Cold (StaticIs)
/-- a char array whose places are chars -/
def Ch (a : Addr) (A : Cell) (U : State) : Prop := Arr .char a A U ∧ Typed .char A
theorem Ch.mv {a : Addr} {A : Cell} {U U' : State} (h : Ch a A U) (hal : U.vm.Alike U'.vm) (hh : U'.heap = U.heap) : Ch a A U' := ⟨h.1.mv hal hh, h.2⟩
theorem Ch.keep {a : Addr} {A : Cell} {U U' : State} (h : Ch a A U) (hal : U.vm.Alike U'.vm) (hk : U'.heap[a]? = some A) : Ch a A U' := ⟨h.1.keep hal hk, h.2⟩
/-- what place i of a char[]'s cell holds -/
def cv (A : Cell) (i : Nat) : Int32 := match A.slots[i]? with | some (.int x) => x | _ => 0
theorem Ch.get {a : Addr} {A : Cell} {U : State} (h : Ch a A U) {i : Nat} (hi : i < A.slots.size) : A.slots[i]? = some (.int (cv A i)) := by
  have e := Array.getElem?_eq_getElem hi
  have f := h.2 i _ e
  unfold cv; rw [e]
  generalize A.slots[i] = v at f
  cases v <;> simp [fits] at f ⊢
/-- the byte that i2b leaves of a char -/
def lo8 (x : Int32) : Int32 := x.toInt8.toInt32
theorem fits_lo8 (y : Int32) : fits .byte (.int (lo8 y)) = true := by
  have h1 := y.toInt8.le_toInt
  have h2 := y.toInt8.toInt_lt
  simp only [lo8, fits, Bool.and_eq_true, decide_eq_true_eq, Int32.le_iff_toInt_le, Int8.toInt_toInt32, show (-128 : Int32).toInt = -128 from by decide, show (127 : Int32).toInt = 127 from by decide]
  omega
/-- A' is A but that each place j of lo .. hi - 1 holds f j -/
def Laid (A A' : Cell) (lo hi : Nat) (f : Nat → Value) : Prop := A'.cls = A.cls ∧ A'.vm = A.vm ∧ A'.slots.size = A.slots.size ∧ ∀ i, A'.slots[i]? = if lo ≤ i ∧ i < hi then some (f i) else A.slots[i]?
theorem Laid.zero (A : Cell) (lo : Nat) (f : Nat → Value) : Laid A A lo (lo + 0) f := ⟨rfl, rfl, rfl, fun i => by rw [if_neg (by omega)]⟩
theorem Laid.step {A Ak : Cell} {lo k : Nat} {f : Nat → Value} {v : Value} (h : Laid A Ak lo k f) (hlo : lo ≤ k) (hk : k < Ak.slots.size) (hv : v = f k) : Laid A (Ak.setSlot k v) lo (k + 1) f := by
  refine ⟨h.1, h.2.1, by simpa [Cell.setSlot] using h.2.2.1, fun i => ?_⟩
  by_cases e : k = i
  · subst e; rw [Cell.slots_setSlot_self v hk, if_pos (by omega), hv]
  · rw [Cell.slots_setSlot_ne v e, h.2.2.2 i]
    by_cases q : lo ≤ i ∧ i < k
    · rw [if_pos q, if_pos (by omega)]
    · rw [if_neg q, if_neg (by omega)]
def U16 : String := "java/lang/StringUTF16"
namespace Cmp5
def yN : MethodName := ⟨"java/lang/StringUTF16", "compress", "([CI[BII)I"⟩
abbrev yB : ByteArray := jdk_52_method_21_code
theorem d0 : decode yB 0 = .ok (.iconst 0, 1) := by decide +kernel
theorem d1 : decode yB 1 = .ok (.istore 5, 2) := by decide +kernel
theorem d3 : decode yB 3 = .ok (.iload 5, 2) := by decide +kernel
theorem d5 : decode yB 5 = .ok (.iload 4, 2) := by decide +kernel
theorem d7 : decode yB 7 = .ok (.if_icmp (.ge) 37, 3) := by decide +kernel
theorem d10 : decode yB 10 = .ok (.aload_n 0, 1) := by decide +kernel
theorem d11 : decode yB 11 = .ok (.iload_n 1, 1) := by decide +kernel
theorem d12 : decode yB 12 = .ok (.caload, 1) := by decide +kernel
theorem d13 : decode yB 13 = .ok (.istore 6, 2) := by decide +kernel
theorem d15 : decode yB 15 = .ok (.iload 6, 2) := by decide +kernel
theorem d17 : decode yB 17 = .ok (.sipush 255, 3) := by decide +kernel
theorem d20 : decode yB 20 = .ok (.if_icmp (.le) 6, 3) := by decide +kernel
theorem d26 : decode yB 26 = .ok (.aload_n 2, 1) := by decide +kernel
theorem d27 : decode yB 27 = .ok (.iload_n 3, 1) := by decide +kernel
theorem d28 : decode yB 28 = .ok (.iload 6, 2) := by decide +kernel
theorem d30 : decode yB 30 = .ok (.i2b, 1) := by decide +kernel
theorem d31 : decode yB 31 = .ok (.bastore, 1) := by decide +kernel
theorem d32 : decode yB 32 = .ok (.iinc 1 1, 3) := by decide +kernel
theorem d35 : decode yB 35 = .ok (.iinc 3 1, 3) := by decide +kernel
theorem d38 : decode yB 38 = .ok (.iinc 5 1, 3) := by decide +kernel
theorem d41 : decode yB 41 = .ok (.goto (-38), 3) := by decide +kernel
theorem d44 : decode yB 44 = .ok (.iload 4, 2) := by decide +kernel
theorem d46 : decode yB 46 = .ok (.ireturn, 1) := by decide +kernel
def site : List Cond := []
def tab : Cond := tabOf yN yB 7 (some .int) site
def P (b : Addr) (A : Cell) (d : Addr) (B : Cell) (o q len : Nat) (args : Array Value) (s : State) : Prop := args = #[.ref b, .int (Int32.ofNat o), .ref d, .int (Int32.ofNat q), .int (Int32.ofNat len)] ∧ Ch b A s ∧ Arr .byte d B s ∧ b ≠ d ∧ o + len ≤ A.slots.size ∧ q + len ≤ B.slots.size ∧ ∀ i, i < len → ¬ 255 < cv A (o + i)
def E (b : Addr) (A : Cell) (d : Addr) (B : Cell) (o q len : Nat) (r : Option Value) (s u : State) : Prop := r = some (.int (Int32.ofNat len)) ∧ ∃ B', Put d B' s u ∧ Laid B B' q (q + len) (fun j => Value.int (lo8 (cv A (o + (j - q)))))
/-- no char of the range above 255: len; the places written hold each char's low byte -/
theorem law (l : Launch) (b : Addr) (A : Cell) (d : Addr) (B : Cell) (o q len : Nat) : Law l yN 5 5 0 0 yB 7 (some .int) site (P b A d B o q len) (E b A d B o q len) (copyLocs d q len) 0 0 := by
  refine Law.of_walk (plainFor_of_name (by decide +kernel)) (by decide +kernel) (by decide +kernel) (by decide) (fun _ _ h => by rw [h.1]; rfl) (fun _ U U' hal hh h => ⟨h.1, h.2.1.mv hal hh, h.2.2.1.mv hal hh, h.2.2.2⟩) (fun r U U' V V' h1 hal h2 h => ⟨h.1, h.2.elim fun B' q => ⟨B', q.1.mv h1 h2, q.2⟩⟩) ?_
  intro p e s m args below meth c s₁ X0 hexec hbytes hml hret hlk hnm hown hh0 W hP
  obtain ⟨rfl, hA, hB, hne, l1, l2, hp⟩ := hP
  have c1 : Steps p.tables e below (s₁.setTop (entryFrame m #[.ref b, .int (Int32.ofNat o), .ref d, .int (Int32.ofNat q), .int (Int32.ofNat len)] 7)) (s₁.setTop (mkF m 0 #[.val (.ref b), .val (.int (Int32.ofNat o)), .val (.ref d), .val (.int (Int32.ofNat q)), .val (.int (Int32.ofNat len)), .unset, .unset] [])) := entry rfl
  have hA0 := hA.1.mv X0.warmed.alike hh0
  have hB0 := hB.mv X0.warmed.alike hh0
  have a31 := hA.1.2.2.2
  have c2 : Steps p.tables e below (s₁.setTop (entryFrame m #[.ref b, .int (Int32.ofNat o), .ref d, .int (Int32.ofNat q), .int (Int32.ofNat len)] 7)) (s₁.setTop (mkF m 3 #[.val (.ref b), .val (.int (Int32.ofNat o)), .val (.ref d), .val (.int (Int32.ofNat q)), .val (.int (Int32.ofNat len)), .val (.int 0), .unset] [])) := c1.trans (by
    refine iconstV X0.here hexec rfl 0 (hb hbytes d0) (by decide) ?_
    refine XS.istore X0.here hexec rfl (hb hbytes d1) rfl rfl ?_
    exact Steps.refl _)
  have loop : ∀ (r i : Nat), i + r = len → ∀ (z : Slot), (z = .unset ∨ ∃ w, z = .val w ∧ w.category = 1) → ∀ (Tl : State) (Bk : Cell), Stand p l e { frames := 0, locals := 0, cells := 0, slots := 0 } s m #[.ref b, .int (Int32.ofNat o), .ref d, .int (Int32.ofNat q), .int (Int32.ofNat len)] below meth c Tl ([] ++ copyLocs d q i) 0 0 → Put d Bk s₁ Tl → Laid B Bk q (q + i) (fun j => Value.int (lo8 (cv A (o + (j - q))))) →
      Steps p.tables e below (s₁.setTop (entryFrame m #[.ref b, .int (Int32.ofNat o), .ref d, .int (Int32.ofNat q), .int (Int32.ofNat len)] 7)) (Tl.setTop (mkF m 3 #[.val (.ref b), .val (.int (Int32.ofNat (o + i))), .val (.ref d), .val (.int (Int32.ofNat (q + i))), .val (.int (Int32.ofNat len)), .val (.int (Int32.ofNat i)), z] [])) → ∃ (T' : State) (B' : Cell) (z' : Slot), Stand p l e { frames := 0, locals := 0, cells := 0, slots := 0 } s m #[.ref b, .int (Int32.ofNat o), .ref d, .int (Int32.ofNat q), .int (Int32.ofNat len)] below meth c T' ([] ++ copyLocs d q len) 0 0 ∧ Put d B' s₁ T' ∧ Laid B B' q (q + len) (fun j => Value.int (lo8 (cv A (o + (j - q))))) ∧
      Steps p.tables e below (s₁.setTop (entryFrame m #[.ref b, .int (Int32.ofNat o), .ref d, .int (Int32.ofNat q), .int (Int32.ofNat len)] 7)) (T'.setTop (mkF m 3 #[.val (.ref b), .val (.int (Int32.ofNat (o + len))), .val (.ref d), .val (.int (Int32.ofNat (q + len))), .val (.int (Int32.ofNat len)), .val (.int (Int32.ofNat len)), z'] [])) := by
    intro r
    induction r with
    | zero =>
      intro i hi z hz Tl Bk Xl pl fl cl
      have hil : i = len := by omega
      rw [hil] at Xl fl cl
      exact ⟨Tl, Bk, z, Xl, pl, fl, cl⟩
    | succ r ih =>
      intro i hi z hz Tl Bk Xl pl fl cl
      have all := X0.warmed.alike.symm.trans Xl.warmed.alike
      have hAl := hA0.keep all (pl.other hne hA0.1)
      have hBk := hB0.like all pl.1 fl.1 fl.2.1 fl.2.2.1
      have hlt : q + i < Bk.slots.size := by rw [fl.2.2.1]; omega
      have c3 : Steps p.tables e below (s₁.setTop (entryFrame m #[.ref b, .int (Int32.ofNat o), .ref d, .int (Int32.ofNat q), .int (Int32.ofNat len)] 7)) (Tl.setTop (mkF m 12 #[.val (.ref b), .val (.int (Int32.ofNat (o + i))), .val (.ref d), .val (.int (Int32.ofNat (q + i))), .val (.int (Int32.ofNat len)), .val (.int (Int32.ofNat i)), z] [.int (Int32.ofNat (o + i)), .ref b])) := cl.trans (by
        refine XS.iload Xl.here hexec rfl (hb hbytes d3) rfl ?_
        refine XS.iload Xl.here hexec rfl (hb hbytes d5) rfl ?_
        refine XS.icmpNo Xl.here hexec rfl (hb hbytes d7) rfl (ii_ge_f (lt32 (by omega) (by omega))) ?_
        refine XS.aloadN Xl.here hexec rfl (hb hbytes d10) rfl rfl ?_
        refine XS.iloadN Xl.here hexec rfl (hb hbytes d11) rfl ?_
        exact Steps.refl _)
      have c4 : Steps p.tables e below (s₁.setTop (entryFrame m #[.ref b, .int (Int32.ofNat o), .ref d, .int (Int32.ofNat q), .int (Int32.ofNat len)] 7)) (Tl.setTop (mkF m 13 #[.val (.ref b), .val (.int (Int32.ofNat (o + i))), .val (.ref d), .val (.int (Int32.ofNat (q + i))), .val (.int (Int32.ofNat len)), .val (.int (Int32.ofNat i)), z] [.int (cv A (o + i))])) := c3.trans (by
        refine Xl.aget hexec hAl rfl (hA.get (i := o + i) (by omega)) rfl rfl (hb hbytes d12) ?_
        exact Steps.refl _)
      have c5 : Steps p.tables e below (s₁.setTop (entryFrame m #[.ref b, .int (Int32.ofNat o), .ref d, .int (Int32.ofNat q), .int (Int32.ofNat len)] 7)) (Tl.setTop (mkF m 15 #[.val (.ref b), .val (.int (Int32.ofNat (o + i))), .val (.ref d), .val (.int (Int32.ofNat (q + i))), .val (.int (Int32.ofNat len)), .val (.int (Int32.ofNat i)), .val (.int (cv A (o + i)))] [])) := c4.trans (by
        refine XS.istoreS Xl.here hexec rfl (hb hbytes d13) rfl rfl hz ?_
        exact Steps.refl _)
      have c6 : Steps p.tables e below (s₁.setTop (entryFrame m #[.ref b, .int (Int32.ofNat o), .ref d, .int (Int32.ofNat q), .int (Int32.ofNat len)] 7)) (Tl.setTop (mkF m 31 #[.val (.ref b), .val (.int (Int32.ofNat (o + i))), .val (.ref d), .val (.int (Int32.ofNat (q + i))), .val (.int (Int32.ofNat len)), .val (.int (Int32.ofNat i)), .val (.int (cv A (o + i)))] [.int (lo8 (cv A (o + i))), .int (Int32.ofNat (q + i)), .ref d])) := c5.trans (by
        refine XS.iload Xl.here hexec rfl (hb hbytes d15) rfl ?_
        refine sipushV Xl.here hexec rfl 255 (hb hbytes d17) (by decide) ?_
        refine XS.icmpYes Xl.here hexec rfl (pc0 := 20) rfl (hb hbytes d20) rfl (ii_le_t (hp i (by omega))) (by decide) rfl ?_
        refine XS.aloadN Xl.here hexec rfl (hb hbytes d26) rfl rfl ?_
        refine XS.iloadN Xl.here hexec rfl (hb hbytes d27) rfl ?_
        refine XS.iload Xl.here hexec rfl (hb hbytes d28) rfl ?_
        refine i2b Xl.here hexec rfl (hb hbytes d30) rfl ?_
        exact Steps.refl _)
      obtain ⟨T7, X7, p7, st7⟩ := Xl.aput hexec hBk rfl hlt rfl (fits_lo8 (cv A (o + i))) (g := (mkF m 31 #[.val (.ref b), .val (.int (Int32.ofNat (o + i))), .val (.ref d), .val (.int (Int32.ofNat (q + i))), .val (.int (Int32.ofNat len)), .val (.int (Int32.ofNat i)), .val (.int (cv A (o + i)))] [.int (lo8 (cv A (o + i))), .int (Int32.ofNat (q + i)), .ref d])) rfl (rest := []) rfl (hb hbytes d31)
      have c8 : Steps p.tables e below (s₁.setTop (entryFrame m #[.ref b, .int (Int32.ofNat o), .ref d, .int (Int32.ofNat q), .int (Int32.ofNat len)] 7)) (T7.setTop (mkF m 32 #[.val (.ref b), .val (.int (Int32.ofNat (o + i))), .val (.ref d), .val (.int (Int32.ofNat (q + i))), .val (.int (Int32.ofNat len)), .val (.int (Int32.ofNat i)), .val (.int (cv A (o + i)))] [])) := c6.trans (st7 _ (Steps.refl _))
      have c9 : Steps p.tables e below (s₁.setTop (entryFrame m #[.ref b, .int (Int32.ofNat o), .ref d, .int (Int32.ofNat q), .int (Int32.ofNat len)] 7)) (T7.setTop (mkF m 3 #[.val (.ref b), .val (.int (Int32.ofNat (o + i) + 1)), .val (.ref d), .val (.int (Int32.ofNat (q + i) + 1)), .val (.int (Int32.ofNat len)), .val (.int (Int32.ofNat i + 1)), .val (.int (cv A (o + i)))] [])) := c8.trans (by
        refine iincV X7.here hexec rfl 1 (hb hbytes d32) (by decide) rfl rfl ?_
        refine iincV X7.here hexec rfl 1 (hb hbytes d35) (by decide) rfl rfl ?_
        refine iincV X7.here hexec rfl 1 (hb hbytes d38) (by decide) rfl rfl ?_
        refine XS.goto X7.here hexec rfl (pc0 := 41) rfl (hb hbytes d41) (by decide) rfl ?_
        exact Steps.refl _)
      have c10 : Steps p.tables e below (s₁.setTop (entryFrame m #[.ref b, .int (Int32.ofNat o), .ref d, .int (Int32.ofNat q), .int (Int32.ofNat len)] 7)) (T7.setTop (mkF m 3 #[.val (.ref b), .val (.int (Int32.ofNat (o + (i + 1)))), .val (.ref d), .val (.int (Int32.ofNat (q + (i + 1)))), .val (.int (Int32.ofNat len)), .val (.int (Int32.ofNat (i + 1))), .val (.int (cv A (o + i)))] [])) := by
        have := c9
        rw [succ32, succ32, succ32] at this
        exact this
      exact ih (i + 1) (by omega) _ (Or.inr ⟨_, rfl, rfl⟩) T7 _ (by rw [copyLocs_step, ← List.append_assoc]; exact X7) (pl.trans p7) (fl.step (by omega) hlt (by simp)) c10
  obtain ⟨T9, B9, z9, X9, p9, f9, g9⟩ := loop len 0 (by omega) .unset (Or.inl rfl) s₁ B (by simpa [copyLocs] using X0) ⟨hB0.1, fun _ _ => rfl, rfl⟩ (Laid.zero _ _ _) c2
  have c11 : Steps p.tables e below (s₁.setTop (entryFrame m #[.ref b, .int (Int32.ofNat o), .ref d, .int (Int32.ofNat q), .int (Int32.ofNat len)] 7)) (T9.setTop (mkF m 46 #[.val (.ref b), .val (.int (Int32.ofNat (o + len))), .val (.ref d), .val (.int (Int32.ofNat (q + len))), .val (.int (Int32.ofNat len)), .val (.int (Int32.ofNat len)), z9] [.int (Int32.ofNat len)])) := g9.trans (by
    refine XS.iload X9.here hexec rfl (hb hbytes d3) rfl ?_
    refine XS.iload X9.here hexec rfl (hb hbytes d5) rfl ?_
    refine XS.icmpYes X9.here hexec rfl (pc0 := 7) rfl (hb hbytes d7) rfl (ii_ge_t (nlt32 (by omega) (Nat.le_refl _))) (by decide) rfl ?_
    refine XS.iload X9.here hexec rfl (hb hbytes d44) rfl ?_
    exact Steps.refl _)
  exact ⟨T9, some (.int (Int32.ofNat len)), _, _, _, X9, by simp, rfl, rfl, (fun h => by cases h), ⟨rfl, B9, p9.from hh0, f9⟩, fun fs hl => c11.trans (X9.ireturnOut hexec hret rfl (Or.inl rfl) (hb hbytes d46) hl)⟩
end Cmp5
namespace Cmp3
def yN : MethodName := ⟨"java/lang/StringUTF16", "compress", "([CII)[B"⟩
abbrev yB : ByteArray := jdk_52_method_16_code
theorem d0 : decode yB 0 = .ok (.iload_n 2, 1) := by decide +kernel
theorem d1 : decode yB 1 = .ok (.newarray .byte, 2) := by decide +kernel
theorem d3 : decode yB 3 = .ok (.astore_n 3, 1) := by decide +kernel
theorem d4 : decode yB 4 = .ok (.aload_n 0, 1) := by decide +kernel
theorem d5 : decode yB 5 = .ok (.iload_n 1, 1) := by decide +kernel
theorem d6 : decode yB 6 = .ok (.aload_n 3, 1) := by decide +kernel
theorem d7 : decode yB 7 = .ok (.iconst 0, 1) := by decide +kernel
theorem d8 : decode yB 8 = .ok (.iload_n 2, 1) := by decide +kernel
theorem d9 : decode yB 9 = .ok (.invokestatic 115, 3) := by decide +kernel
theorem d12 : decode yB 12 = .ok (.istore 4, 2) := by decide +kernel
theorem d14 : decode yB 14 = .ok (.iload 4, 2) := by decide +kernel
theorem d16 : decode yB 16 = .ok (.iload_n 2, 1) := by decide +kernel
theorem d17 : decode yB 17 = .ok (.if_icmp (.eq) 40, 3) := by decide +kernel
theorem d57 : decode yB 57 = .ok (.aload_n 3, 1) := by decide +kernel
theorem d58 : decode yB 58 = .ok (.areturn, 1) := by decide +kernel
def site : List Cond := [.arrayClass .byte, Cmp5.tab] ++ staticW U16 115 Cmp5.yN
def tab : Cond := tabOf yN yB 6 (some (.array .byte)) site
def P (b : Addr) (A : Cell) (o len : Nat) (args : Array Value) (s : State) : Prop := args = #[.ref b, .int (Int32.ofNat o), .int (Int32.ofNat len)] ∧ Ch b A s ∧ o + len ≤ A.slots.size ∧ len ≤ 536870912 ∧ ∀ i, i < len → ¬ 255 < cv A (o + i)
def E (b : Addr) (A : Cell) (o len : Nat) (r : Option Value) (s u : State) : Prop := NewArr .byte "[B" len (fun j => .int (lo8 (cv A (o + j)))) r s u ∧ u.heap.size = s.heap.size + 1
/-- no char of the range above 255: a new byte[] of their low bytes -/
theorem law (l : Launch) (b : Addr) (A : Cell) (o len : Nat) : Law l yN 3 3 1 18 yB 6 (some (.array .byte)) site (P b A o len) (E b A o len) [] 1 len := by
  refine Law.of_walk (plainFor_of_name (by decide +kernel)) (by decide +kernel) (by decide +kernel) (by decide) (fun _ _ h => by rw [h.1]; rfl) (fun _ U U' hal hh h => ⟨h.1, h.2.1.mv hal hh, h.2.2⟩) (fun r U U' V V' h1 hal h2 h => ⟨NewArr.mv r U U' V V' h1 hal h2 h.1, by rw [h1, h2]; exact h.2⟩) ?_
  intro p e s m args below meth c s₁ X0 hexec hbytes hml hret hlk hnm hown hh0 W hP
  obtain ⟨rfl, hA, l1, l2, hp⟩ := hP
  have a31 := hA.1.2.2.2
  have c1 : Steps p.tables e below (s₁.setTop (entryFrame m #[.ref b, .int (Int32.ofNat o), .int (Int32.ofNat len)] 6)) (s₁.setTop (mkF m 0 #[.val (.ref b), .val (.int (Int32.ofNat o)), .val (.int (Int32.ofNat len)), .unset, .unset, .unset] [])) := entry rfl
  have c2 : Steps p.tables e below (s₁.setTop (entryFrame m #[.ref b, .int (Int32.ofNat o), .int (Int32.ofNat len)] 6)) (s₁.setTop (mkF m 1 #[.val (.ref b), .val (.int (Int32.ofNat o)), .val (.int (Int32.ofNat len)), .unset, .unset, .unset] [.int (Int32.ofNat len)])) := c1.trans (by
    refine XS.iloadN X0.here hexec rfl (hb hbytes d0) rfl ?_
    exact Steps.refl _)
  obtain ⟨T3, B3, X3, ba3, bs3, bv3, bh3, bf3, st3⟩ := X0.anew hexec (atype := .byte) (wk W (.arrayClass .byte)) rfl (by show len * 1 ≤ _; omega) (by omega) (g := (mkF m 1 #[.val (.ref b), .val (.int (Int32.ofNat o)), .val (.int (Int32.ofNat len)), .unset, .unset, .unset] [.int (Int32.ofNat len)])) rfl (hb hbytes d1) (rest := []) rfl (Nat.le_refl _) (by show 0 + len ≤ len; omega)
  rw [hh0] at ba3 st3
  have kp3 : XT.Kept s T3 := (XT.Kept.of_eq hh0).push bh3
  have hA3 := hA.keep X3.warmed.alike (kp3 _ _ hA.1.1)
  have hne : b ≠ s.heap.size := hA.1.ne
  have c4 : Steps p.tables e below (s₁.setTop (entryFrame m #[.ref b, .int (Int32.ofNat o), .int (Int32.ofNat len)] 6)) (T3.setTop (mkF m 3 #[.val (.ref b), .val (.int (Int32.ofNat o)), .val (.int (Int32.ofNat len)), .unset, .unset, .unset] [.ref s.heap.size])) := c2.trans (st3 _ (Steps.refl _))
  have c5 : Steps p.tables e below (s₁.setTop (entryFrame m #[.ref b, .int (Int32.ofNat o), .int (Int32.ofNat len)] 6)) (T3.setTop (mkF m 9 #[.val (.ref b), .val (.int (Int32.ofNat o)), .val (.int (Int32.ofNat len)), .val (.ref s.heap.size), .unset, .unset] [.int (Int32.ofNat len), .int 0, .ref s.heap.size, .int (Int32.ofNat o), .ref b])) := c4.trans (by
    refine XS.astoreN X3.here hexec rfl (hb hbytes d3) rfl rfl rfl ?_
    refine XS.aloadN X3.here hexec rfl (hb hbytes d4) rfl rfl ?_
    refine XS.iloadN X3.here hexec rfl (hb hbytes d5) rfl ?_
    refine XS.aloadN X3.here hexec rfl (hb hbytes d6) rfl rfl ?_
    refine iconstV X3.here hexec rfl 0 (hb hbytes d7) (by decide) ?_
    refine XS.iloadN X3.here hexec rfl (hb hbytes d8) rfl ?_
    exact Steps.refl _)
  obtain ⟨v6, T6, X6, E6, g6⟩ := X3.callS hexec (Cmp5.law l b A s.heap.size B3 o 0 len) hown (wks W (staticW U16 115 Cmp5.yN)) (wk W Cmp5.tab) (W := 0) (Nat.le_of_ble_eq_true rfl) (Nat.le_of_ble_eq_true rfl) (Nat.le_refl _) (by show 0 + len + 0 ≤ len; omega) (g := (mkF m 9 #[.val (.ref b), .val (.int (Int32.ofNat o)), .val (.int (Int32.ofNat len)), .val (.ref s.heap.size), .unset, .unset] [.int (Int32.ofNat len), .int (Int32.ofNat 0), .ref s.heap.size, .int (Int32.ofNat o), .ref b])) rfl (by rw [hml]; rfl) c5 (argsL := [.ref b, .int (Int32.ofNat o), .ref s.heap.size, .int (Int32.ofNat 0), .int (Int32.ofNat len)]) (rest := []) rfl rfl (by show 2 * 0 + 0 ≤ _; decide) (hb hbytes d9) (⟨rfl, hA3, ba3, hne, l1, by rw [bs3]; simp, hp⟩)
  obtain ⟨rfl, B6, p6, f6⟩ := E6
  have c7 : Steps p.tables e below (s₁.setTop (entryFrame m #[.ref b, .int (Int32.ofNat o), .int (Int32.ofNat len)] 6)) (T6.setTop (mkF m 12 #[.val (.ref b), .val (.int (Int32.ofNat o)), .val (.int (Int32.ofNat len)), .val (.ref s.heap.size), .unset, .unset] [.int (Int32.ofNat len)])) := g6
  have c8 : Steps p.tables e below (s₁.setTop (entryFrame m #[.ref b, .int (Int32.ofNat o), .int (Int32.ofNat len)] 6)) (T6.setTop (mkF m 58 #[.val (.ref b), .val (.int (Int32.ofNat o)), .val (.int (Int32.ofNat len)), .val (.ref s.heap.size), .val (.int (Int32.ofNat len)), .unset] [.ref s.heap.size])) := c7.trans (by
    refine XS.istore X6.here hexec rfl (hb hbytes d12) rfl rfl ?_
    refine XS.iload X6.here hexec rfl (hb hbytes d14) rfl ?_
    refine XS.iloadN X6.here hexec rfl (hb hbytes d16) rfl ?_
    refine XS.icmpYes X6.here hexec rfl (pc0 := 17) rfl (hb hbytes d17) rfl (ii_eq_t rfl) (by decide) rfl ?_
    refine XS.aloadN X6.here hexec rfl (hb hbytes d57) rfl rfl ?_
    exact Steps.refl _)
  have X8 := X6.wide (L' := []) (cells' := 1) (slots' := len) (fun x hx hlt => by
    simp only [List.nil_append, copyLocs, List.mem_map, List.mem_range] at hx
    obtain ⟨i, -, rfl⟩ := hx
    exact absurd hlt (Nat.lt_irrefl _)) (Nat.le_refl _) (by omega)
  exact ⟨T6, some (.ref s.heap.size), _, _, _, X8, rfl, rfl, rfl, (fun h => by cases h), ⟨⟨rfl, B6, ba3.like (X3.warmed.alike.symm.trans X6.warmed.alike) p6.1 f6.1 f6.2.1 f6.2.2.1, f6.2.1.trans bv3, by rw [X6.warmed.alike.findClass, f6.1]; exact bf3, by rw [f6.2.2.1, bs3]; simp, fun j hj => by rw [f6.2.2.2 j, if_pos (by omega)]; rfl, kp3.put p6 (Nat.le_refl _)⟩, by rw [p6.2.2, bh3, hh0]; simp⟩, fun fs hl => c8.trans (X8.areturnOut hexec rfl hret rfl (hb hbytes d58) hl)⟩
end Cmp3
namespace CodL
def yN : MethodName := ⟨"java/lang/StringUTF16", "coderFromArrayLen", "([BI)B"⟩
abbrev yB : ByteArray := jdk_52_method_15_code
theorem d0 : decode yB 0 = .ok (.iload_n 1, 1) := by decide +kernel
theorem d1 : decode yB 1 = .ok (.aload_n 0, 1) := by decide +kernel
theorem d2 : decode yB 2 = .ok (.arraylength, 1) := by decide +kernel
theorem d3 : decode yB 3 = .ok (.isub, 1) := by decide +kernel
theorem d4 : decode yB 4 = .ok (.bipush 31, 2) := by decide +kernel
theorem d6 : decode yB 6 = .ok (.iushr, 1) := by decide +kernel
theorem d7 : decode yB 7 = .ok (.i2b, 1) := by decide +kernel
theorem d8 : decode yB 8 = .ok (.ireturn, 1) := by decide +kernel
def site : List Cond := []
def tab : Cond := tabOf yN yB 2 (some .byte) site
def P (d : Addr) (B : Cell) (args : Array Value) (s : State) : Prop := args = #[.ref d, .int (Int32.ofNat B.slots.size)] ∧ Arr .byte d B s
def E (r : Option Value) (s u : State) : Prop := XT.PureE (some (.int 0)) r s u
/-- an array as long as the number of chars: LATIN1 -/
theorem law (l : Launch) (d : Addr) (B : Cell) : Law l yN 2 2 0 0 yB 2 (some .byte) site (P d B) E [] 0 0 := by
  refine Law.of_walk (plainFor_of_name (by decide +kernel)) (by decide +kernel) (by decide +kernel) (by decide) (fun _ _ h => by rw [h.1]; rfl) (fun _ U U' hal hh h => ⟨h.1, h.2.mv hal hh⟩) (fun r U U' V V' h1 hal h2 h => XT.PureE.mv r U U' V V' h1 hal h2 h) ?_
  intro p e s m args below meth c s₁ X0 hexec hbytes hml hret hlk hnm hown hh0 W hP
  obtain ⟨rfl, hB⟩ := hP
  have hB0 := hB.mv X0.warmed.alike hh0
  have c1 : Steps p.tables e below (s₁.setTop (entryFrame m #[.ref d, .int (Int32.ofNat B.slots.size)] 2)) (s₁.setTop (mkF m 0 #[.val (.ref d), .val (.int (Int32.ofNat B.slots.size))] [])) := entry rfl
  have c2 : Steps p.tables e below (s₁.setTop (entryFrame m #[.ref d, .int (Int32.ofNat B.slots.size)] 2)) (s₁.setTop (mkF m 2 #[.val (.ref d), .val (.int (Int32.ofNat B.slots.size))] [.ref d, .int (Int32.ofNat B.slots.size)])) := c1.trans (by
    refine XS.iloadN X0.here hexec rfl (hb hbytes d0) rfl ?_
    refine XS.aloadN X0.here hexec rfl (hb hbytes d1) rfl rfl ?_
    exact Steps.refl _)
  have c3 : Steps p.tables e below (s₁.setTop (entryFrame m #[.ref d, .int (Int32.ofNat B.slots.size)] 2)) (s₁.setTop (mkF m 8 #[.val (.ref d), .val (.int (Int32.ofNat B.slots.size))] [.int (lo8 (ushr (Int32.ofNat B.slots.size - Int32.ofNat B.slots.size) 31))])) := c2.trans (by
    refine X0.alen hexec hB0 rfl rfl (hb hbytes d2) ?_
    refine XS.isub X0.here hexec rfl (hb hbytes d3) rfl ?_
    refine bipushV X0.here hexec rfl 31 (hb hbytes d4) (by decide) ?_
    refine iushr X0.here hexec rfl (hb hbytes d6) rfl ?_
    refine i2b X0.here hexec rfl (hb hbytes d7) rfl ?_
    exact Steps.refl _)
  have e0 : lo8 (ushr (Int32.ofNat B.slots.size - Int32.ofNat B.slots.size) 31) = 0 := by rw [Int32.sub_self]; decide
  rw [e0] at c3
  exact ⟨s₁, some (.int 0), _, _, _, X0, rfl, rfl, rfl, (fun h => by cases h), ⟨rfl, hh0⟩, fun fs hl => c3.trans (X0.ireturnOut hexec hret rfl (Or.inr (Or.inr (Or.inl rfl))) (hb hbytes d8) hl)⟩
end CodL
/-- the String at a is Latin-1 over a new byte[] (the heap's one new cell): the low bytes of the len chars of A from o on; every cell but a is kept -/
def Got (a : Addr) (D : Cell) (fV fC : Field) (A : Cell) (o len : Nat) (r : Option Value) (s u : State) : Prop := r = none ∧ ∃ D' V : Cell, Blank "java/lang/String" a D' u ∧ Same D D' [fV.slot, fC.slot] ∧ D'.slots[fV.slot]? = some (.ref s.heap.size) ∧ D'.slots[fC.slot]? = some (.int 0) ∧ Arr .byte s.heap.size V u ∧ V.vm = .none ∧ u.vm.findClass "[B" = some V.cls ∧ V.slots.size = len ∧ (∀ j, j < len → V.slots[j]? = some (.int (lo8 (cv A (o + j))))) ∧ (∀ (y : Addr) (c : Cell), y ≠ a → s.heap[y]? = some c → u.heap[y]? = some c) ∧ u.heap.size = s.heap.size + 1
theorem Got.mv {a : Addr} {D A : Cell} {fV fC : Field} {o len : Nat} : ∀ r (U U' V V' : State), U'.heap = U.heap → V.vm.Alike V'.vm → V'.heap = V.heap → Got a D fV fC A o len r U V → Got a D fV fC A o len r U' V' :=
  fun r U U' V V' h1 hal h2 ⟨e0, D', X, a1, a2, a3, a4, a5, a6, a7, a8, a9, a10, a11⟩ => ⟨e0, D', X, a1.mv hal h2, a2, by rw [h1]; exact a3, a4, by rw [h1]; exact a5.mv hal h2, a6, by rw [hal.findClass]; exact a7, a8, a9, by rw [h1, h2]; exact a10, by rw [h1, h2]; exact a11⟩
namespace New4
def yN : MethodName := ⟨"java/lang/String", "<init>", "([CIILjava/lang/Void;)V"⟩
abbrev yB : ByteArray := jdk_42_method_149_code
theorem d0 : decode yB 0 = .ok (.aload_n 0, 1) := by decide +kernel
theorem d1 : decode yB 1 = .ok (.invokespecial 1, 3) := by decide +kernel
theorem d4 : decode yB 4 = .ok (.iload_n 3, 1) := by decide +kernel
theorem d5 : decode yB 5 = .ok (.ifCond (.ne) 22, 3) := by decide +kernel
theorem d27 : decode yB 27 = .ok (.getstatic 38, 3) := by decide +kernel
theorem d30 : decode yB 30 = .ok (.ifCond (.eq) 28, 3) := by decide +kernel
theorem d33 : decode yB 33 = .ok (.aload_n 1, 1) := by decide +kernel
theorem d34 : decode yB 34 = .ok (.iload_n 2, 1) := by decide +kernel
theorem d35 : decode yB 35 = .ok (.iload_n 3, 1) := by decide +kernel
theorem d36 : decode yB 36 = .ok (.invokestatic 177, 3) := by decide +kernel
theorem d39 : decode yB 39 = .ok (.astore 5, 2) := by decide +kernel
theorem d41 : decode yB 41 = .ok (.aload_n 0, 1) := by decide +kernel
theorem d42 : decode yB 42 = .ok (.aload 5, 2) := by decide +kernel
theorem d44 : decode yB 44 = .ok (.iload_n 3, 1) := by decide +kernel
theorem d45 : decode yB 45 = .ok (.invokestatic 47, 3) := by decide +kernel
theorem d48 : decode yB 48 = .ok (.putfield 15, 3) := by decide +kernel
theorem d51 : decode yB 51 = .ok (.aload_n 0, 1) := by decide +kernel
theorem d52 : decode yB 52 = .ok (.aload 5, 2) := by decide +kernel
theorem d54 : decode yB 54 = .ok (.putfield 9, 3) := by decide +kernel
theorem d57 : decode yB 57 = .ok (.return_, 1) := by decide +kernel
def site : List Cond := [.fieldLink "java/lang/String" 38 "java/lang/String" "COMPACT_STRINGS" "Z", Cmp3.tab, CodL.tab, .laysFinal "java/lang/String" "java/lang/String" "value" "[B", .fieldLink "java/lang/String" 9 "java/lang/String" "value" "[B", .laysFinal "java/lang/String" "java/lang/String" "coder" "B", .fieldLink "java/lang/String" 15 "java/lang/String" "coder" "B"] ++ objW "java/lang/String" 1 ++ staticW "java/lang/String" 177 Cmp3.yN ++ staticW "java/lang/String" 47 CodL.yN
def tab : Cond := tabOf yN yB 6 none site
def P (a : Addr) (D : Cell) (fV fC : Field) (b : Addr) (A : Cell) (z : Int32) (o len : Nat) (args : Array Value) (s : State) : Prop := args = #[.ref a, .ref b, .int (Int32.ofNat o), .int (Int32.ofNat len), .null] ∧ Blank "java/lang/String" a D s ∧ Found "java/lang/String" "value" "[B" fV s ∧ Found "java/lang/String" "coder" "B" fC s ∧ Ch b A s ∧ StaticIs s "java/lang/String" "COMPACT_STRINGS" "Z" (.int z) ∧ ¬ z = 0 ∧ 0 < len ∧ o + len ≤ A.slots.size ∧ len ≤ 536870912 ∧ ∀ i, i < len → ¬ 255 < cv A (o + i)
def E (a : Addr) (D : Cell) (fV fC : Field) (A : Cell) (o len : Nat) (r : Option Value) (s u : State) : Prop := Got a D fV fC A o len r s u
/-- len > 0, no char of the range above 255: a Latin-1 String of their low bytes -/
theorem law (l : Launch) (a : Addr) (D : Cell) (fV fC : Field) (b : Addr) (A : Cell) (z : Int32) (o len : Nat) : Law l yN 5 4 2 35 yB 6 none site (P a D fV fC b A z o len) (E a D fV fC A o len) [⟨a, fC.slot⟩, ⟨a, fV.slot⟩] 1 len := by
  refine Law.of_walk (plainFor_of_name (by decide +kernel)) (by decide +kernel) (by decide +kernel) (by decide) (fun _ _ h => by rw [h.1]; rfl) (fun _ U U' hal hh h => ⟨h.1, h.2.1.mv hal hh, h.2.2.1.al hal, h.2.2.2.1.al hal, h.2.2.2.2.1.mv hal hh, h.2.2.2.2.2.1.there hal hh, h.2.2.2.2.2.2⟩) (fun r U U' V V' h1 hal h2 h => Got.mv r U U' V V' h1 hal h2 h) ?_
  intro p e s m args below meth c s₁ X0 hexec hbytes hml hret hlk hnm hown hh0 W hP
  obtain ⟨rfl, hB, f1, f2, hA, s1, hz, l0, l1, l2, hp⟩ := hP
  have a31 := hA.1.2.2.2
  have c1 : Steps p.tables e below (s₁.setTop (entryFrame m #[.ref a, .ref b, .int (Int32.ofNat o), .int (Int32.ofNat len), .null] 6)) (s₁.setTop (mkF m 0 #[.val (.ref a), .val (.ref b), .val (.int (Int32.ofNat o)), .val (.int (Int32.ofNat len)), .val .null, .unset] [])) := entry rfl
  have c2 : Steps p.tables e below (s₁.setTop (entryFrame m #[.ref a, .ref b, .int (Int32.ofNat o), .int (Int32.ofNat len), .null] 6)) (s₁.setTop (mkF m 1 #[.val (.ref a), .val (.ref b), .val (.int (Int32.ofNat o)), .val (.int (Int32.ofNat len)), .val .null, .unset] [.ref a])) := c1.trans (by
    refine XS.aloadN X0.here hexec rfl (hb hbytes d0) rfl rfl ?_
    exact Steps.refl _)
  obtain ⟨T3, X3, q3, st3⟩ := X0.oinit hexec hown (wks W (objW "java/lang/String" 1)) (g := (mkF m 1 #[.val (.ref a), .val (.ref b), .val (.int (Int32.ofNat o)), .val (.int (Int32.ofNat len)), .val .null, .unset] [.ref a])) rfl (by rw [hml]; rfl) (rest := []) rfl (hb hbytes d1) (W := 0) (by show 2 * 0 + 0 ≤ _; decide) (Nat.le_of_ble_eq_true rfl) (Nat.le_of_ble_eq_true rfl)
  have hh3 := q3.trans hh0
  have c4 : Steps p.tables e below (s₁.setTop (entryFrame m #[.ref a, .ref b, .int (Int32.ofNat o), .int (Int32.ofNat len), .null] 6)) (T3.setTop (mkF m 27 #[.val (.ref a), .val (.ref b), .val (.int (Int32.ofNat o)), .val (.int (Int32.ofNat len)), .val .null, .unset] [])) := (c2.trans (st3 _ (Steps.refl _))).trans (by
    refine XS.iloadN X3.here hexec rfl (hb hbytes d4) rfl ?_
    refine XS.ifYes X3.here hexec rfl (pc0 := 5) rfl (hb hbytes d5) rfl (i0_ne_t (nz32 (by omega) l0)) (by decide) rfl ?_
    exact Steps.refl _)
  obtain ⟨T5, X5, q5, st5⟩ := X3.sget hexec hown (wk W (.fieldLink "java/lang/String" 38 "java/lang/String" "COMPACT_STRINGS" "Z")) s1 (fun _ _ h => by rw [hh3]; exact h) (g := (mkF m 27 #[.val (.ref a), .val (.ref b), .val (.int (Int32.ofNat o)), .val (.int (Int32.ofNat len)), .val .null, .unset] [])) rfl (hb hbytes d27)
  have hh5 := q5.trans hh3
  have c6 : Steps p.tables e below (s₁.setTop (entryFrame m #[.ref a, .ref b, .int (Int32.ofNat o), .int (Int32.ofNat len), .null] 6)) (T5.setTop (mkF m 30 #[.val (.ref a), .val (.ref b), .val (.int (Int32.ofNat o)), .val (.int (Int32.ofNat len)), .val .null, .unset] [.int z])) := c4.trans (st5 _ (Steps.refl _))
  have c7 : Steps p.tables e below (s₁.setTop (entryFrame m #[.ref a, .ref b, .int (Int32.ofNat o), .int (Int32.ofNat len), .null] 6)) (T5.setTop (mkF m 36 #[.val (.ref a), .val (.ref b), .val (.int (Int32.ofNat o)), .val (.int (Int32.ofNat len)), .val .null, .unset] [.int (Int32.ofNat len), .int (Int32.ofNat o), .ref b])) := c6.trans (by
    refine XS.ifNo X5.here hexec rfl (hb hbytes d30) rfl (i0_eq_f hz) ?_
    refine XS.aloadN X5.here hexec rfl (hb hbytes d33) rfl rfl ?_
    refine XS.iloadN X5.here hexec rfl (hb hbytes d34) rfl ?_
    refine XS.iloadN X5.here hexec rfl (hb hbytes d35) rfl ?_
    exact Steps.refl _)
  obtain ⟨v8, T8, X8, E8, g8⟩ := X5.callS hexec (Cmp3.law l b A o len) hown (wks W (staticW "java/lang/String" 177 Cmp3.yN)) (wk W Cmp3.tab) (W := 0) (Nat.le_of_ble_eq_true rfl) (Nat.le_of_ble_eq_true rfl) (Nat.le_refl _) (by show 0 + len ≤ len; omega) (g := (mkF m 36 #[.val (.ref a), .val (.ref b), .val (.int (Int32.ofNat o)), .val (.int (Int32.ofNat len)), .val .null, .unset] [.int (Int32.ofNat len), .int (Int32.ofNat o), .ref b])) rfl (by rw [hml]; rfl) c7 (argsL := [.ref b, .int (Int32.ofNat o), .int (Int32.ofNat len)]) (rest := []) rfl rfl (by show 2 * 0 + 0 ≤ _; decide) (hb hbytes d36) (⟨rfl, hA.mv X5.warmed.alike hh5, l1, l2, hp⟩)
  obtain ⟨e8, z8⟩ := E8
  obtain ⟨rfl, N, n1, n2, n3, n4, n5, n6⟩ := NewArr.mv _ T5 s _ _ hh5.symm (Vm.Alike.refl _) rfl e8
  rw [hh5] at z8
  have hB1 := hB.keep X8.warmed.alike (n6 _ _ hB.1)
  have hne : s.heap.size ≠ a := (Nat.ne_of_lt (Array.getElem?_eq_some_iff.mp hB.1).1).symm
  have c9 : Steps p.tables e below (s₁.setTop (entryFrame m #[.ref a, .ref b, .int (Int32.ofNat o), .int (Int32.ofNat len), .null] 6)) (T8.setTop (mkF m 39 #[.val (.ref a), .val (.ref b), .val (.int (Int32.ofNat o)), .val (.int (Int32.ofNat len)), .val .null, .unset] [.ref s.heap.size])) := g8
  have c10 : Steps p.tables e below (s₁.setTop (entryFrame m #[.ref a, .ref b, .int (Int32.ofNat o), .int (Int32.ofNat len), .null] 6)) (T8.setTop (mkF m 45 #[.val (.ref a), .val (.ref b), .val (.int (Int32.ofNat o)), .val (.int (Int32.ofNat len)), .val .null, .val (.ref s.heap.size)] [.int (Int32.ofNat N.slots.size), .ref s.heap.size, .ref a])) := by
    have hc : Steps p.tables e below (s₁.setTop (entryFrame m #[.ref a, .ref b, .int (Int32.ofNat o), .int (Int32.ofNat len), .null] 6)) (T8.setTop (mkF m 45 #[.val (.ref a), .val (.ref b), .val (.int (Int32.ofNat o)), .val (.int (Int32.ofNat len)), .val .null, .val (.ref s.heap.size)] [.int (Int32.ofNat len), .ref s.heap.size, .ref a])) := c9.trans (by
      refine XS.astore X8.here hexec rfl (hb hbytes d39) rfl rfl rfl ?_
      refine XS.aloadN X8.here hexec rfl (hb hbytes d41) rfl rfl ?_
      refine XS.aload X8.here hexec rfl (hb hbytes d42) rfl rfl ?_
      refine XS.iloadN X8.here hexec rfl (hb hbytes d44) rfl ?_
      exact Steps.refl _)
    rw [n4]; exact hc
  obtain ⟨v11, T11, X11, E11, g11⟩ := X8.callS hexec (CodL.law l s.heap.size N) hown (wks W (staticW "java/lang/String" 47 CodL.yN)) (wk W CodL.tab) (W := 1) (Nat.le_of_ble_eq_true rfl) (Nat.le_of_ble_eq_true rfl) (Nat.le_refl _) (by show 0 + len + 0 ≤ len; omega) (g := (mkF m 45 #[.val (.ref a), .val (.ref b), .val (.int (Int32.ofNat o)), .val (.int (Int32.ofNat len)), .val .null, .val (.ref s.heap.size)] [.int (Int32.ofNat N.slots.size), .ref s.heap.size, .ref a])) rfl (by rw [hml]; rfl) c10 (argsL := [.ref s.heap.size, .int (Int32.ofNat N.slots.size)]) (rest := [.ref a]) rfl rfl (by show 2 * 0 + (1 + 0) ≤ _; decide) (hb hbytes d45) (⟨rfl, n1⟩)
  obtain ⟨rfl, q11⟩ := E11
  have hB11 := hB1.mv (X8.warmed.alike.symm.trans X11.warmed.alike) q11
  have c12 : Steps p.tables e below (s₁.setTop (entryFrame m #[.ref a, .ref b, .int (Int32.ofNat o), .int (Int32.ofNat len), .null] 6)) (T11.setTop (mkF m 48 #[.val (.ref a), .val (.ref b), .val (.int (Int32.ofNat o)), .val (.int (Int32.ofNat len)), .val .null, .val (.ref s.heap.size)] [.int 0, .ref a])) := g11
  obtain ⟨T13, X13, p13, bl13, sl13, st13⟩ := X11.finit hexec hown (wk W (.fieldLink "java/lang/String" 15 "java/lang/String" "coder" "B")) (Or.inr ⟨_, (wk W (.laysFinal "java/lang/String" "java/lang/String" "coder" "B"))⟩) (Or.inl ⟨rfl, hnm⟩) f2 (Or.inl rfl) hB11 (t := .byte) (by decide +kernel) rfl (g := (mkF m 48 #[.val (.ref a), .val (.ref b), .val (.int (Int32.ofNat o)), .val (.int (Int32.ofNat len)), .val .null, .val (.ref s.heap.size)] [.int 0, .ref a])) rfl (rest := []) rfl (hb hbytes d48)
  have c14 : Steps p.tables e below (s₁.setTop (entryFrame m #[.ref a, .ref b, .int (Int32.ofNat o), .int (Int32.ofNat len), .null] 6)) (T13.setTop (mkF m 54 #[.val (.ref a), .val (.ref b), .val (.int (Int32.ofNat o)), .val (.int (Int32.ofNat len)), .val .null, .val (.ref s.heap.size)] [.ref s.heap.size, .ref a])) := (c12.trans (st13 _ (Steps.refl _))).trans (by
    refine XS.aloadN X13.here hexec rfl (hb hbytes d51) rfl rfl ?_
    refine XS.aload X13.here hexec rfl (hb hbytes d52) rfl rfl ?_
    exact Steps.refl _)
  obtain ⟨T15, X15, p15, bl15, sl15, st15⟩ := X13.finit hexec hown (wk W (.fieldLink "java/lang/String" 9 "java/lang/String" "value" "[B")) (Or.inr ⟨_, (wk W (.laysFinal "java/lang/String" "java/lang/String" "value" "[B"))⟩) (Or.inl ⟨rfl, hnm⟩) f1 (Or.inl rfl) bl13 (t := (.array .byte)) (by decide +kernel) rfl (g := (mkF m 54 #[.val (.ref a), .val (.ref b), .val (.int (Int32.ofNat o)), .val (.int (Int32.ofNat len)), .val .null, .val (.ref s.heap.size)] [.ref s.heap.size, .ref a])) rfl (rest := []) rfl (hb hbytes d54)
  have c16 : Steps p.tables e below (s₁.setTop (entryFrame m #[.ref a, .ref b, .int (Int32.ofNat o), .int (Int32.ofNat len), .null] 6)) (T15.setTop (mkF m 57 #[.val (.ref a), .val (.ref b), .val (.int (Int32.ofNat o)), .val (.int (Int32.ofNat len)), .val .null, .val (.ref s.heap.size)] [])) := c14.trans (st15 _ (Steps.refl _))
  have ap := apart (Or.inr ⟨_, (wk W (.laysFinal "java/lang/String" "java/lang/String" "value" "[B"))⟩) (Or.inr ⟨_, (wk W (.laysFinal "java/lang/String" "java/lang/String" "coder" "B"))⟩) f1 f2 (t₁ := .array .byte) (t₂ := .byte) (by decide +kernel) (by decide +kernel) (by decide)
  have al := X8.warmed.alike.symm.trans X15.warmed.alike
  have n7 : T11.heap[s.heap.size]? = some N := by rw [q11]; exact n1.1
  exact ⟨T15, none, _, _, _, X15, by simp, rfl, by omega, (fun _ => rfl), ⟨rfl, _, N, bl15, ((Same.refl D _).set _ (by simp)).set _ (by simp), sl15, (Cell.slots_setSlot_ne _ ap).trans sl13, n1.keep al (p15.other hne (p13.other hne n7)), n2, by rw [al.findClass]; exact n3, n4, n5, fun y c h1 h2 => p15.other h1 (p13.other h1 (by rw [q11]; exact n6 y c h2)), by rw [p15.2.2, p13.2.2, q11]; exact z8⟩, fun fs hl => c16.trans (X15.returnOut hexec hret (hb hbytes d57) hl)⟩
end New4
namespace New1
def yN : MethodName := ⟨"java/lang/String", "<init>", "([C)V"⟩
abbrev yB : ByteArray := jdk_42_method_3_code
theorem d0 : decode yB 0 = .ok (.aload_n 0, 1) := by decide +kernel
theorem d1 : decode yB 1 = .ok (.aload_n 1, 1) := by decide +kernel
theorem d2 : decode yB 2 = .ok (.iconst 0, 1) := by decide +kernel
theorem d3 : decode yB 3 = .ok (.aload_n 1, 1) := by decide +kernel
theorem d4 : decode yB 4 = .ok (.arraylength, 1) := by decide +kernel
theorem d5 : decode yB 5 = .ok (.aconst_null, 1) := by decide +kernel
theorem d6 : decode yB 6 = .ok (.invokespecial 27, 3) := by decide +kernel
theorem d9 : decode yB 9 = .ok (.return_, 1) := by decide +kernel
def site : List Cond := [New4.tab] ++ initW "java/lang/String" 27 New4.yN
def tab : Cond := tabOf yN yB 2 none site
def P (a : Addr) (D : Cell) (fV fC : Field) (b : Addr) (A : Cell) (z : Int32) (args : Array Value) (s : State) : Prop := args = #[.ref a, .ref b] ∧ Blank "java/lang/String" a D s ∧ Found "java/lang/String" "value" "[B" fV s ∧ Found "java/lang/String" "coder" "B" fC s ∧ Ch b A s ∧ StaticIs s "java/lang/String" "COMPACT_STRINGS" "Z" (.int z) ∧ ¬ z = 0 ∧ 0 < A.slots.size ∧ A.slots.size ≤ 536870912 ∧ ∀ i, i < A.slots.size → ¬ 255 < cv A i
def E (a : Addr) (D : Cell) (fV fC : Field) (A : Cell) (r : Option Value) (s u : State) : Prop := Got a D fV fC A 0 A.slots.size r s u
/-- new String(chars), not empty, no char above 255: a Latin-1 String of their low bytes -/
theorem law (l : Launch) (a : Addr) (D : Cell) (fV fC : Field) (b : Addr) (A : Cell) (z : Int32) : Law l yN 2 1 3 52 yB 2 none site (P a D fV fC b A z) (E a D fV fC A) [⟨a, fC.slot⟩, ⟨a, fV.slot⟩] 1 A.slots.size := by
  refine Law.of_walk (plainFor_of_name (by decide +kernel)) (by decide +kernel) (by decide +kernel) (by decide) (fun _ _ h => by rw [h.1]; rfl) (fun _ U U' hal hh h => ⟨h.1, h.2.1.mv hal hh, h.2.2.1.al hal, h.2.2.2.1.al hal, h.2.2.2.2.1.mv hal hh, h.2.2.2.2.2.1.there hal hh, h.2.2.2.2.2.2⟩) (fun r U U' V V' h1 hal h2 h => Got.mv r U U' V V' h1 hal h2 h) ?_
  intro p e s m args below meth c s₁ X0 hexec hbytes hml hret hlk hnm hown hh0 W hP
  obtain ⟨rfl, hB, f1, f2, hA, s1, hz, l0, l2, hp⟩ := hP
  have c1 : Steps p.tables e below (s₁.setTop (entryFrame m #[.ref a, .ref b] 2)) (s₁.setTop (mkF m 0 #[.val (.ref a), .val (.ref b)] [])) := entry rfl
  have c2 : Steps p.tables e below (s₁.setTop (entryFrame m #[.ref a, .ref b] 2)) (s₁.setTop (mkF m 6 #[.val (.ref a), .val (.ref b)] [.null, .int (Int32.ofNat A.slots.size), .int 0, .ref b, .ref a])) := c1.trans (by
    refine XS.aloadN X0.here hexec rfl (hb hbytes d0) rfl rfl ?_
    refine XS.aloadN X0.here hexec rfl (hb hbytes d1) rfl rfl ?_
    refine iconstV X0.here hexec rfl 0 (hb hbytes d2) (by decide) ?_
    refine XS.aloadN X0.here hexec rfl (hb hbytes d3) rfl rfl ?_
    refine X0.alen hexec (hA.1.mv X0.warmed.alike hh0) rfl rfl (hb hbytes d4) ?_
    refine XS.aconstNull X0.here hexec rfl (hb hbytes d5) ?_
    exact Steps.refl _)
  obtain ⟨v3, T3, X3, E3, g3⟩ := X0.callN hexec (New4.law l a D fV fC b A z 0 A.slots.size) rfl hown (wks W (initW "java/lang/String" 27 New4.yN)) (W New4.tab (by simp only [site, List.mem_cons, List.mem_append, true_or, or_true])) (W := 0) (Nat.le_of_ble_eq_true rfl) (Nat.le_of_ble_eq_true rfl) (Nat.le_refl _) (by show 0 + A.slots.size ≤ A.slots.size; omega) (g := (mkF m 6 #[.val (.ref a), .val (.ref b)] [.null, .int (Int32.ofNat A.slots.size), .int (Int32.ofNat 0), .ref b, .ref a])) rfl (by rw [hml]; rfl) c2 (argsL := [.ref b, .int (Int32.ofNat 0), .int (Int32.ofNat A.slots.size), .null]) (rest := []) rfl rfl (by show 2 * 0 + 0 ≤ _; decide) (hb hbytes d6) (⟨rfl, hB.mv X0.warmed.alike hh0, f1.al X0.warmed.alike, f2.al X0.warmed.alike, hA.mv X0.warmed.alike hh0, s1.there X0.warmed.alike hh0, hz, l0, by omega, l2, fun i hi => by rw [Nat.zero_add]; exact hp i hi⟩)
  have e0 := Got.mv _ s₁ s _ _ hh0.symm (Vm.Alike.refl _) rfl E3
  obtain rfl := e0.1
  have c4 : Steps p.tables e below (s₁.setTop (entryFrame m #[.ref a, .ref b] 2)) (T3.setTop (mkF m 9 #[.val (.ref a), .val (.ref b)] [])) := g3
  exact ⟨T3, none, _, _, _, X3, by simp, rfl, by omega, (fun _ => rfl), e0, fun fs hl => c4.trans (X3.returnOut hexec hret (hb hbytes d9) hl)⟩
theorem pays {l : Launch} {R : Room} {p : Program} {e : Env} {below : List Frame} {s : State} {sargs : Array Value} {len W : Nat} (a : Addr) (D : Cell) (fV fC : Field) (b : Addr) (A : Cell) (z : Int32) (htab : tab.before sargs s = true) (hfr : 4 ≤ R.frames) (hlo : W + 65 ≤ R.locals) :
    Back l R p e below s sargs yN len W (fun A₁ a₁ => A₁.cells + 1 ≤ R.cells ∧ A₁.slots + A.slots.size ≤ R.slots ∧ P a D fV fC b A z a₁ A₁.U) (fun A₁ _ v₁ B₁ => E a D fV fC A v₁ A₁.U B₁.U ∧ B₁.locs = A₁.locs ++ [⟨a, fC.slot⟩, ⟨a, fV.slot⟩] ∧ B₁.cells = A₁.cells + 1 ∧ B₁.slots = A₁.slots + A.slots.size) :=
  (law l a D fV fC b A z).pays htab hfr (by omega)
end New1
/-- the byte, read back as charAt reads it, is the char -/
theorem lo8_mask {x : Int32} (h0 : ¬ x < 0) (h1 : ¬ 255 < x) : lo8 x &&& 255 = x := by
  have t : ∀ k : Fin 256, lo8 (Int32.ofNat k.val) &&& 255 = Int32.ofNat k.val := by decide +kernel
  rw [Int32.lt_iff_toInt_lt] at h0 h1
  have e0 : (0 : Int32).toInt = 0 := rfl
  have e1 : (255 : Int32).toInt = 255 := rfl
  obtain ⟨k, hk⟩ : ∃ k : Nat, x.toInt = k := ⟨x.toInt.toNat, by omega⟩
  have hx : x = Int32.ofNat k := Int32.toInt_inj.mp (by rw [hk, Int32.toInt_ofNat_small (by omega)])
  rw [hx]
  exact t ⟨k, by omega⟩
end StrChars
namespace StrChars.Road
open Jvm Sem ClassFile Op Lib Jvm.Stand Jvm.Free Jvm.Free.XT
open Jvm.Lib.Cold (StaticIs)
abbrev ST : String := "java/lang/String"
/-- every table word that New1's law asks, flat -/
abbrev words : List Jvm.Cond := [.code New1.yN New1.yB 2 none, .initialized ST, .methodLink ST 27 New4.yN, .instanceMethod New4.yN,
  .code New4.yN New4.yB 6 none, .fieldLink ST 38 ST "COMPACT_STRINGS" "Z", .laysFinal ST ST "value" "[B", .fieldLink ST 9 ST "value" "[B", .laysFinal ST ST "coder" "B", .fieldLink ST 15 ST "coder" "B",
  .methodLink ST 1 Lib.objectInit, .instanceMethod Lib.objectInit, .code Lib.objectInit ⟨#[0xb1]⟩ 1 none, .methodLink ST 177 Cmp3.yN, .static Cmp3.yN, .methodLink ST 47 CodL.yN, .static CodL.yN,
  .code Cmp3.yN Cmp3.yB 6 (some (.array .byte)), .initialized U16, .arrayClass .byte, .methodLink U16 115 Cmp5.yN, .static Cmp5.yN, .code Cmp5.yN Cmp5.yB 7 (some .int), .code CodL.yN CodL.yB 2 (some .byte)]
theorem tab_of {a : Array Value} {s : State} (h : ∀ w ∈ words, w.before a s = true) : New1.tab.before a s = true := by
  have h5 : Cmp5.tab.before a s = true := unparts (wk h (.code Cmp5.yN Cmp5.yB 7 (some .int))) (wks h (.initialized Cmp5.yN.cls :: Cmp5.site))
  have hc : CodL.tab.before a s = true := unparts (wk h (.code CodL.yN CodL.yB 2 (some .byte))) (wks h (.initialized CodL.yN.cls :: CodL.site))
  have q5 : ∀ w ∈ Cmp5.tab :: words, w.before a s = true := fun w hw => (List.mem_cons.mp hw).elim (fun e => e ▸ h5) (h w)
  have h3 : Cmp3.tab.before a s = true := unparts (wk q5 (.code Cmp3.yN Cmp3.yB 6 (some (.array .byte)))) (wks q5 (.initialized Cmp3.yN.cls :: Cmp3.site))
  have q3 : ∀ w ∈ Cmp3.tab :: CodL.tab :: words, w.before a s = true := fun w hw => (List.mem_cons.mp hw).elim (fun e => e ▸ h3) fun hw => (List.mem_cons.mp hw).elim (fun e => e ▸ hc) (h w)
  have h4 : New4.tab.before a s = true := unparts (wk q3 (.code New4.yN New4.yB 6 none)) (wks q3 (.initialized New4.yN.cls :: New4.site))
  have q4 : ∀ w ∈ New4.tab :: words, w.before a s = true := fun w hw => (List.mem_cons.mp hw).elim (fun e => e ▸ h4) (h w)
  exact unparts (wk q4 (.code New1.yN New1.yB 2 none)) (wks q4 (.initialized New1.yN.cls :: New1.site))
/-- the words ride from the start Z to the walk's own state -/
theorem moved {Z s : State} {a0 args : Array Value} (hZ : Z.Warmed39 s.vm) (hw : ∀ d ∈ words, d.before a0 Z = true) : ∀ d ∈ words, d.before args s = true := fun d hd => by
  have q := hw d hd
  have t : ∀ d ∈ words, d = .arrayClass .byte ∨ (d.onTables && d.keepsFace) = true := by decide +kernel
  rcases t d hd with rfl | t
  · exact RoadKit.mvA hZ q
  · exact RoadKit.mv hZ q t
/-- WHAT COMES BACK, over the tables of the start Z: h the heap at the call, h' behind it -/
def Q (Z : State) (x : Addr) (A : Cell) (h : Heap) (v : Option Value) (h' : Heap) (L : List Loc) : Prop := v = none ∧ (∀ y ∈ L, y.base = x) ∧ RoadKit.Keep h h' [x] ∧ h'.size = h.size + 1 ∧ RoadKit.Exa Z h' x ST ∧ RoadKit.Fld Z h' x ST "value" "[B" (.ref h.size) ∧ RoadKit.Fld Z h' x ST "coder" "B" (.int 0) ∧
  (∃ V : Cell, RoadKit.Arr Z h' h.size V .byte ∧ V.vm = .none ∧ Z.vm.findClass "[B" = some V.cls ∧ V.slots.size = A.slots.size ∧ ∀ j, j < A.slots.size → V.slots[j]? = some (.int (lo8 (cv A j)))) ∧
  ∀ (O n d : String) (w : Value), RoadKit.Fld Z h x O n d w → RoadKit.slotOf Z O n d ≠ RoadKit.slotOf Z ST "value" "[B" → RoadKit.slotOf Z O n d ≠ RoadKit.slotOf Z ST "coder" "B" → RoadKit.Fld Z h' x O n d w
/-- **new String(chars) AT A CALL, IN THE ROAD'S FORM**: for specialBack behind newO: x the fresh String, b the char[] with the cell A -/
theorem back {p : Program} {l : Launch} {e : Env} {R : Room} {s : State} {args : Array Value} {below : List Frame} {len W : Nat} {Z : State} {a0 : Array Value} {h : Heap} (hZ : Z.Warmed39 s.vm) (hw : ∀ d ∈ words, d.before a0 Z = true) {kI : Nat} (wi : (Jvm.Cond.instantiable ST kI).before a0 Z = true)
    {x b : Addr} {A : Cell} {z : Int32} {v0 c0 : Value} (E : RoadKit.Exa Z h x ST) (V : RoadKit.Fld Z h x ST "value" "[B" v0) (C : RoadKit.Fld Z h x ST "coder" "B" c0) (K : RoadKit.Arr Z h b A .char) (hty : Typed .char A) (S : RoadKit.Sta Z h ST "COMPACT_STRINGS" "Z" (.int z)) (hz : ¬ z = 0)
    (l0 : 0 < A.slots.size) (l2 : A.slots.size ≤ 536870912) (hp : ∀ i, i < A.slots.size → ¬ 255 < cv A i) (hfr : 4 ≤ R.frames) (hlo : W + 65 ≤ R.locals) :
    Back l R p e below s args New1.yN len W (fun P a => a = #[.ref x, .ref b] ∧ P.U.heap = h ∧ P.cells + 1 ≤ R.cells ∧ P.slots + A.slots.size ≤ R.slots)
      (fun P _ v B => ∃ L, Q Z x A h v B.U.heap L ∧ B.locs = P.locs ++ L ∧ B.cells = P.cells + 1 ∧ B.slots = P.slots + A.slots.size) := by
  intro m meth c P g ig mk a X hg hsize hdg hW hn hp'
  obtain ⟨rfl, rfl, r1, r2⟩ := hp'
  have al : Z.vm.Alike P.U.vm := hZ.alike.trans X.warmed.alike
  obtain ⟨D, cfV, kV, iV, fV, hD, gV, stV, knV, obV, asV, slV⟩ := id V
  obtain ⟨D', cfC, kC, iC, fC, hD', gC, stC, -, -, asC, slC⟩ := id C
  cases hD.symm.trans hD'
  obtain ⟨D2, kD, e1, e2, e3, e4, e5⟩ := id E
  cases hD.symm.trans e1
  obtain ⟨c2, k2, i1, i2, i3, -⟩ := Cond.instantiable_spec wi
  cases e2.symm.trans i1
  cases e3.symm.trans i2
  obtain ⟨kU, u1, u2⟩ := al.2.2 _ _ e3
  have hB : Blank ST x D P.U := ⟨hD, ⟨knV, fun q hq => by rw [hq] at obV; cases obV⟩, by rw [al.findClass]; exact e2, kU, u1, by rw [u2]; exact i3, by rw [u2]; exact e5 i3⟩
  have F1 : Found ST "value" "[B" fV P.U := ⟨SBG.found_only al ⟨cfV, kV, iV, gV⟩, stV⟩
  have F2 : Found ST "coder" "B" fC P.U := ⟨SBG.found_only al ⟨cfC, kC, iC, gC⟩, stC⟩
  have hA : Ch b A P.U := ⟨⟨K.1, State.isArrayOf_alike al K.2.1, K.2.2, by omega⟩, hty⟩
  have hS : StaticIs P.U ST "COMPACT_STRINGS" "Z" (.int z) := by
    obtain ⟨cfS, iS, kS, fS, st, cS, t1, t2, t3, t4, t5, t6, t7⟩ := S
    exact StaticIs.there (s := { Z with heap := P.U.heap }) ⟨cfS, iS, kS, fS, st, cS, t1, t2, t3, t4, t5, (fun q => by rw [q] at t6; cases t6), t7⟩ al rfl
  obtain ⟨v, B, X', ⟨⟨hv, E', V', q1, q2, q3, q4, q5, q6, q7, q8, q9, q10, q11⟩, hl, hc, hs⟩, st⟩ := New1.pays x D fV fC b A z (tab_of (moved hZ hw)) hfr hlo m meth c P g ig mk _ X hg hsize hdg hW hn ⟨r1, r2, rfl, hB, F1, F2, hA, hS, hz, l0, l2, hp⟩
  have al' : Z.vm.Alike B.U.vm := hZ.alike.trans X'.warmed.alike
  have hsz : E'.slots.size = D.slots.size := by
    obtain ⟨-, -, -, kB, w1, w2, w3⟩ := q1
    obtain ⟨kB', y1, y2⟩ := al'.2.2 _ _ e3
    rw [q2.2.1] at w1
    cases w1.symm.trans y1
    rw [w3, e5 i3, y2]
  refine ⟨v, B, X', ⟨_, ⟨hv, ?_, ⟨by omega, fun y cy hy hn' => q10 y cy (by simpa using hn') hy, fun y cy hy => ?_⟩, q11, ⟨E', _, q1.1, by rw [q2.2.1]; exact e2, by rw [q2.2.1]; exact e3, by rw [q2.1]; exact obV, fun _ => by rw [hsz]; exact e5 i3⟩,
    ⟨E', cfV, kV, iV, fV, q1.1, gV, stV, by rw [q2.1]; exact knV, by rw [q2.1]; exact obV, by rw [q2.2.1]; exact asV, q3⟩, ⟨E', cfC, kC, iC, fC, q1.1, gC, stC, by rw [q2.1]; exact knV, by rw [q2.1]; exact obV, by rw [q2.2.1]; exact asC, q4⟩,
    ⟨V', ⟨q5.1, State.isArrayOf_alike al'.symm q5.2.1, q5.2.2.1⟩, q6, by rw [← al'.findClass]; exact q7, q8, fun j hj => by have := q9 j hj; rwa [Nat.zero_add] at this⟩, fun O n d w F n1 n2 => ?_⟩, hl, hc, hs⟩, st⟩
  · intro y hy
    simp only [List.mem_cons, List.not_mem_nil, or_false] at hy
    rcases hy with rfl | rfl <;> rfl
  · by_cases q : y = x
    · subst q
      cases hD.symm.trans hy
      exact ⟨E', q1.1, q2.2.1, q2.1, hsz⟩
    · exact ⟨cy, q10 y cy q hy, rfl, rfl, rfl⟩
  · obtain ⟨D3, cf, k, i, f, g1, g2, g3, g4, g5, g6, g7⟩ := F
    cases hD.symm.trans g1
    simp only [RoadKit.slotOf, g2, gV, gC, Option.map_some, Option.getD_some] at n1 n2
    exact ⟨E', cf, k, i, f, q1.1, g2, g3, by rw [q2.1]; exact g4, by rw [q2.1]; exact g5, by rw [q2.2.1]; exact g6, by rw [q2.2.2 f.slot (by simp [n1, n2])]; exact g7⟩
end StrChars.Road
namespace StrChars.Road
open Jvm Sem ClassFile Op Lib Jvm.Stand Jvm.Free Jvm.Free.XT
/-- WHAT COMES BACK, the byte[] as a list of values -/
def QA (Z : State) (x : Addr) (zn : Int32) (cs : List Int32) (h : Heap) (v : Option Value) (h' : Heap) (L : List Loc) : Prop := v = none ∧ (∀ y ∈ L, y.base = x) ∧ RoadKit.Keep h h' [x] ∧ h'.size = h.size + 1 ∧ RoadKit.Exa Z h' x ST ∧ RoadKit.Fld Z h' x ST "value" "[B" (.ref h.size) ∧ RoadKit.Fld Z h' x ST "coder" "B" (.int 0) ∧
  (∃ kb, Z.vm.findClass "[B" = some kb ∧ RoadKit.Arv Z h' h.size kb .byte zn (cs.map fun c => .int (lo8 c)) (.int 0)) ∧
  ∀ (O n d : String) (w : Value), RoadKit.Fld Z h x O n d w → RoadKit.slotOf Z O n d ≠ RoadKit.slotOf Z ST "value" "[B" → RoadKit.slotOf Z O n d ≠ RoadKit.slotOf Z ST "coder" "B" → RoadKit.Fld Z h' x O n d w
/-- **new String(chars) AT A CALL, THE ARRAYS AS LISTS**: the char[] at b holds cs, not empty, no char above 255 -/
theorem backArv {p : Program} {l : Launch} {e : Env} {R : Room} {s : State} {args : Array Value} {below : List Frame} {len W : Nat} {Z : State} {a0 : Array Value} {h : Heap} (hZ : Z.Warmed39 s.vm) (hw : ∀ d ∈ words, d.before a0 Z = true) {kI : Nat} (wi : (Jvm.Cond.instantiable ST kI).before a0 Z = true)
    {x b : Addr} {k : ClassId} {zn z : Int32} {cs : List Int32} {dv v0 c0 : Value} (E : RoadKit.Exa Z h x ST) (V : RoadKit.Fld Z h x ST "value" "[B" v0) (C : RoadKit.Fld Z h x ST "coder" "B" c0) (K : RoadKit.Arv Z h b k .char zn (cs.map Value.int) dv) (S : RoadKit.Sta Z h ST "COMPACT_STRINGS" "Z" (.int z)) (hz : ¬ z = 0)
    (hlen : zn.toNatClampNeg = cs.length) (h0 : 0 < cs.length) (hbig : cs.length ≤ 536870912) (hall : ∀ c ∈ cs, ¬ 255 < c) (hfr : 4 ≤ R.frames) (hlo : W + 65 ≤ R.locals) :
    Back l R p e below s args New1.yN len W (fun P a => a = #[.ref x, .ref b] ∧ P.U.heap = h ∧ P.cells + 1 ≤ R.cells ∧ P.slots + cs.length ≤ R.slots)
      (fun P _ v B => ∃ L, QA Z x zn cs h v B.U.heap L ∧ B.locs = P.locs ++ L ∧ B.cells = P.cells + 1 ∧ B.slots = P.slots + cs.length) := by
  obtain ⟨A, K1, K2, K3, K4, K5, K6⟩ := K
  have e : A.slots.size = cs.length := K3.trans hlen
  have hat : ∀ (i : Nat) (hi : i < cs.length), A.slots[i]? = some (.int cs[i]) := fun i hi => by rw [K5 i (by omega)]; simp [List.getD_eq_getElem?_getD, hi]
  have hcv : ∀ (i : Nat) (hi : i < cs.length), cv A i = cs[i] := fun i hi => by unfold cv; rw [hat i hi]
  have hty : Typed .char A := fun i v hv => by
    have hi : i < A.slots.size := (Array.getElem?_eq_some_iff.mp hv).1
    have q := K5 i hi
    rw [hv] at q
    rw [Option.some.inj q]
    exact K6 i hi
  refine Back.mono (back hZ hw wi E V C K1 hty S hz (by omega) (by omega) (fun i hi => by rw [hcv i (by omega)]; exact hall _ (List.getElem_mem _)) hfr hlo) (fun P a hp => ⟨hp.1, hp.2.1, hp.2.2.1, by rw [e]; exact hp.2.2.2⟩) (fun P a v B hp hq => ?_)
  obtain ⟨L, ⟨q1, q2, q3, q4, q5, q6, q7, ⟨V', v1, v2, v3, v4, v5⟩, q9⟩, hl, hc, hs⟩ := hq
  refine ⟨L, ⟨q1, q2, q3, q4, q5, q6, q7, ⟨V'.cls, v3, V', v1, rfl, by rw [v4, e, hlen], K4, fun i hi => ?_, fun i hi => ?_⟩, q9⟩, hl, hc, by rw [hs, e]⟩
  · have hi' : i < cs.length := by omega
    rw [v5 i (by omega), hcv i hi']; simp [List.getD_eq_getElem?_getD, hi']
  · have hi' : i < cs.length := by omega
    simp only [List.getD_eq_getElem?_getD, List.getElem?_map, List.getElem?_eq_getElem hi', Option.map_some, Option.getD_some]
    exact fits_lo8 _
end StrChars.Road
namespace StrChars.Road
open Jvm Sem ClassFile Op Lib Jvm.Stand Jvm.Free Jvm.Free.XT
/-- WHAT COMES BACK, in the writer's own shape -/
def QV (Z : State) (x : Addr) (N : Int32) (bs : List Int32) (h : Heap) (n0 : Nat) (v : Option Value) (h' : Heap) (L : List Loc) : Prop := v = none ∧ RoadKit.Fr n0 L ∧ RoadKit.Keep h h' [x] ∧ RoadKit.Exa Z h' x ST ∧ RoadKit.Fld Z h' x ST "coder" "B" (.int 0) ∧
  ∃ (t : Addr) (kb : ClassId), n0 ≤ t ∧ h.size ≤ t ∧ ¬ t = x ∧ RoadKit.Fld Z h' x ST "value" "[B" (.ref t) ∧ RoadKit.Arv Z h' t kb .byte N (bs.map Value.int) (.int 0)
/-- **new String(chars) AT A CALL, FOR THE WRITER**: a char[] of n known ints, each 0 to 255 -/
theorem backV {p : Program} {l : Launch} {e : Env} {R : Room} {s : State} {args : Array Value} {below : List Frame} {len W : Nat} {Z : State} {a0 : Array Value} {h : Heap} (hZ : Z.Warmed39 s.vm) (hw : ∀ d ∈ words, d.before a0 Z = true) {kI : Nat} (wi : (Jvm.Cond.instantiable ST kI).before a0 Z = true)
    {x b : Addr} {kC : ClassId} {cs bs : List Int32} {d v0 c0 : Value} {z N : Int32} {n n0 : Nat} (hx0 : n0 ≤ x) (hh0 : n0 ≤ h.size) (E : RoadKit.Exa Z h x ST) (V : RoadKit.Fld Z h x ST "value" "[B" v0) (C : RoadKit.Fld Z h x ST "coder" "B" c0) (K : RoadKit.Arv Z h b kC .char N (cs.map Value.int) d) (S : RoadKit.Sta Z h ST "COMPACT_STRINGS" "Z" (.int z)) (hz : ¬ z = 0)
    (hn : cs.length = n) (hN : N = Int32.ofNat n) (l0 : 0 < n) (l2 : n ≤ 4000) (hp : ∀ c ∈ cs, ¬ c < 0 ∧ ¬ (255 : Int32) < c) (hb : bs = cs.map (fun c => c.toInt8.toInt32)) (hfr : 4 ≤ R.frames) (hlo : W + 65 ≤ R.locals) :
    Back l R p e below s args (⟨"java/lang/String", "<init>", "([C)V"⟩ : MethodName) len W (fun P a => a = #[.ref x, .ref b] ∧ P.U.heap = h ∧ P.cells + 1 ≤ R.cells ∧ P.slots + n ≤ R.slots)
      (fun P _ v B => ∃ L, QV Z x N bs h n0 v B.U.heap L ∧ B.locs = P.locs ++ L ∧ B.cells = P.cells + 1 ∧ B.slots = P.slots + n) := by
  subst hn hN hb
  refine Back.mono (backArv hZ hw wi E V C K S hz (n32 (by omega)) l0 (by omega) (fun c hc => (hp c hc).2) hfr hlo) (fun P a hp => hp) (fun P a v B hp hq => ?_)
  obtain ⟨L, ⟨q1, q2, q3, q4, q5, q6, q7, ⟨kb, v1, v2⟩, q9⟩, hl, hc, hs⟩ := hq
  exact ⟨L, ⟨q1, fun y hy => by rw [q2 y hy]; exact hx0, q3, q5, q7, h.size, kb, hh0, Nat.le_refl _, Nat.ne_of_gt E.lt, q6, by rw [List.map_map]; exact v2⟩, hl, hc, hs⟩
end StrChars.Road
namespace StrChars
open Jvm Sem ClassFile Op Lib Jvm.Stand Jvm.Free.XT Jvm.Free.ALB Jvm.Free.JM Jvm.Free
open Jvm.Lib.Cold (StaticIs)
def hi8 (x : Int32) : Int32 := lo8 (x >>> ((8 : Int32) &&& 31))
/-- what StringUTF16.getChar makes of two bytes -/
def pairCh (u v : Int32) : Int32 := (((u &&& 255) <<< ((0 : Int32) &&& 31)) ||| ((v &&& 255) <<< ((8 : Int32) &&& 31))).toUInt32.toUInt16.toUInt32.toInt32
theorem shr0 (c : Int32) : c >>> ((0 : Int32) &&& 31) = c := by
  have e : ((0 : Int32) &&& 31) = 0 := by decide
  rw [e]
  apply Int32.toBitVec_inj.mp
  rw [Int32.toBitVec_shiftRight]
  have e1 : ((0 : Int32).toBitVec.smod 32) = 0#32 := by decide
  rw [e1, BitVec.sshiftRight_eq']
  exact BitVec.sshiftRight_zero
theorem lo8_and (x : Int32) : (lo8 x &&& 255).toBitVec.toNat = x.toBitVec.toNat % 256 := by
  have h : (lo8 x).toBitVec = (x.toBitVec.signExtend 8).signExtend 32 := by rw [lo8, Int8.toBitVec_toInt32, Int32.toBitVec_toInt8]
  rw [Int32.toBitVec_and, BitVec.toNat_and, h]
  have e : ((x.toBitVec.signExtend 8).signExtend 32).toNat % 256 = x.toBitVec.toNat % 256 := by
    rw [BitVec.toNat_signExtend]
    have hlt := x.toBitVec.isLt
    simp only [BitVec.toNat_setWidth, BitVec.toNat_signExtend]
    split <;> split <;> omega
  rw [← e]
  exact Nat.and_two_pow_sub_one_eq_mod _ 8
theorem pair_says {c : Int32} (h0 : ¬ c < 0) (h1 : ¬ 65535 < c) : pairCh (lo8 c) (hi8 c) = c := by
  rw [Int32.lt_iff_toInt_lt] at h0 h1
  have e0 : (0 : Int32).toInt = 0 := rfl
  have e1 : (65535 : Int32).toInt = 65535 := rfl
  have hc : c.toInt = c.toBitVec.toNat := by
    have := c.toBitVec.isLt
    have e : c.toInt = c.toBitVec.toInt := rfl
    rw [e] at h0 h1
    rw [e]
    rw [BitVec.toInt_eq_toNat_cond] at h0 h1 ⊢
    split at h0 <;> split <;> omega
  have hn : c.toBitVec.toNat < 65536 := by omega
  have a1 := lo8_and c
  have a2 : (hi8 c &&& 255).toBitVec.toNat = c.toBitVec.toNat / 256 := by
    rw [hi8, lo8_and]
    have e : ((8 : Int32) &&& 31) = 8 := by decide
    rw [e, Int32.toBitVec_shiftRight]
    have e2 : ((8 : Int32).toBitVec.smod 32) = 8#32 := by decide
    rw [e2, BitVec.sshiftRight_eq', BitVec.toNat_sshiftRight_of_msb_false (by rw [BitVec.msb_eq_false_iff_two_mul_lt]; omega)]
    show c.toBitVec.toNat >>> 8 % 256 = _
    rw [Nat.shiftRight_eq_div_pow]
    omega
  unfold pairCh
  apply Int32.toBitVec_inj.mp
  apply BitVec.eq_of_toNat_eq
  have f0 : ((0 : Int32) &&& 31) = 0 := by decide
  have f8 : ((8 : Int32) &&& 31) = 8 := by decide
  rw [f0, f8]
  have g : (((lo8 c &&& 255) <<< (0 : Int32)) ||| ((hi8 c &&& 255) <<< (8 : Int32))).toBitVec.toNat = c.toBitVec.toNat := by
    rw [Int32.toBitVec_or, Int32.toBitVec_shiftLeft, Int32.toBitVec_shiftLeft]
    have s0 : ((0 : Int32).toBitVec.smod 32) = 0#32 := by decide
    have s8 : ((8 : Int32).toBitVec.smod 32) = 8#32 := by decide
    rw [s0, s8, BitVec.toNat_or]
    simp only [BitVec.shiftLeft_eq', BitVec.toNat_shiftLeft, a1, a2]
    show (c.toBitVec.toNat % 256) <<< 0 % 2 ^ 32 ||| (c.toBitVec.toNat / 256) <<< 8 % 2 ^ 32 = _
    rw [Nat.shiftLeft_zero, Nat.mod_eq_of_lt (show c.toBitVec.toNat % 256 < 2 ^ 32 by omega), Nat.mod_eq_of_lt (show (c.toBitVec.toNat / 256) <<< 8 < 2 ^ 32 by rw [Nat.shiftLeft_eq]; omega), Nat.or_comm, ← Nat.shiftLeft_add_eq_or_of_lt (by omega), Nat.shiftLeft_eq]
    omega
  show BitVec.toNat (((((lo8 c &&& 255) <<< (0 : Int32)) ||| ((hi8 c &&& 255) <<< (8 : Int32))).toBitVec.setWidth 16).setWidth 32) = _
  rw [BitVec.toNat_setWidth, BitVec.toNat_setWidth, g]
  omega
end StrChars
namespace StrChars
open Jvm Sem ClassFile Op Lib Jvm.Stand Jvm.Free.XT Jvm.Free.ALB Jvm.Free.JM Jvm.Free
open Jvm.Lib.Cold (StaticIs)
theorem shr1 {n : Nat} (h : 2 * n < 2 ^ 31) : Int32.ofNat (2 * n) >>> ((1 : Int32) &&& 31) = Int32.ofNat n := by
  have e : ((1 : Int32) &&& 31) = 1 := by decide
  rw [e]
  apply Int32.toBitVec_inj.mp
  rw [Int32.toBitVec_shiftRight]
  have e1 : ((1 : Int32).toBitVec.smod 32) = 1#32 := by decide
  have hm : (BitVec.ofNat 32 (2 * n)).toNat = 2 * n := by rw [BitVec.toNat_ofNat, Nat.mod_eq_of_lt (by omega)]
  rw [e1, BitVec.sshiftRight_eq']
  apply BitVec.eq_of_toNat_eq
  show ((BitVec.ofNat 32 (2 * n)).sshiftRight 1).toNat = (BitVec.ofNat 32 n).toNat
  rw [BitVec.toNat_sshiftRight_of_msb_false (by rw [BitVec.msb_eq_false_iff_two_mul_lt, hm]; omega), hm, BitVec.toNat_ofNat, Nat.shiftRight_eq_div_pow]
  omega
/-- the array's cell V codes the n chars f 0 .. f (n - 1) by the coder cd, as the JDK does: coder 1 just where some char is above 255 -/
def Cod (cd : Int32) (n : Nat) (f : Nat → Int32) (V : Cell) : Prop := (cd = 0 ∧ V.slots.size = n ∧ ∀ j, j < n → V.slots[j]? = some (.int (lo8 (f j))) ∧ ¬ 255 < f j) ∨ (cd = 1 ∧ V.slots.size = 2 * n ∧ (∀ j, j < n → V.slots[2 * j]? = some (.int (lo8 (f j))) ∧ V.slots[2 * j + 1]? = some (.int (hi8 (f j)))) ∧ ∃ j, j < n ∧ 255 < f j)
theorem Cod.cd {cd : Int32} {n : Nat} {f : Nat → Int32} {V : Cell} (h : Cod cd n f V) : cd = 0 ∨ cd = 1 := h.imp (fun q => q.1) fun q => q.1
theorem Cod.len {cd : Int32} {n : Nat} {f : Nat → Int32} {V : Cell} (h : Cod cd n f V) (hs : V.slots.size < 2 ^ 31) : Int32.ofNat V.slots.size >>> (cd &&& 31) = Int32.ofNat n := by
  rcases h with ⟨rfl, h, -⟩ | ⟨rfl, h, -⟩
  · rw [shr0, h]
  · rw [h, shr1 (by omega)]
/-- **x is a String of the n chars f 0 .. f (n - 1)**, Latin-1 or UTF-16; its array at t has the cell V -/
def Txt (x t : Addr) (V : Cell) (cd : Int32) (n : Nat) (f : Nat → Int32) (U : State) : Prop := Exact "java/lang/String" x U ∧ Has x "java/lang/String" "value" "[B" (.ref t) U ∧ Has x "java/lang/String" "coder" "B" (.int cd) U ∧ XT.Arr .byte t V U ∧ Cod cd n f V ∧ ∀ j, j < n → ¬ f j < 0 ∧ ¬ 65535 < f j
theorem Txt.mv {x t : Addr} {V : Cell} {cd : Int32} {n : Nat} {f : Nat → Int32} {U U' : State} (h : Txt x t V cd n f U) (hal : U.vm.Alike U'.vm) (hh : U'.heap = U.heap) : Txt x t V cd n f U' := ⟨h.1.mv hal hh, h.2.1.mv hal hh, h.2.2.1.mv hal hh, h.2.2.2.1.mv hal hh, h.2.2.2.2⟩
namespace Cdr
def yN : MethodName := ⟨"java/lang/String", "coder", "()B"⟩
abbrev yB : ByteArray := jdk_42_method_152_code
theorem d0 : decode yB 0 = .ok (.getstatic 38, 3) := by decide +kernel
theorem d3 : decode yB 3 = .ok (.ifCond (.eq) 10, 3) := by decide +kernel
theorem d6 : decode yB 6 = .ok (.aload_n 0, 1) := by decide +kernel
theorem d7 : decode yB 7 = .ok (.getfield 15, 3) := by decide +kernel
theorem d10 : decode yB 10 = .ok (.goto 4, 3) := by decide +kernel
theorem d14 : decode yB 14 = .ok (.ireturn, 1) := by decide +kernel
def site : List Cond := [.fieldLink "java/lang/String" 38 "java/lang/String" "COMPACT_STRINGS" "Z", .fieldLink "java/lang/String" 15 "java/lang/String" "coder" "B"]
def tab : Cond := tabOf yN yB 1 (some .byte) site
def P (x : Addr) (cd z : Int32) (args : Array Value) (s : State) : Prop := args = #[.ref x] ∧ Has x "java/lang/String" "coder" "B" (.int cd) s ∧ (cd = 0 ∨ cd = 1) ∧ StaticIs s "java/lang/String" "COMPACT_STRINGS" "Z" (.int z) ∧ ¬ z = 0
def E (cd : Int32) (r : Option Value) (s u : State) : Prop := XT.PureE (some (.int cd)) r s u
theorem law (l : Launch) (x : Addr) (cd z : Int32) : Law l yN 1 0 0 0 yB 1 (some .byte) site (P x cd z) (E cd) [] 0 0 := by
  refine Law.of_walk (plainFor_of_name (by decide +kernel)) (by decide +kernel) (by decide +kernel) (by decide) (fun _ _ h => by rw [h.1]; rfl) (fun _ U U' hal hh h => ⟨h.1, h.2.1.mv hal hh, h.2.2.1, h.2.2.2.1.there hal hh, h.2.2.2.2⟩) (fun r U U' V V' h1 hal h2 h => XT.PureE.mv r U U' V V' h1 hal h2 h) ?_
  intro p e s m args below meth c s₁ X0 hexec hbytes hml hret hlk hnm hown hh0 W hP
  obtain ⟨rfl, hx, hc, s1, hz⟩ := hP
  have c1 : Steps p.tables e below (s₁.setTop (entryFrame m #[.ref x] 1)) (s₁.setTop (mkF m 0 #[.val (.ref x)] [])) := entry rfl
  obtain ⟨T2, X2, q2, st2⟩ := X0.sget hexec hown (wk W (.fieldLink "java/lang/String" 38 "java/lang/String" "COMPACT_STRINGS" "Z")) s1 (fun _ _ h => by rw [hh0]; exact h) (g := (mkF m 0 #[.val (.ref x)] [])) rfl (hb hbytes d0)
  have hh2 := q2.trans hh0
  have c3 : Steps p.tables e below (s₁.setTop (entryFrame m #[.ref x] 1)) (T2.setTop (mkF m 7 #[.val (.ref x)] [.ref x])) := (c1.trans (st2 _ (Steps.refl _))).trans (by
    refine XS.ifNo X2.here hexec rfl (hb hbytes d3) rfl (i0_eq_f hz) ?_
    refine XS.aloadN X2.here hexec rfl (hb hbytes d6) rfl rfl ?_
    exact Steps.refl _)
  obtain ⟨T4, X4, q4, st4⟩ := X2.hget hexec hown (wk W (.fieldLink "java/lang/String" 15 "java/lang/String" "coder" "B")) (hx.mv X2.warmed.alike hh2) (g := (mkF m 7 #[.val (.ref x)] [.ref x])) rfl (rest := []) rfl (hb hbytes d7)
  have c5 : Steps p.tables e below (s₁.setTop (entryFrame m #[.ref x] 1)) (T4.setTop (mkF m 14 #[.val (.ref x)] [.int cd])) := (c3.trans (st4 _ (Steps.refl _))).trans (by
    refine XS.goto X4.here hexec rfl (pc0 := 10) rfl (hb hbytes d10) (by decide) rfl ?_
    exact Steps.refl _)
  exact ⟨T4, some (.int cd), _, _, _, X4, rfl, rfl, rfl, (fun h => by cases h), ⟨rfl, q4.trans hh2⟩, fun fs hl => c5.trans (X4.ireturnOut hexec hret (by rcases hc with rfl | rfl <;> rfl) (Or.inr (Or.inr (Or.inl rfl))) (hb hbytes d14) hl)⟩
end Cdr
namespace Len
def yN : MethodName := ⟨"java/lang/String", "length", "()I"⟩
abbrev yB : ByteArray := jdk_42_method_54_code
theorem d0 : decode yB 0 = .ok (.aload_n 0, 1) := by decide +kernel
theorem d1 : decode yB 1 = .ok (.getfield 9, 3) := by decide +kernel
theorem d4 : decode yB 4 = .ok (.arraylength, 1) := by decide +kernel
theorem d5 : decode yB 5 = .ok (.aload_n 0, 1) := by decide +kernel
theorem d6 : decode yB 6 = .ok (.invokevirtual 335, 3) := by decide +kernel
theorem d9 : decode yB 9 = .ok (.ishr, 1) := by decide +kernel
theorem d10 : decode yB 10 = .ok (.ireturn, 1) := by decide +kernel
def site : List Cond := [.fieldLink "java/lang/String" 9 "java/lang/String" "value" "[B", Cdr.tab] ++ virtW "java/lang/String" 335 "java/lang/String" Cdr.yN Cdr.yN
def tab : Cond := tabOf yN yB 1 (some .int) site
def P (x t : Addr) (V : Cell) (cd : Int32) (n : Nat) (f : Nat → Int32) (z : Int32) (args : Array Value) (s : State) : Prop := args = #[.ref x] ∧ Txt x t V cd n f s ∧ StaticIs s "java/lang/String" "COMPACT_STRINGS" "Z" (.int z) ∧ ¬ z = 0
def E (n : Nat) (r : Option Value) (s u : State) : Prop := XT.PureE (some (.int (Int32.ofNat n))) r s u
/-- length() of a String of n chars, in either coding -/
theorem law (l : Launch) (x t : Addr) (V : Cell) (cd : Int32) (n : Nat) (f : Nat → Int32) (z : Int32) : Law l yN 1 0 1 13 yB 1 (some .int) site (P x t V cd n f z) (E n) [] 0 0 := by
  refine Law.of_walk (plainFor_of_name (by decide +kernel)) (by decide +kernel) (by decide +kernel) (by decide) (fun _ _ h => by rw [h.1]; rfl) (fun _ U U' hal hh h => ⟨h.1, h.2.1.mv hal hh, h.2.2.1.there hal hh, h.2.2.2⟩) (fun r U U' V V' h1 hal h2 h => XT.PureE.mv r U U' V V' h1 hal h2 h) ?_
  intro p e s m args below meth c s₁ X0 hexec hbytes hml hret hlk hnm hown hh0 W hP
  obtain ⟨rfl, hx, s1, hz⟩ := hP
  have v31 := hx.2.2.2.1.2.2.2
  have c1 : Steps p.tables e below (s₁.setTop (entryFrame m #[.ref x] 1)) (s₁.setTop (mkF m 1 #[.val (.ref x)] [.ref x])) := Steps.trans (entry rfl) (by
    show Steps p.tables e below (s₁.setTop (mkF m 0 #[.val (.ref x)] [])) _
    refine XS.aloadN X0.here hexec rfl (hb hbytes d0) rfl rfl ?_
    exact Steps.refl _)
  obtain ⟨T2, X2, q2, st2⟩ := X0.hget hexec hown (wk W (.fieldLink "java/lang/String" 9 "java/lang/String" "value" "[B")) (hx.mv X0.warmed.alike hh0).2.1 (g := (mkF m 1 #[.val (.ref x)] [.ref x])) rfl (rest := []) rfl (hb hbytes d1)
  have hh2 := q2.trans hh0
  have hx2 := hx.mv X2.warmed.alike hh2
  have c3 : Steps p.tables e below (s₁.setTop (entryFrame m #[.ref x] 1)) (T2.setTop (mkF m 6 #[.val (.ref x)] [.ref x, .int (Int32.ofNat V.slots.size)])) := (c1.trans (st2 _ (Steps.refl _))).trans (by
    refine X2.alen hexec hx2.2.2.2.1 rfl rfl (hb hbytes d4) ?_
    refine XS.aloadN X2.here hexec rfl (hb hbytes d5) rfl rfl ?_
    exact Steps.refl _)
  obtain ⟨v4, T4, X4, E4, g4⟩ := X2.callV hexec (Cdr.law l x cd z) hown (wks W (virtW "java/lang/String" 335 "java/lang/String" Cdr.yN Cdr.yN)) rfl (by decide) (wk W Cdr.tab) (W := 1) (Nat.le_of_ble_eq_true rfl) (Nat.le_of_ble_eq_true rfl) (Nat.le_refl _) (Nat.le_refl _) (hx2.1.fc X2.warmed.alike) hx2.1.is (g := (mkF m 6 #[.val (.ref x)] [.ref x, .int (Int32.ofNat V.slots.size)])) rfl (by rw [hml]; rfl) c3 (argsL := []) (rest := [.int (Int32.ofNat V.slots.size)]) rfl rfl (by show 2 * 0 + (1 + 0) ≤ _; decide) (hb hbytes d6) (⟨rfl, hx2.2.2.1, hx.2.2.2.2.1.cd, s1.there X2.warmed.alike hh2, hz⟩)
  obtain ⟨rfl, q4⟩ := E4
  have c5 : Steps p.tables e below (s₁.setTop (entryFrame m #[.ref x] 1)) (T4.setTop (mkF m 10 #[.val (.ref x)] [.int (Int32.ofNat V.slots.size >>> (cd &&& 31))])) := Steps.trans g4 (by
    refine ishr X4.here hexec rfl (hb hbytes d9) rfl ?_
    exact Steps.refl _)
  rw [hx.2.2.2.2.1.len v31] at c5
  exact ⟨T4, some (.int (Int32.ofNat n)), _, _, _, X4, rfl, rfl, rfl, (fun h => by cases h), ⟨rfl, q4.trans hh2⟩, fun fs hl => c5.trans (X4.ireturnOut hexec hret rfl (Or.inl rfl) (hb hbytes d10) hl)⟩
theorem pays {l : Launch} {R : Room} {p : Program} {e : Env} {below : List Frame} {s : State} {sargs : Array Value} {len W : Nat} (x t : Addr) (V : Cell) (cd : Int32) (n : Nat) (f : Nat → Int32) (z : Int32) (htab : tab.before sargs s = true) (hfr : 2 ≤ R.frames) (hlo : W + 25 ≤ R.locals) :
    Back l R p e below s sargs yN len W (fun A₁ a₁ => A₁.cells + 0 ≤ R.cells ∧ A₁.slots + 0 ≤ R.slots ∧ P x t V cd n f z a₁ A₁.U) (fun A₁ _ v₁ B₁ => E n v₁ A₁.U B₁.U ∧ B₁.locs = A₁.locs ++ [] ∧ B₁.cells = A₁.cells + 0 ∧ B₁.slots = A₁.slots + 0) :=
  (law l x t V cd n f z).pays htab hfr (by omega)
end Len
end StrChars
namespace StrChars.Road
open Jvm Sem ClassFile Op Lib Jvm.Stand Jvm.Free Jvm.Free.XT
open Jvm.Lib.Cold (StaticIs)
theorem consq {a : Array Value} {s : State} {c : Jvm.Cond} {L : List Jvm.Cond} (h0 : c.before a s = true) (h : ∀ w ∈ L, w.before a s = true) : ∀ w ∈ c :: L, w.before a s = true := fun w hw => (List.mem_cons.mp hw).elim (fun e => e ▸ h0) (h w)
/-- the words of String.length(), either coding -/
abbrev wordsLen : List Jvm.Cond := [.code Len.yN Len.yB 1 (some .int), .initialized ST, .fieldLink ST 9 ST "value" "[B", .fieldLink ST 38 ST "COMPACT_STRINGS" "Z", .fieldLink ST 15 ST "coder" "B", .code Cdr.yN Cdr.yB 1 (some .byte), .methodLink ST 335 Cdr.yN, .declares Cdr.yN, .selects ST Cdr.yN Cdr.yN, .instanceMethod Cdr.yN]
theorem tabLen_of {a : Array Value} {s : State} (h : ∀ w ∈ wordsLen, w.before a s = true) : Len.tab.before a s = true := by
  have hc : Cdr.tab.before a s = true := unparts (wk h (.code Cdr.yN Cdr.yB 1 (some .byte))) (wks h (.initialized Cdr.yN.cls :: Cdr.site))
  have q := consq hc h
  exact unparts (wk q (.code Len.yN Len.yB 1 (some .int))) (wks q (.initialized Len.yN.cls :: Len.site))
theorem movedLen {Z s : State} {a0 args : Array Value} (hZ : Z.Warmed39 s.vm) (hw : ∀ d ∈ wordsLen, d.before a0 Z = true) : ∀ d ∈ wordsLen, d.before args s = true := fun d hd => by
  have q := hw d hd
  have t : ∀ d ∈ wordsLen, d = .arrayClass .byte ∨ (d.onTables && d.keepsFace) = true := by decide +kernel
  rcases t d hd with rfl | t
  · exact RoadKit.mvA hZ q
  · exact RoadKit.mv hZ q t
/-- the bytes of the chars cs, low before high -/
def wideBytes : List Int32 → List Value
  | [] => []
  | c :: cs => .int (lo8 c) :: .int (hi8 c) :: wideBytes cs
theorem wide_lo (d : Value) : ∀ (cs : List Int32) (j : Nat), j < cs.length → (wideBytes cs).getD (2 * j) d = .int (lo8 (cs.getD j 0))
  | [], j, h => absurd h (Nat.not_lt_zero j)
  | c :: cs, 0, _ => rfl
  | c :: cs, j + 1, h => by
    have q := wide_lo d cs j (by simpa using h)
    rw [show 2 * (j + 1) = 2 * j + 1 + 1 from by omega]
    simpa [wideBytes] using q
theorem wide_hi (d : Value) : ∀ (cs : List Int32) (j : Nat), j < cs.length → (wideBytes cs).getD (2 * j + 1) d = .int (hi8 (cs.getD j 0))
  | [], j, h => absurd h (Nat.not_lt_zero j)
  | c :: cs, 0, _ => rfl
  | c :: cs, j + 1, h => by
    have q := wide_hi d cs j (by simpa using h)
    rw [show 2 * (j + 1) + 1 = 2 * j + 1 + 1 + 1 from by omega]
    simpa [wideBytes] using q
theorem low_at (d : Value) (cs : List Int32) (j : Nat) (h : j < cs.length) : (cs.map fun c => Value.int (lo8 c)).getD j d = .int (lo8 (cs.getD j 0)) := by
  simp [List.getD_eq_getElem?_getD, h]
/-- an array of N2 bytes vs codes the chars cs by the coder cd -/
def CodA (cs : List Int32) (cd N2 : Int32) (vs : List Value) : Prop := (cd = 0 ∧ N2 = Int32.ofNat cs.length ∧ vs = (cs.map fun c => Value.int (lo8 c)) ∧ ∀ c ∈ cs, ¬ 255 < c) ∨ (cd = 1 ∧ N2 = Int32.ofNat (2 * cs.length) ∧ vs = wideBytes cs ∧ ∃ c ∈ cs, 255 < c)
theorem CodA.cod {cs : List Int32} {cd N2 : Int32} {vs : List Value} {V : Cell} (h : CodA cs cd N2 vs) (hn : 2 * cs.length < 2 ^ 31) (hs : V.slots.size = N2.toNatClampNeg) (hv : RoadKit.Has V vs (.int 0)) : Cod cd cs.length (fun j => cs.getD j 0) V := by
  rcases h with ⟨rfl, rfl, rfl, h⟩ | ⟨rfl, rfl, rfl, c, hc, hw⟩
  · rw [n32 (by omega)] at hs
    exact Or.inl ⟨rfl, hs, fun j hj => ⟨by rw [hv j (by omega), low_at _ _ _ hj], by
      have e : cs.getD j 0 = cs[j] := by simp [List.getD_eq_getElem?_getD, hj]
      show ¬ 255 < cs.getD j 0
      rw [e]; exact h _ (List.getElem_mem _)⟩⟩
  · rw [n32 (by omega)] at hs
    obtain ⟨j, hj, rfl⟩ := List.getElem_of_mem hc
    exact Or.inr ⟨rfl, hs, fun j hj => ⟨by rw [hv _ (by omega), wide_lo _ _ _ hj], by rw [hv _ (by omega), wide_hi _ _ _ hj]⟩, j, hj, by
      have e : cs.getD j 0 = cs[j] := by simp [List.getD_eq_getElem?_getD, hj]
      show 255 < cs.getD j 0
      rw [e]; exact hw⟩
/-- an object of exactly java/lang/String, its two fields found: as the laws ask it -/
theorem strObj {Z U : State} {a0 : Array Value} {kI : Nat} (wi : (Jvm.Cond.instantiable ST kI).before a0 Z = true) (al : Z.vm.Alike U.vm) {x : Addr} {v0 c0 : Value} (E : RoadKit.Exa Z U.heap x ST) (V : RoadKit.Fld Z U.heap x ST "value" "[B" v0) (C : RoadKit.Fld Z U.heap x ST "coder" "B" c0) :
    ∃ (D : Cell) (fV fC : Field), Blank ST x D U ∧ Found ST "value" "[B" fV U ∧ Found ST "coder" "B" fC U ∧ D.slots[fV.slot]? = some v0 ∧ D.slots[fC.slot]? = some c0 ∧ RoadKit.slotOf Z ST "value" "[B" = fV.slot ∧ RoadKit.slotOf Z ST "coder" "B" = fC.slot := by
  obtain ⟨D, cfV, kV, iV, fV, hD, gV, stV, knV, obV, asV, slV⟩ := V
  obtain ⟨D', cfC, kC, iC, fC, hD', gC, stC, -, -, asC, slC⟩ := C
  cases hD.symm.trans hD'
  obtain ⟨D2, kD, e1, e2, e3, e4, e5⟩ := E
  cases hD.symm.trans e1
  obtain ⟨c2, k2, i1, i2, i3, -⟩ := Cond.instantiable_spec wi
  cases e2.symm.trans i1
  cases e3.symm.trans i2
  obtain ⟨kU, u1, u2⟩ := al.2.2 _ _ e3
  exact ⟨D, fV, fC, ⟨hD, ⟨knV, fun q hq => by rw [hq] at obV; cases obV⟩, by rw [al.findClass]; exact e2, kU, u1, by rw [u2]; exact i3, by rw [u2]; exact e5 i3⟩, ⟨SBG.found_only al ⟨cfV, kV, iV, gV⟩, stV⟩, ⟨SBG.found_only al ⟨cfC, kC, iC, gC⟩, stC⟩, slV, slC, by simp [RoadKit.slotOf, gV], by simp [RoadKit.slotOf, gC]⟩
theorem sta_is {Z U : State} (al : Z.vm.Alike U.vm) {C n d : String} {v : Value} (S : RoadKit.Sta Z U.heap C n d v) : StaticIs U C n d v := by
  obtain ⟨cfS, iS, kS, fS, st, cS, t1, t2, t3, t4, t5, t6, t7⟩ := S
  exact StaticIs.there (s := { Z with heap := U.heap }) ⟨cfS, iS, kS, fS, st, cS, t1, t2, t3, t4, t5, (fun q => by rw [q] at t6; cases t6), t7⟩ al rfl
/-- **length() OF SUCH A STRING** -/
theorem lenW {p : Program} {l : Launch} {e : Env} {R : Room} {s : State} {args : Array Value} {below : List Frame} {len W : Nat} {Z : State} {a0 : Array Value} {h : Heap} (hZ : Z.Warmed39 s.vm) (hw : ∀ d ∈ wordsLen, d.before a0 Z = true) {kI : Nat} (wi : (Jvm.Cond.instantiable ST kI).before a0 Z = true)
    {x t : Addr} {kb : ClassId} {cs : List Int32} {cd N2 z : Int32} {vs : List Value} (E : RoadKit.Exa Z h x ST) (V : RoadKit.Fld Z h x ST "value" "[B" (.ref t)) (C : RoadKit.Fld Z h x ST "coder" "B" (.int cd)) (K : RoadKit.Arv Z h t kb .byte N2 vs (.int 0)) (hc : CodA cs cd N2 vs) (hb : ∀ c ∈ cs, ¬ c < 0 ∧ ¬ (65535 : Int32) < c)
    (S : RoadKit.Sta Z h ST "COMPACT_STRINGS" "Z" (.int z)) (hz : ¬ z = 0) (l2 : cs.length ≤ 4000) (hfr : 2 ≤ R.frames) (hlo : W + 25 ≤ R.locals) :
    Back l R p e below s args (⟨"java/lang/String", "length", "()I"⟩ : MethodName) len W (fun P a => a = #[.ref x] ∧ P.U.heap = h ∧ P.cells + 0 ≤ R.cells ∧ P.slots + 0 ≤ R.slots)
      (fun P _ v B => ∃ L, (v = some (.int (Int32.ofNat cs.length)) ∧ L = [] ∧ B.U.heap = h) ∧ B.locs = P.locs ++ L ∧ B.cells = P.cells + 0 ∧ B.slots = P.slots + 0) := by
  obtain ⟨A, K1, K2, K3, K4, K5, K6⟩ := K
  have hcod := hc.cod (by omega) K3 K5
  intro m meth c P g ig mk a X hg hsize hdg hW hn hp'
  obtain ⟨rfl, rfl, r1, r2⟩ := hp'
  have al : Z.vm.Alike P.U.vm := hZ.alike.trans X.warmed.alike
  obtain ⟨D, fV, fC, hB, F1, F2, g1, g2, -, -⟩ := strObj wi al E V C
  have hx : Txt x t A cd cs.length (fun j => cs.getD j 0) P.U := ⟨⟨_, hB.2.2.1, D, hB.1, rfl, by cases q : D.vm <;> first | rfl | exact absurd q (hB.2.1.2 _)⟩, Has.of hB F1 g1, Has.of hB F2 g2, ⟨K1.1, State.isArrayOf_alike al K1.2.1, K1.2.2, by rcases hcod with ⟨-, q, -⟩ | ⟨-, q, -⟩ <;> omega⟩, hcod, fun j hj => by
    have e : cs.getD j 0 = cs[j] := by simp [List.getD_eq_getElem?_getD, hj]
    show ¬ cs.getD j 0 < 0 ∧ ¬ 65535 < cs.getD j 0
    rw [e]; exact hb _ (List.getElem_mem _)⟩
  obtain ⟨v, B, X', ⟨⟨hv, hh⟩, hl, hk, hs⟩, st⟩ := Len.pays x t A cd cs.length (fun j => cs.getD j 0) z (tabLen_of (movedLen hZ hw)) hfr hlo m meth c P g ig mk _ X hg hsize hdg hW hn ⟨r1, r2, rfl, hx, sta_is al S, hz⟩
  exact ⟨v, B, X', ⟨[], ⟨hv, rfl, hh⟩, hl, hk, hs⟩, st⟩
end StrChars.Road
namespace StrChars
open Jvm Sem ClassFile Op Lib Jvm.Stand Jvm.Free.XT Jvm.Free.ALB Jvm.Free.JM Jvm.Free
open Jvm.Lib.Cold (StaticIs)
/-- what place i of a byte[]'s cell holds -/
def yv (A : Cell) (i : Nat) : Int32 := match A.slots[i]? with | some (.int x) => x | _ => 0
theorem yv_get {a : Addr} {A : Cell} {U : State} (h : XT.Arr .byte a A U) (ht : Typed .byte A) {i : Nat} (hi : i < A.slots.size) : A.slots[i]? = some (.int (yv A i)) := by
  have e := Array.getElem?_eq_getElem hi
  have f := ht i _ e
  unfold yv; rw [e]
  generalize A.slots[i] = v at f
  cases v <;> simp [fits] at f ⊢
/-- the two arrays are equal, place for place -/
def EqC (A B : Cell) : Prop := A.slots.size = B.slots.size ∧ ∀ i, i < A.slots.size → yv A i = yv B i
/-- a boolean that says whether p -/
def Says01 (q : Prop) (r : Option Value) (s u : State) : Prop := ∃ v : Int32, r = some (.int v) ∧ u.heap = s.heap ∧ ((v = 1 ∧ q) ∨ (v = 0 ∧ ¬ q))
theorem Says01.mv {q : Prop} : ∀ r (U U' V V' : State), U'.heap = U.heap → V.vm.Alike V'.vm → V'.heap = V.heap → Says01 q r U V → Says01 q r U' V' :=
  fun r U U' V V' h1 _ h2 ⟨v, a, b, c⟩ => ⟨v, a, by rw [h1, h2]; exact b, c⟩
namespace LEq
def yN : MethodName := ⟨"java/lang/StringLatin1", "equals", "([B[B)Z"⟩
abbrev yB : ByteArray := jdk_43_method_13_code
theorem d0 : decode yB 0 = .ok (.aload_n 0, 1) := by decide +kernel
theorem d1 : decode yB 1 = .ok (.arraylength, 1) := by decide +kernel
theorem d2 : decode yB 2 = .ok (.aload_n 1, 1) := by decide +kernel
theorem d3 : decode yB 3 = .ok (.arraylength, 1) := by decide +kernel
theorem d4 : decode yB 4 = .ok (.if_icmp (.ne) 30, 3) := by decide +kernel
theorem d7 : decode yB 7 = .ok (.iconst 0, 1) := by decide +kernel
theorem d8 : decode yB 8 = .ok (.istore_n 2, 1) := by decide +kernel
theorem d9 : decode yB 9 = .ok (.iload_n 2, 1) := by decide +kernel
theorem d10 : decode yB 10 = .ok (.aload_n 0, 1) := by decide +kernel
theorem d11 : decode yB 11 = .ok (.arraylength, 1) := by decide +kernel
theorem d12 : decode yB 12 = .ok (.if_icmp (.ge) 20, 3) := by decide +kernel
theorem d15 : decode yB 15 = .ok (.aload_n 0, 1) := by decide +kernel
theorem d16 : decode yB 16 = .ok (.iload_n 2, 1) := by decide +kernel
theorem d17 : decode yB 17 = .ok (.baload, 1) := by decide +kernel
theorem d18 : decode yB 18 = .ok (.aload_n 1, 1) := by decide +kernel
theorem d19 : decode yB 19 = .ok (.iload_n 2, 1) := by decide +kernel
theorem d20 : decode yB 20 = .ok (.baload, 1) := by decide +kernel
theorem d21 : decode yB 21 = .ok (.if_icmp (.eq) 5, 3) := by decide +kernel
theorem d24 : decode yB 24 = .ok (.iconst 0, 1) := by decide +kernel
theorem d25 : decode yB 25 = .ok (.ireturn, 1) := by decide +kernel
theorem d26 : decode yB 26 = .ok (.iinc 2 1, 3) := by decide +kernel
theorem d29 : decode yB 29 = .ok (.goto (-20), 3) := by decide +kernel
theorem d32 : decode yB 32 = .ok (.iconst 1, 1) := by decide +kernel
theorem d33 : decode yB 33 = .ok (.ireturn, 1) := by decide +kernel
theorem d34 : decode yB 34 = .ok (.iconst 0, 1) := by decide +kernel
theorem d35 : decode yB 35 = .ok (.ireturn, 1) := by decide +kernel
def site : List Cond := []
def tab : Cond := tabOf yN yB 3 (some .boolean) site
def P (a : Addr) (A : Cell) (b : Addr) (B : Cell) (args : Array Value) (s : State) : Prop := args = #[.ref a, .ref b] ∧ XT.Arr .byte a A s ∧ Typed .byte A ∧ XT.Arr .byte b B s ∧ Typed .byte B
/-- whether two byte[] are equal, place for place -/
theorem law (l : Launch) (a : Addr) (A : Cell) (b : Addr) (B : Cell) : Law l yN 2 2 0 0 yB 3 (some .boolean) site (P a A b B) (Says01 (EqC A B)) [] 0 0 := by
  refine Law.of_walk (plainFor_of_name (by decide +kernel)) (by decide +kernel) (by decide +kernel) (by decide) (fun _ _ h => by rw [h.1]; rfl) (fun _ U U' hal hh h => ⟨h.1, h.2.1.mv hal hh, h.2.2.1, h.2.2.2.1.mv hal hh, h.2.2.2.2⟩) (fun r U U' V V' h1 hal h2 h => Says01.mv r U U' V V' h1 hal h2 h) ?_
  intro p e s m args below meth c s₁ X0 hexec hbytes hml hret hlk hnm hown hh0 W hP
  obtain ⟨rfl, hA, tA, hB, tB⟩ := hP
  have a31 := hA.2.2.2
  have b31 := hB.2.2.2
  have hA0 := hA.mv X0.warmed.alike hh0
  have hB0 := hB.mv X0.warmed.alike hh0
  have c1 : Steps p.tables e below (s₁.setTop (entryFrame m #[.ref a, .ref b] 3)) (s₁.setTop (mkF m 0 #[.val (.ref a), .val (.ref b), .unset] [])) := entry rfl
  have c2 : Steps p.tables e below (s₁.setTop (entryFrame m #[.ref a, .ref b] 3)) (s₁.setTop (mkF m 4 #[.val (.ref a), .val (.ref b), .unset] [.int (Int32.ofNat B.slots.size), .int (Int32.ofNat A.slots.size)])) := c1.trans (by
    refine XS.aloadN X0.here hexec rfl (hb hbytes d0) rfl rfl ?_
    refine X0.alen hexec hA0 rfl rfl (hb hbytes d1) ?_
    refine XS.aloadN X0.here hexec rfl (hb hbytes d2) rfl rfl ?_
    refine X0.alen hexec hB0 rfl rfl (hb hbytes d3) ?_
    exact Steps.refl _)
  by_cases hs : A.slots.size = B.slots.size
  · have c3 : Steps p.tables e below (s₁.setTop (entryFrame m #[.ref a, .ref b] 3)) (s₁.setTop (mkF m 9 #[.val (.ref a), .val (.ref b), .val (.int 0)] [])) := c2.trans (by
      refine XS.icmpNo X0.here hexec rfl (hb hbytes d4) rfl (ii_ne_f (by rw [hs])) ?_
      refine iconstV X0.here hexec rfl 0 (hb hbytes d7) (by decide) ?_
      refine XS.istoreN X0.here hexec rfl (hb hbytes d8) rfl rfl ?_
      exact Steps.refl _)
    have loop : ∀ (r i : Nat), i + r = A.slots.size → (∀ j, j < i → yv A j = yv B j) → Steps p.tables e below (s₁.setTop (entryFrame m #[.ref a, .ref b] 3)) (s₁.setTop (mkF m 9 #[.val (.ref a), .val (.ref b), .val (.int (Int32.ofNat i))] [])) → ∃ (pc : Nat) (Ls : Array Slot) (v : Int32), (pc = 25 ∨ pc = 33) ∧ ((v = 1 ∧ EqC A B) ∨ (v = 0 ∧ ¬ EqC A B)) ∧ Steps p.tables e below (s₁.setTop (entryFrame m #[.ref a, .ref b] 3)) (s₁.setTop (mkF m pc Ls [.int v])) := by
      intro r
      induction r with
      | zero =>
        intro i hi he cl
        exact ⟨33, _, 1, Or.inr rfl, Or.inl ⟨rfl, hs, fun j hj => he j (by omega)⟩, cl.trans (by
          refine XS.iloadN X0.here hexec rfl (hb hbytes d9) rfl ?_
          refine XS.aloadN X0.here hexec rfl (hb hbytes d10) rfl rfl ?_
          refine X0.alen hexec hA0 rfl rfl (hb hbytes d11) ?_
          refine XS.icmpYes X0.here hexec rfl (pc0 := 12) rfl (hb hbytes d12) rfl (ii_ge_t (nlt32 (by omega) (by omega))) (by decide) rfl ?_
          refine iconstV X0.here hexec rfl 1 (hb hbytes d32) (by decide) ?_
          exact Steps.refl _)⟩
      | succ r ih =>
        intro i hi he cl
        have c4 : Steps p.tables e below (s₁.setTop (entryFrame m #[.ref a, .ref b] 3)) (s₁.setTop (mkF m 21 #[.val (.ref a), .val (.ref b), .val (.int (Int32.ofNat i))] [.int (yv B i), .int (yv A i)])) := cl.trans (by
          refine XS.iloadN X0.here hexec rfl (hb hbytes d9) rfl ?_
          refine XS.aloadN X0.here hexec rfl (hb hbytes d10) rfl rfl ?_
          refine X0.alen hexec hA0 rfl rfl (hb hbytes d11) ?_
          refine XS.icmpNo X0.here hexec rfl (hb hbytes d12) rfl (ii_ge_f (lt32 (by omega) (by omega))) ?_
          refine XS.aloadN X0.here hexec rfl (hb hbytes d15) rfl rfl ?_
          refine XS.iloadN X0.here hexec rfl (hb hbytes d16) rfl ?_
          refine X0.aget hexec hA0 rfl (yv_get hA tA (i := i) (by omega)) rfl rfl (hb hbytes d17) ?_
          refine XS.aloadN X0.here hexec rfl (hb hbytes d18) rfl rfl ?_
          refine XS.iloadN X0.here hexec rfl (hb hbytes d19) rfl ?_
          refine X0.aget hexec hB0 rfl (yv_get hB tB (i := i) (by omega)) rfl rfl (hb hbytes d20) ?_
          exact Steps.refl _)
        by_cases hv : yv A i = yv B i
        · have c5 : Steps p.tables e below (s₁.setTop (entryFrame m #[.ref a, .ref b] 3)) (s₁.setTop (mkF m 9 #[.val (.ref a), .val (.ref b), .val (.int (Int32.ofNat i + 1))] [])) := c4.trans (by
            refine XS.icmpYes X0.here hexec rfl (pc0 := 21) rfl (hb hbytes d21) rfl (ii_eq_t hv) (by decide) rfl ?_
            refine iincV X0.here hexec rfl 1 (hb hbytes d26) (by decide) rfl rfl ?_
            refine XS.goto X0.here hexec rfl (pc0 := 29) rfl (hb hbytes d29) (by decide) rfl ?_
            exact Steps.refl _)
          rw [succ32] at c5
          exact ih (i + 1) (by omega) (fun j hj => by
            by_cases e : j = i
            · rw [e]; exact hv
            · exact he j (by omega)) c5
        · exact ⟨25, _, 0, Or.inl rfl, Or.inr ⟨rfl, fun q => hv (q.2 i (by omega))⟩, c4.trans (by
            refine XS.icmpNo X0.here hexec rfl (hb hbytes d21) rfl (ii_eq_f hv) ?_
            refine iconstV X0.here hexec rfl 0 (hb hbytes d24) (by decide) ?_
            exact Steps.refl _)⟩
    obtain ⟨pc, Ls, v, hpc, hv, cz⟩ := loop A.slots.size 0 (by omega) (fun j hj => absurd hj (Nat.not_lt_zero j)) c3
    have nv : narrow .boolean (.int v) = .int v := by rcases hv with ⟨rfl, -⟩ | ⟨rfl, -⟩ <;> rfl
    rcases hpc with rfl | rfl
    · exact ⟨s₁, some (.int v), _, _, _, X0, rfl, rfl, rfl, (fun h => by cases h), ⟨v, rfl, hh0, hv⟩, fun fs hl => cz.trans (X0.ireturnOut hexec hret nv (Or.inr (Or.inl rfl)) (hb hbytes d25) hl)⟩
    · exact ⟨s₁, some (.int v), _, _, _, X0, rfl, rfl, rfl, (fun h => by cases h), ⟨v, rfl, hh0, hv⟩, fun fs hl => cz.trans (X0.ireturnOut hexec hret nv (Or.inr (Or.inl rfl)) (hb hbytes d33) hl)⟩
  · have c3 : Steps p.tables e below (s₁.setTop (entryFrame m #[.ref a, .ref b] 3)) (s₁.setTop (mkF m 35 #[.val (.ref a), .val (.ref b), .unset] [.int 0])) := c2.trans (by
      refine XS.icmpYes X0.here hexec rfl (pc0 := 4) rfl (hb hbytes d4) rfl (ii_ne_t (ne32 a31 b31 hs)) (by decide) rfl ?_
      refine iconstV X0.here hexec rfl 0 (hb hbytes d34) (by decide) ?_
      exact Steps.refl _)
    exact ⟨s₁, some (.int 0), _, _, _, X0, rfl, rfl, rfl, (fun h => by cases h), ⟨0, rfl, hh0, Or.inr ⟨rfl, fun q => hs q.1⟩⟩, fun fs hl => c3.trans (X0.ireturnOut hexec hret rfl (Or.inr (Or.inl rfl)) (hb hbytes d35) hl)⟩
end LEq
theorem Cod.ty {cd : Int32} {n : Nat} {f : Nat → Int32} {V : Cell} (h : Cod cd n f V) : Typed .byte V := fun i v hv => by
  have hi : i < V.slots.size := (Array.getElem?_eq_some_iff.mp hv).1
  rcases h with ⟨-, k1, k2⟩ | ⟨-, k1, k2, -⟩
  · rw [(k2 i (by omega)).1] at hv; cases hv; exact fits_lo8 _
  · rcases Nat.mod_two_eq_zero_or_one i with e | e
    · obtain ⟨j, rfl⟩ : ∃ j, i = 2 * j := ⟨i / 2, by omega⟩
      rw [(k2 j (by omega)).1] at hv; cases hv; exact fits_lo8 _
    · obtain ⟨j, rfl⟩ : ∃ j, i = 2 * j + 1 := ⟨i / 2, by omega⟩
      rw [(k2 j (by omega)).2] at hv; cases hv; exact fits_lo8 _
/-- the same text -/
def SameT (n : Nat) (f : Nat → Int32) (k : Nat) (g : Nat → Int32) : Prop := n = k ∧ ∀ j, j < n → f j = g j
theorem lo8_inj {x y : Int32} (h0 : ¬ x < 0) (h1 : ¬ 255 < x) (k0 : ¬ y < 0) (k1 : ¬ 255 < y) (h : lo8 x = lo8 y) : x = y := by
  rw [← lo8_mask h0 h1, ← lo8_mask k0 k1, h]
/-- arrays coded by one coder are equal just where the texts are -/
theorem Cod.eqv {cd : Int32} {n k : Nat} {f g : Nat → Int32} {V V' : Cell} (h : Cod cd n f V) (h' : Cod cd k g V') (hf : ∀ j, j < n → ¬ f j < 0 ∧ ¬ 65535 < f j) (hg : ∀ j, j < k → ¬ g j < 0 ∧ ¬ 65535 < g j) : EqC V V' ↔ SameT n f k g := by
  have yvv : ∀ {W : Cell} {i : Nat} {x : Int32}, W.slots[i]? = some (.int x) → yv W i = x := fun q => by unfold yv; rw [q]
  rcases h with ⟨rfl, k1, k2⟩ | ⟨rfl, k1, k2, -⟩
  · rcases h' with ⟨-, m1, m2⟩ | ⟨e, -⟩
    · constructor
      · rintro ⟨e1, e2⟩
        refine ⟨by omega, fun j hj => ?_⟩
        have q := e2 j (by omega)
        rw [yvv (k2 j hj).1, yvv (m2 j (by omega)).1] at q
        exact lo8_inj (hf j hj).1 (k2 j hj).2 (hg j (by omega)).1 (m2 j (by omega)).2 q
      · rintro ⟨rfl, e2⟩
        refine ⟨by omega, fun j hj => ?_⟩
        rw [yvv (k2 j (by omega)).1, yvv (m2 j (by omega)).1, e2 j (by omega)]
    · exact absurd e (by decide)
  · rcases h' with ⟨e, -⟩ | ⟨-, m1, m2, -⟩
    · exact absurd e (by decide)
    · constructor
      · rintro ⟨e1, e2⟩
        refine ⟨by omega, fun j hj => ?_⟩
        have q1 := e2 (2 * j) (by omega)
        have q2 := e2 (2 * j + 1) (by omega)
        rw [yvv (k2 j hj).1, yvv (m2 j (by omega)).1] at q1
        rw [yvv (k2 j hj).2, yvv (m2 j (by omega)).2] at q2
        rw [← pair_says (hf j hj).1 (hf j hj).2, ← pair_says (hg j (by omega)).1 (hg j (by omega)).2, q1, q2]
      · rintro ⟨rfl, e2⟩
        refine ⟨by omega, fun i hi => ?_⟩
        rcases Nat.mod_two_eq_zero_or_one i with e | e
        · obtain ⟨j, rfl⟩ : ∃ j, i = 2 * j := ⟨i / 2, by omega⟩
          rw [yvv (k2 j (by omega)).1, yvv (m2 j (by omega)).1, e2 j (by omega)]
        · obtain ⟨j, rfl⟩ : ∃ j, i = 2 * j + 1 := ⟨i / 2, by omega⟩
          rw [yvv (k2 j (by omega)).2, yvv (m2 j (by omega)).2, e2 j (by omega)]
/-- two codings differ: so do the texts -/
theorem Cod.dif {cd cd' : Int32} {n k : Nat} {f g : Nat → Int32} {V V' : Cell} (h : Cod cd n f V) (h' : Cod cd' k g V') (hne : ¬ cd = cd') : ¬ SameT n f k g := by
  rintro ⟨rfl, e⟩
  rcases h with ⟨rfl, -, k2⟩ | ⟨rfl, -, -, j, hj, hw⟩
  · rcases h' with ⟨rfl, -⟩ | ⟨-, -, -, j, hj, hw⟩
    · exact hne rfl
    · exact (k2 j hj).2 (by rw [e j hj]; exact hw)
  · rcases h' with ⟨-, -, m2⟩ | ⟨rfl, -⟩
    · exact (m2 j hj).2 (by rw [← e j hj]; exact hw)
    · exact hne rfl
/-- an object of exactly C is an instance of C -/
theorem cinst {p : Program} {l : Launch} {e : Env} {R : Room} {s : State} {m : MethodId} {args : Array Value} {below : List Frame} {meth : Method} {c : Code} {T : State} {locs : List Loc} {cells slots : Nat} (X : Stand p l e R s m args below meth c T locs cells slots) (hexec : p.tables.exec = Jvm.exec) {own C : String} {index : Nat} (hown : s.vm.findClass own = some m.cls) (hlink : (Cond.classLink own index C).before args s = true) {a : Addr} (hE : Exact C a T)
    {g : JFrame} (hg : g.method = m) {rest : List Value} (hstack : g.stack = .ref a :: rest) (hdg : decode c.code g.pc = .ok (.instanceof index, 3)) :
    ∃ T', Stand p l e R s m args below meth c T' locs cells slots ∧ T'.heap = T.heap ∧ ∀ target, Steps p.tables e below (T'.setTop { g with pc := g.pc + 3, stack := .int 1 :: rest }) target → Steps p.tables e below (T.setTop g) target := by
  obtain ⟨cB, h1, D, h2, h3, h4⟩ := hE
  have h1' : s.vm.findClass C = some cB := by rw [← X.warmed.alike.findClass]; exact h1
  obtain ⟨vm', X', st⟩ := X.instanceofYes hexec hown hlink h2 h4 h1' (by rw [h3]; exact Jvm.Free.SB.assignable_self _ _) hg hstack hdg
  exact ⟨_, X', rfl, st⟩
theorem cself {p : Program} {l : Launch} {e : Env} {R : Room} {s : State} {m : MethodId} {args : Array Value} {below : List Frame} {meth : Method} {c : Code} {T : State} {locs : List Loc} {cells slots : Nat} (X : Stand p l e R s m args below meth c T locs cells slots) (hexec : p.tables.exec = Jvm.exec) {own C : String} {index : Nat} (hown : s.vm.findClass own = some m.cls) (hlink : (Cond.classLink own index C).before args s = true) {a : Addr} (hE : Exact C a T)
    {g : JFrame} (hg : g.method = m) {rest : List Value} (hstack : g.stack = .ref a :: rest) (hdg : decode c.code g.pc = .ok (.checkcast index, 3)) :
    ∃ T', Stand p l e R s m args below meth c T' locs cells slots ∧ T'.heap = T.heap ∧ ∀ target, Steps p.tables e below (T'.setTop { g with pc := g.pc + 3, stack := .ref a :: rest }) target → Steps p.tables e below (T.setTop g) target := by
  obtain ⟨cB, h1, D, h2, h3, h4⟩ := hE
  have h1' : s.vm.findClass C = some cB := by rw [← X.warmed.alike.findClass]; exact h1
  obtain ⟨vm', X', st⟩ := X.checkcastYes hexec hown hlink h2 h4 h1' (by rw [h3]; exact Jvm.Free.SB.assignable_self _ _) hg hstack hdg
  exact ⟨_, X', rfl, fun t h => st t (by rw [← hstack] at h; exact h)⟩
namespace SEq
def yN : MethodName := ⟨"java/lang/String", "equals", "(Ljava/lang/Object;)Z"⟩
abbrev yB : ByteArray := jdk_42_method_66_code
theorem d0 : decode yB 0 = .ok (.aload_n 0, 1) := by decide +kernel
theorem d1 : decode yB 1 = .ok (.aload_n 1, 1) := by decide +kernel
theorem d2 : decode yB 2 = .ok (.if_acmp (.ne) 5, 3) := by decide +kernel
theorem d5 : decode yB 5 = .ok (.iconst 1, 1) := by decide +kernel
theorem d6 : decode yB 6 = .ok (.ireturn, 1) := by decide +kernel
theorem d7 : decode yB 7 = .ok (.aload_n 1, 1) := by decide +kernel
theorem d8 : decode yB 8 = .ok (.instanceof 10, 3) := by decide +kernel
theorem d11 : decode yB 11 = .ok (.ifCond (.eq) 43, 3) := by decide +kernel
theorem d14 : decode yB 14 = .ok (.aload_n 1, 1) := by decide +kernel
theorem d15 : decode yB 15 = .ok (.checkcast 10, 3) := by decide +kernel
theorem d18 : decode yB 18 = .ok (.astore_n 2, 1) := by decide +kernel
theorem d19 : decode yB 19 = .ok (.getstatic 38, 3) := by decide +kernel
theorem d22 : decode yB 22 = .ok (.ifCond (.eq) 14, 3) := by decide +kernel
theorem d25 : decode yB 25 = .ok (.aload_n 0, 1) := by decide +kernel
theorem d26 : decode yB 26 = .ok (.getfield 15, 3) := by decide +kernel
theorem d29 : decode yB 29 = .ok (.aload_n 2, 1) := by decide +kernel
theorem d30 : decode yB 30 = .ok (.getfield 15, 3) := by decide +kernel
theorem d33 : decode yB 33 = .ok (.if_icmp (.ne) 21, 3) := by decide +kernel
theorem d36 : decode yB 36 = .ok (.aload_n 0, 1) := by decide +kernel
theorem d37 : decode yB 37 = .ok (.getfield 9, 3) := by decide +kernel
theorem d40 : decode yB 40 = .ok (.aload_n 2, 1) := by decide +kernel
theorem d41 : decode yB 41 = .ok (.getfield 9, 3) := by decide +kernel
theorem d44 : decode yB 44 = .ok (.invokestatic 541, 3) := by decide +kernel
theorem d47 : decode yB 47 = .ok (.ifCond (.eq) 7, 3) := by decide +kernel
theorem d50 : decode yB 50 = .ok (.iconst 1, 1) := by decide +kernel
theorem d51 : decode yB 51 = .ok (.goto 4, 3) := by decide +kernel
theorem d54 : decode yB 54 = .ok (.iconst 0, 1) := by decide +kernel
theorem d55 : decode yB 55 = .ok (.ireturn, 1) := by decide +kernel
def site : List Cond := [.classLink "java/lang/String" 10 "java/lang/String", .fieldLink "java/lang/String" 38 "java/lang/String" "COMPACT_STRINGS" "Z", .fieldLink "java/lang/String" 15 "java/lang/String" "coder" "B", .fieldLink "java/lang/String" 9 "java/lang/String" "value" "[B", LEq.tab] ++ staticW "java/lang/String" 541 LEq.yN
def tab : Cond := tabOf yN yB 3 (some .boolean) site
def P (x t : Addr) (V : Cell) (cd : Int32) (n : Nat) (f : Nat → Int32) (y t' : Addr) (V' : Cell) (cd' : Int32) (k : Nat) (g : Nat → Int32) (z : Int32) (args : Array Value) (s : State) : Prop := args = #[.ref x, .ref y] ∧ Txt x t V cd n f s ∧ Txt y t' V' cd' k g s ∧ StaticIs s "java/lang/String" "COMPACT_STRINGS" "Z" (.int z) ∧ ¬ z = 0
/-- equals(Object) of two Strings: whether the texts are the same -/
theorem law (l : Launch) (x t : Addr) (V : Cell) (cd : Int32) (n : Nat) (f : Nat → Int32) (y t' : Addr) (V' : Cell) (cd' : Int32) (k : Nat) (g : Nat → Int32) (z : Int32) : Law l yN 2 1 1 14 yB 3 (some .boolean) site (P x t V cd n f y t' V' cd' k g z) (Says01 (SameT n f k g)) [] 0 0 := by
  refine Law.of_walk (plainFor_of_name (by decide +kernel)) (by decide +kernel) (by decide +kernel) (by decide) (fun _ _ h => by rw [h.1]; rfl) (fun _ U U' hal hh h => ⟨h.1, h.2.1.mv hal hh, h.2.2.1.mv hal hh, h.2.2.2.1.there hal hh, h.2.2.2.2⟩) (fun r U U' V V' h1 hal h2 h => Says01.mv r U U' V V' h1 hal h2 h) ?_
  intro p e s m args below meth c s₁ X0 hexec hbytes hml hret hlk hnm hown hh0 W hP
  obtain ⟨rfl, hx, hy, s1, hz⟩ := hP
  have c1 : Steps p.tables e below (s₁.setTop (entryFrame m #[.ref x, .ref y] 3)) (s₁.setTop (mkF m 2 #[.val (.ref x), .val (.ref y), .unset] [.ref y, .ref x])) := Steps.trans (entry rfl) (by
    show Steps p.tables e below (s₁.setTop (mkF m 0 #[.val (.ref x), .val (.ref y), .unset] [])) _
    refine XS.aloadN X0.here hexec rfl (hb hbytes d0) rfl rfl ?_
    refine XS.aloadN X0.here hexec rfl (hb hbytes d1) rfl rfl ?_
    exact Steps.refl _)
  by_cases hxy : x = y
  · have c2 : Steps p.tables e below (s₁.setTop (entryFrame m #[.ref x, .ref y] 3)) (s₁.setTop (mkF m 6 #[.val (.ref x), .val (.ref y), .unset] [.int 1])) := c1.trans (by
      refine acmpNo X0.here hexec rfl (hb hbytes d2) rfl rfl rfl (by simp [acmp, hxy]) ?_
      refine iconstV X0.here hexec rfl 1 (hb hbytes d5) (by decide) ?_
      exact Steps.refl _)
    subst hxy
    have ec : cd = cd' := by
      obtain ⟨D, fd, a1, a2, a3⟩ := hx.2.2.1
      obtain ⟨D', fd', b1, b2, b3⟩ := hy.2.2.1
      cases a1.symm.trans b1
      obtain ⟨q1, q2, q3, q4⟩ := a2.1
      obtain ⟨r1, r2, r3, r4⟩ := b2.1
      cases q4.symm.trans r4
      cases a3.symm.trans b3; rfl
    have et : t = t' := by
      obtain ⟨D, fd, a1, a2, a3⟩ := hx.2.1
      obtain ⟨D', fd', b1, b2, b3⟩ := hy.2.1
      cases a1.symm.trans b1
      obtain ⟨q1, q2, q3, q4⟩ := a2.1
      obtain ⟨r1, r2, r3, r4⟩ := b2.1
      cases q4.symm.trans r4
      cases a3.symm.trans b3; rfl
    subst ec et
    have ev : V = V' := by cases hx.2.2.2.1.1.symm.trans hy.2.2.2.1.1; rfl
    subst ev
    have hs : SameT n f k g := (Cod.eqv hx.2.2.2.2.1 hy.2.2.2.2.1 hx.2.2.2.2.2 hy.2.2.2.2.2).mp ⟨rfl, fun _ _ => rfl⟩
    exact ⟨s₁, some (.int 1), _, _, _, X0, rfl, rfl, rfl, (fun h => by cases h), ⟨1, rfl, hh0, Or.inl ⟨rfl, hs⟩⟩, fun fs hl => c2.trans (X0.ireturnOut hexec hret rfl (Or.inr (Or.inl rfl)) (hb hbytes d6) hl)⟩
  · have c2 : Steps p.tables e below (s₁.setTop (entryFrame m #[.ref x, .ref y] 3)) (s₁.setTop (mkF m 8 #[.val (.ref x), .val (.ref y), .unset] [.ref y])) := c1.trans (by
      refine acmpYes X0.here hexec rfl (pc0 := 2) rfl (hb hbytes d2) rfl rfl rfl (by simp [acmp, hxy]) (by decide) rfl ?_
      refine XS.aloadN X0.here hexec rfl (hb hbytes d7) rfl rfl ?_
      exact Steps.refl _)
    obtain ⟨T3, X3, q3, st3⟩ := cinst X0 hexec hown (wk W (.classLink "java/lang/String" 10 "java/lang/String")) (hy.mv X0.warmed.alike hh0).1 (g := (mkF m 8 #[.val (.ref x), .val (.ref y), .unset] [.ref y])) rfl (rest := []) rfl (hb hbytes d8)
    have hh3 := q3.trans hh0
    have c4 : Steps p.tables e below (s₁.setTop (entryFrame m #[.ref x, .ref y] 3)) (T3.setTop (mkF m 15 #[.val (.ref x), .val (.ref y), .unset] [.ref y])) := (c2.trans (st3 _ (Steps.refl _))).trans (by
      refine XS.ifNo X3.here hexec rfl (hb hbytes d11) rfl (i0_eq_f (by decide)) ?_
      refine XS.aloadN X3.here hexec rfl (hb hbytes d14) rfl rfl ?_
      exact Steps.refl _)
    obtain ⟨T5, X5, q5, st5⟩ := cself X3 hexec hown (wk W (.classLink "java/lang/String" 10 "java/lang/String")) (hy.mv X3.warmed.alike hh3).1 (g := (mkF m 15 #[.val (.ref x), .val (.ref y), .unset] [.ref y])) rfl (rest := []) rfl (hb hbytes d15)
    have hh5 := q5.trans hh3
    have c6 : Steps p.tables e below (s₁.setTop (entryFrame m #[.ref x, .ref y] 3)) (T5.setTop (mkF m 19 #[.val (.ref x), .val (.ref y), .val (.ref y)] [])) := (c4.trans (st5 _ (Steps.refl _))).trans (by
      refine XS.astoreN X5.here hexec rfl (hb hbytes d18) rfl rfl rfl ?_
      exact Steps.refl _)
    obtain ⟨T7, X7, q7, st7⟩ := X5.sget hexec hown (wk W (.fieldLink "java/lang/String" 38 "java/lang/String" "COMPACT_STRINGS" "Z")) s1 (fun _ _ h => by rw [hh5]; exact h) (g := (mkF m 19 #[.val (.ref x), .val (.ref y), .val (.ref y)] [])) rfl (hb hbytes d19)
    have hh7 := q7.trans hh5
    have c8 : Steps p.tables e below (s₁.setTop (entryFrame m #[.ref x, .ref y] 3)) (T7.setTop (mkF m 26 #[.val (.ref x), .val (.ref y), .val (.ref y)] [.ref x])) := (c6.trans (st7 _ (Steps.refl _))).trans (by
      refine XS.ifNo X7.here hexec rfl (hb hbytes d22) rfl (i0_eq_f hz) ?_
      refine XS.aloadN X7.here hexec rfl (hb hbytes d25) rfl rfl ?_
      exact Steps.refl _)
    obtain ⟨T9, X9, q9, st9⟩ := X7.hget hexec hown (wk W (.fieldLink "java/lang/String" 15 "java/lang/String" "coder" "B")) (hx.mv X7.warmed.alike hh7).2.2.1 (g := (mkF m 26 #[.val (.ref x), .val (.ref y), .val (.ref y)] [.ref x])) rfl (rest := []) rfl (hb hbytes d26)
    have hh9 := q9.trans hh7
    have c10 : Steps p.tables e below (s₁.setTop (entryFrame m #[.ref x, .ref y] 3)) (T9.setTop (mkF m 30 #[.val (.ref x), .val (.ref y), .val (.ref y)] [.ref y, .int cd])) := (c8.trans (st9 _ (Steps.refl _))).trans (by
      refine XS.aloadN X9.here hexec rfl (hb hbytes d29) rfl rfl ?_
      exact Steps.refl _)
    obtain ⟨T11, X11, q11, st11⟩ := X9.hget hexec hown (wk W (.fieldLink "java/lang/String" 15 "java/lang/String" "coder" "B")) (hy.mv X9.warmed.alike hh9).2.2.1 (g := (mkF m 30 #[.val (.ref x), .val (.ref y), .val (.ref y)] [.ref y, .int cd])) rfl (rest := [.int cd]) rfl (hb hbytes d30)
    have hh11 := q11.trans hh9
    have c12 : Steps p.tables e below (s₁.setTop (entryFrame m #[.ref x, .ref y] 3)) (T11.setTop (mkF m 33 #[.val (.ref x), .val (.ref y), .val (.ref y)] [.int cd', .int cd])) := c10.trans (st11 _ (Steps.refl _))
    by_cases hcd : cd = cd'
    · subst hcd
      have c13 : Steps p.tables e below (s₁.setTop (entryFrame m #[.ref x, .ref y] 3)) (T11.setTop (mkF m 37 #[.val (.ref x), .val (.ref y), .val (.ref y)] [.ref x])) := c12.trans (by
        refine XS.icmpNo X11.here hexec rfl (hb hbytes d33) rfl (ii_ne_f rfl) ?_
        refine XS.aloadN X11.here hexec rfl (hb hbytes d36) rfl rfl ?_
        exact Steps.refl _)
      obtain ⟨T14, X14, q14, st14⟩ := X11.hget hexec hown (wk W (.fieldLink "java/lang/String" 9 "java/lang/String" "value" "[B")) (hx.mv X11.warmed.alike hh11).2.1 (g := (mkF m 37 #[.val (.ref x), .val (.ref y), .val (.ref y)] [.ref x])) rfl (rest := []) rfl (hb hbytes d37)
      have hh14 := q14.trans hh11
      have c15 : Steps p.tables e below (s₁.setTop (entryFrame m #[.ref x, .ref y] 3)) (T14.setTop (mkF m 41 #[.val (.ref x), .val (.ref y), .val (.ref y)] [.ref y, .ref t])) := (c13.trans (st14 _ (Steps.refl _))).trans (by
        refine XS.aloadN X14.here hexec rfl (hb hbytes d40) rfl rfl ?_
        exact Steps.refl _)
      obtain ⟨T16, X16, q16, st16⟩ := X14.hget hexec hown (wk W (.fieldLink "java/lang/String" 9 "java/lang/String" "value" "[B")) (hy.mv X14.warmed.alike hh14).2.1 (g := (mkF m 41 #[.val (.ref x), .val (.ref y), .val (.ref y)] [.ref y, .ref t])) rfl (rest := [.ref t]) rfl (hb hbytes d41)
      have hh16 := q16.trans hh14
      have c17 : Steps p.tables e below (s₁.setTop (entryFrame m #[.ref x, .ref y] 3)) (T16.setTop (mkF m 44 #[.val (.ref x), .val (.ref y), .val (.ref y)] [.ref t', .ref t])) := c15.trans (st16 _ (Steps.refl _))
      obtain ⟨v18, T18, X18, E18, g18⟩ := X16.callS hexec (LEq.law l t V t' V') hown (wks W (staticW "java/lang/String" 541 LEq.yN)) (wk W LEq.tab) (W := 0) (Nat.le_of_ble_eq_true rfl) (Nat.le_of_ble_eq_true rfl) (Nat.le_refl _) (Nat.le_refl _) (g := (mkF m 44 #[.val (.ref x), .val (.ref y), .val (.ref y)] [.ref t', .ref t])) rfl (by rw [hml]; rfl) c17 (argsL := [.ref t, .ref t']) (rest := []) rfl rfl (by show 2 * 0 + 0 ≤ _; decide) (hb hbytes d44) (⟨rfl, hx.2.2.2.1.mv X16.warmed.alike hh16, hx.2.2.2.2.1.ty, hy.2.2.2.1.mv X16.warmed.alike hh16, hy.2.2.2.2.1.ty⟩)
      obtain ⟨v, rfl, q18, hv⟩ := E18
      have iff := Cod.eqv hx.2.2.2.2.1 hy.2.2.2.2.1 hx.2.2.2.2.2 hy.2.2.2.2.2
      rcases hv with ⟨rfl, he⟩ | ⟨rfl, he⟩
      · have c19 : Steps p.tables e below (s₁.setTop (entryFrame m #[.ref x, .ref y] 3)) (T18.setTop (mkF m 55 #[.val (.ref x), .val (.ref y), .val (.ref y)] [.int 1])) := Steps.trans g18 (by
          refine XS.ifNo X18.here hexec rfl (hb hbytes d47) rfl (i0_eq_f (by decide)) ?_
          refine iconstV X18.here hexec rfl 1 (hb hbytes d50) (by decide) ?_
          refine XS.goto X18.here hexec rfl (pc0 := 51) rfl (hb hbytes d51) (by decide) rfl ?_
          exact Steps.refl _)
        exact ⟨T18, some (.int 1), _, _, _, X18, rfl, rfl, rfl, (fun h => by cases h), ⟨1, rfl, q18.trans hh16, Or.inl ⟨rfl, iff.mp he⟩⟩, fun fs hl => c19.trans (X18.ireturnOut hexec hret rfl (Or.inr (Or.inl rfl)) (hb hbytes d55) hl)⟩
      · have c19 : Steps p.tables e below (s₁.setTop (entryFrame m #[.ref x, .ref y] 3)) (T18.setTop (mkF m 55 #[.val (.ref x), .val (.ref y), .val (.ref y)] [.int 0])) := Steps.trans g18 (by
          refine XS.ifYes X18.here hexec rfl (pc0 := 47) rfl (hb hbytes d47) rfl (i0_eq_t rfl) (by decide) rfl ?_
          refine iconstV X18.here hexec rfl 0 (hb hbytes d54) (by decide) ?_
          exact Steps.refl _)
        exact ⟨T18, some (.int 0), _, _, _, X18, rfl, rfl, rfl, (fun h => by cases h), ⟨0, rfl, q18.trans hh16, Or.inr ⟨rfl, fun q => he (iff.mpr q)⟩⟩, fun fs hl => c19.trans (X18.ireturnOut hexec hret rfl (Or.inr (Or.inl rfl)) (hb hbytes d55) hl)⟩
    · have c13 : Steps p.tables e below (s₁.setTop (entryFrame m #[.ref x, .ref y] 3)) (T11.setTop (mkF m 55 #[.val (.ref x), .val (.ref y), .val (.ref y)] [.int 0])) := c12.trans (by
        refine XS.icmpYes X11.here hexec rfl (pc0 := 33) rfl (hb hbytes d33) rfl (ii_ne_t hcd) (by decide) rfl ?_
        refine iconstV X11.here hexec rfl 0 (hb hbytes d54) (by decide) ?_
        exact Steps.refl _)
      exact ⟨T11, some (.int 0), _, _, _, X11, rfl, rfl, rfl, (fun h => by cases h), ⟨0, rfl, hh11, Or.inr ⟨rfl, Cod.dif hx.2.2.2.2.1 hy.2.2.2.2.1 hcd⟩⟩, fun fs hl => c13.trans (X11.ireturnOut hexec hret rfl (Or.inr (Or.inl rfl)) (hb hbytes d55) hl)⟩
theorem pays {l : Launch} {R : Room} {p : Program} {e : Env} {below : List Frame} {s : State} {sargs : Array Value} {len W : Nat} (x t : Addr) (V : Cell) (cd : Int32) (n : Nat) (f : Nat → Int32) (y t' : Addr) (V' : Cell) (cd' : Int32) (k : Nat) (g : Nat → Int32) (z : Int32) (htab : tab.before sargs s = true) (hfr : 2 ≤ R.frames) (hlo : W + 28 ≤ R.locals) :
    Back l R p e below s sargs yN len W (fun A₁ a₁ => A₁.cells + 0 ≤ R.cells ∧ A₁.slots + 0 ≤ R.slots ∧ P x t V cd n f y t' V' cd' k g z a₁ A₁.U) (fun A₁ _ v₁ B₁ => Says01 (SameT n f k g) v₁ A₁.U B₁.U ∧ B₁.locs = A₁.locs ++ [] ∧ B₁.cells = A₁.cells + 0 ∧ B₁.slots = A₁.slots + 0) :=
  (law l x t V cd n f y t' V' cd' k g z).pays htab hfr (by omega)
end SEq
end StrChars
namespace StrChars.Road
open Jvm Sem ClassFile Op Lib Jvm.Stand Jvm.Free Jvm.Free.XT
open Jvm.Lib.Cold (StaticIs)
/-- the words of String.equals(Object) -/
abbrev wordsEq : List Jvm.Cond := [.code SEq.yN SEq.yB 3 (some .boolean), .initialized ST, .classLink ST 10 ST, .fieldLink ST 38 ST "COMPACT_STRINGS" "Z", .fieldLink ST 15 ST "coder" "B", .fieldLink ST 9 ST "value" "[B", .methodLink ST 541 LEq.yN, .static LEq.yN, .code LEq.yN LEq.yB 3 (some .boolean), .initialized "java/lang/StringLatin1"]
theorem tabEq_of {a : Array Value} {s : State} (h : ∀ w ∈ wordsEq, w.before a s = true) : SEq.tab.before a s = true := by
  have hl : LEq.tab.before a s = true := unparts (wk h (.code LEq.yN LEq.yB 3 (some .boolean))) (wks h (.initialized LEq.yN.cls :: LEq.site))
  have q := consq hl h
  exact unparts (wk q (.code SEq.yN SEq.yB 3 (some .boolean))) (wks q (.initialized SEq.yN.cls :: SEq.site))
theorem movedEq {Z s : State} {a0 args : Array Value} (hZ : Z.Warmed39 s.vm) (hw : ∀ d ∈ wordsEq, d.before a0 Z = true) : ∀ d ∈ wordsEq, d.before args s = true := fun d hd => by
  have t : ∀ d ∈ wordsEq, (d.onTables && d.keepsFace) = true := by decide +kernel
  exact RoadKit.mv hZ (hw d hd) (t d hd)
/-- the road's facts of a String, as the laws ask it -/
theorem txt_of {Z U : State} {a0 : Array Value} {kI : Nat} (wi : (Jvm.Cond.instantiable ST kI).before a0 Z = true) (al : Z.vm.Alike U.vm) {x t : Addr} {kb : ClassId} {cs : List Int32} {cd N2 : Int32} {vs : List Value} (E : RoadKit.Exa Z U.heap x ST) (V : RoadKit.Fld Z U.heap x ST "value" "[B" (.ref t)) (C : RoadKit.Fld Z U.heap x ST "coder" "B" (.int cd)) (K : RoadKit.Arv Z U.heap t kb .byte N2 vs (.int 0)) (hc : CodA cs cd N2 vs) (hb : ∀ c ∈ cs, ¬ c < 0 ∧ ¬ (65535 : Int32) < c) (l2 : cs.length ≤ 4000) :
    ∃ A, Txt x t A cd cs.length (fun j => cs.getD j 0) U := by
  obtain ⟨A, K1, K2, K3, K4, K5, K6⟩ := K
  have hcod := hc.cod (by omega) K3 K5
  obtain ⟨D, fV, fC, hB, F1, F2, g1, g2, -, -⟩ := strObj wi al E V C
  exact ⟨A, ⟨_, hB.2.2.1, D, hB.1, rfl, by cases q : D.vm <;> first | rfl | exact absurd q (hB.2.1.2 _)⟩, Has.of hB F1 g1, Has.of hB F2 g2, ⟨K1.1, State.isArrayOf_alike al K1.2.1, K1.2.2, by rcases hcod with ⟨-, q, -⟩ | ⟨-, q, -⟩ <;> omega⟩, hcod, fun j hj => by
    have e : cs.getD j 0 = cs[j] := by simp [List.getD_eq_getElem?_getD, hj]
    show ¬ cs.getD j 0 < 0 ∧ ¬ 65535 < cs.getD j 0
    rw [e]; exact hb _ (List.getElem_mem _)⟩
theorem same_list (cs ds : List Int32) : SameT cs.length (fun j => cs.getD j 0) ds.length (fun j => ds.getD j 0) ↔ cs = ds := by
  constructor
  · rintro ⟨e, q⟩
    refine List.ext_getElem e fun j h1 h2 => ?_
    have := q j h1
    simpa [List.getD_eq_getElem?_getD, h1, h2] using this
  · rintro rfl
    exact ⟨rfl, fun _ _ => rfl⟩
/-- **equals(Object) OF TWO SUCH STRINGS**: 1 just where the chars are the same -/
theorem eqW {p : Program} {l : Launch} {e : Env} {R : Room} {s : State} {args : Array Value} {below : List Frame} {len W : Nat} {Z : State} {a0 : Array Value} {h : Heap} (hZ : Z.Warmed39 s.vm) (hw : ∀ d ∈ wordsEq, d.before a0 Z = true) {kI : Nat} (wi : (Jvm.Cond.instantiable ST kI).before a0 Z = true)
    {x t : Addr} {kb : ClassId} {cs : List Int32} {cd N2 : Int32} {vs : List Value} (E : RoadKit.Exa Z h x ST) (V : RoadKit.Fld Z h x ST "value" "[B" (.ref t)) (C : RoadKit.Fld Z h x ST "coder" "B" (.int cd)) (K : RoadKit.Arv Z h t kb .byte N2 vs (.int 0)) (hc : CodA cs cd N2 vs) (hb : ∀ c ∈ cs, ¬ c < 0 ∧ ¬ (65535 : Int32) < c) (l2 : cs.length ≤ 4000)
    {y t' : Addr} {kb' : ClassId} {ds : List Int32} {cd' N2' : Int32} {vs' : List Value} (E' : RoadKit.Exa Z h y ST) (V' : RoadKit.Fld Z h y ST "value" "[B" (.ref t')) (C' : RoadKit.Fld Z h y ST "coder" "B" (.int cd')) (K' : RoadKit.Arv Z h t' kb' .byte N2' vs' (.int 0)) (hc' : CodA ds cd' N2' vs') (hb' : ∀ c ∈ ds, ¬ c < 0 ∧ ¬ (65535 : Int32) < c) (l2' : ds.length ≤ 4000)
    {z : Int32} (S : RoadKit.Sta Z h ST "COMPACT_STRINGS" "Z" (.int z)) (hz : ¬ z = 0) (hfr : 2 ≤ R.frames) (hlo : W + 28 ≤ R.locals) :
    Back l R p e below s args (⟨"java/lang/String", "equals", "(Ljava/lang/Object;)Z"⟩ : MethodName) len W (fun P a => a = #[.ref x, .ref y] ∧ P.U.heap = h ∧ P.cells + 0 ≤ R.cells ∧ P.slots + 0 ≤ R.slots)
      (fun P _ v B => ∃ L, (((v = some (.int 1) ∧ cs = ds) ∨ (v = some (.int 0) ∧ ¬ cs = ds)) ∧ L = [] ∧ B.U.heap = h) ∧ B.locs = P.locs ++ L ∧ B.cells = P.cells + 0 ∧ B.slots = P.slots + 0) := by
  intro m meth c P g ig mk a X hg hsize hdg hW hn hp'
  obtain ⟨rfl, rfl, r1, r2⟩ := hp'
  have al : Z.vm.Alike P.U.vm := hZ.alike.trans X.warmed.alike
  obtain ⟨A, hx⟩ := txt_of wi al E V C K hc hb l2
  obtain ⟨A', hy⟩ := txt_of wi al E' V' C' K' hc' hb' l2'
  obtain ⟨v, B, X', ⟨⟨w, hv, hh, hq⟩, hl, hk, hs⟩, st⟩ := SEq.pays x t A cd cs.length (fun j => cs.getD j 0) y t' A' cd' ds.length (fun j => ds.getD j 0) z (tabEq_of (movedEq hZ hw)) hfr hlo m meth c P g ig mk _ X hg hsize hdg hW hn ⟨r1, r2, rfl, hx, hy, sta_is al S, hz⟩
  refine ⟨v, B, X', ⟨[], ⟨?_, rfl, hh⟩, hl, hk, hs⟩, st⟩
  rcases hq with ⟨rfl, q⟩ | ⟨rfl, q⟩
  · exact Or.inl ⟨hv, (same_list cs ds).mp q⟩
  · exact Or.inr ⟨hv, fun e => q ((same_list cs ds).mpr e)⟩
end StrChars.Road
namespace StrChars.Road
open Jvm Sem ClassFile Op Lib Jvm.Stand Jvm.Free Jvm.Free.XT
open Jvm.Lib.Cold (StaticIs)
/-- what backV says of its String, as the contracts of this text ask it: cs's low bytes, coder 0 -/
theorem codOf {cs : List Int32} {n : Nat} (hn : cs.length = n) (hb : ∀ c ∈ cs, ¬ 255 < c) : CodA cs 0 (Int32.ofNat n) ((cs.map lo8).map Value.int) := Or.inl ⟨rfl, by rw [hn], by simp [List.map_map, Function.comp_def], hb⟩
end StrChars.Road
end Jvm.Pilot.@@N@@
namespace Jvm.Pilot.@@N@@
open Jvm Jvm.ClassFile Sem Op Lib Jvm.Free Jvm.Stand Jvm.LawKit Jvm.RoadKit Bundle Jvm.Own Jvm.Pilot.@@N@@.Jvm.D
/-- what the two statics of the JDK's set hold -/
def Cst (Z : State) : Prop := (∃ z : Int32, Sta Z Z.heap "java/lang/String" "COMPACT_STRINGS" "Z" (.int z) ∧ ¬ z = 0) ∧ ∃ f : Value, Sta Z Z.heap "jdk/internal/util/Preconditions" "SIOOBE_FORMATTER" "Ljava/util/function/BiFunction;" f ∧ f.isRef = true
def XS0 (Z : State) : Prop := True
def HW (Z : State) (a0 : Array Value) : Prop := (∀ d ∈ tables_1, d.before a0 Z = true) ∧ Cst Z ∧ XS0 Z
theorem ow_0 {Z : State} {a0 : Array Value} (hw : HW Z a0) : (Jvm.Cond.classLink "com/example/pilotage/pilotage/core/LoginToStringPinLaw" (7 : Nat) "java/lang/String").before a0 Z = true := hw.1 _ (List.mem_of_getElem? (i := 0) rfl)
theorem ow_1 {Z : State} {a0 : Array Value} (hw : HW Z a0) : (Jvm.Cond.instantiable "java/lang/String" (4 : Nat)).before a0 Z = true := hw.1 _ (List.mem_of_getElem? (i := 1) rfl)
theorem ow_2 {Z : State} {a0 : Array Value} (hw : HW Z a0) : (Jvm.Cond.initialized "java/lang/String").before a0 Z = true := hw.1 _ (List.mem_of_getElem? (i := 2) rfl)
theorem ow_3 {Z : State} {a0 : Array Value} (hw : HW Z a0) : (Jvm.Cond.arrayClass Jvm.ClassFile.FieldType.char).before a0 Z = true := hw.1 _ (List.mem_of_getElem? (i := 3) rfl)
theorem ow_4 {Z : State} {a0 : Array Value} (hw : HW Z a0) : (Jvm.Cond.methodLink "com/example/pilotage/pilotage/core/LoginToStringPinLaw" (9 : Nat) ({ cls := "java/lang/String", name := "<init>", desc := "([C)V" } : Jvm.MethodName)).before a0 Z = true := hw.1 _ (List.mem_of_getElem? (i := 4) rfl)
theorem ow_5 {Z : State} {a0 : Array Value} (hw : HW Z a0) : (Jvm.Cond.instanceMethod ({ cls := "java/lang/String", name := "<init>", desc := "([C)V" } : Jvm.MethodName)).before a0 Z = true := hw.1 _ (List.mem_of_getElem? (i := 5) rfl)
theorem ow_6 {Z : State} {a0 : Array Value} (hw : HW Z a0) : (Jvm.Cond.code ({ cls := "java/lang/String", name := "<init>", desc := "([C)V" } : Jvm.MethodName) jdk_42_method_3_code (2 : Nat) (Option.none : Option Jvm.ClassFile.FieldType)).before a0 Z = true := hw.1 _ (List.mem_of_getElem? (i := 6) rfl)
theorem ow_11 {Z : State} {a0 : Array Value} (hw : HW Z a0) : (Jvm.Cond.methodLink "java/lang/String" (1 : Nat) ({ cls := "java/lang/Object", name := "<init>", desc := "()V" } : Jvm.MethodName)).before a0 Z = true := hw.1 _ (List.mem_of_getElem? (i := 11) rfl)
theorem ow_12 {Z : State} {a0 : Array Value} (hw : HW Z a0) : (Jvm.Cond.instanceMethod ({ cls := "java/lang/Object", name := "<init>", desc := "()V" } : Jvm.MethodName)).before a0 Z = true := hw.1 _ (List.mem_of_getElem? (i := 12) rfl)
theorem ow_13 {Z : State} {a0 : Array Value} (hw : HW Z a0) : (Jvm.Cond.code ({ cls := "java/lang/Object", name := "<init>", desc := "()V" } : Jvm.MethodName) object_method_1_code (1 : Nat) (Option.none : Option Jvm.ClassFile.FieldType)).before a0 Z = true := hw.1 _ (List.mem_of_getElem? (i := 13) rfl)
theorem ow_14 {Z : State} {a0 : Array Value} (hw : HW Z a0) : (Jvm.Cond.fieldLink "java/lang/String" (38 : Nat) "java/lang/String" "COMPACT_STRINGS" "Z").before a0 Z = true := hw.1 _ (List.mem_of_getElem? (i := 14) rfl)
theorem ow_19 {Z : State} {a0 : Array Value} (hw : HW Z a0) : (Jvm.Cond.arrayClass Jvm.ClassFile.FieldType.byte).before a0 Z = true := hw.1 _ (List.mem_of_getElem? (i := 19) rfl)
theorem ow_26 {Z : State} {a0 : Array Value} (hw : HW Z a0) : (Jvm.Cond.fieldLink "java/lang/String" (15 : Nat) "java/lang/String" "coder" "B").before a0 Z = true := hw.1 _ (List.mem_of_getElem? (i := 26) rfl)
theorem ow_27 {Z : State} {a0 : Array Value} (hw : HW Z a0) : (Jvm.Cond.laysFinal "java/lang/String" "java/lang/String" "coder" "B").before a0 Z = true := hw.1 _ (List.mem_of_getElem? (i := 27) rfl)
theorem ow_28 {Z : State} {a0 : Array Value} (hw : HW Z a0) : (Jvm.Cond.fieldLink "java/lang/String" (9 : Nat) "java/lang/String" "value" "[B").before a0 Z = true := hw.1 _ (List.mem_of_getElem? (i := 28) rfl)
theorem ow_29 {Z : State} {a0 : Array Value} (hw : HW Z a0) : (Jvm.Cond.laysFinal "java/lang/String" "java/lang/String" "value" "[B").before a0 Z = true := hw.1 _ (List.mem_of_getElem? (i := 29) rfl)
theorem ow_30 {Z : State} {a0 : Array Value} (hw : HW Z a0) : (Jvm.Cond.classLink "com/example/pilotage/pilotage/core/LoginToStringPinLaw" (12 : Nat) "com/example/pilotage/pilotage/core/ReadinessCheck$Login").before a0 Z = true := hw.1 _ (List.mem_of_getElem? (i := 30) rfl)
theorem ow_31 {Z : State} {a0 : Array Value} (hw : HW Z a0) : (Jvm.Cond.instantiable "com/example/pilotage/pilotage/core/ReadinessCheck$Login" (3 : Nat)).before a0 Z = true := hw.1 _ (List.mem_of_getElem? (i := 31) rfl)
theorem ow_32 {Z : State} {a0 : Array Value} (hw : HW Z a0) : (Jvm.Cond.initialized "com/example/pilotage/pilotage/core/ReadinessCheck$Login").before a0 Z = true := hw.1 _ (List.mem_of_getElem? (i := 32) rfl)
theorem ow_33 {Z : State} {a0 : Array Value} (hw : HW Z a0) : (Jvm.Cond.stringLink "com/example/pilotage/pilotage/core/LoginToStringPinLaw" (14 : Nat) "").before a0 Z = true := hw.1 _ (List.mem_of_getElem? (i := 33) rfl)
theorem ow_36 {Z : State} {a0 : Array Value} (hw : HW Z a0) : (Jvm.Cond.methodLink "com/example/pilotage/pilotage/core/LoginToStringPinLaw" (16 : Nat) ({ cls := "com/example/pilotage/pilotage/core/ReadinessCheck$Login", name := "<init>", desc := "(Ljava/lang/String;Ljava/lang/String;Ljava/lang/String;)V" } : Jvm.MethodName)).before a0 Z = true := hw.1 _ (List.mem_of_getElem? (i := 36) rfl)
theorem ow_37 {Z : State} {a0 : Array Value} (hw : HW Z a0) : (Jvm.Cond.instanceMethod ({ cls := "com/example/pilotage/pilotage/core/ReadinessCheck$Login", name := "<init>", desc := "(Ljava/lang/String;Ljava/lang/String;Ljava/lang/String;)V" } : Jvm.MethodName)).before a0 Z = true := hw.1 _ (List.mem_of_getElem? (i := 37) rfl)
theorem ow_38 {Z : State} {a0 : Array Value} (hw : HW Z a0) : (Jvm.Cond.code ({ cls := "com/example/pilotage/pilotage/core/ReadinessCheck$Login", name := "<init>", desc := "(Ljava/lang/String;Ljava/lang/String;Ljava/lang/String;)V" } : Jvm.MethodName) prog_22_method_1_code (4 : Nat) (Option.none : Option Jvm.ClassFile.FieldType)).before a0 Z = true := hw.1 _ (List.mem_of_getElem? (i := 38) rfl)
theorem ow_39 {Z : State} {a0 : Array Value} (hw : HW Z a0) : (Jvm.Cond.methodLink "com/example/pilotage/pilotage/core/ReadinessCheck$Login" (1 : Nat) ({ cls := "java/lang/Record", name := "<init>", desc := "()V" } : Jvm.MethodName)).before a0 Z = true := hw.1 _ (List.mem_of_getElem? (i := 39) rfl)
theorem ow_40 {Z : State} {a0 : Array Value} (hw : HW Z a0) : (Jvm.Cond.instanceMethod ({ cls := "java/lang/Record", name := "<init>", desc := "()V" } : Jvm.MethodName)).before a0 Z = true := hw.1 _ (List.mem_of_getElem? (i := 40) rfl)
theorem ow_42 {Z : State} {a0 : Array Value} (hw : HW Z a0) : (Jvm.Cond.initialized "java/lang/Record").before a0 Z = true := hw.1 _ (List.mem_of_getElem? (i := 42) rfl)
theorem ow_43 {Z : State} {a0 : Array Value} (hw : HW Z a0) : (Jvm.Cond.code ({ cls := "java/lang/Record", name := "<init>", desc := "()V" } : Jvm.MethodName) jdk_30_method_1_code (1 : Nat) (Option.none : Option Jvm.ClassFile.FieldType)).before a0 Z = true := hw.1 _ (List.mem_of_getElem? (i := 43) rfl)
theorem ow_44 {Z : State} {a0 : Array Value} (hw : HW Z a0) : (Jvm.Cond.methodLink "java/lang/Record" (1 : Nat) ({ cls := "java/lang/Object", name := "<init>", desc := "()V" } : Jvm.MethodName)).before a0 Z = true := hw.1 _ (List.mem_of_getElem? (i := 44) rfl)
theorem ow_45 {Z : State} {a0 : Array Value} (hw : HW Z a0) : (Jvm.Cond.stringLink "com/example/pilotage/pilotage/core/ReadinessCheck$Login" (7 : Nat) "username").before a0 Z = true := hw.1 _ (List.mem_of_getElem? (i := 45) rfl)
theorem ow_46 {Z : State} {a0 : Array Value} (hw : HW Z a0) : (Jvm.Cond.methodLink "com/example/pilotage/pilotage/core/ReadinessCheck$Login" (9 : Nat) ({ cls := "java/util/Objects", name := "requireNonNull", desc := "(Ljava/lang/Object;Ljava/lang/String;)Ljava/lang/Object;" } : Jvm.MethodName)).before a0 Z = true := hw.1 _ (List.mem_of_getElem? (i := 46) rfl)
theorem ow_47 {Z : State} {a0 : Array Value} (hw : HW Z a0) : (Jvm.Cond.static ({ cls := "java/util/Objects", name := "requireNonNull", desc := "(Ljava/lang/Object;Ljava/lang/String;)Ljava/lang/Object;" } : Jvm.MethodName)).before a0 Z = true := hw.1 _ (List.mem_of_getElem? (i := 47) rfl)
theorem ow_48 {Z : State} {a0 : Array Value} (hw : HW Z a0) : (Jvm.Cond.initialized "java/util/Objects").before a0 Z = true := hw.1 _ (List.mem_of_getElem? (i := 48) rfl)
theorem ow_49 {Z : State} {a0 : Array Value} (hw : HW Z a0) : (Jvm.Cond.code ({ cls := "java/util/Objects", name := "requireNonNull", desc := "(Ljava/lang/Object;Ljava/lang/String;)Ljava/lang/Object;" } : Jvm.MethodName) jdk_31_method_11_code (2 : Nat) (Option.some (Jvm.ClassFile.FieldType.object "java/lang/Object"))).before a0 Z = true := hw.1 _ (List.mem_of_getElem? (i := 49) rfl)
theorem ow_50 {Z : State} {a0 : Array Value} (hw : HW Z a0) : (Jvm.Cond.stringLink "com/example/pilotage/pilotage/core/ReadinessCheck$Login" (15 : Nat) "password").before a0 Z = true := hw.1 _ (List.mem_of_getElem? (i := 50) rfl)
theorem ow_51 {Z : State} {a0 : Array Value} (hw : HW Z a0) : (Jvm.Cond.stringLink "com/example/pilotage/pilotage/core/ReadinessCheck$Login" (17 : Nat) "virtualHost").before a0 Z = true := hw.1 _ (List.mem_of_getElem? (i := 51) rfl)
theorem ow_52 {Z : State} {a0 : Array Value} (hw : HW Z a0) : (Jvm.Cond.fieldLink "com/example/pilotage/pilotage/core/ReadinessCheck$Login" (19 : Nat) "com/example/pilotage/pilotage/core/ReadinessCheck$Login" "username" "Ljava/lang/String;").before a0 Z = true := hw.1 _ (List.mem_of_getElem? (i := 52) rfl)
theorem ow_53 {Z : State} {a0 : Array Value} (hw : HW Z a0) : (Jvm.Cond.laysFinal "com/example/pilotage/pilotage/core/ReadinessCheck$Login" "com/example/pilotage/pilotage/core/ReadinessCheck$Login" "username" "Ljava/lang/String;").before a0 Z = true := hw.1 _ (List.mem_of_getElem? (i := 53) rfl)
theorem ow_54 {Z : State} {a0 : Array Value} (hw : HW Z a0) : (Jvm.Cond.fieldLink "com/example/pilotage/pilotage/core/ReadinessCheck$Login" (24 : Nat) "com/example/pilotage/pilotage/core/ReadinessCheck$Login" "password" "Ljava/lang/String;").before a0 Z = true := hw.1 _ (List.mem_of_getElem? (i := 54) rfl)
theorem ow_55 {Z : State} {a0 : Array Value} (hw : HW Z a0) : (Jvm.Cond.laysFinal "com/example/pilotage/pilotage/core/ReadinessCheck$Login" "com/example/pilotage/pilotage/core/ReadinessCheck$Login" "password" "Ljava/lang/String;").before a0 Z = true := hw.1 _ (List.mem_of_getElem? (i := 55) rfl)
theorem ow_56 {Z : State} {a0 : Array Value} (hw : HW Z a0) : (Jvm.Cond.fieldLink "com/example/pilotage/pilotage/core/ReadinessCheck$Login" (26 : Nat) "com/example/pilotage/pilotage/core/ReadinessCheck$Login" "virtualHost" "Ljava/lang/String;").before a0 Z = true := hw.1 _ (List.mem_of_getElem? (i := 56) rfl)
theorem ow_57 {Z : State} {a0 : Array Value} (hw : HW Z a0) : (Jvm.Cond.laysFinal "com/example/pilotage/pilotage/core/ReadinessCheck$Login" "com/example/pilotage/pilotage/core/ReadinessCheck$Login" "virtualHost" "Ljava/lang/String;").before a0 Z = true := hw.1 _ (List.mem_of_getElem? (i := 57) rfl)
theorem ow_58 {Z : State} {a0 : Array Value} (hw : HW Z a0) : (Jvm.Cond.stringLink "com/example/pilotage/pilotage/core/LoginToStringPinLaw" (19 : Nat) "Login[username=, password=(hidden), virtualHost=]").before a0 Z = true := hw.1 _ (List.mem_of_getElem? (i := 58) rfl)
theorem ow_59 {Z : State} {a0 : Array Value} (hw : HW Z a0) : (Jvm.Cond.methodLink "com/example/pilotage/pilotage/core/LoginToStringPinLaw" (21 : Nat) ({ cls := "com/example/pilotage/pilotage/core/ReadinessCheck$Login", name := "toString", desc := "()Ljava/lang/String;" } : Jvm.MethodName)).before a0 Z = true := hw.1 _ (List.mem_of_getElem? (i := 59) rfl)
theorem ow_60 {Z : State} {a0 : Array Value} (hw : HW Z a0) : (Jvm.Cond.declares ({ cls := "com/example/pilotage/pilotage/core/ReadinessCheck$Login", name := "toString", desc := "()Ljava/lang/String;" } : Jvm.MethodName)).before a0 Z = true := hw.1 _ (List.mem_of_getElem? (i := 60) rfl)
theorem ow_61 {Z : State} {a0 : Array Value} (hw : HW Z a0) : (Jvm.Cond.instanceMethod ({ cls := "com/example/pilotage/pilotage/core/ReadinessCheck$Login", name := "toString", desc := "()Ljava/lang/String;" } : Jvm.MethodName)).before a0 Z = true := hw.1 _ (List.mem_of_getElem? (i := 61) rfl)
theorem ow_62 {Z : State} {a0 : Array Value} (hw : HW Z a0) : (Jvm.Cond.selects "com/example/pilotage/pilotage/core/ReadinessCheck$Login" ({ cls := "com/example/pilotage/pilotage/core/ReadinessCheck$Login", name := "toString", desc := "()Ljava/lang/String;" } : Jvm.MethodName) ({ cls := "com/example/pilotage/pilotage/core/ReadinessCheck$Login", name := "toString", desc := "()Ljava/lang/String;" } : Jvm.MethodName)).before a0 Z = true := hw.1 _ (List.mem_of_getElem? (i := 62) rfl)
theorem ow_63 {Z : State} {a0 : Array Value} (hw : HW Z a0) : (Jvm.Cond.code ({ cls := "com/example/pilotage/pilotage/core/ReadinessCheck$Login", name := "toString", desc := "()Ljava/lang/String;" } : Jvm.MethodName) prog_22_method_2_code (1 : Nat) (Option.some (Jvm.ClassFile.FieldType.object "java/lang/String"))).before a0 Z = true := hw.1 _ (List.mem_of_getElem? (i := 63) rfl)
theorem ow_64 {Z : State} {a0 : Array Value} (hw : HW Z a0) : (Jvm.Cond.classLink "com/example/pilotage/pilotage/core/ReadinessCheck$Login" (28 : Nat) "java/lang/StringBuilder").before a0 Z = true := hw.1 _ (List.mem_of_getElem? (i := 64) rfl)
theorem ow_65 {Z : State} {a0 : Array Value} (hw : HW Z a0) : (Jvm.Cond.instantiable "java/lang/StringBuilder" (4 : Nat)).before a0 Z = true := hw.1 _ (List.mem_of_getElem? (i := 65) rfl)
theorem ow_66 {Z : State} {a0 : Array Value} (hw : HW Z a0) : (Jvm.Cond.initialized "java/lang/StringBuilder").before a0 Z = true := hw.1 _ (List.mem_of_getElem? (i := 66) rfl)
theorem ow_67 {Z : State} {a0 : Array Value} (hw : HW Z a0) : (Jvm.Cond.methodLink "com/example/pilotage/pilotage/core/ReadinessCheck$Login" (30 : Nat) ({ cls := "java/lang/StringBuilder", name := "<init>", desc := "()V" } : Jvm.MethodName)).before a0 Z = true := hw.1 _ (List.mem_of_getElem? (i := 67) rfl)
theorem ow_68 {Z : State} {a0 : Array Value} (hw : HW Z a0) : (Jvm.Cond.instanceMethod ({ cls := "java/lang/StringBuilder", name := "<init>", desc := "()V" } : Jvm.MethodName)).before a0 Z = true := hw.1 _ (List.mem_of_getElem? (i := 68) rfl)
theorem ow_69 {Z : State} {a0 : Array Value} (hw : HW Z a0) : (Jvm.Cond.code ({ cls := "java/lang/StringBuilder", name := "<init>", desc := "()V" } : Jvm.MethodName) jdk_67_method_1_code (1 : Nat) (Option.none : Option Jvm.ClassFile.FieldType)).before a0 Z = true := hw.1 _ (List.mem_of_getElem? (i := 69) rfl)
theorem ow_70 {Z : State} {a0 : Array Value} (hw : HW Z a0) : (Jvm.Cond.methodLink "java/lang/StringBuilder" (1 : Nat) ({ cls := "java/lang/AbstractStringBuilder", name := "<init>", desc := "(I)V" } : Jvm.MethodName)).before a0 Z = true := hw.1 _ (List.mem_of_getElem? (i := 70) rfl)
theorem ow_71 {Z : State} {a0 : Array Value} (hw : HW Z a0) : (Jvm.Cond.instanceMethod ({ cls := "java/lang/AbstractStringBuilder", name := "<init>", desc := "(I)V" } : Jvm.MethodName)).before a0 Z = true := hw.1 _ (List.mem_of_getElem? (i := 71) rfl)
theorem ow_74 {Z : State} {a0 : Array Value} (hw : HW Z a0) : (Jvm.Cond.initialized "java/lang/AbstractStringBuilder").before a0 Z = true := hw.1 _ (List.mem_of_getElem? (i := 74) rfl)
theorem ow_75 {Z : State} {a0 : Array Value} (hw : HW Z a0) : (Jvm.Cond.code ({ cls := "java/lang/AbstractStringBuilder", name := "<init>", desc := "(I)V" } : Jvm.MethodName) jdk_68_method_2_code (2 : Nat) (Option.none : Option Jvm.ClassFile.FieldType)).before a0 Z = true := hw.1 _ (List.mem_of_getElem? (i := 75) rfl)
theorem ow_76 {Z : State} {a0 : Array Value} (hw : HW Z a0) : (Jvm.Cond.methodLink "java/lang/AbstractStringBuilder" (3 : Nat) ({ cls := "java/lang/Object", name := "<init>", desc := "()V" } : Jvm.MethodName)).before a0 Z = true := hw.1 _ (List.mem_of_getElem? (i := 76) rfl)
theorem ow_77 {Z : State} {a0 : Array Value} (hw : HW Z a0) : (Jvm.Cond.fieldLink "java/lang/AbstractStringBuilder" (18 : Nat) "java/lang/String" "COMPACT_STRINGS" "Z").before a0 Z = true := hw.1 _ (List.mem_of_getElem? (i := 77) rfl)
theorem ow_78 {Z : State} {a0 : Array Value} (hw : HW Z a0) : (Jvm.Cond.fieldLink "java/lang/AbstractStringBuilder" (15 : Nat) "java/lang/AbstractStringBuilder" "value" "[B").before a0 Z = true := hw.1 _ (List.mem_of_getElem? (i := 78) rfl)
theorem ow_79 {Z : State} {a0 : Array Value} (hw : HW Z a0) : (Jvm.Cond.lays "java/lang/StringBuilder" "java/lang/AbstractStringBuilder" "value" "[B").before a0 Z = true := hw.1 _ (List.mem_of_getElem? (i := 79) rfl)
theorem ow_80 {Z : State} {a0 : Array Value} (hw : HW Z a0) : (Jvm.Cond.fieldLink "java/lang/AbstractStringBuilder" (22 : Nat) "java/lang/AbstractStringBuilder" "coder" "B").before a0 Z = true := hw.1 _ (List.mem_of_getElem? (i := 80) rfl)
theorem ow_81 {Z : State} {a0 : Array Value} (hw : HW Z a0) : (Jvm.Cond.lays "java/lang/StringBuilder" "java/lang/AbstractStringBuilder" "coder" "B").before a0 Z = true := hw.1 _ (List.mem_of_getElem? (i := 81) rfl)
theorem ow_82 {Z : State} {a0 : Array Value} (hw : HW Z a0) : (Jvm.Cond.stringLink "com/example/pilotage/pilotage/core/ReadinessCheck$Login" (31 : Nat) "Login[username=").before a0 Z = true := hw.1 _ (List.mem_of_getElem? (i := 82) rfl)
theorem ow_83 {Z : State} {a0 : Array Value} (hw : HW Z a0) : (Jvm.Cond.methodLink "com/example/pilotage/pilotage/core/ReadinessCheck$Login" (33 : Nat) ({ cls := "java/lang/StringBuilder", name := "append", desc := "(Ljava/lang/String;)Ljava/lang/StringBuilder;" } : Jvm.MethodName)).before a0 Z = true := hw.1 _ (List.mem_of_getElem? (i := 83) rfl)
theorem ow_84 {Z : State} {a0 : Array Value} (hw : HW Z a0) : (Jvm.Cond.declares ({ cls := "java/lang/StringBuilder", name := "append", desc := "(Ljava/lang/String;)Ljava/lang/StringBuilder;" } : Jvm.MethodName)).before a0 Z = true := hw.1 _ (List.mem_of_getElem? (i := 84) rfl)
theorem ow_85 {Z : State} {a0 : Array Value} (hw : HW Z a0) : (Jvm.Cond.instanceMethod ({ cls := "java/lang/StringBuilder", name := "append", desc := "(Ljava/lang/String;)Ljava/lang/StringBuilder;" } : Jvm.MethodName)).before a0 Z = true := hw.1 _ (List.mem_of_getElem? (i := 85) rfl)
theorem ow_86 {Z : State} {a0 : Array Value} (hw : HW Z a0) : (Jvm.Cond.selects "java/lang/StringBuilder" ({ cls := "java/lang/StringBuilder", name := "append", desc := "(Ljava/lang/String;)Ljava/lang/StringBuilder;" } : Jvm.MethodName) ({ cls := "java/lang/StringBuilder", name := "append", desc := "(Ljava/lang/String;)Ljava/lang/StringBuilder;" } : Jvm.MethodName)).before a0 Z = true := hw.1 _ (List.mem_of_getElem? (i := 86) rfl)
theorem ow_87 {Z : State} {a0 : Array Value} (hw : HW Z a0) : (Jvm.Cond.code ({ cls := "java/lang/StringBuilder", name := "append", desc := "(Ljava/lang/String;)Ljava/lang/StringBuilder;" } : Jvm.MethodName) jdk_67_method_7_code (2 : Nat) (Option.some (Jvm.ClassFile.FieldType.object "java/lang/StringBuilder"))).before a0 Z = true := hw.1 _ (List.mem_of_getElem? (i := 87) rfl)
theorem ow_88 {Z : State} {a0 : Array Value} (hw : HW Z a0) : (Jvm.Cond.methodLink "java/lang/StringBuilder" (29 : Nat) ({ cls := "java/lang/AbstractStringBuilder", name := "append", desc := "(Ljava/lang/String;)Ljava/lang/AbstractStringBuilder;" } : Jvm.MethodName)).before a0 Z = true := hw.1 _ (List.mem_of_getElem? (i := 88) rfl)
theorem ow_89 {Z : State} {a0 : Array Value} (hw : HW Z a0) : (Jvm.Cond.instanceMethod ({ cls := "java/lang/AbstractStringBuilder", name := "append", desc := "(Ljava/lang/String;)Ljava/lang/AbstractStringBuilder;" } : Jvm.MethodName)).before a0 Z = true := hw.1 _ (List.mem_of_getElem? (i := 89) rfl)
theorem ow_90 {Z : State} {a0 : Array Value} (hw : HW Z a0) : (Jvm.Cond.superclass "java/lang/StringBuilder" "java/lang/AbstractStringBuilder").before a0 Z = true := hw.1 _ (List.mem_of_getElem? (i := 90) rfl)
theorem ow_91 {Z : State} {a0 : Array Value} (hw : HW Z a0) : (Jvm.Cond.declares ({ cls := "java/lang/AbstractStringBuilder", name := "append", desc := "(Ljava/lang/String;)Ljava/lang/AbstractStringBuilder;" } : Jvm.MethodName)).before a0 Z = true := hw.1 _ (List.mem_of_getElem? (i := 91) rfl)
theorem ow_92 {Z : State} {a0 : Array Value} (hw : HW Z a0) : (Jvm.Cond.code ({ cls := "java/lang/AbstractStringBuilder", name := "append", desc := "(Ljava/lang/String;)Ljava/lang/AbstractStringBuilder;" } : Jvm.MethodName) jdk_68_method_22_code (3 : Nat) (Option.some (Jvm.ClassFile.FieldType.object "java/lang/AbstractStringBuilder"))).before a0 Z = true := hw.1 _ (List.mem_of_getElem? (i := 92) rfl)
theorem ow_93 {Z : State} {a0 : Array Value} (hw : HW Z a0) : (Jvm.Cond.methodLink "java/lang/AbstractStringBuilder" (32 : Nat) ({ cls := "java/lang/String", name := "length", desc := "()I" } : Jvm.MethodName)).before a0 Z = true := hw.1 _ (List.mem_of_getElem? (i := 93) rfl)
theorem ow_94 {Z : State} {a0 : Array Value} (hw : HW Z a0) : (Jvm.Cond.declares ({ cls := "java/lang/String", name := "length", desc := "()I" } : Jvm.MethodName)).before a0 Z = true := hw.1 _ (List.mem_of_getElem? (i := 94) rfl)
theorem ow_95 {Z : State} {a0 : Array Value} (hw : HW Z a0) : (Jvm.Cond.instanceMethod ({ cls := "java/lang/String", name := "length", desc := "()I" } : Jvm.MethodName)).before a0 Z = true := hw.1 _ (List.mem_of_getElem? (i := 95) rfl)
theorem ow_96 {Z : State} {a0 : Array Value} (hw : HW Z a0) : (Jvm.Cond.selects "java/lang/String" ({ cls := "java/lang/String", name := "length", desc := "()I" } : Jvm.MethodName) ({ cls := "java/lang/String", name := "length", desc := "()I" } : Jvm.MethodName)).before a0 Z = true := hw.1 _ (List.mem_of_getElem? (i := 96) rfl)
theorem ow_98 {Z : State} {a0 : Array Value} (hw : HW Z a0) : (Jvm.Cond.methodLink "java/lang/String" (335 : Nat) ({ cls := "java/lang/String", name := "coder", desc := "()B" } : Jvm.MethodName)).before a0 Z = true := hw.1 _ (List.mem_of_getElem? (i := 98) rfl)
theorem ow_99 {Z : State} {a0 : Array Value} (hw : HW Z a0) : (Jvm.Cond.declares ({ cls := "java/lang/String", name := "coder", desc := "()B" } : Jvm.MethodName)).before a0 Z = true := hw.1 _ (List.mem_of_getElem? (i := 99) rfl)
theorem ow_100 {Z : State} {a0 : Array Value} (hw : HW Z a0) : (Jvm.Cond.instanceMethod ({ cls := "java/lang/String", name := "coder", desc := "()B" } : Jvm.MethodName)).before a0 Z = true := hw.1 _ (List.mem_of_getElem? (i := 100) rfl)
theorem ow_101 {Z : State} {a0 : Array Value} (hw : HW Z a0) : (Jvm.Cond.selects "java/lang/String" ({ cls := "java/lang/String", name := "coder", desc := "()B" } : Jvm.MethodName) ({ cls := "java/lang/String", name := "coder", desc := "()B" } : Jvm.MethodName)).before a0 Z = true := hw.1 _ (List.mem_of_getElem? (i := 101) rfl)
theorem ow_102 {Z : State} {a0 : Array Value} (hw : HW Z a0) : (Jvm.Cond.code ({ cls := "java/lang/String", name := "coder", desc := "()B" } : Jvm.MethodName) jdk_42_method_152_code (1 : Nat) (Option.some Jvm.ClassFile.FieldType.byte)).before a0 Z = true := hw.1 _ (List.mem_of_getElem? (i := 102) rfl)
theorem ow_103 {Z : State} {a0 : Array Value} (hw : HW Z a0) : (Jvm.Cond.fieldLink "java/lang/AbstractStringBuilder" (79 : Nat) "java/lang/AbstractStringBuilder" "count" "I").before a0 Z = true := hw.1 _ (List.mem_of_getElem? (i := 103) rfl)
theorem ow_104 {Z : State} {a0 : Array Value} (hw : HW Z a0) : (Jvm.Cond.lays "java/lang/StringBuilder" "java/lang/AbstractStringBuilder" "count" "I").before a0 Z = true := hw.1 _ (List.mem_of_getElem? (i := 104) rfl)
theorem ow_105 {Z : State} {a0 : Array Value} (hw : HW Z a0) : (Jvm.Cond.methodLink "java/lang/AbstractStringBuilder" (100 : Nat) ({ cls := "java/lang/AbstractStringBuilder", name := "ensureCapacityInternal", desc := "(I)V" } : Jvm.MethodName)).before a0 Z = true := hw.1 _ (List.mem_of_getElem? (i := 105) rfl)
theorem ow_106 {Z : State} {a0 : Array Value} (hw : HW Z a0) : (Jvm.Cond.instanceMethod ({ cls := "java/lang/AbstractStringBuilder", name := "ensureCapacityInternal", desc := "(I)V" } : Jvm.MethodName)).before a0 Z = true := hw.1 _ (List.mem_of_getElem? (i := 106) rfl)
theorem ow_108 {Z : State} {a0 : Array Value} (hw : HW Z a0) : (Jvm.Cond.selects "java/lang/StringBuilder" ({ cls := "java/lang/AbstractStringBuilder", name := "ensureCapacityInternal", desc := "(I)V" } : Jvm.MethodName) ({ cls := "java/lang/AbstractStringBuilder", name := "ensureCapacityInternal", desc := "(I)V" } : Jvm.MethodName)).before a0 Z = true := hw.1 _ (List.mem_of_getElem? (i := 108) rfl)
theorem ow_109 {Z : State} {a0 : Array Value} (hw : HW Z a0) : (Jvm.Cond.code ({ cls := "java/lang/AbstractStringBuilder", name := "ensureCapacityInternal", desc := "(I)V" } : Jvm.MethodName) jdk_68_method_9_code (3 : Nat) (Option.none : Option Jvm.ClassFile.FieldType)).before a0 Z = true := hw.1 _ (List.mem_of_getElem? (i := 109) rfl)
theorem ow_110 {Z : State} {a0 : Array Value} (hw : HW Z a0) : (Jvm.Cond.methodLink "java/lang/AbstractStringBuilder" (208 : Nat) ({ cls := "java/lang/AbstractStringBuilder", name := "putStringAt", desc := "(ILjava/lang/String;)V" } : Jvm.MethodName)).before a0 Z = true := hw.1 _ (List.mem_of_getElem? (i := 110) rfl)
theorem ow_111 {Z : State} {a0 : Array Value} (hw : HW Z a0) : (Jvm.Cond.instanceMethod ({ cls := "java/lang/AbstractStringBuilder", name := "putStringAt", desc := "(ILjava/lang/String;)V" } : Jvm.MethodName)).before a0 Z = true := hw.1 _ (List.mem_of_getElem? (i := 111) rfl)
theorem ow_113 {Z : State} {a0 : Array Value} (hw : HW Z a0) : (Jvm.Cond.selects "java/lang/StringBuilder" ({ cls := "java/lang/AbstractStringBuilder", name := "putStringAt", desc := "(ILjava/lang/String;)V" } : Jvm.MethodName) ({ cls := "java/lang/AbstractStringBuilder", name := "putStringAt", desc := "(ILjava/lang/String;)V" } : Jvm.MethodName)).before a0 Z = true := hw.1 _ (List.mem_of_getElem? (i := 113) rfl)
theorem ow_114 {Z : State} {a0 : Array Value} (hw : HW Z a0) : (Jvm.Cond.code ({ cls := "java/lang/AbstractStringBuilder", name := "putStringAt", desc := "(ILjava/lang/String;)V" } : Jvm.MethodName) jdk_68_method_73_code (3 : Nat) (Option.none : Option Jvm.ClassFile.FieldType)).before a0 Z = true := hw.1 _ (List.mem_of_getElem? (i := 114) rfl)
theorem ow_115 {Z : State} {a0 : Array Value} (hw : HW Z a0) : (Jvm.Cond.methodLink "java/lang/AbstractStringBuilder" (397 : Nat) ({ cls := "java/lang/AbstractStringBuilder", name := "inflateIfNeededFor", desc := "(Ljava/lang/String;)V" } : Jvm.MethodName)).before a0 Z = true := hw.1 _ (List.mem_of_getElem? (i := 115) rfl)
theorem ow_116 {Z : State} {a0 : Array Value} (hw : HW Z a0) : (Jvm.Cond.instanceMethod ({ cls := "java/lang/AbstractStringBuilder", name := "inflateIfNeededFor", desc := "(Ljava/lang/String;)V" } : Jvm.MethodName)).before a0 Z = true := hw.1 _ (List.mem_of_getElem? (i := 116) rfl)
theorem ow_118 {Z : State} {a0 : Array Value} (hw : HW Z a0) : (Jvm.Cond.selects "java/lang/StringBuilder" ({ cls := "java/lang/AbstractStringBuilder", name := "inflateIfNeededFor", desc := "(Ljava/lang/String;)V" } : Jvm.MethodName) ({ cls := "java/lang/AbstractStringBuilder", name := "inflateIfNeededFor", desc := "(Ljava/lang/String;)V" } : Jvm.MethodName)).before a0 Z = true := hw.1 _ (List.mem_of_getElem? (i := 118) rfl)
theorem ow_119 {Z : State} {a0 : Array Value} (hw : HW Z a0) : (Jvm.Cond.code ({ cls := "java/lang/AbstractStringBuilder", name := "inflateIfNeededFor", desc := "(Ljava/lang/String;)V" } : Jvm.MethodName) jdk_68_method_71_code (2 : Nat) (Option.none : Option Jvm.ClassFile.FieldType)).before a0 Z = true := hw.1 _ (List.mem_of_getElem? (i := 119) rfl)
theorem ow_120 {Z : State} {a0 : Array Value} (hw : HW Z a0) : (Jvm.Cond.methodLink "java/lang/AbstractStringBuilder" (40 : Nat) ({ cls := "java/lang/String", name := "coder", desc := "()B" } : Jvm.MethodName)).before a0 Z = true := hw.1 _ (List.mem_of_getElem? (i := 120) rfl)
theorem ow_121 {Z : State} {a0 : Array Value} (hw : HW Z a0) : (Jvm.Cond.methodLink "java/lang/AbstractStringBuilder" (399 : Nat) ({ cls := "java/lang/String", name := "getBytes", desc := "([BIB)V" } : Jvm.MethodName)).before a0 Z = true := hw.1 _ (List.mem_of_getElem? (i := 121) rfl)
theorem ow_122 {Z : State} {a0 : Array Value} (hw : HW Z a0) : (Jvm.Cond.declares ({ cls := "java/lang/String", name := "getBytes", desc := "([BIB)V" } : Jvm.MethodName)).before a0 Z = true := hw.1 _ (List.mem_of_getElem? (i := 122) rfl)
theorem ow_123 {Z : State} {a0 : Array Value} (hw : HW Z a0) : (Jvm.Cond.instanceMethod ({ cls := "java/lang/String", name := "getBytes", desc := "([BIB)V" } : Jvm.MethodName)).before a0 Z = true := hw.1 _ (List.mem_of_getElem? (i := 123) rfl)
theorem ow_124 {Z : State} {a0 : Array Value} (hw : HW Z a0) : (Jvm.Cond.selects "java/lang/String" ({ cls := "java/lang/String", name := "getBytes", desc := "([BIB)V" } : Jvm.MethodName) ({ cls := "java/lang/String", name := "getBytes", desc := "([BIB)V" } : Jvm.MethodName)).before a0 Z = true := hw.1 _ (List.mem_of_getElem? (i := 124) rfl)
theorem ow_125 {Z : State} {a0 : Array Value} (hw : HW Z a0) : (Jvm.Cond.code ({ cls := "java/lang/String", name := "getBytes", desc := "([BIB)V" } : Jvm.MethodName) jdk_42_method_147_code (4 : Nat) (Option.none : Option Jvm.ClassFile.FieldType)).before a0 Z = true := hw.1 _ (List.mem_of_getElem? (i := 125) rfl)
theorem ow_126 {Z : State} {a0 : Array Value} (hw : HW Z a0) : (Jvm.Cond.methodLink "java/lang/String" (212 : Nat) ({ cls := "java/lang/System", name := "arraycopy", desc := "(Ljava/lang/Object;ILjava/lang/Object;II)V" } : Jvm.MethodName)).before a0 Z = true := hw.1 _ (List.mem_of_getElem? (i := 126) rfl)
theorem ow_127 {Z : State} {a0 : Array Value} (hw : HW Z a0) : (Jvm.Cond.static ({ cls := "java/lang/System", name := "arraycopy", desc := "(Ljava/lang/Object;ILjava/lang/Object;II)V" } : Jvm.MethodName)).before a0 Z = true := hw.1 _ (List.mem_of_getElem? (i := 127) rfl)
theorem ow_128 {Z : State} {a0 : Array Value} (hw : HW Z a0) : (Jvm.Cond.initialized "java/lang/System").before a0 Z = true := hw.1 _ (List.mem_of_getElem? (i := 128) rfl)
theorem ow_129 {Z : State} {a0 : Array Value} (hw : HW Z a0) : (Jvm.Cond.native ({ cls := "java/lang/System", name := "arraycopy", desc := "(Ljava/lang/Object;ILjava/lang/Object;II)V" } : Jvm.MethodName)).before a0 Z = true := hw.1 _ (List.mem_of_getElem? (i := 129) rfl)
theorem ow_130 {Z : State} {a0 : Array Value} (hw : HW Z a0) : (Jvm.Cond.stringLink "com/example/pilotage/pilotage/core/ReadinessCheck$Login" (37 : Nat) ", password=(hidden), virtualHost=").before a0 Z = true := hw.1 _ (List.mem_of_getElem? (i := 130) rfl)
theorem ow_131 {Z : State} {a0 : Array Value} (hw : HW Z a0) : (Jvm.Cond.methodLink "java/lang/AbstractStringBuilder" (104 : Nat) ({ cls := "java/lang/AbstractStringBuilder", name := "newCapacity", desc := "(I)I" } : Jvm.MethodName)).before a0 Z = true := hw.1 _ (List.mem_of_getElem? (i := 131) rfl)
theorem ow_132 {Z : State} {a0 : Array Value} (hw : HW Z a0) : (Jvm.Cond.instanceMethod ({ cls := "java/lang/AbstractStringBuilder", name := "newCapacity", desc := "(I)I" } : Jvm.MethodName)).before a0 Z = true := hw.1 _ (List.mem_of_getElem? (i := 132) rfl)
theorem ow_134 {Z : State} {a0 : Array Value} (hw : HW Z a0) : (Jvm.Cond.selects "java/lang/StringBuilder" ({ cls := "java/lang/AbstractStringBuilder", name := "newCapacity", desc := "(I)I" } : Jvm.MethodName) ({ cls := "java/lang/AbstractStringBuilder", name := "newCapacity", desc := "(I)I" } : Jvm.MethodName)).before a0 Z = true := hw.1 _ (List.mem_of_getElem? (i := 134) rfl)
theorem ow_135 {Z : State} {a0 : Array Value} (hw : HW Z a0) : (Jvm.Cond.code ({ cls := "java/lang/AbstractStringBuilder", name := "newCapacity", desc := "(I)I" } : Jvm.MethodName) jdk_68_method_10_code (6 : Nat) (Option.some Jvm.ClassFile.FieldType.int)).before a0 Z = true := hw.1 _ (List.mem_of_getElem? (i := 135) rfl)
theorem ow_136 {Z : State} {a0 : Array Value} (hw : HW Z a0) : (Jvm.Cond.methodLink "java/lang/AbstractStringBuilder" (114 : Nat) ({ cls := "jdk/internal/util/ArraysSupport", name := "newLength", desc := "(III)I" } : Jvm.MethodName)).before a0 Z = true := hw.1 _ (List.mem_of_getElem? (i := 136) rfl)
theorem ow_137 {Z : State} {a0 : Array Value} (hw : HW Z a0) : (Jvm.Cond.static ({ cls := "jdk/internal/util/ArraysSupport", name := "newLength", desc := "(III)I" } : Jvm.MethodName)).before a0 Z = true := hw.1 _ (List.mem_of_getElem? (i := 137) rfl)
theorem ow_138 {Z : State} {a0 : Array Value} (hw : HW Z a0) : (Jvm.Cond.initialized "jdk/internal/util/ArraysSupport").before a0 Z = true := hw.1 _ (List.mem_of_getElem? (i := 138) rfl)
theorem ow_139 {Z : State} {a0 : Array Value} (hw : HW Z a0) : (Jvm.Cond.code ({ cls := "jdk/internal/util/ArraysSupport", name := "newLength", desc := "(III)I" } : Jvm.MethodName) jdk_48_method_27_code (4 : Nat) (Option.some Jvm.ClassFile.FieldType.int)).before a0 Z = true := hw.1 _ (List.mem_of_getElem? (i := 139) rfl)
theorem ow_140 {Z : State} {a0 : Array Value} (hw : HW Z a0) : (Jvm.Cond.methodLink "jdk/internal/util/ArraysSupport" (194 : Nat) ({ cls := "java/lang/Math", name := "max", desc := "(II)I" } : Jvm.MethodName)).before a0 Z = true := hw.1 _ (List.mem_of_getElem? (i := 140) rfl)
theorem ow_141 {Z : State} {a0 : Array Value} (hw : HW Z a0) : (Jvm.Cond.static ({ cls := "java/lang/Math", name := "max", desc := "(II)I" } : Jvm.MethodName)).before a0 Z = true := hw.1 _ (List.mem_of_getElem? (i := 141) rfl)
theorem ow_142 {Z : State} {a0 : Array Value} (hw : HW Z a0) : (Jvm.Cond.initialized "java/lang/Math").before a0 Z = true := hw.1 _ (List.mem_of_getElem? (i := 142) rfl)
theorem ow_143 {Z : State} {a0 : Array Value} (hw : HW Z a0) : (Jvm.Cond.code ({ cls := "java/lang/Math", name := "max", desc := "(II)I" } : Jvm.MethodName) jdk_29_method_65_code (2 : Nat) (Option.some Jvm.ClassFile.FieldType.int)).before a0 Z = true := hw.1 _ (List.mem_of_getElem? (i := 143) rfl)
theorem ow_144 {Z : State} {a0 : Array Value} (hw : HW Z a0) : (Jvm.Cond.constant "jdk/internal/util/ArraysSupport" (200 : Nat) (2147483639 : Int32)).before a0 Z = true := hw.1 _ (List.mem_of_getElem? (i := 144) rfl)
theorem ow_145 {Z : State} {a0 : Array Value} (hw : HW Z a0) : (Jvm.Cond.constant "java/lang/AbstractStringBuilder" (39 : Nat) (2147483647 : Int32)).before a0 Z = true := hw.1 _ (List.mem_of_getElem? (i := 145) rfl)
theorem ow_146 {Z : State} {a0 : Array Value} (hw : HW Z a0) : (Jvm.Cond.methodLink "java/lang/AbstractStringBuilder" (108 : Nat) ({ cls := "java/util/Arrays", name := "copyOf", desc := "([BI)[B" } : Jvm.MethodName)).before a0 Z = true := hw.1 _ (List.mem_of_getElem? (i := 146) rfl)
theorem ow_147 {Z : State} {a0 : Array Value} (hw : HW Z a0) : (Jvm.Cond.static ({ cls := "java/util/Arrays", name := "copyOf", desc := "([BI)[B" } : Jvm.MethodName)).before a0 Z = true := hw.1 _ (List.mem_of_getElem? (i := 147) rfl)
theorem ow_148 {Z : State} {a0 : Array Value} (hw : HW Z a0) : (Jvm.Cond.initialized "java/util/Arrays").before a0 Z = true := hw.1 _ (List.mem_of_getElem? (i := 148) rfl)
theorem ow_149 {Z : State} {a0 : Array Value} (hw : HW Z a0) : (Jvm.Cond.code ({ cls := "java/util/Arrays", name := "copyOf", desc := "([BI)[B" } : Jvm.MethodName) jdk_65_method_121_code (3 : Nat) (Option.some (Jvm.ClassFile.FieldType.array Jvm.ClassFile.FieldType.byte))).before a0 Z = true := hw.1 _ (List.mem_of_getElem? (i := 149) rfl)
theorem ow_150 {Z : State} {a0 : Array Value} (hw : HW Z a0) : (Jvm.Cond.methodLink "java/util/Arrays" (304 : Nat) ({ cls := "java/lang/Math", name := "min", desc := "(II)I" } : Jvm.MethodName)).before a0 Z = true := hw.1 _ (List.mem_of_getElem? (i := 150) rfl)
theorem ow_151 {Z : State} {a0 : Array Value} (hw : HW Z a0) : (Jvm.Cond.static ({ cls := "java/lang/Math", name := "min", desc := "(II)I" } : Jvm.MethodName)).before a0 Z = true := hw.1 _ (List.mem_of_getElem? (i := 151) rfl)
theorem ow_152 {Z : State} {a0 : Array Value} (hw : HW Z a0) : (Jvm.Cond.code ({ cls := "java/lang/Math", name := "min", desc := "(II)I" } : Jvm.MethodName) jdk_29_method_69_code (2 : Nat) (Option.some Jvm.ClassFile.FieldType.int)).before a0 Z = true := hw.1 _ (List.mem_of_getElem? (i := 152) rfl)
theorem ow_153 {Z : State} {a0 : Array Value} (hw : HW Z a0) : (Jvm.Cond.methodLink "java/util/Arrays" (150 : Nat) ({ cls := "java/lang/System", name := "arraycopy", desc := "(Ljava/lang/Object;ILjava/lang/Object;II)V" } : Jvm.MethodName)).before a0 Z = true := hw.1 _ (List.mem_of_getElem? (i := 153) rfl)
theorem ow_154 {Z : State} {a0 : Array Value} (hw : HW Z a0) : (Jvm.Cond.stringLink "com/example/pilotage/pilotage/core/ReadinessCheck$Login" (39 : Nat) "]").before a0 Z = true := hw.1 _ (List.mem_of_getElem? (i := 154) rfl)
theorem ow_155 {Z : State} {a0 : Array Value} (hw : HW Z a0) : (Jvm.Cond.methodLink "com/example/pilotage/pilotage/core/ReadinessCheck$Login" (41 : Nat) ({ cls := "java/lang/StringBuilder", name := "toString", desc := "()Ljava/lang/String;" } : Jvm.MethodName)).before a0 Z = true := hw.1 _ (List.mem_of_getElem? (i := 155) rfl)
theorem ow_156 {Z : State} {a0 : Array Value} (hw : HW Z a0) : (Jvm.Cond.declares ({ cls := "java/lang/StringBuilder", name := "toString", desc := "()Ljava/lang/String;" } : Jvm.MethodName)).before a0 Z = true := hw.1 _ (List.mem_of_getElem? (i := 156) rfl)
theorem ow_157 {Z : State} {a0 : Array Value} (hw : HW Z a0) : (Jvm.Cond.instanceMethod ({ cls := "java/lang/StringBuilder", name := "toString", desc := "()Ljava/lang/String;" } : Jvm.MethodName)).before a0 Z = true := hw.1 _ (List.mem_of_getElem? (i := 157) rfl)
theorem ow_158 {Z : State} {a0 : Array Value} (hw : HW Z a0) : (Jvm.Cond.selects "java/lang/StringBuilder" ({ cls := "java/lang/StringBuilder", name := "toString", desc := "()Ljava/lang/String;" } : Jvm.MethodName) ({ cls := "java/lang/StringBuilder", name := "toString", desc := "()Ljava/lang/String;" } : Jvm.MethodName)).before a0 Z = true := hw.1 _ (List.mem_of_getElem? (i := 158) rfl)
theorem ow_159 {Z : State} {a0 : Array Value} (hw : HW Z a0) : (Jvm.Cond.code ({ cls := "java/lang/StringBuilder", name := "toString", desc := "()Ljava/lang/String;" } : Jvm.MethodName) jdk_67_method_42_code (1 : Nat) (Option.some (Jvm.ClassFile.FieldType.object "java/lang/String"))).before a0 Z = true := hw.1 _ (List.mem_of_getElem? (i := 159) rfl)
theorem ow_160 {Z : State} {a0 : Array Value} (hw : HW Z a0) : (Jvm.Cond.classLink "java/lang/StringBuilder" (18 : Nat) "java/lang/String").before a0 Z = true := hw.1 _ (List.mem_of_getElem? (i := 160) rfl)
theorem ow_161 {Z : State} {a0 : Array Value} (hw : HW Z a0) : (Jvm.Cond.methodLink "java/lang/StringBuilder" (137 : Nat) ({ cls := "java/lang/String", name := "<init>", desc := "(Ljava/lang/StringBuilder;)V" } : Jvm.MethodName)).before a0 Z = true := hw.1 _ (List.mem_of_getElem? (i := 161) rfl)
theorem ow_162 {Z : State} {a0 : Array Value} (hw : HW Z a0) : (Jvm.Cond.instanceMethod ({ cls := "java/lang/String", name := "<init>", desc := "(Ljava/lang/StringBuilder;)V" } : Jvm.MethodName)).before a0 Z = true := hw.1 _ (List.mem_of_getElem? (i := 162) rfl)
theorem ow_163 {Z : State} {a0 : Array Value} (hw : HW Z a0) : (Jvm.Cond.code ({ cls := "java/lang/String", name := "<init>", desc := "(Ljava/lang/StringBuilder;)V" } : Jvm.MethodName) jdk_42_method_53_code (2 : Nat) (Option.none : Option Jvm.ClassFile.FieldType)).before a0 Z = true := hw.1 _ (List.mem_of_getElem? (i := 163) rfl)
theorem ow_164 {Z : State} {a0 : Array Value} (hw : HW Z a0) : (Jvm.Cond.methodLink "java/lang/String" (489 : Nat) ({ cls := "java/lang/String", name := "<init>", desc := "(Ljava/lang/AbstractStringBuilder;Ljava/lang/Void;)V" } : Jvm.MethodName)).before a0 Z = true := hw.1 _ (List.mem_of_getElem? (i := 164) rfl)
theorem ow_165 {Z : State} {a0 : Array Value} (hw : HW Z a0) : (Jvm.Cond.instanceMethod ({ cls := "java/lang/String", name := "<init>", desc := "(Ljava/lang/AbstractStringBuilder;Ljava/lang/Void;)V" } : Jvm.MethodName)).before a0 Z = true := hw.1 _ (List.mem_of_getElem? (i := 165) rfl)
theorem ow_166 {Z : State} {a0 : Array Value} (hw : HW Z a0) : (Jvm.Cond.code ({ cls := "java/lang/String", name := "<init>", desc := "(Ljava/lang/AbstractStringBuilder;Ljava/lang/Void;)V" } : Jvm.MethodName) jdk_42_method_150_code (5 : Nat) (Option.none : Option Jvm.ClassFile.FieldType)).before a0 Z = true := hw.1 _ (List.mem_of_getElem? (i := 166) rfl)
theorem ow_167 {Z : State} {a0 : Array Value} (hw : HW Z a0) : (Jvm.Cond.methodLink "java/lang/String" (552 : Nat) ({ cls := "java/lang/AbstractStringBuilder", name := "getValue", desc := "()[B" } : Jvm.MethodName)).before a0 Z = true := hw.1 _ (List.mem_of_getElem? (i := 167) rfl)
theorem ow_168 {Z : State} {a0 : Array Value} (hw : HW Z a0) : (Jvm.Cond.declares ({ cls := "java/lang/AbstractStringBuilder", name := "getValue", desc := "()[B" } : Jvm.MethodName)).before a0 Z = true := hw.1 _ (List.mem_of_getElem? (i := 168) rfl)
theorem ow_169 {Z : State} {a0 : Array Value} (hw : HW Z a0) : (Jvm.Cond.instanceMethod ({ cls := "java/lang/AbstractStringBuilder", name := "getValue", desc := "()[B" } : Jvm.MethodName)).before a0 Z = true := hw.1 _ (List.mem_of_getElem? (i := 169) rfl)
theorem ow_170 {Z : State} {a0 : Array Value} (hw : HW Z a0) : (Jvm.Cond.selects "java/lang/StringBuilder" ({ cls := "java/lang/AbstractStringBuilder", name := "getValue", desc := "()[B" } : Jvm.MethodName) ({ cls := "java/lang/AbstractStringBuilder", name := "getValue", desc := "()[B" } : Jvm.MethodName)).before a0 Z = true := hw.1 _ (List.mem_of_getElem? (i := 170) rfl)
theorem ow_171 {Z : State} {a0 : Array Value} (hw : HW Z a0) : (Jvm.Cond.code ({ cls := "java/lang/AbstractStringBuilder", name := "getValue", desc := "()[B" } : Jvm.MethodName) jdk_68_method_64_code (1 : Nat) (Option.some (Jvm.ClassFile.FieldType.array Jvm.ClassFile.FieldType.byte))).before a0 Z = true := hw.1 _ (List.mem_of_getElem? (i := 171) rfl)
theorem ow_172 {Z : State} {a0 : Array Value} (hw : HW Z a0) : (Jvm.Cond.methodLink "java/lang/String" (549 : Nat) ({ cls := "java/lang/AbstractStringBuilder", name := "length", desc := "()I" } : Jvm.MethodName)).before a0 Z = true := hw.1 _ (List.mem_of_getElem? (i := 172) rfl)
theorem ow_173 {Z : State} {a0 : Array Value} (hw : HW Z a0) : (Jvm.Cond.declares ({ cls := "java/lang/AbstractStringBuilder", name := "length", desc := "()I" } : Jvm.MethodName)).before a0 Z = true := hw.1 _ (List.mem_of_getElem? (i := 173) rfl)
theorem ow_174 {Z : State} {a0 : Array Value} (hw : HW Z a0) : (Jvm.Cond.instanceMethod ({ cls := "java/lang/AbstractStringBuilder", name := "length", desc := "()I" } : Jvm.MethodName)).before a0 Z = true := hw.1 _ (List.mem_of_getElem? (i := 174) rfl)
theorem ow_175 {Z : State} {a0 : Array Value} (hw : HW Z a0) : (Jvm.Cond.selects "java/lang/StringBuilder" ({ cls := "java/lang/AbstractStringBuilder", name := "length", desc := "()I" } : Jvm.MethodName) ({ cls := "java/lang/StringBuilder", name := "length", desc := "()I" } : Jvm.MethodName)).before a0 Z = true := hw.1 _ (List.mem_of_getElem? (i := 175) rfl)
theorem ow_176 {Z : State} {a0 : Array Value} (hw : HW Z a0) : (Jvm.Cond.instanceMethod ({ cls := "java/lang/StringBuilder", name := "length", desc := "()I" } : Jvm.MethodName)).before a0 Z = true := hw.1 _ (List.mem_of_getElem? (i := 176) rfl)
theorem ow_177 {Z : State} {a0 : Array Value} (hw : HW Z a0) : (Jvm.Cond.code ({ cls := "java/lang/StringBuilder", name := "length", desc := "()I" } : Jvm.MethodName) jdk_67_method_93_code (1 : Nat) (Option.some Jvm.ClassFile.FieldType.int)).before a0 Z = true := hw.1 _ (List.mem_of_getElem? (i := 177) rfl)
theorem ow_178 {Z : State} {a0 : Array Value} (hw : HW Z a0) : (Jvm.Cond.methodLink "java/lang/StringBuilder" (343 : Nat) ({ cls := "java/lang/AbstractStringBuilder", name := "length", desc := "()I" } : Jvm.MethodName)).before a0 Z = true := hw.1 _ (List.mem_of_getElem? (i := 178) rfl)
theorem ow_179 {Z : State} {a0 : Array Value} (hw : HW Z a0) : (Jvm.Cond.code ({ cls := "java/lang/AbstractStringBuilder", name := "length", desc := "()I" } : Jvm.MethodName) jdk_68_method_6_code (1 : Nat) (Option.some Jvm.ClassFile.FieldType.int)).before a0 Z = true := hw.1 _ (List.mem_of_getElem? (i := 179) rfl)
theorem ow_180 {Z : State} {a0 : Array Value} (hw : HW Z a0) : (Jvm.Cond.methodLink "java/lang/String" (1047 : Nat) ({ cls := "java/lang/AbstractStringBuilder", name := "isLatin1", desc := "()Z" } : Jvm.MethodName)).before a0 Z = true := hw.1 _ (List.mem_of_getElem? (i := 180) rfl)
theorem ow_181 {Z : State} {a0 : Array Value} (hw : HW Z a0) : (Jvm.Cond.declares ({ cls := "java/lang/AbstractStringBuilder", name := "isLatin1", desc := "()Z" } : Jvm.MethodName)).before a0 Z = true := hw.1 _ (List.mem_of_getElem? (i := 181) rfl)
theorem ow_182 {Z : State} {a0 : Array Value} (hw : HW Z a0) : (Jvm.Cond.instanceMethod ({ cls := "java/lang/AbstractStringBuilder", name := "isLatin1", desc := "()Z" } : Jvm.MethodName)).before a0 Z = true := hw.1 _ (List.mem_of_getElem? (i := 182) rfl)
theorem ow_183 {Z : State} {a0 : Array Value} (hw : HW Z a0) : (Jvm.Cond.selects "java/lang/StringBuilder" ({ cls := "java/lang/AbstractStringBuilder", name := "isLatin1", desc := "()Z" } : Jvm.MethodName) ({ cls := "java/lang/AbstractStringBuilder", name := "isLatin1", desc := "()Z" } : Jvm.MethodName)).before a0 Z = true := hw.1 _ (List.mem_of_getElem? (i := 183) rfl)
theorem ow_184 {Z : State} {a0 : Array Value} (hw : HW Z a0) : (Jvm.Cond.code ({ cls := "java/lang/AbstractStringBuilder", name := "isLatin1", desc := "()Z" } : Jvm.MethodName) jdk_68_method_68_code (1 : Nat) (Option.some Jvm.ClassFile.FieldType.boolean)).before a0 Z = true := hw.1 _ (List.mem_of_getElem? (i := 184) rfl)
theorem ow_185 {Z : State} {a0 : Array Value} (hw : HW Z a0) : (Jvm.Cond.methodLink "java/lang/String" (54 : Nat) ({ cls := "java/util/Arrays", name := "copyOfRange", desc := "([BII)[B" } : Jvm.MethodName)).before a0 Z = true := hw.1 _ (List.mem_of_getElem? (i := 185) rfl)
theorem ow_186 {Z : State} {a0 : Array Value} (hw : HW Z a0) : (Jvm.Cond.static ({ cls := "java/util/Arrays", name := "copyOfRange", desc := "([BII)[B" } : Jvm.MethodName)).before a0 Z = true := hw.1 _ (List.mem_of_getElem? (i := 186) rfl)
theorem ow_187 {Z : State} {a0 : Array Value} (hw : HW Z a0) : (Jvm.Cond.code ({ cls := "java/util/Arrays", name := "copyOfRange", desc := "([BII)[B" } : Jvm.MethodName) jdk_65_method_132_code (3 : Nat) (Option.some (Jvm.ClassFile.FieldType.array Jvm.ClassFile.FieldType.byte))).before a0 Z = true := hw.1 _ (List.mem_of_getElem? (i := 187) rfl)
theorem ow_188 {Z : State} {a0 : Array Value} (hw : HW Z a0) : (Jvm.Cond.methodLink "java/util/Arrays" (339 : Nat) ({ cls := "java/util/Arrays", name := "copyOfRangeByte", desc := "([BII)[B" } : Jvm.MethodName)).before a0 Z = true := hw.1 _ (List.mem_of_getElem? (i := 188) rfl)
theorem ow_189 {Z : State} {a0 : Array Value} (hw : HW Z a0) : (Jvm.Cond.static ({ cls := "java/util/Arrays", name := "copyOfRangeByte", desc := "([BII)[B" } : Jvm.MethodName)).before a0 Z = true := hw.1 _ (List.mem_of_getElem? (i := 189) rfl)
theorem ow_190 {Z : State} {a0 : Array Value} (hw : HW Z a0) : (Jvm.Cond.code ({ cls := "java/util/Arrays", name := "copyOfRangeByte", desc := "([BII)[B" } : Jvm.MethodName) jdk_65_method_133_code (5 : Nat) (Option.some (Jvm.ClassFile.FieldType.array Jvm.ClassFile.FieldType.byte))).before a0 Z = true := hw.1 _ (List.mem_of_getElem? (i := 190) rfl)
theorem ow_191 {Z : State} {a0 : Array Value} (hw : HW Z a0) : (Jvm.Cond.methodLink "java/util/Arrays" (343 : Nat) ({ cls := "java/util/Arrays", name := "checkLength", desc := "(II)V" } : Jvm.MethodName)).before a0 Z = true := hw.1 _ (List.mem_of_getElem? (i := 191) rfl)
theorem ow_192 {Z : State} {a0 : Array Value} (hw : HW Z a0) : (Jvm.Cond.static ({ cls := "java/util/Arrays", name := "checkLength", desc := "(II)V" } : Jvm.MethodName)).before a0 Z = true := hw.1 _ (List.mem_of_getElem? (i := 192) rfl)
theorem ow_193 {Z : State} {a0 : Array Value} (hw : HW Z a0) : (Jvm.Cond.code ({ cls := "java/util/Arrays", name := "checkLength", desc := "(II)V" } : Jvm.MethodName) jdk_65_method_131_code (2 : Nat) (Option.none : Option Jvm.ClassFile.FieldType)).before a0 Z = true := hw.1 _ (List.mem_of_getElem? (i := 193) rfl)
theorem ow_194 {Z : State} {a0 : Array Value} (hw : HW Z a0) : (Jvm.Cond.methodLink "com/example/pilotage/pilotage/core/LoginToStringPinLaw" (25 : Nat) ({ cls := "java/lang/String", name := "equals", desc := "(Ljava/lang/Object;)Z" } : Jvm.MethodName)).before a0 Z = true := hw.1 _ (List.mem_of_getElem? (i := 194) rfl)
theorem ow_195 {Z : State} {a0 : Array Value} (hw : HW Z a0) : (Jvm.Cond.declares ({ cls := "java/lang/String", name := "equals", desc := "(Ljava/lang/Object;)Z" } : Jvm.MethodName)).before a0 Z = true := hw.1 _ (List.mem_of_getElem? (i := 195) rfl)
theorem ow_196 {Z : State} {a0 : Array Value} (hw : HW Z a0) : (Jvm.Cond.instanceMethod ({ cls := "java/lang/String", name := "equals", desc := "(Ljava/lang/Object;)Z" } : Jvm.MethodName)).before a0 Z = true := hw.1 _ (List.mem_of_getElem? (i := 196) rfl)
theorem ow_197 {Z : State} {a0 : Array Value} (hw : HW Z a0) : (Jvm.Cond.selects "java/lang/String" ({ cls := "java/lang/String", name := "equals", desc := "(Ljava/lang/Object;)Z" } : Jvm.MethodName) ({ cls := "java/lang/String", name := "equals", desc := "(Ljava/lang/Object;)Z" } : Jvm.MethodName)).before a0 Z = true := hw.1 _ (List.mem_of_getElem? (i := 197) rfl)
theorem own_wS {Z : State} {a0 : Array Value} (hw : HW Z a0) : (Jvm.Cond.instantiable "java/lang/String" (4 : Nat)).before a0 Z = true := (ow_1 hw)
abbrev EL0 : List (String × Nat) := consts_1
abbrev nw0 : Bool := false
theorem own_ew {Z : State} {a0 : Array Value} (hw : HW Z a0) : EW Z a0 EL0 := (EW.cons (ow_33 hw) (by decide) (EW.cons (ow_58 hw) (by decide) (EW.cons (ow_45 hw) (by decide) (EW.cons (ow_50 hw) (by decide) (EW.cons (ow_51 hw) (by decide) (EW.cons (ow_82 hw) (by decide) (EW.cons (ow_130 hw) (by decide) (EW.cons (ow_154 hw) (by decide) EW.nil))))))))
theorem own_sA {Z : State} {a0 : Array Value} (hw : HW Z a0) : ∀ a ∈ Bundle.stringAtoms, a.before a0 Z = true := fun d hd => hw.1 d ((by decide +kernel : ∀ d ∈ Bundle.stringAtoms, d ∈ tables_1) d hd)
theorem od_23_0 : decode jdk_29_method_65_code 0 = .ok (.iload_n 0, 1) := by decide +kernel
theorem od_23_1 : decode jdk_29_method_65_code 1 = .ok (.iload_n 1, 1) := by decide +kernel
theorem od_23_2 : decode jdk_29_method_65_code 2 = .ok (.if_icmp .lt 7, 3) := by decide +kernel
theorem od_23_9 : decode jdk_29_method_65_code 9 = .ok (.iload_n 1, 1) := by decide +kernel
theorem od_23_10 : decode jdk_29_method_65_code 10 = .ok (.ireturn, 1) := by decide +kernel
theorem od_23_5 : decode jdk_29_method_65_code 5 = .ok (.iload_n 0, 1) := by decide +kernel
theorem od_23_6 : decode jdk_29_method_65_code 6 = .ok (.goto 4, 3) := by decide +kernel
theorem od_25_0 : decode jdk_29_method_69_code 0 = .ok (.iload_n 0, 1) := by decide +kernel
theorem od_25_1 : decode jdk_29_method_69_code 1 = .ok (.iload_n 1, 1) := by decide +kernel
theorem od_25_2 : decode jdk_29_method_69_code 2 = .ok (.if_icmp .gt 7, 3) := by decide +kernel
theorem od_25_9 : decode jdk_29_method_69_code 9 = .ok (.iload_n 1, 1) := by decide +kernel
theorem od_25_10 : decode jdk_29_method_69_code 10 = .ok (.ireturn, 1) := by decide +kernel
theorem od_25_5 : decode jdk_29_method_69_code 5 = .ok (.iload_n 0, 1) := by decide +kernel
theorem od_25_6 : decode jdk_29_method_69_code 6 = .ok (.goto 4, 3) := by decide +kernel
theorem od_22_0 : decode jdk_48_method_27_code 0 = .ok (.iload_n 0, 1) := by decide +kernel
theorem od_22_1 : decode jdk_48_method_27_code 1 = .ok (.iload_n 1, 1) := by decide +kernel
theorem od_22_2 : decode jdk_48_method_27_code 2 = .ok (.iload_n 2, 1) := by decide +kernel
theorem od_22_3 : decode jdk_48_method_27_code 3 = .ok (.invokestatic 194, 3) := by decide +kernel
theorem od_22_6 : decode jdk_48_method_27_code 6 = .ok (.iadd, 1) := by decide +kernel
theorem od_22_7 : decode jdk_48_method_27_code 7 = .ok (.istore_n 3, 1) := by decide +kernel
theorem od_22_8 : decode jdk_48_method_27_code 8 = .ok (.iconst 0, 1) := by decide +kernel
theorem od_22_9 : decode jdk_48_method_27_code 9 = .ok (.iload_n 3, 1) := by decide +kernel
theorem od_22_10 : decode jdk_48_method_27_code 10 = .ok (.if_icmp .ge 11, 3) := by decide +kernel
theorem od_22_13 : decode jdk_48_method_27_code 13 = .ok (.iload_n 3, 1) := by decide +kernel
theorem od_22_14 : decode jdk_48_method_27_code 14 = .ok (.ldc 200, 2) := by decide +kernel
theorem od_22_16 : decode jdk_48_method_27_code 16 = .ok (.if_icmp .gt 5, 3) := by decide +kernel
theorem od_22_19 : decode jdk_48_method_27_code 19 = .ok (.iload_n 3, 1) := by decide +kernel
theorem od_22_20 : decode jdk_48_method_27_code 20 = .ok (.ireturn, 1) := by decide +kernel
theorem od_21_0 : decode jdk_68_method_10_code 0 = .ok (.aload_n 0, 1) := by decide +kernel
theorem od_21_1 : decode jdk_68_method_10_code 1 = .ok (.getfield 15, 3) := by decide +kernel
theorem od_21_4 : decode jdk_68_method_10_code 4 = .ok (.arraylength, 1) := by decide +kernel
theorem od_21_5 : decode jdk_68_method_10_code 5 = .ok (.istore_n 2, 1) := by decide +kernel
theorem od_21_6 : decode jdk_68_method_10_code 6 = .ok (.iload_n 1, 1) := by decide +kernel
theorem od_21_7 : decode jdk_68_method_10_code 7 = .ok (.aload_n 0, 1) := by decide +kernel
theorem od_21_8 : decode jdk_68_method_10_code 8 = .ok (.getfield 22, 3) := by decide +kernel
theorem od_21_11 : decode jdk_68_method_10_code 11 = .ok (.ishl, 1) := by decide +kernel
theorem od_21_12 : decode jdk_68_method_10_code 12 = .ok (.istore_n 3, 1) := by decide +kernel
theorem od_21_13 : decode jdk_68_method_10_code 13 = .ok (.iload_n 3, 1) := by decide +kernel
theorem od_21_14 : decode jdk_68_method_10_code 14 = .ok (.iload_n 2, 1) := by decide +kernel
theorem od_21_15 : decode jdk_68_method_10_code 15 = .ok (.isub, 1) := by decide +kernel
theorem od_21_16 : decode jdk_68_method_10_code 16 = .ok (.istore 4, 2) := by decide +kernel
theorem od_21_18 : decode jdk_68_method_10_code 18 = .ok (.iload_n 2, 1) := by decide +kernel
theorem od_21_19 : decode jdk_68_method_10_code 19 = .ok (.iload 4, 2) := by decide +kernel
theorem od_21_21 : decode jdk_68_method_10_code 21 = .ok (.iload_n 2, 1) := by decide +kernel
theorem od_21_22 : decode jdk_68_method_10_code 22 = .ok (.iconst 2, 1) := by decide +kernel
theorem od_21_23 : decode jdk_68_method_10_code 23 = .ok (.aload_n 0, 1) := by decide +kernel
theorem od_21_24 : decode jdk_68_method_10_code 24 = .ok (.getfield 22, 3) := by decide +kernel
theorem od_21_27 : decode jdk_68_method_10_code 27 = .ok (.ishl, 1) := by decide +kernel
theorem od_21_28 : decode jdk_68_method_10_code 28 = .ok (.iadd, 1) := by decide +kernel
theorem od_21_29 : decode jdk_68_method_10_code 29 = .ok (.invokestatic 114, 3) := by decide +kernel
theorem od_21_32 : decode jdk_68_method_10_code 32 = .ok (.istore 5, 2) := by decide +kernel
theorem od_21_34 : decode jdk_68_method_10_code 34 = .ok (.iload 5, 2) := by decide +kernel
theorem od_21_36 : decode jdk_68_method_10_code 36 = .ok (.ldc 39, 2) := by decide +kernel
theorem od_21_38 : decode jdk_68_method_10_code 38 = .ok (.if_icmp .ne 13, 3) := by decide +kernel
theorem od_21_51 : decode jdk_68_method_10_code 51 = .ok (.iload 5, 2) := by decide +kernel
theorem od_21_53 : decode jdk_68_method_10_code 53 = .ok (.aload_n 0, 1) := by decide +kernel
theorem od_21_54 : decode jdk_68_method_10_code 54 = .ok (.getfield 22, 3) := by decide +kernel
theorem od_21_57 : decode jdk_68_method_10_code 57 = .ok (.ishr, 1) := by decide +kernel
theorem od_21_58 : decode jdk_68_method_10_code 58 = .ok (.ireturn, 1) := by decide +kernel
theorem od_24_0 : decode jdk_65_method_121_code 0 = .ok (.iload_n 1, 1) := by decide +kernel
theorem od_24_1 : decode jdk_65_method_121_code 1 = .ok (.aload_n 0, 1) := by decide +kernel
theorem od_24_2 : decode jdk_65_method_121_code 2 = .ok (.arraylength, 1) := by decide +kernel
theorem od_24_3 : decode jdk_65_method_121_code 3 = .ok (.if_icmp .ne 11, 3) := by decide +kernel
theorem od_24_14 : decode jdk_65_method_121_code 14 = .ok (.iload_n 1, 1) := by decide +kernel
theorem od_24_15 : decode jdk_65_method_121_code 15 = .ok (.newarray .byte, 2) := by decide +kernel
theorem od_24_17 : decode jdk_65_method_121_code 17 = .ok (.astore_n 2, 1) := by decide +kernel
theorem od_24_18 : decode jdk_65_method_121_code 18 = .ok (.aload_n 0, 1) := by decide +kernel
theorem od_24_19 : decode jdk_65_method_121_code 19 = .ok (.iconst 0, 1) := by decide +kernel
theorem od_24_20 : decode jdk_65_method_121_code 20 = .ok (.aload_n 2, 1) := by decide +kernel
theorem od_24_21 : decode jdk_65_method_121_code 21 = .ok (.iconst 0, 1) := by decide +kernel
theorem od_24_22 : decode jdk_65_method_121_code 22 = .ok (.aload_n 0, 1) := by decide +kernel
theorem od_24_23 : decode jdk_65_method_121_code 23 = .ok (.arraylength, 1) := by decide +kernel
theorem od_24_24 : decode jdk_65_method_121_code 24 = .ok (.iload_n 1, 1) := by decide +kernel
theorem od_24_25 : decode jdk_65_method_121_code 25 = .ok (.invokestatic 304, 3) := by decide +kernel
theorem od_24_28 : decode jdk_65_method_121_code 28 = .ok (.invokestatic 150, 3) := by decide +kernel
theorem od_24_31 : decode jdk_65_method_121_code 31 = .ok (.aload_n 2, 1) := by decide +kernel
theorem od_24_32 : decode jdk_65_method_121_code 32 = .ok (.areturn, 1) := by decide +kernel
theorem od_17_0 : decode jdk_68_method_9_code 0 = .ok (.aload_n 0, 1) := by decide +kernel
theorem od_17_1 : decode jdk_68_method_9_code 1 = .ok (.getfield 15, 3) := by decide +kernel
theorem od_17_4 : decode jdk_68_method_9_code 4 = .ok (.arraylength, 1) := by decide +kernel
theorem od_17_5 : decode jdk_68_method_9_code 5 = .ok (.aload_n 0, 1) := by decide +kernel
theorem od_17_6 : decode jdk_68_method_9_code 6 = .ok (.getfield 22, 3) := by decide +kernel
theorem od_17_9 : decode jdk_68_method_9_code 9 = .ok (.ishr, 1) := by decide +kernel
theorem od_17_10 : decode jdk_68_method_9_code 10 = .ok (.istore_n 2, 1) := by decide +kernel
theorem od_17_11 : decode jdk_68_method_9_code 11 = .ok (.iload_n 1, 1) := by decide +kernel
theorem od_17_12 : decode jdk_68_method_9_code 12 = .ok (.iload_n 2, 1) := by decide +kernel
theorem od_17_13 : decode jdk_68_method_9_code 13 = .ok (.isub, 1) := by decide +kernel
theorem od_17_14 : decode jdk_68_method_9_code 14 = .ok (.ifCond .le 24, 3) := by decide +kernel
theorem od_17_38 : decode jdk_68_method_9_code 38 = .ok (.return_, 1) := by decide +kernel
theorem od_17_17 : decode jdk_68_method_9_code 17 = .ok (.aload_n 0, 1) := by decide +kernel
theorem od_17_18 : decode jdk_68_method_9_code 18 = .ok (.aload_n 0, 1) := by decide +kernel
theorem od_17_19 : decode jdk_68_method_9_code 19 = .ok (.getfield 15, 3) := by decide +kernel
theorem od_17_22 : decode jdk_68_method_9_code 22 = .ok (.aload_n 0, 1) := by decide +kernel
theorem od_17_23 : decode jdk_68_method_9_code 23 = .ok (.iload_n 1, 1) := by decide +kernel
theorem od_17_24 : decode jdk_68_method_9_code 24 = .ok (.invokevirtual 104, 3) := by decide +kernel
theorem od_17_27 : decode jdk_68_method_9_code 27 = .ok (.aload_n 0, 1) := by decide +kernel
theorem od_17_28 : decode jdk_68_method_9_code 28 = .ok (.getfield 22, 3) := by decide +kernel
theorem od_17_31 : decode jdk_68_method_9_code 31 = .ok (.ishl, 1) := by decide +kernel
theorem od_17_32 : decode jdk_68_method_9_code 32 = .ok (.invokestatic 108, 3) := by decide +kernel
theorem od_17_35 : decode jdk_68_method_9_code 35 = .ok (.putfield 15, 3) := by decide +kernel
theorem od_16_0 : decode jdk_42_method_152_code 0 = .ok (.getstatic 38, 3) := by decide +kernel
theorem od_16_3 : decode jdk_42_method_152_code 3 = .ok (.ifCond .eq 10, 3) := by decide +kernel
theorem od_16_6 : decode jdk_42_method_152_code 6 = .ok (.aload_n 0, 1) := by decide +kernel
theorem od_16_7 : decode jdk_42_method_152_code 7 = .ok (.getfield 15, 3) := by decide +kernel
theorem od_16_10 : decode jdk_42_method_152_code 10 = .ok (.goto 4, 3) := by decide +kernel
theorem od_16_14 : decode jdk_42_method_152_code 14 = .ok (.ireturn, 1) := by decide +kernel
theorem od_19_0 : decode jdk_68_method_71_code 0 = .ok (.getstatic 18, 3) := by decide +kernel
theorem od_19_3 : decode jdk_68_method_71_code 3 = .ok (.ifCond .eq 18, 3) := by decide +kernel
theorem od_19_6 : decode jdk_68_method_71_code 6 = .ok (.aload_n 0, 1) := by decide +kernel
theorem od_19_7 : decode jdk_68_method_71_code 7 = .ok (.getfield 22, 3) := by decide +kernel
theorem od_19_10 : decode jdk_68_method_71_code 10 = .ok (.aload_n 1, 1) := by decide +kernel
theorem od_19_11 : decode jdk_68_method_71_code 11 = .ok (.invokevirtual 40, 3) := by decide +kernel
theorem od_19_14 : decode jdk_68_method_71_code 14 = .ok (.if_icmp .eq 7, 3) := by decide +kernel
theorem od_19_21 : decode jdk_68_method_71_code 21 = .ok (.return_, 1) := by decide +kernel
theorem od_20_0 : decode jdk_42_method_147_code 0 = .ok (.aload_n 0, 1) := by decide +kernel
theorem od_20_1 : decode jdk_42_method_147_code 1 = .ok (.invokevirtual 335, 3) := by decide +kernel
theorem od_20_4 : decode jdk_42_method_147_code 4 = .ok (.iload_n 3, 1) := by decide +kernel
theorem od_20_5 : decode jdk_42_method_147_code 5 = .ok (.if_icmp .ne 23, 3) := by decide +kernel
theorem od_20_8 : decode jdk_42_method_147_code 8 = .ok (.aload_n 0, 1) := by decide +kernel
theorem od_20_9 : decode jdk_42_method_147_code 9 = .ok (.getfield 9, 3) := by decide +kernel
theorem od_20_12 : decode jdk_42_method_147_code 12 = .ok (.iconst 0, 1) := by decide +kernel
theorem od_20_13 : decode jdk_42_method_147_code 13 = .ok (.aload_n 1, 1) := by decide +kernel
theorem od_20_14 : decode jdk_42_method_147_code 14 = .ok (.iload_n 2, 1) := by decide +kernel
theorem od_20_15 : decode jdk_42_method_147_code 15 = .ok (.iload_n 3, 1) := by decide +kernel
theorem od_20_16 : decode jdk_42_method_147_code 16 = .ok (.ishl, 1) := by decide +kernel
theorem od_20_17 : decode jdk_42_method_147_code 17 = .ok (.aload_n 0, 1) := by decide +kernel
theorem od_20_18 : decode jdk_42_method_147_code 18 = .ok (.getfield 9, 3) := by decide +kernel
theorem od_20_21 : decode jdk_42_method_147_code 21 = .ok (.arraylength, 1) := by decide +kernel
theorem od_20_22 : decode jdk_42_method_147_code 22 = .ok (.invokestatic 212, 3) := by decide +kernel
theorem od_20_25 : decode jdk_42_method_147_code 25 = .ok (.goto 18, 3) := by decide +kernel
theorem od_20_43 : decode jdk_42_method_147_code 43 = .ok (.return_, 1) := by decide +kernel
theorem od_18_0 : decode jdk_68_method_73_code 0 = .ok (.aload_n 0, 1) := by decide +kernel
theorem od_18_1 : decode jdk_68_method_73_code 1 = .ok (.aload_n 2, 1) := by decide +kernel
theorem od_18_2 : decode jdk_68_method_73_code 2 = .ok (.invokevirtual 397, 3) := by decide +kernel
theorem od_18_5 : decode jdk_68_method_73_code 5 = .ok (.aload_n 2, 1) := by decide +kernel
theorem od_18_6 : decode jdk_68_method_73_code 6 = .ok (.aload_n 0, 1) := by decide +kernel
theorem od_18_7 : decode jdk_68_method_73_code 7 = .ok (.getfield 15, 3) := by decide +kernel
theorem od_18_10 : decode jdk_68_method_73_code 10 = .ok (.iload_n 1, 1) := by decide +kernel
theorem od_18_11 : decode jdk_68_method_73_code 11 = .ok (.aload_n 0, 1) := by decide +kernel
theorem od_18_12 : decode jdk_68_method_73_code 12 = .ok (.getfield 22, 3) := by decide +kernel
theorem od_18_15 : decode jdk_68_method_73_code 15 = .ok (.invokevirtual 399, 3) := by decide +kernel
theorem od_18_18 : decode jdk_68_method_73_code 18 = .ok (.return_, 1) := by decide +kernel
theorem od_14_0 : decode jdk_68_method_22_code 0 = .ok (.aload_n 1, 1) := by decide +kernel
theorem od_14_1 : decode jdk_68_method_22_code 1 = .ok (.ifnonnull 8, 3) := by decide +kernel
theorem od_14_9 : decode jdk_68_method_22_code 9 = .ok (.aload_n 1, 1) := by decide +kernel
theorem od_14_10 : decode jdk_68_method_22_code 10 = .ok (.invokevirtual 32, 3) := by decide +kernel
theorem od_14_13 : decode jdk_68_method_22_code 13 = .ok (.istore_n 2, 1) := by decide +kernel
theorem od_14_14 : decode jdk_68_method_22_code 14 = .ok (.aload_n 0, 1) := by decide +kernel
theorem od_14_15 : decode jdk_68_method_22_code 15 = .ok (.aload_n 0, 1) := by decide +kernel
theorem od_14_16 : decode jdk_68_method_22_code 16 = .ok (.getfield 79, 3) := by decide +kernel
theorem od_14_19 : decode jdk_68_method_22_code 19 = .ok (.iload_n 2, 1) := by decide +kernel
theorem od_14_20 : decode jdk_68_method_22_code 20 = .ok (.iadd, 1) := by decide +kernel
theorem od_14_21 : decode jdk_68_method_22_code 21 = .ok (.invokevirtual 100, 3) := by decide +kernel
theorem od_14_24 : decode jdk_68_method_22_code 24 = .ok (.aload_n 0, 1) := by decide +kernel
theorem od_14_25 : decode jdk_68_method_22_code 25 = .ok (.aload_n 0, 1) := by decide +kernel
theorem od_14_26 : decode jdk_68_method_22_code 26 = .ok (.getfield 79, 3) := by decide +kernel
theorem od_14_29 : decode jdk_68_method_22_code 29 = .ok (.aload_n 1, 1) := by decide +kernel
theorem od_14_30 : decode jdk_68_method_22_code 30 = .ok (.invokevirtual 208, 3) := by decide +kernel
theorem od_14_33 : decode jdk_68_method_22_code 33 = .ok (.aload_n 0, 1) := by decide +kernel
theorem od_14_34 : decode jdk_68_method_22_code 34 = .ok (.dup, 1) := by decide +kernel
theorem od_14_35 : decode jdk_68_method_22_code 35 = .ok (.getfield 79, 3) := by decide +kernel
theorem od_14_38 : decode jdk_68_method_22_code 38 = .ok (.iload_n 2, 1) := by decide +kernel
theorem od_14_39 : decode jdk_68_method_22_code 39 = .ok (.iadd, 1) := by decide +kernel
theorem od_14_40 : decode jdk_68_method_22_code 40 = .ok (.putfield 79, 3) := by decide +kernel
theorem od_14_43 : decode jdk_68_method_22_code 43 = .ok (.aload_n 0, 1) := by decide +kernel
theorem od_14_44 : decode jdk_68_method_22_code 44 = .ok (.areturn, 1) := by decide +kernel
theorem od_13_0 : decode jdk_67_method_7_code 0 = .ok (.aload_n 0, 1) := by decide +kernel
theorem od_13_1 : decode jdk_67_method_7_code 1 = .ok (.aload_n 1, 1) := by decide +kernel
theorem od_13_2 : decode jdk_67_method_7_code 2 = .ok (.invokespecial 29, 3) := by decide +kernel
theorem od_13_5 : decode jdk_67_method_7_code 5 = .ok (.pop, 1) := by decide +kernel
theorem od_13_6 : decode jdk_67_method_7_code 6 = .ok (.aload_n 0, 1) := by decide +kernel
theorem od_13_7 : decode jdk_67_method_7_code 7 = .ok (.areturn, 1) := by decide +kernel
theorem od_12_0 : decode jdk_68_method_2_code 0 = .ok (.aload_n 0, 1) := by decide +kernel
theorem od_12_1 : decode jdk_68_method_2_code 1 = .ok (.invokespecial 3, 3) := by decide +kernel
theorem od_12_4 : decode jdk_68_method_2_code 4 = .ok (.getstatic 18, 3) := by decide +kernel
theorem od_12_7 : decode jdk_68_method_2_code 7 = .ok (.ifCond .eq 18, 3) := by decide +kernel
theorem od_12_10 : decode jdk_68_method_2_code 10 = .ok (.aload_n 0, 1) := by decide +kernel
theorem od_12_11 : decode jdk_68_method_2_code 11 = .ok (.iload_n 1, 1) := by decide +kernel
theorem od_12_12 : decode jdk_68_method_2_code 12 = .ok (.newarray .byte, 2) := by decide +kernel
theorem od_12_14 : decode jdk_68_method_2_code 14 = .ok (.putfield 15, 3) := by decide +kernel
theorem od_12_17 : decode jdk_68_method_2_code 17 = .ok (.aload_n 0, 1) := by decide +kernel
theorem od_12_18 : decode jdk_68_method_2_code 18 = .ok (.iconst 0, 1) := by decide +kernel
theorem od_12_19 : decode jdk_68_method_2_code 19 = .ok (.putfield 22, 3) := by decide +kernel
theorem od_12_22 : decode jdk_68_method_2_code 22 = .ok (.goto 16, 3) := by decide +kernel
theorem od_12_38 : decode jdk_68_method_2_code 38 = .ok (.return_, 1) := by decide +kernel
theorem od_11_0 : decode jdk_67_method_1_code 0 = .ok (.aload_n 0, 1) := by decide +kernel
theorem od_11_1 : decode jdk_67_method_1_code 1 = .ok (.bipush 16, 2) := by decide +kernel
theorem od_11_3 : decode jdk_67_method_1_code 3 = .ok (.invokespecial 1, 3) := by decide +kernel
theorem od_11_6 : decode jdk_67_method_1_code 6 = .ok (.return_, 1) := by decide +kernel
theorem od_29_0 : decode jdk_68_method_64_code 0 = .ok (.aload_n 0, 1) := by decide +kernel
theorem od_29_1 : decode jdk_68_method_64_code 1 = .ok (.getfield 15, 3) := by decide +kernel
theorem od_29_4 : decode jdk_68_method_64_code 4 = .ok (.areturn, 1) := by decide +kernel
theorem od_31_0 : decode jdk_68_method_6_code 0 = .ok (.aload_n 0, 1) := by decide +kernel
theorem od_31_1 : decode jdk_68_method_6_code 1 = .ok (.getfield 79, 3) := by decide +kernel
theorem od_31_4 : decode jdk_68_method_6_code 4 = .ok (.ireturn, 1) := by decide +kernel
theorem od_32_0 : decode jdk_68_method_68_code 0 = .ok (.getstatic 18, 3) := by decide +kernel
theorem od_32_3 : decode jdk_68_method_68_code 3 = .ok (.ifCond .eq 14, 3) := by decide +kernel
theorem od_32_6 : decode jdk_68_method_68_code 6 = .ok (.aload_n 0, 1) := by decide +kernel
theorem od_32_7 : decode jdk_68_method_68_code 7 = .ok (.getfield 22, 3) := by decide +kernel
theorem od_32_10 : decode jdk_68_method_68_code 10 = .ok (.ifCond .ne 7, 3) := by decide +kernel
theorem od_32_13 : decode jdk_68_method_68_code 13 = .ok (.iconst 1, 1) := by decide +kernel
theorem od_32_14 : decode jdk_68_method_68_code 14 = .ok (.goto 4, 3) := by decide +kernel
theorem od_32_18 : decode jdk_68_method_68_code 18 = .ok (.ireturn, 1) := by decide +kernel
theorem od_30_0 : decode jdk_67_method_93_code 0 = .ok (.aload_n 0, 1) := by decide +kernel
theorem od_30_1 : decode jdk_67_method_93_code 1 = .ok (.invokespecial 343, 3) := by decide +kernel
theorem od_30_4 : decode jdk_67_method_93_code 4 = .ok (.ireturn, 1) := by decide +kernel
theorem od_35_0 : decode jdk_65_method_131_code 0 = .ok (.iload_n 1, 1) := by decide +kernel
theorem od_35_1 : decode jdk_65_method_131_code 1 = .ok (.iload_n 0, 1) := by decide +kernel
theorem od_35_2 : decode jdk_65_method_131_code 2 = .ok (.if_icmp .ge 35, 3) := by decide +kernel
theorem od_35_37 : decode jdk_65_method_131_code 37 = .ok (.return_, 1) := by decide +kernel
theorem od_34_0 : decode jdk_65_method_133_code 0 = .ok (.iload_n 1, 1) := by decide +kernel
theorem od_34_1 : decode jdk_65_method_133_code 1 = .ok (.iload_n 2, 1) := by decide +kernel
theorem od_34_2 : decode jdk_65_method_133_code 2 = .ok (.invokestatic 343, 3) := by decide +kernel
theorem od_34_5 : decode jdk_65_method_133_code 5 = .ok (.iload_n 2, 1) := by decide +kernel
theorem od_34_6 : decode jdk_65_method_133_code 6 = .ok (.iload_n 1, 1) := by decide +kernel
theorem od_34_7 : decode jdk_65_method_133_code 7 = .ok (.isub, 1) := by decide +kernel
theorem od_34_8 : decode jdk_65_method_133_code 8 = .ok (.istore_n 3, 1) := by decide +kernel
theorem od_34_9 : decode jdk_65_method_133_code 9 = .ok (.iload_n 3, 1) := by decide +kernel
theorem od_34_10 : decode jdk_65_method_133_code 10 = .ok (.newarray .byte, 2) := by decide +kernel
theorem od_34_12 : decode jdk_65_method_133_code 12 = .ok (.astore 4, 2) := by decide +kernel
theorem od_34_14 : decode jdk_65_method_133_code 14 = .ok (.aload_n 0, 1) := by decide +kernel
theorem od_34_15 : decode jdk_65_method_133_code 15 = .ok (.iload_n 1, 1) := by decide +kernel
theorem od_34_16 : decode jdk_65_method_133_code 16 = .ok (.aload 4, 2) := by decide +kernel
theorem od_34_18 : decode jdk_65_method_133_code 18 = .ok (.iconst 0, 1) := by decide +kernel
theorem od_34_19 : decode jdk_65_method_133_code 19 = .ok (.aload_n 0, 1) := by decide +kernel
theorem od_34_20 : decode jdk_65_method_133_code 20 = .ok (.arraylength, 1) := by decide +kernel
theorem od_34_21 : decode jdk_65_method_133_code 21 = .ok (.iload_n 1, 1) := by decide +kernel
theorem od_34_22 : decode jdk_65_method_133_code 22 = .ok (.isub, 1) := by decide +kernel
theorem od_34_23 : decode jdk_65_method_133_code 23 = .ok (.iload_n 3, 1) := by decide +kernel
theorem od_34_24 : decode jdk_65_method_133_code 24 = .ok (.invokestatic 304, 3) := by decide +kernel
theorem od_34_27 : decode jdk_65_method_133_code 27 = .ok (.invokestatic 150, 3) := by decide +kernel
theorem od_34_30 : decode jdk_65_method_133_code 30 = .ok (.aload 4, 2) := by decide +kernel
theorem od_34_32 : decode jdk_65_method_133_code 32 = .ok (.areturn, 1) := by decide +kernel
theorem od_33_0 : decode jdk_65_method_132_code 0 = .ok (.iload_n 1, 1) := by decide +kernel
theorem od_33_1 : decode jdk_65_method_132_code 1 = .ok (.ifCond .ne 9, 3) := by decide +kernel
theorem od_33_4 : decode jdk_65_method_132_code 4 = .ok (.iload_n 2, 1) := by decide +kernel
theorem od_33_5 : decode jdk_65_method_132_code 5 = .ok (.aload_n 0, 1) := by decide +kernel
theorem od_33_6 : decode jdk_65_method_132_code 6 = .ok (.arraylength, 1) := by decide +kernel
theorem od_33_7 : decode jdk_65_method_132_code 7 = .ok (.if_icmp .eq 10, 3) := by decide +kernel
theorem od_33_10 : decode jdk_65_method_132_code 10 = .ok (.aload_n 0, 1) := by decide +kernel
theorem od_33_11 : decode jdk_65_method_132_code 11 = .ok (.iload_n 1, 1) := by decide +kernel
theorem od_33_12 : decode jdk_65_method_132_code 12 = .ok (.iload_n 2, 1) := by decide +kernel
theorem od_33_13 : decode jdk_65_method_132_code 13 = .ok (.invokestatic 339, 3) := by decide +kernel
theorem od_33_16 : decode jdk_65_method_132_code 16 = .ok (.areturn, 1) := by decide +kernel
theorem od_28_0 : decode jdk_42_method_150_code 0 = .ok (.aload_n 0, 1) := by decide +kernel
theorem od_28_1 : decode jdk_42_method_150_code 1 = .ok (.invokespecial 1, 3) := by decide +kernel
theorem od_28_4 : decode jdk_42_method_150_code 4 = .ok (.aload_n 1, 1) := by decide +kernel
theorem od_28_5 : decode jdk_42_method_150_code 5 = .ok (.invokevirtual 552, 3) := by decide +kernel
theorem od_28_8 : decode jdk_42_method_150_code 8 = .ok (.astore_n 3, 1) := by decide +kernel
theorem od_28_9 : decode jdk_42_method_150_code 9 = .ok (.aload_n 1, 1) := by decide +kernel
theorem od_28_10 : decode jdk_42_method_150_code 10 = .ok (.invokevirtual 549, 3) := by decide +kernel
theorem od_28_13 : decode jdk_42_method_150_code 13 = .ok (.istore 4, 2) := by decide +kernel
theorem od_28_15 : decode jdk_42_method_150_code 15 = .ok (.aload_n 1, 1) := by decide +kernel
theorem od_28_16 : decode jdk_42_method_150_code 16 = .ok (.invokevirtual 1047, 3) := by decide +kernel
theorem od_28_19 : decode jdk_42_method_150_code 19 = .ok (.ifCond .eq 22, 3) := by decide +kernel
theorem od_28_22 : decode jdk_42_method_150_code 22 = .ok (.aload_n 0, 1) := by decide +kernel
theorem od_28_23 : decode jdk_42_method_150_code 23 = .ok (.iconst 0, 1) := by decide +kernel
theorem od_28_24 : decode jdk_42_method_150_code 24 = .ok (.putfield 15, 3) := by decide +kernel
theorem od_28_27 : decode jdk_42_method_150_code 27 = .ok (.aload_n 0, 1) := by decide +kernel
theorem od_28_28 : decode jdk_42_method_150_code 28 = .ok (.aload_n 3, 1) := by decide +kernel
theorem od_28_29 : decode jdk_42_method_150_code 29 = .ok (.iconst 0, 1) := by decide +kernel
theorem od_28_30 : decode jdk_42_method_150_code 30 = .ok (.iload 4, 2) := by decide +kernel
theorem od_28_32 : decode jdk_42_method_150_code 32 = .ok (.invokestatic 54, 3) := by decide +kernel
theorem od_28_35 : decode jdk_42_method_150_code 35 = .ok (.putfield 9, 3) := by decide +kernel
theorem od_28_38 : decode jdk_42_method_150_code 38 = .ok (.goto 59, 3) := by decide +kernel
theorem od_28_97 : decode jdk_42_method_150_code 97 = .ok (.return_, 1) := by decide +kernel
theorem od_27_0 : decode jdk_42_method_53_code 0 = .ok (.aload_n 0, 1) := by decide +kernel
theorem od_27_1 : decode jdk_42_method_53_code 1 = .ok (.aload_n 1, 1) := by decide +kernel
theorem od_27_2 : decode jdk_42_method_53_code 2 = .ok (.aconst_null, 1) := by decide +kernel
theorem od_27_3 : decode jdk_42_method_53_code 3 = .ok (.invokespecial 489, 3) := by decide +kernel
theorem od_27_6 : decode jdk_42_method_53_code 6 = .ok (.return_, 1) := by decide +kernel
theorem od_26_0 : decode jdk_67_method_42_code 0 = .ok (.new 18, 3) := by decide +kernel
theorem od_26_3 : decode jdk_67_method_42_code 3 = .ok (.dup, 1) := by decide +kernel
theorem od_26_4 : decode jdk_67_method_42_code 4 = .ok (.aload_n 0, 1) := by decide +kernel
theorem od_26_5 : decode jdk_67_method_42_code 5 = .ok (.invokespecial 137, 3) := by decide +kernel
theorem od_26_8 : decode jdk_67_method_42_code 8 = .ok (.areturn, 1) := by decide +kernel
theorem od_8_0 : decode jdk_30_method_1_code 0 = .ok (.aload_n 0, 1) := by decide +kernel
theorem od_8_1 : decode jdk_30_method_1_code 1 = .ok (.invokespecial 1, 3) := by decide +kernel
theorem od_8_4 : decode jdk_30_method_1_code 4 = .ok (.return_, 1) := by decide +kernel
theorem od_9_0 : decode jdk_31_method_11_code 0 = .ok (.aload_n 0, 1) := by decide +kernel
theorem od_9_1 : decode jdk_31_method_11_code 1 = .ok (.ifnonnull 12, 3) := by decide +kernel
theorem od_9_13 : decode jdk_31_method_11_code 13 = .ok (.aload_n 0, 1) := by decide +kernel
theorem od_9_14 : decode jdk_31_method_11_code 14 = .ok (.areturn, 1) := by decide +kernel
theorem od_7_0 : decode prog_22_method_1_code 0 = .ok (.aload_n 0, 1) := by decide +kernel
theorem od_7_1 : decode prog_22_method_1_code 1 = .ok (.invokespecial 1, 3) := by decide +kernel
theorem od_7_4 : decode prog_22_method_1_code 4 = .ok (.aload_n 1, 1) := by decide +kernel
theorem od_7_5 : decode prog_22_method_1_code 5 = .ok (.ldc 7, 2) := by decide +kernel
theorem od_7_7 : decode prog_22_method_1_code 7 = .ok (.invokestatic 9, 3) := by decide +kernel
theorem od_7_10 : decode prog_22_method_1_code 10 = .ok (.pop, 1) := by decide +kernel
theorem od_7_11 : decode prog_22_method_1_code 11 = .ok (.aload_n 2, 1) := by decide +kernel
theorem od_7_12 : decode prog_22_method_1_code 12 = .ok (.ldc 15, 2) := by decide +kernel
theorem od_7_14 : decode prog_22_method_1_code 14 = .ok (.invokestatic 9, 3) := by decide +kernel
theorem od_7_17 : decode prog_22_method_1_code 17 = .ok (.pop, 1) := by decide +kernel
theorem od_7_18 : decode prog_22_method_1_code 18 = .ok (.aload_n 3, 1) := by decide +kernel
theorem od_7_19 : decode prog_22_method_1_code 19 = .ok (.ldc 17, 2) := by decide +kernel
theorem od_7_21 : decode prog_22_method_1_code 21 = .ok (.invokestatic 9, 3) := by decide +kernel
theorem od_7_24 : decode prog_22_method_1_code 24 = .ok (.pop, 1) := by decide +kernel
theorem od_7_25 : decode prog_22_method_1_code 25 = .ok (.aload_n 0, 1) := by decide +kernel
theorem od_7_26 : decode prog_22_method_1_code 26 = .ok (.aload_n 1, 1) := by decide +kernel
theorem od_7_27 : decode prog_22_method_1_code 27 = .ok (.putfield 19, 3) := by decide +kernel
theorem od_7_30 : decode prog_22_method_1_code 30 = .ok (.aload_n 0, 1) := by decide +kernel
theorem od_7_31 : decode prog_22_method_1_code 31 = .ok (.aload_n 2, 1) := by decide +kernel
theorem od_7_32 : decode prog_22_method_1_code 32 = .ok (.putfield 24, 3) := by decide +kernel
theorem od_7_35 : decode prog_22_method_1_code 35 = .ok (.aload_n 0, 1) := by decide +kernel
theorem od_7_36 : decode prog_22_method_1_code 36 = .ok (.aload_n 3, 1) := by decide +kernel
theorem od_7_37 : decode prog_22_method_1_code 37 = .ok (.putfield 26, 3) := by decide +kernel
theorem od_7_40 : decode prog_22_method_1_code 40 = .ok (.return_, 1) := by decide +kernel
theorem od_10_0 : decode prog_22_method_2_code 0 = .ok (.new 28, 3) := by decide +kernel
theorem od_10_3 : decode prog_22_method_2_code 3 = .ok (.dup, 1) := by decide +kernel
theorem od_10_4 : decode prog_22_method_2_code 4 = .ok (.invokespecial 30, 3) := by decide +kernel
theorem od_10_7 : decode prog_22_method_2_code 7 = .ok (.ldc 31, 2) := by decide +kernel
theorem od_10_9 : decode prog_22_method_2_code 9 = .ok (.invokevirtual 33, 3) := by decide +kernel
theorem od_10_12 : decode prog_22_method_2_code 12 = .ok (.aload_n 0, 1) := by decide +kernel
theorem od_10_13 : decode prog_22_method_2_code 13 = .ok (.getfield 19, 3) := by decide +kernel
theorem od_10_16 : decode prog_22_method_2_code 16 = .ok (.invokevirtual 33, 3) := by decide +kernel
theorem od_10_19 : decode prog_22_method_2_code 19 = .ok (.ldc 37, 2) := by decide +kernel
theorem od_10_21 : decode prog_22_method_2_code 21 = .ok (.invokevirtual 33, 3) := by decide +kernel
theorem od_10_24 : decode prog_22_method_2_code 24 = .ok (.aload_n 0, 1) := by decide +kernel
theorem od_10_25 : decode prog_22_method_2_code 25 = .ok (.getfield 26, 3) := by decide +kernel
theorem od_10_28 : decode prog_22_method_2_code 28 = .ok (.invokevirtual 33, 3) := by decide +kernel
theorem od_10_31 : decode prog_22_method_2_code 31 = .ok (.ldc 39, 2) := by decide +kernel
theorem od_10_33 : decode prog_22_method_2_code 33 = .ok (.invokevirtual 33, 3) := by decide +kernel
theorem od_10_36 : decode prog_22_method_2_code 36 = .ok (.invokevirtual 41, 3) := by decide +kernel
theorem od_10_39 : decode prog_22_method_2_code 39 = .ok (.areturn, 1) := by decide +kernel
theorem od_0_0 : decode code 0 = .ok (.iload_n 0, 1) := by decide +kernel
theorem od_0_1 : decode code 1 = .ok (.sipush 255, 3) := by decide +kernel
theorem od_0_4 : decode code 4 = .ok (.iand, 1) := by decide +kernel
theorem od_0_5 : decode code 5 = .ok (.i2c, 1) := by decide +kernel
theorem od_0_6 : decode code 6 = .ok (.istore 4, 2) := by decide +kernel
theorem od_0_8 : decode code 8 = .ok (.iload_n 0, 1) := by decide +kernel
theorem od_0_9 : decode code 9 = .ok (.bipush 8, 2) := by decide +kernel
theorem od_0_11 : decode code 11 = .ok (.iushr, 1) := by decide +kernel
theorem od_0_12 : decode code 12 = .ok (.sipush 255, 3) := by decide +kernel
theorem od_0_15 : decode code 15 = .ok (.iand, 1) := by decide +kernel
theorem od_0_16 : decode code 16 = .ok (.i2c, 1) := by decide +kernel
theorem od_0_17 : decode code 17 = .ok (.istore 5, 2) := by decide +kernel
theorem od_0_19 : decode code 19 = .ok (.iload_n 1, 1) := by decide +kernel
theorem od_0_20 : decode code 20 = .ok (.sipush 255, 3) := by decide +kernel
theorem od_0_23 : decode code 23 = .ok (.iand, 1) := by decide +kernel
theorem od_0_24 : decode code 24 = .ok (.i2c, 1) := by decide +kernel
theorem od_0_25 : decode code 25 = .ok (.istore 6, 2) := by decide +kernel
theorem od_0_27 : decode code 27 = .ok (.iload_n 1, 1) := by decide +kernel
theorem od_0_28 : decode code 28 = .ok (.bipush 8, 2) := by decide +kernel
theorem od_0_30 : decode code 30 = .ok (.iushr, 1) := by decide +kernel
theorem od_0_31 : decode code 31 = .ok (.sipush 255, 3) := by decide +kernel
theorem od_0_34 : decode code 34 = .ok (.iand, 1) := by decide +kernel
theorem od_0_35 : decode code 35 = .ok (.i2c, 1) := by decide +kernel
theorem od_0_36 : decode code 36 = .ok (.istore 7, 2) := by decide +kernel
theorem od_0_38 : decode code 38 = .ok (.iload_n 2, 1) := by decide +kernel
theorem od_0_39 : decode code 39 = .ok (.sipush 255, 3) := by decide +kernel
theorem od_0_42 : decode code 42 = .ok (.iand, 1) := by decide +kernel
theorem od_0_43 : decode code 43 = .ok (.i2c, 1) := by decide +kernel
theorem od_0_44 : decode code 44 = .ok (.istore 8, 2) := by decide +kernel
theorem od_0_46 : decode code 46 = .ok (.iload_n 2, 1) := by decide +kernel
theorem od_0_47 : decode code 47 = .ok (.bipush 8, 2) := by decide +kernel
theorem od_0_49 : decode code 49 = .ok (.iushr, 1) := by decide +kernel
theorem od_0_50 : decode code 50 = .ok (.sipush 255, 3) := by decide +kernel
theorem od_0_53 : decode code 53 = .ok (.iand, 1) := by decide +kernel
theorem od_0_54 : decode code 54 = .ok (.i2c, 1) := by decide +kernel
theorem od_0_55 : decode code 55 = .ok (.istore 9, 2) := by decide +kernel
theorem od_0_57 : decode code 57 = .ok (.new 7, 3) := by decide +kernel
theorem od_0_60 : decode code 60 = .ok (.dup, 1) := by decide +kernel
theorem od_0_61 : decode code 61 = .ok (.iconst 2, 1) := by decide +kernel
theorem od_0_62 : decode code 62 = .ok (.newarray .char, 2) := by decide +kernel
theorem od_0_64 : decode code 64 = .ok (.dup, 1) := by decide +kernel
theorem od_0_65 : decode code 65 = .ok (.iconst 0, 1) := by decide +kernel
theorem od_0_66 : decode code 66 = .ok (.iload 6, 2) := by decide +kernel
theorem od_0_68 : decode code 68 = .ok (.castore, 1) := by decide +kernel
theorem od_0_69 : decode code 69 = .ok (.dup, 1) := by decide +kernel
theorem od_0_70 : decode code 70 = .ok (.iconst 1, 1) := by decide +kernel
theorem od_0_71 : decode code 71 = .ok (.iload 7, 2) := by decide +kernel
theorem od_0_73 : decode code 73 = .ok (.castore, 1) := by decide +kernel
theorem od_0_74 : decode code 74 = .ok (.invokespecial 9, 3) := by decide +kernel
theorem od_0_77 : decode code 77 = .ok (.astore 10, 2) := by decide +kernel
theorem od_0_79 : decode code 79 = .ok (.iload_n 3, 1) := by decide +kernel
theorem od_0_80 : decode code 80 = .ok (.iconst 1, 1) := by decide +kernel
theorem od_0_81 : decode code 81 = .ok (.iand, 1) := by decide +kernel
theorem od_0_82 : decode code 82 = .ok (.ifCond .eq 29, 3) := by decide +kernel
theorem od_0_111 : decode code 111 = .ok (.new 12, 3) := by decide +kernel
theorem od_0_114 : decode code 114 = .ok (.dup, 1) := by decide +kernel
theorem od_0_115 : decode code 115 = .ok (.new 7, 3) := by decide +kernel
theorem od_0_118 : decode code 118 = .ok (.dup, 1) := by decide +kernel
theorem od_0_119 : decode code 119 = .ok (.iconst 2, 1) := by decide +kernel
theorem od_0_120 : decode code 120 = .ok (.newarray .char, 2) := by decide +kernel
theorem od_0_122 : decode code 122 = .ok (.dup, 1) := by decide +kernel
theorem od_0_123 : decode code 123 = .ok (.iconst 0, 1) := by decide +kernel
theorem od_0_124 : decode code 124 = .ok (.iload 4, 2) := by decide +kernel
theorem od_0_126 : decode code 126 = .ok (.castore, 1) := by decide +kernel
theorem od_0_127 : decode code 127 = .ok (.dup, 1) := by decide +kernel
theorem od_0_128 : decode code 128 = .ok (.iconst 1, 1) := by decide +kernel
theorem od_0_129 : decode code 129 = .ok (.iload 5, 2) := by decide +kernel
theorem od_0_131 : decode code 131 = .ok (.castore, 1) := by decide +kernel
theorem od_0_132 : decode code 132 = .ok (.invokespecial 9, 3) := by decide +kernel
theorem od_0_135 : decode code 135 = .ok (.aload 10, 2) := by decide +kernel
theorem od_0_137 : decode code 137 = .ok (.new 7, 3) := by decide +kernel
theorem od_0_140 : decode code 140 = .ok (.dup, 1) := by decide +kernel
theorem od_0_141 : decode code 141 = .ok (.iconst 2, 1) := by decide +kernel
theorem od_0_142 : decode code 142 = .ok (.newarray .char, 2) := by decide +kernel
theorem od_0_144 : decode code 144 = .ok (.dup, 1) := by decide +kernel
theorem od_0_145 : decode code 145 = .ok (.iconst 0, 1) := by decide +kernel
theorem od_0_146 : decode code 146 = .ok (.iload 8, 2) := by decide +kernel
theorem od_0_148 : decode code 148 = .ok (.castore, 1) := by decide +kernel
theorem od_0_149 : decode code 149 = .ok (.dup, 1) := by decide +kernel
theorem od_0_150 : decode code 150 = .ok (.iconst 1, 1) := by decide +kernel
theorem od_0_151 : decode code 151 = .ok (.iload 9, 2) := by decide +kernel
theorem od_0_153 : decode code 153 = .ok (.castore, 1) := by decide +kernel
theorem od_0_154 : decode code 154 = .ok (.invokespecial 9, 3) := by decide +kernel
theorem od_0_157 : decode code 157 = .ok (.invokespecial 16, 3) := by decide +kernel
theorem od_0_160 : decode code 160 = .ok (.astore 11, 2) := by decide +kernel
theorem od_0_162 : decode code 162 = .ok (.bipush 53, 2) := by decide +kernel
theorem od_0_164 : decode code 164 = .ok (.newarray .char, 2) := by decide +kernel
theorem od_0_166 : decode code 166 = .ok (.dup, 1) := by decide +kernel
theorem od_0_167 : decode code 167 = .ok (.iconst 0, 1) := by decide +kernel
theorem od_0_168 : decode code 168 = .ok (.bipush 76, 2) := by decide +kernel
theorem od_0_170 : decode code 170 = .ok (.castore, 1) := by decide +kernel
theorem od_0_171 : decode code 171 = .ok (.dup, 1) := by decide +kernel
theorem od_0_172 : decode code 172 = .ok (.iconst 1, 1) := by decide +kernel
theorem od_0_173 : decode code 173 = .ok (.bipush 111, 2) := by decide +kernel
theorem od_0_175 : decode code 175 = .ok (.castore, 1) := by decide +kernel
theorem od_0_176 : decode code 176 = .ok (.dup, 1) := by decide +kernel
theorem od_0_177 : decode code 177 = .ok (.iconst 2, 1) := by decide +kernel
theorem od_0_178 : decode code 178 = .ok (.bipush 103, 2) := by decide +kernel
theorem od_0_180 : decode code 180 = .ok (.castore, 1) := by decide +kernel
theorem od_0_181 : decode code 181 = .ok (.dup, 1) := by decide +kernel
theorem od_0_182 : decode code 182 = .ok (.iconst 3, 1) := by decide +kernel
theorem od_0_183 : decode code 183 = .ok (.bipush 105, 2) := by decide +kernel
theorem od_0_185 : decode code 185 = .ok (.castore, 1) := by decide +kernel
theorem od_0_186 : decode code 186 = .ok (.dup, 1) := by decide +kernel
theorem od_0_187 : decode code 187 = .ok (.iconst 4, 1) := by decide +kernel
theorem od_0_188 : decode code 188 = .ok (.bipush 110, 2) := by decide +kernel
theorem od_0_190 : decode code 190 = .ok (.castore, 1) := by decide +kernel
theorem od_0_191 : decode code 191 = .ok (.dup, 1) := by decide +kernel
theorem od_0_192 : decode code 192 = .ok (.iconst 5, 1) := by decide +kernel
theorem od_0_193 : decode code 193 = .ok (.bipush 91, 2) := by decide +kernel
theorem od_0_195 : decode code 195 = .ok (.castore, 1) := by decide +kernel
theorem od_0_196 : decode code 196 = .ok (.dup, 1) := by decide +kernel
theorem od_0_197 : decode code 197 = .ok (.bipush 6, 2) := by decide +kernel
theorem od_0_199 : decode code 199 = .ok (.bipush 117, 2) := by decide +kernel
theorem od_0_201 : decode code 201 = .ok (.castore, 1) := by decide +kernel
theorem od_0_202 : decode code 202 = .ok (.dup, 1) := by decide +kernel
theorem od_0_203 : decode code 203 = .ok (.bipush 7, 2) := by decide +kernel
theorem od_0_205 : decode code 205 = .ok (.bipush 115, 2) := by decide +kernel
theorem od_0_207 : decode code 207 = .ok (.castore, 1) := by decide +kernel
theorem od_0_208 : decode code 208 = .ok (.dup, 1) := by decide +kernel
theorem od_0_209 : decode code 209 = .ok (.bipush 8, 2) := by decide +kernel
theorem od_0_211 : decode code 211 = .ok (.bipush 101, 2) := by decide +kernel
theorem od_0_213 : decode code 213 = .ok (.castore, 1) := by decide +kernel
theorem od_0_214 : decode code 214 = .ok (.dup, 1) := by decide +kernel
theorem od_0_215 : decode code 215 = .ok (.bipush 9, 2) := by decide +kernel
theorem od_0_217 : decode code 217 = .ok (.bipush 114, 2) := by decide +kernel
theorem od_0_219 : decode code 219 = .ok (.castore, 1) := by decide +kernel
theorem od_0_220 : decode code 220 = .ok (.dup, 1) := by decide +kernel
theorem od_0_221 : decode code 221 = .ok (.bipush 10, 2) := by decide +kernel
theorem od_0_223 : decode code 223 = .ok (.bipush 110, 2) := by decide +kernel
theorem od_0_225 : decode code 225 = .ok (.castore, 1) := by decide +kernel
theorem od_0_226 : decode code 226 = .ok (.dup, 1) := by decide +kernel
theorem od_0_227 : decode code 227 = .ok (.bipush 11, 2) := by decide +kernel
theorem od_0_229 : decode code 229 = .ok (.bipush 97, 2) := by decide +kernel
theorem od_0_231 : decode code 231 = .ok (.castore, 1) := by decide +kernel
theorem od_0_232 : decode code 232 = .ok (.dup, 1) := by decide +kernel
theorem od_0_233 : decode code 233 = .ok (.bipush 12, 2) := by decide +kernel
theorem od_0_235 : decode code 235 = .ok (.bipush 109, 2) := by decide +kernel
theorem od_0_237 : decode code 237 = .ok (.castore, 1) := by decide +kernel
theorem od_0_238 : decode code 238 = .ok (.dup, 1) := by decide +kernel
theorem od_0_239 : decode code 239 = .ok (.bipush 13, 2) := by decide +kernel
theorem od_0_241 : decode code 241 = .ok (.bipush 101, 2) := by decide +kernel
theorem od_0_243 : decode code 243 = .ok (.castore, 1) := by decide +kernel
theorem od_0_244 : decode code 244 = .ok (.dup, 1) := by decide +kernel
theorem od_0_245 : decode code 245 = .ok (.bipush 14, 2) := by decide +kernel
theorem od_0_247 : decode code 247 = .ok (.bipush 61, 2) := by decide +kernel
theorem od_0_249 : decode code 249 = .ok (.castore, 1) := by decide +kernel
theorem od_0_250 : decode code 250 = .ok (.dup, 1) := by decide +kernel
theorem od_0_251 : decode code 251 = .ok (.bipush 15, 2) := by decide +kernel
theorem od_0_253 : decode code 253 = .ok (.iload 4, 2) := by decide +kernel
theorem od_0_255 : decode code 255 = .ok (.castore, 1) := by decide +kernel
theorem od_0_256 : decode code 256 = .ok (.dup, 1) := by decide +kernel
theorem od_0_257 : decode code 257 = .ok (.bipush 16, 2) := by decide +kernel
theorem od_0_259 : decode code 259 = .ok (.iload 5, 2) := by decide +kernel
theorem od_0_261 : decode code 261 = .ok (.castore, 1) := by decide +kernel
theorem od_0_262 : decode code 262 = .ok (.dup, 1) := by decide +kernel
theorem od_0_263 : decode code 263 = .ok (.bipush 17, 2) := by decide +kernel
theorem od_0_265 : decode code 265 = .ok (.bipush 44, 2) := by decide +kernel
theorem od_0_267 : decode code 267 = .ok (.castore, 1) := by decide +kernel
theorem od_0_268 : decode code 268 = .ok (.dup, 1) := by decide +kernel
theorem od_0_269 : decode code 269 = .ok (.bipush 18, 2) := by decide +kernel
theorem od_0_271 : decode code 271 = .ok (.bipush 32, 2) := by decide +kernel
theorem od_0_273 : decode code 273 = .ok (.castore, 1) := by decide +kernel
theorem od_0_274 : decode code 274 = .ok (.dup, 1) := by decide +kernel
theorem od_0_275 : decode code 275 = .ok (.bipush 19, 2) := by decide +kernel
theorem od_0_277 : decode code 277 = .ok (.bipush 112, 2) := by decide +kernel
theorem od_0_279 : decode code 279 = .ok (.castore, 1) := by decide +kernel
theorem od_0_280 : decode code 280 = .ok (.dup, 1) := by decide +kernel
theorem od_0_281 : decode code 281 = .ok (.bipush 20, 2) := by decide +kernel
theorem od_0_283 : decode code 283 = .ok (.bipush 97, 2) := by decide +kernel
theorem od_0_285 : decode code 285 = .ok (.castore, 1) := by decide +kernel
theorem od_0_286 : decode code 286 = .ok (.dup, 1) := by decide +kernel
theorem od_0_287 : decode code 287 = .ok (.bipush 21, 2) := by decide +kernel
theorem od_0_289 : decode code 289 = .ok (.bipush 115, 2) := by decide +kernel
theorem od_0_291 : decode code 291 = .ok (.castore, 1) := by decide +kernel
theorem od_0_292 : decode code 292 = .ok (.dup, 1) := by decide +kernel
theorem od_0_293 : decode code 293 = .ok (.bipush 22, 2) := by decide +kernel
theorem od_0_295 : decode code 295 = .ok (.bipush 115, 2) := by decide +kernel
theorem od_0_297 : decode code 297 = .ok (.castore, 1) := by decide +kernel
theorem od_0_298 : decode code 298 = .ok (.dup, 1) := by decide +kernel
theorem od_0_299 : decode code 299 = .ok (.bipush 23, 2) := by decide +kernel
theorem od_0_301 : decode code 301 = .ok (.bipush 119, 2) := by decide +kernel
theorem od_0_303 : decode code 303 = .ok (.castore, 1) := by decide +kernel
theorem od_0_304 : decode code 304 = .ok (.dup, 1) := by decide +kernel
theorem od_0_305 : decode code 305 = .ok (.bipush 24, 2) := by decide +kernel
theorem od_0_307 : decode code 307 = .ok (.bipush 111, 2) := by decide +kernel
theorem od_0_309 : decode code 309 = .ok (.castore, 1) := by decide +kernel
theorem od_0_310 : decode code 310 = .ok (.dup, 1) := by decide +kernel
theorem od_0_311 : decode code 311 = .ok (.bipush 25, 2) := by decide +kernel
theorem od_0_313 : decode code 313 = .ok (.bipush 114, 2) := by decide +kernel
theorem od_0_315 : decode code 315 = .ok (.castore, 1) := by decide +kernel
theorem od_0_316 : decode code 316 = .ok (.dup, 1) := by decide +kernel
theorem od_0_317 : decode code 317 = .ok (.bipush 26, 2) := by decide +kernel
theorem od_0_319 : decode code 319 = .ok (.bipush 100, 2) := by decide +kernel
theorem od_0_321 : decode code 321 = .ok (.castore, 1) := by decide +kernel
theorem od_0_322 : decode code 322 = .ok (.dup, 1) := by decide +kernel
theorem od_0_323 : decode code 323 = .ok (.bipush 27, 2) := by decide +kernel
theorem od_0_325 : decode code 325 = .ok (.bipush 61, 2) := by decide +kernel
theorem od_0_327 : decode code 327 = .ok (.castore, 1) := by decide +kernel
theorem od_0_328 : decode code 328 = .ok (.dup, 1) := by decide +kernel
theorem od_0_329 : decode code 329 = .ok (.bipush 28, 2) := by decide +kernel
theorem od_0_331 : decode code 331 = .ok (.bipush 40, 2) := by decide +kernel
theorem od_0_333 : decode code 333 = .ok (.castore, 1) := by decide +kernel
theorem od_0_334 : decode code 334 = .ok (.dup, 1) := by decide +kernel
theorem od_0_335 : decode code 335 = .ok (.bipush 29, 2) := by decide +kernel
theorem od_0_337 : decode code 337 = .ok (.bipush 104, 2) := by decide +kernel
theorem od_0_339 : decode code 339 = .ok (.castore, 1) := by decide +kernel
theorem od_0_340 : decode code 340 = .ok (.dup, 1) := by decide +kernel
theorem od_0_341 : decode code 341 = .ok (.bipush 30, 2) := by decide +kernel
theorem od_0_343 : decode code 343 = .ok (.bipush 105, 2) := by decide +kernel
theorem od_0_345 : decode code 345 = .ok (.castore, 1) := by decide +kernel
theorem od_0_346 : decode code 346 = .ok (.dup, 1) := by decide +kernel
theorem od_0_347 : decode code 347 = .ok (.bipush 31, 2) := by decide +kernel
theorem od_0_349 : decode code 349 = .ok (.bipush 100, 2) := by decide +kernel
theorem od_0_351 : decode code 351 = .ok (.castore, 1) := by decide +kernel
theorem od_0_352 : decode code 352 = .ok (.dup, 1) := by decide +kernel
theorem od_0_353 : decode code 353 = .ok (.bipush 32, 2) := by decide +kernel
theorem od_0_355 : decode code 355 = .ok (.bipush 100, 2) := by decide +kernel
theorem od_0_357 : decode code 357 = .ok (.castore, 1) := by decide +kernel
theorem od_0_358 : decode code 358 = .ok (.dup, 1) := by decide +kernel
theorem od_0_359 : decode code 359 = .ok (.bipush 33, 2) := by decide +kernel
theorem od_0_361 : decode code 361 = .ok (.bipush 101, 2) := by decide +kernel
theorem od_0_363 : decode code 363 = .ok (.castore, 1) := by decide +kernel
theorem od_0_364 : decode code 364 = .ok (.dup, 1) := by decide +kernel
theorem od_0_365 : decode code 365 = .ok (.bipush 34, 2) := by decide +kernel
theorem od_0_367 : decode code 367 = .ok (.bipush 110, 2) := by decide +kernel
theorem od_0_369 : decode code 369 = .ok (.castore, 1) := by decide +kernel
theorem od_0_370 : decode code 370 = .ok (.dup, 1) := by decide +kernel
theorem od_0_371 : decode code 371 = .ok (.bipush 35, 2) := by decide +kernel
theorem od_0_373 : decode code 373 = .ok (.bipush 41, 2) := by decide +kernel
theorem od_0_375 : decode code 375 = .ok (.castore, 1) := by decide +kernel
theorem od_0_376 : decode code 376 = .ok (.dup, 1) := by decide +kernel
theorem od_0_377 : decode code 377 = .ok (.bipush 36, 2) := by decide +kernel
theorem od_0_379 : decode code 379 = .ok (.bipush 44, 2) := by decide +kernel
theorem od_0_381 : decode code 381 = .ok (.castore, 1) := by decide +kernel
theorem od_0_382 : decode code 382 = .ok (.dup, 1) := by decide +kernel
theorem od_0_383 : decode code 383 = .ok (.bipush 37, 2) := by decide +kernel
theorem od_0_385 : decode code 385 = .ok (.bipush 32, 2) := by decide +kernel
theorem od_0_387 : decode code 387 = .ok (.castore, 1) := by decide +kernel
theorem od_0_388 : decode code 388 = .ok (.dup, 1) := by decide +kernel
theorem od_0_389 : decode code 389 = .ok (.bipush 38, 2) := by decide +kernel
theorem od_0_391 : decode code 391 = .ok (.bipush 118, 2) := by decide +kernel
theorem od_0_393 : decode code 393 = .ok (.castore, 1) := by decide +kernel
theorem od_0_394 : decode code 394 = .ok (.dup, 1) := by decide +kernel
theorem od_0_395 : decode code 395 = .ok (.bipush 39, 2) := by decide +kernel
theorem od_0_397 : decode code 397 = .ok (.bipush 105, 2) := by decide +kernel
theorem od_0_399 : decode code 399 = .ok (.castore, 1) := by decide +kernel
theorem od_0_400 : decode code 400 = .ok (.dup, 1) := by decide +kernel
theorem od_0_401 : decode code 401 = .ok (.bipush 40, 2) := by decide +kernel
theorem od_0_403 : decode code 403 = .ok (.bipush 114, 2) := by decide +kernel
theorem od_0_405 : decode code 405 = .ok (.castore, 1) := by decide +kernel
theorem od_0_406 : decode code 406 = .ok (.dup, 1) := by decide +kernel
theorem od_0_407 : decode code 407 = .ok (.bipush 41, 2) := by decide +kernel
theorem od_0_409 : decode code 409 = .ok (.bipush 116, 2) := by decide +kernel
theorem od_0_411 : decode code 411 = .ok (.castore, 1) := by decide +kernel
theorem od_0_412 : decode code 412 = .ok (.dup, 1) := by decide +kernel
theorem od_0_413 : decode code 413 = .ok (.bipush 42, 2) := by decide +kernel
theorem od_0_415 : decode code 415 = .ok (.bipush 117, 2) := by decide +kernel
theorem od_0_417 : decode code 417 = .ok (.castore, 1) := by decide +kernel
theorem od_0_418 : decode code 418 = .ok (.dup, 1) := by decide +kernel
theorem od_0_419 : decode code 419 = .ok (.bipush 43, 2) := by decide +kernel
theorem od_0_421 : decode code 421 = .ok (.bipush 97, 2) := by decide +kernel
theorem od_0_423 : decode code 423 = .ok (.castore, 1) := by decide +kernel
theorem od_0_424 : decode code 424 = .ok (.dup, 1) := by decide +kernel
theorem od_0_425 : decode code 425 = .ok (.bipush 44, 2) := by decide +kernel
theorem od_0_427 : decode code 427 = .ok (.bipush 108, 2) := by decide +kernel
theorem od_0_429 : decode code 429 = .ok (.castore, 1) := by decide +kernel
theorem od_0_430 : decode code 430 = .ok (.dup, 1) := by decide +kernel
theorem od_0_431 : decode code 431 = .ok (.bipush 45, 2) := by decide +kernel
theorem od_0_433 : decode code 433 = .ok (.bipush 72, 2) := by decide +kernel
theorem od_0_435 : decode code 435 = .ok (.castore, 1) := by decide +kernel
theorem od_0_436 : decode code 436 = .ok (.dup, 1) := by decide +kernel
theorem od_0_437 : decode code 437 = .ok (.bipush 46, 2) := by decide +kernel
theorem od_0_439 : decode code 439 = .ok (.bipush 111, 2) := by decide +kernel
theorem od_0_441 : decode code 441 = .ok (.castore, 1) := by decide +kernel
theorem od_0_442 : decode code 442 = .ok (.dup, 1) := by decide +kernel
theorem od_0_443 : decode code 443 = .ok (.bipush 47, 2) := by decide +kernel
theorem od_0_445 : decode code 445 = .ok (.bipush 115, 2) := by decide +kernel
theorem od_0_447 : decode code 447 = .ok (.castore, 1) := by decide +kernel
theorem od_0_448 : decode code 448 = .ok (.dup, 1) := by decide +kernel
theorem od_0_449 : decode code 449 = .ok (.bipush 48, 2) := by decide +kernel
theorem od_0_451 : decode code 451 = .ok (.bipush 116, 2) := by decide +kernel
theorem od_0_453 : decode code 453 = .ok (.castore, 1) := by decide +kernel
theorem od_0_454 : decode code 454 = .ok (.dup, 1) := by decide +kernel
theorem od_0_455 : decode code 455 = .ok (.bipush 49, 2) := by decide +kernel
theorem od_0_457 : decode code 457 = .ok (.bipush 61, 2) := by decide +kernel
theorem od_0_459 : decode code 459 = .ok (.castore, 1) := by decide +kernel
theorem od_0_460 : decode code 460 = .ok (.dup, 1) := by decide +kernel
theorem od_0_461 : decode code 461 = .ok (.bipush 50, 2) := by decide +kernel
theorem od_0_463 : decode code 463 = .ok (.iload 8, 2) := by decide +kernel
theorem od_0_465 : decode code 465 = .ok (.castore, 1) := by decide +kernel
theorem od_0_466 : decode code 466 = .ok (.dup, 1) := by decide +kernel
theorem od_0_467 : decode code 467 = .ok (.bipush 51, 2) := by decide +kernel
theorem od_0_469 : decode code 469 = .ok (.iload 9, 2) := by decide +kernel
theorem od_0_471 : decode code 471 = .ok (.castore, 1) := by decide +kernel
theorem od_0_472 : decode code 472 = .ok (.dup, 1) := by decide +kernel
theorem od_0_473 : decode code 473 = .ok (.bipush 52, 2) := by decide +kernel
theorem od_0_475 : decode code 475 = .ok (.bipush 93, 2) := by decide +kernel
theorem od_0_477 : decode code 477 = .ok (.castore, 1) := by decide +kernel
theorem od_0_478 : decode code 478 = .ok (.astore 12, 2) := by decide +kernel
theorem od_0_480 : decode code 480 = .ok (.new 7, 3) := by decide +kernel
theorem od_0_483 : decode code 483 = .ok (.dup, 1) := by decide +kernel
theorem od_0_484 : decode code 484 = .ok (.aload 12, 2) := by decide +kernel
theorem od_0_486 : decode code 486 = .ok (.invokespecial 9, 3) := by decide +kernel
theorem od_0_489 : decode code 489 = .ok (.aload 11, 2) := by decide +kernel
theorem od_0_491 : decode code 491 = .ok (.invokevirtual 21, 3) := by decide +kernel
theorem od_0_494 : decode code 494 = .ok (.invokevirtual 25, 3) := by decide +kernel
theorem od_0_497 : decode code 497 = .ok (.ireturn, 1) := by decide +kernel
theorem od_0_85 : decode code 85 = .ok (.new 12, 3) := by decide +kernel
theorem od_0_88 : decode code 88 = .ok (.dup, 1) := by decide +kernel
theorem od_0_89 : decode code 89 = .ok (.ldc 14, 2) := by decide +kernel
theorem od_0_91 : decode code 91 = .ok (.aload 10, 2) := by decide +kernel
theorem od_0_93 : decode code 93 = .ok (.ldc 14, 2) := by decide +kernel
theorem od_0_95 : decode code 95 = .ok (.invokespecial 16, 3) := by decide +kernel
theorem od_0_98 : decode code 98 = .ok (.astore 11, 2) := by decide +kernel
theorem od_0_100 : decode code 100 = .ok (.ldc 19, 2) := by decide +kernel
theorem od_0_102 : decode code 102 = .ok (.aload 11, 2) := by decide +kernel
theorem od_0_104 : decode code 104 = .ok (.invokevirtual 21, 3) := by decide +kernel
theorem od_0_107 : decode code 107 = .ok (.invokevirtual 25, 3) := by decide +kernel
theorem od_0_110 : decode code 110 = .ok (.ireturn, 1) := by decide +kernel
theorem opd_0 : parseMethodDescriptor "(II)I" = some ⟨[.int, .int], some .int⟩ := by decide +kernel
theorem opd_1 : parseMethodDescriptor "(III)I" = some ⟨[.int, .int, .int], some .int⟩ := by decide +kernel
theorem opd_2 : parseMethodDescriptor "(I)I" = some ⟨[.int], some .int⟩ := by decide +kernel
theorem opd_3 : parseMethodDescriptor "([BI)[B" = some ⟨[(.array .byte), .int], some (.array .byte)⟩ := by decide +kernel
theorem opd_4 : parseMethodDescriptor "()B" = some ⟨[], some .byte⟩ := by decide +kernel
theorem opd_5 : parseMethodDescriptor "(Ljava/lang/String;)V" = some ⟨[(.object "java/lang/String")], none⟩ := by decide +kernel
theorem opd_6 : parseMethodDescriptor "([BIB)V" = some ⟨[(.array .byte), .int, .byte], none⟩ := by decide +kernel
theorem opd_7 : parseMethodDescriptor "()I" = some ⟨[], some .int⟩ := by decide +kernel
theorem opd_8 : parseMethodDescriptor "(I)V" = some ⟨[.int], none⟩ := by decide +kernel
theorem opd_9 : parseMethodDescriptor "(ILjava/lang/String;)V" = some ⟨[.int, (.object "java/lang/String")], none⟩ := by decide +kernel
theorem opd_10 : parseMethodDescriptor "(Ljava/lang/String;)Ljava/lang/AbstractStringBuilder;" = some ⟨[(.object "java/lang/String")], some (.object "java/lang/AbstractStringBuilder")⟩ := by decide +kernel
theorem opd_11 : parseMethodDescriptor "(II)V" = some ⟨[.int, .int], none⟩ := by decide +kernel
theorem opd_12 : parseMethodDescriptor "([BII)[B" = some ⟨[(.array .byte), .int, .int], some (.array .byte)⟩ := by decide +kernel
theorem opd_13 : parseMethodDescriptor "()[B" = some ⟨[], some (.array .byte)⟩ := by decide +kernel
theorem opd_14 : parseMethodDescriptor "()Z" = some ⟨[], some .boolean⟩ := by decide +kernel
theorem opd_15 : parseMethodDescriptor "(Ljava/lang/AbstractStringBuilder;Ljava/lang/Void;)V" = some ⟨[(.object "java/lang/AbstractStringBuilder"), (.object "java/lang/Void")], none⟩ := by decide +kernel
theorem opd_16 : parseMethodDescriptor "(Ljava/lang/StringBuilder;)V" = some ⟨[(.object "java/lang/StringBuilder")], none⟩ := by decide +kernel
theorem opd_17 : parseMethodDescriptor "()V" = some ⟨[], none⟩ := by decide +kernel
theorem opd_18 : parseMethodDescriptor "(Ljava/lang/Object;Ljava/lang/String;)Ljava/lang/Object;" = some ⟨[(.object "java/lang/Object"), (.object "java/lang/String")], some (.object "java/lang/Object")⟩ := by decide +kernel
theorem opd_19 : parseMethodDescriptor "(Ljava/lang/String;)Ljava/lang/StringBuilder;" = some ⟨[(.object "java/lang/String")], some (.object "java/lang/StringBuilder")⟩ := by decide +kernel
theorem opd_20 : parseMethodDescriptor "()Ljava/lang/String;" = some ⟨[], some (.object "java/lang/String")⟩ := by decide +kernel
theorem opd_21 : parseMethodDescriptor "([C)V" = some ⟨[(.array .char)], none⟩ := by decide +kernel
theorem opd_22 : parseMethodDescriptor "(Ljava/lang/String;Ljava/lang/String;Ljava/lang/String;)V" = some ⟨[(.object "java/lang/String"), (.object "java/lang/String"), (.object "java/lang/String")], none⟩ := by decide +kernel
theorem opd_23 : parseMethodDescriptor "(Ljava/lang/Object;)Z" = some ⟨[(.object "java/lang/Object")], some .boolean⟩ := by decide +kernel
theorem opn_0 : plainFor ({ cls := "java/lang/Math", name := "max", desc := "(II)I" } : Jvm.MethodName) = true := Jvm.Free.JP.mathPlain rfl (by decide +kernel)
theorem opn_1 : plainFor ({ cls := "java/lang/Math", name := "min", desc := "(II)I" } : Jvm.MethodName) = true := Jvm.Free.JP.mathPlain rfl (by decide +kernel)
theorem opn_2 : plainFor ({ cls := "jdk/internal/util/ArraysSupport", name := "newLength", desc := "(III)I" } : Jvm.MethodName) = true := by decide +kernel
theorem opn_3 : plainFor ({ cls := "java/lang/AbstractStringBuilder", name := "newCapacity", desc := "(I)I" } : Jvm.MethodName) = true := by decide +kernel
theorem opn_4 : plainFor ({ cls := "java/util/Arrays", name := "copyOf", desc := "([BI)[B" } : Jvm.MethodName) = true := by decide +kernel
theorem opn_5 : plainFor ({ cls := "java/lang/AbstractStringBuilder", name := "ensureCapacityInternal", desc := "(I)V" } : Jvm.MethodName) = true := by decide +kernel
theorem opn_6 : plainFor ({ cls := "java/lang/String", name := "coder", desc := "()B" } : Jvm.MethodName) = true := by decide +kernel
theorem opn_7 : plainFor ({ cls := "java/lang/AbstractStringBuilder", name := "inflateIfNeededFor", desc := "(Ljava/lang/String;)V" } : Jvm.MethodName) = true := by decide +kernel
theorem opn_8 : plainFor ({ cls := "java/lang/String", name := "getBytes", desc := "([BIB)V" } : Jvm.MethodName) = true := by decide +kernel
theorem opn_9 : plainFor ({ cls := "java/lang/AbstractStringBuilder", name := "putStringAt", desc := "(ILjava/lang/String;)V" } : Jvm.MethodName) = true := by decide +kernel
theorem opn_10 : plainFor ({ cls := "java/lang/AbstractStringBuilder", name := "append", desc := "(Ljava/lang/String;)Ljava/lang/AbstractStringBuilder;" } : Jvm.MethodName) = true := by decide +kernel
theorem opn_11 : plainFor ({ cls := "java/lang/StringBuilder", name := "append", desc := "(Ljava/lang/String;)Ljava/lang/StringBuilder;" } : Jvm.MethodName) = true := by decide +kernel
theorem opn_12 : plainFor ({ cls := "java/lang/AbstractStringBuilder", name := "<init>", desc := "(I)V" } : Jvm.MethodName) = true := by decide +kernel
theorem opn_13 : plainFor ({ cls := "java/lang/StringBuilder", name := "<init>", desc := "()V" } : Jvm.MethodName) = true := by decide +kernel
theorem opn_14 : plainFor ({ cls := "java/lang/AbstractStringBuilder", name := "getValue", desc := "()[B" } : Jvm.MethodName) = true := by decide +kernel
theorem opn_15 : plainFor ({ cls := "java/lang/AbstractStringBuilder", name := "length", desc := "()I" } : Jvm.MethodName) = true := by decide +kernel
theorem opn_16 : plainFor ({ cls := "java/lang/AbstractStringBuilder", name := "isLatin1", desc := "()Z" } : Jvm.MethodName) = true := by decide +kernel
theorem opn_17 : plainFor ({ cls := "java/lang/StringBuilder", name := "length", desc := "()I" } : Jvm.MethodName) = true := by decide +kernel
theorem opn_18 : plainFor ({ cls := "java/util/Arrays", name := "checkLength", desc := "(II)V" } : Jvm.MethodName) = true := by decide +kernel
theorem opn_19 : plainFor ({ cls := "java/util/Arrays", name := "copyOfRangeByte", desc := "([BII)[B" } : Jvm.MethodName) = true := by decide +kernel
theorem opn_20 : plainFor ({ cls := "java/util/Arrays", name := "copyOfRange", desc := "([BII)[B" } : Jvm.MethodName) = true := by decide +kernel
theorem opn_21 : plainFor ({ cls := "java/lang/String", name := "<init>", desc := "(Ljava/lang/AbstractStringBuilder;Ljava/lang/Void;)V" } : Jvm.MethodName) = true := by decide +kernel
theorem opn_22 : plainFor ({ cls := "java/lang/String", name := "<init>", desc := "(Ljava/lang/StringBuilder;)V" } : Jvm.MethodName) = true := by decide +kernel
theorem opn_23 : plainFor ({ cls := "java/lang/StringBuilder", name := "toString", desc := "()Ljava/lang/String;" } : Jvm.MethodName) = true := by decide +kernel
theorem opn_24 : plainFor ({ cls := "java/lang/Record", name := "<init>", desc := "()V" } : Jvm.MethodName) = true := by decide +kernel
theorem opn_25 : plainFor ({ cls := "java/util/Objects", name := "requireNonNull", desc := "(Ljava/lang/Object;Ljava/lang/String;)Ljava/lang/Object;" } : Jvm.MethodName) = true := by decide +kernel
theorem opn_26 : plainFor ({ cls := "com/example/pilotage/pilotage/core/ReadinessCheck$Login", name := "<init>", desc := "(Ljava/lang/String;Ljava/lang/String;Ljava/lang/String;)V" } : Jvm.MethodName) = true := by decide +kernel
theorem opn_27 : plainFor ({ cls := "com/example/pilotage/pilotage/core/ReadinessCheck$Login", name := "toString", desc := "()Ljava/lang/String;" } : Jvm.MethodName) = true := by decide +kernel
theorem opn_28 : plainFor ({ cls := "com/example/pilotage/pilotage/core/LoginToStringPinLaw", name := "law", desc := "(IIII)Z" } : Jvm.MethodName) = true := by decide +kernel
abbrev ST0 : String := "java/lang/String"
/-- at x lies a String of the chars cs, each 0 to 255; its bytes lie at t -/
def Str8 (Z : State) (h : Heap) (x t : Addr) (cs : List Int32) : Prop := Exa Z h x "java/lang/String" ∧ Fld Z h x "java/lang/String" "coder" "B" (.int 0) ∧ Fld Z h x "java/lang/String" "value" "[B" (.ref t) ∧
  (∃ kb, Arv Z h t kb .byte (Int32.ofNat cs.length) ((cs.map fun c => c.toInt8.toInt32).map Value.int) (.int 0)) ∧ (∀ c ∈ cs, ¬ c < 0 ∧ ¬ (255 : Int32) < c) ∧ cs.length ≤ 4000
theorem Str8.keep {Z : State} {h h' : Heap} {x t : Addr} {cs : List Int32} {ws : List Addr} (F : Str8 Z h x t cs) (K : Keep h h' ws) (q : x ∉ ws) (r : t ∉ ws) : Str8 Z h' x t cs := by
  obtain ⟨a, b, c, ⟨kb, d⟩, e⟩ := F
  exact ⟨a.keep K, b.keep K q, c.keep K q, ⟨kb, d.keep K r⟩, e⟩
theorem Str8.lt {Z : State} {h : Heap} {x t : Addr} {cs : List Int32} (F : Str8 Z h x t cs) : x < h.size := F.1.lt
theorem Str8.lt2 {Z : State} {h : Heap} {x t : Addr} {cs : List Int32} (F : Str8 Z h x t cs) : t < h.size := by obtain ⟨-, -, -, ⟨kb, d⟩, -⟩ := F; exact d.lt
theorem up16 (cs : List Int32) (h : ∀ c ∈ cs, ¬ c < 0 ∧ ¬ (255 : Int32) < c) : ∀ c ∈ cs, ¬ c < 0 ∧ ¬ (65535 : Int32) < c := fun c hc => ⟨(h c hc).1, fun q => (h c hc).2 (by rw [Int32.lt_iff_toInt_lt] at q ⊢; have e1 : (65535 : Int32).toInt = 65535 := rfl; have e2 : (255 : Int32).toInt = 255 := rfl; omega)⟩
theorem and255 (x : Int32) : ¬ (x &&& 255) < 0 ∧ ¬ (255 : Int32) < (x &&& 255) := by
  have h := c_and x 255 (by decide)
  have e2 : (255 : Int32).toInt = 255 := rfl
  have e0 : (0 : Int32).toInt = 0 := rfl
  rw [Int32.lt_iff_toInt_lt, Int32.lt_iff_toInt_lt, e0, e2]
  rw [e2] at h
  omega
theorem nar255 (x : Int32) : nar .char (x &&& 255) = x &&& 255 := i2c_mask x
theorem fa0 {P : Int32 → Prop} : ∀ c ∈ ([] : List Int32), P c := fun _ q => nomatch q
theorem faS {P : Int32 → Prop} {a : Int32} {L : List Int32} (q : P a) (r : ∀ c ∈ L, P c) : ∀ c ∈ a :: L, P c := fun x z => (List.mem_cons.mp z).elim (fun u => u ▸ q) (r x)
theorem own_init {l : Launch} {Z : State} {a0 : Array Value} (hw : HW Z a0) {h : Heap} (hO : Old Z Z.heap.size h) {x b : Addr} {kC : ClassId} {cs : List Int32} {d v0 c0 : Value} {N : Int32} {n : Nat} (hx0 : Z.heap.size ≤ x) (E : Exa Z h x "java/lang/String") (Vf : Fld Z h x "java/lang/String" "value" "[B" v0) (C : Fld Z h x "java/lang/String" "coder" "B" c0)
    (K : Arv Z h b kC .char N (cs.map Value.int) d) (hn : cs.length = n) (hN : N = Int32.ofNat n) (l0 : 0 < n) (l2 : n ≤ 4000) (hp : ∀ c ∈ cs, ¬ c < 0 ∧ ¬ (255 : Int32) < c) :
    Pay l Z EL0 nw0 ⟨"java/lang/String", "<init>", "([C)V"⟩ 3 4 65 1 n [.ref x, .ref b] h [x] (fun v h' M' => v = none ∧ M' = [] ∧ Keep h h' [x] ∧ ∃ t, h.size ≤ t ∧ Str8 Z h' x t cs) := by
  obtain ⟨z, S, hz⟩ := hw.2.1.1
  refine Pay.of_back (a0 := a0) (own_ew hw) hO (fun R p e below s args Wd hZ hfr hlo => StrChars.Road.backV hZ (fun q hq => hw.1 q ((by decide +kernel : ∀ d ∈ StrChars.Road.words, d ∈ tables_1) q hq)) (kI := 4) (own_wS hw) (n0 := Z.heap.size) hx0 hO.2.1 E Vf C K (S.ext hO.2) hz hn hN l0 l2 hp rfl hfr hlo) (ws := [x]) (mC mem0 mN) (fun v h' L q => ?_)
  obtain ⟨rfl, N1, K1, E1, C1, t, kb, -, b2, -, V1, A1⟩ := q
  subst hN hn
  exact ⟨⟨rfl, rfl, K1, t, b2, E1, C1, V1, ⟨kb, A1⟩, hp, l2⟩, N1, K1⟩
theorem own_len {l : Launch} {Z : State} {a0 : Array Value} (hw : HW Z a0) {h : Heap} (hO : Old Z Z.heap.size h) {x t : Addr} {cs : List Int32} (F : Str8 Z h x t cs) :
    Pay l Z EL0 nw0 ⟨"java/lang/String", "length", "()I"⟩ 3 2 25 0 0 [.ref x] h [] (fun v h' M' => v = some (.int (Int32.ofNat cs.length)) ∧ M' = [] ∧ h' = h) := by
  obtain ⟨z, S, hz⟩ := hw.2.1.1
  obtain ⟨E, C, Vf, ⟨kb, A⟩, hp, l2⟩ := F
  refine Pay.of_back (a0 := a0) (Q' := fun v h' L => v = some (.int (Int32.ofNat cs.length)) ∧ L = [] ∧ h' = h) (own_ew hw) hO (fun R p e below s args Wd hZ hfr hlo => StrChars.Road.lenW hZ (fun q hq => hw.1 q ((by decide +kernel : ∀ d ∈ StrChars.Road.wordsLen, d ∈ tables_1) q hq)) (kI := 4) (own_wS hw) E Vf C A (StrChars.Road.codOf rfl (fun c hc => (hp c hc).2)) (up16 cs hp) (S.ext hO.2) hz l2 hfr hlo) (ws := []) mN (fun v h' L q => ?_)
  obtain ⟨rfl, rfl, rfl⟩ := q
  exact ⟨⟨rfl, rfl, rfl⟩, Fr.nil _, Keep.refl _ _⟩
theorem own_eq {l : Launch} {Z : State} {a0 : Array Value} (hw : HW Z a0) {h : Heap} (hO : Old Z Z.heap.size h) {x t y u : Addr} {cs ds : List Int32} (F : Str8 Z h x t cs) (G : Str8 Z h y u ds) :
    Pay l Z EL0 nw0 ⟨"java/lang/String", "equals", "(Ljava/lang/Object;)Z"⟩ 3 2 28 0 0 [.ref x, .ref y] h [] (fun v h' M' => v = some (.int (if cs = ds then 1 else 0)) ∧ M' = [] ∧ h' = h) := by
  obtain ⟨z, S, hz⟩ := hw.2.1.1
  obtain ⟨E, C, Vf, ⟨kb, A⟩, hp, l2⟩ := F
  obtain ⟨E', C', Vf', ⟨kb', A'⟩, hp', l2'⟩ := G
  refine Pay.of_back (a0 := a0) (Q' := fun v h' L => ((v = some (.int 1) ∧ cs = ds) ∨ (v = some (.int 0) ∧ ¬ cs = ds)) ∧ L = [] ∧ h' = h) (own_ew hw) hO (fun R p e below s args Wd hZ hfr hlo => StrChars.Road.eqW hZ (fun q hq => hw.1 q ((by decide +kernel : ∀ d ∈ StrChars.Road.wordsEq, d ∈ tables_1) q hq)) (kI := 4) (own_wS hw) E Vf C A (StrChars.Road.codOf rfl (fun c hc => (hp c hc).2)) (up16 cs hp) l2 E' Vf' C' A' (StrChars.Road.codOf rfl (fun c hc => (hp' c hc).2)) (up16 ds hp') l2' (S.ext hO.2) hz hfr hlo) (ws := []) mN (fun v h' L q => ?_)
  obtain ⟨q, rfl, rfl⟩ := q
  refine ⟨⟨?_, rfl, rfl⟩, Fr.nil _, Keep.refl _ _⟩
  rcases q with ⟨rfl, q⟩ | ⟨rfl, q⟩
  · rw [if_pos q]
  · rw [if_neg q]
theorem lat_fin {c : Int32} (h : ¬ c < 0 ∧ ¬ (255 : Int32) < c) : ∃ k : Fin 256, c = Int32.ofNat k.val := by
  have e0 : (0 : Int32).toInt = 0 := rfl
  have e1 : (255 : Int32).toInt = 255 := rfl
  rw [Int32.lt_iff_toInt_lt, Int32.lt_iff_toInt_lt, e0, e1] at h
  refine ⟨⟨c.toInt.toNat, by omega⟩, ?_⟩
  apply Int32.toInt_inj.mp
  rw [Int32.toInt_ofNat_of_lt (by show c.toInt.toNat < 2 ^ 31; omega)]
  show c.toInt = (c.toInt.toNat : Int)
  omega
theorem l255 (x : Int64) : ¬ (x &&& 255).toInt32 < 0 ∧ ¬ (255 : Int32) < (x &&& 255).toInt32 := by
  have q := c_maskL x 255 8 (by decide) (by decide)
  have q2 := c_l2i (x &&& 255)
  have r := rng32 (x &&& 255).toInt32
  have e0 : (0 : Int32).toInt = 0 := rfl
  have e1 : (255 : Int32).toInt = 255 := rfl
  rw [Int32.lt_iff_toInt_lt, Int32.lt_iff_toInt_lt, e0, e1]
  have : ((2 ^ 8 : Nat) : Int) = 256 := rfl
  rw [this] at q
  omega
theorem i2c_lat {c : Int32} (h : ¬ c < 0 ∧ ¬ (255 : Int32) < c) : c.toUInt32.toUInt16.toUInt32.toInt32 = c := by
  obtain ⟨k, rfl⟩ := lat_fin h
  revert k
  decide +kernel
theorem nar_lat {c : Int32} (h : ¬ c < 0 ∧ ¬ (255 : Int32) < c) : nar .char c = c := i2c_lat h
section Nums
theorem n_val {a : Nat} (h : a < 2147483648) : (Int32.ofNat a).toInt = a := Int32.toInt_ofNat_of_lt h
theorem n_add (a b : Nat) : Int32.ofNat a + Int32.ofNat b = Int32.ofNat (a + b) := by
  apply Int32.toBitVec_inj.mp
  show BitVec.ofNat 32 a + BitVec.ofNat 32 b = BitVec.ofNat 32 (a + b)
  rw [BitVec.ofNat_add]
theorem n_sub {a b : Nat} (h : b ≤ a) : Int32.ofNat a - Int32.ofNat b = Int32.ofNat (a - b) := by
  have e := n_add (a - b) b
  rw [Nat.sub_add_cancel h] at e
  rw [← e, Int32.add_sub_cancel]
theorem n_lt {a b : Nat} (ha : a < 2147483648) (hb : b < 2147483648) : (Int32.ofNat a < Int32.ofNat b) ↔ a < b := by
  rw [Int32.lt_iff_toInt_lt, n_val ha, n_val hb]; omega
theorem n_eq {a b : Nat} (ha : a < 2147483648) (hb : b < 2147483648) : (Int32.ofNat a = Int32.ofNat b) ↔ a = b := by
  rw [← Int32.toInt_inj, n_val ha, n_val hb]; omega
theorem n_nat {a : Nat} (ha : a < 2147483648) : (Int32.ofNat a).toNatClampNeg = a := by
  simp only [Int32.toNatClampNeg, n_val ha]; omega
theorem n_nn {a : Nat} (ha : a < 2147483648) : ¬ Int32.ofNat a < 0 := by
  have e : (0 : Int32).toInt = 0 := rfl
  rw [Int32.lt_iff_toInt_lt, n_val ha, e]; omega
theorem n_in {a b : Nat} (h : a < b) (hb : b < 2147483648) : ¬ Int32.ofNat a < 0 ∧ Int32.ofNat a < Int32.ofNat b := ⟨n_nn (by omega), (n_lt (by omega) hb).mpr h⟩
theorem shl00 (x : Int32) : x <<< ((0 : Int32) &&& 31) = x := by
  have e : (0 : Int32) &&& 31 = 0 := by decide
  rw [e]; apply Int32.toBitVec_inj.mp; simp
theorem shr00 (x : Int32) : x >>> ((0 : Int32) &&& 31) = x := by
  have e : (0 : Int32) &&& 31 = 0 := by decide
  rw [e]; apply Int32.toBitVec_inj.mp; simp
theorem i_lt {x y : Int32} {a b : Int} (hx : x.toInt = a) (hy : y.toInt = b) : (x < y) ↔ a < b := by rw [Int32.lt_iff_toInt_lt, hx, hy]
theorem i_eq {x y : Int32} {a b : Int} (hx : x.toInt = a) (hy : y.toInt = b) : (x = y) ↔ a = b := by rw [← Int32.toInt_inj, hx, hy]
end Nums
/-- the bytes of Latin-1 chars -/
def by8 (cs : List Int32) : List Value := (cs.map fun c => c.toInt8.toInt32).map Value.int
theorem by8_len (cs : List Int32) : (by8 cs).length = cs.length := by simp [by8]
theorem by8_app (cs ds : List Int32) : by8 (cs ++ ds) = by8 cs ++ by8 ds := by simp [by8]
/-- at b lies a StringBuilder of the chars cs (each 0 to 255); its byte[] of cap places lies at t, behind the chars rs -/
def SB (Z : State) (h : Heap) (b t : Addr) (cs : List Int32) (cap : Nat) (rs : List Value) : Prop := Exa Z h b "java/lang/StringBuilder" ∧ Fld Z h b "java/lang/AbstractStringBuilder" "coder" "B" (.int 0) ∧ Fld Z h b "java/lang/AbstractStringBuilder" "count" "I" (.int (Int32.ofNat cs.length)) ∧ Fld Z h b "java/lang/AbstractStringBuilder" "value" "[B" (.ref t) ∧
  (∃ k, Arv Z h t k .byte (Int32.ofNat cap) (by8 cs ++ rs) (.int 0)) ∧ cs.length + rs.length = cap ∧ (∀ c ∈ cs, ¬ c < 0 ∧ ¬ (255 : Int32) < c) ∧ cap ≤ 4000
theorem SB.keep {Z : State} {h h' : Heap} {b t : Addr} {cs : List Int32} {cap : Nat} {rs : List Value} {ws : List Addr} (F : SB Z h b t cs cap rs) (K : Keep h h' ws) (q : b ∉ ws) (r : t ∉ ws) : SB Z h' b t cs cap rs := by
  obtain ⟨a1, a2, a3, a4, ⟨k, a5⟩, a6⟩ := F
  exact ⟨a1.keep K, a2.keep K q, a3.keep K q, a4.keep K q, ⟨k, a5.keep K r⟩, a6⟩
theorem SB.lt {Z : State} {h : Heap} {b t : Addr} {cs : List Int32} {cap : Nat} {rs : List Value} (F : SB Z h b t cs cap rs) : b < h.size := F.1.lt
theorem SB.lt2 {Z : State} {h : Heap} {b t : Addr} {cs : List Int32} {cap : Nat} {rs : List Value} (F : SB Z h b t cs cap rs) : t < h.size := by obtain ⟨-, -, -, -, ⟨k, d⟩, -⟩ := F; exact d.lt
theorem n_subneg {a b : Nat} (h : a ≤ b) (hb : b < 2147483648) : ¬ (0 : Int32) < Int32.ofNat a - Int32.ofNat b := by
  have e : (0 : Int32).toInt = 0 := rfl
  have q := c_isub (Int32.ofNat a) (Int32.ofNat b)
  have r := rng32 (Int32.ofNat a - Int32.ofNat b)
  rw [n_val (by omega), n_val hb] at q
  rw [Int32.lt_iff_toInt_lt, e]
  omega
theorem range_all (vs : List Value) (d : Value) : ((List.range vs.length).map fun i => vs.getD i d) = vs := by
  apply List.ext_getElem
  · simp
  · intro i h1 h2; simp [List.getD_eq_getElem?_getD, h2]
theorem range_sub (vs : List Value) (d : Value) {p n : Nat} (h : p + n ≤ vs.length) : ((List.range n).map fun i => vs.getD (p + i) d) = (vs.drop p).take n := by
  apply List.ext_getElem
  · simp; omega
  · intro i h1 h2
    have h3 : i < n := by simpa using h1
    have h4 : p + i < vs.length := by omega
    simp [List.getD_eq_getElem?_getD, h4]
theorem n_ok {a : Nat} (h : a < 2147483648) : ¬ Int32.ofNat a < 0 ∧ (Int32.ofNat a).toNatClampNeg = a := ⟨n_nn h, n_nat h⟩
theorem z_ok : ¬ (0 : Int32) < 0 ∧ (0 : Int32).toNatClampNeg = 0 := by decide
theorem copy_front (vs : List Value) (d e : Value) {L n : Nat} (hl : vs.length = L) (h : L ≤ n) : (List.replicate n e).take 0 ++ ((List.range L).map fun i => vs.getD (0 + i) d) ++ (List.replicate n e).drop (0 + L) = vs ++ List.replicate (n - L) e := by
  subst hl
  have e := range_all vs d
  simp only [Nat.zero_add, List.take_zero, List.nil_append, List.drop_replicate]
  rw [e]
theorem copy_into (cs ds : List Int32) (rs : List Value) (d : Value) {p m : Nat} (hp : cs.length = p) (hm : ds.length = m) : (by8 cs ++ rs).take p ++ ((List.range m).map fun i => (by8 ds).getD (0 + i) d) ++ (by8 cs ++ rs).drop (p + m) = by8 (cs ++ ds) ++ rs.drop m := by
  subst hp hm
  have e1 : ((List.range ds.length).map fun i => (by8 ds).getD (0 + i) d) = by8 ds := by
    have := range_all (by8 ds) d
    rw [by8_len] at this
    simpa using this
  have e2 : (by8 cs ++ rs).take cs.length = by8 cs := List.take_left' (by8_len cs)
  have e3 : (by8 cs ++ rs).drop (cs.length + ds.length) = rs.drop ds.length := by
    rw [← List.drop_drop, List.drop_left' (by8_len cs)]
  rw [e1, e2, e3, by8_app]
theorem copy_sub (vs : List Value) (d e : Value) {p n : Nat} (h : p + n ≤ vs.length) : (List.replicate n e).take 0 ++ ((List.range n).map fun i => vs.getD (p + i) d) ++ (List.replicate n e).drop (0 + n) = (vs.drop p).take n := by
  rw [range_sub vs d h]
  simp
set_option maxRecDepth 65536 in
set_option maxHeartbeats 40000000 in
theorem c_max {l : Launch} {Z : State} {a0 : Array Value} (hw : HW Z a0) {h0 : Heap} {p q : Nat} (hp : p < 2147483648) (hq : q < 2147483648) (hO : Old Z Z.heap.size h0) : Ctr l Z EL0 nw0 ({ cls := "java/lang/Math", name := "max", desc := "(II)I" } : Jvm.MethodName) jdk_29_method_65_code 2 (some .int) ({ frames := 0, cells := 0, slots := 0, locals := 0 } : Room) [.int (Int32.ofNat p), .int (Int32.ofNat q)] h0 [] (fun v h M' => v = some (.int (Int32.ofNat (max p q))) ∧ M' = [] ∧ h = h0) := by
  refine of_body (a0 := a0) opn_0 (own_ew hw) hO (Ls := #[.val (.int (Int32.ofNat (p))), .val (.int (Int32.ofNat (q)))]) (fun m => by first | rfl | (simp [entryFrame, mkF, argsToLocals, Value.category]; done)) (fun κ T0 w0 hnm => ?_)
  refine W.iloadN w0 od_23_0 (pc' := 1) rfl rfl ?_
  refine W.iloadN w0 od_23_1 (pc' := 2) rfl rfl ?_
  rcases Decidable.em ((Int32.ofNat (p)) < (Int32.ofNat (q))) with hc1 | hc1
  · refine W.icmpYes w0 od_23_2 (pc' := 9) (by decide) (by decide) (tlt hc1).1 ?_
    refine W.iloadN w0 od_23_9 (pc' := 10) rfl rfl ?_
    have hh : p < q := (n_lt (by omega) (by omega)).mp hc1
    exact W.retI w0 rfl od_23_10 (M' := []) mN (by decide) (by decide) ⟨congrArg (fun z => some (Value.int (Int32.ofNat z))) (show q = max p q by (first | rw [Nat.max_def] | rw [Nat.min_def]); split <;> omega), rfl, rfl⟩
  · refine W.icmpNo w0 od_23_2 (pc' := 5) rfl (flt hc1).1 ?_
    refine W.iloadN w0 od_23_5 (pc' := 6) rfl rfl ?_
    refine W.goto w0 od_23_6 (pc' := 10) (by decide) (by decide) ?_
    have hh : ¬ p < q := fun z => hc1 ((n_lt (by omega) (by omega)).mpr z)
    exact W.retI w0 rfl od_23_10 (M' := []) mN (by decide) (by decide) ⟨congrArg (fun z => some (Value.int (Int32.ofNat z))) (show p = max p q by (first | rw [Nat.max_def] | rw [Nat.min_def]); split <;> omega), rfl, rfl⟩
set_option maxRecDepth 65536 in
set_option maxHeartbeats 40000000 in
theorem c_min {l : Launch} {Z : State} {a0 : Array Value} (hw : HW Z a0) {h0 : Heap} {p q : Nat} (hp : p < 2147483648) (hq : q < 2147483648) (hO : Old Z Z.heap.size h0) : Ctr l Z EL0 nw0 ({ cls := "java/lang/Math", name := "min", desc := "(II)I" } : Jvm.MethodName) jdk_29_method_69_code 2 (some .int) ({ frames := 0, cells := 0, slots := 0, locals := 0 } : Room) [.int (Int32.ofNat p), .int (Int32.ofNat q)] h0 [] (fun v h M' => v = some (.int (Int32.ofNat (min p q))) ∧ M' = [] ∧ h = h0) := by
  refine of_body (a0 := a0) opn_1 (own_ew hw) hO (Ls := #[.val (.int (Int32.ofNat (p))), .val (.int (Int32.ofNat (q)))]) (fun m => by first | rfl | (simp [entryFrame, mkF, argsToLocals, Value.category]; done)) (fun κ T0 w0 hnm => ?_)
  refine W.iloadN w0 od_25_0 (pc' := 1) rfl rfl ?_
  refine W.iloadN w0 od_25_1 (pc' := 2) rfl rfl ?_
  rcases Decidable.em ((Int32.ofNat (q)) < (Int32.ofNat (p))) with hc1 | hc1
  · refine W.icmpYes w0 od_25_2 (pc' := 9) (by decide) (by decide) (tlt hc1).2.2.1 ?_
    refine W.iloadN w0 od_25_9 (pc' := 10) rfl rfl ?_
    have hh : q < p := (n_lt (by omega) (by omega)).mp hc1
    exact W.retI w0 rfl od_25_10 (M' := []) mN (by decide) (by decide) ⟨congrArg (fun z => some (Value.int (Int32.ofNat z))) (show q = min p q by (first | rw [Nat.max_def] | rw [Nat.min_def]); split <;> omega), rfl, rfl⟩
  · refine W.icmpNo w0 od_25_2 (pc' := 5) rfl (flt hc1).2.2.1 ?_
    refine W.iloadN w0 od_25_5 (pc' := 6) rfl rfl ?_
    refine W.goto w0 od_25_6 (pc' := 10) (by decide) (by decide) ?_
    have hh : ¬ q < p := fun z => hc1 ((n_lt (by omega) (by omega)).mpr z)
    exact W.retI w0 rfl od_25_10 (M' := []) mN (by decide) (by decide) ⟨congrArg (fun z => some (Value.int (Int32.ofNat z))) (show p = min p q by (first | rw [Nat.max_def] | rw [Nat.min_def]); split <;> omega), rfl, rfl⟩
set_option maxRecDepth 65536 in
set_option maxHeartbeats 40000000 in
theorem c_newLength {l : Launch} {Z : State} {a0 : Array Value} (hw : HW Z a0) {h0 : Heap} {p q r : Nat} (hp : p ≤ 100000) (hq : q ≤ 100000) (hr : r ≤ 100000) (h1 : 0 < r) (hO : Old Z Z.heap.size h0) : Ctr l Z EL0 nw0 ({ cls := "jdk/internal/util/ArraysSupport", name := "newLength", desc := "(III)I" } : Jvm.MethodName) jdk_48_method_27_code 4 (some .int) ({ frames := 1, cells := 0, slots := 0, locals := 14 } : Room) [.int (Int32.ofNat p), .int (Int32.ofNat q), .int (Int32.ofNat r)] h0 [] (fun v h M' => v = some (.int (Int32.ofNat (p + max q r))) ∧ M' = [] ∧ h = h0) := by
  refine of_body (a0 := a0) opn_2 (own_ew hw) hO (Ls := #[.val (.int (Int32.ofNat (p))), .val (.int (Int32.ofNat (q))), .val (.int (Int32.ofNat (r))), .unset]) (fun m => by first | rfl | (simp [entryFrame, mkF, argsToLocals, Value.category]; done)) (fun κ T0 w0 hnm => ?_)
  have hm : max q r ≤ 100000 ∧ 0 < max q r := by omega
  refine W.iloadN w0 od_22_0 (pc' := 1) rfl rfl ?_
  refine W.iloadN w0 od_22_1 (pc' := 2) rfl rfl ?_
  refine W.iloadN w0 od_22_2 (pc' := 3) rfl rfl ?_
  refine W.callS w0 (ow_140 hw) (ow_141 hw) (ow_142 hw) (ow_143 hw) (by decide) opd_0 (Ctr.pay (c_max hw (p := q) (q := r) (by omega) (by omega) w0.old) (own_ew hw) (ow_143 hw) (ow_142 hw) (kf := 1) (kl := 13) (by decide) (by decide)) mN od_22_3 (pc' := 6) rfl rfl rfl (rest := [(.int (Int32.ofNat (p)))]) rfl (Wd := 1) rfl (by decide) (by decide) (by decide) (by decide) fun v3 T1 h2 M4 w5 q6 => ?_
  obtain ⟨rfl, rfl, e7⟩ := q6
  obtain rfl := e7.symm
  show Go Z _ _ _ κ _ (T1.setTop (mkF (km κ) 6 #[.val (.int (Int32.ofNat (p))), .val (.int (Int32.ofNat (q))), .val (.int (Int32.ofNat (r))), .unset] [(.int (Int32.ofNat (max (q) (r)))), (.int (Int32.ofNat (p)))]))
  refine W.iadd w5 od_22_6 (pc' := 7) rfl (z := (Int32.ofNat (p + max (q) (r)))) (n_add _ _) ?_
  refine W.istoreN w5 od_22_7 (pc' := 8) rfl (Ls' := #[.val (.int (Int32.ofNat (p))), .val (.int (Int32.ofNat (q))), .val (.int (Int32.ofNat (r))), .val (.int (Int32.ofNat (p + max (q) (r))))]) rfl ?_
  refine W.iconst w5 od_22_8 (pc' := 9) rfl (z := (0 : Int32)) rfl ?_
  refine W.iloadN w5 od_22_9 (pc' := 10) rfl rfl ?_
  refine W.icmpNo w5 od_22_10 (pc' := 13) rfl (tlt (show (0 : Int32) < (Int32.ofNat (p + max (q) (r))) from (i_lt (show (0 : Int32).toInt = 0 by decide) (n_val (a := p + max (q) (r)) (by omega))).mpr (by omega))).2.1 ?_
  refine W.iloadN w5 od_22_13 (pc' := 14) rfl rfl ?_
  refine W.ldcI w5 (ow_144 hw) od_22_14 (pc' := 16) rfl ?_
  refine W.icmpNo w5 od_22_16 (pc' := 19) rfl (flt (show ¬ ((2147483639 : Int32) < (Int32.ofNat (p + max (q) (r)))) from fun hlt_ => absurd ((i_lt (show (2147483639 : Int32).toInt = 2147483639 by decide) (n_val (a := p + max (q) (r)) (by omega))).mp hlt_) (by omega))).2.2.1 ?_
  refine W.iloadN w5 od_22_19 (pc' := 20) rfl rfl ?_
  exact W.retI w5 rfl od_22_20 (M' := []) mN (by decide) (by decide) ⟨rfl, rfl, rfl⟩
set_option maxRecDepth 65536 in
set_option maxHeartbeats 40000000 in
theorem c_newCap {l : Launch} {Z : State} {a0 : Array Value} (hw : HW Z a0) {h0 : Heap} {b t : Addr} {m : Nat} {k : ClassId} {vs : List Value} {L : Nat} (E_b : Exa Z h0 b "java/lang/StringBuilder") (F_c : Fld Z h0 b "java/lang/AbstractStringBuilder" "coder" "B" (.int 0)) (F_v : Fld Z h0 b "java/lang/AbstractStringBuilder" "value" "[B" (.ref t)) (V_t : Arv Z h0 t k .byte (Int32.ofNat L) vs (.int 0)) (hL : L ≤ 4000) (hm1 : L ≤ m) (hm2 : m ≤ 4000) (hO : Old Z Z.heap.size h0) : Ctr l Z EL0 nw0 ({ cls := "java/lang/AbstractStringBuilder", name := "newCapacity", desc := "(I)I" } : Jvm.MethodName) jdk_68_method_10_code 6 (some .int) ({ frames := 2, cells := 0, slots := 0, locals := 29 } : Room) [.ref b, .int (Int32.ofNat m)] h0 [] (fun v h M' => v = some (.int (Int32.ofNat (L + max (m - L) (L + 2)))) ∧ M' = [] ∧ h = h0) := by
  refine of_body (a0 := a0) opn_3 (own_ew hw) hO (Ls := #[.val (.ref b), .val (.int (Int32.ofNat (m))), .unset, .unset, .unset, .unset]) (fun m => by first | rfl | (simp [entryFrame, mkF, argsToLocals, Value.category]; done)) (fun κ T0 w0 hnm => ?_)
  have hm : max (m - (L)) (L + 2) ≤ 50000 := by omega
  refine W.aloadN w0 od_21_0 (pc' := 1) rfl rfl rfl ?_
  refine W.getF w0 (host := "") (Or.inl (ow_78 hw)) Via.refl F_v od_21_1 (pc' := 4) rfl fun T1 w2 => ?_
  refine W.alen w2 V_t od_21_4 (pc' := 5) rfl ?_
  refine W.istoreN w2 od_21_5 (pc' := 6) rfl (Ls' := #[.val (.ref b), .val (.int (Int32.ofNat (m))), .val (.int (Int32.ofNat (L))), .unset, .unset, .unset]) rfl ?_
  refine W.iloadN w2 od_21_6 (pc' := 7) rfl rfl ?_
  refine W.aloadN w2 od_21_7 (pc' := 8) rfl rfl rfl ?_
  refine W.getF w2 (host := "") (Or.inl (ow_80 hw)) Via.refl F_c od_21_8 (pc' := 11) rfl fun T3 w4 => ?_
  refine W.ishl w4 od_21_11 (pc' := 12) rfl (z := (Int32.ofNat (m))) (shl00 _) ?_
  refine W.istoreN w4 od_21_12 (pc' := 13) rfl (Ls' := #[.val (.ref b), .val (.int (Int32.ofNat (m))), .val (.int (Int32.ofNat (L))), .val (.int (Int32.ofNat (m))), .unset, .unset]) rfl ?_
  refine W.iloadN w4 od_21_13 (pc' := 14) rfl rfl ?_
  refine W.iloadN w4 od_21_14 (pc' := 15) rfl rfl ?_
  refine W.isub w4 od_21_15 (pc' := 16) rfl (z := (Int32.ofNat (m - (L)))) (n_sub (by omega)) ?_
  refine W.istore w4 od_21_16 (pc' := 18) rfl (Ls' := #[.val (.ref b), .val (.int (Int32.ofNat (m))), .val (.int (Int32.ofNat (L))), .val (.int (Int32.ofNat (m))), .val (.int (Int32.ofNat (m - (L)))), .unset]) rfl ?_
  refine W.iloadN w4 od_21_18 (pc' := 19) rfl rfl ?_
  refine W.iload w4 od_21_19 (pc' := 21) rfl rfl ?_
  refine W.iloadN w4 od_21_21 (pc' := 22) rfl rfl ?_
  refine W.iconst w4 od_21_22 (pc' := 23) rfl (z := (2 : Int32)) rfl ?_
  refine W.aloadN w4 od_21_23 (pc' := 24) rfl rfl rfl ?_
  refine W.getF w4 (host := "") (Or.inl (ow_80 hw)) Via.refl F_c od_21_24 (pc' := 27) rfl fun T5 w6 => ?_
  refine W.ishl w6 od_21_27 (pc' := 28) rfl (z := (2 : Int32)) rfl ?_
  refine W.iadd w6 od_21_28 (pc' := 29) rfl (z := (Int32.ofNat (L + 2))) (n_add _ _) ?_
  refine W.callS w6 (ow_136 hw) (ow_137 hw) (ow_138 hw) (ow_139 hw) (by decide) opd_1 (Ctr.pay (c_newLength hw (p := L) (q := m - (L)) (r := L + 2) (by omega) (by omega) (by omega) (by omega) w6.old) (own_ew hw) (ow_139 hw) (ow_138 hw) (kf := 2) (kl := 29) (by decide) (by decide)) mN od_21_29 (pc' := 32) rfl rfl rfl (rest := []) rfl (Wd := 0) rfl (by decide) (by decide) (by decide) (by decide) fun v9 T7 h8 M10 w11 q12 => ?_
  obtain ⟨rfl, rfl, e13⟩ := q12
  obtain rfl := e13.symm
  show Go Z _ _ _ κ _ (T7.setTop (mkF (km κ) 32 #[.val (.ref b), .val (.int (Int32.ofNat (m))), .val (.int (Int32.ofNat (L))), .val (.int (Int32.ofNat (m))), .val (.int (Int32.ofNat (m - (L)))), .unset] [(.int (Int32.ofNat (L + max (m - (L)) (L + 2))))]))
  refine W.istore w11 od_21_32 (pc' := 34) rfl (Ls' := #[.val (.ref b), .val (.int (Int32.ofNat (m))), .val (.int (Int32.ofNat (L))), .val (.int (Int32.ofNat (m))), .val (.int (Int32.ofNat (m - (L)))), .val (.int (Int32.ofNat (L + max (m - (L)) (L + 2))))]) rfl ?_
  refine W.iload w11 od_21_34 (pc' := 36) rfl rfl ?_
  refine W.ldcI w11 (ow_145 hw) od_21_36 (pc' := 38) rfl ?_
  refine W.icmpYes w11 od_21_38 (pc' := 51) (by decide) (by decide) (feq (show ¬ ((Int32.ofNat (L + max (m - (L)) (L + 2))) = (2147483647 : Int32)) from fun hlt_ => absurd ((i_eq (n_val (a := L + max (m - (L)) (L + 2)) (by omega)) (show (2147483647 : Int32).toInt = 2147483647 by decide)).mp hlt_) (by omega))).2 ?_
  refine W.iload w11 od_21_51 (pc' := 53) rfl rfl ?_
  refine W.aloadN w11 od_21_53 (pc' := 54) rfl rfl rfl ?_
  refine W.getF w11 (host := "") (Or.inl (ow_80 hw)) Via.refl F_c od_21_54 (pc' := 57) rfl fun T14 w15 => ?_
  refine W.ishr w15 od_21_57 (pc' := 58) rfl (z := (Int32.ofNat (L + max (m - (L)) (L + 2)))) (shr00 _) ?_
  exact W.retI w15 rfl od_21_58 (M' := []) mN (by decide) (by decide) ⟨rfl, rfl, rfl⟩
set_option maxRecDepth 65536 in
set_option maxHeartbeats 40000000 in
theorem c_copyOf {l : Launch} {Z : State} {a0 : Array Value} (hw : HW Z a0) {h0 : Heap} {a : Addr} {n : Nat} {k : ClassId} {vs : List Value} {L : Nat} (V_a : Arv Z h0 a k .byte (Int32.ofNat L) vs (.int 0)) (hl : vs.length = L) (hLn : L < n) (hn : n ≤ 200) (hO : Old Z Z.heap.size h0) : Ctr l Z EL0 nw0 ({ cls := "java/util/Arrays", name := "copyOf", desc := "([BI)[B" } : Jvm.MethodName) jdk_65_method_121_code 3 (some (.array .byte)) ({ frames := 1, cells := 1, slots := 200, locals := 18 } : Room) [.ref a, .int (Int32.ofNat n)] h0 [] (fun v h M' => ∃ b, v = some (.ref b) ∧ M' = [b] ∧ Keep h0 h [] ∧ h0.size ≤ b ∧ ∃ k', Arv Z h b k' .byte (Int32.ofNat n) (vs ++ List.replicate (n - L) (.int 0)) (.int 0)) := by
  refine of_body (a0 := a0) opn_4 (own_ew hw) hO (Ls := #[.val (.ref a), .val (.int (Int32.ofNat (n))), .unset]) (fun m => by first | rfl | (simp [entryFrame, mkF, argsToLocals, Value.category]; done)) (fun κ T0 w0 hnm => ?_)
  refine W.iloadN w0 od_24_0 (pc' := 1) rfl rfl ?_
  refine W.aloadN w0 od_24_1 (pc' := 2) rfl rfl rfl ?_
  refine W.alen w0 V_a od_24_2 (pc' := 3) rfl ?_
  refine W.icmpYes w0 od_24_3 (pc' := 14) (by decide) (by decide) (feq (show ¬ ((Int32.ofNat (n)) = (Int32.ofNat (L))) from fun hlt_ => absurd ((i_eq (n_val (a := n) (by omega)) (n_val (a := L) (by omega))).mp hlt_) (by omega))).2 ?_
  refine W.iloadN w0 od_24_14 (pc' := 15) rfl rfl ?_
  refine W.newPB w0 (ty := .byte) rfl (ow_19 hw) od_24_15 (pc' := 17) rfl (n_nn (a := n) (by omega)) (len := n) (n_nat (by omega)) (cap := 200) (by omega) (by decide) (by decide) (by decide) fun T1 h2 a3 k4 w5 K6 B7 V8 => ?_
  have ne9 : a ≠ a3 := neL V_a.lt B7
  have V10 : Arv Z h2 a3 k4 .byte (Int32.ofNat (n)) (List.replicate (n) (.int 0)) (.int 0) := V8
  refine W.astoreN w5 od_24_17 (pc' := 18) rfl (Ls' := #[.val (.ref a), .val (.int (Int32.ofNat (n))), .val (.ref a3)]) rfl rfl ?_
  refine W.aloadN w5 od_24_18 (pc' := 19) rfl rfl rfl ?_
  refine W.iconst w5 od_24_19 (pc' := 20) rfl (z := (0 : Int32)) rfl ?_
  refine W.aloadN w5 od_24_20 (pc' := 21) rfl rfl rfl ?_
  refine W.iconst w5 od_24_21 (pc' := 22) rfl (z := (0 : Int32)) rfl ?_
  refine W.aloadN w5 od_24_22 (pc' := 23) rfl rfl rfl ?_
  have f11 := (V_a.keep K6 nin0)
  refine W.alen w5 f11 od_24_23 (pc' := 24) rfl ?_
  refine W.iloadN w5 od_24_24 (pc' := 25) rfl rfl ?_
  refine W.callS w5 (ow_150 hw) (ow_151 hw) (ow_142 hw) (ow_152 hw) (by decide) opd_0 (Ctr.pay (c_min hw (p := L) (q := n) (by omega) (by omega) w5.old) (own_ew hw) (ow_152 hw) (ow_142 hw) (kf := 1) (kl := 13) (by decide) (by decide)) mN od_24_25 (pc' := 28) rfl rfl rfl (rest := [(.int (0 : Int32)), (.ref a3), (.int (0 : Int32)), (.ref a)]) rfl (Wd := 4) rfl (by decide) (by decide) (by decide) (by decide) fun v14 T12 h13 M15 w16 q17 => ?_
  rw [show min (L) (n) = L from by omega] at q17
  obtain ⟨rfl, rfl, e18⟩ := q17
  obtain rfl := e18.symm
  show Go Z _ _ _ κ _ (T12.setTop (mkF (km κ) 28 #[.val (.ref a), .val (.int (Int32.ofNat (n))), .val (.ref a3)] [(.int (Int32.ofNat (L))), (.int (0 : Int32)), (.ref a3), (.int (0 : Int32)), (.ref a)]))
  refine W.copyN w16 (ow_153 hw) (ow_129 hw) (ow_127 hw) (ow_128 hw) f11 V10 rfl (us := (vs ++ List.replicate (n - L) (.int 0))) z_ok z_ok (n_ok (a := L) (by omega)) (n_nat (a := L) (by omega)) (n_nat (a := n) (by omega)) (by omega) (by omega) (copy_front vs _ _ hl (by omega)) (by simp; omega) (memA mem0) od_24_28 (pc' := 31) rfl rfl (by decide) (Wd := 0) rfl (by decide) fun T19 h20 w21 K22 V23 => ?_
  refine W.aloadN w21 od_24_31 (pc' := 32) rfl rfl rfl ?_
  have C24 := Keep.refl h0 []
  have C25 := C24.trans K6 RoadKit.all0
  have C26 := C25.trans K22 (allS (Or.inr B7) RoadKit.all0)
  exact W.retR w21 rfl rfl rfl od_24_32 (M' := [a3]) (mC (memA mem0) mN) (by decide) (by decide) ⟨a3, rfl, rfl, C26, B7, ⟨_, V23⟩⟩
set_option maxRecDepth 65536 in
set_option maxHeartbeats 40000000 in
theorem c_ensure {l : Launch} {Z : State} {a0 : Array Value} (hw : HW Z a0) {h0 : Heap} {b t : Addr} {m : Nat} {cnt : Value} {k : ClassId} {vs : List Value} {L : Nat} (E_b : Exa Z h0 b "java/lang/StringBuilder") (F_c : Fld Z h0 b "java/lang/AbstractStringBuilder" "coder" "B" (.int 0)) (F_n : Fld Z h0 b "java/lang/AbstractStringBuilder" "count" "I" cnt) (F_v : Fld Z h0 b "java/lang/AbstractStringBuilder" "value" "[B" (.ref t)) (V_t : Arv Z h0 t k .byte (Int32.ofNat L) vs (.int 0)) (hl : vs.length = L) (hbt : b ≠ t) (hL : L ≤ 4000) (hm2 : m ≤ 4000) (hcap : m ≤ L ∨ L + max (m - L) (L + 2) ≤ 200) (hO : Old Z Z.heap.size h0) : Ctr l Z EL0 nw0 ({ cls := "java/lang/AbstractStringBuilder", name := "ensureCapacityInternal", desc := "(I)V" } : Jvm.MethodName) jdk_68_method_9_code 3 none ({ frames := 3, cells := 1, slots := 200, locals := 48 } : Room) [.ref b, .int (Int32.ofNat m)] h0 [b, t] (fun v h M' => v = none ∧ ∃ t' L' rs, M' = [t'] ∧ Keep h0 h [b] ∧ (t' = t ∨ h0.size ≤ t') ∧ b ≠ t' ∧ Exa Z h b "java/lang/StringBuilder" ∧ Fld Z h b "java/lang/AbstractStringBuilder" "coder" "B" (.int 0) ∧ Fld Z h b "java/lang/AbstractStringBuilder" "count" "I" cnt ∧ Fld Z h b "java/lang/AbstractStringBuilder" "value" "[B" (.ref t') ∧ (∃ k, Arv Z h t' k .byte (Int32.ofNat L') (vs ++ rs) (.int 0)) ∧ L' = vs.length + rs.length ∧ m ≤ L' ∧ L' = (if m ≤ L then L else L + max (m - L) (L + 2))) := by
  refine of_body (a0 := a0) opn_5 (own_ew hw) hO (Ls := #[.val (.ref b), .val (.int (Int32.ofNat (m))), .unset]) (fun m => by first | rfl | (simp [entryFrame, mkF, argsToLocals, Value.category]; done)) (fun κ T0 w0 hnm => ?_)
  rcases Decidable.em (m ≤ L) with hml | hml
  · refine W.aloadN w0 od_17_0 (pc' := 1) rfl rfl rfl ?_
    refine W.getF w0 (host := "") (Or.inl (ow_78 hw)) Via.refl F_v od_17_1 (pc' := 4) rfl fun T1 w2 => ?_
    refine W.alen w2 V_t od_17_4 (pc' := 5) rfl ?_
    refine W.aloadN w2 od_17_5 (pc' := 6) rfl rfl rfl ?_
    refine W.getF w2 (host := "") (Or.inl (ow_80 hw)) Via.refl F_c od_17_6 (pc' := 9) rfl fun T3 w4 => ?_
    refine W.ishr w4 od_17_9 (pc' := 10) rfl (z := (Int32.ofNat (L))) (shr00 _) ?_
    refine W.istoreN w4 od_17_10 (pc' := 11) rfl (Ls' := #[.val (.ref b), .val (.int (Int32.ofNat (m))), .val (.int (Int32.ofNat (L)))]) rfl ?_
    refine W.iloadN w4 od_17_11 (pc' := 12) rfl rfl ?_
    refine W.iloadN w4 od_17_12 (pc' := 13) rfl rfl ?_
    refine W.isub w4 od_17_13 (pc' := 14) rfl (z := ((Int32.ofNat (m)) - (Int32.ofNat (L)))) rfl ?_
    refine W.ifYes w4 od_17_14 (pc' := 38) (by decide) (by decide) ((if0 _ _).trans (flt (n_subneg (a := m) (b := L) hml (by omega))).2.2.2) ?_
    have C5 := Keep.refl h0 [b]
    exact W.ret0 w4 rfl od_17_38 (M' := [t]) (mC (memS mem0) mN) (by decide) (by decide) ⟨rfl, t, L, [], rfl, C5, Or.inl rfl, hbt, E_b, F_c, F_n, F_v, ⟨_, by rw [List.append_nil]; exact V_t⟩, by simp [hl], by omega, by rw [if_pos hml]⟩
  · refine W.aloadN w0 od_17_0 (pc' := 1) rfl rfl rfl ?_
    refine W.getF w0 (host := "") (Or.inl (ow_78 hw)) Via.refl F_v od_17_1 (pc' := 4) rfl fun T6 w7 => ?_
    refine W.alen w7 V_t od_17_4 (pc' := 5) rfl ?_
    refine W.aloadN w7 od_17_5 (pc' := 6) rfl rfl rfl ?_
    refine W.getF w7 (host := "") (Or.inl (ow_80 hw)) Via.refl F_c od_17_6 (pc' := 9) rfl fun T8 w9 => ?_
    refine W.ishr w9 od_17_9 (pc' := 10) rfl (z := (Int32.ofNat (L))) (shr00 _) ?_
    refine W.istoreN w9 od_17_10 (pc' := 11) rfl (Ls' := #[.val (.ref b), .val (.int (Int32.ofNat (m))), .val (.int (Int32.ofNat (L)))]) rfl ?_
    refine W.iloadN w9 od_17_11 (pc' := 12) rfl rfl ?_
    refine W.iloadN w9 od_17_12 (pc' := 13) rfl rfl ?_
    refine W.isub w9 od_17_13 (pc' := 14) rfl (z := (Int32.ofNat (m - (L)))) (n_sub (by omega)) ?_
    refine W.ifNo w9 od_17_14 (pc' := 17) rfl ((if0 _ _).trans (tlt (show (0 : Int32) < (Int32.ofNat (m - (L))) from (n_lt (a := 0) (by omega) (by omega)).mpr (by omega))).2.2.2) ?_
    refine W.aloadN w9 od_17_17 (pc' := 18) rfl rfl rfl ?_
    refine W.aloadN w9 od_17_18 (pc' := 19) rfl rfl rfl ?_
    refine W.getF w9 (host := "") (Or.inl (ow_78 hw)) Via.refl F_v od_17_19 (pc' := 22) rfl fun T10 w11 => ?_
    refine W.aloadN w11 od_17_22 (pc' := 23) rfl rfl rfl ?_
    refine W.iloadN w11 od_17_23 (pc' := 24) rfl rfl ?_
    refine W.callV w11 (ow_131 hw) (decl_of (ow_132 hw) (ow_135 hw)) (nfSel (ow_134 hw)) (ow_134 hw) (ow_132 hw) (by decide) opd_2 E_b (Ctr.pay (c_newCap hw E_b F_c F_v V_t (by omega) (by omega) (by omega) w11.old) (own_ew hw) (ow_135 hw) (ow_74 hw) (kf := 3) (kl := 46) (by decide) (by decide)) mN od_17_24 (pc' := 27) rfl rfl rfl (rest := [(.ref t), (.ref b)]) rfl (Wd := 2) rfl (by decide) (by decide) (by decide) (by decide) fun v14 T12 h13 M15 w16 q17 => ?_
    obtain ⟨rfl, rfl, e18⟩ := q17
    obtain rfl := e18.symm
    show Go Z _ _ _ κ _ (T12.setTop (mkF (km κ) 27 #[.val (.ref b), .val (.int (Int32.ofNat (m))), .val (.int (Int32.ofNat (L)))] [(.int (Int32.ofNat (L + max (m - L) (L + 2)))), (.ref t), (.ref b)]))
    refine W.aloadN w16 od_17_27 (pc' := 28) rfl rfl rfl ?_
    refine W.getF w16 (host := "") (Or.inl (ow_80 hw)) Via.refl F_c od_17_28 (pc' := 31) rfl fun T19 w20 => ?_
    refine W.ishl w20 od_17_31 (pc' := 32) rfl (z := (Int32.ofNat (L + max (m - L) (L + 2)))) (shl00 _) ?_
    refine W.callS w20 (ow_146 hw) (ow_147 hw) (ow_148 hw) (ow_149 hw) (by decide) opd_3 (Ctr.pay (c_copyOf hw (n := L + max (m - L) (L + 2)) V_t hl (by omega) (by omega) w20.old) (own_ew hw) (ow_149 hw) (ow_148 hw) (kf := 2) (kl := 32) (by decide) (by decide)) mN od_17_32 (pc' := 35) rfl rfl rfl (rest := [(.ref b)]) rfl (Wd := 1) rfl (by decide) (by decide) (by decide) (by decide) fun v23 T21 h22 M24 w25 q26 => ?_
    obtain ⟨a27, rfl, rfl, K28, B29, k30, V31⟩ := q26
    have ne32 : b ≠ a27 := neL E_b.lt B29
    have ne33 : t ≠ a27 := neL V_t.lt B29
    show Go Z _ _ _ κ _ (T21.setTop (mkF (km κ) 35 #[.val (.ref b), .val (.int (Int32.ofNat (m))), .val (.int (Int32.ofNat (L)))] [(.ref a27), (.ref b)]))
    have f34 := (F_v.keep K28 nin0)
    have f35 := (E_b.keep K28)
    refine W.putF w25 (host := "") (Or.inl (ow_78 hw)) Via.refl f34 f35 (Or.inl (ow_79 hw)) (ow_65 hw) (ty := (.array .byte)) (by decide) rfl rfl (memA (memA mem0)) od_17_35 (pc' := 38) rfl fun T36 h37 w38 W39 => ?_
    have f40 := (F_c.keep K28 nin0)
    have F41 := f40.other W39 (Or.inr (slot_ne (Or.inl (ow_81 hw)) (Or.inl (ow_79 hw)) (by decide) (t := .byte) (t' := (.array .byte)) (by decide) (by decide)))
    have f42 := (F_n.keep K28 nin0)
    have F43 := f42.other W39 (Or.inr (slot_ne (Or.inl (ow_104 hw)) (Or.inl (ow_79 hw)) (by decide) (t := .int) (t' := (.array .byte)) (by decide) (by decide)))
    have F44 := f34.same W39
    have K45 := Keep.of_wr W39
    have C46 := Keep.refl h0 [b]
    have C47 := C46.trans K28 RoadKit.all0
    have C48 := C47.trans K45 (allS (Or.inl mem0) RoadKit.all0)
    have f49 := (f35.keep K45)
    have f50 := (V31.keep K45 (ninS (Ne.symm ne32) nin0))
    exact W.ret0 w38 rfl od_17_38 (M' := [a27]) (mC (memB mem0) mN) (by decide) (by decide) ⟨rfl, a27, _, _, rfl, C48, Or.inr B29, ne32, f49, F41, F43, F44, ⟨_, f50⟩, by rw [hl, List.length_replicate]; omega, by omega, by rw [if_neg hml]⟩
set_option maxRecDepth 65536 in
set_option maxHeartbeats 40000000 in
theorem c_coder {l : Launch} {Z : State} {a0 : Array Value} (hw : HW Z a0) {h0 : Heap} {x0 : Addr} (F_c : Fld Z h0 x0 "java/lang/String" "coder" "B" (.int 0)) (hO : Old Z Z.heap.size h0) : Ctr l Z EL0 nw0 ({ cls := "java/lang/String", name := "coder", desc := "()B" } : Jvm.MethodName) jdk_42_method_152_code 1 (some .byte) ({ frames := 0, cells := 0, slots := 0, locals := 0 } : Room) [.ref x0] h0 [] (fun v h M' => v = some (.int 0) ∧ M' = [] ∧ h = h0) := by
  refine of_body (a0 := a0) opn_6 (own_ew hw) hO (Ls := #[.val (.ref x0)]) (fun m => by first | rfl | (simp [entryFrame, mkF, argsToLocals, Value.category]; done)) (fun κ T0 w0 hnm => ?_)
  obtain ⟨zC, SC, hzC⟩ := hw.2.1.1
  refine W.getS w0 (ow_14 hw) Via.refl (SC.ext w0.old.2) od_16_0 (pc' := 3) rfl fun T1 w2 => ?_
  refine W.ifNo w2 od_16_3 (pc' := 6) rfl ((if0 _ _).trans (feq hzC).1) ?_
  refine W.aloadN w2 od_16_6 (pc' := 7) rfl rfl rfl ?_
  refine W.getF w2 (host := "") (Or.inl (ow_26 hw)) Via.refl F_c od_16_7 (pc' := 10) rfl fun T3 w4 => ?_
  refine W.goto w4 od_16_10 (pc' := 14) (by decide) (by decide) ?_
  exact W.retN w4 (t := .byte) (z' := (0 : Int32)) rfl rfl (by simp) od_16_14 (M' := []) mN (by decide) (by decide) ⟨rfl, rfl, rfl⟩
set_option maxRecDepth 65536 in
set_option maxHeartbeats 40000000 in
theorem c_inflate {l : Launch} {Z : State} {a0 : Array Value} (hw : HW Z a0) {h0 : Heap} {b : Addr} (F_c : Fld Z h0 b "java/lang/AbstractStringBuilder" "coder" "B" (.int 0)) {x u : Addr} {ds : List Int32} (F_x : Str8 Z h0 x u ds) (hO : Old Z Z.heap.size h0) : Ctr l Z EL0 nw0 ({ cls := "java/lang/AbstractStringBuilder", name := "inflateIfNeededFor", desc := "(Ljava/lang/String;)V" } : Jvm.MethodName) jdk_68_method_71_code 2 none ({ frames := 1, cells := 0, slots := 0, locals := 13 } : Room) [.ref b, .ref x] h0 [] (fun v h M' => v = none ∧ M' = [] ∧ h = h0) := by
  refine of_body (a0 := a0) opn_7 (own_ew hw) hO (Ls := #[.val (.ref b), .val (.ref x)]) (fun m => by first | rfl | (simp [entryFrame, mkF, argsToLocals, Value.category]; done)) (fun κ T0 w0 hnm => ?_)
  obtain ⟨zC, SC, hzC⟩ := hw.2.1.1
  refine W.getS w0 (ow_77 hw) Via.refl (SC.ext w0.old.2) od_19_0 (pc' := 3) rfl fun T1 w2 => ?_
  refine W.ifNo w2 od_19_3 (pc' := 6) rfl ((if0 _ _).trans (feq hzC).1) ?_
  refine W.aloadN w2 od_19_6 (pc' := 7) rfl rfl rfl ?_
  refine W.getF w2 (host := "") (Or.inl (ow_80 hw)) Via.refl F_c od_19_7 (pc' := 10) rfl fun T3 w4 => ?_
  refine W.aloadN w4 od_19_10 (pc' := 11) rfl rfl rfl ?_
  refine W.callV w4 (ow_120 hw) (ow_99 hw) (nfSel (ow_101 hw)) (ow_101 hw) (ow_100 hw) (by decide) opd_4 F_x.1 (Ctr.pay (c_coder hw F_x.2.1 w4.old) (own_ew hw) (ow_102 hw) (ow_2 hw) (kf := 1) (kl := 12) (by decide) (by decide)) mN od_19_11 (pc' := 14) rfl rfl rfl (rest := [(.int (0 : Int32))]) rfl (Wd := 1) rfl (by decide) (by decide) (by decide) (by decide) fun v7 T5 h6 M8 w9 q10 => ?_
  obtain ⟨rfl, rfl, e11⟩ := q10
  obtain rfl := e11.symm
  show Go Z _ _ _ κ _ (T5.setTop (mkF (km κ) 14 #[.val (.ref b), .val (.ref x)] [(.int (0 : Int32)), (.int (0 : Int32))]))
  refine W.icmpYes w9 od_19_14 (pc' := 21) (by decide) (by decide) (teq (by decide : (0 : Int32) = (0 : Int32))).1 ?_
  exact W.ret0 w9 rfl od_19_21 (M' := []) mN (by decide) (by decide) ⟨rfl, rfl, rfl⟩
set_option maxRecDepth 65536 in
set_option maxHeartbeats 40000000 in
theorem c_getBytes {l : Launch} {Z : State} {a0 : Array Value} (hw : HW Z a0) {h0 : Heap} {x u : Addr} {ds : List Int32} (F_x : Str8 Z h0 x u ds) {t : Addr} {k : ClassId} {cs : List Int32} {rs : List Value} {cap : Nat} (V_t : Arv Z h0 t k .byte (Int32.ofNat cap) (by8 cs ++ rs) (.int 0)) (hcap : cs.length + rs.length = cap) (hc4 : cap ≤ 4000) (hfit : cs.length + ds.length ≤ cap) (hO : Old Z Z.heap.size h0) : Ctr l Z EL0 nw0 ({ cls := "java/lang/String", name := "getBytes", desc := "([BIB)V" } : Jvm.MethodName) jdk_42_method_147_code 4 none ({ frames := 1, cells := 0, slots := 0, locals := 18 } : Room) [.ref x, .ref t, .int (Int32.ofNat cs.length), .int 0] h0 [t] (fun v h M' => v = none ∧ M' = [] ∧ Keep h0 h [t] ∧ ∃ k, Arv Z h t k .byte (Int32.ofNat cap) (by8 (cs ++ ds) ++ rs.drop ds.length) (.int 0)) := by
  refine of_body (a0 := a0) opn_8 (own_ew hw) hO (Ls := #[.val (.ref x), .val (.ref t), .val (.int (Int32.ofNat (cs.length))), .val (.int (0 : Int32))]) (fun m => by first | rfl | (simp [entryFrame, mkF, argsToLocals, Value.category]; done)) (fun κ T0 w0 hnm => ?_)
  obtain ⟨ku, Au0⟩ := F_x.2.2.2.1
  have Au : Arv Z h0 u ku .byte (Int32.ofNat ds.length) (by8 ds) (.int 0) := Au0
  refine W.aloadN w0 od_20_0 (pc' := 1) rfl rfl rfl ?_
  refine W.callV w0 (ow_98 hw) (ow_99 hw) (nfSel (ow_101 hw)) (ow_101 hw) (ow_100 hw) (by decide) opd_4 F_x.1 (Ctr.pay (c_coder hw F_x.2.1 w0.old) (own_ew hw) (ow_102 hw) (ow_2 hw) (kf := 1) (kl := 12) (by decide) (by decide)) mN od_20_1 (pc' := 4) rfl rfl rfl (rest := []) rfl (Wd := 0) rfl (by decide) (by decide) (by decide) (by decide) fun v3 T1 h2 M4 w5 q6 => ?_
  obtain ⟨rfl, rfl, e7⟩ := q6
  obtain rfl := e7.symm
  show Go Z _ _ _ κ _ (T1.setTop (mkF (km κ) 4 #[.val (.ref x), .val (.ref t), .val (.int (Int32.ofNat (cs.length))), .val (.int (0 : Int32))] [(.int (0 : Int32))]))
  refine W.iloadN w5 od_20_4 (pc' := 5) rfl rfl ?_
  refine W.icmpNo w5 od_20_5 (pc' := 8) rfl (teq (by decide : (0 : Int32) = (0 : Int32))).2 ?_
  refine W.aloadN w5 od_20_8 (pc' := 9) rfl rfl rfl ?_
  refine W.getF w5 (host := "") (Or.inl (ow_28 hw)) Via.refl F_x.2.2.1 od_20_9 (pc' := 12) rfl fun T8 w9 => ?_
  refine W.iconst w9 od_20_12 (pc' := 13) rfl (z := (0 : Int32)) rfl ?_
  refine W.aloadN w9 od_20_13 (pc' := 14) rfl rfl rfl ?_
  refine W.iloadN w9 od_20_14 (pc' := 15) rfl rfl ?_
  refine W.iloadN w9 od_20_15 (pc' := 16) rfl rfl ?_
  refine W.ishl w9 od_20_16 (pc' := 17) rfl (z := (Int32.ofNat (cs.length))) (shl00 _) ?_
  refine W.aloadN w9 od_20_17 (pc' := 18) rfl rfl rfl ?_
  refine W.getF w9 (host := "") (Or.inl (ow_28 hw)) Via.refl F_x.2.2.1 od_20_18 (pc' := 21) rfl fun T10 w11 => ?_
  refine W.alen w11 Au od_20_21 (pc' := 22) rfl ?_
  refine W.copyN w11 (ow_126 hw) (ow_129 hw) (ow_127 hw) (ow_128 hw) Au V_t rfl (us := (by8 (cs ++ ds) ++ rs.drop ds.length)) z_ok (n_ok (a := cs.length) (by omega)) (n_ok (a := ds.length) (by omega)) (n_nat (a := ds.length) (by omega)) (n_nat (a := cap) (by omega)) (by omega) (by omega) (copy_into cs ds rs _ rfl rfl) (by simp [by8_len]; omega) (memA mem0) od_20_22 (pc' := 25) rfl rfl (by decide) (Wd := 0) rfl (by decide) fun T12 h13 w14 K15 V16 => ?_
  refine W.goto w14 od_20_25 (pc' := 43) (by decide) (by decide) ?_
  have C17 := Keep.refl h0 [t]
  have C18 := C17.trans K15 (allS (Or.inl mem0) RoadKit.all0)
  exact W.ret0 w14 rfl od_20_43 (M' := []) mN (by decide) (by decide) ⟨rfl, rfl, C18, ⟨_, V16⟩⟩
set_option maxRecDepth 65536 in
set_option maxHeartbeats 40000000 in
theorem c_putString {l : Launch} {Z : State} {a0 : Array Value} (hw : HW Z a0) {h0 : Heap} {b : Addr} (E_b : Exa Z h0 b "java/lang/StringBuilder") (F_c : Fld Z h0 b "java/lang/AbstractStringBuilder" "coder" "B" (.int 0)) {x u : Addr} {ds : List Int32} (F_x : Str8 Z h0 x u ds) {t : Addr} {k : ClassId} {cs : List Int32} {rs : List Value} {cap : Nat} (V_t : Arv Z h0 t k .byte (Int32.ofNat cap) (by8 cs ++ rs) (.int 0)) (hcap : cs.length + rs.length = cap) (hc4 : cap ≤ 4000) (hfit : cs.length + ds.length ≤ cap) (F_v : Fld Z h0 b "java/lang/AbstractStringBuilder" "value" "[B" (.ref t)) (hO : Old Z Z.heap.size h0) : Ctr l Z EL0 nw0 ({ cls := "java/lang/AbstractStringBuilder", name := "putStringAt", desc := "(ILjava/lang/String;)V" } : Jvm.MethodName) jdk_68_method_73_code 3 none ({ frames := 2, cells := 0, slots := 0, locals := 33 } : Room) [.ref b, .int (Int32.ofNat cs.length), .ref x] h0 [t] (fun v h M' => v = none ∧ M' = [] ∧ Keep h0 h [t] ∧ ∃ k, Arv Z h t k .byte (Int32.ofNat cap) (by8 (cs ++ ds) ++ rs.drop ds.length) (.int 0)) := by
  refine of_body (a0 := a0) opn_9 (own_ew hw) hO (Ls := #[.val (.ref b), .val (.int (Int32.ofNat (cs.length))), .val (.ref x)]) (fun m => by first | rfl | (simp [entryFrame, mkF, argsToLocals, Value.category]; done)) (fun κ T0 w0 hnm => ?_)
  refine W.aloadN w0 od_18_0 (pc' := 1) rfl rfl rfl ?_
  refine W.aloadN w0 od_18_1 (pc' := 2) rfl rfl rfl ?_
  refine W.callV w0 (ow_115 hw) (decl_of (ow_116 hw) (ow_119 hw)) (nfSel (ow_118 hw)) (ow_118 hw) (ow_116 hw) (by decide) opd_5 E_b (Ctr.pay (c_inflate hw F_c F_x w0.old) (own_ew hw) (ow_119 hw) (ow_74 hw) (kf := 2) (kl := 26) (by decide) (by decide)) mN od_18_2 (pc' := 5) rfl rfl rfl (rest := []) rfl (Wd := 0) rfl (by decide) (by decide) (by decide) (by decide) fun v3 T1 h2 M4 w5 q6 => ?_
  obtain ⟨rfl, rfl, e7⟩ := q6
  obtain rfl := e7.symm
  show Go Z _ _ _ κ _ (T1.setTop (mkF (km κ) 5 #[.val (.ref b), .val (.int (Int32.ofNat (cs.length))), .val (.ref x)] []))
  refine W.aloadN w5 od_18_5 (pc' := 6) rfl rfl rfl ?_
  refine W.aloadN w5 od_18_6 (pc' := 7) rfl rfl rfl ?_
  refine W.getF w5 (host := "") (Or.inl (ow_78 hw)) Via.refl F_v od_18_7 (pc' := 10) rfl fun T8 w9 => ?_
  refine W.iloadN w9 od_18_10 (pc' := 11) rfl rfl ?_
  refine W.aloadN w9 od_18_11 (pc' := 12) rfl rfl rfl ?_
  refine W.getF w9 (host := "") (Or.inl (ow_80 hw)) Via.refl F_c od_18_12 (pc' := 15) rfl fun T10 w11 => ?_
  refine W.callV w11 (ow_121 hw) (ow_122 hw) (nfSel (ow_124 hw)) (ow_124 hw) (ow_123 hw) (by decide) opd_6 F_x.1 (Ctr.pay (c_getBytes hw F_x V_t hcap hc4 hfit w11.old) (own_ew hw) (ow_125 hw) (ow_2 hw) (kf := 2) (kl := 33) (by decide) (by decide)) (mC (memA mem0) mN) od_18_15 (pc' := 18) rfl rfl rfl (rest := []) rfl (Wd := 0) rfl (by decide) (by decide) (by decide) (by decide) fun v14 T12 h13 M15 w16 q17 => ?_
  obtain ⟨rfl, rfl, K18, k19, V20⟩ := q17
  show Go Z _ _ _ κ _ (T12.setTop (mkF (km κ) 18 #[.val (.ref b), .val (.int (Int32.ofNat (cs.length))), .val (.ref x)] []))
  have C21 := Keep.refl h0 [t]
  have C22 := C21.trans K18 (allS (Or.inl mem0) RoadKit.all0)
  exact W.ret0 w16 rfl od_18_18 (M' := []) mN (by decide) (by decide) ⟨rfl, rfl, C22, ⟨_, V20⟩⟩
set_option maxRecDepth 65536 in
set_option maxHeartbeats 40000000 in
theorem c_aappend {l : Launch} {Z : State} {a0 : Array Value} (hw : HW Z a0) {h0 : Heap} {b t x u : Addr} {cs ds : List Int32} {cap : Nat} {rs : List Value} (S_b : SB Z h0 b t cs cap rs) (hbt : b ≠ t) (F_x : Str8 Z h0 x u ds) (hxt : b ≠ x ∧ t ≠ x ∧ b ≠ u ∧ t ≠ u) (hsz : cs.length + ds.length ≤ cap ∨ cap + max (cs.length + ds.length - cap) (cap + 2) ≤ 200) (hO : Old Z Z.heap.size h0) : Ctr l Z EL0 nw0 ({ cls := "java/lang/AbstractStringBuilder", name := "append", desc := "(Ljava/lang/String;)Ljava/lang/AbstractStringBuilder;" } : Jvm.MethodName) jdk_68_method_22_code 3 (some (.object "java/lang/AbstractStringBuilder")) ({ frames := 4, cells := 1, slots := 200, locals := 62 } : Room) [.ref b, .ref x] h0 [b, t] (fun v h M' => v = some (.ref b) ∧ ∃ t' rs', M' = [t'] ∧ Keep h0 h [b, t] ∧ (t' = t ∨ h0.size ≤ t') ∧ b ≠ t' ∧ SB Z h b t' (cs ++ ds) (if cs.length + ds.length ≤ cap then cap else cap + max (cs.length + ds.length - cap) (cap + 2)) rs') := by
  refine of_body (a0 := a0) opn_10 (own_ew hw) hO (Ls := #[.val (.ref b), .val (.ref x), .unset]) (fun m => by first | rfl | (simp [entryFrame, mkF, argsToLocals, Value.category]; done)) (fun κ T0 w0 hnm => ?_)
  obtain ⟨E_b, F_c, F_n, F_v, ⟨k, V_t⟩, hcap, hlat, hc4⟩ := S_b
  obtain ⟨nbx, ntx, nbu, ntu⟩ := hxt
  have hl : (by8 cs ++ rs).length = cap := by rw [List.length_append, by8_len]; exact hcap
  have hlx := F_x.2.2.2.2.2
  have hcap2 : (if cs.length + ds.length ≤ cap then cap else cap + max (cs.length + ds.length - cap) (cap + 2)) ≤ 4000 ∧ cs.length + ds.length ≤ (if cs.length + ds.length ≤ cap then cap else cap + max (cs.length + ds.length - cap) (cap + 2)) := by split <;> omega
  refine W.aloadN w0 od_14_0 (pc' := 1) rfl rfl rfl ?_
  refine W.ifnonnullYes w0 od_14_1 (pc' := 9) (by decide) (by decide) ?_
  refine W.aloadN w0 od_14_9 (pc' := 10) rfl rfl rfl ?_
  refine W.callV w0 (ow_93 hw) (ow_94 hw) (nfSel (ow_96 hw)) (ow_96 hw) (ow_95 hw) (by decide) opd_7 F_x.1 (own_len hw w0.old F_x) mN od_14_10 (pc' := 13) rfl rfl rfl (rest := []) rfl (Wd := 0) rfl (by decide) (by decide) (by decide) (by decide) fun v3 T1 h2 M4 w5 q6 => ?_
  obtain ⟨rfl, rfl, e7⟩ := q6
  obtain rfl := e7.symm
  show Go Z _ _ _ κ _ (T1.setTop (mkF (km κ) 13 #[.val (.ref b), .val (.ref x), .unset] [(.int (Int32.ofNat (ds.length)))]))
  refine W.istoreN w5 od_14_13 (pc' := 14) rfl (Ls' := #[.val (.ref b), .val (.ref x), .val (.int (Int32.ofNat (ds.length)))]) rfl ?_
  refine W.aloadN w5 od_14_14 (pc' := 15) rfl rfl rfl ?_
  refine W.aloadN w5 od_14_15 (pc' := 16) rfl rfl rfl ?_
  refine W.getF w5 (host := "") (Or.inl (ow_103 hw)) Via.refl F_n od_14_16 (pc' := 19) rfl fun T8 w9 => ?_
  refine W.iloadN w9 od_14_19 (pc' := 20) rfl rfl ?_
  refine W.iadd w9 od_14_20 (pc' := 21) rfl (z := (Int32.ofNat (cs.length + ds.length))) (n_add _ _) ?_
  refine W.callV w9 (ow_105 hw) (decl_of (ow_106 hw) (ow_109 hw)) (nfSel (ow_108 hw)) (ow_108 hw) (ow_106 hw) (by decide) opd_8 E_b (Ctr.pay (c_ensure hw (m := cs.length + ds.length) E_b F_c F_n F_v V_t hl hbt hc4 (by omega) (by omega) w9.old) (own_ew hw) (ow_109 hw) (ow_74 hw) (kf := 4) (kl := 62) (by decide) (by decide)) (mC (memA mem0) (mC (memA (memS mem0)) mN)) od_14_21 (pc' := 24) rfl rfl rfl (rest := []) rfl (Wd := 0) rfl (by decide) (by decide) (by decide) (by decide) fun v12 T10 h11 M13 w14 q15 => ?_
  obtain ⟨rfl, t16, L17, rs18, rfl, K19, W20, ne21, E22, F23, F24, F25, ⟨k26, V27⟩, e28, e29, e30⟩ := q15
  rw [List.append_assoc] at V27
  have ne31 : x ≠ t16 := W20.elim (fun q => q ▸ Ne.symm ntx) (fun q => neL F_x.1.lt q)
  have ne32 : u ≠ t16 := W20.elim (fun q => q ▸ Ne.symm ntu) (fun q => neL F_x.lt2 q)
  show Go Z _ _ _ κ _ (T10.setTop (mkF (km κ) 24 #[.val (.ref b), .val (.ref x), .val (.int (Int32.ofNat (ds.length)))] []))
  refine W.aloadN w14 od_14_24 (pc' := 25) rfl rfl rfl ?_
  refine W.aloadN w14 od_14_25 (pc' := 26) rfl rfl rfl ?_
  refine W.getF w14 (host := "") (Or.inl (ow_103 hw)) Via.refl F24 od_14_26 (pc' := 29) rfl fun T33 w34 => ?_
  refine W.aloadN w34 od_14_29 (pc' := 30) rfl rfl rfl ?_
  have hq1 : cs.length + (rs ++ rs18).length = L17 := by rw [e28, List.length_append, List.length_append, by8_len]; omega
  have f35 := (F_x.keep K19 (ninS (Ne.symm nbx) nin0) (ninS (Ne.symm nbu) nin0))
  refine W.callV w34 (ow_110 hw) (decl_of (ow_111 hw) (ow_114 hw)) (nfSel (ow_113 hw)) (ow_113 hw) (ow_111 hw) (by decide) opd_9 E22 (Ctr.pay (c_putString hw E22 F23 f35 V27 hq1 (by rw [e30]; exact hcap2.1) e29 F25 w34.old) (own_ew hw) (ow_114 hw) (ow_74 hw) (kf := 3) (kl := 47) (by decide) (by decide)) (mC (memB mem0) mN) od_14_30 (pc' := 33) rfl rfl rfl (rest := []) rfl (Wd := 0) rfl (by decide) (by decide) (by decide) (by decide) fun v38 T36 h37 M39 w40 q41 => ?_
  obtain ⟨rfl, rfl, K42, k43, V44⟩ := q41
  show Go Z _ _ _ κ _ (T36.setTop (mkF (km κ) 33 #[.val (.ref b), .val (.ref x), .val (.int (Int32.ofNat (ds.length)))] []))
  refine W.aloadN w40 od_14_33 (pc' := 34) rfl rfl rfl ?_
  refine Jvm.Own.W.dup w40 od_14_34 rfl rfl ?_
  have f45 := (F24.keep K42 (ninS ne21 nin0))
  refine W.getF w40 (host := "") (Or.inl (ow_103 hw)) Via.refl f45 od_14_35 (pc' := 38) rfl fun T46 w47 => ?_
  refine W.iloadN w47 od_14_38 (pc' := 39) rfl rfl ?_
  refine W.iadd w47 od_14_39 (pc' := 40) rfl (z := (Int32.ofNat (cs.length + ds.length))) (n_add _ _) ?_
  have f48 := (E22.keep K42)
  refine W.putF w47 (host := "") (Or.inl (ow_103 hw)) Via.refl f45 f48 (Or.inl (ow_104 hw)) (ow_65 hw) (ty := .int) (by decide) rfl rfl (memA (memA (memA mem0))) od_14_40 (pc' := 43) rfl fun T49 h50 w51 W52 => ?_
  have f53 := (F23.keep K42 (ninS ne21 nin0))
  have F54 := f53.other W52 (Or.inr (slot_ne (Or.inl (ow_81 hw)) (Or.inl (ow_104 hw)) (by decide) (t := .byte) (t' := .int) (by decide) (by decide)))
  have f55 := (F25.keep K42 (ninS ne21 nin0))
  have F56 := f55.other W52 (Or.inr (slot_ne (Or.inl (ow_79 hw)) (Or.inl (ow_104 hw)) (by decide) (t := (.array .byte)) (t' := .int) (by decide) (by decide)))
  have F57 := f45.same W52
  have K58 := Keep.of_wr W52
  refine W.aloadN w51 od_14_43 (pc' := 44) rfl rfl rfl ?_
  have C59 := Keep.refl h0 [b, t]
  have C60 := C59.trans K19 (allS (Or.inl mem0) RoadKit.all0)
  have C61 := C60.trans K42 (allS (W20.elim (fun q => Or.inl (q ▸ memS mem0)) Or.inr) RoadKit.all0)
  have C62 := C61.trans K58 (allS (Or.inl mem0) RoadKit.all0)
  subst e30
  have f63 := (f48.keep K58)
  have f64 := (V44.keep K58 (ninS (Ne.symm ne21) nin0))
  exact W.retR w51 rfl rfl rfl od_14_44 (M' := [t16]) (mC (memA (memB mem0)) mN) (by decide) (by decide) ⟨rfl, t16, _, rfl, C62, W20, ne21, f63, F54, by rw [List.length_append]; exact F57, F56, ⟨_, f64⟩, by simp only [List.length_append, List.length_drop] at hq1 ⊢; omega, fun z hz => (List.mem_append.mp hz).elim (hlat z) (F_x.2.2.2.2.1 z), hcap2.1⟩
set_option maxRecDepth 65536 in
set_option maxHeartbeats 40000000 in
theorem c_append {l : Launch} {Z : State} {a0 : Array Value} (hw : HW Z a0) {h0 : Heap} {b t x u : Addr} {cs ds : List Int32} {cap : Nat} {rs : List Value} (S_b : SB Z h0 b t cs cap rs) (hbt : b ≠ t) (F_x : Str8 Z h0 x u ds) (hxt : b ≠ x ∧ t ≠ x ∧ b ≠ u ∧ t ≠ u) (hsz : cs.length + ds.length ≤ cap ∨ cap + max (cs.length + ds.length - cap) (cap + 2) ≤ 200) (hO : Old Z Z.heap.size h0) : Ctr l Z EL0 nw0 ({ cls := "java/lang/StringBuilder", name := "append", desc := "(Ljava/lang/String;)Ljava/lang/StringBuilder;" } : Jvm.MethodName) jdk_67_method_7_code 2 (some (.object "java/lang/StringBuilder")) ({ frames := 5, cells := 1, slots := 200, locals := 76 } : Room) [.ref b, .ref x] h0 [b, t] (fun v h M' => v = some (.ref b) ∧ ∃ t' rs', M' = [t'] ∧ Keep h0 h [b, t] ∧ (t' = t ∨ h0.size ≤ t') ∧ b ≠ t' ∧ SB Z h b t' (cs ++ ds) (if cs.length + ds.length ≤ cap then cap else cap + max (cs.length + ds.length - cap) (cap + 2)) rs') := by
  refine of_body (a0 := a0) opn_11 (own_ew hw) hO (Ls := #[.val (.ref b), .val (.ref x)]) (fun m => by first | rfl | (simp [entryFrame, mkF, argsToLocals, Value.category]; done)) (fun κ T0 w0 hnm => ?_)
  refine W.aloadN w0 od_13_0 (pc' := 1) rfl rfl rfl ?_
  refine W.aloadN w0 od_13_1 (pc' := 2) rfl rfl rfl ?_
  refine W.callU w0 (ow_88 hw) (sm_of (ow_91 hw) (ow_108 hw) rfl (by decide)) (ow_89 hw) (ow_90 hw) (ow_92 hw) (by decide) opd_10 (Ins.self S_b.1) (Ctr.pay (c_aappend hw S_b hbt F_x hxt hsz w0.old) (own_ew hw) (ow_92 hw) (ow_74 hw) (kf := 5) (kl := 76) (by decide) (by decide)) (mC mem0 (mC (memS mem0) mN)) od_13_2 (pc' := 5) rfl rfl rfl (rest := []) rfl (Wd := 0) rfl (by decide) (by decide) (by decide) (by decide) fun v3 T1 h2 M4 w5 q6 => ?_
  obtain ⟨rfl, t7, rs8, rfl, K9, W10, ne11, F12⟩ := q6
  show Go Z _ _ _ κ _ (T1.setTop (mkF (km κ) 5 #[.val (.ref b), .val (.ref x)] [(.ref b)]))
  refine Jvm.Own.W.pop w5 od_13_5 rfl rfl ?_
  refine W.aloadN w5 od_13_6 (pc' := 7) rfl rfl rfl ?_
  have C13 := Keep.refl h0 [b, t]
  have C14 := C13.trans K9 (allS (Or.inl mem0) (allS (Or.inl (memS mem0)) RoadKit.all0))
  exact W.retR w5 rfl rfl rfl od_13_7 (M' := [t7]) (mC (memB mem0) mN) (by decide) (by decide) ⟨rfl, t7, rs8, rfl, C14, W10, ne11, F12⟩
set_option maxRecDepth 65536 in
set_option maxHeartbeats 40000000 in
theorem c_ainit {l : Launch} {Z : State} {a0 : Array Value} (hw : HW Z a0) {h0 : Heap} {b : Addr} {v1 v2 : Value} (E_b : Exa Z h0 b "java/lang/StringBuilder") (F_v : Fld Z h0 b "java/lang/AbstractStringBuilder" "value" "[B" v1) (F_c : Fld Z h0 b "java/lang/AbstractStringBuilder" "coder" "B" v2) (F_n : Fld Z h0 b "java/lang/AbstractStringBuilder" "count" "I" (.int 0)) (hO : Old Z Z.heap.size h0) : Ctr l Z EL0 nw0 ({ cls := "java/lang/AbstractStringBuilder", name := "<init>", desc := "(I)V" } : Jvm.MethodName) jdk_68_method_2_code 2 none ({ frames := 1, cells := 1, slots := 16, locals := 12 } : Room) [.ref b, .int 16] h0 [b] (fun v h M' => v = none ∧ ∃ t, M' = [t] ∧ Keep h0 h [b] ∧ h0.size ≤ t ∧ SB Z h b t [] 16 (List.replicate 16 (.int 0))) := by
  refine of_body (a0 := a0) opn_12 (own_ew hw) hO (Ls := #[.val (.ref b), .val (.int (16 : Int32))]) (fun m => by first | rfl | (simp [entryFrame, mkF, argsToLocals, Value.category]; done)) (fun κ T0 w0 hnm => ?_)
  obtain ⟨zC, SC, hzC⟩ := hw.2.1.1
  refine W.aloadN w0 od_12_0 (pc' := 1) rfl rfl rfl ?_
  refine W.initO w0 (ow_76 hw) (ow_12 hw) (ow_13 hw) od_12_1 (pc' := 4) rfl rfl (by decide) (Wd := 0) rfl (by decide) fun T1 w2 => ?_
  refine W.getS w2 (ow_77 hw) Via.refl (SC.ext w2.old.2) od_12_4 (pc' := 7) rfl fun T3 w4 => ?_
  refine W.ifNo w4 od_12_7 (pc' := 10) rfl ((if0 _ _).trans (feq hzC).1) ?_
  refine W.aloadN w4 od_12_10 (pc' := 11) rfl rfl rfl ?_
  refine W.iloadN w4 od_12_11 (pc' := 12) rfl rfl ?_
  refine W.newP w4 (ty := .byte) rfl (ow_19 hw) od_12_12 (pc' := 14) rfl (by decide) (cap := 16) (by decide) (by decide) (by decide) (by decide) fun T5 h6 a7 k8 w9 K10 B11 V12 => ?_
  have ne13 : b ≠ a7 := neL E_b.lt B11
  have V14 : Arv Z h6 a7 k8 .byte (16 : Int32) [(.int (0 : Int32)), (.int (0 : Int32)), (.int (0 : Int32)), (.int (0 : Int32)), (.int (0 : Int32)), (.int (0 : Int32)), (.int (0 : Int32)), (.int (0 : Int32)), (.int (0 : Int32)), (.int (0 : Int32)), (.int (0 : Int32)), (.int (0 : Int32)), (.int (0 : Int32)), (.int (0 : Int32)), (.int (0 : Int32)), (.int (0 : Int32))] (.int (0 : Int32)) := V12
  have f15 := (F_v.keep K10 nin0)
  have f16 := (E_b.keep K10)
  refine W.putF w9 (host := "") (Or.inl (ow_78 hw)) Via.refl f15 f16 (Or.inl (ow_79 hw)) (ow_65 hw) (ty := (.array .byte)) (by decide) rfl rfl (memS mem0) od_12_14 (pc' := 17) rfl fun T17 h18 w19 W20 => ?_
  have f21 := (F_c.keep K10 nin0)
  have F22 := f21.other W20 (Or.inr (slot_ne (Or.inl (ow_81 hw)) (Or.inl (ow_79 hw)) (by decide) (t := .byte) (t' := (.array .byte)) (by decide) (by decide)))
  have f23 := (F_n.keep K10 nin0)
  have F24 := f23.other W20 (Or.inr (slot_ne (Or.inl (ow_104 hw)) (Or.inl (ow_79 hw)) (by decide) (t := .int) (t' := (.array .byte)) (by decide) (by decide)))
  have F25 := f15.same W20
  have K26 := Keep.of_wr W20
  refine W.aloadN w19 od_12_17 (pc' := 18) rfl rfl rfl ?_
  refine W.iconst w19 od_12_18 (pc' := 19) rfl (z := (0 : Int32)) rfl ?_
  have f27 := (f16.keep K26)
  refine W.putFN w19 (ow_80 hw) Via.refl F22 f27 (Or.inl (ow_81 hw)) (ow_65 hw) (ty := .byte) (v' := (.int (0 : Int32))) (by decide) rfl rfl (memS mem0) od_12_19 (pc' := 22) rfl fun T28 h29 w30 W31 => ?_
  have F32 := F25.other W31 (Or.inr (slot_ne (Or.inl (ow_79 hw)) (Or.inl (ow_81 hw)) (by decide) (t := (.array .byte)) (t' := .byte) (by decide) (by decide)))
  have F33 := F24.other W31 (Or.inr (slot_ne (Or.inl (ow_104 hw)) (Or.inl (ow_81 hw)) (by decide) (t := .int) (t' := .byte) (by decide) (by decide)))
  have F34 := F22.same W31
  have K35 := Keep.of_wr W31
  refine W.goto w30 od_12_22 (pc' := 38) (by decide) (by decide) ?_
  have C36 := Keep.refl h0 [b]
  have C37 := C36.trans K10 RoadKit.all0
  have C38 := C37.trans K26 (allS (Or.inl mem0) RoadKit.all0)
  have C39 := C38.trans K35 (allS (Or.inl mem0) RoadKit.all0)
  have f40 := (f27.keep K35)
  have f41 := ((V14.keep K26 (ninS (Ne.symm ne13) nin0)).keep K35 (ninS (Ne.symm ne13) nin0))
  exact W.ret0 w30 rfl od_12_38 (M' := [a7]) (mC mem0 mN) (by decide) (by decide) ⟨rfl, a7, rfl, C39, B11, f40, F34, F33, F32, ⟨_, f41⟩, rfl, fa0, by decide⟩
set_option maxRecDepth 65536 in
set_option maxHeartbeats 40000000 in
theorem c_sbinit {l : Launch} {Z : State} {a0 : Array Value} (hw : HW Z a0) {h0 : Heap} {b : Addr} {v1 v2 : Value} (E_b : Exa Z h0 b "java/lang/StringBuilder") (F_v : Fld Z h0 b "java/lang/AbstractStringBuilder" "value" "[B" v1) (F_c : Fld Z h0 b "java/lang/AbstractStringBuilder" "coder" "B" v2) (F_n : Fld Z h0 b "java/lang/AbstractStringBuilder" "count" "I" (.int 0)) (hO : Old Z Z.heap.size h0) : Ctr l Z EL0 nw0 ({ cls := "java/lang/StringBuilder", name := "<init>", desc := "()V" } : Jvm.MethodName) jdk_67_method_1_code 1 none ({ frames := 2, cells := 1, slots := 16, locals := 25 } : Room) [.ref b] h0 [b] (fun v h M' => v = none ∧ ∃ t, M' = [t] ∧ Keep h0 h [b] ∧ h0.size ≤ t ∧ SB Z h b t [] 16 (List.replicate 16 (.int 0))) := by
  refine of_body (a0 := a0) opn_13 (own_ew hw) hO (Ls := #[.val (.ref b)]) (fun m => by first | rfl | (simp [entryFrame, mkF, argsToLocals, Value.category]; done)) (fun κ T0 w0 hnm => ?_)
  refine W.aloadN w0 od_11_0 (pc' := 1) rfl rfl rfl ?_
  refine W.bipush w0 od_11_1 (pc' := 3) rfl (z := (16 : Int32)) rfl ?_
  refine W.callI w0 (ow_70 hw) (ow_71 hw) (ow_75 hw) rfl (by decide) opd_8 (Ctr.pay (c_ainit hw E_b F_v F_c F_n w0.old) (own_ew hw) (ow_75 hw) (ow_74 hw) (kf := 2) (kl := 25) (by decide) (by decide)) (mC mem0 mN) od_11_3 (pc' := 6) rfl rfl rfl (rest := []) rfl (Wd := 0) rfl (by decide) (by decide) (by decide) (by decide) fun v3 T1 h2 M4 w5 q6 => ?_
  obtain ⟨rfl, t7, rfl, K8, B9, F10⟩ := q6
  show Go Z _ _ _ κ _ (T1.setTop (mkF (km κ) 6 #[.val (.ref b)] []))
  have C11 := Keep.refl h0 [b]
  have C12 := C11.trans K8 (allS (Or.inl mem0) RoadKit.all0)
  exact W.ret0 w5 rfl od_11_6 (M' := [t7]) (mC (memB mem0) mN) (by decide) (by decide) ⟨rfl, t7, rfl, C12, B9, F10⟩
set_option maxRecDepth 65536 in
set_option maxHeartbeats 40000000 in
theorem c_getValue {l : Launch} {Z : State} {a0 : Array Value} (hw : HW Z a0) {h0 : Heap} {b t : Addr} {cs : List Int32} {cap : Nat} {rs : List Value} (S_b : SB Z h0 b t cs cap rs) (hO : Old Z Z.heap.size h0) : Ctr l Z EL0 nw0 ({ cls := "java/lang/AbstractStringBuilder", name := "getValue", desc := "()[B" } : Jvm.MethodName) jdk_68_method_64_code 1 (some (.array .byte)) ({ frames := 0, cells := 0, slots := 0, locals := 0 } : Room) [.ref b] h0 [] (fun v h M' => v = some (.ref t) ∧ M' = [] ∧ h = h0) := by
  refine of_body (a0 := a0) opn_14 (own_ew hw) hO (Ls := #[.val (.ref b)]) (fun m => by first | rfl | (simp [entryFrame, mkF, argsToLocals, Value.category]; done)) (fun κ T0 w0 hnm => ?_)
  obtain ⟨E_b, F_c, F_n, F_v, ⟨k, V_t⟩, hcap, hlat, hc4⟩ := S_b
  refine W.aloadN w0 od_29_0 (pc' := 1) rfl rfl rfl ?_
  refine W.getF w0 (host := "") (Or.inl (ow_78 hw)) Via.refl F_v od_29_1 (pc' := 4) rfl fun T1 w2 => ?_
  exact W.retR w2 rfl rfl rfl od_29_4 (M' := []) mN (by decide) (by decide) ⟨rfl, rfl, rfl⟩
set_option maxRecDepth 65536 in
set_option maxHeartbeats 40000000 in
theorem c_alength {l : Launch} {Z : State} {a0 : Array Value} (hw : HW Z a0) {h0 : Heap} {b t : Addr} {cs : List Int32} {cap : Nat} {rs : List Value} (S_b : SB Z h0 b t cs cap rs) (hO : Old Z Z.heap.size h0) : Ctr l Z EL0 nw0 ({ cls := "java/lang/AbstractStringBuilder", name := "length", desc := "()I" } : Jvm.MethodName) jdk_68_method_6_code 1 (some .int) ({ frames := 0, cells := 0, slots := 0, locals := 0 } : Room) [.ref b] h0 [] (fun v h M' => v = some (.int (Int32.ofNat (cs.length))) ∧ M' = [] ∧ h = h0) := by
  refine of_body (a0 := a0) opn_15 (own_ew hw) hO (Ls := #[.val (.ref b)]) (fun m => by first | rfl | (simp [entryFrame, mkF, argsToLocals, Value.category]; done)) (fun κ T0 w0 hnm => ?_)
  obtain ⟨E_b, F_c, F_n, F_v, ⟨k, V_t⟩, hcap, hlat, hc4⟩ := S_b
  refine W.aloadN w0 od_31_0 (pc' := 1) rfl rfl rfl ?_
  refine W.getF w0 (host := "") (Or.inl (ow_103 hw)) Via.refl F_n od_31_1 (pc' := 4) rfl fun T1 w2 => ?_
  exact W.retI w2 rfl od_31_4 (M' := []) mN (by decide) (by decide) ⟨rfl, rfl, rfl⟩
set_option maxRecDepth 65536 in
set_option maxHeartbeats 40000000 in
theorem c_aLatin1 {l : Launch} {Z : State} {a0 : Array Value} (hw : HW Z a0) {h0 : Heap} {b t : Addr} {cs : List Int32} {cap : Nat} {rs : List Value} (S_b : SB Z h0 b t cs cap rs) (hO : Old Z Z.heap.size h0) : Ctr l Z EL0 nw0 ({ cls := "java/lang/AbstractStringBuilder", name := "isLatin1", desc := "()Z" } : Jvm.MethodName) jdk_68_method_68_code 1 (some .boolean) ({ frames := 0, cells := 0, slots := 0, locals := 0 } : Room) [.ref b] h0 [] (fun v h M' => v = some (.int (1 : Int32)) ∧ M' = [] ∧ h = h0) := by
  refine of_body (a0 := a0) opn_16 (own_ew hw) hO (Ls := #[.val (.ref b)]) (fun m => by first | rfl | (simp [entryFrame, mkF, argsToLocals, Value.category]; done)) (fun κ T0 w0 hnm => ?_)
  obtain ⟨E_b, F_c, F_n, F_v, ⟨k, V_t⟩, hcap, hlat, hc4⟩ := S_b
  obtain ⟨zC, SC, hzC⟩ := hw.2.1.1
  refine W.getS w0 (ow_77 hw) Via.refl (SC.ext w0.old.2) od_32_0 (pc' := 3) rfl fun T1 w2 => ?_
  refine W.ifNo w2 od_32_3 (pc' := 6) rfl ((if0 _ _).trans (feq hzC).1) ?_
  refine W.aloadN w2 od_32_6 (pc' := 7) rfl rfl rfl ?_
  refine W.getF w2 (host := "") (Or.inl (ow_80 hw)) Via.refl F_c od_32_7 (pc' := 10) rfl fun T3 w4 => ?_
  refine W.ifNo w4 od_32_10 (pc' := 13) rfl ((if0 _ _).trans (teq (by decide : (0 : Int32) = (0 : Int32))).2) ?_
  refine W.iconst w4 od_32_13 (pc' := 14) rfl (z := (1 : Int32)) rfl ?_
  refine W.goto w4 od_32_14 (pc' := 18) (by decide) (by decide) ?_
  exact W.retN w4 (t := .boolean) (z' := (1 : Int32)) rfl rfl (by simp) od_32_18 (M' := []) mN (by decide) (by decide) ⟨rfl, rfl, rfl⟩
set_option maxRecDepth 65536 in
set_option maxHeartbeats 40000000 in
theorem c_sblength {l : Launch} {Z : State} {a0 : Array Value} (hw : HW Z a0) {h0 : Heap} {b t : Addr} {cs : List Int32} {cap : Nat} {rs : List Value} (S_b : SB Z h0 b t cs cap rs) (hO : Old Z Z.heap.size h0) : Ctr l Z EL0 nw0 ({ cls := "java/lang/StringBuilder", name := "length", desc := "()I" } : Jvm.MethodName) jdk_67_method_93_code 1 (some .int) ({ frames := 1, cells := 0, slots := 0, locals := 12 } : Room) [.ref b] h0 [] (fun v h M' => v = some (.int (Int32.ofNat (cs.length))) ∧ M' = [] ∧ h = h0) := by
  refine of_body (a0 := a0) opn_17 (own_ew hw) hO (Ls := #[.val (.ref b)]) (fun m => by first | rfl | (simp [entryFrame, mkF, argsToLocals, Value.category]; done)) (fun κ T0 w0 hnm => ?_)
  obtain ⟨E_b, F_c, F_n, F_v, ⟨k, V_t⟩, hcap, hlat, hc4⟩ := S_b
  have S_b : SB Z h0 b t cs cap rs := ⟨E_b, F_c, F_n, F_v, ⟨k, V_t⟩, hcap, hlat, hc4⟩
  refine W.aloadN w0 od_30_0 (pc' := 1) rfl rfl rfl ?_
  refine W.callU w0 (ow_178 hw) (sm_of (ow_173 hw) (ow_108 hw) rfl (by decide)) (ow_174 hw) (ow_90 hw) (ow_179 hw) (by decide) opd_7 (Ins.self E_b) (Ctr.pay (c_alength hw S_b w0.old) (own_ew hw) (ow_179 hw) (ow_74 hw) (kf := 1) (kl := 12) (by decide) (by decide)) mN od_30_1 (pc' := 4) rfl rfl rfl (rest := []) rfl (Wd := 0) rfl (by decide) (by decide) (by decide) (by decide) fun v3 T1 h2 M4 w5 q6 => ?_
  obtain ⟨rfl, rfl, e7⟩ := q6
  obtain rfl := e7.symm
  show Go Z _ _ _ κ _ (T1.setTop (mkF (km κ) 4 #[.val (.ref b)] [(.int (Int32.ofNat (cs.length)))]))
  exact W.retI w5 rfl od_30_4 (M' := []) mN (by decide) (by decide) ⟨rfl, rfl, rfl⟩
set_option maxRecDepth 65536 in
set_option maxHeartbeats 40000000 in
theorem c_checkLength {l : Launch} {Z : State} {a0 : Array Value} (hw : HW Z a0) {h0 : Heap} {p q : Nat} (hpq : p ≤ q) (hq : q < 2147483648) (hO : Old Z Z.heap.size h0) : Ctr l Z EL0 nw0 ({ cls := "java/util/Arrays", name := "checkLength", desc := "(II)V" } : Jvm.MethodName) jdk_65_method_131_code 2 none ({ frames := 0, cells := 0, slots := 0, locals := 0 } : Room) [.int (Int32.ofNat p), .int (Int32.ofNat q)] h0 [] (fun v h M' => v = none ∧ M' = [] ∧ h = h0) := by
  refine of_body (a0 := a0) opn_18 (own_ew hw) hO (Ls := #[.val (.int (Int32.ofNat (p))), .val (.int (Int32.ofNat (q)))]) (fun m => by first | rfl | (simp [entryFrame, mkF, argsToLocals, Value.category]; done)) (fun κ T0 w0 hnm => ?_)
  refine W.iloadN w0 od_35_0 (pc' := 1) rfl rfl ?_
  refine W.iloadN w0 od_35_1 (pc' := 2) rfl rfl ?_
  refine W.icmpYes w0 od_35_2 (pc' := 37) (by decide) (by decide) (flt (show ¬ ((Int32.ofNat (q)) < (Int32.ofNat (p))) from fun hlt_ => absurd ((i_lt (n_val (a := q) (by omega)) (n_val (a := p) (by omega))).mp hlt_) (by omega))).2.1 ?_
  exact W.ret0 w0 rfl od_35_37 (M' := []) mN (by decide) (by decide) ⟨rfl, rfl, rfl⟩
set_option maxRecDepth 65536 in
set_option maxHeartbeats 40000000 in
theorem c_cofrb {l : Launch} {Z : State} {a0 : Array Value} (hw : HW Z a0) {h0 : Heap} {a : Addr} {p q : Nat} {k : ClassId} {vs : List Value} {L : Nat} (V_a : Arv Z h0 a k .byte (Int32.ofNat L) vs (.int 0)) (hl : vs.length = L) (hL : L ≤ 4000) (hpq : p ≤ q) (hqL : q ≤ L) (hq2 : q - p ≤ 200) (hO : Old Z Z.heap.size h0) : Ctr l Z EL0 nw0 ({ cls := "java/util/Arrays", name := "copyOfRangeByte", desc := "([BII)[B" } : Jvm.MethodName) jdk_65_method_133_code 5 (some (.array .byte)) ({ frames := 1, cells := 1, slots := 200, locals := 18 } : Room) [.ref a, .int (Int32.ofNat p), .int (Int32.ofNat q)] h0 [] (fun v h M' => ∃ b, v = some (.ref b) ∧ M' = [b] ∧ Keep h0 h [] ∧ h0.size ≤ b ∧ ∃ k', Arv Z h b k' .byte (Int32.ofNat (q - p)) ((vs.drop p).take (q - p)) (.int 0)) := by
  refine of_body (a0 := a0) opn_19 (own_ew hw) hO (Ls := #[.val (.ref a), .val (.int (Int32.ofNat (p))), .val (.int (Int32.ofNat (q))), .unset, .unset]) (fun m => by first | rfl | (simp [entryFrame, mkF, argsToLocals, Value.category]; done)) (fun κ T0 w0 hnm => ?_)
  refine W.iloadN w0 od_34_0 (pc' := 1) rfl rfl ?_
  refine W.iloadN w0 od_34_1 (pc' := 2) rfl rfl ?_
  refine W.callS w0 (ow_191 hw) (ow_192 hw) (ow_148 hw) (ow_193 hw) (by decide) opd_11 (Ctr.pay (c_checkLength hw (p := p) (q := q) (by omega) (by omega) w0.old) (own_ew hw) (ow_193 hw) (ow_148 hw) (kf := 1) (kl := 13) (by decide) (by decide)) mN od_34_2 (pc' := 5) rfl rfl rfl (rest := []) rfl (Wd := 0) rfl (by decide) (by decide) (by decide) (by decide) fun v3 T1 h2 M4 w5 q6 => ?_
  obtain ⟨rfl, rfl, e7⟩ := q6
  obtain rfl := e7.symm
  show Go Z _ _ _ κ _ (T1.setTop (mkF (km κ) 5 #[.val (.ref a), .val (.int (Int32.ofNat (p))), .val (.int (Int32.ofNat (q))), .unset, .unset] []))
  refine W.iloadN w5 od_34_5 (pc' := 6) rfl rfl ?_
  refine W.iloadN w5 od_34_6 (pc' := 7) rfl rfl ?_
  refine W.isub w5 od_34_7 (pc' := 8) rfl (z := (Int32.ofNat (q - (p)))) (n_sub (by omega)) ?_
  refine W.istoreN w5 od_34_8 (pc' := 9) rfl (Ls' := #[.val (.ref a), .val (.int (Int32.ofNat (p))), .val (.int (Int32.ofNat (q))), .val (.int (Int32.ofNat (q - (p)))), .unset]) rfl ?_
  refine W.iloadN w5 od_34_9 (pc' := 10) rfl rfl ?_
  refine W.newPB w5 (ty := .byte) rfl (ow_19 hw) od_34_10 (pc' := 12) rfl (n_nn (a := q - (p)) (by omega)) (len := q - (p)) (n_nat (by omega)) (cap := 200) (by omega) (by decide) (by decide) (by decide) fun T8 h9 a10 k11 w12 K13 B14 V15 => ?_
  have ne16 : a ≠ a10 := neL V_a.lt B14
  have V17 : Arv Z h9 a10 k11 .byte (Int32.ofNat (q - (p))) (List.replicate (q - (p)) (.int 0)) (.int 0) := V15
  refine W.astore w12 od_34_12 (pc' := 14) rfl (Ls' := #[.val (.ref a), .val (.int (Int32.ofNat (p))), .val (.int (Int32.ofNat (q))), .val (.int (Int32.ofNat (q - (p)))), .val (.ref a10)]) rfl rfl ?_
  refine W.aloadN w12 od_34_14 (pc' := 15) rfl rfl rfl ?_
  refine W.iloadN w12 od_34_15 (pc' := 16) rfl rfl ?_
  refine W.aload w12 od_34_16 (pc' := 18) rfl rfl rfl ?_
  refine W.iconst w12 od_34_18 (pc' := 19) rfl (z := (0 : Int32)) rfl ?_
  refine W.aloadN w12 od_34_19 (pc' := 20) rfl rfl rfl ?_
  have f18 := (V_a.keep K13 nin0)
  refine W.alen w12 f18 od_34_20 (pc' := 21) rfl ?_
  refine W.iloadN w12 od_34_21 (pc' := 22) rfl rfl ?_
  refine W.isub w12 od_34_22 (pc' := 23) rfl (z := (Int32.ofNat (L - (p)))) (n_sub (by omega)) ?_
  refine W.iloadN w12 od_34_23 (pc' := 24) rfl rfl ?_
  refine W.callS w12 (ow_150 hw) (ow_151 hw) (ow_142 hw) (ow_152 hw) (by decide) opd_0 (Ctr.pay (c_min hw (p := L - (p)) (q := q - (p)) (by omega) (by omega) w12.old) (own_ew hw) (ow_152 hw) (ow_142 hw) (kf := 1) (kl := 13) (by decide) (by decide)) mN od_34_24 (pc' := 27) rfl rfl rfl (rest := [(.int (0 : Int32)), (.ref a10), (.int (Int32.ofNat (p))), (.ref a)]) rfl (Wd := 4) rfl (by decide) (by decide) (by decide) (by decide) fun v21 T19 h20 M22 w23 q24 => ?_
  rw [show min (L - (p)) (q - (p)) = q - (p) from by omega] at q24
  obtain ⟨rfl, rfl, e25⟩ := q24
  obtain rfl := e25.symm
  show Go Z _ _ _ κ _ (T19.setTop (mkF (km κ) 27 #[.val (.ref a), .val (.int (Int32.ofNat (p))), .val (.int (Int32.ofNat (q))), .val (.int (Int32.ofNat (q - (p)))), .val (.ref a10)] [(.int (Int32.ofNat (q - (p)))), (.int (0 : Int32)), (.ref a10), (.int (Int32.ofNat (p))), (.ref a)]))
  refine W.copyN w23 (ow_153 hw) (ow_129 hw) (ow_127 hw) (ow_128 hw) f18 V17 rfl (us := ((vs.drop p).take (q - p))) (n_ok (a := p) (by omega)) z_ok (n_ok (a := q - (p)) (by omega)) (n_nat (a := L) (by omega)) (n_nat (a := q - (p)) (by omega)) (by omega) (by omega) (copy_sub vs _ _ (by omega)) (by simp) (memA mem0) od_34_27 (pc' := 30) rfl rfl (by decide) (Wd := 0) rfl (by decide) fun T26 h27 w28 K29 V30 => ?_
  refine W.aload w28 od_34_30 (pc' := 32) rfl rfl rfl ?_
  have C31 := Keep.refl h0 []
  have C32 := C31.trans K13 RoadKit.all0
  have C33 := C32.trans K29 (allS (Or.inr B14) RoadKit.all0)
  exact W.retR w28 rfl rfl rfl od_34_32 (M' := [a10]) (mC (memA mem0) mN) (by decide) (by decide) ⟨a10, rfl, rfl, C33, B14, ⟨_, V30⟩⟩
set_option maxRecDepth 65536 in
set_option maxHeartbeats 40000000 in
theorem c_cofr {l : Launch} {Z : State} {a0 : Array Value} (hw : HW Z a0) {h0 : Heap} {a : Addr} {p q : Nat} {k : ClassId} {vs : List Value} {L : Nat} (V_a : Arv Z h0 a k .byte (Int32.ofNat L) vs (.int 0)) (hl : vs.length = L) (hL : L ≤ 4000) (hpq : p ≤ q) (hqL : q ≤ L) (hq2 : q - p ≤ 200) (hnw : ¬ p = 0 ∨ q < L) (hO : Old Z Z.heap.size h0) : Ctr l Z EL0 nw0 ({ cls := "java/util/Arrays", name := "copyOfRange", desc := "([BII)[B" } : Jvm.MethodName) jdk_65_method_132_code 3 (some (.array .byte)) ({ frames := 2, cells := 1, slots := 200, locals := 34 } : Room) [.ref a, .int (Int32.ofNat p), .int (Int32.ofNat q)] h0 [] (fun v h M' => ∃ b, v = some (.ref b) ∧ M' = [b] ∧ Keep h0 h [] ∧ h0.size ≤ b ∧ ∃ k', Arv Z h b k' .byte (Int32.ofNat (q - p)) ((vs.drop p).take (q - p)) (.int 0)) := by
  refine of_body (a0 := a0) opn_20 (own_ew hw) hO (Ls := #[.val (.ref a), .val (.int (Int32.ofNat (p))), .val (.int (Int32.ofNat (q)))]) (fun m => by first | rfl | (simp [entryFrame, mkF, argsToLocals, Value.category]; done)) (fun κ T0 w0 hnm => ?_)
  rcases Decidable.em (p = 0) with hp0 | hp0
  · refine W.iloadN w0 od_33_0 (pc' := 1) rfl rfl ?_
    refine W.ifNo w0 od_33_1 (pc' := 4) rfl ((if0 _ _).trans (teq (show (Int32.ofNat (p)) = (0 : Int32) from (i_eq (n_val (a := p) (by omega)) (show (0 : Int32).toInt = 0 by decide)).mpr (by omega))).2) ?_
    refine W.iloadN w0 od_33_4 (pc' := 5) rfl rfl ?_
    refine W.aloadN w0 od_33_5 (pc' := 6) rfl rfl rfl ?_
    refine W.alen w0 V_a od_33_6 (pc' := 7) rfl ?_
    refine W.icmpNo w0 od_33_7 (pc' := 10) rfl (feq (show ¬ ((Int32.ofNat (q)) = (Int32.ofNat (L))) from fun hlt_ => absurd ((i_eq (n_val (a := q) (by omega)) (n_val (a := L) (by omega))).mp hlt_) (by omega))).1 ?_
    refine W.aloadN w0 od_33_10 (pc' := 11) rfl rfl rfl ?_
    refine W.iloadN w0 od_33_11 (pc' := 12) rfl rfl ?_
    refine W.iloadN w0 od_33_12 (pc' := 13) rfl rfl ?_
    refine W.callS w0 (ow_188 hw) (ow_189 hw) (ow_148 hw) (ow_190 hw) (by decide) opd_12 (Ctr.pay (c_cofrb hw V_a hl hL hpq hqL hq2 w0.old) (own_ew hw) (ow_190 hw) (ow_148 hw) (kf := 2) (kl := 34) (by decide) (by decide)) mN od_33_13 (pc' := 16) rfl rfl rfl (rest := []) rfl (Wd := 0) rfl (by decide) (by decide) (by decide) (by decide) fun v3 T1 h2 M4 w5 q6 => ?_
    obtain ⟨a7, rfl, rfl, K8, B9, k10, V11⟩ := q6
    show Go Z _ _ _ κ _ (T1.setTop (mkF (km κ) 16 #[.val (.ref a), .val (.int (Int32.ofNat (p))), .val (.int (Int32.ofNat (q)))] [(.ref a7)]))
    have C12 := Keep.refl h0 []
    have C13 := C12.trans K8 RoadKit.all0
    exact W.retR w5 rfl rfl rfl od_33_16 (M' := [a7]) (mC (memB mem0) mN) (by decide) (by decide) ⟨a7, rfl, rfl, C13, B9, ⟨_, V11⟩⟩
  · refine W.iloadN w0 od_33_0 (pc' := 1) rfl rfl ?_
    refine W.ifYes w0 od_33_1 (pc' := 10) (by decide) (by decide) ((if0 _ _).trans (feq (show ¬ ((Int32.ofNat (p)) = (0 : Int32)) from fun hlt_ => absurd ((i_eq (n_val (a := p) (by omega)) (show (0 : Int32).toInt = 0 by decide)).mp hlt_) (by omega))).2) ?_
    refine W.aloadN w0 od_33_10 (pc' := 11) rfl rfl rfl ?_
    refine W.iloadN w0 od_33_11 (pc' := 12) rfl rfl ?_
    refine W.iloadN w0 od_33_12 (pc' := 13) rfl rfl ?_
    refine W.callS w0 (ow_188 hw) (ow_189 hw) (ow_148 hw) (ow_190 hw) (by decide) opd_12 (Ctr.pay (c_cofrb hw V_a hl hL hpq hqL hq2 w0.old) (own_ew hw) (ow_190 hw) (ow_148 hw) (kf := 2) (kl := 34) (by decide) (by decide)) mN od_33_13 (pc' := 16) rfl rfl rfl (rest := []) rfl (Wd := 0) rfl (by decide) (by decide) (by decide) (by decide) fun v16 T14 h15 M17 w18 q19 => ?_
    obtain ⟨a20, rfl, rfl, K21, B22, k23, V24⟩ := q19
    show Go Z _ _ _ κ _ (T14.setTop (mkF (km κ) 16 #[.val (.ref a), .val (.int (Int32.ofNat (p))), .val (.int (Int32.ofNat (q)))] [(.ref a20)]))
    have C25 := Keep.refl h0 []
    have C26 := C25.trans K21 RoadKit.all0
    exact W.retR w18 rfl rfl rfl od_33_16 (M' := [a20]) (mC (memB mem0) mN) (by decide) (by decide) ⟨a20, rfl, rfl, C26, B22, ⟨_, V24⟩⟩
set_option maxRecDepth 65536 in
set_option maxHeartbeats 40000000 in
theorem c_sinitA {l : Launch} {Z : State} {a0 : Array Value} (hw : HW Z a0) {h0 : Heap} {b t : Addr} {cs : List Int32} {cap : Nat} {rs : List Value} (S_b : SB Z h0 b t cs cap rs) (hlt : cs.length < cap) {x : Addr} {v1 v2 : Value} (E_x : Exa Z h0 x "java/lang/String") (F_xv : Fld Z h0 x "java/lang/String" "value" "[B" v1) (F_xc : Fld Z h0 x "java/lang/String" "coder" "B" v2) (hxb : x ≠ b ∧ x ≠ t) (hcc : cs.length ≤ 200) (hO : Old Z Z.heap.size h0) : Ctr l Z EL0 nw0 ({ cls := "java/lang/String", name := "<init>", desc := "(Ljava/lang/AbstractStringBuilder;Ljava/lang/Void;)V" } : Jvm.MethodName) jdk_42_method_150_code 5 none ({ frames := 3, cells := 1, slots := 200, locals := 49 } : Room) [.ref x, .ref b, .null] h0 [x] (fun v h M' => v = none ∧ M' = [] ∧ Keep h0 h [x] ∧ ∃ u, h0.size ≤ u ∧ Str8 Z h x u cs) := by
  refine of_body (a0 := a0) opn_21 (own_ew hw) hO (Ls := #[.val (.ref x), .val (.ref b), .val .null, .unset, .unset]) (fun m => by first | rfl | (simp [entryFrame, mkF, argsToLocals, Value.category]; done)) (fun κ T0 w0 hnm => ?_)
  obtain ⟨E_b, F_c, F_n, F_v, ⟨k, V_t⟩, hcap, hlat, hc4⟩ := S_b
  have S_b : SB Z h0 b t cs cap rs := ⟨E_b, F_c, F_n, F_v, ⟨k, V_t⟩, hcap, hlat, hc4⟩
  refine W.aloadN w0 od_28_0 (pc' := 1) rfl rfl rfl ?_
  refine W.initO w0 (ow_11 hw) (ow_12 hw) (ow_13 hw) od_28_1 (pc' := 4) rfl rfl (by decide) (Wd := 0) rfl (by decide) fun T1 w2 => ?_
  refine W.aloadN w2 od_28_4 (pc' := 5) rfl rfl rfl ?_
  refine W.callV w2 (ow_167 hw) (ow_168 hw) (nfSel (ow_170 hw)) (ow_170 hw) (ow_169 hw) (by decide) opd_13 E_b (Ctr.pay (c_getValue hw (show SB Z h0 b t cs cap rs from ⟨E_b, F_c, F_n, F_v, ⟨_, V_t⟩, hcap, hlat, hc4⟩) w2.old) (own_ew hw) (ow_171 hw) (ow_74 hw) (kf := 1) (kl := 12) (by decide) (by decide)) mN od_28_5 (pc' := 8) rfl rfl rfl (rest := []) rfl (Wd := 0) rfl (by decide) (by decide) (by decide) (by decide) fun v5 T3 h4 M6 w7 q8 => ?_
  obtain ⟨rfl, rfl, e9⟩ := q8
  obtain rfl := e9.symm
  show Go Z _ _ _ κ _ (T3.setTop (mkF (km κ) 8 #[.val (.ref x), .val (.ref b), .val .null, .unset, .unset] [(.ref t)]))
  refine W.astoreN w7 od_28_8 (pc' := 9) rfl (Ls' := #[.val (.ref x), .val (.ref b), .val .null, .val (.ref t), .unset]) rfl rfl ?_
  refine W.aloadN w7 od_28_9 (pc' := 10) rfl rfl rfl ?_
  refine W.callV w7 (ow_172 hw) (ow_173 hw) (nfCls (ow_108 hw) rfl) (ow_175 hw) (ow_176 hw) (by decide) opd_7 E_b (Ctr.pay (c_sblength hw (show SB Z h0 b t cs cap rs from ⟨E_b, F_c, F_n, F_v, ⟨_, V_t⟩, hcap, hlat, hc4⟩) w7.old) (own_ew hw) (ow_177 hw) (ow_66 hw) (kf := 2) (kl := 24) (by decide) (by decide)) mN od_28_10 (pc' := 13) rfl rfl rfl (rest := []) rfl (Wd := 0) rfl (by decide) (by decide) (by decide) (by decide) fun v12 T10 h11 M13 w14 q15 => ?_
  obtain ⟨rfl, rfl, e16⟩ := q15
  obtain rfl := e16.symm
  show Go Z _ _ _ κ _ (T10.setTop (mkF (km κ) 13 #[.val (.ref x), .val (.ref b), .val .null, .val (.ref t), .unset] [(.int (Int32.ofNat (cs.length)))]))
  refine W.istore w14 od_28_13 (pc' := 15) rfl (Ls' := #[.val (.ref x), .val (.ref b), .val .null, .val (.ref t), .val (.int (Int32.ofNat (cs.length)))]) rfl ?_
  refine W.aloadN w14 od_28_15 (pc' := 16) rfl rfl rfl ?_
  refine W.callV w14 (ow_180 hw) (ow_181 hw) (nfSel (ow_183 hw)) (ow_183 hw) (ow_182 hw) (by decide) opd_14 E_b (Ctr.pay (c_aLatin1 hw (show SB Z h0 b t cs cap rs from ⟨E_b, F_c, F_n, F_v, ⟨_, V_t⟩, hcap, hlat, hc4⟩) w14.old) (own_ew hw) (ow_184 hw) (ow_74 hw) (kf := 1) (kl := 12) (by decide) (by decide)) mN od_28_16 (pc' := 19) rfl rfl rfl (rest := []) rfl (Wd := 0) rfl (by decide) (by decide) (by decide) (by decide) fun v19 T17 h18 M20 w21 q22 => ?_
  obtain ⟨rfl, rfl, e23⟩ := q22
  obtain rfl := e23.symm
  show Go Z _ _ _ κ _ (T17.setTop (mkF (km κ) 19 #[.val (.ref x), .val (.ref b), .val .null, .val (.ref t), .val (.int (Int32.ofNat (cs.length)))] [(.int (1 : Int32))]))
  refine W.ifNo w21 od_28_19 (pc' := 22) rfl ((if0 _ _).trans (feq (by decide : ¬ ((1 : Int32) = (0 : Int32)))).1) ?_
  refine W.aloadN w21 od_28_22 (pc' := 23) rfl rfl rfl ?_
  refine W.iconst w21 od_28_23 (pc' := 24) rfl (z := (0 : Int32)) rfl ?_
  refine W.putFN w21 (ow_26 hw) Via.refl F_xc E_x (Or.inr ⟨(ow_27 hw), rfl, hnm⟩) (ow_1 hw) (ty := .byte) (v' := (.int (0 : Int32))) (by decide) rfl rfl (memA (memA (memA mem0))) od_28_24 (pc' := 27) rfl fun T24 h25 w26 W27 => ?_
  have F28 := F_xv.other W27 (Or.inr (slot_ne (Or.inr (ow_29 hw)) (Or.inr (ow_27 hw)) (by decide) (t := (.array .byte)) (t' := .byte) (by decide) (by decide)))
  have F29 := F_xc.same W27
  have K30 := Keep.of_wr W27
  refine W.aloadN w26 od_28_27 (pc' := 28) rfl rfl rfl ?_
  refine W.aloadN w26 od_28_28 (pc' := 29) rfl rfl rfl ?_
  refine W.iconst w26 od_28_29 (pc' := 30) rfl (z := (0 : Int32)) rfl ?_
  refine W.iload w26 od_28_30 (pc' := 32) rfl rfl ?_
  have f31 := (E_b.keep K30)
  have f32 := (V_t.keep K30 (ninS (Ne.symm hxb.2) nin0))
  have f33 := (E_x.keep K30)
  refine W.callS w26 (ow_185 hw) (ow_186 hw) (ow_148 hw) (ow_187 hw) (by decide) opd_12 (Ctr.pay (c_cofr hw (p := 0) (q := cs.length) f32 (by rw [List.length_append, by8_len]; exact hcap) hc4 (by omega) (by omega) (by omega) (by omega) w26.old) (own_ew hw) (ow_187 hw) (ow_148 hw) (kf := 3) (kl := 48) (by decide) (by decide)) mN od_28_32 (pc' := 35) rfl rfl rfl (rest := [(.ref x)]) rfl (Wd := 1) rfl (by decide) (by decide) (by decide) (by decide) fun v36 T34 h35 M37 w38 q39 => ?_
  obtain ⟨a40, rfl, rfl, K41, B42, k43, V44⟩ := q39
  have ne45 : b ≠ a40 := neL f31.lt B42
  have ne46 : t ≠ a40 := neL f32.lt B42
  have ne47 : x ≠ a40 := neL f33.lt B42
  have V48 : Arv Z h35 a40 k43 .byte (Int32.ofNat cs.length) (by8 cs) (.int 0) := by rw [Nat.sub_zero, List.drop_zero, List.take_left' (by8_len cs)] at V44; exact V44
  show Go Z _ _ _ κ _ (T34.setTop (mkF (km κ) 35 #[.val (.ref x), .val (.ref b), .val .null, .val (.ref t), .val (.int (Int32.ofNat (cs.length)))] [(.ref a40), (.ref x)]))
  have f49 := (F28.keep K41 nin0)
  have f50 := (f33.keep K41)
  refine W.putF w38 (host := "") (Or.inl (ow_28 hw)) Via.refl f49 f50 (Or.inr ⟨(ow_29 hw), rfl, hnm⟩) (ow_1 hw) (ty := (.array .byte)) (by decide) rfl rfl (memA (memA (memA (memA mem0)))) od_28_35 (pc' := 38) rfl fun T51 h52 w53 W54 => ?_
  have f55 := (F29.keep K41 nin0)
  have F56 := f55.other W54 (Or.inr (slot_ne (Or.inr (ow_27 hw)) (Or.inr (ow_29 hw)) (by decide) (t := .byte) (t' := (.array .byte)) (by decide) (by decide)))
  have F57 := f49.same W54
  have K58 := Keep.of_wr W54
  refine W.goto w53 od_28_38 (pc' := 97) (by decide) (by decide) ?_
  have C59 := Keep.refl h0 [x]
  have C60 := C59.trans K30 (allS (Or.inl mem0) RoadKit.all0)
  have C61 := C60.trans K41 RoadKit.all0
  have C62 := C61.trans K58 (allS (Or.inl mem0) RoadKit.all0)
  have f63 := (f50.keep K58)
  have f64 := (V48.keep K58 (ninS (Ne.symm ne47) nin0))
  exact W.ret0 w53 rfl od_28_97 (M' := []) mN (by decide) (by decide) ⟨rfl, rfl, C62, a40, (Nat.le_trans K30.1 B42), f63, F56, F57, ⟨_, f64⟩, hlat, by omega⟩
set_option maxRecDepth 65536 in
set_option maxHeartbeats 40000000 in
theorem c_sinitB {l : Launch} {Z : State} {a0 : Array Value} (hw : HW Z a0) {h0 : Heap} {b t : Addr} {cs : List Int32} {cap : Nat} {rs : List Value} (S_b : SB Z h0 b t cs cap rs) (hlt : cs.length < cap) {x : Addr} {v1 v2 : Value} (E_x : Exa Z h0 x "java/lang/String") (F_xv : Fld Z h0 x "java/lang/String" "value" "[B" v1) (F_xc : Fld Z h0 x "java/lang/String" "coder" "B" v2) (hxb : x ≠ b ∧ x ≠ t) (hcc : cs.length ≤ 200) (hO : Old Z Z.heap.size h0) : Ctr l Z EL0 nw0 ({ cls := "java/lang/String", name := "<init>", desc := "(Ljava/lang/StringBuilder;)V" } : Jvm.MethodName) jdk_42_method_53_code 2 none ({ frames := 4, cells := 1, slots := 200, locals := 65 } : Room) [.ref x, .ref b] h0 [x] (fun v h M' => v = none ∧ M' = [] ∧ Keep h0 h [x] ∧ ∃ u, h0.size ≤ u ∧ Str8 Z h x u cs) := by
  refine of_body (a0 := a0) opn_22 (own_ew hw) hO (Ls := #[.val (.ref x), .val (.ref b)]) (fun m => by first | rfl | (simp [entryFrame, mkF, argsToLocals, Value.category]; done)) (fun κ T0 w0 hnm => ?_)
  refine W.aloadN w0 od_27_0 (pc' := 1) rfl rfl rfl ?_
  refine W.aloadN w0 od_27_1 (pc' := 2) rfl rfl rfl ?_
  refine Jvm.Own.W.aconstNull w0 od_27_2 rfl ?_
  refine W.callI w0 (ow_164 hw) (ow_165 hw) (ow_166 hw) rfl (by decide) opd_15 (Ctr.pay (c_sinitA hw S_b hlt E_x F_xv F_xc hxb hcc w0.old) (own_ew hw) (ow_166 hw) (ow_2 hw) (kf := 4) (kl := 65) (by decide) (by decide)) (mC mem0 mN) od_27_3 (pc' := 6) rfl rfl rfl (rest := []) rfl (Wd := 0) rfl (by decide) (by decide) (by decide) (by decide) fun v3 T1 h2 M4 w5 q6 => ?_
  obtain ⟨rfl, rfl, K7, t8, B9, F10⟩ := q6
  show Go Z _ _ _ κ _ (T1.setTop (mkF (km κ) 6 #[.val (.ref x), .val (.ref b)] []))
  have C11 := Keep.refl h0 [x]
  have C12 := C11.trans K7 (allS (Or.inl mem0) RoadKit.all0)
  exact W.ret0 w5 rfl od_27_6 (M' := []) mN (by decide) (by decide) ⟨rfl, rfl, C12, t8, B9, F10⟩
set_option maxRecDepth 65536 in
set_option maxHeartbeats 40000000 in
theorem c_toString {l : Launch} {Z : State} {a0 : Array Value} (hw : HW Z a0) {h0 : Heap} {b t : Addr} {cs : List Int32} {cap : Nat} {rs : List Value} (S_b : SB Z h0 b t cs cap rs) (hlt : cs.length < cap) (hcc : cs.length ≤ 200) (hO : Old Z Z.heap.size h0) : Ctr l Z EL0 nw0 ({ cls := "java/lang/StringBuilder", name := "toString", desc := "()Ljava/lang/String;" } : Jvm.MethodName) jdk_67_method_42_code 1 (some (.object "java/lang/String")) ({ frames := 5, cells := 2, slots := 204, locals := 79 } : Room) [.ref b] h0 [] (fun v h M' => ∃ x, v = some (.ref x) ∧ M' = [] ∧ Keep h0 h [] ∧ h0.size ≤ x ∧ ∃ u, h0.size ≤ u ∧ Str8 Z h x u cs) := by
  refine of_body (a0 := a0) opn_23 (own_ew hw) hO (Ls := #[.val (.ref b)]) (fun m => by first | rfl | (simp [entryFrame, mkF, argsToLocals, Value.category]; done)) (fun κ T0 w0 hnm => ?_)
  refine W.newO w0 (ow_160 hw) (ow_1 hw) (ow_2 hw) od_26_0 (pc' := 3) rfl (by decide) (by decide) fun T1 h2 a3 w4 K5 B6 E7 D8 => ?_
  have ne9 : b ≠ a3 := neL S_b.lt B6
  have ne10 : t ≠ a3 := neL S_b.lt2 B6
  have F11 : Fld Z h2 a3 "java/lang/String" "coder" "B" (.int (0 : Int32)) := D8 (Or.inr (ow_27 hw)) (ty := .byte) (by decide)
  have F12 : Fld Z h2 a3 "java/lang/String" "value" "[B" .null := D8 (Or.inr (ow_29 hw)) (ty := (.array .byte)) (by decide)
  refine Jvm.Own.W.dup w4 od_26_3 rfl rfl ?_
  refine W.aloadN w4 od_26_4 (pc' := 5) rfl rfl rfl ?_
  refine W.callI w4 (ow_161 hw) (ow_162 hw) (ow_163 hw) rfl (by decide) opd_16 (Ctr.pay (c_sinitB hw (S_b.keep K5 nin0 nin0) hlt E7 F12 F11 ⟨Ne.symm (neL S_b.lt B6), Ne.symm (neL S_b.lt2 B6)⟩ hcc w4.old) (own_ew hw) (ow_163 hw) (ow_2 hw) (kf := 5) (kl := 78) (by decide) (by decide)) (mC mem0 mN) od_26_5 (pc' := 8) rfl rfl rfl (rest := [(.ref a3)]) rfl (Wd := 1) rfl (by decide) (by decide) (by decide) (by decide) fun v15 T13 h14 M16 w17 q18 => ?_
  obtain ⟨rfl, rfl, K19, t20, B21, F22⟩ := q18
  show Go Z _ _ _ κ _ (T13.setTop (mkF (km κ) 8 #[.val (.ref b)] [(.ref a3)]))
  have C23 := Keep.refl h0 []
  have C24 := C23.trans K5 RoadKit.all0
  have C25 := C24.trans K19 (allS (Or.inr B6) RoadKit.all0)
  exact W.retR w17 rfl rfl rfl od_26_8 (M' := []) mN (by decide) (by decide) ⟨a3, rfl, rfl, C25, B6, t20, (Nat.le_trans K5.1 B21), F22⟩
set_option maxRecDepth 65536 in
set_option maxHeartbeats 40000000 in
theorem c_rec {l : Launch} {Z : State} {a0 : Array Value} (hw : HW Z a0) {h0 : Heap} {x0 : Addr} (hO : Old Z Z.heap.size h0) : Ctr l Z EL0 nw0 ({ cls := "java/lang/Record", name := "<init>", desc := "()V" } : Jvm.MethodName) jdk_30_method_1_code 1 none ({ frames := 1, cells := 0, slots := 0, locals := 12 } : Room) [.ref x0] h0 [] (fun v h M' => v = none ∧ M' = [] ∧ h = h0) := by
  refine of_body (a0 := a0) opn_24 (own_ew hw) hO (Ls := #[.val (.ref x0)]) (fun m => by first | rfl | (simp [entryFrame, mkF, argsToLocals, Value.category]; done)) (fun κ T0 w0 hnm => ?_)
  refine W.aloadN w0 od_8_0 (pc' := 1) rfl rfl rfl ?_
  refine W.initO w0 (ow_44 hw) (ow_12 hw) (ow_13 hw) od_8_1 (pc' := 4) rfl rfl (by decide) (Wd := 0) rfl (by decide) fun T1 w2 => ?_
  exact W.ret0 w2 rfl od_8_4 (M' := []) mN (by decide) (by decide) ⟨rfl, rfl, rfl⟩
set_option maxRecDepth 65536 in
set_option maxHeartbeats 40000000 in
theorem c_rnn {l : Launch} {Z : State} {a0 : Array Value} (hw : HW Z a0) {h0 : Heap} {x1 x2 : Addr} (hO : Old Z Z.heap.size h0) : Ctr l Z EL0 nw0 ({ cls := "java/util/Objects", name := "requireNonNull", desc := "(Ljava/lang/Object;Ljava/lang/String;)Ljava/lang/Object;" } : Jvm.MethodName) jdk_31_method_11_code 2 (some (.object "java/lang/Object")) ({ frames := 0, cells := 0, slots := 0, locals := 0 } : Room) [.ref x1, .ref x2] h0 [] (fun v h M' => v = some (.ref x1) ∧ M' = [] ∧ h = h0) := by
  refine of_body (a0 := a0) opn_25 (own_ew hw) hO (Ls := #[.val (.ref x1), .val (.ref x2)]) (fun m => by first | rfl | (simp [entryFrame, mkF, argsToLocals, Value.category]; done)) (fun κ T0 w0 hnm => ?_)
  refine W.aloadN w0 od_9_0 (pc' := 1) rfl rfl rfl ?_
  refine W.ifnonnullYes w0 od_9_1 (pc' := 13) (by decide) (by decide) ?_
  refine W.aloadN w0 od_9_13 (pc' := 14) rfl rfl rfl ?_
  exact W.retR w0 rfl rfl rfl od_9_14 (M' := []) mN (by decide) (by decide) ⟨rfl, rfl, rfl⟩
set_option maxRecDepth 65536 in
set_option maxHeartbeats 40000000 in
theorem c_linit {l : Launch} {Z : State} {a0 : Array Value} (hw : HW Z a0) {h0 : Heap} {x0 x1 x2 x3 : Addr} {v0 v1 v2 : Value} (E_x0 : Exa Z h0 x0 "com/example/pilotage/pilotage/core/ReadinessCheck$Login") (F_0 : Fld Z h0 x0 "com/example/pilotage/pilotage/core/ReadinessCheck$Login" "username" "Ljava/lang/String;" v0) (F_1 : Fld Z h0 x0 "com/example/pilotage/pilotage/core/ReadinessCheck$Login" "password" "Ljava/lang/String;" v1) (F_2 : Fld Z h0 x0 "com/example/pilotage/pilotage/core/ReadinessCheck$Login" "virtualHost" "Ljava/lang/String;" v2) (hO : Old Z Z.heap.size h0) : Ctr l Z EL0 nw0 ({ cls := "com/example/pilotage/pilotage/core/ReadinessCheck$Login", name := "<init>", desc := "(Ljava/lang/String;Ljava/lang/String;Ljava/lang/String;)V" } : Jvm.MethodName) prog_22_method_1_code 4 none ({ frames := 2, cells := 6, slots := 120, locals := 24 } : Room) [.ref x0, .ref x1, .ref x2, .ref x3] h0 [x0] (fun v h M' => v = none ∧ M' = [] ∧ Keep h0 h [x0] ∧ Exa Z h x0 "com/example/pilotage/pilotage/core/ReadinessCheck$Login" ∧ Fld Z h x0 "com/example/pilotage/pilotage/core/ReadinessCheck$Login" "username" "Ljava/lang/String;" (.ref x1) ∧ Fld Z h x0 "com/example/pilotage/pilotage/core/ReadinessCheck$Login" "virtualHost" "Ljava/lang/String;" (.ref x3)) := by
  refine of_body (a0 := a0) opn_26 (own_ew hw) hO (Ls := #[.val (.ref x0), .val (.ref x1), .val (.ref x2), .val (.ref x3)]) (fun m => by first | rfl | (simp [entryFrame, mkF, argsToLocals, Value.category]; done)) (fun κ T0 w0 hnm => ?_)
  refine W.aloadN w0 od_7_0 (pc' := 1) rfl rfl rfl ?_
  refine W.callI w0 (ow_39 hw) (ow_40 hw) (ow_43 hw) rfl (by decide) opd_17 (Ctr.pay (c_rec hw w0.old) (own_ew hw) (ow_43 hw) (ow_42 hw) (kf := 2) (kl := 24) (by decide) (by decide)) mN od_7_1 (pc' := 4) rfl rfl rfl (rest := []) rfl (Wd := 0) rfl (by decide) (by decide) (by decide) (by decide) fun v3 T1 h2 M4 w5 q6 => ?_
  obtain ⟨rfl, rfl, e7⟩ := q6
  obtain rfl := e7.symm
  show Go Z _ _ _ κ _ (T1.setTop (mkF (km κ) 4 #[.val (.ref x0), .val (.ref x1), .val (.ref x2), .val (.ref x3)] []))
  refine W.aloadN w5 od_7_4 (pc' := 5) rfl rfl rfl ?_
  refine W.ldcS w5 rfl (ow_45 hw) (own_sA hw) (List.mem_of_getElem? (i := 2) rfl) (vs := [(.int (117 : Int32)), (.int (115 : Int32)), (.int (101 : Int32)), (.int (114 : Int32)), (.int (110 : Int32)), (.int (97 : Int32)), (.int (109 : Int32)), (.int (101 : Int32))]) (z := (8 : Int32)) ⟨by decide, by decide⟩ (by decide) (by decide) od_7_5 (pc' := 7) rfl (n := 32) (by decide) (by decide) (by decide) (by decide) fun T8 h9 a10 a11 k12 w13 K14 E15 F16 F17 V18 Q19 => ?_
  have ne20 : x0 ≠ a10 := (Q19 x0 (memA mem0)).1
  have ne21 : x0 ≠ a11 := (Q19 x0 (memA mem0)).2
  have F22 : Str8 Z h9 a10 a11 [(117 : Int32), (115 : Int32), (101 : Int32), (114 : Int32), (110 : Int32), (97 : Int32), (109 : Int32), (101 : Int32)] := ⟨E15, F16, F17, ⟨_, V18⟩, by decide, by decide⟩
  refine W.callS w13 (ow_46 hw) (ow_47 hw) (ow_48 hw) (ow_49 hw) (by decide) opd_18 (Ctr.pay (c_rnn hw w13.old) (own_ew hw) (ow_49 hw) (ow_48 hw) (kf := 1) (kl := 13) (by decide) (by decide)) mN od_7_7 (pc' := 10) rfl rfl rfl (rest := []) rfl (Wd := 0) rfl (by decide) (by decide) (by decide) (by decide) fun v25 T23 h24 M26 w27 q28 => ?_
  obtain ⟨rfl, rfl, e29⟩ := q28
  obtain rfl := e29.symm
  show Go Z _ _ _ κ _ (T23.setTop (mkF (km κ) 10 #[.val (.ref x0), .val (.ref x1), .val (.ref x2), .val (.ref x3)] [(.ref x1)]))
  refine Jvm.Own.W.pop w27 od_7_10 rfl rfl ?_
  refine W.aloadN w27 od_7_11 (pc' := 12) rfl rfl rfl ?_
  refine W.ldcS w27 rfl (ow_50 hw) (own_sA hw) (List.mem_of_getElem? (i := 3) rfl) (vs := [(.int (112 : Int32)), (.int (97 : Int32)), (.int (115 : Int32)), (.int (115 : Int32)), (.int (119 : Int32)), (.int (111 : Int32)), (.int (114 : Int32)), (.int (100 : Int32))]) (z := (8 : Int32)) ⟨by decide, by decide⟩ (by decide) (by decide) od_7_12 (pc' := 14) rfl (n := 32) (by decide) (by decide) (by decide) (by decide) fun T30 h31 a32 a33 k34 w35 K36 E37 F38 F39 V40 Q41 => ?_
  have ne42 : x0 ≠ a32 := (Q41 x0 (memA (memA mem0))).1
  have ne43 : x0 ≠ a33 := (Q41 x0 (memA (memA mem0))).2
  have F44 : Str8 Z h31 a32 a33 [(112 : Int32), (97 : Int32), (115 : Int32), (115 : Int32), (119 : Int32), (111 : Int32), (114 : Int32), (100 : Int32)] := ⟨E37, F38, F39, ⟨_, V40⟩, by decide, by decide⟩
  refine W.callS w35 (ow_46 hw) (ow_47 hw) (ow_48 hw) (ow_49 hw) (by decide) opd_18 (Ctr.pay (c_rnn hw w35.old) (own_ew hw) (ow_49 hw) (ow_48 hw) (kf := 1) (kl := 13) (by decide) (by decide)) mN od_7_14 (pc' := 17) rfl rfl rfl (rest := []) rfl (Wd := 0) rfl (by decide) (by decide) (by decide) (by decide) fun v47 T45 h46 M48 w49 q50 => ?_
  obtain ⟨rfl, rfl, e51⟩ := q50
  obtain rfl := e51.symm
  show Go Z _ _ _ κ _ (T45.setTop (mkF (km κ) 17 #[.val (.ref x0), .val (.ref x1), .val (.ref x2), .val (.ref x3)] [(.ref x2)]))
  refine Jvm.Own.W.pop w49 od_7_17 rfl rfl ?_
  refine W.aloadN w49 od_7_18 (pc' := 19) rfl rfl rfl ?_
  refine W.ldcS w49 rfl (ow_51 hw) (own_sA hw) (List.mem_of_getElem? (i := 4) rfl) (vs := [(.int (118 : Int32)), (.int (105 : Int32)), (.int (114 : Int32)), (.int (116 : Int32)), (.int (117 : Int32)), (.int (97 : Int32)), (.int (108 : Int32)), (.int (72 : Int32)), (.int (111 : Int32)), (.int (115 : Int32)), (.int (116 : Int32))]) (z := (11 : Int32)) ⟨by decide, by decide⟩ (by decide) (by decide) od_7_19 (pc' := 21) rfl (n := 44) (by decide) (by decide) (by decide) (by decide) fun T52 h53 a54 a55 k56 w57 K58 E59 F60 F61 V62 Q63 => ?_
  have ne64 : x0 ≠ a54 := (Q63 x0 (memA (memA (memA mem0)))).1
  have ne65 : x0 ≠ a55 := (Q63 x0 (memA (memA (memA mem0)))).2
  have F66 : Str8 Z h53 a54 a55 [(118 : Int32), (105 : Int32), (114 : Int32), (116 : Int32), (117 : Int32), (97 : Int32), (108 : Int32), (72 : Int32), (111 : Int32), (115 : Int32), (116 : Int32)] := ⟨E59, F60, F61, ⟨_, V62⟩, by decide, by decide⟩
  refine W.callS w57 (ow_46 hw) (ow_47 hw) (ow_48 hw) (ow_49 hw) (by decide) opd_18 (Ctr.pay (c_rnn hw w57.old) (own_ew hw) (ow_49 hw) (ow_48 hw) (kf := 1) (kl := 13) (by decide) (by decide)) mN od_7_21 (pc' := 24) rfl rfl rfl (rest := []) rfl (Wd := 0) rfl (by decide) (by decide) (by decide) (by decide) fun v69 T67 h68 M70 w71 q72 => ?_
  obtain ⟨rfl, rfl, e73⟩ := q72
  obtain rfl := e73.symm
  show Go Z _ _ _ κ _ (T67.setTop (mkF (km κ) 24 #[.val (.ref x0), .val (.ref x1), .val (.ref x2), .val (.ref x3)] [(.ref x3)]))
  refine Jvm.Own.W.pop w71 od_7_24 rfl rfl ?_
  refine W.aloadN w71 od_7_25 (pc' := 26) rfl rfl rfl ?_
  refine W.aloadN w71 od_7_26 (pc' := 27) rfl rfl rfl ?_
  have f74 := (((F_0.keep K14 nin0).keep K36 nin0).keep K58 nin0)
  have f75 := (((E_x0.keep K14).keep K36).keep K58)
  refine W.putF w71 (host := "") (Or.inl (ow_52 hw)) Via.refl f74 f75 (Or.inr ⟨(ow_53 hw), rfl, hnm⟩) (ow_31 hw) (ty := (.object "java/lang/String")) (by decide) rfl rfl (memA (memA (memA (memA mem0)))) od_7_27 (pc' := 30) rfl fun T76 h77 w78 W79 => ?_
  have f80 := (((F_1.keep K14 nin0).keep K36 nin0).keep K58 nin0)
  have F81 := f80.other W79 (Or.inr (slot_ne (Or.inr (ow_55 hw)) (Or.inr (ow_53 hw)) (by decide) (t := (.object "java/lang/String")) (t' := (.object "java/lang/String")) (by decide) (by decide)))
  have f82 := (((F_2.keep K14 nin0).keep K36 nin0).keep K58 nin0)
  have F83 := f82.other W79 (Or.inr (slot_ne (Or.inr (ow_57 hw)) (Or.inr (ow_53 hw)) (by decide) (t := (.object "java/lang/String")) (t' := (.object "java/lang/String")) (by decide) (by decide)))
  have F84 := f74.same W79
  have K85 := Keep.of_wr W79
  refine W.aloadN w78 od_7_30 (pc' := 31) rfl rfl rfl ?_
  refine W.aloadN w78 od_7_31 (pc' := 32) rfl rfl rfl ?_
  have f86 := (f75.keep K85)
  refine W.putF w78 (host := "") (Or.inl (ow_54 hw)) Via.refl F81 f86 (Or.inr ⟨(ow_55 hw), rfl, hnm⟩) (ow_31 hw) (ty := (.object "java/lang/String")) (by decide) rfl rfl (memA (memA (memA (memA mem0)))) od_7_32 (pc' := 35) rfl fun T87 h88 w89 W90 => ?_
  have F91 := F84.other W90 (Or.inr (slot_ne (Or.inr (ow_53 hw)) (Or.inr (ow_55 hw)) (by decide) (t := (.object "java/lang/String")) (t' := (.object "java/lang/String")) (by decide) (by decide)))
  have F92 := F83.other W90 (Or.inr (slot_ne (Or.inr (ow_57 hw)) (Or.inr (ow_55 hw)) (by decide) (t := (.object "java/lang/String")) (t' := (.object "java/lang/String")) (by decide) (by decide)))
  have F93 := F81.same W90
  have K94 := Keep.of_wr W90
  refine W.aloadN w89 od_7_35 (pc' := 36) rfl rfl rfl ?_
  refine W.aloadN w89 od_7_36 (pc' := 37) rfl rfl rfl ?_
  have f95 := (f86.keep K94)
  refine W.putF w89 (host := "") (Or.inl (ow_56 hw)) Via.refl F92 f95 (Or.inr ⟨(ow_57 hw), rfl, hnm⟩) (ow_31 hw) (ty := (.object "java/lang/String")) (by decide) rfl rfl (memA (memA (memA (memA mem0)))) od_7_37 (pc' := 40) rfl fun T96 h97 w98 W99 => ?_
  have F100 := F91.other W99 (Or.inr (slot_ne (Or.inr (ow_53 hw)) (Or.inr (ow_57 hw)) (by decide) (t := (.object "java/lang/String")) (t' := (.object "java/lang/String")) (by decide) (by decide)))
  have F101 := F93.other W99 (Or.inr (slot_ne (Or.inr (ow_55 hw)) (Or.inr (ow_57 hw)) (by decide) (t := (.object "java/lang/String")) (t' := (.object "java/lang/String")) (by decide) (by decide)))
  have F102 := F92.same W99
  have K103 := Keep.of_wr W99
  have C104 := Keep.refl h0 [x0]
  have C105 := C104.trans K14 RoadKit.all0
  have C106 := C105.trans K36 RoadKit.all0
  have C107 := C106.trans K58 RoadKit.all0
  have C108 := C107.trans K85 (allS (Or.inl mem0) RoadKit.all0)
  have C109 := C108.trans K94 (allS (Or.inl mem0) RoadKit.all0)
  have C110 := C109.trans K103 (allS (Or.inl mem0) RoadKit.all0)
  have f111 := (f95.keep K103)
  exact W.ret0 w98 rfl od_7_40 (M' := []) mN (by decide) (by decide) ⟨rfl, rfl, C110, f111, F100, F102⟩
set_option maxRecDepth 65536 in
set_option maxHeartbeats 40000000 in
theorem c_tostr2 {l : Launch} {Z : State} {a0 : Array Value} (hw : HW Z a0) {h0 : Heap} {x0 x1 t1 x3 t3 : Addr} {u0 u1 v0 v1 : Int32} (F_u : Fld Z h0 x0 "com/example/pilotage/pilotage/core/ReadinessCheck$Login" "username" "Ljava/lang/String;" (.ref x1)) (F_h : Fld Z h0 x0 "com/example/pilotage/pilotage/core/ReadinessCheck$Login" "virtualHost" "Ljava/lang/String;" (.ref x3)) (S_u : Str8 Z h0 x1 t1 [u0, u1]) (S_h : Str8 Z h0 x3 t3 [v0, v1]) (hO : Old Z Z.heap.size h0) : Ctr l Z EL0 nw0 ({ cls := "com/example/pilotage/pilotage/core/ReadinessCheck$Login", name := "toString", desc := "()Ljava/lang/String;" } : Jvm.MethodName) prog_22_method_2_code 1 (some (.object "java/lang/String")) ({ frames := 6, cells := 15, slots := 1432, locals := 91 } : Room) [.ref x0] h0 [] (fun v h M' => ∃ x, v = some (.ref x) ∧ M' = [] ∧ Keep h0 h [] ∧ h0.size ≤ x ∧ ∃ u, h0.size ≤ u ∧ Str8 Z h x u [(76 : Int32), (111 : Int32), (103 : Int32), (105 : Int32), (110 : Int32), (91 : Int32), (117 : Int32), (115 : Int32), (101 : Int32), (114 : Int32), (110 : Int32), (97 : Int32), (109 : Int32), (101 : Int32), (61 : Int32), u0, u1, (44 : Int32), (32 : Int32), (112 : Int32), (97 : Int32), (115 : Int32), (115 : Int32), (119 : Int32), (111 : Int32), (114 : Int32), (100 : Int32), (61 : Int32), (40 : Int32), (104 : Int32), (105 : Int32), (100 : Int32), (100 : Int32), (101 : Int32), (110 : Int32), (41 : Int32), (44 : Int32), (32 : Int32), (118 : Int32), (105 : Int32), (114 : Int32), (116 : Int32), (117 : Int32), (97 : Int32), (108 : Int32), (72 : Int32), (111 : Int32), (115 : Int32), (116 : Int32), (61 : Int32), v0, v1, (93 : Int32)]) := by
  refine of_body (a0 := a0) opn_27 (own_ew hw) hO (Ls := #[.val (.ref x0)]) (fun m => by first | rfl | (simp [entryFrame, mkF, argsToLocals, Value.category]; done)) (fun κ T0 w0 hnm => ?_)
  refine W.newO w0 (ow_64 hw) (ow_65 hw) (ow_66 hw) od_10_0 (pc' := 3) rfl (by decide) (by decide) fun T1 h2 a3 w4 K5 B6 E7 D8 => ?_
  have ne9 : x0 ≠ a3 := neL F_u.lt B6
  have ne10 : x1 ≠ a3 := neL S_u.lt B6
  have ne11 : t1 ≠ a3 := neL S_u.lt2 B6
  have ne12 : x3 ≠ a3 := neL S_h.lt B6
  have ne13 : t3 ≠ a3 := neL S_h.lt2 B6
  have F14 : Fld Z h2 a3 "java/lang/AbstractStringBuilder" "value" "[B" .null := D8 (Or.inl (ow_79 hw)) (ty := (.array .byte)) (by decide)
  have F15 : Fld Z h2 a3 "java/lang/AbstractStringBuilder" "coder" "B" (.int (0 : Int32)) := D8 (Or.inl (ow_81 hw)) (ty := .byte) (by decide)
  have F16 : Fld Z h2 a3 "java/lang/AbstractStringBuilder" "count" "I" (.int (0 : Int32)) := D8 (Or.inl (ow_104 hw)) (ty := .int) (by decide)
  refine Jvm.Own.W.dup w4 od_10_3 rfl rfl ?_
  have f17 := (Nat.lt_of_lt_of_le F_u.lt K5.1)
  have f18 := (S_u.keep K5 nin0 nin0)
  have f19 := (S_h.keep K5 nin0 nin0)
  refine W.callI w4 (ow_67 hw) (ow_68 hw) (ow_69 hw) rfl (by decide) opd_17 (Ctr.pay (c_sbinit hw E7 F14 F15 F16 w4.old) (own_ew hw) (ow_69 hw) (ow_66 hw) (kf := 3) (kl := 37) (by decide) (by decide)) (mC mem0 mN) od_10_4 (pc' := 7) rfl rfl rfl (rest := [(.ref a3)]) rfl (Wd := 1) rfl (by decide) (by decide) (by decide) (by decide) fun v22 T20 h21 M23 w24 q25 => ?_
  obtain ⟨rfl, t26, rfl, K27, B28, F29⟩ := q25
  have ne30 : x0 ≠ t26 := neL f17 B28
  have ne31 : x1 ≠ t26 := neL f18.lt B28
  have ne32 : t1 ≠ t26 := neL f18.lt2 B28
  have ne33 : x3 ≠ t26 := neL f19.lt B28
  have ne34 : t3 ≠ t26 := neL f19.lt2 B28
  have ne35 : a3 ≠ t26 := neL E7.lt B28
  show Go Z _ _ _ κ _ (T20.setTop (mkF (km κ) 7 #[.val (.ref x0)] [(.ref a3)]))
  refine W.ldcS w24 rfl (ow_82 hw) (own_sA hw) (List.mem_of_getElem? (i := 5) rfl) (vs := [(.int (76 : Int32)), (.int (111 : Int32)), (.int (103 : Int32)), (.int (105 : Int32)), (.int (110 : Int32)), (.int (91 : Int32)), (.int (117 : Int32)), (.int (115 : Int32)), (.int (101 : Int32)), (.int (114 : Int32)), (.int (110 : Int32)), (.int (97 : Int32)), (.int (109 : Int32)), (.int (101 : Int32)), (.int (61 : Int32))]) (z := (15 : Int32)) ⟨by decide, by decide⟩ (by decide) (by decide) od_10_7 (pc' := 9) rfl (n := 60) (by decide) (by decide) (by decide) (by decide) fun T36 h37 a38 a39 k40 w41 K42 E43 F44 F45 V46 Q47 => ?_
  have ne48 : a3 ≠ a38 := (Q47 a3 (memA mem0)).1
  have ne49 : a3 ≠ a39 := (Q47 a3 (memA mem0)).2
  have ne50 : t26 ≠ a38 := (Q47 t26 (memB mem0)).1
  have ne51 : t26 ≠ a39 := (Q47 t26 (memB mem0)).2
  have F52 : Str8 Z h37 a38 a39 [(76 : Int32), (111 : Int32), (103 : Int32), (105 : Int32), (110 : Int32), (91 : Int32), (117 : Int32), (115 : Int32), (101 : Int32), (114 : Int32), (110 : Int32), (97 : Int32), (109 : Int32), (101 : Int32), (61 : Int32)] := ⟨E43, F44, F45, ⟨_, V46⟩, by decide, by decide⟩
  have f53 := (F29.keep K42 nin0 nin0)
  have f54 := (Nat.lt_of_lt_of_le (Nat.lt_of_lt_of_le f17 K27.1) K42.1)
  have f55 := ((f18.keep K27 (ninS ne10 nin0) (ninS ne11 nin0)).keep K42 nin0 nin0)
  have f56 := ((f19.keep K27 (ninS ne12 nin0) (ninS ne13 nin0)).keep K42 nin0 nin0)
  have f63 := (F29.1.keep K42)
  refine W.callV w41 (ow_83 hw) (ow_84 hw) (nfSel (ow_86 hw)) (ow_86 hw) (ow_85 hw) (by decide) opd_19 f63 (Ctr.pay (c_append hw f53 ne35 F52 ⟨ne48, ne50, ne49, ne51⟩ (Or.inl (Nat.le_of_ble_eq_true rfl)) w41.old) (own_ew hw) (ow_87 hw) (ow_66 hw) (kf := 6) (kl := 89) (by decide) (by decide)) (mC (memA mem0) (mC (memB mem0) mN)) od_10_9 (pc' := 12) rfl rfl rfl (rest := []) rfl (Wd := 0) rfl (by decide) (by decide) (by decide) (by decide) fun v59 T57 h58 M60 w61 q62 => ?_
  obtain ⟨rfl, t64, rs65, rfl, K66, W67, ne68, F69⟩ := q62
  have F70 : SB Z h58 a3 t64 [(76 : Int32), (111 : Int32), (103 : Int32), (105 : Int32), (110 : Int32), (91 : Int32), (117 : Int32), (115 : Int32), (101 : Int32), (114 : Int32), (110 : Int32), (97 : Int32), (109 : Int32), (101 : Int32), (61 : Int32)] 16 rs65 := F69
  have ne71 : x0 ≠ t64 := W67.elim (fun q => q ▸ ne30) (fun q => neL f54 q)
  have ne72 : x1 ≠ t64 := W67.elim (fun q => q ▸ ne31) (fun q => neL f55.lt q)
  have ne73 : t1 ≠ t64 := W67.elim (fun q => q ▸ ne32) (fun q => neL f55.lt2 q)
  have ne74 : x3 ≠ t64 := W67.elim (fun q => q ▸ ne33) (fun q => neL f56.lt q)
  have ne75 : t3 ≠ t64 := W67.elim (fun q => q ▸ ne34) (fun q => neL f56.lt2 q)
  have ne76 : a38 ≠ t64 := W67.elim (fun q => q ▸ (Ne.symm ne50)) (fun q => neL E43.lt q)
  have ne77 : a39 ≠ t64 := W67.elim (fun q => q ▸ (Ne.symm ne51)) (fun q => neL V46.lt q)
  have ab78 : h0.size ≤ t64 := W67.elim (fun q => q ▸ (Nat.le_trans K5.1 B28)) (fun q => (Nat.le_trans K5.1 (Nat.le_trans K27.1 (Nat.le_trans K42.1 q))))
  show Go Z _ _ _ κ _ (T57.setTop (mkF (km κ) 12 #[.val (.ref x0)] [(.ref a3)]))
  refine W.aloadN w61 od_10_12 (pc' := 13) rfl rfl rfl ?_
  have f79 := ((((F_u.keep K5 nin0).keep K27 (ninS ne9 nin0)).keep K42 nin0).keep K66 (ninS ne9 (ninS ne30 nin0)))
  refine W.getF w61 (host := "") (Or.inl (ow_52 hw)) Via.refl f79 od_10_13 (pc' := 16) rfl fun T80 w81 => ?_
  have f82 := (f55.keep K66 (ninS ne10 (ninS ne31 nin0)) (ninS ne11 (ninS ne32 nin0)))
  have f83 := (Nat.lt_of_lt_of_le f54 K66.1)
  have f84 := (f56.keep K66 (ninS ne12 (ninS ne33 nin0)) (ninS ne13 (ninS ne34 nin0)))
  have f85 := (E43.keep K66)
  have f86 := (V46.keep K66 (ninS (Ne.symm ne49) (ninS (Ne.symm ne51) nin0)))
  refine W.callV w81 (ow_83 hw) (ow_84 hw) (nfSel (ow_86 hw)) (ow_86 hw) (ow_85 hw) (by decide) opd_19 F70.1 (Ctr.pay (c_append hw F70 ne68 f82 ⟨(Ne.symm ne10), (Ne.symm ne72), (Ne.symm ne11), (Ne.symm ne73)⟩ (Or.inr (Nat.le_of_ble_eq_true rfl)) w81.old) (own_ew hw) (ow_87 hw) (ow_66 hw) (kf := 6) (kl := 89) (by decide) (by decide)) (mC (memA (memA mem0)) (mC (memB mem0) mN)) od_10_16 (pc' := 19) rfl rfl rfl (rest := []) rfl (Wd := 0) rfl (by decide) (by decide) (by decide) (by decide) fun v89 T87 h88 M90 w91 q92 => ?_
  obtain ⟨rfl, t93, rs94, rfl, K95, W96, ne97, F98⟩ := q92
  have F99 : SB Z h88 a3 t93 [(76 : Int32), (111 : Int32), (103 : Int32), (105 : Int32), (110 : Int32), (91 : Int32), (117 : Int32), (115 : Int32), (101 : Int32), (114 : Int32), (110 : Int32), (97 : Int32), (109 : Int32), (101 : Int32), (61 : Int32), u0, u1] 34 rs94 := F98
  have ne100 : x0 ≠ t93 := W96.elim (fun q => q ▸ ne71) (fun q => neL f83 q)
  have ne101 : x1 ≠ t93 := W96.elim (fun q => q ▸ ne72) (fun q => neL f82.lt q)
  have ne102 : t1 ≠ t93 := W96.elim (fun q => q ▸ ne73) (fun q => neL f82.lt2 q)
  have ne103 : x3 ≠ t93 := W96.elim (fun q => q ▸ ne74) (fun q => neL f84.lt q)
  have ne104 : t3 ≠ t93 := W96.elim (fun q => q ▸ ne75) (fun q => neL f84.lt2 q)
  have ne105 : a38 ≠ t93 := W96.elim (fun q => q ▸ ne76) (fun q => neL f85.lt q)
  have ne106 : a39 ≠ t93 := W96.elim (fun q => q ▸ ne77) (fun q => neL f86.lt q)
  have ab107 : h0.size ≤ t93 := W96.elim (fun q => q ▸ ab78) (fun q => (Nat.le_trans K5.1 (Nat.le_trans K27.1 (Nat.le_trans K42.1 (Nat.le_trans K66.1 q)))))
  show Go Z _ _ _ κ _ (T87.setTop (mkF (km κ) 19 #[.val (.ref x0)] [(.ref a3)]))
  refine W.ldcS w91 rfl (ow_130 hw) (own_sA hw) (List.mem_of_getElem? (i := 6) rfl) (vs := [(.int (44 : Int32)), (.int (32 : Int32)), (.int (112 : Int32)), (.int (97 : Int32)), (.int (115 : Int32)), (.int (115 : Int32)), (.int (119 : Int32)), (.int (111 : Int32)), (.int (114 : Int32)), (.int (100 : Int32)), (.int (61 : Int32)), (.int (40 : Int32)), (.int (104 : Int32)), (.int (105 : Int32)), (.int (100 : Int32)), (.int (100 : Int32)), (.int (101 : Int32)), (.int (110 : Int32)), (.int (41 : Int32)), (.int (44 : Int32)), (.int (32 : Int32)), (.int (118 : Int32)), (.int (105 : Int32)), (.int (114 : Int32)), (.int (116 : Int32)), (.int (117 : Int32)), (.int (97 : Int32)), (.int (108 : Int32)), (.int (72 : Int32)), (.int (111 : Int32)), (.int (115 : Int32)), (.int (116 : Int32)), (.int (61 : Int32))]) (z := (33 : Int32)) ⟨by decide, by decide⟩ (by decide) (by decide) od_10_19 (pc' := 21) rfl (n := 132) (by decide) (by decide) (by decide) (by decide) fun T108 h109 a110 a111 k112 w113 K114 E115 F116 F117 V118 Q119 => ?_
  have ne120 : a3 ≠ a110 := (Q119 a3 (memA (memA (memA mem0)))).1
  have ne121 : a3 ≠ a111 := (Q119 a3 (memA (memA (memA mem0)))).2
  have ne122 : t93 ≠ a110 := (Q119 t93 (memB mem0)).1
  have ne123 : t93 ≠ a111 := (Q119 t93 (memB mem0)).2
  have F124 : Str8 Z h109 a110 a111 [(44 : Int32), (32 : Int32), (112 : Int32), (97 : Int32), (115 : Int32), (115 : Int32), (119 : Int32), (111 : Int32), (114 : Int32), (100 : Int32), (61 : Int32), (40 : Int32), (104 : Int32), (105 : Int32), (100 : Int32), (100 : Int32), (101 : Int32), (110 : Int32), (41 : Int32), (44 : Int32), (32 : Int32), (118 : Int32), (105 : Int32), (114 : Int32), (116 : Int32), (117 : Int32), (97 : Int32), (108 : Int32), (72 : Int32), (111 : Int32), (115 : Int32), (116 : Int32), (61 : Int32)] := ⟨E115, F116, F117, ⟨_, V118⟩, by decide, by decide⟩
  have f125 := (F99.keep K114 nin0 nin0)
  have f126 := (Nat.lt_of_lt_of_le (Nat.lt_of_lt_of_le f83 K95.1) K114.1)
  have f127 := ((f82.keep K95 (ninS ne10 (ninS ne72 nin0)) (ninS ne11 (ninS ne73 nin0))).keep K114 nin0 nin0)
  have f128 := ((f84.keep K95 (ninS ne12 (ninS ne74 nin0)) (ninS ne13 (ninS ne75 nin0))).keep K114 nin0 nin0)
  have f129 := ((f85.keep K95).keep K114)
  have f130 := ((f86.keep K95 (ninS (Ne.symm ne49) (ninS ne77 nin0))).keep K114 nin0)
  have f137 := (F99.1.keep K114)
  refine W.callV w113 (ow_83 hw) (ow_84 hw) (nfSel (ow_86 hw)) (ow_86 hw) (ow_85 hw) (by decide) opd_19 f137 (Ctr.pay (c_append hw f125 ne97 F124 ⟨ne120, ne122, ne121, ne123⟩ (Or.inr (Nat.le_of_ble_eq_true rfl)) w113.old) (own_ew hw) (ow_87 hw) (ow_66 hw) (kf := 6) (kl := 89) (by decide) (by decide)) (mC (memA (memA (memA mem0))) (mC (memB mem0) mN)) od_10_21 (pc' := 24) rfl rfl rfl (rest := []) rfl (Wd := 0) rfl (by decide) (by decide) (by decide) (by decide) fun v133 T131 h132 M134 w135 q136 => ?_
  obtain ⟨rfl, t138, rs139, rfl, K140, W141, ne142, F143⟩ := q136
  have F144 : SB Z h132 a3 t138 [(76 : Int32), (111 : Int32), (103 : Int32), (105 : Int32), (110 : Int32), (91 : Int32), (117 : Int32), (115 : Int32), (101 : Int32), (114 : Int32), (110 : Int32), (97 : Int32), (109 : Int32), (101 : Int32), (61 : Int32), u0, u1, (44 : Int32), (32 : Int32), (112 : Int32), (97 : Int32), (115 : Int32), (115 : Int32), (119 : Int32), (111 : Int32), (114 : Int32), (100 : Int32), (61 : Int32), (40 : Int32), (104 : Int32), (105 : Int32), (100 : Int32), (100 : Int32), (101 : Int32), (110 : Int32), (41 : Int32), (44 : Int32), (32 : Int32), (118 : Int32), (105 : Int32), (114 : Int32), (116 : Int32), (117 : Int32), (97 : Int32), (108 : Int32), (72 : Int32), (111 : Int32), (115 : Int32), (116 : Int32), (61 : Int32)] 70 rs139 := F143
  have ne145 : x0 ≠ t138 := W141.elim (fun q => q ▸ ne100) (fun q => neL f126 q)
  have ne146 : x1 ≠ t138 := W141.elim (fun q => q ▸ ne101) (fun q => neL f127.lt q)
  have ne147 : t1 ≠ t138 := W141.elim (fun q => q ▸ ne102) (fun q => neL f127.lt2 q)
  have ne148 : x3 ≠ t138 := W141.elim (fun q => q ▸ ne103) (fun q => neL f128.lt q)
  have ne149 : t3 ≠ t138 := W141.elim (fun q => q ▸ ne104) (fun q => neL f128.lt2 q)
  have ne150 : a38 ≠ t138 := W141.elim (fun q => q ▸ ne105) (fun q => neL f129.lt q)
  have ne151 : a39 ≠ t138 := W141.elim (fun q => q ▸ ne106) (fun q => neL f130.lt q)
  have ne152 : a110 ≠ t138 := W141.elim (fun q => q ▸ (Ne.symm ne122)) (fun q => neL E115.lt q)
  have ne153 : a111 ≠ t138 := W141.elim (fun q => q ▸ (Ne.symm ne123)) (fun q => neL V118.lt q)
  have ab154 : h0.size ≤ t138 := W141.elim (fun q => q ▸ ab107) (fun q => (Nat.le_trans K5.1 (Nat.le_trans K27.1 (Nat.le_trans K42.1 (Nat.le_trans K66.1 (Nat.le_trans K95.1 (Nat.le_trans K114.1 q)))))))
  show Go Z _ _ _ κ _ (T131.setTop (mkF (km κ) 24 #[.val (.ref x0)] [(.ref a3)]))
  refine W.aloadN w135 od_10_24 (pc' := 25) rfl rfl rfl ?_
  have f155 := (((((((F_h.keep K5 nin0).keep K27 (ninS ne9 nin0)).keep K42 nin0).keep K66 (ninS ne9 (ninS ne30 nin0))).keep K95 (ninS ne9 (ninS ne71 nin0))).keep K114 nin0).keep K140 (ninS ne9 (ninS ne100 nin0)))
  refine W.getF w135 (host := "") (Or.inl (ow_56 hw)) Via.refl f155 od_10_25 (pc' := 28) rfl fun T156 w157 => ?_
  have f158 := (f128.keep K140 (ninS ne12 (ninS ne103 nin0)) (ninS ne13 (ninS ne104 nin0)))
  have f159 := (Nat.lt_of_lt_of_le f126 K140.1)
  have f160 := (f127.keep K140 (ninS ne10 (ninS ne101 nin0)) (ninS ne11 (ninS ne102 nin0)))
  have f161 := (f129.keep K140)
  have f162 := (f130.keep K140 (ninS (Ne.symm ne49) (ninS ne106 nin0)))
  have f163 := (E115.keep K140)
  have f164 := (V118.keep K140 (ninS (Ne.symm ne121) (ninS (Ne.symm ne123) nin0)))
  refine W.callV w157 (ow_83 hw) (ow_84 hw) (nfSel (ow_86 hw)) (ow_86 hw) (ow_85 hw) (by decide) opd_19 F144.1 (Ctr.pay (c_append hw F144 ne142 f158 ⟨(Ne.symm ne12), (Ne.symm ne148), (Ne.symm ne13), (Ne.symm ne149)⟩ (Or.inl (Nat.le_of_ble_eq_true rfl)) w157.old) (own_ew hw) (ow_87 hw) (ow_66 hw) (kf := 6) (kl := 89) (by decide) (by decide)) (mC (memA (memA (memA (memA mem0)))) (mC (memB mem0) mN)) od_10_28 (pc' := 31) rfl rfl rfl (rest := []) rfl (Wd := 0) rfl (by decide) (by decide) (by decide) (by decide) fun v167 T165 h166 M168 w169 q170 => ?_
  obtain ⟨rfl, t171, rs172, rfl, K173, W174, ne175, F176⟩ := q170
  have F177 : SB Z h166 a3 t171 [(76 : Int32), (111 : Int32), (103 : Int32), (105 : Int32), (110 : Int32), (91 : Int32), (117 : Int32), (115 : Int32), (101 : Int32), (114 : Int32), (110 : Int32), (97 : Int32), (109 : Int32), (101 : Int32), (61 : Int32), u0, u1, (44 : Int32), (32 : Int32), (112 : Int32), (97 : Int32), (115 : Int32), (115 : Int32), (119 : Int32), (111 : Int32), (114 : Int32), (100 : Int32), (61 : Int32), (40 : Int32), (104 : Int32), (105 : Int32), (100 : Int32), (100 : Int32), (101 : Int32), (110 : Int32), (41 : Int32), (44 : Int32), (32 : Int32), (118 : Int32), (105 : Int32), (114 : Int32), (116 : Int32), (117 : Int32), (97 : Int32), (108 : Int32), (72 : Int32), (111 : Int32), (115 : Int32), (116 : Int32), (61 : Int32), v0, v1] 70 rs172 := F176
  have ne178 : x0 ≠ t171 := W174.elim (fun q => q ▸ ne145) (fun q => neL f159 q)
  have ne179 : x1 ≠ t171 := W174.elim (fun q => q ▸ ne146) (fun q => neL f160.lt q)
  have ne180 : t1 ≠ t171 := W174.elim (fun q => q ▸ ne147) (fun q => neL f160.lt2 q)
  have ne181 : x3 ≠ t171 := W174.elim (fun q => q ▸ ne148) (fun q => neL f158.lt q)
  have ne182 : t3 ≠ t171 := W174.elim (fun q => q ▸ ne149) (fun q => neL f158.lt2 q)
  have ne183 : a38 ≠ t171 := W174.elim (fun q => q ▸ ne150) (fun q => neL f161.lt q)
  have ne184 : a39 ≠ t171 := W174.elim (fun q => q ▸ ne151) (fun q => neL f162.lt q)
  have ne185 : a110 ≠ t171 := W174.elim (fun q => q ▸ ne152) (fun q => neL f163.lt q)
  have ne186 : a111 ≠ t171 := W174.elim (fun q => q ▸ ne153) (fun q => neL f164.lt q)
  have ab187 : h0.size ≤ t171 := W174.elim (fun q => q ▸ ab154) (fun q => (Nat.le_trans K5.1 (Nat.le_trans K27.1 (Nat.le_trans K42.1 (Nat.le_trans K66.1 (Nat.le_trans K95.1 (Nat.le_trans K114.1 (Nat.le_trans K140.1 q))))))))
  show Go Z _ _ _ κ _ (T165.setTop (mkF (km κ) 31 #[.val (.ref x0)] [(.ref a3)]))
  refine W.ldcS w169 rfl (ow_154 hw) (own_sA hw) (List.mem_of_getElem? (i := 7) rfl) (vs := [(.int (93 : Int32))]) (z := (1 : Int32)) ⟨by decide, by decide⟩ (by decide) (by decide) od_10_31 (pc' := 33) rfl (n := 4) (by decide) (by decide) (by decide) (by decide) fun T188 h189 a190 a191 k192 w193 K194 E195 F196 F197 V198 Q199 => ?_
  have ne200 : a3 ≠ a190 := (Q199 a3 (memA (memA (memA (memA (memA mem0)))))).1
  have ne201 : a3 ≠ a191 := (Q199 a3 (memA (memA (memA (memA (memA mem0)))))).2
  have ne202 : t171 ≠ a190 := (Q199 t171 (memB mem0)).1
  have ne203 : t171 ≠ a191 := (Q199 t171 (memB mem0)).2
  have F204 : Str8 Z h189 a190 a191 [(93 : Int32)] := ⟨E195, F196, F197, ⟨_, V198⟩, by decide, by decide⟩
  have f205 := (F177.keep K194 nin0 nin0)
  have f206 := (Nat.lt_of_lt_of_le (Nat.lt_of_lt_of_le f159 K173.1) K194.1)
  have f207 := ((f160.keep K173 (ninS ne10 (ninS ne146 nin0)) (ninS ne11 (ninS ne147 nin0))).keep K194 nin0 nin0)
  have f208 := ((f158.keep K173 (ninS ne12 (ninS ne148 nin0)) (ninS ne13 (ninS ne149 nin0))).keep K194 nin0 nin0)
  have f209 := ((f161.keep K173).keep K194)
  have f210 := ((f162.keep K173 (ninS (Ne.symm ne49) (ninS ne151 nin0))).keep K194 nin0)
  have f211 := ((f163.keep K173).keep K194)
  have f212 := ((f164.keep K173 (ninS (Ne.symm ne121) (ninS ne153 nin0))).keep K194 nin0)
  have f219 := (F177.1.keep K194)
  refine W.callV w193 (ow_83 hw) (ow_84 hw) (nfSel (ow_86 hw)) (ow_86 hw) (ow_85 hw) (by decide) opd_19 f219 (Ctr.pay (c_append hw f205 ne175 F204 ⟨ne200, ne202, ne201, ne203⟩ (Or.inl (Nat.le_of_ble_eq_true rfl)) w193.old) (own_ew hw) (ow_87 hw) (ow_66 hw) (kf := 6) (kl := 89) (by decide) (by decide)) (mC (memA (memA (memA (memA (memA mem0))))) (mC (memB mem0) mN)) od_10_33 (pc' := 36) rfl rfl rfl (rest := []) rfl (Wd := 0) rfl (by decide) (by decide) (by decide) (by decide) fun v215 T213 h214 M216 w217 q218 => ?_
  obtain ⟨rfl, t220, rs221, rfl, K222, W223, ne224, F225⟩ := q218
  have F226 : SB Z h214 a3 t220 [(76 : Int32), (111 : Int32), (103 : Int32), (105 : Int32), (110 : Int32), (91 : Int32), (117 : Int32), (115 : Int32), (101 : Int32), (114 : Int32), (110 : Int32), (97 : Int32), (109 : Int32), (101 : Int32), (61 : Int32), u0, u1, (44 : Int32), (32 : Int32), (112 : Int32), (97 : Int32), (115 : Int32), (115 : Int32), (119 : Int32), (111 : Int32), (114 : Int32), (100 : Int32), (61 : Int32), (40 : Int32), (104 : Int32), (105 : Int32), (100 : Int32), (100 : Int32), (101 : Int32), (110 : Int32), (41 : Int32), (44 : Int32), (32 : Int32), (118 : Int32), (105 : Int32), (114 : Int32), (116 : Int32), (117 : Int32), (97 : Int32), (108 : Int32), (72 : Int32), (111 : Int32), (115 : Int32), (116 : Int32), (61 : Int32), v0, v1, (93 : Int32)] 70 rs221 := F225
  have ne227 : x0 ≠ t220 := W223.elim (fun q => q ▸ ne178) (fun q => neL f206 q)
  have ne228 : x1 ≠ t220 := W223.elim (fun q => q ▸ ne179) (fun q => neL f207.lt q)
  have ne229 : t1 ≠ t220 := W223.elim (fun q => q ▸ ne180) (fun q => neL f207.lt2 q)
  have ne230 : x3 ≠ t220 := W223.elim (fun q => q ▸ ne181) (fun q => neL f208.lt q)
  have ne231 : t3 ≠ t220 := W223.elim (fun q => q ▸ ne182) (fun q => neL f208.lt2 q)
  have ne232 : a38 ≠ t220 := W223.elim (fun q => q ▸ ne183) (fun q => neL f209.lt q)
  have ne233 : a39 ≠ t220 := W223.elim (fun q => q ▸ ne184) (fun q => neL f210.lt q)
  have ne234 : a110 ≠ t220 := W223.elim (fun q => q ▸ ne185) (fun q => neL f211.lt q)
  have ne235 : a111 ≠ t220 := W223.elim (fun q => q ▸ ne186) (fun q => neL f212.lt q)
  have ne236 : a190 ≠ t220 := W223.elim (fun q => q ▸ (Ne.symm ne202)) (fun q => neL E195.lt q)
  have ne237 : a191 ≠ t220 := W223.elim (fun q => q ▸ (Ne.symm ne203)) (fun q => neL V198.lt q)
  have ab238 : h0.size ≤ t220 := W223.elim (fun q => q ▸ ab187) (fun q => (Nat.le_trans K5.1 (Nat.le_trans K27.1 (Nat.le_trans K42.1 (Nat.le_trans K66.1 (Nat.le_trans K95.1 (Nat.le_trans K114.1 (Nat.le_trans K140.1 (Nat.le_trans K173.1 (Nat.le_trans K194.1 q))))))))))
  show Go Z _ _ _ κ _ (T213.setTop (mkF (km κ) 36 #[.val (.ref x0)] [(.ref a3)]))
  have f239 := (Nat.lt_of_lt_of_le f206 K222.1)
  have f240 := (f207.keep K222 (ninS ne10 (ninS ne179 nin0)) (ninS ne11 (ninS ne180 nin0)))
  have f241 := (f208.keep K222 (ninS ne12 (ninS ne181 nin0)) (ninS ne13 (ninS ne182 nin0)))
  have f242 := (f209.keep K222)
  have f243 := (f210.keep K222 (ninS (Ne.symm ne49) (ninS ne184 nin0)))
  have f244 := (f211.keep K222)
  have f245 := (f212.keep K222 (ninS (Ne.symm ne121) (ninS ne186 nin0)))
  have f246 := (E195.keep K222)
  have f247 := (V198.keep K222 (ninS (Ne.symm ne201) (ninS (Ne.symm ne203) nin0)))
  refine W.callV w217 (ow_155 hw) (ow_156 hw) (nfSel (ow_158 hw)) (ow_158 hw) (ow_157 hw) (by decide) opd_20 F226.1 (Ctr.pay (c_toString hw F226 (Nat.le_of_ble_eq_true rfl) (Nat.le_of_ble_eq_true rfl) w217.old) (own_ew hw) (ow_159 hw) (ow_66 hw) (kf := 6) (kl := 91) (by decide) (by decide)) mN od_10_36 (pc' := 39) rfl rfl rfl (rest := []) rfl (Wd := 0) rfl (by decide) (by decide) (by decide) (by decide) fun v250 T248 h249 M251 w252 q253 => ?_
  obtain ⟨a254, rfl, rfl, K255, B256, t257, B258, F259⟩ := q253
  have ne261 : x0 ≠ a254 := neL f239 B256
  have ne262 : x1 ≠ a254 := neL f240.lt B256
  have ne263 : t1 ≠ a254 := neL f240.lt2 B256
  have ne264 : x3 ≠ a254 := neL f241.lt B256
  have ne265 : t3 ≠ a254 := neL f241.lt2 B256
  have ne266 : a3 ≠ a254 := neL F226.1.lt B256
  have ne267 : a38 ≠ a254 := neL f242.lt B256
  have ne268 : a39 ≠ a254 := neL f243.lt B256
  have ne269 : a110 ≠ a254 := neL f244.lt B256
  have ne270 : a111 ≠ a254 := neL f245.lt B256
  have ne271 : a190 ≠ a254 := neL f246.lt B256
  have ne272 : a191 ≠ a254 := neL f247.lt B256
  have ne273 : t220 ≠ a254 := neL F226.lt2 B256
  have ne274 : x0 ≠ t257 := neL f239 B258
  have ne275 : x1 ≠ t257 := neL f240.lt B258
  have ne276 : t1 ≠ t257 := neL f240.lt2 B258
  have ne277 : x3 ≠ t257 := neL f241.lt B258
  have ne278 : t3 ≠ t257 := neL f241.lt2 B258
  have ne279 : a3 ≠ t257 := neL F226.1.lt B258
  have ne280 : a38 ≠ t257 := neL f242.lt B258
  have ne281 : a39 ≠ t257 := neL f243.lt B258
  have ne282 : a110 ≠ t257 := neL f244.lt B258
  have ne283 : a111 ≠ t257 := neL f245.lt B258
  have ne284 : a190 ≠ t257 := neL f246.lt B258
  have ne285 : a191 ≠ t257 := neL f247.lt B258
  have ne286 : t220 ≠ t257 := neL F226.lt2 B258
  show Go Z _ _ _ κ _ (T248.setTop (mkF (km κ) 39 #[.val (.ref x0)] [(.ref a254)]))
  have C287 := Keep.refl h0 []
  have C288 := C287.trans K5 RoadKit.all0
  have C289 := C288.trans K27 (allS (Or.inr B6) RoadKit.all0)
  have C290 := C289.trans K42 RoadKit.all0
  have C291 := C290.trans K66 (allS (Or.inr B6) (allS (Or.inr (Nat.le_trans K5.1 B28)) RoadKit.all0))
  have C292 := C291.trans K95 (allS (Or.inr B6) (allS (Or.inr ab78) RoadKit.all0))
  have C293 := C292.trans K114 RoadKit.all0
  have C294 := C293.trans K140 (allS (Or.inr B6) (allS (Or.inr ab107) RoadKit.all0))
  have C295 := C294.trans K173 (allS (Or.inr B6) (allS (Or.inr ab154) RoadKit.all0))
  have C296 := C295.trans K194 RoadKit.all0
  have C297 := C296.trans K222 (allS (Or.inr B6) (allS (Or.inr ab187) RoadKit.all0))
  have C298 := C297.trans K255 RoadKit.all0
  exact W.retR w252 rfl rfl rfl od_10_39 (M' := []) mN (by decide) (by decide) ⟨a254, rfl, rfl, C298, (Nat.le_trans K5.1 (Nat.le_trans K27.1 (Nat.le_trans K42.1 (Nat.le_trans K66.1 (Nat.le_trans K95.1 (Nat.le_trans K114.1 (Nat.le_trans K140.1 (Nat.le_trans K173.1 (Nat.le_trans K194.1 (Nat.le_trans K222.1 B256)))))))))), t257, (Nat.le_trans K5.1 (Nat.le_trans K27.1 (Nat.le_trans K42.1 (Nat.le_trans K66.1 (Nat.le_trans K95.1 (Nat.le_trans K114.1 (Nat.le_trans K140.1 (Nat.le_trans K173.1 (Nat.le_trans K194.1 (Nat.le_trans K222.1 B258)))))))))), F259⟩
set_option maxRecDepth 65536 in
set_option maxHeartbeats 40000000 in
theorem c_tostr0 {l : Launch} {Z : State} {a0 : Array Value} (hw : HW Z a0) {h0 : Heap} {x0 x1 t1 x3 t3 : Addr} (F_u : Fld Z h0 x0 "com/example/pilotage/pilotage/core/ReadinessCheck$Login" "username" "Ljava/lang/String;" (.ref x1)) (F_h : Fld Z h0 x0 "com/example/pilotage/pilotage/core/ReadinessCheck$Login" "virtualHost" "Ljava/lang/String;" (.ref x3)) (S_u : Str8 Z h0 x1 t1 []) (S_h : Str8 Z h0 x3 t3 []) (hO : Old Z Z.heap.size h0) : Ctr l Z EL0 nw0 ({ cls := "com/example/pilotage/pilotage/core/ReadinessCheck$Login", name := "toString", desc := "()Ljava/lang/String;" } : Jvm.MethodName) prog_22_method_2_code 1 (some (.object "java/lang/String")) ({ frames := 6, cells := 15, slots := 1432, locals := 91 } : Room) [.ref x0] h0 [] (fun v h M' => ∃ x, v = some (.ref x) ∧ M' = [] ∧ Keep h0 h [] ∧ h0.size ≤ x ∧ ∃ u, h0.size ≤ u ∧ Str8 Z h x u [(76 : Int32), (111 : Int32), (103 : Int32), (105 : Int32), (110 : Int32), (91 : Int32), (117 : Int32), (115 : Int32), (101 : Int32), (114 : Int32), (110 : Int32), (97 : Int32), (109 : Int32), (101 : Int32), (61 : Int32), (44 : Int32), (32 : Int32), (112 : Int32), (97 : Int32), (115 : Int32), (115 : Int32), (119 : Int32), (111 : Int32), (114 : Int32), (100 : Int32), (61 : Int32), (40 : Int32), (104 : Int32), (105 : Int32), (100 : Int32), (100 : Int32), (101 : Int32), (110 : Int32), (41 : Int32), (44 : Int32), (32 : Int32), (118 : Int32), (105 : Int32), (114 : Int32), (116 : Int32), (117 : Int32), (97 : Int32), (108 : Int32), (72 : Int32), (111 : Int32), (115 : Int32), (116 : Int32), (61 : Int32), (93 : Int32)]) := by
  refine of_body (a0 := a0) opn_27 (own_ew hw) hO (Ls := #[.val (.ref x0)]) (fun m => by first | rfl | (simp [entryFrame, mkF, argsToLocals, Value.category]; done)) (fun κ T0 w0 hnm => ?_)
  refine W.newO w0 (ow_64 hw) (ow_65 hw) (ow_66 hw) od_10_0 (pc' := 3) rfl (by decide) (by decide) fun T1 h2 a3 w4 K5 B6 E7 D8 => ?_
  have ne9 : x0 ≠ a3 := neL F_u.lt B6
  have ne10 : x1 ≠ a3 := neL S_u.lt B6
  have ne11 : t1 ≠ a3 := neL S_u.lt2 B6
  have ne12 : x3 ≠ a3 := neL S_h.lt B6
  have ne13 : t3 ≠ a3 := neL S_h.lt2 B6
  have F14 : Fld Z h2 a3 "java/lang/AbstractStringBuilder" "value" "[B" .null := D8 (Or.inl (ow_79 hw)) (ty := (.array .byte)) (by decide)
  have F15 : Fld Z h2 a3 "java/lang/AbstractStringBuilder" "coder" "B" (.int (0 : Int32)) := D8 (Or.inl (ow_81 hw)) (ty := .byte) (by decide)
  have F16 : Fld Z h2 a3 "java/lang/AbstractStringBuilder" "count" "I" (.int (0 : Int32)) := D8 (Or.inl (ow_104 hw)) (ty := .int) (by decide)
  refine Jvm.Own.W.dup w4 od_10_3 rfl rfl ?_
  have f17 := (Nat.lt_of_lt_of_le F_u.lt K5.1)
  have f18 := (S_u.keep K5 nin0 nin0)
  have f19 := (S_h.keep K5 nin0 nin0)
  refine W.callI w4 (ow_67 hw) (ow_68 hw) (ow_69 hw) rfl (by decide) opd_17 (Ctr.pay (c_sbinit hw E7 F14 F15 F16 w4.old) (own_ew hw) (ow_69 hw) (ow_66 hw) (kf := 3) (kl := 37) (by decide) (by decide)) (mC mem0 mN) od_10_4 (pc' := 7) rfl rfl rfl (rest := [(.ref a3)]) rfl (Wd := 1) rfl (by decide) (by decide) (by decide) (by decide) fun v22 T20 h21 M23 w24 q25 => ?_
  obtain ⟨rfl, t26, rfl, K27, B28, F29⟩ := q25
  have ne30 : x0 ≠ t26 := neL f17 B28
  have ne31 : x1 ≠ t26 := neL f18.lt B28
  have ne32 : t1 ≠ t26 := neL f18.lt2 B28
  have ne33 : x3 ≠ t26 := neL f19.lt B28
  have ne34 : t3 ≠ t26 := neL f19.lt2 B28
  have ne35 : a3 ≠ t26 := neL E7.lt B28
  show Go Z _ _ _ κ _ (T20.setTop (mkF (km κ) 7 #[.val (.ref x0)] [(.ref a3)]))
  refine W.ldcS w24 rfl (ow_82 hw) (own_sA hw) (List.mem_of_getElem? (i := 5) rfl) (vs := [(.int (76 : Int32)), (.int (111 : Int32)), (.int (103 : Int32)), (.int (105 : Int32)), (.int (110 : Int32)), (.int (91 : Int32)), (.int (117 : Int32)), (.int (115 : Int32)), (.int (101 : Int32)), (.int (114 : Int32)), (.int (110 : Int32)), (.int (97 : Int32)), (.int (109 : Int32)), (.int (101 : Int32)), (.int (61 : Int32))]) (z := (15 : Int32)) ⟨by decide, by decide⟩ (by decide) (by decide) od_10_7 (pc' := 9) rfl (n := 60) (by decide) (by decide) (by decide) (by decide) fun T36 h37 a38 a39 k40 w41 K42 E43 F44 F45 V46 Q47 => ?_
  have ne48 : a3 ≠ a38 := (Q47 a3 (memA mem0)).1
  have ne49 : a3 ≠ a39 := (Q47 a3 (memA mem0)).2
  have ne50 : t26 ≠ a38 := (Q47 t26 (memB mem0)).1
  have ne51 : t26 ≠ a39 := (Q47 t26 (memB mem0)).2
  have F52 : Str8 Z h37 a38 a39 [(76 : Int32), (111 : Int32), (103 : Int32), (105 : Int32), (110 : Int32), (91 : Int32), (117 : Int32), (115 : Int32), (101 : Int32), (114 : Int32), (110 : Int32), (97 : Int32), (109 : Int32), (101 : Int32), (61 : Int32)] := ⟨E43, F44, F45, ⟨_, V46⟩, by decide, by decide⟩
  have f53 := (F29.keep K42 nin0 nin0)
  have f54 := (Nat.lt_of_lt_of_le (Nat.lt_of_lt_of_le f17 K27.1) K42.1)
  have f55 := ((f18.keep K27 (ninS ne10 nin0) (ninS ne11 nin0)).keep K42 nin0 nin0)
  have f56 := ((f19.keep K27 (ninS ne12 nin0) (ninS ne13 nin0)).keep K42 nin0 nin0)
  have f63 := (F29.1.keep K42)
  refine W.callV w41 (ow_83 hw) (ow_84 hw) (nfSel (ow_86 hw)) (ow_86 hw) (ow_85 hw) (by decide) opd_19 f63 (Ctr.pay (c_append hw f53 ne35 F52 ⟨ne48, ne50, ne49, ne51⟩ (Or.inl (Nat.le_of_ble_eq_true rfl)) w41.old) (own_ew hw) (ow_87 hw) (ow_66 hw) (kf := 6) (kl := 89) (by decide) (by decide)) (mC (memA mem0) (mC (memB mem0) mN)) od_10_9 (pc' := 12) rfl rfl rfl (rest := []) rfl (Wd := 0) rfl (by decide) (by decide) (by decide) (by decide) fun v59 T57 h58 M60 w61 q62 => ?_
  obtain ⟨rfl, t64, rs65, rfl, K66, W67, ne68, F69⟩ := q62
  have F70 : SB Z h58 a3 t64 [(76 : Int32), (111 : Int32), (103 : Int32), (105 : Int32), (110 : Int32), (91 : Int32), (117 : Int32), (115 : Int32), (101 : Int32), (114 : Int32), (110 : Int32), (97 : Int32), (109 : Int32), (101 : Int32), (61 : Int32)] 16 rs65 := F69
  have ne71 : x0 ≠ t64 := W67.elim (fun q => q ▸ ne30) (fun q => neL f54 q)
  have ne72 : x1 ≠ t64 := W67.elim (fun q => q ▸ ne31) (fun q => neL f55.lt q)
  have ne73 : t1 ≠ t64 := W67.elim (fun q => q ▸ ne32) (fun q => neL f55.lt2 q)
  have ne74 : x3 ≠ t64 := W67.elim (fun q => q ▸ ne33) (fun q => neL f56.lt q)
  have ne75 : t3 ≠ t64 := W67.elim (fun q => q ▸ ne34) (fun q => neL f56.lt2 q)
  have ne76 : a38 ≠ t64 := W67.elim (fun q => q ▸ (Ne.symm ne50)) (fun q => neL E43.lt q)
  have ne77 : a39 ≠ t64 := W67.elim (fun q => q ▸ (Ne.symm ne51)) (fun q => neL V46.lt q)
  have ab78 : h0.size ≤ t64 := W67.elim (fun q => q ▸ (Nat.le_trans K5.1 B28)) (fun q => (Nat.le_trans K5.1 (Nat.le_trans K27.1 (Nat.le_trans K42.1 q))))
  show Go Z _ _ _ κ _ (T57.setTop (mkF (km κ) 12 #[.val (.ref x0)] [(.ref a3)]))
  refine W.aloadN w61 od_10_12 (pc' := 13) rfl rfl rfl ?_
  have f79 := ((((F_u.keep K5 nin0).keep K27 (ninS ne9 nin0)).keep K42 nin0).keep K66 (ninS ne9 (ninS ne30 nin0)))
  refine W.getF w61 (host := "") (Or.inl (ow_52 hw)) Via.refl f79 od_10_13 (pc' := 16) rfl fun T80 w81 => ?_
  have f82 := (f55.keep K66 (ninS ne10 (ninS ne31 nin0)) (ninS ne11 (ninS ne32 nin0)))
  have f83 := (Nat.lt_of_lt_of_le f54 K66.1)
  have f84 := (f56.keep K66 (ninS ne12 (ninS ne33 nin0)) (ninS ne13 (ninS ne34 nin0)))
  have f85 := (E43.keep K66)
  have f86 := (V46.keep K66 (ninS (Ne.symm ne49) (ninS (Ne.symm ne51) nin0)))
  refine W.callV w81 (ow_83 hw) (ow_84 hw) (nfSel (ow_86 hw)) (ow_86 hw) (ow_85 hw) (by decide) opd_19 F70.1 (Ctr.pay (c_append hw F70 ne68 f82 ⟨(Ne.symm ne10), (Ne.symm ne72), (Ne.symm ne11), (Ne.symm ne73)⟩ (Or.inl (Nat.le_of_ble_eq_true rfl)) w81.old) (own_ew hw) (ow_87 hw) (ow_66 hw) (kf := 6) (kl := 89) (by decide) (by decide)) (mC (memA (memA mem0)) (mC (memB mem0) mN)) od_10_16 (pc' := 19) rfl rfl rfl (rest := []) rfl (Wd := 0) rfl (by decide) (by decide) (by decide) (by decide) fun v89 T87 h88 M90 w91 q92 => ?_
  obtain ⟨rfl, t93, rs94, rfl, K95, W96, ne97, F98⟩ := q92
  have F99 : SB Z h88 a3 t93 [(76 : Int32), (111 : Int32), (103 : Int32), (105 : Int32), (110 : Int32), (91 : Int32), (117 : Int32), (115 : Int32), (101 : Int32), (114 : Int32), (110 : Int32), (97 : Int32), (109 : Int32), (101 : Int32), (61 : Int32)] 16 rs94 := F98
  have ne100 : x0 ≠ t93 := W96.elim (fun q => q ▸ ne71) (fun q => neL f83 q)
  have ne101 : x1 ≠ t93 := W96.elim (fun q => q ▸ ne72) (fun q => neL f82.lt q)
  have ne102 : t1 ≠ t93 := W96.elim (fun q => q ▸ ne73) (fun q => neL f82.lt2 q)
  have ne103 : x3 ≠ t93 := W96.elim (fun q => q ▸ ne74) (fun q => neL f84.lt q)
  have ne104 : t3 ≠ t93 := W96.elim (fun q => q ▸ ne75) (fun q => neL f84.lt2 q)
  have ne105 : a38 ≠ t93 := W96.elim (fun q => q ▸ ne76) (fun q => neL f85.lt q)
  have ne106 : a39 ≠ t93 := W96.elim (fun q => q ▸ ne77) (fun q => neL f86.lt q)
  have ab107 : h0.size ≤ t93 := W96.elim (fun q => q ▸ ab78) (fun q => (Nat.le_trans K5.1 (Nat.le_trans K27.1 (Nat.le_trans K42.1 (Nat.le_trans K66.1 q)))))
  show Go Z _ _ _ κ _ (T87.setTop (mkF (km κ) 19 #[.val (.ref x0)] [(.ref a3)]))
  refine W.ldcS w91 rfl (ow_130 hw) (own_sA hw) (List.mem_of_getElem? (i := 6) rfl) (vs := [(.int (44 : Int32)), (.int (32 : Int32)), (.int (112 : Int32)), (.int (97 : Int32)), (.int (115 : Int32)), (.int (115 : Int32)), (.int (119 : Int32)), (.int (111 : Int32)), (.int (114 : Int32)), (.int (100 : Int32)), (.int (61 : Int32)), (.int (40 : Int32)), (.int (104 : Int32)), (.int (105 : Int32)), (.int (100 : Int32)), (.int (100 : Int32)), (.int (101 : Int32)), (.int (110 : Int32)), (.int (41 : Int32)), (.int (44 : Int32)), (.int (32 : Int32)), (.int (118 : Int32)), (.int (105 : Int32)), (.int (114 : Int32)), (.int (116 : Int32)), (.int (117 : Int32)), (.int (97 : Int32)), (.int (108 : Int32)), (.int (72 : Int32)), (.int (111 : Int32)), (.int (115 : Int32)), (.int (116 : Int32)), (.int (61 : Int32))]) (z := (33 : Int32)) ⟨by decide, by decide⟩ (by decide) (by decide) od_10_19 (pc' := 21) rfl (n := 132) (by decide) (by decide) (by decide) (by decide) fun T108 h109 a110 a111 k112 w113 K114 E115 F116 F117 V118 Q119 => ?_
  have ne120 : a3 ≠ a110 := (Q119 a3 (memA (memA (memA mem0)))).1
  have ne121 : a3 ≠ a111 := (Q119 a3 (memA (memA (memA mem0)))).2
  have ne122 : t93 ≠ a110 := (Q119 t93 (memB mem0)).1
  have ne123 : t93 ≠ a111 := (Q119 t93 (memB mem0)).2
  have F124 : Str8 Z h109 a110 a111 [(44 : Int32), (32 : Int32), (112 : Int32), (97 : Int32), (115 : Int32), (115 : Int32), (119 : Int32), (111 : Int32), (114 : Int32), (100 : Int32), (61 : Int32), (40 : Int32), (104 : Int32), (105 : Int32), (100 : Int32), (100 : Int32), (101 : Int32), (110 : Int32), (41 : Int32), (44 : Int32), (32 : Int32), (118 : Int32), (105 : Int32), (114 : Int32), (116 : Int32), (117 : Int32), (97 : Int32), (108 : Int32), (72 : Int32), (111 : Int32), (115 : Int32), (116 : Int32), (61 : Int32)] := ⟨E115, F116, F117, ⟨_, V118⟩, by decide, by decide⟩
  have f125 := (F99.keep K114 nin0 nin0)
  have f126 := (Nat.lt_of_lt_of_le (Nat.lt_of_lt_of_le f83 K95.1) K114.1)
  have f127 := ((f82.keep K95 (ninS ne10 (ninS ne72 nin0)) (ninS ne11 (ninS ne73 nin0))).keep K114 nin0 nin0)
  have f128 := ((f84.keep K95 (ninS ne12 (ninS ne74 nin0)) (ninS ne13 (ninS ne75 nin0))).keep K114 nin0 nin0)
  have f129 := ((f85.keep K95).keep K114)
  have f130 := ((f86.keep K95 (ninS (Ne.symm ne49) (ninS ne77 nin0))).keep K114 nin0)
  have f137 := (F99.1.keep K114)
  refine W.callV w113 (ow_83 hw) (ow_84 hw) (nfSel (ow_86 hw)) (ow_86 hw) (ow_85 hw) (by decide) opd_19 f137 (Ctr.pay (c_append hw f125 ne97 F124 ⟨ne120, ne122, ne121, ne123⟩ (Or.inr (Nat.le_of_ble_eq_true rfl)) w113.old) (own_ew hw) (ow_87 hw) (ow_66 hw) (kf := 6) (kl := 89) (by decide) (by decide)) (mC (memA (memA (memA mem0))) (mC (memB mem0) mN)) od_10_21 (pc' := 24) rfl rfl rfl (rest := []) rfl (Wd := 0) rfl (by decide) (by decide) (by decide) (by decide) fun v133 T131 h132 M134 w135 q136 => ?_
  obtain ⟨rfl, t138, rs139, rfl, K140, W141, ne142, F143⟩ := q136
  have F144 : SB Z h132 a3 t138 [(76 : Int32), (111 : Int32), (103 : Int32), (105 : Int32), (110 : Int32), (91 : Int32), (117 : Int32), (115 : Int32), (101 : Int32), (114 : Int32), (110 : Int32), (97 : Int32), (109 : Int32), (101 : Int32), (61 : Int32), (44 : Int32), (32 : Int32), (112 : Int32), (97 : Int32), (115 : Int32), (115 : Int32), (119 : Int32), (111 : Int32), (114 : Int32), (100 : Int32), (61 : Int32), (40 : Int32), (104 : Int32), (105 : Int32), (100 : Int32), (100 : Int32), (101 : Int32), (110 : Int32), (41 : Int32), (44 : Int32), (32 : Int32), (118 : Int32), (105 : Int32), (114 : Int32), (116 : Int32), (117 : Int32), (97 : Int32), (108 : Int32), (72 : Int32), (111 : Int32), (115 : Int32), (116 : Int32), (61 : Int32)] 48 rs139 := F143
  have ne145 : x0 ≠ t138 := W141.elim (fun q => q ▸ ne100) (fun q => neL f126 q)
  have ne146 : x1 ≠ t138 := W141.elim (fun q => q ▸ ne101) (fun q => neL f127.lt q)
  have ne147 : t1 ≠ t138 := W141.elim (fun q => q ▸ ne102) (fun q => neL f127.lt2 q)
  have ne148 : x3 ≠ t138 := W141.elim (fun q => q ▸ ne103) (fun q => neL f128.lt q)
  have ne149 : t3 ≠ t138 := W141.elim (fun q => q ▸ ne104) (fun q => neL f128.lt2 q)
  have ne150 : a38 ≠ t138 := W141.elim (fun q => q ▸ ne105) (fun q => neL f129.lt q)
  have ne151 : a39 ≠ t138 := W141.elim (fun q => q ▸ ne106) (fun q => neL f130.lt q)
  have ne152 : a110 ≠ t138 := W141.elim (fun q => q ▸ (Ne.symm ne122)) (fun q => neL E115.lt q)
  have ne153 : a111 ≠ t138 := W141.elim (fun q => q ▸ (Ne.symm ne123)) (fun q => neL V118.lt q)
  have ab154 : h0.size ≤ t138 := W141.elim (fun q => q ▸ ab107) (fun q => (Nat.le_trans K5.1 (Nat.le_trans K27.1 (Nat.le_trans K42.1 (Nat.le_trans K66.1 (Nat.le_trans K95.1 (Nat.le_trans K114.1 q)))))))
  show Go Z _ _ _ κ _ (T131.setTop (mkF (km κ) 24 #[.val (.ref x0)] [(.ref a3)]))
  refine W.aloadN w135 od_10_24 (pc' := 25) rfl rfl rfl ?_
  have f155 := (((((((F_h.keep K5 nin0).keep K27 (ninS ne9 nin0)).keep K42 nin0).keep K66 (ninS ne9 (ninS ne30 nin0))).keep K95 (ninS ne9 (ninS ne71 nin0))).keep K114 nin0).keep K140 (ninS ne9 (ninS ne100 nin0)))
  refine W.getF w135 (host := "") (Or.inl (ow_56 hw)) Via.refl f155 od_10_25 (pc' := 28) rfl fun T156 w157 => ?_
  have f158 := (f128.keep K140 (ninS ne12 (ninS ne103 nin0)) (ninS ne13 (ninS ne104 nin0)))
  have f159 := (Nat.lt_of_lt_of_le f126 K140.1)
  have f160 := (f127.keep K140 (ninS ne10 (ninS ne101 nin0)) (ninS ne11 (ninS ne102 nin0)))
  have f161 := (f129.keep K140)
  have f162 := (f130.keep K140 (ninS (Ne.symm ne49) (ninS ne106 nin0)))
  have f163 := (E115.keep K140)
  have f164 := (V118.keep K140 (ninS (Ne.symm ne121) (ninS (Ne.symm ne123) nin0)))
  refine W.callV w157 (ow_83 hw) (ow_84 hw) (nfSel (ow_86 hw)) (ow_86 hw) (ow_85 hw) (by decide) opd_19 F144.1 (Ctr.pay (c_append hw F144 ne142 f158 ⟨(Ne.symm ne12), (Ne.symm ne148), (Ne.symm ne13), (Ne.symm ne149)⟩ (Or.inl (Nat.le_of_ble_eq_true rfl)) w157.old) (own_ew hw) (ow_87 hw) (ow_66 hw) (kf := 6) (kl := 89) (by decide) (by decide)) (mC (memA (memA (memA (memA mem0)))) (mC (memB mem0) mN)) od_10_28 (pc' := 31) rfl rfl rfl (rest := []) rfl (Wd := 0) rfl (by decide) (by decide) (by decide) (by decide) fun v167 T165 h166 M168 w169 q170 => ?_
  obtain ⟨rfl, t171, rs172, rfl, K173, W174, ne175, F176⟩ := q170
  have F177 : SB Z h166 a3 t171 [(76 : Int32), (111 : Int32), (103 : Int32), (105 : Int32), (110 : Int32), (91 : Int32), (117 : Int32), (115 : Int32), (101 : Int32), (114 : Int32), (110 : Int32), (97 : Int32), (109 : Int32), (101 : Int32), (61 : Int32), (44 : Int32), (32 : Int32), (112 : Int32), (97 : Int32), (115 : Int32), (115 : Int32), (119 : Int32), (111 : Int32), (114 : Int32), (100 : Int32), (61 : Int32), (40 : Int32), (104 : Int32), (105 : Int32), (100 : Int32), (100 : Int32), (101 : Int32), (110 : Int32), (41 : Int32), (44 : Int32), (32 : Int32), (118 : Int32), (105 : Int32), (114 : Int32), (116 : Int32), (117 : Int32), (97 : Int32), (108 : Int32), (72 : Int32), (111 : Int32), (115 : Int32), (116 : Int32), (61 : Int32)] 48 rs172 := F176
  have ne178 : x0 ≠ t171 := W174.elim (fun q => q ▸ ne145) (fun q => neL f159 q)
  have ne179 : x1 ≠ t171 := W174.elim (fun q => q ▸ ne146) (fun q => neL f160.lt q)
  have ne180 : t1 ≠ t171 := W174.elim (fun q => q ▸ ne147) (fun q => neL f160.lt2 q)
  have ne181 : x3 ≠ t171 := W174.elim (fun q => q ▸ ne148) (fun q => neL f158.lt q)
  have ne182 : t3 ≠ t171 := W174.elim (fun q => q ▸ ne149) (fun q => neL f158.lt2 q)
  have ne183 : a38 ≠ t171 := W174.elim (fun q => q ▸ ne150) (fun q => neL f161.lt q)
  have ne184 : a39 ≠ t171 := W174.elim (fun q => q ▸ ne151) (fun q => neL f162.lt q)
  have ne185 : a110 ≠ t171 := W174.elim (fun q => q ▸ ne152) (fun q => neL f163.lt q)
  have ne186 : a111 ≠ t171 := W174.elim (fun q => q ▸ ne153) (fun q => neL f164.lt q)
  have ab187 : h0.size ≤ t171 := W174.elim (fun q => q ▸ ab154) (fun q => (Nat.le_trans K5.1 (Nat.le_trans K27.1 (Nat.le_trans K42.1 (Nat.le_trans K66.1 (Nat.le_trans K95.1 (Nat.le_trans K114.1 (Nat.le_trans K140.1 q))))))))
  show Go Z _ _ _ κ _ (T165.setTop (mkF (km κ) 31 #[.val (.ref x0)] [(.ref a3)]))
  refine W.ldcS w169 rfl (ow_154 hw) (own_sA hw) (List.mem_of_getElem? (i := 7) rfl) (vs := [(.int (93 : Int32))]) (z := (1 : Int32)) ⟨by decide, by decide⟩ (by decide) (by decide) od_10_31 (pc' := 33) rfl (n := 4) (by decide) (by decide) (by decide) (by decide) fun T188 h189 a190 a191 k192 w193 K194 E195 F196 F197 V198 Q199 => ?_
  have ne200 : a3 ≠ a190 := (Q199 a3 (memA (memA (memA (memA (memA mem0)))))).1
  have ne201 : a3 ≠ a191 := (Q199 a3 (memA (memA (memA (memA (memA mem0)))))).2
  have ne202 : t171 ≠ a190 := (Q199 t171 (memB mem0)).1
  have ne203 : t171 ≠ a191 := (Q199 t171 (memB mem0)).2
  have F204 : Str8 Z h189 a190 a191 [(93 : Int32)] := ⟨E195, F196, F197, ⟨_, V198⟩, by decide, by decide⟩
  have f205 := (F177.keep K194 nin0 nin0)
  have f206 := (Nat.lt_of_lt_of_le (Nat.lt_of_lt_of_le f159 K173.1) K194.1)
  have f207 := ((f160.keep K173 (ninS ne10 (ninS ne146 nin0)) (ninS ne11 (ninS ne147 nin0))).keep K194 nin0 nin0)
  have f208 := ((f158.keep K173 (ninS ne12 (ninS ne148 nin0)) (ninS ne13 (ninS ne149 nin0))).keep K194 nin0 nin0)
  have f209 := ((f161.keep K173).keep K194)
  have f210 := ((f162.keep K173 (ninS (Ne.symm ne49) (ninS ne151 nin0))).keep K194 nin0)
  have f211 := ((f163.keep K173).keep K194)
  have f212 := ((f164.keep K173 (ninS (Ne.symm ne121) (ninS ne153 nin0))).keep K194 nin0)
  have f219 := (F177.1.keep K194)
  refine W.callV w193 (ow_83 hw) (ow_84 hw) (nfSel (ow_86 hw)) (ow_86 hw) (ow_85 hw) (by decide) opd_19 f219 (Ctr.pay (c_append hw f205 ne175 F204 ⟨ne200, ne202, ne201, ne203⟩ (Or.inr (Nat.le_of_ble_eq_true rfl)) w193.old) (own_ew hw) (ow_87 hw) (ow_66 hw) (kf := 6) (kl := 89) (by decide) (by decide)) (mC (memA (memA (memA (memA (memA mem0))))) (mC (memB mem0) mN)) od_10_33 (pc' := 36) rfl rfl rfl (rest := []) rfl (Wd := 0) rfl (by decide) (by decide) (by decide) (by decide) fun v215 T213 h214 M216 w217 q218 => ?_
  obtain ⟨rfl, t220, rs221, rfl, K222, W223, ne224, F225⟩ := q218
  have F226 : SB Z h214 a3 t220 [(76 : Int32), (111 : Int32), (103 : Int32), (105 : Int32), (110 : Int32), (91 : Int32), (117 : Int32), (115 : Int32), (101 : Int32), (114 : Int32), (110 : Int32), (97 : Int32), (109 : Int32), (101 : Int32), (61 : Int32), (44 : Int32), (32 : Int32), (112 : Int32), (97 : Int32), (115 : Int32), (115 : Int32), (119 : Int32), (111 : Int32), (114 : Int32), (100 : Int32), (61 : Int32), (40 : Int32), (104 : Int32), (105 : Int32), (100 : Int32), (100 : Int32), (101 : Int32), (110 : Int32), (41 : Int32), (44 : Int32), (32 : Int32), (118 : Int32), (105 : Int32), (114 : Int32), (116 : Int32), (117 : Int32), (97 : Int32), (108 : Int32), (72 : Int32), (111 : Int32), (115 : Int32), (116 : Int32), (61 : Int32), (93 : Int32)] 98 rs221 := F225
  have ne227 : x0 ≠ t220 := W223.elim (fun q => q ▸ ne178) (fun q => neL f206 q)
  have ne228 : x1 ≠ t220 := W223.elim (fun q => q ▸ ne179) (fun q => neL f207.lt q)
  have ne229 : t1 ≠ t220 := W223.elim (fun q => q ▸ ne180) (fun q => neL f207.lt2 q)
  have ne230 : x3 ≠ t220 := W223.elim (fun q => q ▸ ne181) (fun q => neL f208.lt q)
  have ne231 : t3 ≠ t220 := W223.elim (fun q => q ▸ ne182) (fun q => neL f208.lt2 q)
  have ne232 : a38 ≠ t220 := W223.elim (fun q => q ▸ ne183) (fun q => neL f209.lt q)
  have ne233 : a39 ≠ t220 := W223.elim (fun q => q ▸ ne184) (fun q => neL f210.lt q)
  have ne234 : a110 ≠ t220 := W223.elim (fun q => q ▸ ne185) (fun q => neL f211.lt q)
  have ne235 : a111 ≠ t220 := W223.elim (fun q => q ▸ ne186) (fun q => neL f212.lt q)
  have ne236 : a190 ≠ t220 := W223.elim (fun q => q ▸ (Ne.symm ne202)) (fun q => neL E195.lt q)
  have ne237 : a191 ≠ t220 := W223.elim (fun q => q ▸ (Ne.symm ne203)) (fun q => neL V198.lt q)
  have ab238 : h0.size ≤ t220 := W223.elim (fun q => q ▸ ab187) (fun q => (Nat.le_trans K5.1 (Nat.le_trans K27.1 (Nat.le_trans K42.1 (Nat.le_trans K66.1 (Nat.le_trans K95.1 (Nat.le_trans K114.1 (Nat.le_trans K140.1 (Nat.le_trans K173.1 (Nat.le_trans K194.1 q))))))))))
  show Go Z _ _ _ κ _ (T213.setTop (mkF (km κ) 36 #[.val (.ref x0)] [(.ref a3)]))
  have f239 := (Nat.lt_of_lt_of_le f206 K222.1)
  have f240 := (f207.keep K222 (ninS ne10 (ninS ne179 nin0)) (ninS ne11 (ninS ne180 nin0)))
  have f241 := (f208.keep K222 (ninS ne12 (ninS ne181 nin0)) (ninS ne13 (ninS ne182 nin0)))
  have f242 := (f209.keep K222)
  have f243 := (f210.keep K222 (ninS (Ne.symm ne49) (ninS ne184 nin0)))
  have f244 := (f211.keep K222)
  have f245 := (f212.keep K222 (ninS (Ne.symm ne121) (ninS ne186 nin0)))
  have f246 := (E195.keep K222)
  have f247 := (V198.keep K222 (ninS (Ne.symm ne201) (ninS (Ne.symm ne203) nin0)))
  refine W.callV w217 (ow_155 hw) (ow_156 hw) (nfSel (ow_158 hw)) (ow_158 hw) (ow_157 hw) (by decide) opd_20 F226.1 (Ctr.pay (c_toString hw F226 (Nat.le_of_ble_eq_true rfl) (Nat.le_of_ble_eq_true rfl) w217.old) (own_ew hw) (ow_159 hw) (ow_66 hw) (kf := 6) (kl := 91) (by decide) (by decide)) mN od_10_36 (pc' := 39) rfl rfl rfl (rest := []) rfl (Wd := 0) rfl (by decide) (by decide) (by decide) (by decide) fun v250 T248 h249 M251 w252 q253 => ?_
  obtain ⟨a254, rfl, rfl, K255, B256, t257, B258, F259⟩ := q253
  have ne261 : x0 ≠ a254 := neL f239 B256
  have ne262 : x1 ≠ a254 := neL f240.lt B256
  have ne263 : t1 ≠ a254 := neL f240.lt2 B256
  have ne264 : x3 ≠ a254 := neL f241.lt B256
  have ne265 : t3 ≠ a254 := neL f241.lt2 B256
  have ne266 : a3 ≠ a254 := neL F226.1.lt B256
  have ne267 : a38 ≠ a254 := neL f242.lt B256
  have ne268 : a39 ≠ a254 := neL f243.lt B256
  have ne269 : a110 ≠ a254 := neL f244.lt B256
  have ne270 : a111 ≠ a254 := neL f245.lt B256
  have ne271 : a190 ≠ a254 := neL f246.lt B256
  have ne272 : a191 ≠ a254 := neL f247.lt B256
  have ne273 : t220 ≠ a254 := neL F226.lt2 B256
  have ne274 : x0 ≠ t257 := neL f239 B258
  have ne275 : x1 ≠ t257 := neL f240.lt B258
  have ne276 : t1 ≠ t257 := neL f240.lt2 B258
  have ne277 : x3 ≠ t257 := neL f241.lt B258
  have ne278 : t3 ≠ t257 := neL f241.lt2 B258
  have ne279 : a3 ≠ t257 := neL F226.1.lt B258
  have ne280 : a38 ≠ t257 := neL f242.lt B258
  have ne281 : a39 ≠ t257 := neL f243.lt B258
  have ne282 : a110 ≠ t257 := neL f244.lt B258
  have ne283 : a111 ≠ t257 := neL f245.lt B258
  have ne284 : a190 ≠ t257 := neL f246.lt B258
  have ne285 : a191 ≠ t257 := neL f247.lt B258
  have ne286 : t220 ≠ t257 := neL F226.lt2 B258
  show Go Z _ _ _ κ _ (T248.setTop (mkF (km κ) 39 #[.val (.ref x0)] [(.ref a254)]))
  have C287 := Keep.refl h0 []
  have C288 := C287.trans K5 RoadKit.all0
  have C289 := C288.trans K27 (allS (Or.inr B6) RoadKit.all0)
  have C290 := C289.trans K42 RoadKit.all0
  have C291 := C290.trans K66 (allS (Or.inr B6) (allS (Or.inr (Nat.le_trans K5.1 B28)) RoadKit.all0))
  have C292 := C291.trans K95 (allS (Or.inr B6) (allS (Or.inr ab78) RoadKit.all0))
  have C293 := C292.trans K114 RoadKit.all0
  have C294 := C293.trans K140 (allS (Or.inr B6) (allS (Or.inr ab107) RoadKit.all0))
  have C295 := C294.trans K173 (allS (Or.inr B6) (allS (Or.inr ab154) RoadKit.all0))
  have C296 := C295.trans K194 RoadKit.all0
  have C297 := C296.trans K222 (allS (Or.inr B6) (allS (Or.inr ab187) RoadKit.all0))
  have C298 := C297.trans K255 RoadKit.all0
  exact W.retR w252 rfl rfl rfl od_10_39 (M' := []) mN (by decide) (by decide) ⟨a254, rfl, rfl, C298, (Nat.le_trans K5.1 (Nat.le_trans K27.1 (Nat.le_trans K42.1 (Nat.le_trans K66.1 (Nat.le_trans K95.1 (Nat.le_trans K114.1 (Nat.le_trans K140.1 (Nat.le_trans K173.1 (Nat.le_trans K194.1 (Nat.le_trans K222.1 B256)))))))))), t257, (Nat.le_trans K5.1 (Nat.le_trans K27.1 (Nat.le_trans K42.1 (Nat.le_trans K66.1 (Nat.le_trans K95.1 (Nat.le_trans K114.1 (Nat.le_trans K140.1 (Nat.le_trans K173.1 (Nat.le_trans K194.1 (Nat.le_trans K222.1 B258)))))))))), F259⟩
set_option maxRecDepth 65536 in
set_option maxHeartbeats 40000000 in
theorem c_law {l : Launch} {Z : State} {a0 : Array Value} (hw : HW Z a0) {h0 : Heap} {p0 p1 p2 p3 : Int32} (hO : Old Z Z.heap.size h0) : Ctr l Z EL0 nw0 x code maxLocals ret room_1 [.int p0, .int p1, .int p2, .int p3] h0 [] (fun v h M' => v = some (.int 1)) := by
  refine of_body (a0 := a0) opn_28 (own_ew hw) hO (Ls := #[.val (.int p0), .val (.int p1), .val (.int p2), .val (.int p3), .unset, .unset, .unset, .unset, .unset, .unset, .unset, .unset, .unset]) (fun m => by first | rfl | (simp [entryFrame, mkF, argsToLocals, Value.category, maxLocals]; done)) (fun κ T0 w0 hnm => ?_)
  refine W.iloadN w0 od_0_0 (pc' := 1) rfl rfl ?_
  refine W.sipush w0 od_0_1 (pc' := 4) rfl (z := (255 : Int32)) rfl ?_
  refine W.iand w0 od_0_4 (pc' := 5) rfl (z := (p0 &&& (255 : Int32))) rfl ?_
  obtain ⟨z0, ez0, hz0⟩ : ∃ z, ((p0 &&& (255 : Int32))).toUInt32.toUInt16.toUInt32.toInt32 = z ∧ (¬ z < 0 ∧ ¬ (255 : Int32) < z) := ⟨_, i2c_mask _, and255 _⟩
  refine W.i2c w0 od_0_5 (pc' := 6) rfl (z := z0) ez0 ?_
  refine W.istore w0 od_0_6 (pc' := 8) rfl (Ls' := #[.val (.int p0), .val (.int p1), .val (.int p2), .val (.int p3), .val (.int z0), .unset, .unset, .unset, .unset, .unset, .unset, .unset, .unset]) rfl ?_
  refine W.iloadN w0 od_0_8 (pc' := 9) rfl rfl ?_
  refine W.bipush w0 od_0_9 (pc' := 11) rfl (z := (8 : Int32)) rfl ?_
  refine W.iushr w0 od_0_11 (pc' := 12) rfl (z := (XT.ushr p0 (8 : Int32))) rfl ?_
  refine W.sipush w0 od_0_12 (pc' := 15) rfl (z := (255 : Int32)) rfl ?_
  refine W.iand w0 od_0_15 (pc' := 16) rfl (z := ((XT.ushr p0 (8 : Int32)) &&& (255 : Int32))) rfl ?_
  obtain ⟨z1, ez1, hz1⟩ : ∃ z, (((XT.ushr p0 (8 : Int32)) &&& (255 : Int32))).toUInt32.toUInt16.toUInt32.toInt32 = z ∧ (¬ z < 0 ∧ ¬ (255 : Int32) < z) := ⟨_, i2c_mask _, and255 _⟩
  refine W.i2c w0 od_0_16 (pc' := 17) rfl (z := z1) ez1 ?_
  refine W.istore w0 od_0_17 (pc' := 19) rfl (Ls' := #[.val (.int p0), .val (.int p1), .val (.int p2), .val (.int p3), .val (.int z0), .val (.int z1), .unset, .unset, .unset, .unset, .unset, .unset, .unset]) rfl ?_
  refine W.iloadN w0 od_0_19 (pc' := 20) rfl rfl ?_
  refine W.sipush w0 od_0_20 (pc' := 23) rfl (z := (255 : Int32)) rfl ?_
  refine W.iand w0 od_0_23 (pc' := 24) rfl (z := (p1 &&& (255 : Int32))) rfl ?_
  obtain ⟨z2, ez2, hz2⟩ : ∃ z, ((p1 &&& (255 : Int32))).toUInt32.toUInt16.toUInt32.toInt32 = z ∧ (¬ z < 0 ∧ ¬ (255 : Int32) < z) := ⟨_, i2c_mask _, and255 _⟩
  refine W.i2c w0 od_0_24 (pc' := 25) rfl (z := z2) ez2 ?_
  refine W.istore w0 od_0_25 (pc' := 27) rfl (Ls' := #[.val (.int p0), .val (.int p1), .val (.int p2), .val (.int p3), .val (.int z0), .val (.int z1), .val (.int z2), .unset, .unset, .unset, .unset, .unset, .unset]) rfl ?_
  refine W.iloadN w0 od_0_27 (pc' := 28) rfl rfl ?_
  refine W.bipush w0 od_0_28 (pc' := 30) rfl (z := (8 : Int32)) rfl ?_
  refine W.iushr w0 od_0_30 (pc' := 31) rfl (z := (XT.ushr p1 (8 : Int32))) rfl ?_
  refine W.sipush w0 od_0_31 (pc' := 34) rfl (z := (255 : Int32)) rfl ?_
  refine W.iand w0 od_0_34 (pc' := 35) rfl (z := ((XT.ushr p1 (8 : Int32)) &&& (255 : Int32))) rfl ?_
  obtain ⟨z3, ez3, hz3⟩ : ∃ z, (((XT.ushr p1 (8 : Int32)) &&& (255 : Int32))).toUInt32.toUInt16.toUInt32.toInt32 = z ∧ (¬ z < 0 ∧ ¬ (255 : Int32) < z) := ⟨_, i2c_mask _, and255 _⟩
  refine W.i2c w0 od_0_35 (pc' := 36) rfl (z := z3) ez3 ?_
  refine W.istore w0 od_0_36 (pc' := 38) rfl (Ls' := #[.val (.int p0), .val (.int p1), .val (.int p2), .val (.int p3), .val (.int z0), .val (.int z1), .val (.int z2), .val (.int z3), .unset, .unset, .unset, .unset, .unset]) rfl ?_
  refine W.iloadN w0 od_0_38 (pc' := 39) rfl rfl ?_
  refine W.sipush w0 od_0_39 (pc' := 42) rfl (z := (255 : Int32)) rfl ?_
  refine W.iand w0 od_0_42 (pc' := 43) rfl (z := (p2 &&& (255 : Int32))) rfl ?_
  obtain ⟨z4, ez4, hz4⟩ : ∃ z, ((p2 &&& (255 : Int32))).toUInt32.toUInt16.toUInt32.toInt32 = z ∧ (¬ z < 0 ∧ ¬ (255 : Int32) < z) := ⟨_, i2c_mask _, and255 _⟩
  refine W.i2c w0 od_0_43 (pc' := 44) rfl (z := z4) ez4 ?_
  refine W.istore w0 od_0_44 (pc' := 46) rfl (Ls' := #[.val (.int p0), .val (.int p1), .val (.int p2), .val (.int p3), .val (.int z0), .val (.int z1), .val (.int z2), .val (.int z3), .val (.int z4), .unset, .unset, .unset, .unset]) rfl ?_
  refine W.iloadN w0 od_0_46 (pc' := 47) rfl rfl ?_
  refine W.bipush w0 od_0_47 (pc' := 49) rfl (z := (8 : Int32)) rfl ?_
  refine W.iushr w0 od_0_49 (pc' := 50) rfl (z := (XT.ushr p2 (8 : Int32))) rfl ?_
  refine W.sipush w0 od_0_50 (pc' := 53) rfl (z := (255 : Int32)) rfl ?_
  refine W.iand w0 od_0_53 (pc' := 54) rfl (z := ((XT.ushr p2 (8 : Int32)) &&& (255 : Int32))) rfl ?_
  obtain ⟨z5, ez5, hz5⟩ : ∃ z, (((XT.ushr p2 (8 : Int32)) &&& (255 : Int32))).toUInt32.toUInt16.toUInt32.toInt32 = z ∧ (¬ z < 0 ∧ ¬ (255 : Int32) < z) := ⟨_, i2c_mask _, and255 _⟩
  refine W.i2c w0 od_0_54 (pc' := 55) rfl (z := z5) ez5 ?_
  refine W.istore w0 od_0_55 (pc' := 57) rfl (Ls' := #[.val (.int p0), .val (.int p1), .val (.int p2), .val (.int p3), .val (.int z0), .val (.int z1), .val (.int z2), .val (.int z3), .val (.int z4), .val (.int z5), .unset, .unset, .unset]) rfl ?_
  refine W.newO w0 (ow_0 hw) (ow_1 hw) (ow_2 hw) od_0_57 (pc' := 60) rfl (by decide) (by decide) fun T1 h2 a3 w4 K5 B6 E7 D8 => ?_
  have F9 : Fld Z h2 a3 "java/lang/String" "coder" "B" (.int (0 : Int32)) := D8 (Or.inr (ow_27 hw)) (ty := .byte) (by decide)
  have F10 : Fld Z h2 a3 "java/lang/String" "value" "[B" .null := D8 (Or.inr (ow_29 hw)) (ty := (.array .byte)) (by decide)
  refine Jvm.Own.W.dup w4 od_0_60 rfl rfl ?_
  refine W.iconst w4 od_0_61 (pc' := 62) rfl (z := (2 : Int32)) rfl ?_
  refine W.newP w4 (ty := .char) rfl (ow_3 hw) od_0_62 (pc' := 64) rfl (by decide) (cap := 2) (by decide) (by decide) (by decide) (by decide) fun T11 h12 a13 k14 w15 K16 B17 V18 => ?_
  have ne19 : a3 ≠ a13 := neL E7.lt B17
  have V20 : Arv Z h12 a13 k14 .char (2 : Int32) [(.int (0 : Int32)), (.int (0 : Int32))] (.int (0 : Int32)) := V18
  refine Jvm.Own.W.dup w15 od_0_64 rfl rfl ?_
  refine W.iconst w15 od_0_65 (pc' := 66) rfl (z := (0 : Int32)) rfl ?_
  refine W.iload w15 od_0_66 (pc' := 68) rfl rfl ?_
  refine W.stC w15 (x' := z2) (nar_lat hz2) V20 (i := 0) (by decide) ⟨by decide, by decide⟩ (Nat.le_of_ble_eq_true rfl) mem0 od_0_68 (pc' := 69) rfl fun T21 h22 w23 K24 V25 => ?_
  have V26 : Arv Z h22 a13 k14 .char (2 : Int32) [(.int z2), (.int (0 : Int32))] (.int (0 : Int32)) := V25
  refine Jvm.Own.W.dup w23 od_0_69 rfl rfl ?_
  refine W.iconst w23 od_0_70 (pc' := 71) rfl (z := (1 : Int32)) rfl ?_
  refine W.iload w23 od_0_71 (pc' := 73) rfl rfl ?_
  refine W.stC w23 (x' := z3) (nar_lat hz3) V26 (i := 1) (by decide) ⟨by decide, by decide⟩ (Nat.le_of_ble_eq_true rfl) mem0 od_0_73 (pc' := 74) rfl fun T27 h28 w29 K30 V31 => ?_
  have V32 : Arv Z h28 a13 k14 .char (2 : Int32) [(.int z2), (.int z3)] (.int (0 : Int32)) := V31
  have f33 := (((E7.keep K16).keep K24).keep K30)
  have f34 := (((F10.keep K16 nin0).keep K24 (ninS ne19 nin0)).keep K30 (ninS ne19 nin0))
  have f35 := (((F9.keep K16 nin0).keep K24 (ninS ne19 nin0)).keep K30 (ninS ne19 nin0))
  refine W.callI w29 (ow_4 hw) (ow_5 hw) (ow_6 hw) rfl (by decide) opd_21 (own_init hw w29.old (w29.mut (memS mem0)).1 f33 f34 f35 (cs := [z2, z3]) V32 (n := 2) rfl rfl (by decide) (by decide) (faS hz2 (faS hz3 fa0))) (mC (memS mem0) mN) od_0_74 (pc' := 77) rfl rfl rfl (rest := [(.ref a3)]) rfl (Wd := 1) rfl (by decide) (by decide) (by decide) (by decide) fun v38 T36 h37 M39 w40 q41 => ?_
  obtain ⟨rfl, rfl, K42, t43, B44, F45⟩ := q41
  have ne46 : a3 ≠ t43 := neL f33.lt B44
  have ne47 : a13 ≠ t43 := neL V32.lt B44
  show Go Z _ _ _ κ _ (T36.setTop (mkF (km κ) 77 #[.val (.int p0), .val (.int p1), .val (.int p2), .val (.int p3), .val (.int z0), .val (.int z1), .val (.int z2), .val (.int z3), .val (.int z4), .val (.int z5), .unset, .unset, .unset] [(.ref a3)]))
  refine W.astore w40 od_0_77 (pc' := 79) rfl (Ls' := #[.val (.int p0), .val (.int p1), .val (.int p2), .val (.int p3), .val (.int z0), .val (.int z1), .val (.int z2), .val (.int z3), .val (.int z4), .val (.int z5), .val (.ref a3), .unset, .unset]) rfl rfl ?_
  refine W.iloadN w40 od_0_79 (pc' := 80) rfl rfl ?_
  refine W.iconst w40 od_0_80 (pc' := 81) rfl (z := (1 : Int32)) rfl ?_
  refine W.iand w40 od_0_81 (pc' := 82) rfl (z := (p3 &&& (1 : Int32))) rfl ?_
  rcases Decidable.em ((p3 &&& (1 : Int32)) = (0 : Int32)) with hc48 | hc48
  · refine W.ifYes w40 od_0_82 (pc' := 111) (by decide) (by decide) ((if0 _ _).trans (teq hc48).1) ?_
    have f57 := (f33.keep K42)
    have f58 := (V32.keep K42 (ninS (Ne.symm ne19) nin0))
    refine W.newO w40 (ow_30 hw) (ow_31 hw) (ow_32 hw) od_0_111 (pc' := 114) rfl (by decide) (by decide) fun T49 h50 a51 w52 K53 B54 E55 D56 => ?_
    have ne59 : a3 ≠ a51 := neL f57.lt B54
    have ne60 : a13 ≠ a51 := neL f58.lt B54
    have ne61 : t43 ≠ a51 := neL F45.lt2 B54
    have F62 : Fld Z h50 a51 "com/example/pilotage/pilotage/core/ReadinessCheck$Login" "username" "Ljava/lang/String;" .null := D56 (Or.inr (ow_53 hw)) (ty := (.object "java/lang/String")) (by decide)
    have F63 : Fld Z h50 a51 "com/example/pilotage/pilotage/core/ReadinessCheck$Login" "password" "Ljava/lang/String;" .null := D56 (Or.inr (ow_55 hw)) (ty := (.object "java/lang/String")) (by decide)
    have F64 : Fld Z h50 a51 "com/example/pilotage/pilotage/core/ReadinessCheck$Login" "virtualHost" "Ljava/lang/String;" .null := D56 (Or.inr (ow_57 hw)) (ty := (.object "java/lang/String")) (by decide)
    refine Jvm.Own.W.dup w52 od_0_114 rfl rfl ?_
    have f73 := (f57.keep K53)
    have f74 := (f58.keep K53 nin0)
    have f75 := (F45.keep K53 nin0 nin0)
    refine W.newO w52 (ow_0 hw) (ow_1 hw) (ow_2 hw) od_0_115 (pc' := 118) rfl (by decide) (by decide) fun T65 h66 a67 w68 K69 B70 E71 D72 => ?_
    have ne76 : a3 ≠ a67 := neL f73.lt B70
    have ne77 : a13 ≠ a67 := neL f74.lt B70
    have ne78 : t43 ≠ a67 := neL f75.lt2 B70
    have ne79 : a51 ≠ a67 := neL E55.lt B70
    have F80 : Fld Z h66 a67 "java/lang/String" "coder" "B" (.int (0 : Int32)) := D72 (Or.inr (ow_27 hw)) (ty := .byte) (by decide)
    have F81 : Fld Z h66 a67 "java/lang/String" "value" "[B" .null := D72 (Or.inr (ow_29 hw)) (ty := (.array .byte)) (by decide)
    refine Jvm.Own.W.dup w68 od_0_118 rfl rfl ?_
    refine W.iconst w68 od_0_119 (pc' := 120) rfl (z := (2 : Int32)) rfl ?_
    have f90 := (f73.keep K69)
    have f91 := (f74.keep K69 nin0)
    have f92 := (f75.keep K69 nin0 nin0)
    have f93 := (E55.keep K69)
    refine W.newP w68 (ty := .char) rfl (ow_3 hw) od_0_120 (pc' := 122) rfl (by decide) (cap := 2) (by decide) (by decide) (by decide) (by decide) fun T82 h83 a84 k85 w86 K87 B88 V89 => ?_
    have ne94 : a3 ≠ a84 := neL f90.lt B88
    have ne95 : a13 ≠ a84 := neL f91.lt B88
    have ne96 : t43 ≠ a84 := neL f92.lt2 B88
    have ne97 : a51 ≠ a84 := neL f93.lt B88
    have ne98 : a67 ≠ a84 := neL E71.lt B88
    have V99 : Arv Z h83 a84 k85 .char (2 : Int32) [(.int (0 : Int32)), (.int (0 : Int32))] (.int (0 : Int32)) := V89
    refine Jvm.Own.W.dup w86 od_0_122 rfl rfl ?_
    refine W.iconst w86 od_0_123 (pc' := 124) rfl (z := (0 : Int32)) rfl ?_
    refine W.iload w86 od_0_124 (pc' := 126) rfl rfl ?_
    refine W.stC w86 (x' := z0) (nar_lat hz0) V99 (i := 0) (by decide) ⟨by decide, by decide⟩ (Nat.le_of_ble_eq_true rfl) mem0 od_0_126 (pc' := 127) rfl fun T100 h101 w102 K103 V104 => ?_
    have V105 : Arv Z h101 a84 k85 .char (2 : Int32) [(.int z0), (.int (0 : Int32))] (.int (0 : Int32)) := V104
    refine Jvm.Own.W.dup w102 od_0_127 rfl rfl ?_
    refine W.iconst w102 od_0_128 (pc' := 129) rfl (z := (1 : Int32)) rfl ?_
    refine W.iload w102 od_0_129 (pc' := 131) rfl rfl ?_
    refine W.stC w102 (x' := z1) (nar_lat hz1) V105 (i := 1) (by decide) ⟨by decide, by decide⟩ (Nat.le_of_ble_eq_true rfl) mem0 od_0_131 (pc' := 132) rfl fun T106 h107 w108 K109 V110 => ?_
    have V111 : Arv Z h107 a84 k85 .char (2 : Int32) [(.int z0), (.int z1)] (.int (0 : Int32)) := V110
    have f112 := (((E71.keep K87).keep K103).keep K109)
    have f113 := (((F81.keep K87 nin0).keep K103 (ninS ne98 nin0)).keep K109 (ninS ne98 nin0))
    have f114 := (((F80.keep K87 nin0).keep K103 (ninS ne98 nin0)).keep K109 (ninS ne98 nin0))
    have f115 := (((f90.keep K87).keep K103).keep K109)
    have f116 := (((f91.keep K87 nin0).keep K103 (ninS ne95 nin0)).keep K109 (ninS ne95 nin0))
    have f117 := (((f92.keep K87 nin0 nin0).keep K103 (ninS ne94 nin0) (ninS ne96 nin0)).keep K109 (ninS ne94 nin0) (ninS ne96 nin0))
    have f118 := (((f93.keep K87).keep K103).keep K109)
    refine W.callI w108 (ow_4 hw) (ow_5 hw) (ow_6 hw) rfl (by decide) opd_21 (own_init hw w108.old (w108.mut (memS mem0)).1 f112 f113 f114 (cs := [z0, z1]) V111 (n := 2) rfl rfl (by decide) (by decide) (faS hz0 (faS hz1 fa0))) (mC (memS mem0) mN) od_0_132 (pc' := 135) rfl rfl rfl (rest := [(.ref a67), (.ref a51), (.ref a51)]) rfl (Wd := 3) rfl (by decide) (by decide) (by decide) (by decide) fun v121 T119 h120 M122 w123 q124 => ?_
    obtain ⟨rfl, rfl, K125, t126, B127, F128⟩ := q124
    have ne129 : a3 ≠ t126 := neL f115.lt B127
    have ne130 : a13 ≠ t126 := neL f116.lt B127
    have ne131 : t43 ≠ t126 := neL f117.lt2 B127
    have ne132 : a51 ≠ t126 := neL f118.lt B127
    have ne133 : a67 ≠ t126 := neL f112.lt B127
    have ne134 : a84 ≠ t126 := neL V111.lt B127
    show Go Z _ _ _ κ _ (T119.setTop (mkF (km κ) 135 #[.val (.int p0), .val (.int p1), .val (.int p2), .val (.int p3), .val (.int z0), .val (.int z1), .val (.int z2), .val (.int z3), .val (.int z4), .val (.int z5), .val (.ref a3), .unset, .unset] [(.ref a67), (.ref a51), (.ref a51)]))
    refine W.aload w123 od_0_135 (pc' := 137) rfl rfl rfl ?_
    have f143 := (f115.keep K125)
    have f144 := (f116.keep K125 (ninS ne77 nin0))
    have f145 := (f117.keep K125 (ninS ne76 nin0) (ninS ne78 nin0))
    have f146 := (f118.keep K125)
    have f147 := (f112.keep K125)
    have f148 := (V111.keep K125 (ninS (Ne.symm ne98) nin0))
    refine W.newO w123 (ow_0 hw) (ow_1 hw) (ow_2 hw) od_0_137 (pc' := 140) rfl (by decide) (by decide) fun T135 h136 a137 w138 K139 B140 E141 D142 => ?_
    have ne149 : a3 ≠ a137 := neL f143.lt B140
    have ne150 : a13 ≠ a137 := neL f144.lt B140
    have ne151 : t43 ≠ a137 := neL f145.lt2 B140
    have ne152 : a51 ≠ a137 := neL f146.lt B140
    have ne153 : a67 ≠ a137 := neL f147.lt B140
    have ne154 : a84 ≠ a137 := neL f148.lt B140
    have ne155 : t126 ≠ a137 := neL F128.lt2 B140
    have F156 : Fld Z h136 a137 "java/lang/String" "coder" "B" (.int (0 : Int32)) := D142 (Or.inr (ow_27 hw)) (ty := .byte) (by decide)
    have F157 : Fld Z h136 a137 "java/lang/String" "value" "[B" .null := D142 (Or.inr (ow_29 hw)) (ty := (.array .byte)) (by decide)
    refine Jvm.Own.W.dup w138 od_0_140 rfl rfl ?_
    refine W.iconst w138 od_0_141 (pc' := 142) rfl (z := (2 : Int32)) rfl ?_
    have f166 := (f143.keep K139)
    have f167 := (f144.keep K139 nin0)
    have f168 := (f145.keep K139 nin0 nin0)
    have f169 := (f146.keep K139)
    have f170 := (f147.keep K139)
    have f171 := (f148.keep K139 nin0)
    have f172 := (F128.keep K139 nin0 nin0)
    refine W.newP w138 (ty := .char) rfl (ow_3 hw) od_0_142 (pc' := 144) rfl (by decide) (cap := 2) (by decide) (by decide) (by decide) (by decide) fun T158 h159 a160 k161 w162 K163 B164 V165 => ?_
    have ne173 : a3 ≠ a160 := neL f166.lt B164
    have ne174 : a13 ≠ a160 := neL f167.lt B164
    have ne175 : t43 ≠ a160 := neL f168.lt2 B164
    have ne176 : a51 ≠ a160 := neL f169.lt B164
    have ne177 : a67 ≠ a160 := neL f170.lt B164
    have ne178 : a84 ≠ a160 := neL f171.lt B164
    have ne179 : t126 ≠ a160 := neL f172.lt2 B164
    have ne180 : a137 ≠ a160 := neL E141.lt B164
    have V181 : Arv Z h159 a160 k161 .char (2 : Int32) [(.int (0 : Int32)), (.int (0 : Int32))] (.int (0 : Int32)) := V165
    refine Jvm.Own.W.dup w162 od_0_144 rfl rfl ?_
    refine W.iconst w162 od_0_145 (pc' := 146) rfl (z := (0 : Int32)) rfl ?_
    refine W.iload w162 od_0_146 (pc' := 148) rfl rfl ?_
    refine W.stC w162 (x' := z4) (nar_lat hz4) V181 (i := 0) (by decide) ⟨by decide, by decide⟩ (Nat.le_of_ble_eq_true rfl) mem0 od_0_148 (pc' := 149) rfl fun T182 h183 w184 K185 V186 => ?_
    have V187 : Arv Z h183 a160 k161 .char (2 : Int32) [(.int z4), (.int (0 : Int32))] (.int (0 : Int32)) := V186
    refine Jvm.Own.W.dup w184 od_0_149 rfl rfl ?_
    refine W.iconst w184 od_0_150 (pc' := 151) rfl (z := (1 : Int32)) rfl ?_
    refine W.iload w184 od_0_151 (pc' := 153) rfl rfl ?_
    refine W.stC w184 (x' := z5) (nar_lat hz5) V187 (i := 1) (by decide) ⟨by decide, by decide⟩ (Nat.le_of_ble_eq_true rfl) mem0 od_0_153 (pc' := 154) rfl fun T188 h189 w190 K191 V192 => ?_
    have V193 : Arv Z h189 a160 k161 .char (2 : Int32) [(.int z4), (.int z5)] (.int (0 : Int32)) := V192
    have f194 := (((E141.keep K163).keep K185).keep K191)
    have f195 := (((F157.keep K163 nin0).keep K185 (ninS ne180 nin0)).keep K191 (ninS ne180 nin0))
    have f196 := (((F156.keep K163 nin0).keep K185 (ninS ne180 nin0)).keep K191 (ninS ne180 nin0))
    have f197 := (((f166.keep K163).keep K185).keep K191)
    have f198 := (((f167.keep K163 nin0).keep K185 (ninS ne174 nin0)).keep K191 (ninS ne174 nin0))
    have f199 := (((f168.keep K163 nin0 nin0).keep K185 (ninS ne173 nin0) (ninS ne175 nin0)).keep K191 (ninS ne173 nin0) (ninS ne175 nin0))
    have f200 := (((f169.keep K163).keep K185).keep K191)
    have f201 := (((f170.keep K163).keep K185).keep K191)
    have f202 := (((f171.keep K163 nin0).keep K185 (ninS ne178 nin0)).keep K191 (ninS ne178 nin0))
    have f203 := (((f172.keep K163 nin0 nin0).keep K185 (ninS ne177 nin0) (ninS ne179 nin0)).keep K191 (ninS ne177 nin0) (ninS ne179 nin0))
    refine W.callI w190 (ow_4 hw) (ow_5 hw) (ow_6 hw) rfl (by decide) opd_21 (own_init hw w190.old (w190.mut (memS mem0)).1 f194 f195 f196 (cs := [z4, z5]) V193 (n := 2) rfl rfl (by decide) (by decide) (faS hz4 (faS hz5 fa0))) (mC (memS mem0) mN) od_0_154 (pc' := 157) rfl rfl rfl (rest := [(.ref a137), (.ref a3), (.ref a67), (.ref a51), (.ref a51)]) rfl (Wd := 5) rfl (by decide) (by decide) (by decide) (by decide) fun v206 T204 h205 M207 w208 q209 => ?_
    obtain ⟨rfl, rfl, K210, t211, B212, F213⟩ := q209
    have ne214 : a3 ≠ t211 := neL f197.lt B212
    have ne215 : a13 ≠ t211 := neL f198.lt B212
    have ne216 : t43 ≠ t211 := neL f199.lt2 B212
    have ne217 : a51 ≠ t211 := neL f200.lt B212
    have ne218 : a67 ≠ t211 := neL f201.lt B212
    have ne219 : a84 ≠ t211 := neL f202.lt B212
    have ne220 : t126 ≠ t211 := neL f203.lt2 B212
    have ne221 : a137 ≠ t211 := neL f194.lt B212
    have ne222 : a160 ≠ t211 := neL V193.lt B212
    show Go Z _ _ _ κ _ (T204.setTop (mkF (km κ) 157 #[.val (.int p0), .val (.int p1), .val (.int p2), .val (.int p3), .val (.int z0), .val (.int z1), .val (.int z2), .val (.int z3), .val (.int z4), .val (.int z5), .val (.ref a3), .unset, .unset] [(.ref a137), (.ref a3), (.ref a67), (.ref a51), (.ref a51)]))
    have f223 := (f200.keep K210)
    have f224 := ((((((((((F62.keep K69 nin0).keep K87 nin0).keep K103 (ninS ne97 nin0)).keep K109 (ninS ne97 nin0)).keep K125 (ninS ne79 nin0)).keep K139 nin0).keep K163 nin0).keep K185 (ninS ne176 nin0)).keep K191 (ninS ne176 nin0)).keep K210 (ninS ne152 nin0))
    have f225 := ((((((((((F63.keep K69 nin0).keep K87 nin0).keep K103 (ninS ne97 nin0)).keep K109 (ninS ne97 nin0)).keep K125 (ninS ne79 nin0)).keep K139 nin0).keep K163 nin0).keep K185 (ninS ne176 nin0)).keep K191 (ninS ne176 nin0)).keep K210 (ninS ne152 nin0))
    have f226 := ((((((((((F64.keep K69 nin0).keep K87 nin0).keep K103 (ninS ne97 nin0)).keep K109 (ninS ne97 nin0)).keep K125 (ninS ne79 nin0)).keep K139 nin0).keep K163 nin0).keep K185 (ninS ne176 nin0)).keep K191 (ninS ne176 nin0)).keep K210 (ninS ne152 nin0))
    refine W.callI w208 (ow_36 hw) (ow_37 hw) (ow_38 hw) rfl (by decide) opd_22 (Ctr.pay (c_linit hw f223 f224 f225 f226 w208.old) (own_ew hw) (ow_38 hw) (ow_32 hw) (kf := 3) (kl := 39) (by decide) (by decide)) (mC (memA (memS (memS (memA (memS (memS mem0)))))) mN) od_0_157 (pc' := 160) rfl rfl rfl (rest := [(.ref a51)]) rfl (Wd := 1) rfl (by decide) (by decide) (by decide) (by decide) fun v229 T227 h228 M230 w231 q232 => ?_
    obtain ⟨rfl, rfl, K233, E234, F235, F236⟩ := q232
    show Go Z _ _ _ κ _ (T227.setTop (mkF (km κ) 160 #[.val (.int p0), .val (.int p1), .val (.int p2), .val (.int p3), .val (.int z0), .val (.int z1), .val (.int z2), .val (.int z3), .val (.int z4), .val (.int z5), .val (.ref a3), .unset, .unset] [(.ref a51)]))
    refine W.astore w231 od_0_160 (pc' := 162) rfl (Ls' := #[.val (.int p0), .val (.int p1), .val (.int p2), .val (.int p3), .val (.int z0), .val (.int z1), .val (.int z2), .val (.int z3), .val (.int z4), .val (.int z5), .val (.ref a3), .val (.ref a51), .unset]) rfl rfl ?_
    refine W.bipush w231 od_0_162 (pc' := 164) rfl (z := (53 : Int32)) rfl ?_
    have f245 := ((f197.keep K210).keep K233)
    have f246 := ((f198.keep K210 (ninS ne150 nin0)).keep K233 (ninS ne60 nin0))
    have f247 := ((f199.keep K210 (ninS ne149 nin0) (ninS ne151 nin0)).keep K233 (ninS ne59 nin0) (ninS ne61 nin0))
    have f248 := ((f201.keep K210).keep K233)
    have f249 := ((f202.keep K210 (ninS ne154 nin0)).keep K233 (ninS (Ne.symm ne97) nin0))
    have f250 := ((f203.keep K210 (ninS ne153 nin0) (ninS ne155 nin0)).keep K233 (ninS (Ne.symm ne79) nin0) (ninS (Ne.symm ne132) nin0))
    have f251 := ((f194.keep K210).keep K233)
    have f252 := ((V193.keep K210 (ninS (Ne.symm ne180) nin0)).keep K233 (ninS (Ne.symm ne176) nin0))
    have f253 := (F213.keep K233 (ninS (Ne.symm ne152) nin0) (ninS (Ne.symm ne217) nin0))
    refine W.newP w231 (ty := .char) rfl (ow_3 hw) od_0_164 (pc' := 166) rfl (by decide) (cap := 53) (by decide) (by decide) (by decide) (by decide) fun T237 h238 a239 k240 w241 K242 B243 V244 => ?_
    have ne254 : a3 ≠ a239 := neL f245.lt B243
    have ne255 : a13 ≠ a239 := neL f246.lt B243
    have ne256 : t43 ≠ a239 := neL f247.lt2 B243
    have ne257 : a51 ≠ a239 := neL E234.lt B243
    have ne258 : a67 ≠ a239 := neL f248.lt B243
    have ne259 : a84 ≠ a239 := neL f249.lt B243
    have ne260 : t126 ≠ a239 := neL f250.lt2 B243
    have ne261 : a137 ≠ a239 := neL f251.lt B243
    have ne262 : a160 ≠ a239 := neL f252.lt B243
    have ne263 : t211 ≠ a239 := neL f253.lt2 B243
    have V264 : Arv Z h238 a239 k240 .char (53 : Int32) [(.int (0 : Int32)), (.int (0 : Int32)), (.int (0 : Int32)), (.int (0 : Int32)), (.int (0 : Int32)), (.int (0 : Int32)), (.int (0 : Int32)), (.int (0 : Int32)), (.int (0 : Int32)), (.int (0 : Int32)), (.int (0 : Int32)), (.int (0 : Int32)), (.int (0 : Int32)), (.int (0 : Int32)), (.int (0 : Int32)), (.int (0 : Int32)), (.int (0 : Int32)), (.int (0 : Int32)), (.int (0 : Int32)), (.int (0 : Int32)), (.int (0 : Int32)), (.int (0 : Int32)), (.int (0 : Int32)), (.int (0 : Int32)), (.int (0 : Int32)), (.int (0 : Int32)), (.int (0 : Int32)), (.int (0 : Int32)), (.int (0 : Int32)), (.int (0 : Int32)), (.int (0 : Int32)), (.int (0 : Int32)), (.int (0 : Int32)), (.int (0 : Int32)), (.int (0 : Int32)), (.int (0 : Int32)), (.int (0 : Int32)), (.int (0 : Int32)), (.int (0 : Int32)), (.int (0 : Int32)), (.int (0 : Int32)), (.int (0 : Int32)), (.int (0 : Int32)), (.int (0 : Int32)), (.int (0 : Int32)), (.int (0 : Int32)), (.int (0 : Int32)), (.int (0 : Int32)), (.int (0 : Int32)), (.int (0 : Int32)), (.int (0 : Int32)), (.int (0 : Int32)), (.int (0 : Int32))] (.int (0 : Int32)) := V244
    refine Jvm.Own.W.dup w241 od_0_166 rfl rfl ?_
    refine W.iconst w241 od_0_167 (pc' := 168) rfl (z := (0 : Int32)) rfl ?_
    refine W.bipush w241 od_0_168 (pc' := 170) rfl (z := (76 : Int32)) rfl ?_
    refine W.stC w241 (x' := (76 : Int32)) rfl V264 (i := 0) (by decide) ⟨by decide, by decide⟩ (Nat.le_of_ble_eq_true rfl) mem0 od_0_170 (pc' := 171) rfl fun T265 h266 w267 K268 V269 => ?_
    have V270 : Arv Z h266 a239 k240 .char (53 : Int32) [(.int (76 : Int32)), (.int (0 : Int32)), (.int (0 : Int32)), (.int (0 : Int32)), (.int (0 : Int32)), (.int (0 : Int32)), (.int (0 : Int32)), (.int (0 : Int32)), (.int (0 : Int32)), (.int (0 : Int32)), (.int (0 : Int32)), (.int (0 : Int32)), (.int (0 : Int32)), (.int (0 : Int32)), (.int (0 : Int32)), (.int (0 : Int32)), (.int (0 : Int32)), (.int (0 : Int32)), (.int (0 : Int32)), (.int (0 : Int32)), (.int (0 : Int32)), (.int (0 : Int32)), (.int (0 : Int32)), (.int (0 : Int32)), (.int (0 : Int32)), (.int (0 : Int32)), (.int (0 : Int32)), (.int (0 : Int32)), (.int (0 : Int32)), (.int (0 : Int32)), (.int (0 : Int32)), (.int (0 : Int32)), (.int (0 : Int32)), (.int (0 : Int32)), (.int (0 : Int32)), (.int (0 : Int32)), (.int (0 : Int32)), (.int (0 : Int32)), (.int (0 : Int32)), (.int (0 : Int32)), (.int (0 : Int32)), (.int (0 : Int32)), (.int (0 : Int32)), (.int (0 : Int32)), (.int (0 : Int32)), (.int (0 : Int32)), (.int (0 : Int32)), (.int (0 : Int32)), (.int (0 : Int32)), (.int (0 : Int32)), (.int (0 : Int32)), (.int (0 : Int32)), (.int (0 : Int32))] (.int (0 : Int32)) := V269
    refine Jvm.Own.W.dup w267 od_0_171 rfl rfl ?_
    refine W.iconst w267 od_0_172 (pc' := 173) rfl (z := (1 : Int32)) rfl ?_
    refine W.bipush w267 od_0_173 (pc' := 175) rfl (z := (111 : Int32)) rfl ?_
    refine W.stC w267 (x' := (111 : Int32)) rfl V270 (i := 1) (by decide) ⟨by decide, by decide⟩ (Nat.le_of_ble_eq_true rfl) mem0 od_0_175 (pc' := 176) rfl fun T271 h272 w273 K274 V275 => ?_
    have V276 : Arv Z h272 a239 k240 .char (53 : Int32) [(.int (76 : Int32)), (.int (111 : Int32)), (.int (0 : Int32)), (.int (0 : Int32)), (.int (0 : Int32)), (.int (0 : Int32)), (.int (0 : Int32)), (.int (0 : Int32)), (.int (0 : Int32)), (.int (0 : Int32)), (.int (0 : Int32)), (.int (0 : Int32)), (.int (0 : Int32)), (.int (0 : Int32)), (.int (0 : Int32)), (.int (0 : Int32)), (.int (0 : Int32)), (.int (0 : Int32)), (.int (0 : Int32)), (.int (0 : Int32)), (.int (0 : Int32)), (.int (0 : Int32)), (.int (0 : Int32)), (.int (0 : Int32)), (.int (0 : Int32)), (.int (0 : Int32)), (.int (0 : Int32)), (.int (0 : Int32)), (.int (0 : Int32)), (.int (0 : Int32)), (.int (0 : Int32)), (.int (0 : Int32)), (.int (0 : Int32)), (.int (0 : Int32)), (.int (0 : Int32)), (.int (0 : Int32)), (.int (0 : Int32)), (.int (0 : Int32)), (.int (0 : Int32)), (.int (0 : Int32)), (.int (0 : Int32)), (.int (0 : Int32)), (.int (0 : Int32)), (.int (0 : Int32)), (.int (0 : Int32)), (.int (0 : Int32)), (.int (0 : Int32)), (.int (0 : Int32)), (.int (0 : Int32)), (.int (0 : Int32)), (.int (0 : Int32)), (.int (0 : Int32)), (.int (0 : Int32))] (.int (0 : Int32)) := V275
    refine Jvm.Own.W.dup w273 od_0_176 rfl rfl ?_
    refine W.iconst w273 od_0_177 (pc' := 178) rfl (z := (2 : Int32)) rfl ?_
    refine W.bipush w273 od_0_178 (pc' := 180) rfl (z := (103 : Int32)) rfl ?_
    refine W.stC w273 (x' := (103 : Int32)) rfl V276 (i := 2) (by decide) ⟨by decide, by decide⟩ (Nat.le_of_ble_eq_true rfl) mem0 od_0_180 (pc' := 181) rfl fun T277 h278 w279 K280 V281 => ?_
    have V282 : Arv Z h278 a239 k240 .char (53 : Int32) [(.int (76 : Int32)), (.int (111 : Int32)), (.int (103 : Int32)), (.int (0 : Int32)), (.int (0 : Int32)), (.int (0 : Int32)), (.int (0 : Int32)), (.int (0 : Int32)), (.int (0 : Int32)), (.int (0 : Int32)), (.int (0 : Int32)), (.int (0 : Int32)), (.int (0 : Int32)), (.int (0 : Int32)), (.int (0 : Int32)), (.int (0 : Int32)), (.int (0 : Int32)), (.int (0 : Int32)), (.int (0 : Int32)), (.int (0 : Int32)), (.int (0 : Int32)), (.int (0 : Int32)), (.int (0 : Int32)), (.int (0 : Int32)), (.int (0 : Int32)), (.int (0 : Int32)), (.int (0 : Int32)), (.int (0 : Int32)), (.int (0 : Int32)), (.int (0 : Int32)), (.int (0 : Int32)), (.int (0 : Int32)), (.int (0 : Int32)), (.int (0 : Int32)), (.int (0 : Int32)), (.int (0 : Int32)), (.int (0 : Int32)), (.int (0 : Int32)), (.int (0 : Int32)), (.int (0 : Int32)), (.int (0 : Int32)), (.int (0 : Int32)), (.int (0 : Int32)), (.int (0 : Int32)), (.int (0 : Int32)), (.int (0 : Int32)), (.int (0 : Int32)), (.int (0 : Int32)), (.int (0 : Int32)), (.int (0 : Int32)), (.int (0 : Int32)), (.int (0 : Int32)), (.int (0 : Int32))] (.int (0 : Int32)) := V281
    refine Jvm.Own.W.dup w279 od_0_181 rfl rfl ?_
    refine W.iconst w279 od_0_182 (pc' := 183) rfl (z := (3 : Int32)) rfl ?_
    refine W.bipush w279 od_0_183 (pc' := 185) rfl (z := (105 : Int32)) rfl ?_
    refine W.stC w279 (x' := (105 : Int32)) rfl V282 (i := 3) (by decide) ⟨by decide, by decide⟩ (Nat.le_of_ble_eq_true rfl) mem0 od_0_185 (pc' := 186) rfl fun T283 h284 w285 K286 V287 => ?_
    have V288 : Arv Z h284 a239 k240 .char (53 : Int32) [(.int (76 : Int32)), (.int (111 : Int32)), (.int (103 : Int32)), (.int (105 : Int32)), (.int (0 : Int32)), (.int (0 : Int32)), (.int (0 : Int32)), (.int (0 : Int32)), (.int (0 : Int32)), (.int (0 : Int32)), (.int (0 : Int32)), (.int (0 : Int32)), (.int (0 : Int32)), (.int (0 : Int32)), (.int (0 : Int32)), (.int (0 : Int32)), (.int (0 : Int32)), (.int (0 : Int32)), (.int (0 : Int32)), (.int (0 : Int32)), (.int (0 : Int32)), (.int (0 : Int32)), (.int (0 : Int32)), (.int (0 : Int32)), (.int (0 : Int32)), (.int (0 : Int32)), (.int (0 : Int32)), (.int (0 : Int32)), (.int (0 : Int32)), (.int (0 : Int32)), (.int (0 : Int32)), (.int (0 : Int32)), (.int (0 : Int32)), (.int (0 : Int32)), (.int (0 : Int32)), (.int (0 : Int32)), (.int (0 : Int32)), (.int (0 : Int32)), (.int (0 : Int32)), (.int (0 : Int32)), (.int (0 : Int32)), (.int (0 : Int32)), (.int (0 : Int32)), (.int (0 : Int32)), (.int (0 : Int32)), (.int (0 : Int32)), (.int (0 : Int32)), (.int (0 : Int32)), (.int (0 : Int32)), (.int (0 : Int32)), (.int (0 : Int32)), (.int (0 : Int32)), (.int (0 : Int32))] (.int (0 : Int32)) := V287
    refine Jvm.Own.W.dup w285 od_0_186 rfl rfl ?_
    refine W.iconst w285 od_0_187 (pc' := 188) rfl (z := (4 : Int32)) rfl ?_
    refine W.bipush w285 od_0_188 (pc' := 190) rfl (z := (110 : Int32)) rfl ?_
    refine W.stC w285 (x' := (110 : Int32)) rfl V288 (i := 4) (by decide) ⟨by decide, by decide⟩ (Nat.le_of_ble_eq_true rfl) mem0 od_0_190 (pc' := 191) rfl fun T289 h290 w291 K292 V293 => ?_
    have V294 : Arv Z h290 a239 k240 .char (53 : Int32) [(.int (76 : Int32)), (.int (111 : Int32)), (.int (103 : Int32)), (.int (105 : Int32)), (.int (110 : Int32)), (.int (0 : Int32)), (.int (0 : Int32)), (.int (0 : Int32)), (.int (0 : Int32)), (.int (0 : Int32)), (.int (0 : Int32)), (.int (0 : Int32)), (.int (0 : Int32)), (.int (0 : Int32)), (.int (0 : Int32)), (.int (0 : Int32)), (.int (0 : Int32)), (.int (0 : Int32)), (.int (0 : Int32)), (.int (0 : Int32)), (.int (0 : Int32)), (.int (0 : Int32)), (.int (0 : Int32)), (.int (0 : Int32)), (.int (0 : Int32)), (.int (0 : Int32)), (.int (0 : Int32)), (.int (0 : Int32)), (.int (0 : Int32)), (.int (0 : Int32)), (.int (0 : Int32)), (.int (0 : Int32)), (.int (0 : Int32)), (.int (0 : Int32)), (.int (0 : Int32)), (.int (0 : Int32)), (.int (0 : Int32)), (.int (0 : Int32)), (.int (0 : Int32)), (.int (0 : Int32)), (.int (0 : Int32)), (.int (0 : Int32)), (.int (0 : Int32)), (.int (0 : Int32)), (.int (0 : Int32)), (.int (0 : Int32)), (.int (0 : Int32)), (.int (0 : Int32)), (.int (0 : Int32)), (.int (0 : Int32)), (.int (0 : Int32)), (.int (0 : Int32)), (.int (0 : Int32))] (.int (0 : Int32)) := V293
    refine Jvm.Own.W.dup w291 od_0_191 rfl rfl ?_
    refine W.iconst w291 od_0_192 (pc' := 193) rfl (z := (5 : Int32)) rfl ?_
    refine W.bipush w291 od_0_193 (pc' := 195) rfl (z := (91 : Int32)) rfl ?_
    refine W.stC w291 (x' := (91 : Int32)) rfl V294 (i := 5) (by decide) ⟨by decide, by decide⟩ (Nat.le_of_ble_eq_true rfl) mem0 od_0_195 (pc' := 196) rfl fun T295 h296 w297 K298 V299 => ?_
    have V300 : Arv Z h296 a239 k240 .char (53 : Int32) [(.int (76 : Int32)), (.int (111 : Int32)), (.int (103 : Int32)), (.int (105 : Int32)), (.int (110 : Int32)), (.int (91 : Int32)), (.int (0 : Int32)), (.int (0 : Int32)), (.int (0 : Int32)), (.int (0 : Int32)), (.int (0 : Int32)), (.int (0 : Int32)), (.int (0 : Int32)), (.int (0 : Int32)), (.int (0 : Int32)), (.int (0 : Int32)), (.int (0 : Int32)), (.int (0 : Int32)), (.int (0 : Int32)), (.int (0 : Int32)), (.int (0 : Int32)), (.int (0 : Int32)), (.int (0 : Int32)), (.int (0 : Int32)), (.int (0 : Int32)), (.int (0 : Int32)), (.int (0 : Int32)), (.int (0 : Int32)), (.int (0 : Int32)), (.int (0 : Int32)), (.int (0 : Int32)), (.int (0 : Int32)), (.int (0 : Int32)), (.int (0 : Int32)), (.int (0 : Int32)), (.int (0 : Int32)), (.int (0 : Int32)), (.int (0 : Int32)), (.int (0 : Int32)), (.int (0 : Int32)), (.int (0 : Int32)), (.int (0 : Int32)), (.int (0 : Int32)), (.int (0 : Int32)), (.int (0 : Int32)), (.int (0 : Int32)), (.int (0 : Int32)), (.int (0 : Int32)), (.int (0 : Int32)), (.int (0 : Int32)), (.int (0 : Int32)), (.int (0 : Int32)), (.int (0 : Int32))] (.int (0 : Int32)) := V299
    refine Jvm.Own.W.dup w297 od_0_196 rfl rfl ?_
    refine W.bipush w297 od_0_197 (pc' := 199) rfl (z := (6 : Int32)) rfl ?_
    refine W.bipush w297 od_0_199 (pc' := 201) rfl (z := (117 : Int32)) rfl ?_
    refine W.stC w297 (x' := (117 : Int32)) rfl V300 (i := 6) (by decide) ⟨by decide, by decide⟩ (Nat.le_of_ble_eq_true rfl) mem0 od_0_201 (pc' := 202) rfl fun T301 h302 w303 K304 V305 => ?_
    have V306 : Arv Z h302 a239 k240 .char (53 : Int32) [(.int (76 : Int32)), (.int (111 : Int32)), (.int (103 : Int32)), (.int (105 : Int32)), (.int (110 : Int32)), (.int (91 : Int32)), (.int (117 : Int32)), (.int (0 : Int32)), (.int (0 : Int32)), (.int (0 : Int32)), (.int (0 : Int32)), (.int (0 : Int32)), (.int (0 : Int32)), (.int (0 : Int32)), (.int (0 : Int32)), (.int (0 : Int32)), (.int (0 : Int32)), (.int (0 : Int32)), (.int (0 : Int32)), (.int (0 : Int32)), (.int (0 : Int32)), (.int (0 : Int32)), (.int (0 : Int32)), (.int (0 : Int32)), (.int (0 : Int32)), (.int (0 : Int32)), (.int (0 : Int32)), (.int (0 : Int32)), (.int (0 : Int32)), (.int (0 : Int32)), (.int (0 : Int32)), (.int (0 : Int32)), (.int (0 : Int32)), (.int (0 : Int32)), (.int (0 : Int32)), (.int (0 : Int32)), (.int (0 : Int32)), (.int (0 : Int32)), (.int (0 : Int32)), (.int (0 : Int32)), (.int (0 : Int32)), (.int (0 : Int32)), (.int (0 : Int32)), (.int (0 : Int32)), (.int (0 : Int32)), (.int (0 : Int32)), (.int (0 : Int32)), (.int (0 : Int32)), (.int (0 : Int32)), (.int (0 : Int32)), (.int (0 : Int32)), (.int (0 : Int32)), (.int (0 : Int32))] (.int (0 : Int32)) := V305
    refine Jvm.Own.W.dup w303 od_0_202 rfl rfl ?_
    refine W.bipush w303 od_0_203 (pc' := 205) rfl (z := (7 : Int32)) rfl ?_
    refine W.bipush w303 od_0_205 (pc' := 207) rfl (z := (115 : Int32)) rfl ?_
    refine W.stC w303 (x' := (115 : Int32)) rfl V306 (i := 7) (by decide) ⟨by decide, by decide⟩ (Nat.le_of_ble_eq_true rfl) mem0 od_0_207 (pc' := 208) rfl fun T307 h308 w309 K310 V311 => ?_
    have V312 : Arv Z h308 a239 k240 .char (53 : Int32) [(.int (76 : Int32)), (.int (111 : Int32)), (.int (103 : Int32)), (.int (105 : Int32)), (.int (110 : Int32)), (.int (91 : Int32)), (.int (117 : Int32)), (.int (115 : Int32)), (.int (0 : Int32)), (.int (0 : Int32)), (.int (0 : Int32)), (.int (0 : Int32)), (.int (0 : Int32)), (.int (0 : Int32)), (.int (0 : Int32)), (.int (0 : Int32)), (.int (0 : Int32)), (.int (0 : Int32)), (.int (0 : Int32)), (.int (0 : Int32)), (.int (0 : Int32)), (.int (0 : Int32)), (.int (0 : Int32)), (.int (0 : Int32)), (.int (0 : Int32)), (.int (0 : Int32)), (.int (0 : Int32)), (.int (0 : Int32)), (.int (0 : Int32)), (.int (0 : Int32)), (.int (0 : Int32)), (.int (0 : Int32)), (.int (0 : Int32)), (.int (0 : Int32)), (.int (0 : Int32)), (.int (0 : Int32)), (.int (0 : Int32)), (.int (0 : Int32)), (.int (0 : Int32)), (.int (0 : Int32)), (.int (0 : Int32)), (.int (0 : Int32)), (.int (0 : Int32)), (.int (0 : Int32)), (.int (0 : Int32)), (.int (0 : Int32)), (.int (0 : Int32)), (.int (0 : Int32)), (.int (0 : Int32)), (.int (0 : Int32)), (.int (0 : Int32)), (.int (0 : Int32)), (.int (0 : Int32))] (.int (0 : Int32)) := V311
    refine Jvm.Own.W.dup w309 od_0_208 rfl rfl ?_
    refine W.bipush w309 od_0_209 (pc' := 211) rfl (z := (8 : Int32)) rfl ?_
    refine W.bipush w309 od_0_211 (pc' := 213) rfl (z := (101 : Int32)) rfl ?_
    refine W.stC w309 (x' := (101 : Int32)) rfl V312 (i := 8) (by decide) ⟨by decide, by decide⟩ (Nat.le_of_ble_eq_true rfl) mem0 od_0_213 (pc' := 214) rfl fun T313 h314 w315 K316 V317 => ?_
    have V318 : Arv Z h314 a239 k240 .char (53 : Int32) [(.int (76 : Int32)), (.int (111 : Int32)), (.int (103 : Int32)), (.int (105 : Int32)), (.int (110 : Int32)), (.int (91 : Int32)), (.int (117 : Int32)), (.int (115 : Int32)), (.int (101 : Int32)), (.int (0 : Int32)), (.int (0 : Int32)), (.int (0 : Int32)), (.int (0 : Int32)), (.int (0 : Int32)), (.int (0 : Int32)), (.int (0 : Int32)), (.int (0 : Int32)), (.int (0 : Int32)), (.int (0 : Int32)), (.int (0 : Int32)), (.int (0 : Int32)), (.int (0 : Int32)), (.int (0 : Int32)), (.int (0 : Int32)), (.int (0 : Int32)), (.int (0 : Int32)), (.int (0 : Int32)), (.int (0 : Int32)), (.int (0 : Int32)), (.int (0 : Int32)), (.int (0 : Int32)), (.int (0 : Int32)), (.int (0 : Int32)), (.int (0 : Int32)), (.int (0 : Int32)), (.int (0 : Int32)), (.int (0 : Int32)), (.int (0 : Int32)), (.int (0 : Int32)), (.int (0 : Int32)), (.int (0 : Int32)), (.int (0 : Int32)), (.int (0 : Int32)), (.int (0 : Int32)), (.int (0 : Int32)), (.int (0 : Int32)), (.int (0 : Int32)), (.int (0 : Int32)), (.int (0 : Int32)), (.int (0 : Int32)), (.int (0 : Int32)), (.int (0 : Int32)), (.int (0 : Int32))] (.int (0 : Int32)) := V317
    refine Jvm.Own.W.dup w315 od_0_214 rfl rfl ?_
    refine W.bipush w315 od_0_215 (pc' := 217) rfl (z := (9 : Int32)) rfl ?_
    refine W.bipush w315 od_0_217 (pc' := 219) rfl (z := (114 : Int32)) rfl ?_
    refine W.stC w315 (x' := (114 : Int32)) rfl V318 (i := 9) (by decide) ⟨by decide, by decide⟩ (Nat.le_of_ble_eq_true rfl) mem0 od_0_219 (pc' := 220) rfl fun T319 h320 w321 K322 V323 => ?_
    have V324 : Arv Z h320 a239 k240 .char (53 : Int32) [(.int (76 : Int32)), (.int (111 : Int32)), (.int (103 : Int32)), (.int (105 : Int32)), (.int (110 : Int32)), (.int (91 : Int32)), (.int (117 : Int32)), (.int (115 : Int32)), (.int (101 : Int32)), (.int (114 : Int32)), (.int (0 : Int32)), (.int (0 : Int32)), (.int (0 : Int32)), (.int (0 : Int32)), (.int (0 : Int32)), (.int (0 : Int32)), (.int (0 : Int32)), (.int (0 : Int32)), (.int (0 : Int32)), (.int (0 : Int32)), (.int (0 : Int32)), (.int (0 : Int32)), (.int (0 : Int32)), (.int (0 : Int32)), (.int (0 : Int32)), (.int (0 : Int32)), (.int (0 : Int32)), (.int (0 : Int32)), (.int (0 : Int32)), (.int (0 : Int32)), (.int (0 : Int32)), (.int (0 : Int32)), (.int (0 : Int32)), (.int (0 : Int32)), (.int (0 : Int32)), (.int (0 : Int32)), (.int (0 : Int32)), (.int (0 : Int32)), (.int (0 : Int32)), (.int (0 : Int32)), (.int (0 : Int32)), (.int (0 : Int32)), (.int (0 : Int32)), (.int (0 : Int32)), (.int (0 : Int32)), (.int (0 : Int32)), (.int (0 : Int32)), (.int (0 : Int32)), (.int (0 : Int32)), (.int (0 : Int32)), (.int (0 : Int32)), (.int (0 : Int32)), (.int (0 : Int32))] (.int (0 : Int32)) := V323
    refine Jvm.Own.W.dup w321 od_0_220 rfl rfl ?_
    refine W.bipush w321 od_0_221 (pc' := 223) rfl (z := (10 : Int32)) rfl ?_
    refine W.bipush w321 od_0_223 (pc' := 225) rfl (z := (110 : Int32)) rfl ?_
    refine W.stC w321 (x' := (110 : Int32)) rfl V324 (i := 10) (by decide) ⟨by decide, by decide⟩ (Nat.le_of_ble_eq_true rfl) mem0 od_0_225 (pc' := 226) rfl fun T325 h326 w327 K328 V329 => ?_
    have V330 : Arv Z h326 a239 k240 .char (53 : Int32) [(.int (76 : Int32)), (.int (111 : Int32)), (.int (103 : Int32)), (.int (105 : Int32)), (.int (110 : Int32)), (.int (91 : Int32)), (.int (117 : Int32)), (.int (115 : Int32)), (.int (101 : Int32)), (.int (114 : Int32)), (.int (110 : Int32)), (.int (0 : Int32)), (.int (0 : Int32)), (.int (0 : Int32)), (.int (0 : Int32)), (.int (0 : Int32)), (.int (0 : Int32)), (.int (0 : Int32)), (.int (0 : Int32)), (.int (0 : Int32)), (.int (0 : Int32)), (.int (0 : Int32)), (.int (0 : Int32)), (.int (0 : Int32)), (.int (0 : Int32)), (.int (0 : Int32)), (.int (0 : Int32)), (.int (0 : Int32)), (.int (0 : Int32)), (.int (0 : Int32)), (.int (0 : Int32)), (.int (0 : Int32)), (.int (0 : Int32)), (.int (0 : Int32)), (.int (0 : Int32)), (.int (0 : Int32)), (.int (0 : Int32)), (.int (0 : Int32)), (.int (0 : Int32)), (.int (0 : Int32)), (.int (0 : Int32)), (.int (0 : Int32)), (.int (0 : Int32)), (.int (0 : Int32)), (.int (0 : Int32)), (.int (0 : Int32)), (.int (0 : Int32)), (.int (0 : Int32)), (.int (0 : Int32)), (.int (0 : Int32)), (.int (0 : Int32)), (.int (0 : Int32)), (.int (0 : Int32))] (.int (0 : Int32)) := V329
    refine Jvm.Own.W.dup w327 od_0_226 rfl rfl ?_
    refine W.bipush w327 od_0_227 (pc' := 229) rfl (z := (11 : Int32)) rfl ?_
    refine W.bipush w327 od_0_229 (pc' := 231) rfl (z := (97 : Int32)) rfl ?_
    refine W.stC w327 (x' := (97 : Int32)) rfl V330 (i := 11) (by decide) ⟨by decide, by decide⟩ (Nat.le_of_ble_eq_true rfl) mem0 od_0_231 (pc' := 232) rfl fun T331 h332 w333 K334 V335 => ?_
    have V336 : Arv Z h332 a239 k240 .char (53 : Int32) [(.int (76 : Int32)), (.int (111 : Int32)), (.int (103 : Int32)), (.int (105 : Int32)), (.int (110 : Int32)), (.int (91 : Int32)), (.int (117 : Int32)), (.int (115 : Int32)), (.int (101 : Int32)), (.int (114 : Int32)), (.int (110 : Int32)), (.int (97 : Int32)), (.int (0 : Int32)), (.int (0 : Int32)), (.int (0 : Int32)), (.int (0 : Int32)), (.int (0 : Int32)), (.int (0 : Int32)), (.int (0 : Int32)), (.int (0 : Int32)), (.int (0 : Int32)), (.int (0 : Int32)), (.int (0 : Int32)), (.int (0 : Int32)), (.int (0 : Int32)), (.int (0 : Int32)), (.int (0 : Int32)), (.int (0 : Int32)), (.int (0 : Int32)), (.int (0 : Int32)), (.int (0 : Int32)), (.int (0 : Int32)), (.int (0 : Int32)), (.int (0 : Int32)), (.int (0 : Int32)), (.int (0 : Int32)), (.int (0 : Int32)), (.int (0 : Int32)), (.int (0 : Int32)), (.int (0 : Int32)), (.int (0 : Int32)), (.int (0 : Int32)), (.int (0 : Int32)), (.int (0 : Int32)), (.int (0 : Int32)), (.int (0 : Int32)), (.int (0 : Int32)), (.int (0 : Int32)), (.int (0 : Int32)), (.int (0 : Int32)), (.int (0 : Int32)), (.int (0 : Int32)), (.int (0 : Int32))] (.int (0 : Int32)) := V335
    refine Jvm.Own.W.dup w333 od_0_232 rfl rfl ?_
    refine W.bipush w333 od_0_233 (pc' := 235) rfl (z := (12 : Int32)) rfl ?_
    refine W.bipush w333 od_0_235 (pc' := 237) rfl (z := (109 : Int32)) rfl ?_
    refine W.stC w333 (x' := (109 : Int32)) rfl V336 (i := 12) (by decide) ⟨by decide, by decide⟩ (Nat.le_of_ble_eq_true rfl) mem0 od_0_237 (pc' := 238) rfl fun T337 h338 w339 K340 V341 => ?_
    have V342 : Arv Z h338 a239 k240 .char (53 : Int32) [(.int (76 : Int32)), (.int (111 : Int32)), (.int (103 : Int32)), (.int (105 : Int32)), (.int (110 : Int32)), (.int (91 : Int32)), (.int (117 : Int32)), (.int (115 : Int32)), (.int (101 : Int32)), (.int (114 : Int32)), (.int (110 : Int32)), (.int (97 : Int32)), (.int (109 : Int32)), (.int (0 : Int32)), (.int (0 : Int32)), (.int (0 : Int32)), (.int (0 : Int32)), (.int (0 : Int32)), (.int (0 : Int32)), (.int (0 : Int32)), (.int (0 : Int32)), (.int (0 : Int32)), (.int (0 : Int32)), (.int (0 : Int32)), (.int (0 : Int32)), (.int (0 : Int32)), (.int (0 : Int32)), (.int (0 : Int32)), (.int (0 : Int32)), (.int (0 : Int32)), (.int (0 : Int32)), (.int (0 : Int32)), (.int (0 : Int32)), (.int (0 : Int32)), (.int (0 : Int32)), (.int (0 : Int32)), (.int (0 : Int32)), (.int (0 : Int32)), (.int (0 : Int32)), (.int (0 : Int32)), (.int (0 : Int32)), (.int (0 : Int32)), (.int (0 : Int32)), (.int (0 : Int32)), (.int (0 : Int32)), (.int (0 : Int32)), (.int (0 : Int32)), (.int (0 : Int32)), (.int (0 : Int32)), (.int (0 : Int32)), (.int (0 : Int32)), (.int (0 : Int32)), (.int (0 : Int32))] (.int (0 : Int32)) := V341
    refine Jvm.Own.W.dup w339 od_0_238 rfl rfl ?_
    refine W.bipush w339 od_0_239 (pc' := 241) rfl (z := (13 : Int32)) rfl ?_
    refine W.bipush w339 od_0_241 (pc' := 243) rfl (z := (101 : Int32)) rfl ?_
    refine W.stC w339 (x' := (101 : Int32)) rfl V342 (i := 13) (by decide) ⟨by decide, by decide⟩ (Nat.le_of_ble_eq_true rfl) mem0 od_0_243 (pc' := 244) rfl fun T343 h344 w345 K346 V347 => ?_
    have V348 : Arv Z h344 a239 k240 .char (53 : Int32) [(.int (76 : Int32)), (.int (111 : Int32)), (.int (103 : Int32)), (.int (105 : Int32)), (.int (110 : Int32)), (.int (91 : Int32)), (.int (117 : Int32)), (.int (115 : Int32)), (.int (101 : Int32)), (.int (114 : Int32)), (.int (110 : Int32)), (.int (97 : Int32)), (.int (109 : Int32)), (.int (101 : Int32)), (.int (0 : Int32)), (.int (0 : Int32)), (.int (0 : Int32)), (.int (0 : Int32)), (.int (0 : Int32)), (.int (0 : Int32)), (.int (0 : Int32)), (.int (0 : Int32)), (.int (0 : Int32)), (.int (0 : Int32)), (.int (0 : Int32)), (.int (0 : Int32)), (.int (0 : Int32)), (.int (0 : Int32)), (.int (0 : Int32)), (.int (0 : Int32)), (.int (0 : Int32)), (.int (0 : Int32)), (.int (0 : Int32)), (.int (0 : Int32)), (.int (0 : Int32)), (.int (0 : Int32)), (.int (0 : Int32)), (.int (0 : Int32)), (.int (0 : Int32)), (.int (0 : Int32)), (.int (0 : Int32)), (.int (0 : Int32)), (.int (0 : Int32)), (.int (0 : Int32)), (.int (0 : Int32)), (.int (0 : Int32)), (.int (0 : Int32)), (.int (0 : Int32)), (.int (0 : Int32)), (.int (0 : Int32)), (.int (0 : Int32)), (.int (0 : Int32)), (.int (0 : Int32))] (.int (0 : Int32)) := V347
    refine Jvm.Own.W.dup w345 od_0_244 rfl rfl ?_
    refine W.bipush w345 od_0_245 (pc' := 247) rfl (z := (14 : Int32)) rfl ?_
    refine W.bipush w345 od_0_247 (pc' := 249) rfl (z := (61 : Int32)) rfl ?_
    refine W.stC w345 (x' := (61 : Int32)) rfl V348 (i := 14) (by decide) ⟨by decide, by decide⟩ (Nat.le_of_ble_eq_true rfl) mem0 od_0_249 (pc' := 250) rfl fun T349 h350 w351 K352 V353 => ?_
    have V354 : Arv Z h350 a239 k240 .char (53 : Int32) [(.int (76 : Int32)), (.int (111 : Int32)), (.int (103 : Int32)), (.int (105 : Int32)), (.int (110 : Int32)), (.int (91 : Int32)), (.int (117 : Int32)), (.int (115 : Int32)), (.int (101 : Int32)), (.int (114 : Int32)), (.int (110 : Int32)), (.int (97 : Int32)), (.int (109 : Int32)), (.int (101 : Int32)), (.int (61 : Int32)), (.int (0 : Int32)), (.int (0 : Int32)), (.int (0 : Int32)), (.int (0 : Int32)), (.int (0 : Int32)), (.int (0 : Int32)), (.int (0 : Int32)), (.int (0 : Int32)), (.int (0 : Int32)), (.int (0 : Int32)), (.int (0 : Int32)), (.int (0 : Int32)), (.int (0 : Int32)), (.int (0 : Int32)), (.int (0 : Int32)), (.int (0 : Int32)), (.int (0 : Int32)), (.int (0 : Int32)), (.int (0 : Int32)), (.int (0 : Int32)), (.int (0 : Int32)), (.int (0 : Int32)), (.int (0 : Int32)), (.int (0 : Int32)), (.int (0 : Int32)), (.int (0 : Int32)), (.int (0 : Int32)), (.int (0 : Int32)), (.int (0 : Int32)), (.int (0 : Int32)), (.int (0 : Int32)), (.int (0 : Int32)), (.int (0 : Int32)), (.int (0 : Int32)), (.int (0 : Int32)), (.int (0 : Int32)), (.int (0 : Int32)), (.int (0 : Int32))] (.int (0 : Int32)) := V353
    refine Jvm.Own.W.dup w351 od_0_250 rfl rfl ?_
    refine W.bipush w351 od_0_251 (pc' := 253) rfl (z := (15 : Int32)) rfl ?_
    refine W.iload w351 od_0_253 (pc' := 255) rfl rfl ?_
    refine W.stC w351 (x' := z0) (nar_lat hz0) V354 (i := 15) (by decide) ⟨by decide, by decide⟩ (Nat.le_of_ble_eq_true rfl) mem0 od_0_255 (pc' := 256) rfl fun T355 h356 w357 K358 V359 => ?_
    have V360 : Arv Z h356 a239 k240 .char (53 : Int32) [(.int (76 : Int32)), (.int (111 : Int32)), (.int (103 : Int32)), (.int (105 : Int32)), (.int (110 : Int32)), (.int (91 : Int32)), (.int (117 : Int32)), (.int (115 : Int32)), (.int (101 : Int32)), (.int (114 : Int32)), (.int (110 : Int32)), (.int (97 : Int32)), (.int (109 : Int32)), (.int (101 : Int32)), (.int (61 : Int32)), (.int z0), (.int (0 : Int32)), (.int (0 : Int32)), (.int (0 : Int32)), (.int (0 : Int32)), (.int (0 : Int32)), (.int (0 : Int32)), (.int (0 : Int32)), (.int (0 : Int32)), (.int (0 : Int32)), (.int (0 : Int32)), (.int (0 : Int32)), (.int (0 : Int32)), (.int (0 : Int32)), (.int (0 : Int32)), (.int (0 : Int32)), (.int (0 : Int32)), (.int (0 : Int32)), (.int (0 : Int32)), (.int (0 : Int32)), (.int (0 : Int32)), (.int (0 : Int32)), (.int (0 : Int32)), (.int (0 : Int32)), (.int (0 : Int32)), (.int (0 : Int32)), (.int (0 : Int32)), (.int (0 : Int32)), (.int (0 : Int32)), (.int (0 : Int32)), (.int (0 : Int32)), (.int (0 : Int32)), (.int (0 : Int32)), (.int (0 : Int32)), (.int (0 : Int32)), (.int (0 : Int32)), (.int (0 : Int32)), (.int (0 : Int32))] (.int (0 : Int32)) := V359
    refine Jvm.Own.W.dup w357 od_0_256 rfl rfl ?_
    refine W.bipush w357 od_0_257 (pc' := 259) rfl (z := (16 : Int32)) rfl ?_
    refine W.iload w357 od_0_259 (pc' := 261) rfl rfl ?_
    refine W.stC w357 (x' := z1) (nar_lat hz1) V360 (i := 16) (by decide) ⟨by decide, by decide⟩ (Nat.le_of_ble_eq_true rfl) mem0 od_0_261 (pc' := 262) rfl fun T361 h362 w363 K364 V365 => ?_
    have V366 : Arv Z h362 a239 k240 .char (53 : Int32) [(.int (76 : Int32)), (.int (111 : Int32)), (.int (103 : Int32)), (.int (105 : Int32)), (.int (110 : Int32)), (.int (91 : Int32)), (.int (117 : Int32)), (.int (115 : Int32)), (.int (101 : Int32)), (.int (114 : Int32)), (.int (110 : Int32)), (.int (97 : Int32)), (.int (109 : Int32)), (.int (101 : Int32)), (.int (61 : Int32)), (.int z0), (.int z1), (.int (0 : Int32)), (.int (0 : Int32)), (.int (0 : Int32)), (.int (0 : Int32)), (.int (0 : Int32)), (.int (0 : Int32)), (.int (0 : Int32)), (.int (0 : Int32)), (.int (0 : Int32)), (.int (0 : Int32)), (.int (0 : Int32)), (.int (0 : Int32)), (.int (0 : Int32)), (.int (0 : Int32)), (.int (0 : Int32)), (.int (0 : Int32)), (.int (0 : Int32)), (.int (0 : Int32)), (.int (0 : Int32)), (.int (0 : Int32)), (.int (0 : Int32)), (.int (0 : Int32)), (.int (0 : Int32)), (.int (0 : Int32)), (.int (0 : Int32)), (.int (0 : Int32)), (.int (0 : Int32)), (.int (0 : Int32)), (.int (0 : Int32)), (.int (0 : Int32)), (.int (0 : Int32)), (.int (0 : Int32)), (.int (0 : Int32)), (.int (0 : Int32)), (.int (0 : Int32)), (.int (0 : Int32))] (.int (0 : Int32)) := V365
    refine Jvm.Own.W.dup w363 od_0_262 rfl rfl ?_
    refine W.bipush w363 od_0_263 (pc' := 265) rfl (z := (17 : Int32)) rfl ?_
    refine W.bipush w363 od_0_265 (pc' := 267) rfl (z := (44 : Int32)) rfl ?_
    refine W.stC w363 (x' := (44 : Int32)) rfl V366 (i := 17) (by decide) ⟨by decide, by decide⟩ (Nat.le_of_ble_eq_true rfl) mem0 od_0_267 (pc' := 268) rfl fun T367 h368 w369 K370 V371 => ?_
    have V372 : Arv Z h368 a239 k240 .char (53 : Int32) [(.int (76 : Int32)), (.int (111 : Int32)), (.int (103 : Int32)), (.int (105 : Int32)), (.int (110 : Int32)), (.int (91 : Int32)), (.int (117 : Int32)), (.int (115 : Int32)), (.int (101 : Int32)), (.int (114 : Int32)), (.int (110 : Int32)), (.int (97 : Int32)), (.int (109 : Int32)), (.int (101 : Int32)), (.int (61 : Int32)), (.int z0), (.int z1), (.int (44 : Int32)), (.int (0 : Int32)), (.int (0 : Int32)), (.int (0 : Int32)), (.int (0 : Int32)), (.int (0 : Int32)), (.int (0 : Int32)), (.int (0 : Int32)), (.int (0 : Int32)), (.int (0 : Int32)), (.int (0 : Int32)), (.int (0 : Int32)), (.int (0 : Int32)), (.int (0 : Int32)), (.int (0 : Int32)), (.int (0 : Int32)), (.int (0 : Int32)), (.int (0 : Int32)), (.int (0 : Int32)), (.int (0 : Int32)), (.int (0 : Int32)), (.int (0 : Int32)), (.int (0 : Int32)), (.int (0 : Int32)), (.int (0 : Int32)), (.int (0 : Int32)), (.int (0 : Int32)), (.int (0 : Int32)), (.int (0 : Int32)), (.int (0 : Int32)), (.int (0 : Int32)), (.int (0 : Int32)), (.int (0 : Int32)), (.int (0 : Int32)), (.int (0 : Int32)), (.int (0 : Int32))] (.int (0 : Int32)) := V371
    refine Jvm.Own.W.dup w369 od_0_268 rfl rfl ?_
    refine W.bipush w369 od_0_269 (pc' := 271) rfl (z := (18 : Int32)) rfl ?_
    refine W.bipush w369 od_0_271 (pc' := 273) rfl (z := (32 : Int32)) rfl ?_
    refine W.stC w369 (x' := (32 : Int32)) rfl V372 (i := 18) (by decide) ⟨by decide, by decide⟩ (Nat.le_of_ble_eq_true rfl) mem0 od_0_273 (pc' := 274) rfl fun T373 h374 w375 K376 V377 => ?_
    have V378 : Arv Z h374 a239 k240 .char (53 : Int32) [(.int (76 : Int32)), (.int (111 : Int32)), (.int (103 : Int32)), (.int (105 : Int32)), (.int (110 : Int32)), (.int (91 : Int32)), (.int (117 : Int32)), (.int (115 : Int32)), (.int (101 : Int32)), (.int (114 : Int32)), (.int (110 : Int32)), (.int (97 : Int32)), (.int (109 : Int32)), (.int (101 : Int32)), (.int (61 : Int32)), (.int z0), (.int z1), (.int (44 : Int32)), (.int (32 : Int32)), (.int (0 : Int32)), (.int (0 : Int32)), (.int (0 : Int32)), (.int (0 : Int32)), (.int (0 : Int32)), (.int (0 : Int32)), (.int (0 : Int32)), (.int (0 : Int32)), (.int (0 : Int32)), (.int (0 : Int32)), (.int (0 : Int32)), (.int (0 : Int32)), (.int (0 : Int32)), (.int (0 : Int32)), (.int (0 : Int32)), (.int (0 : Int32)), (.int (0 : Int32)), (.int (0 : Int32)), (.int (0 : Int32)), (.int (0 : Int32)), (.int (0 : Int32)), (.int (0 : Int32)), (.int (0 : Int32)), (.int (0 : Int32)), (.int (0 : Int32)), (.int (0 : Int32)), (.int (0 : Int32)), (.int (0 : Int32)), (.int (0 : Int32)), (.int (0 : Int32)), (.int (0 : Int32)), (.int (0 : Int32)), (.int (0 : Int32)), (.int (0 : Int32))] (.int (0 : Int32)) := V377
    refine Jvm.Own.W.dup w375 od_0_274 rfl rfl ?_
    refine W.bipush w375 od_0_275 (pc' := 277) rfl (z := (19 : Int32)) rfl ?_
    refine W.bipush w375 od_0_277 (pc' := 279) rfl (z := (112 : Int32)) rfl ?_
    refine W.stC w375 (x' := (112 : Int32)) rfl V378 (i := 19) (by decide) ⟨by decide, by decide⟩ (Nat.le_of_ble_eq_true rfl) mem0 od_0_279 (pc' := 280) rfl fun T379 h380 w381 K382 V383 => ?_
    have V384 : Arv Z h380 a239 k240 .char (53 : Int32) [(.int (76 : Int32)), (.int (111 : Int32)), (.int (103 : Int32)), (.int (105 : Int32)), (.int (110 : Int32)), (.int (91 : Int32)), (.int (117 : Int32)), (.int (115 : Int32)), (.int (101 : Int32)), (.int (114 : Int32)), (.int (110 : Int32)), (.int (97 : Int32)), (.int (109 : Int32)), (.int (101 : Int32)), (.int (61 : Int32)), (.int z0), (.int z1), (.int (44 : Int32)), (.int (32 : Int32)), (.int (112 : Int32)), (.int (0 : Int32)), (.int (0 : Int32)), (.int (0 : Int32)), (.int (0 : Int32)), (.int (0 : Int32)), (.int (0 : Int32)), (.int (0 : Int32)), (.int (0 : Int32)), (.int (0 : Int32)), (.int (0 : Int32)), (.int (0 : Int32)), (.int (0 : Int32)), (.int (0 : Int32)), (.int (0 : Int32)), (.int (0 : Int32)), (.int (0 : Int32)), (.int (0 : Int32)), (.int (0 : Int32)), (.int (0 : Int32)), (.int (0 : Int32)), (.int (0 : Int32)), (.int (0 : Int32)), (.int (0 : Int32)), (.int (0 : Int32)), (.int (0 : Int32)), (.int (0 : Int32)), (.int (0 : Int32)), (.int (0 : Int32)), (.int (0 : Int32)), (.int (0 : Int32)), (.int (0 : Int32)), (.int (0 : Int32)), (.int (0 : Int32))] (.int (0 : Int32)) := V383
    refine Jvm.Own.W.dup w381 od_0_280 rfl rfl ?_
    refine W.bipush w381 od_0_281 (pc' := 283) rfl (z := (20 : Int32)) rfl ?_
    refine W.bipush w381 od_0_283 (pc' := 285) rfl (z := (97 : Int32)) rfl ?_
    refine W.stC w381 (x' := (97 : Int32)) rfl V384 (i := 20) (by decide) ⟨by decide, by decide⟩ (Nat.le_of_ble_eq_true rfl) mem0 od_0_285 (pc' := 286) rfl fun T385 h386 w387 K388 V389 => ?_
    have V390 : Arv Z h386 a239 k240 .char (53 : Int32) [(.int (76 : Int32)), (.int (111 : Int32)), (.int (103 : Int32)), (.int (105 : Int32)), (.int (110 : Int32)), (.int (91 : Int32)), (.int (117 : Int32)), (.int (115 : Int32)), (.int (101 : Int32)), (.int (114 : Int32)), (.int (110 : Int32)), (.int (97 : Int32)), (.int (109 : Int32)), (.int (101 : Int32)), (.int (61 : Int32)), (.int z0), (.int z1), (.int (44 : Int32)), (.int (32 : Int32)), (.int (112 : Int32)), (.int (97 : Int32)), (.int (0 : Int32)), (.int (0 : Int32)), (.int (0 : Int32)), (.int (0 : Int32)), (.int (0 : Int32)), (.int (0 : Int32)), (.int (0 : Int32)), (.int (0 : Int32)), (.int (0 : Int32)), (.int (0 : Int32)), (.int (0 : Int32)), (.int (0 : Int32)), (.int (0 : Int32)), (.int (0 : Int32)), (.int (0 : Int32)), (.int (0 : Int32)), (.int (0 : Int32)), (.int (0 : Int32)), (.int (0 : Int32)), (.int (0 : Int32)), (.int (0 : Int32)), (.int (0 : Int32)), (.int (0 : Int32)), (.int (0 : Int32)), (.int (0 : Int32)), (.int (0 : Int32)), (.int (0 : Int32)), (.int (0 : Int32)), (.int (0 : Int32)), (.int (0 : Int32)), (.int (0 : Int32)), (.int (0 : Int32))] (.int (0 : Int32)) := V389
    refine Jvm.Own.W.dup w387 od_0_286 rfl rfl ?_
    refine W.bipush w387 od_0_287 (pc' := 289) rfl (z := (21 : Int32)) rfl ?_
    refine W.bipush w387 od_0_289 (pc' := 291) rfl (z := (115 : Int32)) rfl ?_
    refine W.stC w387 (x' := (115 : Int32)) rfl V390 (i := 21) (by decide) ⟨by decide, by decide⟩ (Nat.le_of_ble_eq_true rfl) mem0 od_0_291 (pc' := 292) rfl fun T391 h392 w393 K394 V395 => ?_
    have V396 : Arv Z h392 a239 k240 .char (53 : Int32) [(.int (76 : Int32)), (.int (111 : Int32)), (.int (103 : Int32)), (.int (105 : Int32)), (.int (110 : Int32)), (.int (91 : Int32)), (.int (117 : Int32)), (.int (115 : Int32)), (.int (101 : Int32)), (.int (114 : Int32)), (.int (110 : Int32)), (.int (97 : Int32)), (.int (109 : Int32)), (.int (101 : Int32)), (.int (61 : Int32)), (.int z0), (.int z1), (.int (44 : Int32)), (.int (32 : Int32)), (.int (112 : Int32)), (.int (97 : Int32)), (.int (115 : Int32)), (.int (0 : Int32)), (.int (0 : Int32)), (.int (0 : Int32)), (.int (0 : Int32)), (.int (0 : Int32)), (.int (0 : Int32)), (.int (0 : Int32)), (.int (0 : Int32)), (.int (0 : Int32)), (.int (0 : Int32)), (.int (0 : Int32)), (.int (0 : Int32)), (.int (0 : Int32)), (.int (0 : Int32)), (.int (0 : Int32)), (.int (0 : Int32)), (.int (0 : Int32)), (.int (0 : Int32)), (.int (0 : Int32)), (.int (0 : Int32)), (.int (0 : Int32)), (.int (0 : Int32)), (.int (0 : Int32)), (.int (0 : Int32)), (.int (0 : Int32)), (.int (0 : Int32)), (.int (0 : Int32)), (.int (0 : Int32)), (.int (0 : Int32)), (.int (0 : Int32)), (.int (0 : Int32))] (.int (0 : Int32)) := V395
    refine Jvm.Own.W.dup w393 od_0_292 rfl rfl ?_
    refine W.bipush w393 od_0_293 (pc' := 295) rfl (z := (22 : Int32)) rfl ?_
    refine W.bipush w393 od_0_295 (pc' := 297) rfl (z := (115 : Int32)) rfl ?_
    refine W.stC w393 (x' := (115 : Int32)) rfl V396 (i := 22) (by decide) ⟨by decide, by decide⟩ (Nat.le_of_ble_eq_true rfl) mem0 od_0_297 (pc' := 298) rfl fun T397 h398 w399 K400 V401 => ?_
    have V402 : Arv Z h398 a239 k240 .char (53 : Int32) [(.int (76 : Int32)), (.int (111 : Int32)), (.int (103 : Int32)), (.int (105 : Int32)), (.int (110 : Int32)), (.int (91 : Int32)), (.int (117 : Int32)), (.int (115 : Int32)), (.int (101 : Int32)), (.int (114 : Int32)), (.int (110 : Int32)), (.int (97 : Int32)), (.int (109 : Int32)), (.int (101 : Int32)), (.int (61 : Int32)), (.int z0), (.int z1), (.int (44 : Int32)), (.int (32 : Int32)), (.int (112 : Int32)), (.int (97 : Int32)), (.int (115 : Int32)), (.int (115 : Int32)), (.int (0 : Int32)), (.int (0 : Int32)), (.int (0 : Int32)), (.int (0 : Int32)), (.int (0 : Int32)), (.int (0 : Int32)), (.int (0 : Int32)), (.int (0 : Int32)), (.int (0 : Int32)), (.int (0 : Int32)), (.int (0 : Int32)), (.int (0 : Int32)), (.int (0 : Int32)), (.int (0 : Int32)), (.int (0 : Int32)), (.int (0 : Int32)), (.int (0 : Int32)), (.int (0 : Int32)), (.int (0 : Int32)), (.int (0 : Int32)), (.int (0 : Int32)), (.int (0 : Int32)), (.int (0 : Int32)), (.int (0 : Int32)), (.int (0 : Int32)), (.int (0 : Int32)), (.int (0 : Int32)), (.int (0 : Int32)), (.int (0 : Int32)), (.int (0 : Int32))] (.int (0 : Int32)) := V401
    refine Jvm.Own.W.dup w399 od_0_298 rfl rfl ?_
    refine W.bipush w399 od_0_299 (pc' := 301) rfl (z := (23 : Int32)) rfl ?_
    refine W.bipush w399 od_0_301 (pc' := 303) rfl (z := (119 : Int32)) rfl ?_
    refine W.stC w399 (x' := (119 : Int32)) rfl V402 (i := 23) (by decide) ⟨by decide, by decide⟩ (Nat.le_of_ble_eq_true rfl) mem0 od_0_303 (pc' := 304) rfl fun T403 h404 w405 K406 V407 => ?_
    have V408 : Arv Z h404 a239 k240 .char (53 : Int32) [(.int (76 : Int32)), (.int (111 : Int32)), (.int (103 : Int32)), (.int (105 : Int32)), (.int (110 : Int32)), (.int (91 : Int32)), (.int (117 : Int32)), (.int (115 : Int32)), (.int (101 : Int32)), (.int (114 : Int32)), (.int (110 : Int32)), (.int (97 : Int32)), (.int (109 : Int32)), (.int (101 : Int32)), (.int (61 : Int32)), (.int z0), (.int z1), (.int (44 : Int32)), (.int (32 : Int32)), (.int (112 : Int32)), (.int (97 : Int32)), (.int (115 : Int32)), (.int (115 : Int32)), (.int (119 : Int32)), (.int (0 : Int32)), (.int (0 : Int32)), (.int (0 : Int32)), (.int (0 : Int32)), (.int (0 : Int32)), (.int (0 : Int32)), (.int (0 : Int32)), (.int (0 : Int32)), (.int (0 : Int32)), (.int (0 : Int32)), (.int (0 : Int32)), (.int (0 : Int32)), (.int (0 : Int32)), (.int (0 : Int32)), (.int (0 : Int32)), (.int (0 : Int32)), (.int (0 : Int32)), (.int (0 : Int32)), (.int (0 : Int32)), (.int (0 : Int32)), (.int (0 : Int32)), (.int (0 : Int32)), (.int (0 : Int32)), (.int (0 : Int32)), (.int (0 : Int32)), (.int (0 : Int32)), (.int (0 : Int32)), (.int (0 : Int32)), (.int (0 : Int32))] (.int (0 : Int32)) := V407
    refine Jvm.Own.W.dup w405 od_0_304 rfl rfl ?_
    refine W.bipush w405 od_0_305 (pc' := 307) rfl (z := (24 : Int32)) rfl ?_
    refine W.bipush w405 od_0_307 (pc' := 309) rfl (z := (111 : Int32)) rfl ?_
    refine W.stC w405 (x' := (111 : Int32)) rfl V408 (i := 24) (by decide) ⟨by decide, by decide⟩ (Nat.le_of_ble_eq_true rfl) mem0 od_0_309 (pc' := 310) rfl fun T409 h410 w411 K412 V413 => ?_
    have V414 : Arv Z h410 a239 k240 .char (53 : Int32) [(.int (76 : Int32)), (.int (111 : Int32)), (.int (103 : Int32)), (.int (105 : Int32)), (.int (110 : Int32)), (.int (91 : Int32)), (.int (117 : Int32)), (.int (115 : Int32)), (.int (101 : Int32)), (.int (114 : Int32)), (.int (110 : Int32)), (.int (97 : Int32)), (.int (109 : Int32)), (.int (101 : Int32)), (.int (61 : Int32)), (.int z0), (.int z1), (.int (44 : Int32)), (.int (32 : Int32)), (.int (112 : Int32)), (.int (97 : Int32)), (.int (115 : Int32)), (.int (115 : Int32)), (.int (119 : Int32)), (.int (111 : Int32)), (.int (0 : Int32)), (.int (0 : Int32)), (.int (0 : Int32)), (.int (0 : Int32)), (.int (0 : Int32)), (.int (0 : Int32)), (.int (0 : Int32)), (.int (0 : Int32)), (.int (0 : Int32)), (.int (0 : Int32)), (.int (0 : Int32)), (.int (0 : Int32)), (.int (0 : Int32)), (.int (0 : Int32)), (.int (0 : Int32)), (.int (0 : Int32)), (.int (0 : Int32)), (.int (0 : Int32)), (.int (0 : Int32)), (.int (0 : Int32)), (.int (0 : Int32)), (.int (0 : Int32)), (.int (0 : Int32)), (.int (0 : Int32)), (.int (0 : Int32)), (.int (0 : Int32)), (.int (0 : Int32)), (.int (0 : Int32))] (.int (0 : Int32)) := V413
    refine Jvm.Own.W.dup w411 od_0_310 rfl rfl ?_
    refine W.bipush w411 od_0_311 (pc' := 313) rfl (z := (25 : Int32)) rfl ?_
    refine W.bipush w411 od_0_313 (pc' := 315) rfl (z := (114 : Int32)) rfl ?_
    refine W.stC w411 (x' := (114 : Int32)) rfl V414 (i := 25) (by decide) ⟨by decide, by decide⟩ (Nat.le_of_ble_eq_true rfl) mem0 od_0_315 (pc' := 316) rfl fun T415 h416 w417 K418 V419 => ?_
    have V420 : Arv Z h416 a239 k240 .char (53 : Int32) [(.int (76 : Int32)), (.int (111 : Int32)), (.int (103 : Int32)), (.int (105 : Int32)), (.int (110 : Int32)), (.int (91 : Int32)), (.int (117 : Int32)), (.int (115 : Int32)), (.int (101 : Int32)), (.int (114 : Int32)), (.int (110 : Int32)), (.int (97 : Int32)), (.int (109 : Int32)), (.int (101 : Int32)), (.int (61 : Int32)), (.int z0), (.int z1), (.int (44 : Int32)), (.int (32 : Int32)), (.int (112 : Int32)), (.int (97 : Int32)), (.int (115 : Int32)), (.int (115 : Int32)), (.int (119 : Int32)), (.int (111 : Int32)), (.int (114 : Int32)), (.int (0 : Int32)), (.int (0 : Int32)), (.int (0 : Int32)), (.int (0 : Int32)), (.int (0 : Int32)), (.int (0 : Int32)), (.int (0 : Int32)), (.int (0 : Int32)), (.int (0 : Int32)), (.int (0 : Int32)), (.int (0 : Int32)), (.int (0 : Int32)), (.int (0 : Int32)), (.int (0 : Int32)), (.int (0 : Int32)), (.int (0 : Int32)), (.int (0 : Int32)), (.int (0 : Int32)), (.int (0 : Int32)), (.int (0 : Int32)), (.int (0 : Int32)), (.int (0 : Int32)), (.int (0 : Int32)), (.int (0 : Int32)), (.int (0 : Int32)), (.int (0 : Int32)), (.int (0 : Int32))] (.int (0 : Int32)) := V419
    refine Jvm.Own.W.dup w417 od_0_316 rfl rfl ?_
    refine W.bipush w417 od_0_317 (pc' := 319) rfl (z := (26 : Int32)) rfl ?_
    refine W.bipush w417 od_0_319 (pc' := 321) rfl (z := (100 : Int32)) rfl ?_
    refine W.stC w417 (x' := (100 : Int32)) rfl V420 (i := 26) (by decide) ⟨by decide, by decide⟩ (Nat.le_of_ble_eq_true rfl) mem0 od_0_321 (pc' := 322) rfl fun T421 h422 w423 K424 V425 => ?_
    have V426 : Arv Z h422 a239 k240 .char (53 : Int32) [(.int (76 : Int32)), (.int (111 : Int32)), (.int (103 : Int32)), (.int (105 : Int32)), (.int (110 : Int32)), (.int (91 : Int32)), (.int (117 : Int32)), (.int (115 : Int32)), (.int (101 : Int32)), (.int (114 : Int32)), (.int (110 : Int32)), (.int (97 : Int32)), (.int (109 : Int32)), (.int (101 : Int32)), (.int (61 : Int32)), (.int z0), (.int z1), (.int (44 : Int32)), (.int (32 : Int32)), (.int (112 : Int32)), (.int (97 : Int32)), (.int (115 : Int32)), (.int (115 : Int32)), (.int (119 : Int32)), (.int (111 : Int32)), (.int (114 : Int32)), (.int (100 : Int32)), (.int (0 : Int32)), (.int (0 : Int32)), (.int (0 : Int32)), (.int (0 : Int32)), (.int (0 : Int32)), (.int (0 : Int32)), (.int (0 : Int32)), (.int (0 : Int32)), (.int (0 : Int32)), (.int (0 : Int32)), (.int (0 : Int32)), (.int (0 : Int32)), (.int (0 : Int32)), (.int (0 : Int32)), (.int (0 : Int32)), (.int (0 : Int32)), (.int (0 : Int32)), (.int (0 : Int32)), (.int (0 : Int32)), (.int (0 : Int32)), (.int (0 : Int32)), (.int (0 : Int32)), (.int (0 : Int32)), (.int (0 : Int32)), (.int (0 : Int32)), (.int (0 : Int32))] (.int (0 : Int32)) := V425
    refine Jvm.Own.W.dup w423 od_0_322 rfl rfl ?_
    refine W.bipush w423 od_0_323 (pc' := 325) rfl (z := (27 : Int32)) rfl ?_
    refine W.bipush w423 od_0_325 (pc' := 327) rfl (z := (61 : Int32)) rfl ?_
    refine W.stC w423 (x' := (61 : Int32)) rfl V426 (i := 27) (by decide) ⟨by decide, by decide⟩ (Nat.le_of_ble_eq_true rfl) mem0 od_0_327 (pc' := 328) rfl fun T427 h428 w429 K430 V431 => ?_
    have V432 : Arv Z h428 a239 k240 .char (53 : Int32) [(.int (76 : Int32)), (.int (111 : Int32)), (.int (103 : Int32)), (.int (105 : Int32)), (.int (110 : Int32)), (.int (91 : Int32)), (.int (117 : Int32)), (.int (115 : Int32)), (.int (101 : Int32)), (.int (114 : Int32)), (.int (110 : Int32)), (.int (97 : Int32)), (.int (109 : Int32)), (.int (101 : Int32)), (.int (61 : Int32)), (.int z0), (.int z1), (.int (44 : Int32)), (.int (32 : Int32)), (.int (112 : Int32)), (.int (97 : Int32)), (.int (115 : Int32)), (.int (115 : Int32)), (.int (119 : Int32)), (.int (111 : Int32)), (.int (114 : Int32)), (.int (100 : Int32)), (.int (61 : Int32)), (.int (0 : Int32)), (.int (0 : Int32)), (.int (0 : Int32)), (.int (0 : Int32)), (.int (0 : Int32)), (.int (0 : Int32)), (.int (0 : Int32)), (.int (0 : Int32)), (.int (0 : Int32)), (.int (0 : Int32)), (.int (0 : Int32)), (.int (0 : Int32)), (.int (0 : Int32)), (.int (0 : Int32)), (.int (0 : Int32)), (.int (0 : Int32)), (.int (0 : Int32)), (.int (0 : Int32)), (.int (0 : Int32)), (.int (0 : Int32)), (.int (0 : Int32)), (.int (0 : Int32)), (.int (0 : Int32)), (.int (0 : Int32)), (.int (0 : Int32))] (.int (0 : Int32)) := V431
    refine Jvm.Own.W.dup w429 od_0_328 rfl rfl ?_
    refine W.bipush w429 od_0_329 (pc' := 331) rfl (z := (28 : Int32)) rfl ?_
    refine W.bipush w429 od_0_331 (pc' := 333) rfl (z := (40 : Int32)) rfl ?_
    refine W.stC w429 (x' := (40 : Int32)) rfl V432 (i := 28) (by decide) ⟨by decide, by decide⟩ (Nat.le_of_ble_eq_true rfl) mem0 od_0_333 (pc' := 334) rfl fun T433 h434 w435 K436 V437 => ?_
    have V438 : Arv Z h434 a239 k240 .char (53 : Int32) [(.int (76 : Int32)), (.int (111 : Int32)), (.int (103 : Int32)), (.int (105 : Int32)), (.int (110 : Int32)), (.int (91 : Int32)), (.int (117 : Int32)), (.int (115 : Int32)), (.int (101 : Int32)), (.int (114 : Int32)), (.int (110 : Int32)), (.int (97 : Int32)), (.int (109 : Int32)), (.int (101 : Int32)), (.int (61 : Int32)), (.int z0), (.int z1), (.int (44 : Int32)), (.int (32 : Int32)), (.int (112 : Int32)), (.int (97 : Int32)), (.int (115 : Int32)), (.int (115 : Int32)), (.int (119 : Int32)), (.int (111 : Int32)), (.int (114 : Int32)), (.int (100 : Int32)), (.int (61 : Int32)), (.int (40 : Int32)), (.int (0 : Int32)), (.int (0 : Int32)), (.int (0 : Int32)), (.int (0 : Int32)), (.int (0 : Int32)), (.int (0 : Int32)), (.int (0 : Int32)), (.int (0 : Int32)), (.int (0 : Int32)), (.int (0 : Int32)), (.int (0 : Int32)), (.int (0 : Int32)), (.int (0 : Int32)), (.int (0 : Int32)), (.int (0 : Int32)), (.int (0 : Int32)), (.int (0 : Int32)), (.int (0 : Int32)), (.int (0 : Int32)), (.int (0 : Int32)), (.int (0 : Int32)), (.int (0 : Int32)), (.int (0 : Int32)), (.int (0 : Int32))] (.int (0 : Int32)) := V437
    refine Jvm.Own.W.dup w435 od_0_334 rfl rfl ?_
    refine W.bipush w435 od_0_335 (pc' := 337) rfl (z := (29 : Int32)) rfl ?_
    refine W.bipush w435 od_0_337 (pc' := 339) rfl (z := (104 : Int32)) rfl ?_
    refine W.stC w435 (x' := (104 : Int32)) rfl V438 (i := 29) (by decide) ⟨by decide, by decide⟩ (Nat.le_of_ble_eq_true rfl) mem0 od_0_339 (pc' := 340) rfl fun T439 h440 w441 K442 V443 => ?_
    have V444 : Arv Z h440 a239 k240 .char (53 : Int32) [(.int (76 : Int32)), (.int (111 : Int32)), (.int (103 : Int32)), (.int (105 : Int32)), (.int (110 : Int32)), (.int (91 : Int32)), (.int (117 : Int32)), (.int (115 : Int32)), (.int (101 : Int32)), (.int (114 : Int32)), (.int (110 : Int32)), (.int (97 : Int32)), (.int (109 : Int32)), (.int (101 : Int32)), (.int (61 : Int32)), (.int z0), (.int z1), (.int (44 : Int32)), (.int (32 : Int32)), (.int (112 : Int32)), (.int (97 : Int32)), (.int (115 : Int32)), (.int (115 : Int32)), (.int (119 : Int32)), (.int (111 : Int32)), (.int (114 : Int32)), (.int (100 : Int32)), (.int (61 : Int32)), (.int (40 : Int32)), (.int (104 : Int32)), (.int (0 : Int32)), (.int (0 : Int32)), (.int (0 : Int32)), (.int (0 : Int32)), (.int (0 : Int32)), (.int (0 : Int32)), (.int (0 : Int32)), (.int (0 : Int32)), (.int (0 : Int32)), (.int (0 : Int32)), (.int (0 : Int32)), (.int (0 : Int32)), (.int (0 : Int32)), (.int (0 : Int32)), (.int (0 : Int32)), (.int (0 : Int32)), (.int (0 : Int32)), (.int (0 : Int32)), (.int (0 : Int32)), (.int (0 : Int32)), (.int (0 : Int32)), (.int (0 : Int32)), (.int (0 : Int32))] (.int (0 : Int32)) := V443
    refine Jvm.Own.W.dup w441 od_0_340 rfl rfl ?_
    refine W.bipush w441 od_0_341 (pc' := 343) rfl (z := (30 : Int32)) rfl ?_
    refine W.bipush w441 od_0_343 (pc' := 345) rfl (z := (105 : Int32)) rfl ?_
    refine W.stC w441 (x' := (105 : Int32)) rfl V444 (i := 30) (by decide) ⟨by decide, by decide⟩ (Nat.le_of_ble_eq_true rfl) mem0 od_0_345 (pc' := 346) rfl fun T445 h446 w447 K448 V449 => ?_
    have V450 : Arv Z h446 a239 k240 .char (53 : Int32) [(.int (76 : Int32)), (.int (111 : Int32)), (.int (103 : Int32)), (.int (105 : Int32)), (.int (110 : Int32)), (.int (91 : Int32)), (.int (117 : Int32)), (.int (115 : Int32)), (.int (101 : Int32)), (.int (114 : Int32)), (.int (110 : Int32)), (.int (97 : Int32)), (.int (109 : Int32)), (.int (101 : Int32)), (.int (61 : Int32)), (.int z0), (.int z1), (.int (44 : Int32)), (.int (32 : Int32)), (.int (112 : Int32)), (.int (97 : Int32)), (.int (115 : Int32)), (.int (115 : Int32)), (.int (119 : Int32)), (.int (111 : Int32)), (.int (114 : Int32)), (.int (100 : Int32)), (.int (61 : Int32)), (.int (40 : Int32)), (.int (104 : Int32)), (.int (105 : Int32)), (.int (0 : Int32)), (.int (0 : Int32)), (.int (0 : Int32)), (.int (0 : Int32)), (.int (0 : Int32)), (.int (0 : Int32)), (.int (0 : Int32)), (.int (0 : Int32)), (.int (0 : Int32)), (.int (0 : Int32)), (.int (0 : Int32)), (.int (0 : Int32)), (.int (0 : Int32)), (.int (0 : Int32)), (.int (0 : Int32)), (.int (0 : Int32)), (.int (0 : Int32)), (.int (0 : Int32)), (.int (0 : Int32)), (.int (0 : Int32)), (.int (0 : Int32)), (.int (0 : Int32))] (.int (0 : Int32)) := V449
    refine Jvm.Own.W.dup w447 od_0_346 rfl rfl ?_
    refine W.bipush w447 od_0_347 (pc' := 349) rfl (z := (31 : Int32)) rfl ?_
    refine W.bipush w447 od_0_349 (pc' := 351) rfl (z := (100 : Int32)) rfl ?_
    refine W.stC w447 (x' := (100 : Int32)) rfl V450 (i := 31) (by decide) ⟨by decide, by decide⟩ (Nat.le_of_ble_eq_true rfl) mem0 od_0_351 (pc' := 352) rfl fun T451 h452 w453 K454 V455 => ?_
    have V456 : Arv Z h452 a239 k240 .char (53 : Int32) [(.int (76 : Int32)), (.int (111 : Int32)), (.int (103 : Int32)), (.int (105 : Int32)), (.int (110 : Int32)), (.int (91 : Int32)), (.int (117 : Int32)), (.int (115 : Int32)), (.int (101 : Int32)), (.int (114 : Int32)), (.int (110 : Int32)), (.int (97 : Int32)), (.int (109 : Int32)), (.int (101 : Int32)), (.int (61 : Int32)), (.int z0), (.int z1), (.int (44 : Int32)), (.int (32 : Int32)), (.int (112 : Int32)), (.int (97 : Int32)), (.int (115 : Int32)), (.int (115 : Int32)), (.int (119 : Int32)), (.int (111 : Int32)), (.int (114 : Int32)), (.int (100 : Int32)), (.int (61 : Int32)), (.int (40 : Int32)), (.int (104 : Int32)), (.int (105 : Int32)), (.int (100 : Int32)), (.int (0 : Int32)), (.int (0 : Int32)), (.int (0 : Int32)), (.int (0 : Int32)), (.int (0 : Int32)), (.int (0 : Int32)), (.int (0 : Int32)), (.int (0 : Int32)), (.int (0 : Int32)), (.int (0 : Int32)), (.int (0 : Int32)), (.int (0 : Int32)), (.int (0 : Int32)), (.int (0 : Int32)), (.int (0 : Int32)), (.int (0 : Int32)), (.int (0 : Int32)), (.int (0 : Int32)), (.int (0 : Int32)), (.int (0 : Int32)), (.int (0 : Int32))] (.int (0 : Int32)) := V455
    refine Jvm.Own.W.dup w453 od_0_352 rfl rfl ?_
    refine W.bipush w453 od_0_353 (pc' := 355) rfl (z := (32 : Int32)) rfl ?_
    refine W.bipush w453 od_0_355 (pc' := 357) rfl (z := (100 : Int32)) rfl ?_
    refine W.stC w453 (x' := (100 : Int32)) rfl V456 (i := 32) (by decide) ⟨by decide, by decide⟩ (Nat.le_of_ble_eq_true rfl) mem0 od_0_357 (pc' := 358) rfl fun T457 h458 w459 K460 V461 => ?_
    have V462 : Arv Z h458 a239 k240 .char (53 : Int32) [(.int (76 : Int32)), (.int (111 : Int32)), (.int (103 : Int32)), (.int (105 : Int32)), (.int (110 : Int32)), (.int (91 : Int32)), (.int (117 : Int32)), (.int (115 : Int32)), (.int (101 : Int32)), (.int (114 : Int32)), (.int (110 : Int32)), (.int (97 : Int32)), (.int (109 : Int32)), (.int (101 : Int32)), (.int (61 : Int32)), (.int z0), (.int z1), (.int (44 : Int32)), (.int (32 : Int32)), (.int (112 : Int32)), (.int (97 : Int32)), (.int (115 : Int32)), (.int (115 : Int32)), (.int (119 : Int32)), (.int (111 : Int32)), (.int (114 : Int32)), (.int (100 : Int32)), (.int (61 : Int32)), (.int (40 : Int32)), (.int (104 : Int32)), (.int (105 : Int32)), (.int (100 : Int32)), (.int (100 : Int32)), (.int (0 : Int32)), (.int (0 : Int32)), (.int (0 : Int32)), (.int (0 : Int32)), (.int (0 : Int32)), (.int (0 : Int32)), (.int (0 : Int32)), (.int (0 : Int32)), (.int (0 : Int32)), (.int (0 : Int32)), (.int (0 : Int32)), (.int (0 : Int32)), (.int (0 : Int32)), (.int (0 : Int32)), (.int (0 : Int32)), (.int (0 : Int32)), (.int (0 : Int32)), (.int (0 : Int32)), (.int (0 : Int32)), (.int (0 : Int32))] (.int (0 : Int32)) := V461
    refine Jvm.Own.W.dup w459 od_0_358 rfl rfl ?_
    refine W.bipush w459 od_0_359 (pc' := 361) rfl (z := (33 : Int32)) rfl ?_
    refine W.bipush w459 od_0_361 (pc' := 363) rfl (z := (101 : Int32)) rfl ?_
    refine W.stC w459 (x' := (101 : Int32)) rfl V462 (i := 33) (by decide) ⟨by decide, by decide⟩ (Nat.le_of_ble_eq_true rfl) mem0 od_0_363 (pc' := 364) rfl fun T463 h464 w465 K466 V467 => ?_
    have V468 : Arv Z h464 a239 k240 .char (53 : Int32) [(.int (76 : Int32)), (.int (111 : Int32)), (.int (103 : Int32)), (.int (105 : Int32)), (.int (110 : Int32)), (.int (91 : Int32)), (.int (117 : Int32)), (.int (115 : Int32)), (.int (101 : Int32)), (.int (114 : Int32)), (.int (110 : Int32)), (.int (97 : Int32)), (.int (109 : Int32)), (.int (101 : Int32)), (.int (61 : Int32)), (.int z0), (.int z1), (.int (44 : Int32)), (.int (32 : Int32)), (.int (112 : Int32)), (.int (97 : Int32)), (.int (115 : Int32)), (.int (115 : Int32)), (.int (119 : Int32)), (.int (111 : Int32)), (.int (114 : Int32)), (.int (100 : Int32)), (.int (61 : Int32)), (.int (40 : Int32)), (.int (104 : Int32)), (.int (105 : Int32)), (.int (100 : Int32)), (.int (100 : Int32)), (.int (101 : Int32)), (.int (0 : Int32)), (.int (0 : Int32)), (.int (0 : Int32)), (.int (0 : Int32)), (.int (0 : Int32)), (.int (0 : Int32)), (.int (0 : Int32)), (.int (0 : Int32)), (.int (0 : Int32)), (.int (0 : Int32)), (.int (0 : Int32)), (.int (0 : Int32)), (.int (0 : Int32)), (.int (0 : Int32)), (.int (0 : Int32)), (.int (0 : Int32)), (.int (0 : Int32)), (.int (0 : Int32)), (.int (0 : Int32))] (.int (0 : Int32)) := V467
    refine Jvm.Own.W.dup w465 od_0_364 rfl rfl ?_
    refine W.bipush w465 od_0_365 (pc' := 367) rfl (z := (34 : Int32)) rfl ?_
    refine W.bipush w465 od_0_367 (pc' := 369) rfl (z := (110 : Int32)) rfl ?_
    refine W.stC w465 (x' := (110 : Int32)) rfl V468 (i := 34) (by decide) ⟨by decide, by decide⟩ (Nat.le_of_ble_eq_true rfl) mem0 od_0_369 (pc' := 370) rfl fun T469 h470 w471 K472 V473 => ?_
    have V474 : Arv Z h470 a239 k240 .char (53 : Int32) [(.int (76 : Int32)), (.int (111 : Int32)), (.int (103 : Int32)), (.int (105 : Int32)), (.int (110 : Int32)), (.int (91 : Int32)), (.int (117 : Int32)), (.int (115 : Int32)), (.int (101 : Int32)), (.int (114 : Int32)), (.int (110 : Int32)), (.int (97 : Int32)), (.int (109 : Int32)), (.int (101 : Int32)), (.int (61 : Int32)), (.int z0), (.int z1), (.int (44 : Int32)), (.int (32 : Int32)), (.int (112 : Int32)), (.int (97 : Int32)), (.int (115 : Int32)), (.int (115 : Int32)), (.int (119 : Int32)), (.int (111 : Int32)), (.int (114 : Int32)), (.int (100 : Int32)), (.int (61 : Int32)), (.int (40 : Int32)), (.int (104 : Int32)), (.int (105 : Int32)), (.int (100 : Int32)), (.int (100 : Int32)), (.int (101 : Int32)), (.int (110 : Int32)), (.int (0 : Int32)), (.int (0 : Int32)), (.int (0 : Int32)), (.int (0 : Int32)), (.int (0 : Int32)), (.int (0 : Int32)), (.int (0 : Int32)), (.int (0 : Int32)), (.int (0 : Int32)), (.int (0 : Int32)), (.int (0 : Int32)), (.int (0 : Int32)), (.int (0 : Int32)), (.int (0 : Int32)), (.int (0 : Int32)), (.int (0 : Int32)), (.int (0 : Int32)), (.int (0 : Int32))] (.int (0 : Int32)) := V473
    refine Jvm.Own.W.dup w471 od_0_370 rfl rfl ?_
    refine W.bipush w471 od_0_371 (pc' := 373) rfl (z := (35 : Int32)) rfl ?_
    refine W.bipush w471 od_0_373 (pc' := 375) rfl (z := (41 : Int32)) rfl ?_
    refine W.stC w471 (x' := (41 : Int32)) rfl V474 (i := 35) (by decide) ⟨by decide, by decide⟩ (Nat.le_of_ble_eq_true rfl) mem0 od_0_375 (pc' := 376) rfl fun T475 h476 w477 K478 V479 => ?_
    have V480 : Arv Z h476 a239 k240 .char (53 : Int32) [(.int (76 : Int32)), (.int (111 : Int32)), (.int (103 : Int32)), (.int (105 : Int32)), (.int (110 : Int32)), (.int (91 : Int32)), (.int (117 : Int32)), (.int (115 : Int32)), (.int (101 : Int32)), (.int (114 : Int32)), (.int (110 : Int32)), (.int (97 : Int32)), (.int (109 : Int32)), (.int (101 : Int32)), (.int (61 : Int32)), (.int z0), (.int z1), (.int (44 : Int32)), (.int (32 : Int32)), (.int (112 : Int32)), (.int (97 : Int32)), (.int (115 : Int32)), (.int (115 : Int32)), (.int (119 : Int32)), (.int (111 : Int32)), (.int (114 : Int32)), (.int (100 : Int32)), (.int (61 : Int32)), (.int (40 : Int32)), (.int (104 : Int32)), (.int (105 : Int32)), (.int (100 : Int32)), (.int (100 : Int32)), (.int (101 : Int32)), (.int (110 : Int32)), (.int (41 : Int32)), (.int (0 : Int32)), (.int (0 : Int32)), (.int (0 : Int32)), (.int (0 : Int32)), (.int (0 : Int32)), (.int (0 : Int32)), (.int (0 : Int32)), (.int (0 : Int32)), (.int (0 : Int32)), (.int (0 : Int32)), (.int (0 : Int32)), (.int (0 : Int32)), (.int (0 : Int32)), (.int (0 : Int32)), (.int (0 : Int32)), (.int (0 : Int32)), (.int (0 : Int32))] (.int (0 : Int32)) := V479
    refine Jvm.Own.W.dup w477 od_0_376 rfl rfl ?_
    refine W.bipush w477 od_0_377 (pc' := 379) rfl (z := (36 : Int32)) rfl ?_
    refine W.bipush w477 od_0_379 (pc' := 381) rfl (z := (44 : Int32)) rfl ?_
    refine W.stC w477 (x' := (44 : Int32)) rfl V480 (i := 36) (by decide) ⟨by decide, by decide⟩ (Nat.le_of_ble_eq_true rfl) mem0 od_0_381 (pc' := 382) rfl fun T481 h482 w483 K484 V485 => ?_
    have V486 : Arv Z h482 a239 k240 .char (53 : Int32) [(.int (76 : Int32)), (.int (111 : Int32)), (.int (103 : Int32)), (.int (105 : Int32)), (.int (110 : Int32)), (.int (91 : Int32)), (.int (117 : Int32)), (.int (115 : Int32)), (.int (101 : Int32)), (.int (114 : Int32)), (.int (110 : Int32)), (.int (97 : Int32)), (.int (109 : Int32)), (.int (101 : Int32)), (.int (61 : Int32)), (.int z0), (.int z1), (.int (44 : Int32)), (.int (32 : Int32)), (.int (112 : Int32)), (.int (97 : Int32)), (.int (115 : Int32)), (.int (115 : Int32)), (.int (119 : Int32)), (.int (111 : Int32)), (.int (114 : Int32)), (.int (100 : Int32)), (.int (61 : Int32)), (.int (40 : Int32)), (.int (104 : Int32)), (.int (105 : Int32)), (.int (100 : Int32)), (.int (100 : Int32)), (.int (101 : Int32)), (.int (110 : Int32)), (.int (41 : Int32)), (.int (44 : Int32)), (.int (0 : Int32)), (.int (0 : Int32)), (.int (0 : Int32)), (.int (0 : Int32)), (.int (0 : Int32)), (.int (0 : Int32)), (.int (0 : Int32)), (.int (0 : Int32)), (.int (0 : Int32)), (.int (0 : Int32)), (.int (0 : Int32)), (.int (0 : Int32)), (.int (0 : Int32)), (.int (0 : Int32)), (.int (0 : Int32)), (.int (0 : Int32))] (.int (0 : Int32)) := V485
    refine Jvm.Own.W.dup w483 od_0_382 rfl rfl ?_
    refine W.bipush w483 od_0_383 (pc' := 385) rfl (z := (37 : Int32)) rfl ?_
    refine W.bipush w483 od_0_385 (pc' := 387) rfl (z := (32 : Int32)) rfl ?_
    refine W.stC w483 (x' := (32 : Int32)) rfl V486 (i := 37) (by decide) ⟨by decide, by decide⟩ (Nat.le_of_ble_eq_true rfl) mem0 od_0_387 (pc' := 388) rfl fun T487 h488 w489 K490 V491 => ?_
    have V492 : Arv Z h488 a239 k240 .char (53 : Int32) [(.int (76 : Int32)), (.int (111 : Int32)), (.int (103 : Int32)), (.int (105 : Int32)), (.int (110 : Int32)), (.int (91 : Int32)), (.int (117 : Int32)), (.int (115 : Int32)), (.int (101 : Int32)), (.int (114 : Int32)), (.int (110 : Int32)), (.int (97 : Int32)), (.int (109 : Int32)), (.int (101 : Int32)), (.int (61 : Int32)), (.int z0), (.int z1), (.int (44 : Int32)), (.int (32 : Int32)), (.int (112 : Int32)), (.int (97 : Int32)), (.int (115 : Int32)), (.int (115 : Int32)), (.int (119 : Int32)), (.int (111 : Int32)), (.int (114 : Int32)), (.int (100 : Int32)), (.int (61 : Int32)), (.int (40 : Int32)), (.int (104 : Int32)), (.int (105 : Int32)), (.int (100 : Int32)), (.int (100 : Int32)), (.int (101 : Int32)), (.int (110 : Int32)), (.int (41 : Int32)), (.int (44 : Int32)), (.int (32 : Int32)), (.int (0 : Int32)), (.int (0 : Int32)), (.int (0 : Int32)), (.int (0 : Int32)), (.int (0 : Int32)), (.int (0 : Int32)), (.int (0 : Int32)), (.int (0 : Int32)), (.int (0 : Int32)), (.int (0 : Int32)), (.int (0 : Int32)), (.int (0 : Int32)), (.int (0 : Int32)), (.int (0 : Int32)), (.int (0 : Int32))] (.int (0 : Int32)) := V491
    refine Jvm.Own.W.dup w489 od_0_388 rfl rfl ?_
    refine W.bipush w489 od_0_389 (pc' := 391) rfl (z := (38 : Int32)) rfl ?_
    refine W.bipush w489 od_0_391 (pc' := 393) rfl (z := (118 : Int32)) rfl ?_
    refine W.stC w489 (x' := (118 : Int32)) rfl V492 (i := 38) (by decide) ⟨by decide, by decide⟩ (Nat.le_of_ble_eq_true rfl) mem0 od_0_393 (pc' := 394) rfl fun T493 h494 w495 K496 V497 => ?_
    have V498 : Arv Z h494 a239 k240 .char (53 : Int32) [(.int (76 : Int32)), (.int (111 : Int32)), (.int (103 : Int32)), (.int (105 : Int32)), (.int (110 : Int32)), (.int (91 : Int32)), (.int (117 : Int32)), (.int (115 : Int32)), (.int (101 : Int32)), (.int (114 : Int32)), (.int (110 : Int32)), (.int (97 : Int32)), (.int (109 : Int32)), (.int (101 : Int32)), (.int (61 : Int32)), (.int z0), (.int z1), (.int (44 : Int32)), (.int (32 : Int32)), (.int (112 : Int32)), (.int (97 : Int32)), (.int (115 : Int32)), (.int (115 : Int32)), (.int (119 : Int32)), (.int (111 : Int32)), (.int (114 : Int32)), (.int (100 : Int32)), (.int (61 : Int32)), (.int (40 : Int32)), (.int (104 : Int32)), (.int (105 : Int32)), (.int (100 : Int32)), (.int (100 : Int32)), (.int (101 : Int32)), (.int (110 : Int32)), (.int (41 : Int32)), (.int (44 : Int32)), (.int (32 : Int32)), (.int (118 : Int32)), (.int (0 : Int32)), (.int (0 : Int32)), (.int (0 : Int32)), (.int (0 : Int32)), (.int (0 : Int32)), (.int (0 : Int32)), (.int (0 : Int32)), (.int (0 : Int32)), (.int (0 : Int32)), (.int (0 : Int32)), (.int (0 : Int32)), (.int (0 : Int32)), (.int (0 : Int32)), (.int (0 : Int32))] (.int (0 : Int32)) := V497
    refine Jvm.Own.W.dup w495 od_0_394 rfl rfl ?_
    refine W.bipush w495 od_0_395 (pc' := 397) rfl (z := (39 : Int32)) rfl ?_
    refine W.bipush w495 od_0_397 (pc' := 399) rfl (z := (105 : Int32)) rfl ?_
    refine W.stC w495 (x' := (105 : Int32)) rfl V498 (i := 39) (by decide) ⟨by decide, by decide⟩ (Nat.le_of_ble_eq_true rfl) mem0 od_0_399 (pc' := 400) rfl fun T499 h500 w501 K502 V503 => ?_
    have V504 : Arv Z h500 a239 k240 .char (53 : Int32) [(.int (76 : Int32)), (.int (111 : Int32)), (.int (103 : Int32)), (.int (105 : Int32)), (.int (110 : Int32)), (.int (91 : Int32)), (.int (117 : Int32)), (.int (115 : Int32)), (.int (101 : Int32)), (.int (114 : Int32)), (.int (110 : Int32)), (.int (97 : Int32)), (.int (109 : Int32)), (.int (101 : Int32)), (.int (61 : Int32)), (.int z0), (.int z1), (.int (44 : Int32)), (.int (32 : Int32)), (.int (112 : Int32)), (.int (97 : Int32)), (.int (115 : Int32)), (.int (115 : Int32)), (.int (119 : Int32)), (.int (111 : Int32)), (.int (114 : Int32)), (.int (100 : Int32)), (.int (61 : Int32)), (.int (40 : Int32)), (.int (104 : Int32)), (.int (105 : Int32)), (.int (100 : Int32)), (.int (100 : Int32)), (.int (101 : Int32)), (.int (110 : Int32)), (.int (41 : Int32)), (.int (44 : Int32)), (.int (32 : Int32)), (.int (118 : Int32)), (.int (105 : Int32)), (.int (0 : Int32)), (.int (0 : Int32)), (.int (0 : Int32)), (.int (0 : Int32)), (.int (0 : Int32)), (.int (0 : Int32)), (.int (0 : Int32)), (.int (0 : Int32)), (.int (0 : Int32)), (.int (0 : Int32)), (.int (0 : Int32)), (.int (0 : Int32)), (.int (0 : Int32))] (.int (0 : Int32)) := V503
    refine Jvm.Own.W.dup w501 od_0_400 rfl rfl ?_
    refine W.bipush w501 od_0_401 (pc' := 403) rfl (z := (40 : Int32)) rfl ?_
    refine W.bipush w501 od_0_403 (pc' := 405) rfl (z := (114 : Int32)) rfl ?_
    refine W.stC w501 (x' := (114 : Int32)) rfl V504 (i := 40) (by decide) ⟨by decide, by decide⟩ (Nat.le_of_ble_eq_true rfl) mem0 od_0_405 (pc' := 406) rfl fun T505 h506 w507 K508 V509 => ?_
    have V510 : Arv Z h506 a239 k240 .char (53 : Int32) [(.int (76 : Int32)), (.int (111 : Int32)), (.int (103 : Int32)), (.int (105 : Int32)), (.int (110 : Int32)), (.int (91 : Int32)), (.int (117 : Int32)), (.int (115 : Int32)), (.int (101 : Int32)), (.int (114 : Int32)), (.int (110 : Int32)), (.int (97 : Int32)), (.int (109 : Int32)), (.int (101 : Int32)), (.int (61 : Int32)), (.int z0), (.int z1), (.int (44 : Int32)), (.int (32 : Int32)), (.int (112 : Int32)), (.int (97 : Int32)), (.int (115 : Int32)), (.int (115 : Int32)), (.int (119 : Int32)), (.int (111 : Int32)), (.int (114 : Int32)), (.int (100 : Int32)), (.int (61 : Int32)), (.int (40 : Int32)), (.int (104 : Int32)), (.int (105 : Int32)), (.int (100 : Int32)), (.int (100 : Int32)), (.int (101 : Int32)), (.int (110 : Int32)), (.int (41 : Int32)), (.int (44 : Int32)), (.int (32 : Int32)), (.int (118 : Int32)), (.int (105 : Int32)), (.int (114 : Int32)), (.int (0 : Int32)), (.int (0 : Int32)), (.int (0 : Int32)), (.int (0 : Int32)), (.int (0 : Int32)), (.int (0 : Int32)), (.int (0 : Int32)), (.int (0 : Int32)), (.int (0 : Int32)), (.int (0 : Int32)), (.int (0 : Int32)), (.int (0 : Int32))] (.int (0 : Int32)) := V509
    refine Jvm.Own.W.dup w507 od_0_406 rfl rfl ?_
    refine W.bipush w507 od_0_407 (pc' := 409) rfl (z := (41 : Int32)) rfl ?_
    refine W.bipush w507 od_0_409 (pc' := 411) rfl (z := (116 : Int32)) rfl ?_
    refine W.stC w507 (x' := (116 : Int32)) rfl V510 (i := 41) (by decide) ⟨by decide, by decide⟩ (Nat.le_of_ble_eq_true rfl) mem0 od_0_411 (pc' := 412) rfl fun T511 h512 w513 K514 V515 => ?_
    have V516 : Arv Z h512 a239 k240 .char (53 : Int32) [(.int (76 : Int32)), (.int (111 : Int32)), (.int (103 : Int32)), (.int (105 : Int32)), (.int (110 : Int32)), (.int (91 : Int32)), (.int (117 : Int32)), (.int (115 : Int32)), (.int (101 : Int32)), (.int (114 : Int32)), (.int (110 : Int32)), (.int (97 : Int32)), (.int (109 : Int32)), (.int (101 : Int32)), (.int (61 : Int32)), (.int z0), (.int z1), (.int (44 : Int32)), (.int (32 : Int32)), (.int (112 : Int32)), (.int (97 : Int32)), (.int (115 : Int32)), (.int (115 : Int32)), (.int (119 : Int32)), (.int (111 : Int32)), (.int (114 : Int32)), (.int (100 : Int32)), (.int (61 : Int32)), (.int (40 : Int32)), (.int (104 : Int32)), (.int (105 : Int32)), (.int (100 : Int32)), (.int (100 : Int32)), (.int (101 : Int32)), (.int (110 : Int32)), (.int (41 : Int32)), (.int (44 : Int32)), (.int (32 : Int32)), (.int (118 : Int32)), (.int (105 : Int32)), (.int (114 : Int32)), (.int (116 : Int32)), (.int (0 : Int32)), (.int (0 : Int32)), (.int (0 : Int32)), (.int (0 : Int32)), (.int (0 : Int32)), (.int (0 : Int32)), (.int (0 : Int32)), (.int (0 : Int32)), (.int (0 : Int32)), (.int (0 : Int32)), (.int (0 : Int32))] (.int (0 : Int32)) := V515
    refine Jvm.Own.W.dup w513 od_0_412 rfl rfl ?_
    refine W.bipush w513 od_0_413 (pc' := 415) rfl (z := (42 : Int32)) rfl ?_
    refine W.bipush w513 od_0_415 (pc' := 417) rfl (z := (117 : Int32)) rfl ?_
    refine W.stC w513 (x' := (117 : Int32)) rfl V516 (i := 42) (by decide) ⟨by decide, by decide⟩ (Nat.le_of_ble_eq_true rfl) mem0 od_0_417 (pc' := 418) rfl fun T517 h518 w519 K520 V521 => ?_
    have V522 : Arv Z h518 a239 k240 .char (53 : Int32) [(.int (76 : Int32)), (.int (111 : Int32)), (.int (103 : Int32)), (.int (105 : Int32)), (.int (110 : Int32)), (.int (91 : Int32)), (.int (117 : Int32)), (.int (115 : Int32)), (.int (101 : Int32)), (.int (114 : Int32)), (.int (110 : Int32)), (.int (97 : Int32)), (.int (109 : Int32)), (.int (101 : Int32)), (.int (61 : Int32)), (.int z0), (.int z1), (.int (44 : Int32)), (.int (32 : Int32)), (.int (112 : Int32)), (.int (97 : Int32)), (.int (115 : Int32)), (.int (115 : Int32)), (.int (119 : Int32)), (.int (111 : Int32)), (.int (114 : Int32)), (.int (100 : Int32)), (.int (61 : Int32)), (.int (40 : Int32)), (.int (104 : Int32)), (.int (105 : Int32)), (.int (100 : Int32)), (.int (100 : Int32)), (.int (101 : Int32)), (.int (110 : Int32)), (.int (41 : Int32)), (.int (44 : Int32)), (.int (32 : Int32)), (.int (118 : Int32)), (.int (105 : Int32)), (.int (114 : Int32)), (.int (116 : Int32)), (.int (117 : Int32)), (.int (0 : Int32)), (.int (0 : Int32)), (.int (0 : Int32)), (.int (0 : Int32)), (.int (0 : Int32)), (.int (0 : Int32)), (.int (0 : Int32)), (.int (0 : Int32)), (.int (0 : Int32)), (.int (0 : Int32))] (.int (0 : Int32)) := V521
    refine Jvm.Own.W.dup w519 od_0_418 rfl rfl ?_
    refine W.bipush w519 od_0_419 (pc' := 421) rfl (z := (43 : Int32)) rfl ?_
    refine W.bipush w519 od_0_421 (pc' := 423) rfl (z := (97 : Int32)) rfl ?_
    refine W.stC w519 (x' := (97 : Int32)) rfl V522 (i := 43) (by decide) ⟨by decide, by decide⟩ (Nat.le_of_ble_eq_true rfl) mem0 od_0_423 (pc' := 424) rfl fun T523 h524 w525 K526 V527 => ?_
    have V528 : Arv Z h524 a239 k240 .char (53 : Int32) [(.int (76 : Int32)), (.int (111 : Int32)), (.int (103 : Int32)), (.int (105 : Int32)), (.int (110 : Int32)), (.int (91 : Int32)), (.int (117 : Int32)), (.int (115 : Int32)), (.int (101 : Int32)), (.int (114 : Int32)), (.int (110 : Int32)), (.int (97 : Int32)), (.int (109 : Int32)), (.int (101 : Int32)), (.int (61 : Int32)), (.int z0), (.int z1), (.int (44 : Int32)), (.int (32 : Int32)), (.int (112 : Int32)), (.int (97 : Int32)), (.int (115 : Int32)), (.int (115 : Int32)), (.int (119 : Int32)), (.int (111 : Int32)), (.int (114 : Int32)), (.int (100 : Int32)), (.int (61 : Int32)), (.int (40 : Int32)), (.int (104 : Int32)), (.int (105 : Int32)), (.int (100 : Int32)), (.int (100 : Int32)), (.int (101 : Int32)), (.int (110 : Int32)), (.int (41 : Int32)), (.int (44 : Int32)), (.int (32 : Int32)), (.int (118 : Int32)), (.int (105 : Int32)), (.int (114 : Int32)), (.int (116 : Int32)), (.int (117 : Int32)), (.int (97 : Int32)), (.int (0 : Int32)), (.int (0 : Int32)), (.int (0 : Int32)), (.int (0 : Int32)), (.int (0 : Int32)), (.int (0 : Int32)), (.int (0 : Int32)), (.int (0 : Int32)), (.int (0 : Int32))] (.int (0 : Int32)) := V527
    refine Jvm.Own.W.dup w525 od_0_424 rfl rfl ?_
    refine W.bipush w525 od_0_425 (pc' := 427) rfl (z := (44 : Int32)) rfl ?_
    refine W.bipush w525 od_0_427 (pc' := 429) rfl (z := (108 : Int32)) rfl ?_
    refine W.stC w525 (x' := (108 : Int32)) rfl V528 (i := 44) (by decide) ⟨by decide, by decide⟩ (Nat.le_of_ble_eq_true rfl) mem0 od_0_429 (pc' := 430) rfl fun T529 h530 w531 K532 V533 => ?_
    have V534 : Arv Z h530 a239 k240 .char (53 : Int32) [(.int (76 : Int32)), (.int (111 : Int32)), (.int (103 : Int32)), (.int (105 : Int32)), (.int (110 : Int32)), (.int (91 : Int32)), (.int (117 : Int32)), (.int (115 : Int32)), (.int (101 : Int32)), (.int (114 : Int32)), (.int (110 : Int32)), (.int (97 : Int32)), (.int (109 : Int32)), (.int (101 : Int32)), (.int (61 : Int32)), (.int z0), (.int z1), (.int (44 : Int32)), (.int (32 : Int32)), (.int (112 : Int32)), (.int (97 : Int32)), (.int (115 : Int32)), (.int (115 : Int32)), (.int (119 : Int32)), (.int (111 : Int32)), (.int (114 : Int32)), (.int (100 : Int32)), (.int (61 : Int32)), (.int (40 : Int32)), (.int (104 : Int32)), (.int (105 : Int32)), (.int (100 : Int32)), (.int (100 : Int32)), (.int (101 : Int32)), (.int (110 : Int32)), (.int (41 : Int32)), (.int (44 : Int32)), (.int (32 : Int32)), (.int (118 : Int32)), (.int (105 : Int32)), (.int (114 : Int32)), (.int (116 : Int32)), (.int (117 : Int32)), (.int (97 : Int32)), (.int (108 : Int32)), (.int (0 : Int32)), (.int (0 : Int32)), (.int (0 : Int32)), (.int (0 : Int32)), (.int (0 : Int32)), (.int (0 : Int32)), (.int (0 : Int32)), (.int (0 : Int32))] (.int (0 : Int32)) := V533
    refine Jvm.Own.W.dup w531 od_0_430 rfl rfl ?_
    refine W.bipush w531 od_0_431 (pc' := 433) rfl (z := (45 : Int32)) rfl ?_
    refine W.bipush w531 od_0_433 (pc' := 435) rfl (z := (72 : Int32)) rfl ?_
    refine W.stC w531 (x' := (72 : Int32)) rfl V534 (i := 45) (by decide) ⟨by decide, by decide⟩ (Nat.le_of_ble_eq_true rfl) mem0 od_0_435 (pc' := 436) rfl fun T535 h536 w537 K538 V539 => ?_
    have V540 : Arv Z h536 a239 k240 .char (53 : Int32) [(.int (76 : Int32)), (.int (111 : Int32)), (.int (103 : Int32)), (.int (105 : Int32)), (.int (110 : Int32)), (.int (91 : Int32)), (.int (117 : Int32)), (.int (115 : Int32)), (.int (101 : Int32)), (.int (114 : Int32)), (.int (110 : Int32)), (.int (97 : Int32)), (.int (109 : Int32)), (.int (101 : Int32)), (.int (61 : Int32)), (.int z0), (.int z1), (.int (44 : Int32)), (.int (32 : Int32)), (.int (112 : Int32)), (.int (97 : Int32)), (.int (115 : Int32)), (.int (115 : Int32)), (.int (119 : Int32)), (.int (111 : Int32)), (.int (114 : Int32)), (.int (100 : Int32)), (.int (61 : Int32)), (.int (40 : Int32)), (.int (104 : Int32)), (.int (105 : Int32)), (.int (100 : Int32)), (.int (100 : Int32)), (.int (101 : Int32)), (.int (110 : Int32)), (.int (41 : Int32)), (.int (44 : Int32)), (.int (32 : Int32)), (.int (118 : Int32)), (.int (105 : Int32)), (.int (114 : Int32)), (.int (116 : Int32)), (.int (117 : Int32)), (.int (97 : Int32)), (.int (108 : Int32)), (.int (72 : Int32)), (.int (0 : Int32)), (.int (0 : Int32)), (.int (0 : Int32)), (.int (0 : Int32)), (.int (0 : Int32)), (.int (0 : Int32)), (.int (0 : Int32))] (.int (0 : Int32)) := V539
    refine Jvm.Own.W.dup w537 od_0_436 rfl rfl ?_
    refine W.bipush w537 od_0_437 (pc' := 439) rfl (z := (46 : Int32)) rfl ?_
    refine W.bipush w537 od_0_439 (pc' := 441) rfl (z := (111 : Int32)) rfl ?_
    refine W.stC w537 (x' := (111 : Int32)) rfl V540 (i := 46) (by decide) ⟨by decide, by decide⟩ (Nat.le_of_ble_eq_true rfl) mem0 od_0_441 (pc' := 442) rfl fun T541 h542 w543 K544 V545 => ?_
    have V546 : Arv Z h542 a239 k240 .char (53 : Int32) [(.int (76 : Int32)), (.int (111 : Int32)), (.int (103 : Int32)), (.int (105 : Int32)), (.int (110 : Int32)), (.int (91 : Int32)), (.int (117 : Int32)), (.int (115 : Int32)), (.int (101 : Int32)), (.int (114 : Int32)), (.int (110 : Int32)), (.int (97 : Int32)), (.int (109 : Int32)), (.int (101 : Int32)), (.int (61 : Int32)), (.int z0), (.int z1), (.int (44 : Int32)), (.int (32 : Int32)), (.int (112 : Int32)), (.int (97 : Int32)), (.int (115 : Int32)), (.int (115 : Int32)), (.int (119 : Int32)), (.int (111 : Int32)), (.int (114 : Int32)), (.int (100 : Int32)), (.int (61 : Int32)), (.int (40 : Int32)), (.int (104 : Int32)), (.int (105 : Int32)), (.int (100 : Int32)), (.int (100 : Int32)), (.int (101 : Int32)), (.int (110 : Int32)), (.int (41 : Int32)), (.int (44 : Int32)), (.int (32 : Int32)), (.int (118 : Int32)), (.int (105 : Int32)), (.int (114 : Int32)), (.int (116 : Int32)), (.int (117 : Int32)), (.int (97 : Int32)), (.int (108 : Int32)), (.int (72 : Int32)), (.int (111 : Int32)), (.int (0 : Int32)), (.int (0 : Int32)), (.int (0 : Int32)), (.int (0 : Int32)), (.int (0 : Int32)), (.int (0 : Int32))] (.int (0 : Int32)) := V545
    refine Jvm.Own.W.dup w543 od_0_442 rfl rfl ?_
    refine W.bipush w543 od_0_443 (pc' := 445) rfl (z := (47 : Int32)) rfl ?_
    refine W.bipush w543 od_0_445 (pc' := 447) rfl (z := (115 : Int32)) rfl ?_
    refine W.stC w543 (x' := (115 : Int32)) rfl V546 (i := 47) (by decide) ⟨by decide, by decide⟩ (Nat.le_of_ble_eq_true rfl) mem0 od_0_447 (pc' := 448) rfl fun T547 h548 w549 K550 V551 => ?_
    have V552 : Arv Z h548 a239 k240 .char (53 : Int32) [(.int (76 : Int32)), (.int (111 : Int32)), (.int (103 : Int32)), (.int (105 : Int32)), (.int (110 : Int32)), (.int (91 : Int32)), (.int (117 : Int32)), (.int (115 : Int32)), (.int (101 : Int32)), (.int (114 : Int32)), (.int (110 : Int32)), (.int (97 : Int32)), (.int (109 : Int32)), (.int (101 : Int32)), (.int (61 : Int32)), (.int z0), (.int z1), (.int (44 : Int32)), (.int (32 : Int32)), (.int (112 : Int32)), (.int (97 : Int32)), (.int (115 : Int32)), (.int (115 : Int32)), (.int (119 : Int32)), (.int (111 : Int32)), (.int (114 : Int32)), (.int (100 : Int32)), (.int (61 : Int32)), (.int (40 : Int32)), (.int (104 : Int32)), (.int (105 : Int32)), (.int (100 : Int32)), (.int (100 : Int32)), (.int (101 : Int32)), (.int (110 : Int32)), (.int (41 : Int32)), (.int (44 : Int32)), (.int (32 : Int32)), (.int (118 : Int32)), (.int (105 : Int32)), (.int (114 : Int32)), (.int (116 : Int32)), (.int (117 : Int32)), (.int (97 : Int32)), (.int (108 : Int32)), (.int (72 : Int32)), (.int (111 : Int32)), (.int (115 : Int32)), (.int (0 : Int32)), (.int (0 : Int32)), (.int (0 : Int32)), (.int (0 : Int32)), (.int (0 : Int32))] (.int (0 : Int32)) := V551
    refine Jvm.Own.W.dup w549 od_0_448 rfl rfl ?_
    refine W.bipush w549 od_0_449 (pc' := 451) rfl (z := (48 : Int32)) rfl ?_
    refine W.bipush w549 od_0_451 (pc' := 453) rfl (z := (116 : Int32)) rfl ?_
    refine W.stC w549 (x' := (116 : Int32)) rfl V552 (i := 48) (by decide) ⟨by decide, by decide⟩ (Nat.le_of_ble_eq_true rfl) mem0 od_0_453 (pc' := 454) rfl fun T553 h554 w555 K556 V557 => ?_
    have V558 : Arv Z h554 a239 k240 .char (53 : Int32) [(.int (76 : Int32)), (.int (111 : Int32)), (.int (103 : Int32)), (.int (105 : Int32)), (.int (110 : Int32)), (.int (91 : Int32)), (.int (117 : Int32)), (.int (115 : Int32)), (.int (101 : Int32)), (.int (114 : Int32)), (.int (110 : Int32)), (.int (97 : Int32)), (.int (109 : Int32)), (.int (101 : Int32)), (.int (61 : Int32)), (.int z0), (.int z1), (.int (44 : Int32)), (.int (32 : Int32)), (.int (112 : Int32)), (.int (97 : Int32)), (.int (115 : Int32)), (.int (115 : Int32)), (.int (119 : Int32)), (.int (111 : Int32)), (.int (114 : Int32)), (.int (100 : Int32)), (.int (61 : Int32)), (.int (40 : Int32)), (.int (104 : Int32)), (.int (105 : Int32)), (.int (100 : Int32)), (.int (100 : Int32)), (.int (101 : Int32)), (.int (110 : Int32)), (.int (41 : Int32)), (.int (44 : Int32)), (.int (32 : Int32)), (.int (118 : Int32)), (.int (105 : Int32)), (.int (114 : Int32)), (.int (116 : Int32)), (.int (117 : Int32)), (.int (97 : Int32)), (.int (108 : Int32)), (.int (72 : Int32)), (.int (111 : Int32)), (.int (115 : Int32)), (.int (116 : Int32)), (.int (0 : Int32)), (.int (0 : Int32)), (.int (0 : Int32)), (.int (0 : Int32))] (.int (0 : Int32)) := V557
    refine Jvm.Own.W.dup w555 od_0_454 rfl rfl ?_
    refine W.bipush w555 od_0_455 (pc' := 457) rfl (z := (49 : Int32)) rfl ?_
    refine W.bipush w555 od_0_457 (pc' := 459) rfl (z := (61 : Int32)) rfl ?_
    refine W.stC w555 (x' := (61 : Int32)) rfl V558 (i := 49) (by decide) ⟨by decide, by decide⟩ (Nat.le_of_ble_eq_true rfl) mem0 od_0_459 (pc' := 460) rfl fun T559 h560 w561 K562 V563 => ?_
    have V564 : Arv Z h560 a239 k240 .char (53 : Int32) [(.int (76 : Int32)), (.int (111 : Int32)), (.int (103 : Int32)), (.int (105 : Int32)), (.int (110 : Int32)), (.int (91 : Int32)), (.int (117 : Int32)), (.int (115 : Int32)), (.int (101 : Int32)), (.int (114 : Int32)), (.int (110 : Int32)), (.int (97 : Int32)), (.int (109 : Int32)), (.int (101 : Int32)), (.int (61 : Int32)), (.int z0), (.int z1), (.int (44 : Int32)), (.int (32 : Int32)), (.int (112 : Int32)), (.int (97 : Int32)), (.int (115 : Int32)), (.int (115 : Int32)), (.int (119 : Int32)), (.int (111 : Int32)), (.int (114 : Int32)), (.int (100 : Int32)), (.int (61 : Int32)), (.int (40 : Int32)), (.int (104 : Int32)), (.int (105 : Int32)), (.int (100 : Int32)), (.int (100 : Int32)), (.int (101 : Int32)), (.int (110 : Int32)), (.int (41 : Int32)), (.int (44 : Int32)), (.int (32 : Int32)), (.int (118 : Int32)), (.int (105 : Int32)), (.int (114 : Int32)), (.int (116 : Int32)), (.int (117 : Int32)), (.int (97 : Int32)), (.int (108 : Int32)), (.int (72 : Int32)), (.int (111 : Int32)), (.int (115 : Int32)), (.int (116 : Int32)), (.int (61 : Int32)), (.int (0 : Int32)), (.int (0 : Int32)), (.int (0 : Int32))] (.int (0 : Int32)) := V563
    refine Jvm.Own.W.dup w561 od_0_460 rfl rfl ?_
    refine W.bipush w561 od_0_461 (pc' := 463) rfl (z := (50 : Int32)) rfl ?_
    refine W.iload w561 od_0_463 (pc' := 465) rfl rfl ?_
    refine W.stC w561 (x' := z4) (nar_lat hz4) V564 (i := 50) (by decide) ⟨by decide, by decide⟩ (Nat.le_of_ble_eq_true rfl) mem0 od_0_465 (pc' := 466) rfl fun T565 h566 w567 K568 V569 => ?_
    have V570 : Arv Z h566 a239 k240 .char (53 : Int32) [(.int (76 : Int32)), (.int (111 : Int32)), (.int (103 : Int32)), (.int (105 : Int32)), (.int (110 : Int32)), (.int (91 : Int32)), (.int (117 : Int32)), (.int (115 : Int32)), (.int (101 : Int32)), (.int (114 : Int32)), (.int (110 : Int32)), (.int (97 : Int32)), (.int (109 : Int32)), (.int (101 : Int32)), (.int (61 : Int32)), (.int z0), (.int z1), (.int (44 : Int32)), (.int (32 : Int32)), (.int (112 : Int32)), (.int (97 : Int32)), (.int (115 : Int32)), (.int (115 : Int32)), (.int (119 : Int32)), (.int (111 : Int32)), (.int (114 : Int32)), (.int (100 : Int32)), (.int (61 : Int32)), (.int (40 : Int32)), (.int (104 : Int32)), (.int (105 : Int32)), (.int (100 : Int32)), (.int (100 : Int32)), (.int (101 : Int32)), (.int (110 : Int32)), (.int (41 : Int32)), (.int (44 : Int32)), (.int (32 : Int32)), (.int (118 : Int32)), (.int (105 : Int32)), (.int (114 : Int32)), (.int (116 : Int32)), (.int (117 : Int32)), (.int (97 : Int32)), (.int (108 : Int32)), (.int (72 : Int32)), (.int (111 : Int32)), (.int (115 : Int32)), (.int (116 : Int32)), (.int (61 : Int32)), (.int z4), (.int (0 : Int32)), (.int (0 : Int32))] (.int (0 : Int32)) := V569
    refine Jvm.Own.W.dup w567 od_0_466 rfl rfl ?_
    refine W.bipush w567 od_0_467 (pc' := 469) rfl (z := (51 : Int32)) rfl ?_
    refine W.iload w567 od_0_469 (pc' := 471) rfl rfl ?_
    refine W.stC w567 (x' := z5) (nar_lat hz5) V570 (i := 51) (by decide) ⟨by decide, by decide⟩ (Nat.le_of_ble_eq_true rfl) mem0 od_0_471 (pc' := 472) rfl fun T571 h572 w573 K574 V575 => ?_
    have V576 : Arv Z h572 a239 k240 .char (53 : Int32) [(.int (76 : Int32)), (.int (111 : Int32)), (.int (103 : Int32)), (.int (105 : Int32)), (.int (110 : Int32)), (.int (91 : Int32)), (.int (117 : Int32)), (.int (115 : Int32)), (.int (101 : Int32)), (.int (114 : Int32)), (.int (110 : Int32)), (.int (97 : Int32)), (.int (109 : Int32)), (.int (101 : Int32)), (.int (61 : Int32)), (.int z0), (.int z1), (.int (44 : Int32)), (.int (32 : Int32)), (.int (112 : Int32)), (.int (97 : Int32)), (.int (115 : Int32)), (.int (115 : Int32)), (.int (119 : Int32)), (.int (111 : Int32)), (.int (114 : Int32)), (.int (100 : Int32)), (.int (61 : Int32)), (.int (40 : Int32)), (.int (104 : Int32)), (.int (105 : Int32)), (.int (100 : Int32)), (.int (100 : Int32)), (.int (101 : Int32)), (.int (110 : Int32)), (.int (41 : Int32)), (.int (44 : Int32)), (.int (32 : Int32)), (.int (118 : Int32)), (.int (105 : Int32)), (.int (114 : Int32)), (.int (116 : Int32)), (.int (117 : Int32)), (.int (97 : Int32)), (.int (108 : Int32)), (.int (72 : Int32)), (.int (111 : Int32)), (.int (115 : Int32)), (.int (116 : Int32)), (.int (61 : Int32)), (.int z4), (.int z5), (.int (0 : Int32))] (.int (0 : Int32)) := V575
    refine Jvm.Own.W.dup w573 od_0_472 rfl rfl ?_
    refine W.bipush w573 od_0_473 (pc' := 475) rfl (z := (52 : Int32)) rfl ?_
    refine W.bipush w573 od_0_475 (pc' := 477) rfl (z := (93 : Int32)) rfl ?_
    refine W.stC w573 (x' := (93 : Int32)) rfl V576 (i := 52) (by decide) ⟨by decide, by decide⟩ (Nat.le_of_ble_eq_true rfl) mem0 od_0_477 (pc' := 478) rfl fun T577 h578 w579 K580 V581 => ?_
    have V582 : Arv Z h578 a239 k240 .char (53 : Int32) [(.int (76 : Int32)), (.int (111 : Int32)), (.int (103 : Int32)), (.int (105 : Int32)), (.int (110 : Int32)), (.int (91 : Int32)), (.int (117 : Int32)), (.int (115 : Int32)), (.int (101 : Int32)), (.int (114 : Int32)), (.int (110 : Int32)), (.int (97 : Int32)), (.int (109 : Int32)), (.int (101 : Int32)), (.int (61 : Int32)), (.int z0), (.int z1), (.int (44 : Int32)), (.int (32 : Int32)), (.int (112 : Int32)), (.int (97 : Int32)), (.int (115 : Int32)), (.int (115 : Int32)), (.int (119 : Int32)), (.int (111 : Int32)), (.int (114 : Int32)), (.int (100 : Int32)), (.int (61 : Int32)), (.int (40 : Int32)), (.int (104 : Int32)), (.int (105 : Int32)), (.int (100 : Int32)), (.int (100 : Int32)), (.int (101 : Int32)), (.int (110 : Int32)), (.int (41 : Int32)), (.int (44 : Int32)), (.int (32 : Int32)), (.int (118 : Int32)), (.int (105 : Int32)), (.int (114 : Int32)), (.int (116 : Int32)), (.int (117 : Int32)), (.int (97 : Int32)), (.int (108 : Int32)), (.int (72 : Int32)), (.int (111 : Int32)), (.int (115 : Int32)), (.int (116 : Int32)), (.int (61 : Int32)), (.int z4), (.int z5), (.int (93 : Int32))] (.int (0 : Int32)) := V581
    refine W.astore w579 od_0_478 (pc' := 480) rfl (Ls' := #[.val (.int p0), .val (.int p1), .val (.int p2), .val (.int p3), .val (.int z0), .val (.int z1), .val (.int z2), .val (.int z3), .val (.int z4), .val (.int z5), .val (.ref a3), .val (.ref a51), .val (.ref a239)]) rfl rfl ?_
    have f591 := ((((((((((((((((((((((((((((((((((((((((((((((((((((((f245.keep K242).keep K268).keep K274).keep K280).keep K286).keep K292).keep K298).keep K304).keep K310).keep K316).keep K322).keep K328).keep K334).keep K340).keep K346).keep K352).keep K358).keep K364).keep K370).keep K376).keep K382).keep K388).keep K394).keep K400).keep K406).keep K412).keep K418).keep K424).keep K430).keep K436).keep K442).keep K448).keep K454).keep K460).keep K466).keep K472).keep K478).keep K484).keep K490).keep K496).keep K502).keep K508).keep K514).keep K520).keep K526).keep K532).keep K538).keep K544).keep K550).keep K556).keep K562).keep K568).keep K574).keep K580)
    have f592 := ((((((((((((((((((((((((((((((((((((((((((((((((((((((f246.keep K242 nin0).keep K268 (ninS ne255 nin0)).keep K274 (ninS ne255 nin0)).keep K280 (ninS ne255 nin0)).keep K286 (ninS ne255 nin0)).keep K292 (ninS ne255 nin0)).keep K298 (ninS ne255 nin0)).keep K304 (ninS ne255 nin0)).keep K310 (ninS ne255 nin0)).keep K316 (ninS ne255 nin0)).keep K322 (ninS ne255 nin0)).keep K328 (ninS ne255 nin0)).keep K334 (ninS ne255 nin0)).keep K340 (ninS ne255 nin0)).keep K346 (ninS ne255 nin0)).keep K352 (ninS ne255 nin0)).keep K358 (ninS ne255 nin0)).keep K364 (ninS ne255 nin0)).keep K370 (ninS ne255 nin0)).keep K376 (ninS ne255 nin0)).keep K382 (ninS ne255 nin0)).keep K388 (ninS ne255 nin0)).keep K394 (ninS ne255 nin0)).keep K400 (ninS ne255 nin0)).keep K406 (ninS ne255 nin0)).keep K412 (ninS ne255 nin0)).keep K418 (ninS ne255 nin0)).keep K424 (ninS ne255 nin0)).keep K430 (ninS ne255 nin0)).keep K436 (ninS ne255 nin0)).keep K442 (ninS ne255 nin0)).keep K448 (ninS ne255 nin0)).keep K454 (ninS ne255 nin0)).keep K460 (ninS ne255 nin0)).keep K466 (ninS ne255 nin0)).keep K472 (ninS ne255 nin0)).keep K478 (ninS ne255 nin0)).keep K484 (ninS ne255 nin0)).keep K490 (ninS ne255 nin0)).keep K496 (ninS ne255 nin0)).keep K502 (ninS ne255 nin0)).keep K508 (ninS ne255 nin0)).keep K514 (ninS ne255 nin0)).keep K520 (ninS ne255 nin0)).keep K526 (ninS ne255 nin0)).keep K532 (ninS ne255 nin0)).keep K538 (ninS ne255 nin0)).keep K544 (ninS ne255 nin0)).keep K550 (ninS ne255 nin0)).keep K556 (ninS ne255 nin0)).keep K562 (ninS ne255 nin0)).keep K568 (ninS ne255 nin0)).keep K574 (ninS ne255 nin0)).keep K580 (ninS ne255 nin0))
    have f593 := ((((((((((((((((((((((((((((((((((((((((((((((((((((((f247.keep K242 nin0 nin0).keep K268 (ninS ne254 nin0) (ninS ne256 nin0)).keep K274 (ninS ne254 nin0) (ninS ne256 nin0)).keep K280 (ninS ne254 nin0) (ninS ne256 nin0)).keep K286 (ninS ne254 nin0) (ninS ne256 nin0)).keep K292 (ninS ne254 nin0) (ninS ne256 nin0)).keep K298 (ninS ne254 nin0) (ninS ne256 nin0)).keep K304 (ninS ne254 nin0) (ninS ne256 nin0)).keep K310 (ninS ne254 nin0) (ninS ne256 nin0)).keep K316 (ninS ne254 nin0) (ninS ne256 nin0)).keep K322 (ninS ne254 nin0) (ninS ne256 nin0)).keep K328 (ninS ne254 nin0) (ninS ne256 nin0)).keep K334 (ninS ne254 nin0) (ninS ne256 nin0)).keep K340 (ninS ne254 nin0) (ninS ne256 nin0)).keep K346 (ninS ne254 nin0) (ninS ne256 nin0)).keep K352 (ninS ne254 nin0) (ninS ne256 nin0)).keep K358 (ninS ne254 nin0) (ninS ne256 nin0)).keep K364 (ninS ne254 nin0) (ninS ne256 nin0)).keep K370 (ninS ne254 nin0) (ninS ne256 nin0)).keep K376 (ninS ne254 nin0) (ninS ne256 nin0)).keep K382 (ninS ne254 nin0) (ninS ne256 nin0)).keep K388 (ninS ne254 nin0) (ninS ne256 nin0)).keep K394 (ninS ne254 nin0) (ninS ne256 nin0)).keep K400 (ninS ne254 nin0) (ninS ne256 nin0)).keep K406 (ninS ne254 nin0) (ninS ne256 nin0)).keep K412 (ninS ne254 nin0) (ninS ne256 nin0)).keep K418 (ninS ne254 nin0) (ninS ne256 nin0)).keep K424 (ninS ne254 nin0) (ninS ne256 nin0)).keep K430 (ninS ne254 nin0) (ninS ne256 nin0)).keep K436 (ninS ne254 nin0) (ninS ne256 nin0)).keep K442 (ninS ne254 nin0) (ninS ne256 nin0)).keep K448 (ninS ne254 nin0) (ninS ne256 nin0)).keep K454 (ninS ne254 nin0) (ninS ne256 nin0)).keep K460 (ninS ne254 nin0) (ninS ne256 nin0)).keep K466 (ninS ne254 nin0) (ninS ne256 nin0)).keep K472 (ninS ne254 nin0) (ninS ne256 nin0)).keep K478 (ninS ne254 nin0) (ninS ne256 nin0)).keep K484 (ninS ne254 nin0) (ninS ne256 nin0)).keep K490 (ninS ne254 nin0) (ninS ne256 nin0)).keep K496 (ninS ne254 nin0) (ninS ne256 nin0)).keep K502 (ninS ne254 nin0) (ninS ne256 nin0)).keep K508 (ninS ne254 nin0) (ninS ne256 nin0)).keep K514 (ninS ne254 nin0) (ninS ne256 nin0)).keep K520 (ninS ne254 nin0) (ninS ne256 nin0)).keep K526 (ninS ne254 nin0) (ninS ne256 nin0)).keep K532 (ninS ne254 nin0) (ninS ne256 nin0)).keep K538 (ninS ne254 nin0) (ninS ne256 nin0)).keep K544 (ninS ne254 nin0) (ninS ne256 nin0)).keep K550 (ninS ne254 nin0) (ninS ne256 nin0)).keep K556 (ninS ne254 nin0) (ninS ne256 nin0)).keep K562 (ninS ne254 nin0) (ninS ne256 nin0)).keep K568 (ninS ne254 nin0) (ninS ne256 nin0)).keep K574 (ninS ne254 nin0) (ninS ne256 nin0)).keep K580 (ninS ne254 nin0) (ninS ne256 nin0))
    have f594 := ((((((((((((((((((((((((((((((((((((((((((((((((((((((E234.keep K242).keep K268).keep K274).keep K280).keep K286).keep K292).keep K298).keep K304).keep K310).keep K316).keep K322).keep K328).keep K334).keep K340).keep K346).keep K352).keep K358).keep K364).keep K370).keep K376).keep K382).keep K388).keep K394).keep K400).keep K406).keep K412).keep K418).keep K424).keep K430).keep K436).keep K442).keep K448).keep K454).keep K460).keep K466).keep K472).keep K478).keep K484).keep K490).keep K496).keep K502).keep K508).keep K514).keep K520).keep K526).keep K532).keep K538).keep K544).keep K550).keep K556).keep K562).keep K568).keep K574).keep K580)
    have f595 := ((((((((((((((((((((((((((((((((((((((((((((((((((((((f248.keep K242).keep K268).keep K274).keep K280).keep K286).keep K292).keep K298).keep K304).keep K310).keep K316).keep K322).keep K328).keep K334).keep K340).keep K346).keep K352).keep K358).keep K364).keep K370).keep K376).keep K382).keep K388).keep K394).keep K400).keep K406).keep K412).keep K418).keep K424).keep K430).keep K436).keep K442).keep K448).keep K454).keep K460).keep K466).keep K472).keep K478).keep K484).keep K490).keep K496).keep K502).keep K508).keep K514).keep K520).keep K526).keep K532).keep K538).keep K544).keep K550).keep K556).keep K562).keep K568).keep K574).keep K580)
    have f596 := ((((((((((((((((((((((((((((((((((((((((((((((((((((((f249.keep K242 nin0).keep K268 (ninS ne259 nin0)).keep K274 (ninS ne259 nin0)).keep K280 (ninS ne259 nin0)).keep K286 (ninS ne259 nin0)).keep K292 (ninS ne259 nin0)).keep K298 (ninS ne259 nin0)).keep K304 (ninS ne259 nin0)).keep K310 (ninS ne259 nin0)).keep K316 (ninS ne259 nin0)).keep K322 (ninS ne259 nin0)).keep K328 (ninS ne259 nin0)).keep K334 (ninS ne259 nin0)).keep K340 (ninS ne259 nin0)).keep K346 (ninS ne259 nin0)).keep K352 (ninS ne259 nin0)).keep K358 (ninS ne259 nin0)).keep K364 (ninS ne259 nin0)).keep K370 (ninS ne259 nin0)).keep K376 (ninS ne259 nin0)).keep K382 (ninS ne259 nin0)).keep K388 (ninS ne259 nin0)).keep K394 (ninS ne259 nin0)).keep K400 (ninS ne259 nin0)).keep K406 (ninS ne259 nin0)).keep K412 (ninS ne259 nin0)).keep K418 (ninS ne259 nin0)).keep K424 (ninS ne259 nin0)).keep K430 (ninS ne259 nin0)).keep K436 (ninS ne259 nin0)).keep K442 (ninS ne259 nin0)).keep K448 (ninS ne259 nin0)).keep K454 (ninS ne259 nin0)).keep K460 (ninS ne259 nin0)).keep K466 (ninS ne259 nin0)).keep K472 (ninS ne259 nin0)).keep K478 (ninS ne259 nin0)).keep K484 (ninS ne259 nin0)).keep K490 (ninS ne259 nin0)).keep K496 (ninS ne259 nin0)).keep K502 (ninS ne259 nin0)).keep K508 (ninS ne259 nin0)).keep K514 (ninS ne259 nin0)).keep K520 (ninS ne259 nin0)).keep K526 (ninS ne259 nin0)).keep K532 (ninS ne259 nin0)).keep K538 (ninS ne259 nin0)).keep K544 (ninS ne259 nin0)).keep K550 (ninS ne259 nin0)).keep K556 (ninS ne259 nin0)).keep K562 (ninS ne259 nin0)).keep K568 (ninS ne259 nin0)).keep K574 (ninS ne259 nin0)).keep K580 (ninS ne259 nin0))
    have f597 := ((((((((((((((((((((((((((((((((((((((((((((((((((((((f250.keep K242 nin0 nin0).keep K268 (ninS ne258 nin0) (ninS ne260 nin0)).keep K274 (ninS ne258 nin0) (ninS ne260 nin0)).keep K280 (ninS ne258 nin0) (ninS ne260 nin0)).keep K286 (ninS ne258 nin0) (ninS ne260 nin0)).keep K292 (ninS ne258 nin0) (ninS ne260 nin0)).keep K298 (ninS ne258 nin0) (ninS ne260 nin0)).keep K304 (ninS ne258 nin0) (ninS ne260 nin0)).keep K310 (ninS ne258 nin0) (ninS ne260 nin0)).keep K316 (ninS ne258 nin0) (ninS ne260 nin0)).keep K322 (ninS ne258 nin0) (ninS ne260 nin0)).keep K328 (ninS ne258 nin0) (ninS ne260 nin0)).keep K334 (ninS ne258 nin0) (ninS ne260 nin0)).keep K340 (ninS ne258 nin0) (ninS ne260 nin0)).keep K346 (ninS ne258 nin0) (ninS ne260 nin0)).keep K352 (ninS ne258 nin0) (ninS ne260 nin0)).keep K358 (ninS ne258 nin0) (ninS ne260 nin0)).keep K364 (ninS ne258 nin0) (ninS ne260 nin0)).keep K370 (ninS ne258 nin0) (ninS ne260 nin0)).keep K376 (ninS ne258 nin0) (ninS ne260 nin0)).keep K382 (ninS ne258 nin0) (ninS ne260 nin0)).keep K388 (ninS ne258 nin0) (ninS ne260 nin0)).keep K394 (ninS ne258 nin0) (ninS ne260 nin0)).keep K400 (ninS ne258 nin0) (ninS ne260 nin0)).keep K406 (ninS ne258 nin0) (ninS ne260 nin0)).keep K412 (ninS ne258 nin0) (ninS ne260 nin0)).keep K418 (ninS ne258 nin0) (ninS ne260 nin0)).keep K424 (ninS ne258 nin0) (ninS ne260 nin0)).keep K430 (ninS ne258 nin0) (ninS ne260 nin0)).keep K436 (ninS ne258 nin0) (ninS ne260 nin0)).keep K442 (ninS ne258 nin0) (ninS ne260 nin0)).keep K448 (ninS ne258 nin0) (ninS ne260 nin0)).keep K454 (ninS ne258 nin0) (ninS ne260 nin0)).keep K460 (ninS ne258 nin0) (ninS ne260 nin0)).keep K466 (ninS ne258 nin0) (ninS ne260 nin0)).keep K472 (ninS ne258 nin0) (ninS ne260 nin0)).keep K478 (ninS ne258 nin0) (ninS ne260 nin0)).keep K484 (ninS ne258 nin0) (ninS ne260 nin0)).keep K490 (ninS ne258 nin0) (ninS ne260 nin0)).keep K496 (ninS ne258 nin0) (ninS ne260 nin0)).keep K502 (ninS ne258 nin0) (ninS ne260 nin0)).keep K508 (ninS ne258 nin0) (ninS ne260 nin0)).keep K514 (ninS ne258 nin0) (ninS ne260 nin0)).keep K520 (ninS ne258 nin0) (ninS ne260 nin0)).keep K526 (ninS ne258 nin0) (ninS ne260 nin0)).keep K532 (ninS ne258 nin0) (ninS ne260 nin0)).keep K538 (ninS ne258 nin0) (ninS ne260 nin0)).keep K544 (ninS ne258 nin0) (ninS ne260 nin0)).keep K550 (ninS ne258 nin0) (ninS ne260 nin0)).keep K556 (ninS ne258 nin0) (ninS ne260 nin0)).keep K562 (ninS ne258 nin0) (ninS ne260 nin0)).keep K568 (ninS ne258 nin0) (ninS ne260 nin0)).keep K574 (ninS ne258 nin0) (ninS ne260 nin0)).keep K580 (ninS ne258 nin0) (ninS ne260 nin0))
    have f598 := ((((((((((((((((((((((((((((((((((((((((((((((((((((((f251.keep K242).keep K268).keep K274).keep K280).keep K286).keep K292).keep K298).keep K304).keep K310).keep K316).keep K322).keep K328).keep K334).keep K340).keep K346).keep K352).keep K358).keep K364).keep K370).keep K376).keep K382).keep K388).keep K394).keep K400).keep K406).keep K412).keep K418).keep K424).keep K430).keep K436).keep K442).keep K448).keep K454).keep K460).keep K466).keep K472).keep K478).keep K484).keep K490).keep K496).keep K502).keep K508).keep K514).keep K520).keep K526).keep K532).keep K538).keep K544).keep K550).keep K556).keep K562).keep K568).keep K574).keep K580)
    have f599 := ((((((((((((((((((((((((((((((((((((((((((((((((((((((f252.keep K242 nin0).keep K268 (ninS ne262 nin0)).keep K274 (ninS ne262 nin0)).keep K280 (ninS ne262 nin0)).keep K286 (ninS ne262 nin0)).keep K292 (ninS ne262 nin0)).keep K298 (ninS ne262 nin0)).keep K304 (ninS ne262 nin0)).keep K310 (ninS ne262 nin0)).keep K316 (ninS ne262 nin0)).keep K322 (ninS ne262 nin0)).keep K328 (ninS ne262 nin0)).keep K334 (ninS ne262 nin0)).keep K340 (ninS ne262 nin0)).keep K346 (ninS ne262 nin0)).keep K352 (ninS ne262 nin0)).keep K358 (ninS ne262 nin0)).keep K364 (ninS ne262 nin0)).keep K370 (ninS ne262 nin0)).keep K376 (ninS ne262 nin0)).keep K382 (ninS ne262 nin0)).keep K388 (ninS ne262 nin0)).keep K394 (ninS ne262 nin0)).keep K400 (ninS ne262 nin0)).keep K406 (ninS ne262 nin0)).keep K412 (ninS ne262 nin0)).keep K418 (ninS ne262 nin0)).keep K424 (ninS ne262 nin0)).keep K430 (ninS ne262 nin0)).keep K436 (ninS ne262 nin0)).keep K442 (ninS ne262 nin0)).keep K448 (ninS ne262 nin0)).keep K454 (ninS ne262 nin0)).keep K460 (ninS ne262 nin0)).keep K466 (ninS ne262 nin0)).keep K472 (ninS ne262 nin0)).keep K478 (ninS ne262 nin0)).keep K484 (ninS ne262 nin0)).keep K490 (ninS ne262 nin0)).keep K496 (ninS ne262 nin0)).keep K502 (ninS ne262 nin0)).keep K508 (ninS ne262 nin0)).keep K514 (ninS ne262 nin0)).keep K520 (ninS ne262 nin0)).keep K526 (ninS ne262 nin0)).keep K532 (ninS ne262 nin0)).keep K538 (ninS ne262 nin0)).keep K544 (ninS ne262 nin0)).keep K550 (ninS ne262 nin0)).keep K556 (ninS ne262 nin0)).keep K562 (ninS ne262 nin0)).keep K568 (ninS ne262 nin0)).keep K574 (ninS ne262 nin0)).keep K580 (ninS ne262 nin0))
    have f600 := ((((((((((((((((((((((((((((((((((((((((((((((((((((((f253.keep K242 nin0 nin0).keep K268 (ninS ne261 nin0) (ninS ne263 nin0)).keep K274 (ninS ne261 nin0) (ninS ne263 nin0)).keep K280 (ninS ne261 nin0) (ninS ne263 nin0)).keep K286 (ninS ne261 nin0) (ninS ne263 nin0)).keep K292 (ninS ne261 nin0) (ninS ne263 nin0)).keep K298 (ninS ne261 nin0) (ninS ne263 nin0)).keep K304 (ninS ne261 nin0) (ninS ne263 nin0)).keep K310 (ninS ne261 nin0) (ninS ne263 nin0)).keep K316 (ninS ne261 nin0) (ninS ne263 nin0)).keep K322 (ninS ne261 nin0) (ninS ne263 nin0)).keep K328 (ninS ne261 nin0) (ninS ne263 nin0)).keep K334 (ninS ne261 nin0) (ninS ne263 nin0)).keep K340 (ninS ne261 nin0) (ninS ne263 nin0)).keep K346 (ninS ne261 nin0) (ninS ne263 nin0)).keep K352 (ninS ne261 nin0) (ninS ne263 nin0)).keep K358 (ninS ne261 nin0) (ninS ne263 nin0)).keep K364 (ninS ne261 nin0) (ninS ne263 nin0)).keep K370 (ninS ne261 nin0) (ninS ne263 nin0)).keep K376 (ninS ne261 nin0) (ninS ne263 nin0)).keep K382 (ninS ne261 nin0) (ninS ne263 nin0)).keep K388 (ninS ne261 nin0) (ninS ne263 nin0)).keep K394 (ninS ne261 nin0) (ninS ne263 nin0)).keep K400 (ninS ne261 nin0) (ninS ne263 nin0)).keep K406 (ninS ne261 nin0) (ninS ne263 nin0)).keep K412 (ninS ne261 nin0) (ninS ne263 nin0)).keep K418 (ninS ne261 nin0) (ninS ne263 nin0)).keep K424 (ninS ne261 nin0) (ninS ne263 nin0)).keep K430 (ninS ne261 nin0) (ninS ne263 nin0)).keep K436 (ninS ne261 nin0) (ninS ne263 nin0)).keep K442 (ninS ne261 nin0) (ninS ne263 nin0)).keep K448 (ninS ne261 nin0) (ninS ne263 nin0)).keep K454 (ninS ne261 nin0) (ninS ne263 nin0)).keep K460 (ninS ne261 nin0) (ninS ne263 nin0)).keep K466 (ninS ne261 nin0) (ninS ne263 nin0)).keep K472 (ninS ne261 nin0) (ninS ne263 nin0)).keep K478 (ninS ne261 nin0) (ninS ne263 nin0)).keep K484 (ninS ne261 nin0) (ninS ne263 nin0)).keep K490 (ninS ne261 nin0) (ninS ne263 nin0)).keep K496 (ninS ne261 nin0) (ninS ne263 nin0)).keep K502 (ninS ne261 nin0) (ninS ne263 nin0)).keep K508 (ninS ne261 nin0) (ninS ne263 nin0)).keep K514 (ninS ne261 nin0) (ninS ne263 nin0)).keep K520 (ninS ne261 nin0) (ninS ne263 nin0)).keep K526 (ninS ne261 nin0) (ninS ne263 nin0)).keep K532 (ninS ne261 nin0) (ninS ne263 nin0)).keep K538 (ninS ne261 nin0) (ninS ne263 nin0)).keep K544 (ninS ne261 nin0) (ninS ne263 nin0)).keep K550 (ninS ne261 nin0) (ninS ne263 nin0)).keep K556 (ninS ne261 nin0) (ninS ne263 nin0)).keep K562 (ninS ne261 nin0) (ninS ne263 nin0)).keep K568 (ninS ne261 nin0) (ninS ne263 nin0)).keep K574 (ninS ne261 nin0) (ninS ne263 nin0)).keep K580 (ninS ne261 nin0) (ninS ne263 nin0))
    refine W.newO w579 (ow_0 hw) (ow_1 hw) (ow_2 hw) od_0_480 (pc' := 483) rfl (by decide) (by decide) fun T583 h584 a585 w586 K587 B588 E589 D590 => ?_
    have ne601 : a3 ≠ a585 := neL f591.lt B588
    have ne602 : a13 ≠ a585 := neL f592.lt B588
    have ne603 : t43 ≠ a585 := neL f593.lt2 B588
    have ne604 : a51 ≠ a585 := neL f594.lt B588
    have ne605 : a67 ≠ a585 := neL f595.lt B588
    have ne606 : a84 ≠ a585 := neL f596.lt B588
    have ne607 : t126 ≠ a585 := neL f597.lt2 B588
    have ne608 : a137 ≠ a585 := neL f598.lt B588
    have ne609 : a160 ≠ a585 := neL f599.lt B588
    have ne610 : t211 ≠ a585 := neL f600.lt2 B588
    have ne611 : a239 ≠ a585 := neL V582.lt B588
    have F612 : Fld Z h584 a585 "java/lang/String" "coder" "B" (.int (0 : Int32)) := D590 (Or.inr (ow_27 hw)) (ty := .byte) (by decide)
    have F613 : Fld Z h584 a585 "java/lang/String" "value" "[B" .null := D590 (Or.inr (ow_29 hw)) (ty := (.array .byte)) (by decide)
    refine Jvm.Own.W.dup w586 od_0_483 rfl rfl ?_
    refine W.aload w586 od_0_484 (pc' := 486) rfl rfl rfl ?_
    have f614 := (V582.keep K587 nin0)
    have f615 := (f591.keep K587)
    have f616 := (f592.keep K587 nin0)
    have f617 := (f593.keep K587 nin0 nin0)
    have f618 := (f594.keep K587)
    have f619 := (f595.keep K587)
    have f620 := (f596.keep K587 nin0)
    have f621 := (f597.keep K587 nin0 nin0)
    have f622 := (f598.keep K587)
    have f623 := (f599.keep K587 nin0)
    have f624 := (f600.keep K587 nin0 nin0)
    refine W.callI w586 (ow_4 hw) (ow_5 hw) (ow_6 hw) rfl (by decide) opd_21 (own_init hw w586.old (w586.mut mem0).1 E589 F613 F612 (cs := [(76 : Int32), (111 : Int32), (103 : Int32), (105 : Int32), (110 : Int32), (91 : Int32), (117 : Int32), (115 : Int32), (101 : Int32), (114 : Int32), (110 : Int32), (97 : Int32), (109 : Int32), (101 : Int32), (61 : Int32), z0, z1, (44 : Int32), (32 : Int32), (112 : Int32), (97 : Int32), (115 : Int32), (115 : Int32), (119 : Int32), (111 : Int32), (114 : Int32), (100 : Int32), (61 : Int32), (40 : Int32), (104 : Int32), (105 : Int32), (100 : Int32), (100 : Int32), (101 : Int32), (110 : Int32), (41 : Int32), (44 : Int32), (32 : Int32), (118 : Int32), (105 : Int32), (114 : Int32), (116 : Int32), (117 : Int32), (97 : Int32), (108 : Int32), (72 : Int32), (111 : Int32), (115 : Int32), (116 : Int32), (61 : Int32), z4, z5, (93 : Int32)]) f614 (n := 53) rfl rfl (by decide) (by decide) (faS (by decide) (faS (by decide) (faS (by decide) (faS (by decide) (faS (by decide) (faS (by decide) (faS (by decide) (faS (by decide) (faS (by decide) (faS (by decide) (faS (by decide) (faS (by decide) (faS (by decide) (faS (by decide) (faS (by decide) (faS hz0 (faS hz1 (faS (by decide) (faS (by decide) (faS (by decide) (faS (by decide) (faS (by decide) (faS (by decide) (faS (by decide) (faS (by decide) (faS (by decide) (faS (by decide) (faS (by decide) (faS (by decide) (faS (by decide) (faS (by decide) (faS (by decide) (faS (by decide) (faS (by decide) (faS (by decide) (faS (by decide) (faS (by decide) (faS (by decide) (faS (by decide) (faS (by decide) (faS (by decide) (faS (by decide) (faS (by decide) (faS (by decide) (faS (by decide) (faS (by decide) (faS (by decide) (faS (by decide) (faS (by decide) (faS (by decide) (faS hz4 (faS hz5 (faS (by decide) fa0)))))))))))))))))))))))))))))))))))))))))))))))))))))) (mC mem0 mN) od_0_486 (pc' := 489) rfl rfl rfl (rest := [(.ref a585)]) rfl (Wd := 1) rfl (by decide) (by decide) (by decide) (by decide) fun v627 T625 h626 M628 w629 q630 => ?_
    obtain ⟨rfl, rfl, K631, t632, B633, F634⟩ := q630
    have ne635 : a3 ≠ t632 := neL f615.lt B633
    have ne636 : a13 ≠ t632 := neL f616.lt B633
    have ne637 : t43 ≠ t632 := neL f617.lt2 B633
    have ne638 : a51 ≠ t632 := neL f618.lt B633
    have ne639 : a67 ≠ t632 := neL f619.lt B633
    have ne640 : a84 ≠ t632 := neL f620.lt B633
    have ne641 : t126 ≠ t632 := neL f621.lt2 B633
    have ne642 : a137 ≠ t632 := neL f622.lt B633
    have ne643 : a160 ≠ t632 := neL f623.lt B633
    have ne644 : t211 ≠ t632 := neL f624.lt2 B633
    have ne645 : a239 ≠ t632 := neL f614.lt B633
    have ne646 : a585 ≠ t632 := neL E589.lt B633
    show Go Z _ _ _ κ _ (T625.setTop (mkF (km κ) 489 #[.val (.int p0), .val (.int p1), .val (.int p2), .val (.int p3), .val (.int z0), .val (.int z1), .val (.int z2), .val (.int z3), .val (.int z4), .val (.int z5), .val (.ref a3), .val (.ref a51), .val (.ref a239)] [(.ref a585)]))
    refine W.aload w629 od_0_489 (pc' := 491) rfl rfl rfl ?_
    have f647 := (f615.keep K631)
    have f648 := (f616.keep K631 (ninS ne602 nin0))
    have f649 := (f617.keep K631 (ninS ne601 nin0) (ninS ne603 nin0))
    have f650 := (f618.keep K631)
    have f651 := (f619.keep K631)
    have f652 := (f620.keep K631 (ninS ne606 nin0))
    have f653 := (f621.keep K631 (ninS ne605 nin0) (ninS ne607 nin0))
    have f654 := (f622.keep K631)
    have f655 := (f623.keep K631 (ninS ne609 nin0))
    have f656 := (f624.keep K631 (ninS ne608 nin0) (ninS ne610 nin0))
    have f657 := (f614.keep K631 (ninS ne611 nin0))
    have f658 := (E589.keep K631)
    have f659 := ((((((((((((((((((((((((((((((((((((((((((((((((((((((((F235.keep K242 nin0).keep K268 (ninS ne257 nin0)).keep K274 (ninS ne257 nin0)).keep K280 (ninS ne257 nin0)).keep K286 (ninS ne257 nin0)).keep K292 (ninS ne257 nin0)).keep K298 (ninS ne257 nin0)).keep K304 (ninS ne257 nin0)).keep K310 (ninS ne257 nin0)).keep K316 (ninS ne257 nin0)).keep K322 (ninS ne257 nin0)).keep K328 (ninS ne257 nin0)).keep K334 (ninS ne257 nin0)).keep K340 (ninS ne257 nin0)).keep K346 (ninS ne257 nin0)).keep K352 (ninS ne257 nin0)).keep K358 (ninS ne257 nin0)).keep K364 (ninS ne257 nin0)).keep K370 (ninS ne257 nin0)).keep K376 (ninS ne257 nin0)).keep K382 (ninS ne257 nin0)).keep K388 (ninS ne257 nin0)).keep K394 (ninS ne257 nin0)).keep K400 (ninS ne257 nin0)).keep K406 (ninS ne257 nin0)).keep K412 (ninS ne257 nin0)).keep K418 (ninS ne257 nin0)).keep K424 (ninS ne257 nin0)).keep K430 (ninS ne257 nin0)).keep K436 (ninS ne257 nin0)).keep K442 (ninS ne257 nin0)).keep K448 (ninS ne257 nin0)).keep K454 (ninS ne257 nin0)).keep K460 (ninS ne257 nin0)).keep K466 (ninS ne257 nin0)).keep K472 (ninS ne257 nin0)).keep K478 (ninS ne257 nin0)).keep K484 (ninS ne257 nin0)).keep K490 (ninS ne257 nin0)).keep K496 (ninS ne257 nin0)).keep K502 (ninS ne257 nin0)).keep K508 (ninS ne257 nin0)).keep K514 (ninS ne257 nin0)).keep K520 (ninS ne257 nin0)).keep K526 (ninS ne257 nin0)).keep K532 (ninS ne257 nin0)).keep K538 (ninS ne257 nin0)).keep K544 (ninS ne257 nin0)).keep K550 (ninS ne257 nin0)).keep K556 (ninS ne257 nin0)).keep K562 (ninS ne257 nin0)).keep K568 (ninS ne257 nin0)).keep K574 (ninS ne257 nin0)).keep K580 (ninS ne257 nin0)).keep K587 nin0).keep K631 (ninS ne604 nin0))
    have f660 := ((((((((((((((((((((((((((((((((((((((((((((((((((((((((F236.keep K242 nin0).keep K268 (ninS ne257 nin0)).keep K274 (ninS ne257 nin0)).keep K280 (ninS ne257 nin0)).keep K286 (ninS ne257 nin0)).keep K292 (ninS ne257 nin0)).keep K298 (ninS ne257 nin0)).keep K304 (ninS ne257 nin0)).keep K310 (ninS ne257 nin0)).keep K316 (ninS ne257 nin0)).keep K322 (ninS ne257 nin0)).keep K328 (ninS ne257 nin0)).keep K334 (ninS ne257 nin0)).keep K340 (ninS ne257 nin0)).keep K346 (ninS ne257 nin0)).keep K352 (ninS ne257 nin0)).keep K358 (ninS ne257 nin0)).keep K364 (ninS ne257 nin0)).keep K370 (ninS ne257 nin0)).keep K376 (ninS ne257 nin0)).keep K382 (ninS ne257 nin0)).keep K388 (ninS ne257 nin0)).keep K394 (ninS ne257 nin0)).keep K400 (ninS ne257 nin0)).keep K406 (ninS ne257 nin0)).keep K412 (ninS ne257 nin0)).keep K418 (ninS ne257 nin0)).keep K424 (ninS ne257 nin0)).keep K430 (ninS ne257 nin0)).keep K436 (ninS ne257 nin0)).keep K442 (ninS ne257 nin0)).keep K448 (ninS ne257 nin0)).keep K454 (ninS ne257 nin0)).keep K460 (ninS ne257 nin0)).keep K466 (ninS ne257 nin0)).keep K472 (ninS ne257 nin0)).keep K478 (ninS ne257 nin0)).keep K484 (ninS ne257 nin0)).keep K490 (ninS ne257 nin0)).keep K496 (ninS ne257 nin0)).keep K502 (ninS ne257 nin0)).keep K508 (ninS ne257 nin0)).keep K514 (ninS ne257 nin0)).keep K520 (ninS ne257 nin0)).keep K526 (ninS ne257 nin0)).keep K532 (ninS ne257 nin0)).keep K538 (ninS ne257 nin0)).keep K544 (ninS ne257 nin0)).keep K550 (ninS ne257 nin0)).keep K556 (ninS ne257 nin0)).keep K562 (ninS ne257 nin0)).keep K568 (ninS ne257 nin0)).keep K574 (ninS ne257 nin0)).keep K580 (ninS ne257 nin0)).keep K587 nin0).keep K631 (ninS ne604 nin0))
    refine W.callV w629 (ow_59 hw) (ow_60 hw) (nfSel (ow_62 hw)) (ow_62 hw) (ow_61 hw) (by decide) opd_20 f650 (Ctr.pay (c_tostr2 hw f659 f660 f653 f656 w629.old) (own_ew hw) (ow_63 hw) (ow_32 hw) (kf := 7) (kl := 103) (by decide) (by decide)) mN od_0_491 (pc' := 494) rfl rfl rfl (rest := [(.ref a585)]) rfl (Wd := 1) rfl (by decide) (by decide) (by decide) (by decide) fun v663 T661 h662 M664 w665 q666 => ?_
    obtain ⟨a667, rfl, rfl, K668, B669, t670, B671, F672⟩ := q666
    have ne673 : a3 ≠ a667 := neL f647.lt B669
    have ne674 : a13 ≠ a667 := neL f648.lt B669
    have ne675 : t43 ≠ a667 := neL f649.lt2 B669
    have ne676 : a51 ≠ a667 := neL f650.lt B669
    have ne677 : a67 ≠ a667 := neL f651.lt B669
    have ne678 : a84 ≠ a667 := neL f652.lt B669
    have ne679 : t126 ≠ a667 := neL f653.lt2 B669
    have ne680 : a137 ≠ a667 := neL f654.lt B669
    have ne681 : a160 ≠ a667 := neL f655.lt B669
    have ne682 : t211 ≠ a667 := neL f656.lt2 B669
    have ne683 : a239 ≠ a667 := neL f657.lt B669
    have ne684 : a585 ≠ a667 := neL f658.lt B669
    have ne685 : t632 ≠ a667 := neL F634.lt2 B669
    have ne686 : a3 ≠ t670 := neL f647.lt B671
    have ne687 : a13 ≠ t670 := neL f648.lt B671
    have ne688 : t43 ≠ t670 := neL f649.lt2 B671
    have ne689 : a51 ≠ t670 := neL f650.lt B671
    have ne690 : a67 ≠ t670 := neL f651.lt B671
    have ne691 : a84 ≠ t670 := neL f652.lt B671
    have ne692 : t126 ≠ t670 := neL f653.lt2 B671
    have ne693 : a137 ≠ t670 := neL f654.lt B671
    have ne694 : a160 ≠ t670 := neL f655.lt B671
    have ne695 : t211 ≠ t670 := neL f656.lt2 B671
    have ne696 : a239 ≠ t670 := neL f657.lt B671
    have ne697 : a585 ≠ t670 := neL f658.lt B671
    have ne698 : t632 ≠ t670 := neL F634.lt2 B671
    show Go Z _ _ _ κ _ (T661.setTop (mkF (km κ) 494 #[.val (.int p0), .val (.int p1), .val (.int p2), .val (.int p3), .val (.int z0), .val (.int z1), .val (.int z2), .val (.int z3), .val (.int z4), .val (.int z5), .val (.ref a3), .val (.ref a51), .val (.ref a239)] [(.ref a667), (.ref a585)]))
    have f699 := (F634.keep K668 nin0 nin0)
    have f706 := (f658.keep K668)
    refine W.callV w665 (ow_194 hw) (ow_195 hw) (nfSel (ow_197 hw)) (ow_197 hw) (ow_196 hw) (by decide) opd_23 f706 (own_eq hw w665.old f699 F672) mN od_0_494 (pc' := 497) rfl rfl rfl (rest := []) rfl (Wd := 0) rfl (by decide) (by decide) (by decide) (by decide) fun v702 T700 h701 M703 w704 q705 => ?_
    have q707 : (if [(76 : Int32), (111 : Int32), (103 : Int32), (105 : Int32), (110 : Int32), (91 : Int32), (117 : Int32), (115 : Int32), (101 : Int32), (114 : Int32), (110 : Int32), (97 : Int32), (109 : Int32), (101 : Int32), (61 : Int32), z0, z1, (44 : Int32), (32 : Int32), (112 : Int32), (97 : Int32), (115 : Int32), (115 : Int32), (119 : Int32), (111 : Int32), (114 : Int32), (100 : Int32), (61 : Int32), (40 : Int32), (104 : Int32), (105 : Int32), (100 : Int32), (100 : Int32), (101 : Int32), (110 : Int32), (41 : Int32), (44 : Int32), (32 : Int32), (118 : Int32), (105 : Int32), (114 : Int32), (116 : Int32), (117 : Int32), (97 : Int32), (108 : Int32), (72 : Int32), (111 : Int32), (115 : Int32), (116 : Int32), (61 : Int32), z4, z5, (93 : Int32)] = [(76 : Int32), (111 : Int32), (103 : Int32), (105 : Int32), (110 : Int32), (91 : Int32), (117 : Int32), (115 : Int32), (101 : Int32), (114 : Int32), (110 : Int32), (97 : Int32), (109 : Int32), (101 : Int32), (61 : Int32), z0, z1, (44 : Int32), (32 : Int32), (112 : Int32), (97 : Int32), (115 : Int32), (115 : Int32), (119 : Int32), (111 : Int32), (114 : Int32), (100 : Int32), (61 : Int32), (40 : Int32), (104 : Int32), (105 : Int32), (100 : Int32), (100 : Int32), (101 : Int32), (110 : Int32), (41 : Int32), (44 : Int32), (32 : Int32), (118 : Int32), (105 : Int32), (114 : Int32), (116 : Int32), (117 : Int32), (97 : Int32), (108 : Int32), (72 : Int32), (111 : Int32), (115 : Int32), (116 : Int32), (61 : Int32), z4, z5, (93 : Int32)] then 1 else 0 : Int32) = (1 : Int32) := if_pos rfl
    rw [q707] at q705
    obtain ⟨rfl, rfl, e708⟩ := q705
    obtain rfl := e708.symm
    show Go Z _ _ _ κ _ (T700.setTop (mkF (km κ) 497 #[.val (.int p0), .val (.int p1), .val (.int p2), .val (.int p3), .val (.int z0), .val (.int z1), .val (.int z2), .val (.int z3), .val (.int z4), .val (.int z5), .val (.ref a3), .val (.ref a51), .val (.ref a239)] [(.int (1 : Int32))]))
    exact W.retN w704 (t := .boolean) (z' := (1 : Int32)) rfl rfl (by simp) od_0_497 (M' := []) mN (by decide) (by decide) rfl
  · refine W.ifNo w40 od_0_82 (pc' := 85) rfl ((if0 _ _).trans (feq hc48).1) ?_
    have f717 := (f33.keep K42)
    have f718 := (V32.keep K42 (ninS (Ne.symm ne19) nin0))
    refine W.newO w40 (ow_30 hw) (ow_31 hw) (ow_32 hw) od_0_85 (pc' := 88) rfl (by decide) (by decide) fun T709 h710 a711 w712 K713 B714 E715 D716 => ?_
    have ne719 : a3 ≠ a711 := neL f717.lt B714
    have ne720 : a13 ≠ a711 := neL f718.lt B714
    have ne721 : t43 ≠ a711 := neL F45.lt2 B714
    have F722 : Fld Z h710 a711 "com/example/pilotage/pilotage/core/ReadinessCheck$Login" "username" "Ljava/lang/String;" .null := D716 (Or.inr (ow_53 hw)) (ty := (.object "java/lang/String")) (by decide)
    have F723 : Fld Z h710 a711 "com/example/pilotage/pilotage/core/ReadinessCheck$Login" "password" "Ljava/lang/String;" .null := D716 (Or.inr (ow_55 hw)) (ty := (.object "java/lang/String")) (by decide)
    have F724 : Fld Z h710 a711 "com/example/pilotage/pilotage/core/ReadinessCheck$Login" "virtualHost" "Ljava/lang/String;" .null := D716 (Or.inr (ow_57 hw)) (ty := (.object "java/lang/String")) (by decide)
    refine Jvm.Own.W.dup w712 od_0_88 rfl rfl ?_
    refine W.ldcS w712 rfl (ow_33 hw) (own_sA hw) (List.mem_of_getElem? (i := 0) rfl) (vs := []) (z := (0 : Int32)) ⟨by decide, by decide⟩ (by decide) (by decide) od_0_89 (pc' := 91) rfl (n := 0) (by decide) (by decide) (by decide) (by decide) fun T725 h726 a727 a728 k729 w730 K731 E732 F733 F734 V735 Q736 => ?_
    have ne737 : a3 ≠ a727 := (Q736 a3 (memS (memA (memS mem0)))).1
    have ne738 : a3 ≠ a728 := (Q736 a3 (memS (memA (memS mem0)))).2
    have ne739 : a13 ≠ a727 := (Q736 a13 (memS (memA mem0))).1
    have ne740 : a13 ≠ a728 := (Q736 a13 (memS (memA mem0))).2
    have ne741 : a711 ≠ a727 := (Q736 a711 mem0).1
    have ne742 : a711 ≠ a728 := (Q736 a711 mem0).2
    have F743 : Str8 Z h726 a727 a728 [] := ⟨E732, F733, F734, ⟨_, V735⟩, by decide, by decide⟩
    refine W.aload w730 od_0_91 (pc' := 93) rfl rfl rfl ?_
    refine W.ldcS w730 rfl (ow_33 hw) (own_sA hw) (List.mem_of_getElem? (i := 0) rfl) (vs := []) (z := (0 : Int32)) ⟨by decide, by decide⟩ (by decide) (by decide) od_0_93 (pc' := 95) rfl (n := 0) (by decide) (by decide) (by decide) (by decide) fun T744 h745 a746 a747 k748 w749 K750 E751 F752 F753 V754 Q755 => ?_
    have ne756 : a3 ≠ a746 := (Q755 a3 (memS (memA (memS mem0)))).1
    have ne757 : a3 ≠ a747 := (Q755 a3 (memS (memA (memS mem0)))).2
    have ne758 : a13 ≠ a746 := (Q755 a13 (memS (memA mem0))).1
    have ne759 : a13 ≠ a747 := (Q755 a13 (memS (memA mem0))).2
    have ne760 : a711 ≠ a746 := (Q755 a711 mem0).1
    have ne761 : a711 ≠ a747 := (Q755 a711 mem0).2
    have F762 : Str8 Z h745 a746 a747 [] := ⟨E751, F752, F753, ⟨_, V754⟩, by decide, by decide⟩
    have f763 := ((E715.keep K731).keep K750)
    have f764 := ((F722.keep K731 nin0).keep K750 nin0)
    have f765 := ((F723.keep K731 nin0).keep K750 nin0)
    have f766 := ((F724.keep K731 nin0).keep K750 nin0)
    refine W.callI w749 (ow_36 hw) (ow_37 hw) (ow_38 hw) rfl (by decide) opd_22 (Ctr.pay (c_linit hw f763 f764 f765 f766 w749.old) (own_ew hw) (ow_38 hw) (ow_32 hw) (kf := 3) (kl := 39) (by decide) (by decide)) (mC mem0 mN) od_0_95 (pc' := 98) rfl rfl rfl (rest := [(.ref a711)]) rfl (Wd := 1) rfl (by decide) (by decide) (by decide) (by decide) fun v769 T767 h768 M770 w771 q772 => ?_
    obtain ⟨rfl, rfl, K773, E774, F775, F776⟩ := q772
    show Go Z _ _ _ κ _ (T767.setTop (mkF (km κ) 98 #[.val (.int p0), .val (.int p1), .val (.int p2), .val (.int p3), .val (.int z0), .val (.int z1), .val (.int z2), .val (.int z3), .val (.int z4), .val (.int z5), .val (.ref a3), .unset, .unset] [(.ref a711)]))
    refine W.astore w771 od_0_98 (pc' := 100) rfl (Ls' := #[.val (.int p0), .val (.int p1), .val (.int p2), .val (.int p3), .val (.int z0), .val (.int z1), .val (.int z2), .val (.int z3), .val (.int z4), .val (.int z5), .val (.ref a3), .val (.ref a711), .unset]) rfl rfl ?_
    refine W.ldcS w771 rfl (ow_58 hw) (own_sA hw) (List.mem_of_getElem? (i := 1) rfl) (vs := [(.int (76 : Int32)), (.int (111 : Int32)), (.int (103 : Int32)), (.int (105 : Int32)), (.int (110 : Int32)), (.int (91 : Int32)), (.int (117 : Int32)), (.int (115 : Int32)), (.int (101 : Int32)), (.int (114 : Int32)), (.int (110 : Int32)), (.int (97 : Int32)), (.int (109 : Int32)), (.int (101 : Int32)), (.int (61 : Int32)), (.int (44 : Int32)), (.int (32 : Int32)), (.int (112 : Int32)), (.int (97 : Int32)), (.int (115 : Int32)), (.int (115 : Int32)), (.int (119 : Int32)), (.int (111 : Int32)), (.int (114 : Int32)), (.int (100 : Int32)), (.int (61 : Int32)), (.int (40 : Int32)), (.int (104 : Int32)), (.int (105 : Int32)), (.int (100 : Int32)), (.int (100 : Int32)), (.int (101 : Int32)), (.int (110 : Int32)), (.int (41 : Int32)), (.int (44 : Int32)), (.int (32 : Int32)), (.int (118 : Int32)), (.int (105 : Int32)), (.int (114 : Int32)), (.int (116 : Int32)), (.int (117 : Int32)), (.int (97 : Int32)), (.int (108 : Int32)), (.int (72 : Int32)), (.int (111 : Int32)), (.int (115 : Int32)), (.int (116 : Int32)), (.int (61 : Int32)), (.int (93 : Int32))]) (z := (49 : Int32)) ⟨by decide, by decide⟩ (by decide) (by decide) od_0_100 (pc' := 102) rfl (n := 196) (by decide) (by decide) (by decide) (by decide) fun T777 h778 a779 a780 k781 w782 K783 E784 F785 F786 V787 Q788 => ?_
    have ne789 : a3 ≠ a779 := (Q788 a3 (memA (memS (memA (memS mem0))))).1
    have ne790 : a3 ≠ a780 := (Q788 a3 (memA (memS (memA (memS mem0))))).2
    have ne791 : a13 ≠ a779 := (Q788 a13 (memA (memS (memA mem0)))).1
    have ne792 : a13 ≠ a780 := (Q788 a13 (memA (memS (memA mem0)))).2
    have ne793 : a711 ≠ a779 := (Q788 a711 (memA mem0)).1
    have ne794 : a711 ≠ a780 := (Q788 a711 (memA mem0)).2
    have F795 : Str8 Z h778 a779 a780 [(76 : Int32), (111 : Int32), (103 : Int32), (105 : Int32), (110 : Int32), (91 : Int32), (117 : Int32), (115 : Int32), (101 : Int32), (114 : Int32), (110 : Int32), (97 : Int32), (109 : Int32), (101 : Int32), (61 : Int32), (44 : Int32), (32 : Int32), (112 : Int32), (97 : Int32), (115 : Int32), (115 : Int32), (119 : Int32), (111 : Int32), (114 : Int32), (100 : Int32), (61 : Int32), (40 : Int32), (104 : Int32), (105 : Int32), (100 : Int32), (100 : Int32), (101 : Int32), (110 : Int32), (41 : Int32), (44 : Int32), (32 : Int32), (118 : Int32), (105 : Int32), (114 : Int32), (116 : Int32), (117 : Int32), (97 : Int32), (108 : Int32), (72 : Int32), (111 : Int32), (115 : Int32), (116 : Int32), (61 : Int32), (93 : Int32)] := ⟨E784, F785, F786, ⟨_, V787⟩, by decide, by decide⟩
    refine W.aload w782 od_0_102 (pc' := 104) rfl rfl rfl ?_
    have f796 := (((((f717.keep K713).keep K731).keep K750).keep K773).keep K783)
    have f797 := (((((f718.keep K713 nin0).keep K731 nin0).keep K750 nin0).keep K773 (ninS ne720 nin0)).keep K783 nin0)
    have f798 := (((((F45.keep K713 nin0 nin0).keep K731 nin0 nin0).keep K750 nin0 nin0).keep K773 (ninS ne719 nin0) (ninS ne721 nin0)).keep K783 nin0 nin0)
    have f799 := (E774.keep K783)
    have f800 := (((E732.keep K750).keep K773).keep K783)
    have f801 := (((V735.keep K750 nin0).keep K773 (ninS (Ne.symm ne742) nin0)).keep K783 nin0)
    have f802 := ((E751.keep K773).keep K783)
    have f803 := ((V754.keep K773 (ninS (Ne.symm ne761) nin0)).keep K783 nin0)
    have f804 := (F775.keep K783 nin0)
    have f805 := (F776.keep K783 nin0)
    have f806 := (((F743.keep K750 nin0 nin0).keep K773 (ninS (Ne.symm ne741) nin0) (ninS (Ne.symm ne742) nin0)).keep K783 nin0 nin0)
    have f807 := ((F762.keep K773 (ninS (Ne.symm ne760) nin0) (ninS (Ne.symm ne761) nin0)).keep K783 nin0 nin0)
    refine W.callV w782 (ow_59 hw) (ow_60 hw) (nfSel (ow_62 hw)) (ow_62 hw) (ow_61 hw) (by decide) opd_20 f799 (Ctr.pay (c_tostr0 hw f804 f805 f806 f807 w782.old) (own_ew hw) (ow_63 hw) (ow_32 hw) (kf := 7) (kl := 103) (by decide) (by decide)) mN od_0_104 (pc' := 107) rfl rfl rfl (rest := [(.ref a779)]) rfl (Wd := 1) rfl (by decide) (by decide) (by decide) (by decide) fun v810 T808 h809 M811 w812 q813 => ?_
    obtain ⟨a814, rfl, rfl, K815, B816, t817, B818, F819⟩ := q813
    have ne820 : a3 ≠ a814 := neL f796.lt B816
    have ne821 : a13 ≠ a814 := neL f797.lt B816
    have ne822 : t43 ≠ a814 := neL f798.lt2 B816
    have ne823 : a711 ≠ a814 := neL f799.lt B816
    have ne824 : a727 ≠ a814 := neL f800.lt B816
    have ne825 : a728 ≠ a814 := neL f801.lt B816
    have ne826 : a746 ≠ a814 := neL f802.lt B816
    have ne827 : a747 ≠ a814 := neL f803.lt B816
    have ne828 : a779 ≠ a814 := neL E784.lt B816
    have ne829 : a780 ≠ a814 := neL V787.lt B816
    have ne830 : a3 ≠ t817 := neL f796.lt B818
    have ne831 : a13 ≠ t817 := neL f797.lt B818
    have ne832 : t43 ≠ t817 := neL f798.lt2 B818
    have ne833 : a711 ≠ t817 := neL f799.lt B818
    have ne834 : a727 ≠ t817 := neL f800.lt B818
    have ne835 : a728 ≠ t817 := neL f801.lt B818
    have ne836 : a746 ≠ t817 := neL f802.lt B818
    have ne837 : a747 ≠ t817 := neL f803.lt B818
    have ne838 : a779 ≠ t817 := neL E784.lt B818
    have ne839 : a780 ≠ t817 := neL V787.lt B818
    show Go Z _ _ _ κ _ (T808.setTop (mkF (km κ) 107 #[.val (.int p0), .val (.int p1), .val (.int p2), .val (.int p3), .val (.int z0), .val (.int z1), .val (.int z2), .val (.int z3), .val (.int z4), .val (.int z5), .val (.ref a3), .val (.ref a711), .unset] [(.ref a814), (.ref a779)]))
    have f840 := (F795.keep K815 nin0 nin0)
    have f847 := (E784.keep K815)
    refine W.callV w812 (ow_194 hw) (ow_195 hw) (nfSel (ow_197 hw)) (ow_197 hw) (ow_196 hw) (by decide) opd_23 f847 (own_eq hw w812.old f840 F819) mN od_0_107 (pc' := 110) rfl rfl rfl (rest := []) rfl (Wd := 0) rfl (by decide) (by decide) (by decide) (by decide) fun v843 T841 h842 M844 w845 q846 => ?_
    have q848 : (if [(76 : Int32), (111 : Int32), (103 : Int32), (105 : Int32), (110 : Int32), (91 : Int32), (117 : Int32), (115 : Int32), (101 : Int32), (114 : Int32), (110 : Int32), (97 : Int32), (109 : Int32), (101 : Int32), (61 : Int32), (44 : Int32), (32 : Int32), (112 : Int32), (97 : Int32), (115 : Int32), (115 : Int32), (119 : Int32), (111 : Int32), (114 : Int32), (100 : Int32), (61 : Int32), (40 : Int32), (104 : Int32), (105 : Int32), (100 : Int32), (100 : Int32), (101 : Int32), (110 : Int32), (41 : Int32), (44 : Int32), (32 : Int32), (118 : Int32), (105 : Int32), (114 : Int32), (116 : Int32), (117 : Int32), (97 : Int32), (108 : Int32), (72 : Int32), (111 : Int32), (115 : Int32), (116 : Int32), (61 : Int32), (93 : Int32)] = [(76 : Int32), (111 : Int32), (103 : Int32), (105 : Int32), (110 : Int32), (91 : Int32), (117 : Int32), (115 : Int32), (101 : Int32), (114 : Int32), (110 : Int32), (97 : Int32), (109 : Int32), (101 : Int32), (61 : Int32), (44 : Int32), (32 : Int32), (112 : Int32), (97 : Int32), (115 : Int32), (115 : Int32), (119 : Int32), (111 : Int32), (114 : Int32), (100 : Int32), (61 : Int32), (40 : Int32), (104 : Int32), (105 : Int32), (100 : Int32), (100 : Int32), (101 : Int32), (110 : Int32), (41 : Int32), (44 : Int32), (32 : Int32), (118 : Int32), (105 : Int32), (114 : Int32), (116 : Int32), (117 : Int32), (97 : Int32), (108 : Int32), (72 : Int32), (111 : Int32), (115 : Int32), (116 : Int32), (61 : Int32), (93 : Int32)] then 1 else 0 : Int32) = (1 : Int32) := if_pos rfl
    rw [q848] at q846
    obtain ⟨rfl, rfl, e849⟩ := q846
    obtain rfl := e849.symm
    show Go Z _ _ _ κ _ (T841.setTop (mkF (km κ) 110 #[.val (.int p0), .val (.int p1), .val (.int p2), .val (.int p3), .val (.int z0), .val (.int z1), .val (.int z2), .val (.int z3), .val (.int z4), .val (.int z5), .val (.ref a3), .val (.ref a711), .unset] [(.int (1 : Int32))]))
    exact W.retN w845 (t := .boolean) (z' := (1 : Int32)) rfl rfl (by simp) od_0_110 (M' := []) mN (by decide) (by decide) rfl
set_option maxRecDepth 65536 in
set_option maxHeartbeats 40000000 in
theorem comes_1 {Post : Tables → Env → Array Value → State → Outcome → State → Prop} (hpost : ∀ tb e args s v u, (limb_1_1.after args s (.returned v) u = true ∧ limb_1_2.after args s (.returned v) u = true ∧ True) → ReturnedEndW s (.returned v) u (Jvm.fieldLocs frame_1_writes args s ++ Jvm.arrayLocs frame_1_arrays args s ++ Jvm.staticLocs frame_1_statics s) 64 8960 → Post tb e args s (.returned v) u) :
    ArmFor flags0 classFile x code maxLocals ret World_1 tables_1 room_1 Calls_1 rest_1 Pre_1 Post := by
  intro l hfl _ _ p e ha hc hk s m args below hf hA hF happ hP
  obtain ⟨hcalls, hrest, hpre⟩ := hP
  obtain ⟨-, -, -, hnamed, -, -, -, hat⟩ := (Spec.applies_iff hf).mp happ
  obtain ⟨hg, hn⟩ := and_e (Cond.before_iff.mp (show (Jvm.Cond.and given_1 narrow_1).before args s = true from hpre))
  obtain ⟨hcnt, hg0⟩ := and_e hg
  obtain ⟨hv0, hg1⟩ := and_e hg0
  obtain ⟨hv1, hg2⟩ := and_e hg1
  obtain ⟨hv2, hg3⟩ := and_e hg2
  obtain ⟨w0, w1, w2, w3, rfl⟩ : ∃ w0 w1 w2 w3 : Value, args = #[w0, w1, w2, w3] := by
    have hs : args.size = 4 := by simpa [Cond.value, given_1] using hcnt
    obtain ⟨L⟩ := args
    match L, hs with
    | [w0, w1, w2, w3], _ => exact ⟨w0, w1, w2, w3, rfl⟩
  have hw0 := fun d (hd : d ∈ tables_1) => atoms_spec (ws := Jvm.Cond.code x code maxLocals ret :: tables_1) hat d (List.mem_cons_of_mem _ hd)
  have hw1 := atoms_spec (ws := Jvm.Cond.code x code maxLocals ret :: tables_1) hat _ (List.mem_cons_self ..)
  have hfit : Fit s := fun {y c} hc i hi => by
    obtain ⟨ha, rfl⟩ := Array.getElem?_eq_some_iff.mp hc
    have q := List.all_eq_true.mp ((Array.all_eq_true_iff_forall_mem.mp hF) _ (Array.getElem_mem ha)) i (List.mem_range.mpr hi)
    simpa [Array.getElem?_eq_getElem hi] using q
  obtain ⟨hsets, hown0⟩ := atoms_of _ (rest_1_c_eq ▸ (show rest_1_c.before _ s = true from hrest))
  have hr0 := Cond.before_iff.mp hown0
  obtain ⟨i0, ei0⟩ := is_v hv0
  obtain rfl : w0 = (.int i0) := Option.some.inj ei0
  obtain ⟨i1, ei1⟩ := is_v hv1
  obtain rfl : w1 = (.int i1) := Option.some.inj ei1
  obtain ⟨i2, ei2⟩ := is_v hv2
  obtain rfl : w2 = (.int i2) := Option.some.inj ei2
  obtain ⟨i3, ei3⟩ := is_v hg3
  obtain rfl : w3 = (.int i3) := Option.some.inj ei3
  have cst : Cst s := by
    obtain ⟨z, ez⟩ := is_v (Cond.before_iff.mp (hsets _ (List.mem_of_getElem? (i := 1) rfl)))
    obtain ⟨f, ef, rf⟩ := isR_v (Cond.before_iff.mp (hsets _ (List.mem_of_getElem? (i := 8) rfl)))
    exact ⟨⟨z, Sta.start ez (Or.inl (hsets _ (List.mem_of_getElem? (i := 0) rfl))), gotF (Cond.eq_ints ez (Term.int_eval (0))) (not_v (Cond.before_iff.mp (hsets _ (List.mem_of_getElem? (i := 2) rfl))))⟩, f, Sta.start ef (Or.inl (hsets _ (List.mem_of_getElem? (i := 7) rfl))), rf⟩
  have xs0 : XS0 s := trivial
  have hw : HW s _ := ⟨hw0, cst, xs0⟩
  have hch : CHv s EL0 s.vm s.heap := CHv.start (own_ew hw) (fun p hp => hcalls.1 p hp) (by have q := (hsets _ (List.mem_of_getElem? (i := 2) rfl)); exact q) (ow_19 hw) (own_wS hw)
  obtain ⟨a1, a2, a3, a4, a5, a6, a7, -⟩ := (Spec.appliesLoose_iff hf).mp ((Spec.applies_iff_loose hf).mp happ).1
  obtain ⟨n, o, h1, h2, h3, v, L, M', rfl, hq, N, -, -, -, hE⟩ := c_law (l := l) hw (h0 := s.heap) (p0 := i0) (p1 := i1) (p2 := i2) (p3 := i3) (Old.start s) p e ha hc hk s m _ below hf ((Spec.appliesLoose_iff hf).mpr ⟨a1, a2, a3, a4, a5, a6, a7, by show (Cond.and _ .tt).before _ s = true; rw [Cond.before_and, hw1]; rfl⟩) ⟨rfl, State.Warmed39.refl s, rfl, hch, fun x hx => nomatch hx⟩ trivial
  subst hq
  obtain ⟨e1, e2, e2', e3⟩ := hE.1
  refine ⟨n, _, h1, h2, h3, hpost _ _ _ _ _ _ ⟨Cond.after_iff.mpr rfl, Cond.after_iff.mpr (eq_i res_at (Term.int_eval (1)) rfl), trivial⟩ ⟨e1, e2, e2', (e3.sift fun y hy => Or.inr (N y hy)).mono (by decide) (by decide)⟩⟩
theorem main_1_1 : Claimed_1_1 := comes_1 fun _ _ _ _ _ _ h hF => ⟨h.1, hF⟩
theorem main_1_2 : Claimed_1_2 := comes_1 fun _ _ _ _ _ _ h hF => ⟨h.2.1, hF⟩
end Jvm.Pilot.@@N@@
namespace Jvm.Pilot.@@N@@
open Jvm Jvm.ClassFile Sem Op Lib Jvm.Free Jvm.Stand Jvm.Pilot.@@N@@.Jvm.D
/-! MADE BY PROGRAM (witnessworld.py) out of the Statement's table words and the real class files: 28 classes; the members and pool entries that the words name. The judged class is class 1, her method 1. -/
namespace start1
open Jvm.ClassFile
def u (s : String) : CpInfo := .utf8 (stringToUtf16 s)
/-- a pool by its gaps: so many unusable entries, then the entry; so many at the end -/
def gap : Nat → List CpInfo → List CpInfo
  | 0, r => r
  | n + 1, r => .unusable :: gap n r
def poolList (es : List (Nat × CpInfo)) (last : Nat) : List CpInfo := es.foldr (fun e r => gap e.1 (e.2 :: r)) (gap last [])
def pool (es : List (Nat × CpInfo)) (last : Nat) : Array CpInfo := ⟨poolList es last⟩
def fileOf (pool : Array CpInfo) (this : Nat) (attrs : Array Attribute := #[]) (ms : Array MethodInfo := #[]) (fl : Nat := 33) (sup : Nat := 0) (ifs : Array Nat := #[]) (fds : Array FieldInfo := #[]) : ClassFile where
  minorVersion := 0
  majorVersion := 65
  constantPool := pool
  accessFlags := fl
  thisClass := this
  superClass := sup
  interfaces := ifs
  fields := fds
  methods := ms
  attributes := attrs
def plain (name : String) (sup : Option ClassId) : Class where
  name := name
  kind := .ordinary
  loader := none
  accessFlags := 33
  super := sup
  interfaces := #[]
  cf := none
  fields := #[]
  methods := #[]
  instanceTypes := #[]
  staticTypes := #[]
  resolved := #[]
  callSites := []
  init := .initialized
  statics := none
  mirror := none

def pool0 : Array CpInfo := pool [(5, u "<init>"), (0, u "()V"), (1, .class_ 10), (1, u "java/lang/Object")] 113

def k0c0 : Code := { maxStack := 0, maxLocals := 1, code := object_method_1_code, exceptionTable := #[], attributes := #[] }
def k0m0 : Method := { name := "<init>", desc := "()V", sig := { parameters := [], returnType := none }, accessFlags := 1, code := some k0c0 }
/-- java/lang/Object -/
def k0 : Class := { plain "java/lang/Object" none with
  accessFlags := 33
  interfaces := #[]
  cf := some (fileOf pool0 8 #[] #[{ accessFlags := 1, nameIndex := 5, descriptorIndex := 6, attributes := #[] }] 33 0 #[] #[])
  fields := #[]
  methods := #[k0m0]
  instanceTypes := #[]
  staticTypes := #[]
  resolved := Array.replicate 124 none
  statics := none }

def pool1 : Array CpInfo := pool [(2, .class_ 4), (1, u "java/lang/Object"), (0, u "<init>"), (0, u "()V"), (0, .class_ 8), (0, u "java/lang/String"), (0, .methodref 7 10), (0, .nameAndType 5 11), (0, u "([C)V"), (0, .class_ 13), (0, u "com/example/pilotage/pilotage/core/ReadinessCheck$Login"), (0, .string 15), (0, u ""), (0, .methodref 12 17), (0, .nameAndType 5 18), (0, u "(Ljava/lang/String;Ljava/lang/String;Ljava/lang/String;)V"), (0, .string 20), (0, u "Login[username=, password=(hidden), virtualHost=]"), (0, .methodref 12 22), (0, .nameAndType 23 24), (0, u "toString"), (0, u "()Ljava/lang/String;"), (0, .methodref 7 26), (0, .nameAndType 27 28), (0, u "equals"), (0, u "(Ljava/lang/Object;)Z"), (0, .class_ 30), (0, u "com/example/pilotage/pilotage/core/LoginToStringPinLaw"), (2, u "law"), (0, u "(IIII)Z")] 7

def k1m0 : Method := { name := "<init>", desc := "()V", sig := { parameters := [], returnType := none }, accessFlags := 1, code := none }
def k1c1 : Code := { maxStack := 10, maxLocals := 13, code := code, exceptionTable := #[], attributes := #[] }
def k1m1 : Method := { name := "law", desc := "(IIII)Z", sig := { parameters := [.int, .int, .int, .int], returnType := some .boolean }, accessFlags := 9, code := some k1c1 }
/-- com/example/pilotage/pilotage/core/LoginToStringPinLaw -/
def k1 : Class := { plain "com/example/pilotage/pilotage/core/LoginToStringPinLaw" (some 0) with
  accessFlags := 49
  interfaces := #[]
  cf := some (fileOf pool1 29 #[] #[{ accessFlags := 1, nameIndex := 5, descriptorIndex := 6, attributes := #[] }, { accessFlags := 9, nameIndex := 33, descriptorIndex := 34, attributes := #[] }] 49 2 #[] #[])
  fields := #[]
  methods := #[k1m0, k1m1]
  instanceTypes := #[]
  staticTypes := #[]
  resolved := Array.replicate 42 none
  statics := none }

def pool2 : Array CpInfo := pool [(1, .class_ 2), (0, u "java/io/Serializable"), (0, .class_ 4), (0, u "java/lang/Object")] 2

/-- java/io/Serializable -/
def k2 : Class := { plain "java/io/Serializable" (some 0) with
  accessFlags := 1537
  interfaces := #[]
  cf := some (fileOf pool2 1 #[] #[] 1537 3 #[] #[])
  fields := #[]
  methods := #[]
  instanceTypes := #[]
  staticTypes := #[]
  resolved := Array.replicate 7 none
  statics := none }

def pool3 : Array CpInfo := pool [(1, .class_ 2), (0, u "java/lang/Comparable"), (0, .class_ 4), (0, u "java/lang/Object")] 7

/-- java/lang/Comparable -/
def k3 : Class := { plain "java/lang/Comparable" (some 0) with
  accessFlags := 1537
  interfaces := #[]
  cf := some (fileOf pool3 1 #[] #[] 1537 3 #[] #[])
  fields := #[]
  methods := #[]
  instanceTypes := #[]
  staticTypes := #[]
  resolved := Array.replicate 12 none
  statics := none }

def pool4 : Array CpInfo := pool [(2, .class_ 4), (1, u "java/lang/CharSequence"), (42, .class_ 48), (0, u "java/lang/CharSequence$1CodePointIterator"), (10, .class_ 60), (0, u "java/lang/CharSequence$1CharIterator"), (5, .class_ 67), (0, u "java/lang/Object")] 63

/-- java/lang/CharSequence -/
def k4 : Class := { plain "java/lang/CharSequence" (some 0) with
  accessFlags := 1537
  interfaces := #[]
  cf := some (fileOf pool4 2 #[.nestMembers #[47, 59]] #[] 1537 66 #[] #[])
  fields := #[]
  methods := #[]
  instanceTypes := #[]
  staticTypes := #[]
  resolved := Array.replicate 131 none
  statics := none }

def pool5 : Array CpInfo := pool [(1, .class_ 2), (0, u "java/lang/constant/Constable"), (0, .class_ 4), (0, u "java/lang/Object")] 6

/-- java/lang/constant/Constable -/
def k5 : Class := { plain "java/lang/constant/Constable" (some 0) with
  accessFlags := 1537
  interfaces := #[]
  cf := some (fileOf pool5 1 #[] #[] 1537 3 #[] #[])
  fields := #[]
  methods := #[]
  instanceTypes := #[]
  staticTypes := #[]
  resolved := Array.replicate 11 none
  statics := none }

def pool6 : Array CpInfo := pool [(1, .class_ 2), (0, u "java/lang/constant/ConstantDesc"), (0, .class_ 4), (0, u "java/lang/Object")] 32

/-- java/lang/constant/ConstantDesc -/
def k6 : Class := { plain "java/lang/constant/ConstantDesc" (some 0) with
  accessFlags := 1537
  interfaces := #[]
  cf := some (fileOf pool6 1 #[] #[] 1537 3 #[] #[])
  fields := #[]
  methods := #[]
  instanceTypes := #[]
  staticTypes := #[]
  resolved := Array.replicate 37 none
  statics := none }

def pool7 : Array CpInfo := pool [(1, .methodref 2 3), (0, .class_ 4), (0, .nameAndType 5 6), (0, u "java/lang/Object"), (0, u "<init>"), (0, u "()V"), (2, .fieldref 10 11), (0, .class_ 12), (0, .nameAndType 13 14), (0, u "java/lang/String"), (0, u "value"), (0, u "[B"), (0, .fieldref 10 16), (0, .nameAndType 17 18), (0, u "coder"), (0, u "B"), (2, u "hash"), (0, u "I"), (2, u "hashIsZero"), (0, u "Z"), (0, .methodref 10 28), (0, .nameAndType 5 29), (0, u "([CIILjava/lang/Void;)V"), (8, .fieldref 10 39), (0, .nameAndType 40 26), (0, u "COMPACT_STRINGS"), (1, .class_ 44), (1, u "java/lang/StringUTF16"), (0, u "compress"), (1, .methodref 42 48), (0, .nameAndType 49 50), (0, u "coderFromArrayLen"), (0, u "([BI)B"), (3, .methodref 55 56), (0, .class_ 57), (0, .nameAndType 58 59), (0, u "java/util/Arrays"), (0, u "copyOfRange"), (0, u "([BII)[B"), (47, .class_ 109), (1, u "java/lang/StringLatin1"), (32, u "()Z"), (34, .methodref 42 178), (0, .nameAndType 45 179), (0, u "([CII)[B"), (13, .class_ 195), (1, u "java/lang/System"), (16, .methodref 193 213), (0, .nameAndType 214 215), (0, u "arraycopy"), (0, u "(Ljava/lang/Object;ILjava/lang/Object;II)V"), (118, u "()I"), (0, .methodref 10 336), (0, .nameAndType 17 337), (0, u "()B"), (2, u "()[B"), (148, .methodref 10 490), (0, .nameAndType 5 491), (0, u "(Ljava/lang/AbstractStringBuilder;Ljava/lang/Void;)V"), (1, .nameAndType 494 142), (0, u "isLatin1"), (11, .nameAndType 507 334), (0, u "length"), (24, u "getBytes"), (8, .methodref 107 542), (0, .nameAndType 543 544), (0, u "equals"), (0, u "([B[B)Z"), (4, .methodref 550 506), (0, .class_ 551), (0, u "java/lang/AbstractStringBuilder"), (0, .methodref 550 553), (0, .nameAndType 554 340), (0, u "getValue"), (18, u "(Ljava/lang/Object;)Z"), (1, .class_ 576), (0, u "java/lang/CharSequence"), (22, u "CASE_INSENSITIVE_ORDER"), (0, u "Ljava/util/Comparator;"), (220, u "([BIB)V"), (188, u "([C)V"), (36, .methodref 550 493), (53, u "serialPersistentFields"), (0, u "[Ljava/io/ObjectStreamField;"), (0, .class_ 1104), (0, u "java/lang/String$CaseInsensitiveComparator"), (1, .class_ 1107), (0, u "java/io/Serializable"), (0, .class_ 1109), (0, u "java/lang/Comparable"), (0, .class_ 1111), (0, u "java/lang/constant/Constable"), (0, .class_ 1113), (0, u "java/lang/constant/ConstantDesc"), (2, u "serialVersionUID"), (0, u "J"), (3, u "REPL"), (0, u "C"), (2, u "LATIN1"), (1, u "UTF16"), (105, u "(Ljava/lang/StringBuilder;)V")] 217

def k7m0 : Method := { name := "<init>", desc := "()V", sig := { parameters := [], returnType := none }, accessFlags := 1, code := none }
def k7c1 : Code := { maxStack := 5, maxLocals := 2, code := jdk_42_method_3_code, exceptionTable := #[], attributes := #[] }
def k7m1 : Method := { name := "<init>", desc := "([C)V", sig := { parameters := [(.array .char)], returnType := none }, accessFlags := 1, code := some k7c1 }
def k7c2 : Code := { maxStack := 3, maxLocals := 2, code := jdk_42_method_53_code, exceptionTable := #[], attributes := #[] }
def k7m2 : Method := { name := "<init>", desc := "(Ljava/lang/StringBuilder;)V", sig := { parameters := [(.object "java/lang/StringBuilder")], returnType := none }, accessFlags := 1, code := some k7c2 }
def k7c3 : Code := { maxStack := 2, maxLocals := 1, code := jdk_42_method_54_code, exceptionTable := #[], attributes := #[] }
def k7m3 : Method := { name := "length", desc := "()I", sig := { parameters := [], returnType := some .int }, accessFlags := 1, code := some k7c3 }
def k7c4 : Code := { maxStack := 2, maxLocals := 3, code := jdk_42_method_66_code, exceptionTable := #[], attributes := #[] }
def k7m4 : Method := { name := "equals", desc := "(Ljava/lang/Object;)Z", sig := { parameters := [(.object "java/lang/Object")], returnType := some .boolean }, accessFlags := 1, code := some k7c4 }
def k7c5 : Code := { maxStack := 5, maxLocals := 4, code := jdk_42_method_147_code, exceptionTable := #[], attributes := #[] }
def k7m5 : Method := { name := "getBytes", desc := "([BIB)V", sig := { parameters := [(.array .byte), .int, .byte], returnType := none }, accessFlags := 0, code := some k7c5 }
def k7c6 : Code := { maxStack := 4, maxLocals := 6, code := jdk_42_method_149_code, exceptionTable := #[], attributes := #[] }
def k7m6 : Method := { name := "<init>", desc := "([CIILjava/lang/Void;)V", sig := { parameters := [(.array .char), .int, .int, (.object "java/lang/Void")], returnType := none }, accessFlags := 2, code := some k7c6 }
def k7c7 : Code := { maxStack := 5, maxLocals := 5, code := jdk_42_method_150_code, exceptionTable := #[], attributes := #[] }
def k7m7 : Method := { name := "<init>", desc := "(Ljava/lang/AbstractStringBuilder;Ljava/lang/Void;)V", sig := { parameters := [(.object "java/lang/AbstractStringBuilder"), (.object "java/lang/Void")], returnType := none }, accessFlags := 0, code := some k7c7 }
def k7c8 : Code := { maxStack := 1, maxLocals := 1, code := jdk_42_method_152_code, exceptionTable := #[], attributes := #[] }
def k7m8 : Method := { name := "coder", desc := "()B", sig := { parameters := [], returnType := some .byte }, accessFlags := 0, code := some k7c8 }
/-- java/lang/String -/
def k7 : Class := { plain "java/lang/String" (some 0) with
  accessFlags := 49
  interfaces := #[2, 3, 4, 5, 6]
  cf := some (fileOf pool7 10 #[.nestMembers #[1103]] #[{ accessFlags := 1, nameIndex := 5, descriptorIndex := 6, attributes := #[] }, { accessFlags := 1, nameIndex := 5, descriptorIndex := 1010, attributes := #[] }, { accessFlags := 1, nameIndex := 5, descriptorIndex := 1233, attributes := #[] }, { accessFlags := 1, nameIndex := 507, descriptorIndex := 334, attributes := #[] }, { accessFlags := 1, nameIndex := 543, descriptorIndex := 573, attributes := #[] }, { accessFlags := 0, nameIndex := 532, descriptorIndex := 821, attributes := #[] }, { accessFlags := 2, nameIndex := 5, descriptorIndex := 29, attributes := #[] }, { accessFlags := 0, nameIndex := 5, descriptorIndex := 491, attributes := #[] }, { accessFlags := 0, nameIndex := 17, descriptorIndex := 337, attributes := #[] }] 49 2 #[1106, 1108, 575, 1110, 1112] #[{ accessFlags := 18, nameIndex := 13, descriptorIndex := 14, attributes := #[] }, { accessFlags := 18, nameIndex := 17, descriptorIndex := 18, attributes := #[] }, { accessFlags := 2, nameIndex := 21, descriptorIndex := 22, attributes := #[] }, { accessFlags := 2, nameIndex := 25, descriptorIndex := 26, attributes := #[] }, { accessFlags := 26, nameIndex := 1116, descriptorIndex := 1117, attributes := #[] }, { accessFlags := 24, nameIndex := 40, descriptorIndex := 26, attributes := #[] }, { accessFlags := 26, nameIndex := 1101, descriptorIndex := 1102, attributes := #[] }, { accessFlags := 26, nameIndex := 1121, descriptorIndex := 1122, attributes := #[] }, { accessFlags := 25, nameIndex := 599, descriptorIndex := 600, attributes := #[] }, { accessFlags := 24, nameIndex := 1125, descriptorIndex := 18, attributes := #[] }, { accessFlags := 24, nameIndex := 1127, descriptorIndex := 18, attributes := #[] }])
  fields := #[{ name := "value", type := (.array .byte), accessFlags := 18, slot := 0, constantValue := 0 }, { name := "coder", type := .byte, accessFlags := 18, slot := 1, constantValue := 0 }, { name := "hash", type := .int, accessFlags := 2, slot := 2, constantValue := 0 }, { name := "hashIsZero", type := .boolean, accessFlags := 2, slot := 3, constantValue := 0 }, { name := "serialVersionUID", type := .long, accessFlags := 26, slot := 0, constantValue := 0 }, { name := "COMPACT_STRINGS", type := .boolean, accessFlags := 24, slot := 1, constantValue := 0 }, { name := "serialPersistentFields", type := (.array (.object "java/io/ObjectStreamField")), accessFlags := 26, slot := 2, constantValue := 0 }, { name := "REPL", type := .char, accessFlags := 26, slot := 3, constantValue := 0 }, { name := "CASE_INSENSITIVE_ORDER", type := (.object "java/util/Comparator"), accessFlags := 25, slot := 4, constantValue := 0 }, { name := "LATIN1", type := .byte, accessFlags := 24, slot := 5, constantValue := 0 }, { name := "UTF16", type := .byte, accessFlags := 24, slot := 6, constantValue := 0 }]
  methods := #[k7m0, k7m1, k7m2, k7m3, k7m4, k7m5, k7m6, k7m7, k7m8]
  instanceTypes := #[(.array .byte), .byte, .int, .boolean]
  staticTypes := #[.long, .boolean, (.array (.object "java/io/ObjectStreamField")), .char, (.object "java/util/Comparator"), .byte, .byte]
  resolved := Array.replicate 1451 none
  statics := some 0 }

def pool8 : Array CpInfo := pool [(6, .class_ 8), (1, u "java/lang/Object"), (0, u "<init>"), (0, u "()V"), (1, .class_ 14), (1, u "java/lang/StringUTF16"), (31, u "$assertionsDisabled"), (0, u "Z"), (13, u "HI_BYTE_SHIFT"), (0, u "I"), (2, u "LO_BYTE_SHIFT"), (49, .methodref 12 116), (0, .nameAndType 117 118), (0, u "compress"), (0, u "([CI[BII)I"), (3, u "([CII)[B"), (138, u "coderFromArrayLen"), (0, u "([BI)B"), (106, .class_ 371), (1, u "java/lang/StringUTF16$LinesSpliterator"), (58, u "MAX_LENGTH"), (196, .class_ 628), (0, u "java/lang/StringUTF16$CodePointsSpliterator"), (0, .class_ 630), (0, u "java/lang/StringUTF16$CharsSpliterator")] 4

def k8m0 : Method := { name := "<init>", desc := "()V", sig := { parameters := [], returnType := none }, accessFlags := 0, code := none }
def k8c1 : Code := { maxStack := 2, maxLocals := 2, code := jdk_52_method_15_code, exceptionTable := #[], attributes := #[] }
def k8m1 : Method := { name := "coderFromArrayLen", desc := "([BI)B", sig := { parameters := [(.array .byte), .int], returnType := some .byte }, accessFlags := 8, code := some k8c1 }
def k8c2 : Code := { maxStack := 5, maxLocals := 6, code := jdk_52_method_16_code, exceptionTable := #[], attributes := #[] }
def k8m2 : Method := { name := "compress", desc := "([CII)[B", sig := { parameters := [(.array .char), .int, .int], returnType := some (.array .byte) }, accessFlags := 9, code := some k8c2 }
def k8c3 : Code := { maxStack := 3, maxLocals := 7, code := jdk_52_method_21_code, exceptionTable := #[], attributes := #[] }
def k8m3 : Method := { name := "compress", desc := "([CI[BII)I", sig := { parameters := [(.array .char), .int, (.array .byte), .int, .int], returnType := some .int }, accessFlags := 9, code := some k8c3 }
/-- java/lang/StringUTF16 -/
def k8 : Class := { plain "java/lang/StringUTF16" (some 0) with
  accessFlags := 48
  interfaces := #[]
  cf := some (fileOf pool8 12 #[.nestMembers #[627, 629, 369]] #[{ accessFlags := 0, nameIndex := 9, descriptorIndex := 10, attributes := #[] }, { accessFlags := 8, nameIndex := 261, descriptorIndex := 262, attributes := #[] }, { accessFlags := 9, nameIndex := 117, descriptorIndex := 122, attributes := #[] }, { accessFlags := 9, nameIndex := 117, descriptorIndex := 118, attributes := #[] }] 48 6 #[] #[{ accessFlags := 26, nameIndex := 61, descriptorIndex := 62, attributes := #[] }, { accessFlags := 26, nameIndex := 65, descriptorIndex := 62, attributes := #[] }, { accessFlags := 24, nameIndex := 430, descriptorIndex := 62, attributes := #[] }, { accessFlags := 4120, nameIndex := 46, descriptorIndex := 47, attributes := #[] }])
  fields := #[{ name := "HI_BYTE_SHIFT", type := .int, accessFlags := 26, slot := 0, constantValue := 0 }, { name := "LO_BYTE_SHIFT", type := .int, accessFlags := 26, slot := 1, constantValue := 0 }, { name := "MAX_LENGTH", type := .int, accessFlags := 24, slot := 2, constantValue := 0 }, { name := "$assertionsDisabled", type := .boolean, accessFlags := 4120, slot := 3, constantValue := 0 }]
  methods := #[k8m0, k8m1, k8m2, k8m3]
  instanceTypes := #[]
  staticTypes := #[.int, .int, .int, .boolean]
  resolved := Array.replicate 635 none
  statics := none }

def pool9 : Array CpInfo := pool [(1, .methodref 2 3), (0, .class_ 4), (0, .nameAndType 5 6), (0, u "java/lang/Object"), (0, u "<init>"), (0, u "()V"), (0, .class_ 8), (0, u "java/lang/Record")] 13

def k9c0 : Code := { maxStack := 1, maxLocals := 1, code := jdk_30_method_1_code, exceptionTable := #[], attributes := #[] }
def k9m0 : Method := { name := "<init>", desc := "()V", sig := { parameters := [], returnType := none }, accessFlags := 4, code := some k9c0 }
/-- java/lang/Record -/
def k9 : Class := { plain "java/lang/Record" (some 0) with
  accessFlags := 1057
  interfaces := #[]
  cf := some (fileOf pool9 7 #[] #[{ accessFlags := 4, nameIndex := 5, descriptorIndex := 6, attributes := #[] }] 1057 2 #[] #[])
  fields := #[]
  methods := #[k9m0]
  instanceTypes := #[]
  staticTypes := #[]
  resolved := Array.replicate 22 none
  statics := none }

def pool10 : Array CpInfo := pool [(1, .methodref 2 3), (0, .class_ 4), (0, .nameAndType 5 6), (0, u "java/lang/Record"), (0, u "<init>"), (0, u "()V"), (0, .string 8), (0, u "username"), (0, .methodref 10 11), (0, .class_ 12), (0, .nameAndType 13 14), (0, u "java/util/Objects"), (0, u "requireNonNull"), (0, u "(Ljava/lang/Object;Ljava/lang/String;)Ljava/lang/Object;"), (0, .string 16), (0, u "password"), (0, .string 18), (0, u "virtualHost"), (0, .fieldref 20 21), (0, .class_ 22), (0, .nameAndType 8 23), (0, u "com/example/pilotage/pilotage/core/ReadinessCheck$Login"), (0, u "Ljava/lang/String;"), (0, .fieldref 20 25), (0, .nameAndType 16 23), (0, .fieldref 20 27), (0, .nameAndType 18 23), (0, .class_ 29), (0, u "java/lang/StringBuilder"), (0, .methodref 28 3), (0, .string 32), (0, u "Login[username="), (0, .methodref 28 34), (0, .nameAndType 35 36), (0, u "append"), (0, u "(Ljava/lang/String;)Ljava/lang/StringBuilder;"), (0, .string 38), (0, u ", password=(hidden), virtualHost="), (0, .string 40), (0, u "]"), (0, .methodref 28 42), (0, .nameAndType 43 44), (0, u "toString"), (0, u "()Ljava/lang/String;"), (8, u "DEFAULT_VIRTUAL_HOST"), (3, u "(Ljava/lang/String;Ljava/lang/String;Ljava/lang/String;)V"), (8, .class_ 67), (0, u "com/example/pilotage/pilotage/core/ReadinessCheck")] 21

def k10c0 : Code := { maxStack := 2, maxLocals := 4, code := prog_22_method_1_code, exceptionTable := #[], attributes := #[] }
def k10m0 : Method := { name := "<init>", desc := "(Ljava/lang/String;Ljava/lang/String;Ljava/lang/String;)V", sig := { parameters := [(.object "java/lang/String"), (.object "java/lang/String"), (.object "java/lang/String")], returnType := none }, accessFlags := 1, code := some k10c0 }
def k10c1 : Code := { maxStack := 2, maxLocals := 1, code := prog_22_method_2_code, exceptionTable := #[], attributes := #[] }
def k10m1 : Method := { name := "toString", desc := "()Ljava/lang/String;", sig := { parameters := [], returnType := some (.object "java/lang/String") }, accessFlags := 1, code := some k10c1 }
/-- com/example/pilotage/pilotage/core/ReadinessCheck$Login -/
def k10 : Class := { plain "com/example/pilotage/pilotage/core/ReadinessCheck$Login" (some 9) with
  accessFlags := 49
  interfaces := #[]
  cf := some (fileOf pool10 20 #[.nestHost 66] #[{ accessFlags := 1, nameIndex := 5, descriptorIndex := 57, attributes := #[] }, { accessFlags := 1, nameIndex := 43, descriptorIndex := 44, attributes := #[] }] 49 2 #[] #[{ accessFlags := 18, nameIndex := 8, descriptorIndex := 23, attributes := #[] }, { accessFlags := 18, nameIndex := 16, descriptorIndex := 23, attributes := #[] }, { accessFlags := 18, nameIndex := 18, descriptorIndex := 23, attributes := #[] }, { accessFlags := 25, nameIndex := 53, descriptorIndex := 23, attributes := #[] }])
  fields := #[{ name := "username", type := (.object "java/lang/String"), accessFlags := 18, slot := 0, constantValue := 0 }, { name := "password", type := (.object "java/lang/String"), accessFlags := 18, slot := 1, constantValue := 0 }, { name := "virtualHost", type := (.object "java/lang/String"), accessFlags := 18, slot := 2, constantValue := 0 }, { name := "DEFAULT_VIRTUAL_HOST", type := (.object "java/lang/String"), accessFlags := 25, slot := 0, constantValue := 0 }]
  methods := #[k10m0, k10m1]
  instanceTypes := #[(.object "java/lang/String"), (.object "java/lang/String"), (.object "java/lang/String")]
  staticTypes := #[(.object "java/lang/String")]
  resolved := Array.replicate 89 none
  statics := none }

def pool11 : Array CpInfo := pool [(2, .class_ 4), (1, u "java/lang/Object"), (0, u "<init>"), (0, u "()V"), (35, .class_ 44), (1, u "java/util/Objects"), (0, u "requireNonNull"), (48, u "(Ljava/lang/Object;Ljava/lang/String;)Ljava/lang/Object;")] 89

def k11m0 : Method := { name := "<init>", desc := "()V", sig := { parameters := [], returnType := none }, accessFlags := 2, code := none }
def k11c1 : Code := { maxStack := 3, maxLocals := 2, code := jdk_31_method_11_code, exceptionTable := #[], attributes := #[] }
def k11m1 : Method := { name := "requireNonNull", desc := "(Ljava/lang/Object;Ljava/lang/String;)Ljava/lang/Object;", sig := { parameters := [(.object "java/lang/Object"), (.object "java/lang/String")], returnType := some (.object "java/lang/Object") }, accessFlags := 9, code := some k11c1 }
/-- java/util/Objects -/
def k11 : Class := { plain "java/util/Objects" (some 0) with
  accessFlags := 49
  interfaces := #[]
  cf := some (fileOf pool11 42 #[] #[{ accessFlags := 2, nameIndex := 5, descriptorIndex := 6, attributes := #[] }, { accessFlags := 9, nameIndex := 45, descriptorIndex := 94, attributes := #[] }] 49 2 #[] #[])
  fields := #[]
  methods := #[k11m0, k11m1]
  instanceTypes := #[]
  staticTypes := #[]
  resolved := Array.replicate 184 none
  statics := none }

def pool12 : Array CpInfo := pool [(1, .class_ 2), (0, u "java/lang/Appendable"), (0, .class_ 4), (0, u "java/lang/Object")] 9

/-- java/lang/Appendable -/
def k12 : Class := { plain "java/lang/Appendable" (some 0) with
  accessFlags := 1537
  interfaces := #[]
  cf := some (fileOf pool12 1 #[] #[] 1537 3 #[] #[])
  fields := #[]
  methods := #[]
  instanceTypes := #[]
  staticTypes := #[]
  resolved := Array.replicate 14 none
  statics := none }

def pool13 : Array CpInfo := pool [(1, .class_ 2), (0, u "java/lang/String"), (0, .methodref 4 5), (0, .class_ 6), (0, .nameAndType 7 8), (0, u "java/lang/Object"), (0, u "<init>"), (0, u "()V"), (1, .class_ 12), (1, u "java/lang/AbstractStringBuilder"), (0, u "EMPTYVALUE"), (0, u "[B"), (0, .fieldref 10 16), (0, .nameAndType 17 14), (0, u "value"), (0, .fieldref 1 19), (0, .nameAndType 20 21), (0, u "COMPACT_STRINGS"), (0, u "Z"), (0, .fieldref 10 23), (0, .nameAndType 24 25), (0, u "coder"), (0, u "B"), (6, .methodref 1 33), (0, .nameAndType 34 35), (0, u "length"), (0, u "()I"), (3, .integer 2147483647), (0, .methodref 1 41), (0, .nameAndType 24 42), (0, u "()B"), (2, u "append"), (0, u "(Ljava/lang/String;)Ljava/lang/AbstractStringBuilder;"), (1, .class_ 49), (0, u "java/lang/CharSequence"), (19, u "(Ljava/lang/String;)V"), (5, u "maybeLatin1"), (3, .fieldref 10 80), (0, .nameAndType 81 82), (0, u "count"), (0, u "I"), (2, u "isLatin1"), (0, u "()Z"), (13, .methodref 10 101), (0, .nameAndType 102 103), (0, u "ensureCapacityInternal"), (0, u "(I)V"), (0, .methodref 10 105), (0, .nameAndType 106 107), (0, u "newCapacity"), (0, u "(I)I"), (0, .methodref 109 110), (0, .class_ 111), (0, .nameAndType 112 113), (0, u "java/util/Arrays"), (0, u "copyOf"), (0, u "([BI)[B"), (0, .methodref 115 116), (0, .class_ 117), (0, .nameAndType 118 119), (0, u "jdk/internal/util/ArraysSupport"), (0, u "newLength"), (0, u "(III)I"), (88, .methodref 10 209), (0, .nameAndType 210 211), (0, u "putStringAt"), (0, u "(ILjava/lang/String;)V"), (5, u "inflateIfNeededFor"), (2, .nameAndType 221 222), (0, u "getBytes"), (0, u "([BIB)V"), (174, .methodref 10 398), (0, .nameAndType 217 69), (0, .methodref 1 220), (3, u "()[B"), (40, .class_ 445), (0, u "java/lang/Appendable"), (106, u "getValue")] 56

def k13m0 : Method := { name := "<init>", desc := "()V", sig := { parameters := [], returnType := none }, accessFlags := 0, code := none }
def k13c1 : Code := { maxStack := 2, maxLocals := 2, code := jdk_68_method_2_code, exceptionTable := #[], attributes := #[] }
def k13m1 : Method := { name := "<init>", desc := "(I)V", sig := { parameters := [.int], returnType := none }, accessFlags := 0, code := some k13c1 }
def k13c2 : Code := { maxStack := 1, maxLocals := 1, code := jdk_68_method_6_code, exceptionTable := #[], attributes := #[] }
def k13m2 : Method := { name := "length", desc := "()I", sig := { parameters := [], returnType := some .int }, accessFlags := 1, code := some k13c2 }
def k13c3 : Code := { maxStack := 4, maxLocals := 3, code := jdk_68_method_9_code, exceptionTable := #[], attributes := #[] }
def k13m3 : Method := { name := "ensureCapacityInternal", desc := "(I)V", sig := { parameters := [.int], returnType := none }, accessFlags := 2, code := some k13c3 }
def k13c4 : Code := { maxStack := 5, maxLocals := 6, code := jdk_68_method_10_code, exceptionTable := #[], attributes := #[] }
def k13m4 : Method := { name := "newCapacity", desc := "(I)I", sig := { parameters := [.int], returnType := some .int }, accessFlags := 2, code := some k13c4 }
def k13c5 : Code := { maxStack := 3, maxLocals := 3, code := jdk_68_method_22_code, exceptionTable := #[], attributes := #[] }
def k13m5 : Method := { name := "append", desc := "(Ljava/lang/String;)Ljava/lang/AbstractStringBuilder;", sig := { parameters := [(.object "java/lang/String")], returnType := some (.object "java/lang/AbstractStringBuilder") }, accessFlags := 1, code := some k13c5 }
def k13c6 : Code := { maxStack := 1, maxLocals := 1, code := jdk_68_method_64_code, exceptionTable := #[], attributes := #[] }
def k13m6 : Method := { name := "getValue", desc := "()[B", sig := { parameters := [], returnType := some (.array .byte) }, accessFlags := 16, code := some k13c6 }
def k13c7 : Code := { maxStack := 1, maxLocals := 1, code := jdk_68_method_68_code, exceptionTable := #[], attributes := #[] }
def k13m7 : Method := { name := "isLatin1", desc := "()Z", sig := { parameters := [], returnType := some .boolean }, accessFlags := 16, code := some k13c7 }
def k13c8 : Code := { maxStack := 2, maxLocals := 2, code := jdk_68_method_71_code, exceptionTable := #[], attributes := #[] }
def k13m8 : Method := { name := "inflateIfNeededFor", desc := "(Ljava/lang/String;)V", sig := { parameters := [(.object "java/lang/String")], returnType := none }, accessFlags := 2, code := some k13c8 }
def k13c9 : Code := { maxStack := 4, maxLocals := 3, code := jdk_68_method_73_code, exceptionTable := #[], attributes := #[] }
def k13m9 : Method := { name := "putStringAt", desc := "(ILjava/lang/String;)V", sig := { parameters := [.int, (.object "java/lang/String")], returnType := none }, accessFlags := 2, code := some k13c9 }
/-- java/lang/AbstractStringBuilder -/
def k13 : Class := { plain "java/lang/AbstractStringBuilder" (some 0) with
  accessFlags := 1056
  interfaces := #[12, 4]
  cf := some (fileOf pool13 10 #[] #[{ accessFlags := 0, nameIndex := 7, descriptorIndex := 8, attributes := #[] }, { accessFlags := 0, nameIndex := 7, descriptorIndex := 103, attributes := #[] }, { accessFlags := 1, nameIndex := 34, descriptorIndex := 35, attributes := #[] }, { accessFlags := 2, nameIndex := 102, descriptorIndex := 103, attributes := #[] }, { accessFlags := 2, nameIndex := 106, descriptorIndex := 107, attributes := #[] }, { accessFlags := 1, nameIndex := 45, descriptorIndex := 46, attributes := #[] }, { accessFlags := 16, nameIndex := 552, descriptorIndex := 403, attributes := #[] }, { accessFlags := 16, nameIndex := 85, descriptorIndex := 86, attributes := #[] }, { accessFlags := 2, nameIndex := 217, descriptorIndex := 69, attributes := #[] }, { accessFlags := 2, nameIndex := 210, descriptorIndex := 211, attributes := #[] }] 1056 4 #[444, 48] #[{ accessFlags := 0, nameIndex := 17, descriptorIndex := 14, attributes := #[] }, { accessFlags := 0, nameIndex := 24, descriptorIndex := 25, attributes := #[] }, { accessFlags := 0, nameIndex := 75, descriptorIndex := 21, attributes := #[] }, { accessFlags := 0, nameIndex := 81, descriptorIndex := 82, attributes := #[] }, { accessFlags := 26, nameIndex := 13, descriptorIndex := 14, attributes := #[] }])
  fields := #[{ name := "value", type := (.array .byte), accessFlags := 0, slot := 0, constantValue := 0 }, { name := "coder", type := .byte, accessFlags := 0, slot := 1, constantValue := 0 }, { name := "maybeLatin1", type := .boolean, accessFlags := 0, slot := 2, constantValue := 0 }, { name := "count", type := .int, accessFlags := 0, slot := 3, constantValue := 0 }, { name := "EMPTYVALUE", type := (.array .byte), accessFlags := 26, slot := 0, constantValue := 0 }]
  methods := #[k13m0, k13m1, k13m2, k13m3, k13m4, k13m5, k13m6, k13m7, k13m8, k13m9]
  instanceTypes := #[(.array .byte), .byte, .boolean, .int]
  staticTypes := #[(.array .byte)]
  resolved := Array.replicate 609 none
  statics := none }

def pool14 : Array CpInfo := pool [(1, .methodref 2 3), (0, .class_ 4), (0, .nameAndType 5 6), (0, u "java/lang/AbstractStringBuilder"), (0, u "<init>"), (0, u "(I)V"), (11, .class_ 20), (1, u "java/lang/String"), (3, .class_ 26), (1, u "java/lang/StringBuilder"), (0, u "append"), (0, u "(Ljava/lang/String;)Ljava/lang/StringBuilder;"), (0, .methodref 2 30), (0, .nameAndType 27 31), (0, u "(Ljava/lang/String;)Ljava/lang/AbstractStringBuilder;"), (105, .methodref 18 138), (0, .nameAndType 5 139), (0, u "(Ljava/lang/StringBuilder;)V"), (5, u "()V"), (10, u "()I"), (186, .methodref 2 344), (0, .nameAndType 345 156), (0, u "length"), (3, .class_ 350), (0, u "java/lang/Appendable"), (0, .class_ 352), (0, u "java/io/Serializable"), (0, .class_ 354), (0, u "java/lang/Comparable"), (0, .class_ 356), (0, u "java/lang/CharSequence"), (0, u "serialVersionUID"), (0, u "J"), (40, u "toString"), (0, u "()Ljava/lang/String;")] 21

def k14c0 : Code := { maxStack := 2, maxLocals := 1, code := jdk_67_method_1_code, exceptionTable := #[], attributes := #[] }
def k14m0 : Method := { name := "<init>", desc := "()V", sig := { parameters := [], returnType := none }, accessFlags := 1, code := some k14c0 }
def k14c1 : Code := { maxStack := 2, maxLocals := 2, code := jdk_67_method_7_code, exceptionTable := #[], attributes := #[] }
def k14m1 : Method := { name := "append", desc := "(Ljava/lang/String;)Ljava/lang/StringBuilder;", sig := { parameters := [(.object "java/lang/String")], returnType := some (.object "java/lang/StringBuilder") }, accessFlags := 1, code := some k14c1 }
def k14c2 : Code := { maxStack := 3, maxLocals := 1, code := jdk_67_method_42_code, exceptionTable := #[], attributes := #[] }
def k14m2 : Method := { name := "toString", desc := "()Ljava/lang/String;", sig := { parameters := [], returnType := some (.object "java/lang/String") }, accessFlags := 1, code := some k14c2 }
def k14c3 : Code := { maxStack := 1, maxLocals := 1, code := jdk_67_method_93_code, exceptionTable := #[], attributes := #[] }
def k14m3 : Method := { name := "length", desc := "()I", sig := { parameters := [], returnType := some .int }, accessFlags := 4161, code := some k14c3 }
/-- java/lang/StringBuilder -/
def k14 : Class := { plain "java/lang/StringBuilder" (some 13) with
  accessFlags := 49
  interfaces := #[12, 2, 3, 4]
  cf := some (fileOf pool14 24 #[] #[{ accessFlags := 1, nameIndex := 5, descriptorIndex := 145, attributes := #[] }, { accessFlags := 1, nameIndex := 27, descriptorIndex := 28, attributes := #[] }, { accessFlags := 1, nameIndex := 399, descriptorIndex := 400, attributes := #[] }, { accessFlags := 4161, nameIndex := 345, descriptorIndex := 156, attributes := #[] }] 49 2 #[349, 351, 353, 355] #[{ accessFlags := 24, nameIndex := 357, descriptorIndex := 358, attributes := #[] }])
  fields := #[{ name := "serialVersionUID", type := .long, accessFlags := 24, slot := 0, constantValue := 0 }]
  methods := #[k14m0, k14m1, k14m2, k14m3]
  instanceTypes := #[(.array .byte), .byte, .boolean, .int]
  staticTypes := #[.long]
  resolved := Array.replicate 422 none
  statics := none }

def pool15 : Array CpInfo := pool [(2, .class_ 4), (1, u "java/lang/Object"), (0, u "<init>"), (0, u "()V"), (1, .class_ 10), (1, u "java/lang/System"), (0, u "allowSecurityManager"), (0, u "I"), (16, u "cons"), (0, u "Ljava/io/Console;"), (77, .class_ 110), (1, u "java/lang/System$CallersHolder"), (43, u "initialErrStream"), (0, u "Ljava/io/PrintStream;"), (19, u "security"), (0, u "Ljava/lang/SecurityManager;"), (31, .class_ 209), (0, u "java/lang/System$1"), (7, u "props"), (0, u "Ljava/util/Properties;"), (2, u "lineSeparator"), (0, u "Ljava/lang/String;"), (96, .class_ 321), (1, u "java/lang/System$LoggerFinder"), (5, .class_ 328), (0, u "java/lang/System$Logger"), (67, u "err"), (2, u "out"), (91, u "notSupportedJnuEncoding"), (15, u "in"), (17, u "initialIn"), (0, u "Ljava/io/InputStream;"), (35, u "bootLayer"), (0, u "Ljava/lang/ModuleLayer;"), (99, .class_ 664), (0, u "java/lang/System$2"), (9, u "NEVER"), (2, u "MAYBE"), (49, u "arraycopy"), (0, u "(Ljava/lang/Object;ILjava/lang/Object;II)V"), (72, .class_ 802), (0, u "java/lang/System$Logger$Level")] 31

def k15m0 : Method := { name := "<init>", desc := "()V", sig := { parameters := [], returnType := none }, accessFlags := 2, code := none }
def k15m1 : Method := { name := "arraycopy", desc := "(Ljava/lang/Object;ILjava/lang/Object;II)V", sig := { parameters := [(.object "java/lang/Object"), .int, (.object "java/lang/Object"), .int, .int], returnType := none }, accessFlags := 265, code := none }
/-- java/lang/System -/
def k15 : Class := { plain "java/lang/System" (some 0) with
  accessFlags := 49
  interfaces := #[]
  cf := some (fileOf pool15 8 #[.nestMembers #[319, 327, 801, 108, 663, 208]] #[{ accessFlags := 2, nameIndex := 5, descriptorIndex := 6, attributes := #[] }, { accessFlags := 265, nameIndex := 727, descriptorIndex := 728, attributes := #[] }] 49 2 #[] #[{ accessFlags := 25, nameIndex := 507, descriptorIndex := 526, attributes := #[] }, { accessFlags := 25, nameIndex := 399, descriptorIndex := 155, attributes := #[] }, { accessFlags := 25, nameIndex := 396, descriptorIndex := 155, attributes := #[] }, { accessFlags := 10, nameIndex := 525, descriptorIndex := 526, attributes := #[] }, { accessFlags := 26, nameIndex := 674, descriptorIndex := 12, attributes := #[] }, { accessFlags := 26, nameIndex := 677, descriptorIndex := 12, attributes := #[] }, { accessFlags := 10, nameIndex := 11, descriptorIndex := 12, attributes := #[] }, { accessFlags := 74, nameIndex := 175, descriptorIndex := 176, attributes := #[] }, { accessFlags := 10, nameIndex := 491, descriptorIndex := 222, attributes := #[] }, { accessFlags := 74, nameIndex := 29, descriptorIndex := 30, attributes := #[] }, { accessFlags := 74, nameIndex := 154, descriptorIndex := 155, attributes := #[] }, { accessFlags := 10, nameIndex := 217, descriptorIndex := 218, attributes := #[] }, { accessFlags := 10, nameIndex := 221, descriptorIndex := 222, attributes := #[] }, { accessFlags := 8, nameIndex := 562, descriptorIndex := 563, attributes := #[] }])
  fields := #[{ name := "in", type := (.object "java/io/InputStream"), accessFlags := 25, slot := 0, constantValue := 0 }, { name := "out", type := (.object "java/io/PrintStream"), accessFlags := 25, slot := 1, constantValue := 0 }, { name := "err", type := (.object "java/io/PrintStream"), accessFlags := 25, slot := 2, constantValue := 0 }, { name := "initialIn", type := (.object "java/io/InputStream"), accessFlags := 10, slot := 3, constantValue := 0 }, { name := "NEVER", type := .int, accessFlags := 26, slot := 4, constantValue := 0 }, { name := "MAYBE", type := .int, accessFlags := 26, slot := 5, constantValue := 0 }, { name := "allowSecurityManager", type := .int, accessFlags := 10, slot := 6, constantValue := 0 }, { name := "security", type := (.object "java/lang/SecurityManager"), accessFlags := 74, slot := 7, constantValue := 0 }, { name := "notSupportedJnuEncoding", type := (.object "java/lang/String"), accessFlags := 10, slot := 8, constantValue := 0 }, { name := "cons", type := (.object "java/io/Console"), accessFlags := 74, slot := 9, constantValue := 0 }, { name := "initialErrStream", type := (.object "java/io/PrintStream"), accessFlags := 74, slot := 10, constantValue := 0 }, { name := "props", type := (.object "java/util/Properties"), accessFlags := 10, slot := 11, constantValue := 0 }, { name := "lineSeparator", type := (.object "java/lang/String"), accessFlags := 10, slot := 12, constantValue := 0 }, { name := "bootLayer", type := (.object "java/lang/ModuleLayer"), accessFlags := 8, slot := 13, constantValue := 0 }]
  methods := #[k15m0, k15m1]
  instanceTypes := #[]
  staticTypes := #[(.object "java/io/InputStream"), (.object "java/io/PrintStream"), (.object "java/io/PrintStream"), (.object "java/io/InputStream"), .int, .int, .int, (.object "java/lang/SecurityManager"), (.object "java/lang/String"), (.object "java/io/Console"), (.object "java/io/PrintStream"), (.object "java/util/Properties"), (.object "java/lang/String"), (.object "java/lang/ModuleLayer")]
  resolved := Array.replicate 834 none
  statics := none }

def pool16 : Array CpInfo := pool [(9, u "<init>"), (6, .class_ 18), (1, u "java/lang/Object"), (0, u "()V"), (1, .class_ 23), (1, u "jdk/internal/util/ArraysSupport"), (0, u "LOG2_ARRAY_LONG_INDEX_SCALE"), (0, u "I"), (2, u "U"), (0, u "Ljdk/internal/misc/Unsafe;"), (8, u "BIG_ENDIAN"), (0, u "Z"), (8, u "LOG2_BYTE_BIT_SIZE"), (4, u "LOG2_ARRAY_INT_INDEX_SCALE"), (54, u "JLA"), (0, u "Ljdk/internal/access/JavaLangAccess;"), (11, u "LOG2_ARRAY_BOOLEAN_INDEX_SCALE"), (9, u "LOG2_ARRAY_BYTE_INDEX_SCALE"), (5, u "LOG2_ARRAY_CHAR_INDEX_SCALE"), (5, u "LOG2_ARRAY_SHORT_INDEX_SCALE"), (18, u "LOG2_ARRAY_FLOAT_INDEX_SCALE"), (24, u "LOG2_ARRAY_DOUBLE_INDEX_SCALE"), (6, .methodref 195 196), (0, .class_ 197), (0, .nameAndType 198 199), (0, u "java/lang/Math"), (0, u "max"), (0, u "(II)I"), (0, .integer 2147483639), (76, u "T_BOOLEAN"), (2, u "T_CHAR"), (1, u "T_FLOAT"), (1, u "T_DOUBLE"), (1, u "T_BYTE"), (1, u "T_SHORT"), (1, u "T_INT"), (1, u "T_LONG"), (1, u "SOFT_MAX_ARRAY_LENGTH"), (56, u "newLength"), (0, u "(III)I")] 25

def k16m0 : Method := { name := "<init>", desc := "()V", sig := { parameters := [], returnType := none }, accessFlags := 2, code := none }
def k16c1 : Code := { maxStack := 3, maxLocals := 4, code := jdk_48_method_27_code, exceptionTable := #[], attributes := #[] }
def k16m1 : Method := { name := "newLength", desc := "(III)I", sig := { parameters := [.int, .int, .int], returnType := some .int }, accessFlags := 9, code := some k16c1 }
/-- jdk/internal/util/ArraysSupport -/
def k16 : Class := { plain "jdk/internal/util/ArraysSupport" (some 0) with
  accessFlags := 33
  interfaces := #[]
  cf := some (fileOf pool16 21 #[] #[{ accessFlags := 2, nameIndex := 9, descriptorIndex := 19, attributes := #[] }, { accessFlags := 9, nameIndex := 351, descriptorIndex := 352, attributes := #[] }] 33 16 #[] #[{ accessFlags := 24, nameIndex := 28, descriptorIndex := 29, attributes := #[] }, { accessFlags := 26, nameIndex := 38, descriptorIndex := 39, attributes := #[] }, { accessFlags := 25, nameIndex := 121, descriptorIndex := 25, attributes := #[] }, { accessFlags := 25, nameIndex := 131, descriptorIndex := 25, attributes := #[] }, { accessFlags := 25, nameIndex := 137, descriptorIndex := 25, attributes := #[] }, { accessFlags := 25, nameIndex := 143, descriptorIndex := 25, attributes := #[] }, { accessFlags := 25, nameIndex := 53, descriptorIndex := 25, attributes := #[] }, { accessFlags := 25, nameIndex := 24, descriptorIndex := 25, attributes := #[] }, { accessFlags := 25, nameIndex := 162, descriptorIndex := 25, attributes := #[] }, { accessFlags := 25, nameIndex := 187, descriptorIndex := 25, attributes := #[] }, { accessFlags := 26, nameIndex := 48, descriptorIndex := 25, attributes := #[] }, { accessFlags := 25, nameIndex := 277, descriptorIndex := 25, attributes := #[] }, { accessFlags := 25, nameIndex := 280, descriptorIndex := 25, attributes := #[] }, { accessFlags := 25, nameIndex := 282, descriptorIndex := 25, attributes := #[] }, { accessFlags := 25, nameIndex := 284, descriptorIndex := 25, attributes := #[] }, { accessFlags := 25, nameIndex := 286, descriptorIndex := 25, attributes := #[] }, { accessFlags := 25, nameIndex := 288, descriptorIndex := 25, attributes := #[] }, { accessFlags := 25, nameIndex := 290, descriptorIndex := 25, attributes := #[] }, { accessFlags := 25, nameIndex := 292, descriptorIndex := 25, attributes := #[] }, { accessFlags := 26, nameIndex := 108, descriptorIndex := 109, attributes := #[] }, { accessFlags := 25, nameIndex := 294, descriptorIndex := 25, attributes := #[] }])
  fields := #[{ name := "U", type := (.object "jdk/internal/misc/Unsafe"), accessFlags := 24, slot := 0, constantValue := 0 }, { name := "BIG_ENDIAN", type := .boolean, accessFlags := 26, slot := 1, constantValue := 0 }, { name := "LOG2_ARRAY_BOOLEAN_INDEX_SCALE", type := .int, accessFlags := 25, slot := 2, constantValue := 0 }, { name := "LOG2_ARRAY_BYTE_INDEX_SCALE", type := .int, accessFlags := 25, slot := 3, constantValue := 0 }, { name := "LOG2_ARRAY_CHAR_INDEX_SCALE", type := .int, accessFlags := 25, slot := 4, constantValue := 0 }, { name := "LOG2_ARRAY_SHORT_INDEX_SCALE", type := .int, accessFlags := 25, slot := 5, constantValue := 0 }, { name := "LOG2_ARRAY_INT_INDEX_SCALE", type := .int, accessFlags := 25, slot := 6, constantValue := 0 }, { name := "LOG2_ARRAY_LONG_INDEX_SCALE", type := .int, accessFlags := 25, slot := 7, constantValue := 0 }, { name := "LOG2_ARRAY_FLOAT_INDEX_SCALE", type := .int, accessFlags := 25, slot := 8, constantValue := 0 }, { name := "LOG2_ARRAY_DOUBLE_INDEX_SCALE", type := .int, accessFlags := 25, slot := 9, constantValue := 0 }, { name := "LOG2_BYTE_BIT_SIZE", type := .int, accessFlags := 26, slot := 10, constantValue := 0 }, { name := "T_BOOLEAN", type := .int, accessFlags := 25, slot := 11, constantValue := 0 }, { name := "T_CHAR", type := .int, accessFlags := 25, slot := 12, constantValue := 0 }, { name := "T_FLOAT", type := .int, accessFlags := 25, slot := 13, constantValue := 0 }, { name := "T_DOUBLE", type := .int, accessFlags := 25, slot := 14, constantValue := 0 }, { name := "T_BYTE", type := .int, accessFlags := 25, slot := 15, constantValue := 0 }, { name := "T_SHORT", type := .int, accessFlags := 25, slot := 16, constantValue := 0 }, { name := "T_INT", type := .int, accessFlags := 25, slot := 17, constantValue := 0 }, { name := "T_LONG", type := .int, accessFlags := 25, slot := 18, constantValue := 0 }, { name := "JLA", type := (.object "jdk/internal/access/JavaLangAccess"), accessFlags := 26, slot := 19, constantValue := 0 }, { name := "SOFT_MAX_ARRAY_LENGTH", type := .int, accessFlags := 25, slot := 20, constantValue := 0 }]
  methods := #[k16m0, k16m1]
  instanceTypes := #[]
  staticTypes := #[(.object "jdk/internal/misc/Unsafe"), .boolean, .int, .int, .int, .int, .int, .int, .int, .int, .int, .int, .int, .int, .int, .int, .int, .int, .int, (.object "jdk/internal/access/JavaLangAccess"), .int]
  resolved := Array.replicate 378 none
  statics := none }

def pool17 : Array CpInfo := pool [(1, .class_ 2), (0, u "java/lang/Math"), (1, .class_ 6), (1, u "java/lang/Object"), (0, u "<init>"), (0, u "()V"), (89, .class_ 100), (1, u "java/lang/Math$RandomNumberGeneratorHolder"), (71, u "negativeZeroFloatBits"), (0, u "J"), (2, u "negativeZeroDoubleBits"), (21, u "max"), (2, u "min"), (43, u "$assertionsDisabled"), (0, u "Z"), (88, u "(II)I"), (2, u "twoToTheDoubleScaleDown"), (0, u "D"), (4, u "twoToTheDoubleScaleUp"), (9, u "E"), (3, u "PI"), (2, u "TAU"), (2, u "DEGREES_TO_RADIANS"), (0, u "RADIANS_TO_DEGREES")] 94

def k17m0 : Method := { name := "<init>", desc := "()V", sig := { parameters := [], returnType := none }, accessFlags := 2, code := none }
def k17c1 : Code := { maxStack := 2, maxLocals := 2, code := jdk_29_method_65_code, exceptionTable := #[], attributes := #[] }
def k17m1 : Method := { name := "max", desc := "(II)I", sig := { parameters := [.int, .int], returnType := some .int }, accessFlags := 9, code := some k17c1 }
def k17c2 : Code := { maxStack := 2, maxLocals := 2, code := jdk_29_method_69_code, exceptionTable := #[], attributes := #[] }
def k17m2 : Method := { name := "min", desc := "(II)I", sig := { parameters := [.int, .int], returnType := some .int }, accessFlags := 9, code := some k17c2 }
/-- java/lang/Math -/
def k17 : Class := { plain "java/lang/Math" (some 0) with
  accessFlags := 49
  interfaces := #[]
  cf := some (fileOf pool17 1 #[.nestMembers #[98]] #[{ accessFlags := 2, nameIndex := 7, descriptorIndex := 8, attributes := #[] }, { accessFlags := 9, nameIndex := 198, descriptorIndex := 335, attributes := #[] }, { accessFlags := 9, nameIndex := 201, descriptorIndex := 335, attributes := #[] }] 49 4 #[] #[{ accessFlags := 25, nameIndex := 354, descriptorIndex := 339, attributes := #[] }, { accessFlags := 25, nameIndex := 358, descriptorIndex := 339, attributes := #[] }, { accessFlags := 25, nameIndex := 361, descriptorIndex := 339, attributes := #[] }, { accessFlags := 26, nameIndex := 364, descriptorIndex := 339, attributes := #[] }, { accessFlags := 26, nameIndex := 365, descriptorIndex := 339, attributes := #[] }, { accessFlags := 26, nameIndex := 172, descriptorIndex := 173, attributes := #[] }, { accessFlags := 26, nameIndex := 176, descriptorIndex := 173, attributes := #[] }, { accessFlags := 8, nameIndex := 344, descriptorIndex := 339, attributes := #[] }, { accessFlags := 8, nameIndex := 338, descriptorIndex := 339, attributes := #[] }, { accessFlags := 4120, nameIndex := 245, descriptorIndex := 246, attributes := #[] }])
  fields := #[{ name := "E", type := .double, accessFlags := 25, slot := 0, constantValue := 0 }, { name := "PI", type := .double, accessFlags := 25, slot := 1, constantValue := 0 }, { name := "TAU", type := .double, accessFlags := 25, slot := 2, constantValue := 0 }, { name := "DEGREES_TO_RADIANS", type := .double, accessFlags := 26, slot := 3, constantValue := 0 }, { name := "RADIANS_TO_DEGREES", type := .double, accessFlags := 26, slot := 4, constantValue := 0 }, { name := "negativeZeroFloatBits", type := .long, accessFlags := 26, slot := 5, constantValue := 0 }, { name := "negativeZeroDoubleBits", type := .long, accessFlags := 26, slot := 6, constantValue := 0 }, { name := "twoToTheDoubleScaleUp", type := .double, accessFlags := 8, slot := 7, constantValue := 0 }, { name := "twoToTheDoubleScaleDown", type := .double, accessFlags := 8, slot := 8, constantValue := 0 }, { name := "$assertionsDisabled", type := .boolean, accessFlags := 4120, slot := 9, constantValue := 0 }]
  methods := #[k17m0, k17m1, k17m2]
  instanceTypes := #[]
  staticTypes := #[.double, .double, .double, .double, .double, .long, .long, .double, .double, .boolean]
  resolved := Array.replicate 460 none
  statics := none }

def pool18 : Array CpInfo := pool [(2, .class_ 4), (1, u "java/lang/Object"), (0, u "<init>"), (0, u "()V"), (7, .class_ 16), (1, u "java/util/Arrays"), (57, .class_ 76), (1, u "java/util/Arrays$NaturalOrder"), (36, .class_ 115), (1, u "java/util/Arrays$LegacyMergeSort"), (1, u "Z"), (21, u "copyOfRange"), (10, .methodref 151 152), (0, .class_ 153), (0, .nameAndType 154 155), (0, u "java/lang/System"), (0, u "arraycopy"), (0, u "(Ljava/lang/Object;ILjava/lang/Object;II)V"), (146, u "copyOf"), (1, .methodref 305 306), (0, .class_ 307), (0, .nameAndType 308 309), (0, u "java/lang/Math"), (0, u "min"), (0, u "(II)I"), (29, .methodref 14 340), (0, .nameAndType 341 342), (0, u "copyOfRangeByte"), (0, u "([BII)[B"), (0, .methodref 14 344), (0, .nameAndType 345 346), (0, u "checkLength"), (0, u "(II)V"), (28, .class_ 376), (0, u "java/util/Arrays$ArrayList"), (68, u "$assertionsDisabled"), (269, u "MIN_ARRAY_SORT_GRAN"), (0, u "I"), (2, u "INSERTIONSORT_THRESHOLD"), (149, u "([BI)[B"), (105, .class_ 976), (0, u "java/util/Arrays$ArrayItr")] 52

def k18m0 : Method := { name := "<init>", desc := "()V", sig := { parameters := [], returnType := none }, accessFlags := 2, code := none }
def k18c1 : Code := { maxStack := 6, maxLocals := 3, code := jdk_65_method_121_code, exceptionTable := #[], attributes := #[] }
def k18m1 : Method := { name := "copyOf", desc := "([BI)[B", sig := { parameters := [(.array .byte), .int], returnType := some (.array .byte) }, accessFlags := 9, code := some k18c1 }
def k18c2 : Code := { maxStack := 4, maxLocals := 2, code := jdk_65_method_131_code, exceptionTable := #[], attributes := #[] }
def k18m2 : Method := { name := "checkLength", desc := "(II)V", sig := { parameters := [.int, .int], returnType := none }, accessFlags := 10, code := some k18c2 }
def k18c3 : Code := { maxStack := 3, maxLocals := 3, code := jdk_65_method_132_code, exceptionTable := #[], attributes := #[] }
def k18m3 : Method := { name := "copyOfRange", desc := "([BII)[B", sig := { parameters := [(.array .byte), .int, .int], returnType := some (.array .byte) }, accessFlags := 9, code := some k18c3 }
def k18c4 : Code := { maxStack := 6, maxLocals := 5, code := jdk_65_method_133_code, exceptionTable := #[], attributes := #[] }
def k18m4 : Method := { name := "copyOfRangeByte", desc := "([BII)[B", sig := { parameters := [(.array .byte), .int, .int], returnType := some (.array .byte) }, accessFlags := 10, code := some k18c4 }
/-- java/util/Arrays -/
def k18 : Class := { plain "java/util/Arrays" (some 0) with
  accessFlags := 49
  interfaces := #[]
  cf := some (fileOf pool18 14 #[.nestMembers #[975, 375, 113, 74]] #[{ accessFlags := 2, nameIndex := 5, descriptorIndex := 6, attributes := #[] }, { accessFlags := 9, nameIndex := 302, descriptorIndex := 869, attributes := #[] }, { accessFlags := 10, nameIndex := 345, descriptorIndex := 346, attributes := #[] }, { accessFlags := 9, nameIndex := 139, descriptorIndex := 342, attributes := #[] }, { accessFlags := 10, nameIndex := 341, descriptorIndex := 342, attributes := #[] }] 49 2 #[] #[{ accessFlags := 26, nameIndex := 715, descriptorIndex := 716, attributes := #[] }, { accessFlags := 26, nameIndex := 719, descriptorIndex := 716, attributes := #[] }, { accessFlags := 4120, nameIndex := 445, descriptorIndex := 117, attributes := #[] }])
  fields := #[{ name := "MIN_ARRAY_SORT_GRAN", type := .int, accessFlags := 26, slot := 0, constantValue := 0 }, { name := "INSERTIONSORT_THRESHOLD", type := .int, accessFlags := 26, slot := 1, constantValue := 0 }, { name := "$assertionsDisabled", type := .boolean, accessFlags := 4120, slot := 2, constantValue := 0 }]
  methods := #[k18m0, k18m1, k18m2, k18m3, k18m4]
  instanceTypes := #[]
  staticTypes := #[.int, .int, .boolean]
  resolved := Array.replicate 1029 none
  statics := none }

def pool19 : Array CpInfo := pool [(4, .class_ 6), (1, u "java/lang/Object"), (0, u "<init>"), (0, u "()V"), (5, .class_ 16), (1, u "java/lang/StringLatin1"), (104, u "$assertionsDisabled"), (0, u "Z"), (98, .class_ 223), (1, u "java/lang/StringLatin1$LinesSpliterator"), (57, u "equals"), (0, u "([B[B)Z"), (107, .class_ 391), (0, u "java/lang/StringLatin1$CharsSpliterator")] 3

def k19m0 : Method := { name := "<init>", desc := "()V", sig := { parameters := [], returnType := none }, accessFlags := 0, code := none }
def k19c1 : Code := { maxStack := 3, maxLocals := 3, code := jdk_43_method_13_code, exceptionTable := #[], attributes := #[] }
def k19m1 : Method := { name := "equals", desc := "([B[B)Z", sig := { parameters := [(.array .byte), (.array .byte)], returnType := some .boolean }, accessFlags := 9, code := some k19c1 }
/-- java/lang/StringLatin1 -/
def k19 : Class := { plain "java/lang/StringLatin1" (some 0) with
  accessFlags := 48
  interfaces := #[]
  cf := some (fileOf pool19 14 #[.nestMembers #[390, 221]] #[{ accessFlags := 0, nameIndex := 7, descriptorIndex := 8, attributes := #[] }, { accessFlags := 9, nameIndex := 281, descriptorIndex := 282, attributes := #[] }] 48 4 #[] #[{ accessFlags := 4120, nameIndex := 121, descriptorIndex := 122, attributes := #[] }])
  fields := #[{ name := "$assertionsDisabled", type := .boolean, accessFlags := 4120, slot := 0, constantValue := 0 }]
  methods := #[k19m0, k19m1]
  instanceTypes := #[]
  staticTypes := #[.boolean]
  resolved := Array.replicate 395 none
  statics := none }

def pool20 : Array CpInfo := pool [(2, .class_ 4), (1, u "java/lang/Object"), (0, u "<init>"), (0, u "()V"), (17, .class_ 26), (1, u "jdk/internal/util/Preconditions"), (28, .class_ 56), (0, u "jdk/internal/util/Preconditions$4"), (57, .class_ 115), (0, u "jdk/internal/util/Preconditions$1"), (7, u "SIOOBE_FORMATTER"), (0, u "Ljava/util/function/BiFunction;"), (0, .class_ 126), (0, u "jdk/internal/util/Preconditions$2"), (3, u "AIOOBE_FORMATTER"), (0, .class_ 132), (0, u "jdk/internal/util/Preconditions$3"), (3, u "IOOBE_FORMATTER")] 57

def k20m0 : Method := { name := "<init>", desc := "()V", sig := { parameters := [], returnType := none }, accessFlags := 1, code := none }
/-- jdk/internal/util/Preconditions -/
def k20 : Class := { plain "jdk/internal/util/Preconditions" (some 0) with
  accessFlags := 33
  interfaces := #[]
  cf := some (fileOf pool20 24 #[.nestMembers #[55, 131, 125, 114]] #[{ accessFlags := 1, nameIndex := 5, descriptorIndex := 6, attributes := #[] }] 33 2 #[] #[{ accessFlags := 25, nameIndex := 123, descriptorIndex := 124, attributes := #[] }, { accessFlags := 25, nameIndex := 130, descriptorIndex := 124, attributes := #[] }, { accessFlags := 25, nameIndex := 136, descriptorIndex := 124, attributes := #[] }])
  fields := #[{ name := "SIOOBE_FORMATTER", type := (.object "java/util/function/BiFunction"), accessFlags := 25, slot := 0, constantValue := 0 }, { name := "AIOOBE_FORMATTER", type := (.object "java/util/function/BiFunction"), accessFlags := 25, slot := 1, constantValue := 0 }, { name := "IOOBE_FORMATTER", type := (.object "java/util/function/BiFunction"), accessFlags := 25, slot := 2, constantValue := 0 }]
  methods := #[k20m0]
  instanceTypes := #[]
  staticTypes := #[(.object "java/util/function/BiFunction"), (.object "java/util/function/BiFunction"), (.object "java/util/function/BiFunction")]
  resolved := Array.replicate 194 none
  statics := some 1 }

def pool21 : Array CpInfo := pool [(1, u "java/lang/Cloneable"), (0, .class_ 1), (0, u "java/lang/Object"), (0, .class_ 3)] 3

/-- java/lang/Cloneable -/
def k21 : Class := { plain "java/lang/Cloneable" (some 0) with
  accessFlags := 1537
  interfaces := #[]
  cf := some (fileOf pool21 2 #[] #[] 1537 4 #[] #[])
  fields := #[]
  methods := #[]
  instanceTypes := #[]
  staticTypes := #[]
  resolved := Array.replicate 8 none
  statics := none }

/-- the primitive byte -/
def k22 : Class := { plain "byte" none with kind := .primitive 'B', accessFlags := 0x411 }
/-- [B -/
def k23 : Class := { plain "[B" (some 0) with kind := .array 22 .byte, interfaces := #[21, 2], accessFlags := 1041 }

/-- the primitive char -/
def k24 : Class := { plain "char" none with kind := .primitive 'C', accessFlags := 0x411 }
/-- [C -/
def k25 : Class := { plain "[C" (some 0) with kind := .array 24 .char, interfaces := #[21, 2], accessFlags := 1041 }

/-- the primitive int -/
def k26 : Class := { plain "int" none with kind := .primitive 'I', accessFlags := 0x411 }
/-- [I -/
def k27 : Class := { plain "[I" (some 0) with kind := .array 26 .int, interfaces := #[21, 2], accessFlags := 1041 }

def heap : Heap := #[{ cls := 7, slots := #[.long 0, .int 1, .null, .int 0, .null, .int 0, .int 0], vm := .statics 7 },
  { cls := 20, slots := #[.null, .null, .null], vm := .statics 20 }]
def classes : Array Class := #[k0, k1, k2, k3, k4, k5, k6, k7, k8, k9, k10, k11, k12, k13, k14, k15, k16, k17, k18, k19, k20, k21, k22, k23, k24, k25, k26, k27]
def interned : List (Array UInt16 × Addr) := []
def slotsUsed : Nat := 10
def theMethod : MethodId := ⟨1, 1⟩
def args0 : Array Value := #[.int 5, .int 5, .int 5, .int 5]
def aboutOver (below : List Frame) : State where
  vm := { classes := classes, interned := interned.toArray }
  heap := heap
  slotsUsed := slotsUsed
  threads := #[{ frames := .invoking theMethod args0 :: below }]
def below0 : List Frame := [.native { method := ⟨0, 0⟩, args := #[] }]
def about1 : State := aboutOver below0
def p0 : Program := .bare "" "" ""
def e0 : Env := launch0.env 0 0 0
theorem w_frames : about1.frames = Frame.invoking theMethod args0 :: below0 := rfl
set_option maxRecDepth 65536 in
theorem w_args : argsFit about1.vm theMethod args0 = true := by decide +kernel
set_option maxRecDepth 65536 in
theorem w_heap : heapFits about1 = true := by decide +kernel
set_option maxRecDepth 65536 in
theorem w_runnable : about1.curStatus? = some .runnable := by decide +kernel
set_option maxRecDepth 65536 in
theorem w_alone : about1.alone = true := by decide +kernel
set_option maxRecDepth 65536 in
theorem w_named : about1.methodNamed? x = some theMethod := by decide +kernel
set_option maxRecDepth 65536 in
theorem w_hears : about1.hears theMethod below0 = true := by decide +kernel
set_option maxRecDepth 65536 in
theorem w_ripe : about1.ripe theMethod args0 below0 = true := by decide +kernel
theorem w_running : about1.status = .running := rfl
set_option maxRecDepth 65536 in
theorem w_room : about1.hasRoom e0.platform room_1 = true :=
  launch0.hasRoom_least _ room_1 (by decide +kernel) (by decide +kernel) (by decide +kernel) (by decide +kernel) (by decide +kernel) (by decide +kernel)
theorem allAtoms_all (ts : List Jvm.Cond) (a : Array Jvm.Value) (st : Jvm.State) : (allAtoms ts).before a st = ts.all (fun c => c.before a st) := by
  induction ts with
  | nil => rfl
  | cons c t ih =>
    show (Jvm.Cond.and c (allAtoms t)).before a st = _
    rw [Jvm.Cond.before_and, ih, List.all_cons]
def words1 : List Jvm.Cond := Jvm.Cond.code x code maxLocals ret :: tables_1
/-- a 'code' word, met by the world's own term for the bytes: nothing is compared byte by byte -/
theorem code_word {y : MethodName} {bytes : ByteArray} {mx : Nat} {rt : Option FieldType} {a : Array Value} {s : State} {m : MethodId} {meth : Method} {c : Code} (h1 : s.methodNamed? y = some m) (h2 : s.vm.method? m = some meth) (h3 : meth.code = some c) (h4 : c.code = bytes)
    (h5 : (c.maxLocals == mx && c.exceptionTable.isEmpty && decide (c.maxStack ≤ mostOperands) && decide (meth.sig.returnType = rt) && !meth.locks && decide (parseMethodDescriptor y.desc = some meth.sig)) = true) : (Jvm.Cond.code y bytes mx rt).before a s = true := by
  simp only [Bool.and_eq_true, beq_iff_eq, Bool.not_eq_true', decide_eq_true_eq] at h5
  obtain ⟨⟨⟨⟨⟨g1, g2⟩, g3⟩, g4⟩, g5⟩, g6⟩ := h5
  simp [Cond.before, Cond.holds, Cond.value, h1, h2, h3, h4, g1, g2, g3, g4, g5, g6]
def isCode : Jvm.Cond → Bool
  | .code _ _ _ _ => true
  | _ => false
theorem all_split {L : List Jvm.Cond} {P : Jvm.Cond → Bool} (h1 : L.all (fun c => isCode c || P c) = true) (h2 : ∀ c ∈ L.filter isCode, P c = true) : L.all P = true := by
  refine List.all_eq_true.mpr fun c hc => ?_
  have h := List.all_eq_true.mp h1 c hc
  rcases Bool.eq_false_or_eq_true (isCode c) with hi | hi
  · exact h2 c (List.mem_filter.mpr ⟨hc, hi⟩)
  · simpa [hi] using h
set_option maxRecDepth 65536 in
theorem w_c0 : (Jvm.Cond.code x code maxLocals ret).before args0 about1 = true := code_word (m := ⟨1, 1⟩) (meth := k1m1) (c := k1c1) (by decide +kernel) rfl rfl rfl (by decide +kernel)
set_option maxRecDepth 65536 in
theorem w_c1 : (Jvm.Cond.code ({ cls := "java/lang/String", name := "<init>", desc := "([C)V" } : Jvm.MethodName) jdk_42_method_3_code (2 : Nat) (Option.none : Option Jvm.ClassFile.FieldType)).before args0 about1 = true := code_word (m := ⟨7, 1⟩) (meth := k7m1) (c := k7c1) (by decide +kernel) rfl rfl rfl (by decide +kernel)
set_option maxRecDepth 65536 in
theorem w_c2 : (Jvm.Cond.code ({ cls := "java/lang/String", name := "<init>", desc := "([CIILjava/lang/Void;)V" } : Jvm.MethodName) jdk_42_method_149_code (6 : Nat) (Option.none : Option Jvm.ClassFile.FieldType)).before args0 about1 = true := code_word (m := ⟨7, 6⟩) (meth := k7m6) (c := k7c6) (by decide +kernel) rfl rfl rfl (by decide +kernel)
set_option maxRecDepth 65536 in
theorem w_c3 : (Jvm.Cond.code ({ cls := "java/lang/Object", name := "<init>", desc := "()V" } : Jvm.MethodName) object_method_1_code (1 : Nat) (Option.none : Option Jvm.ClassFile.FieldType)).before args0 about1 = true := code_word (m := ⟨0, 0⟩) (meth := k0m0) (c := k0c0) (by decide +kernel) rfl rfl rfl (by decide +kernel)
set_option maxRecDepth 65536 in
theorem w_c4 : (Jvm.Cond.code ({ cls := "java/lang/StringUTF16", name := "compress", desc := "([CII)[B" } : Jvm.MethodName) jdk_52_method_16_code (6 : Nat) (Option.some (Jvm.ClassFile.FieldType.array Jvm.ClassFile.FieldType.byte))).before args0 about1 = true := code_word (m := ⟨8, 2⟩) (meth := k8m2) (c := k8c2) (by decide +kernel) rfl rfl rfl (by decide +kernel)
set_option maxRecDepth 65536 in
theorem w_c5 : (Jvm.Cond.code ({ cls := "java/lang/StringUTF16", name := "compress", desc := "([CI[BII)I" } : Jvm.MethodName) jdk_52_method_21_code (7 : Nat) (Option.some Jvm.ClassFile.FieldType.int)).before args0 about1 = true := code_word (m := ⟨8, 3⟩) (meth := k8m3) (c := k8c3) (by decide +kernel) rfl rfl rfl (by decide +kernel)
set_option maxRecDepth 65536 in
theorem w_c6 : (Jvm.Cond.code ({ cls := "java/lang/StringUTF16", name := "coderFromArrayLen", desc := "([BI)B" } : Jvm.MethodName) jdk_52_method_15_code (2 : Nat) (Option.some Jvm.ClassFile.FieldType.byte)).before args0 about1 = true := code_word (m := ⟨8, 1⟩) (meth := k8m1) (c := k8c1) (by decide +kernel) rfl rfl rfl (by decide +kernel)
set_option maxRecDepth 65536 in
theorem w_c7 : (Jvm.Cond.code ({ cls := "com/example/pilotage/pilotage/core/ReadinessCheck$Login", name := "<init>", desc := "(Ljava/lang/String;Ljava/lang/String;Ljava/lang/String;)V" } : Jvm.MethodName) prog_22_method_1_code (4 : Nat) (Option.none : Option Jvm.ClassFile.FieldType)).before args0 about1 = true := code_word (m := ⟨10, 0⟩) (meth := k10m0) (c := k10c0) (by decide +kernel) rfl rfl rfl (by decide +kernel)
set_option maxRecDepth 65536 in
theorem w_c8 : (Jvm.Cond.code ({ cls := "java/lang/Record", name := "<init>", desc := "()V" } : Jvm.MethodName) jdk_30_method_1_code (1 : Nat) (Option.none : Option Jvm.ClassFile.FieldType)).before args0 about1 = true := code_word (m := ⟨9, 0⟩) (meth := k9m0) (c := k9c0) (by decide +kernel) rfl rfl rfl (by decide +kernel)
set_option maxRecDepth 65536 in
theorem w_c9 : (Jvm.Cond.code ({ cls := "java/util/Objects", name := "requireNonNull", desc := "(Ljava/lang/Object;Ljava/lang/String;)Ljava/lang/Object;" } : Jvm.MethodName) jdk_31_method_11_code (2 : Nat) (Option.some (Jvm.ClassFile.FieldType.object "java/lang/Object"))).before args0 about1 = true := code_word (m := ⟨11, 1⟩) (meth := k11m1) (c := k11c1) (by decide +kernel) rfl rfl rfl (by decide +kernel)
set_option maxRecDepth 65536 in
theorem w_c10 : (Jvm.Cond.code ({ cls := "com/example/pilotage/pilotage/core/ReadinessCheck$Login", name := "toString", desc := "()Ljava/lang/String;" } : Jvm.MethodName) prog_22_method_2_code (1 : Nat) (Option.some (Jvm.ClassFile.FieldType.object "java/lang/String"))).before args0 about1 = true := code_word (m := ⟨10, 1⟩) (meth := k10m1) (c := k10c1) (by decide +kernel) rfl rfl rfl (by decide +kernel)
set_option maxRecDepth 65536 in
theorem w_c11 : (Jvm.Cond.code ({ cls := "java/lang/StringBuilder", name := "<init>", desc := "()V" } : Jvm.MethodName) jdk_67_method_1_code (1 : Nat) (Option.none : Option Jvm.ClassFile.FieldType)).before args0 about1 = true := code_word (m := ⟨14, 0⟩) (meth := k14m0) (c := k14c0) (by decide +kernel) rfl rfl rfl (by decide +kernel)
set_option maxRecDepth 65536 in
theorem w_c12 : (Jvm.Cond.code ({ cls := "java/lang/AbstractStringBuilder", name := "<init>", desc := "(I)V" } : Jvm.MethodName) jdk_68_method_2_code (2 : Nat) (Option.none : Option Jvm.ClassFile.FieldType)).before args0 about1 = true := code_word (m := ⟨13, 1⟩) (meth := k13m1) (c := k13c1) (by decide +kernel) rfl rfl rfl (by decide +kernel)
set_option maxRecDepth 65536 in
theorem w_c13 : (Jvm.Cond.code ({ cls := "java/lang/StringBuilder", name := "append", desc := "(Ljava/lang/String;)Ljava/lang/StringBuilder;" } : Jvm.MethodName) jdk_67_method_7_code (2 : Nat) (Option.some (Jvm.ClassFile.FieldType.object "java/lang/StringBuilder"))).before args0 about1 = true := code_word (m := ⟨14, 1⟩) (meth := k14m1) (c := k14c1) (by decide +kernel) rfl rfl rfl (by decide +kernel)
set_option maxRecDepth 65536 in
theorem w_c14 : (Jvm.Cond.code ({ cls := "java/lang/AbstractStringBuilder", name := "append", desc := "(Ljava/lang/String;)Ljava/lang/AbstractStringBuilder;" } : Jvm.MethodName) jdk_68_method_22_code (3 : Nat) (Option.some (Jvm.ClassFile.FieldType.object "java/lang/AbstractStringBuilder"))).before args0 about1 = true := code_word (m := ⟨13, 5⟩) (meth := k13m5) (c := k13c5) (by decide +kernel) rfl rfl rfl (by decide +kernel)
set_option maxRecDepth 65536 in
theorem w_c15 : (Jvm.Cond.code ({ cls := "java/lang/String", name := "length", desc := "()I" } : Jvm.MethodName) jdk_42_method_54_code (1 : Nat) (Option.some Jvm.ClassFile.FieldType.int)).before args0 about1 = true := code_word (m := ⟨7, 3⟩) (meth := k7m3) (c := k7c3) (by decide +kernel) rfl rfl rfl (by decide +kernel)
set_option maxRecDepth 65536 in
theorem w_c16 : (Jvm.Cond.code ({ cls := "java/lang/String", name := "coder", desc := "()B" } : Jvm.MethodName) jdk_42_method_152_code (1 : Nat) (Option.some Jvm.ClassFile.FieldType.byte)).before args0 about1 = true := code_word (m := ⟨7, 8⟩) (meth := k7m8) (c := k7c8) (by decide +kernel) rfl rfl rfl (by decide +kernel)
set_option maxRecDepth 65536 in
theorem w_c17 : (Jvm.Cond.code ({ cls := "java/lang/AbstractStringBuilder", name := "ensureCapacityInternal", desc := "(I)V" } : Jvm.MethodName) jdk_68_method_9_code (3 : Nat) (Option.none : Option Jvm.ClassFile.FieldType)).before args0 about1 = true := code_word (m := ⟨13, 3⟩) (meth := k13m3) (c := k13c3) (by decide +kernel) rfl rfl rfl (by decide +kernel)
set_option maxRecDepth 65536 in
theorem w_c18 : (Jvm.Cond.code ({ cls := "java/lang/AbstractStringBuilder", name := "putStringAt", desc := "(ILjava/lang/String;)V" } : Jvm.MethodName) jdk_68_method_73_code (3 : Nat) (Option.none : Option Jvm.ClassFile.FieldType)).before args0 about1 = true := code_word (m := ⟨13, 9⟩) (meth := k13m9) (c := k13c9) (by decide +kernel) rfl rfl rfl (by decide +kernel)
set_option maxRecDepth 65536 in
theorem w_c19 : (Jvm.Cond.code ({ cls := "java/lang/AbstractStringBuilder", name := "inflateIfNeededFor", desc := "(Ljava/lang/String;)V" } : Jvm.MethodName) jdk_68_method_71_code (2 : Nat) (Option.none : Option Jvm.ClassFile.FieldType)).before args0 about1 = true := code_word (m := ⟨13, 8⟩) (meth := k13m8) (c := k13c8) (by decide +kernel) rfl rfl rfl (by decide +kernel)
set_option maxRecDepth 65536 in
theorem w_c20 : (Jvm.Cond.code ({ cls := "java/lang/String", name := "getBytes", desc := "([BIB)V" } : Jvm.MethodName) jdk_42_method_147_code (4 : Nat) (Option.none : Option Jvm.ClassFile.FieldType)).before args0 about1 = true := code_word (m := ⟨7, 5⟩) (meth := k7m5) (c := k7c5) (by decide +kernel) rfl rfl rfl (by decide +kernel)
set_option maxRecDepth 65536 in
theorem w_c21 : (Jvm.Cond.code ({ cls := "java/lang/AbstractStringBuilder", name := "newCapacity", desc := "(I)I" } : Jvm.MethodName) jdk_68_method_10_code (6 : Nat) (Option.some Jvm.ClassFile.FieldType.int)).before args0 about1 = true := code_word (m := ⟨13, 4⟩) (meth := k13m4) (c := k13c4) (by decide +kernel) rfl rfl rfl (by decide +kernel)
set_option maxRecDepth 65536 in
theorem w_c22 : (Jvm.Cond.code ({ cls := "jdk/internal/util/ArraysSupport", name := "newLength", desc := "(III)I" } : Jvm.MethodName) jdk_48_method_27_code (4 : Nat) (Option.some Jvm.ClassFile.FieldType.int)).before args0 about1 = true := code_word (m := ⟨16, 1⟩) (meth := k16m1) (c := k16c1) (by decide +kernel) rfl rfl rfl (by decide +kernel)
set_option maxRecDepth 65536 in
theorem w_c23 : (Jvm.Cond.code ({ cls := "java/lang/Math", name := "max", desc := "(II)I" } : Jvm.MethodName) jdk_29_method_65_code (2 : Nat) (Option.some Jvm.ClassFile.FieldType.int)).before args0 about1 = true := code_word (m := ⟨17, 1⟩) (meth := k17m1) (c := k17c1) (by decide +kernel) rfl rfl rfl (by decide +kernel)
set_option maxRecDepth 65536 in
theorem w_c24 : (Jvm.Cond.code ({ cls := "java/util/Arrays", name := "copyOf", desc := "([BI)[B" } : Jvm.MethodName) jdk_65_method_121_code (3 : Nat) (Option.some (Jvm.ClassFile.FieldType.array Jvm.ClassFile.FieldType.byte))).before args0 about1 = true := code_word (m := ⟨18, 1⟩) (meth := k18m1) (c := k18c1) (by decide +kernel) rfl rfl rfl (by decide +kernel)
set_option maxRecDepth 65536 in
theorem w_c25 : (Jvm.Cond.code ({ cls := "java/lang/Math", name := "min", desc := "(II)I" } : Jvm.MethodName) jdk_29_method_69_code (2 : Nat) (Option.some Jvm.ClassFile.FieldType.int)).before args0 about1 = true := code_word (m := ⟨17, 2⟩) (meth := k17m2) (c := k17c2) (by decide +kernel) rfl rfl rfl (by decide +kernel)
set_option maxRecDepth 65536 in
theorem w_c26 : (Jvm.Cond.code ({ cls := "java/lang/StringBuilder", name := "toString", desc := "()Ljava/lang/String;" } : Jvm.MethodName) jdk_67_method_42_code (1 : Nat) (Option.some (Jvm.ClassFile.FieldType.object "java/lang/String"))).before args0 about1 = true := code_word (m := ⟨14, 2⟩) (meth := k14m2) (c := k14c2) (by decide +kernel) rfl rfl rfl (by decide +kernel)
set_option maxRecDepth 65536 in
theorem w_c27 : (Jvm.Cond.code ({ cls := "java/lang/String", name := "<init>", desc := "(Ljava/lang/StringBuilder;)V" } : Jvm.MethodName) jdk_42_method_53_code (2 : Nat) (Option.none : Option Jvm.ClassFile.FieldType)).before args0 about1 = true := code_word (m := ⟨7, 2⟩) (meth := k7m2) (c := k7c2) (by decide +kernel) rfl rfl rfl (by decide +kernel)
set_option maxRecDepth 65536 in
theorem w_c28 : (Jvm.Cond.code ({ cls := "java/lang/String", name := "<init>", desc := "(Ljava/lang/AbstractStringBuilder;Ljava/lang/Void;)V" } : Jvm.MethodName) jdk_42_method_150_code (5 : Nat) (Option.none : Option Jvm.ClassFile.FieldType)).before args0 about1 = true := code_word (m := ⟨7, 7⟩) (meth := k7m7) (c := k7c7) (by decide +kernel) rfl rfl rfl (by decide +kernel)
set_option maxRecDepth 65536 in
theorem w_c29 : (Jvm.Cond.code ({ cls := "java/lang/AbstractStringBuilder", name := "getValue", desc := "()[B" } : Jvm.MethodName) jdk_68_method_64_code (1 : Nat) (Option.some (Jvm.ClassFile.FieldType.array Jvm.ClassFile.FieldType.byte))).before args0 about1 = true := code_word (m := ⟨13, 6⟩) (meth := k13m6) (c := k13c6) (by decide +kernel) rfl rfl rfl (by decide +kernel)
set_option maxRecDepth 65536 in
theorem w_c30 : (Jvm.Cond.code ({ cls := "java/lang/StringBuilder", name := "length", desc := "()I" } : Jvm.MethodName) jdk_67_method_93_code (1 : Nat) (Option.some Jvm.ClassFile.FieldType.int)).before args0 about1 = true := code_word (m := ⟨14, 3⟩) (meth := k14m3) (c := k14c3) (by decide +kernel) rfl rfl rfl (by decide +kernel)
set_option maxRecDepth 65536 in
theorem w_c31 : (Jvm.Cond.code ({ cls := "java/lang/AbstractStringBuilder", name := "length", desc := "()I" } : Jvm.MethodName) jdk_68_method_6_code (1 : Nat) (Option.some Jvm.ClassFile.FieldType.int)).before args0 about1 = true := code_word (m := ⟨13, 2⟩) (meth := k13m2) (c := k13c2) (by decide +kernel) rfl rfl rfl (by decide +kernel)
set_option maxRecDepth 65536 in
theorem w_c32 : (Jvm.Cond.code ({ cls := "java/lang/AbstractStringBuilder", name := "isLatin1", desc := "()Z" } : Jvm.MethodName) jdk_68_method_68_code (1 : Nat) (Option.some Jvm.ClassFile.FieldType.boolean)).before args0 about1 = true := code_word (m := ⟨13, 7⟩) (meth := k13m7) (c := k13c7) (by decide +kernel) rfl rfl rfl (by decide +kernel)
set_option maxRecDepth 65536 in
theorem w_c33 : (Jvm.Cond.code ({ cls := "java/util/Arrays", name := "copyOfRange", desc := "([BII)[B" } : Jvm.MethodName) jdk_65_method_132_code (3 : Nat) (Option.some (Jvm.ClassFile.FieldType.array Jvm.ClassFile.FieldType.byte))).before args0 about1 = true := code_word (m := ⟨18, 3⟩) (meth := k18m3) (c := k18c3) (by decide +kernel) rfl rfl rfl (by decide +kernel)
set_option maxRecDepth 65536 in
theorem w_c34 : (Jvm.Cond.code ({ cls := "java/util/Arrays", name := "copyOfRangeByte", desc := "([BII)[B" } : Jvm.MethodName) jdk_65_method_133_code (5 : Nat) (Option.some (Jvm.ClassFile.FieldType.array Jvm.ClassFile.FieldType.byte))).before args0 about1 = true := code_word (m := ⟨18, 4⟩) (meth := k18m4) (c := k18c4) (by decide +kernel) rfl rfl rfl (by decide +kernel)
set_option maxRecDepth 65536 in
theorem w_c35 : (Jvm.Cond.code ({ cls := "java/util/Arrays", name := "checkLength", desc := "(II)V" } : Jvm.MethodName) jdk_65_method_131_code (2 : Nat) (Option.none : Option Jvm.ClassFile.FieldType)).before args0 about1 = true := code_word (m := ⟨18, 2⟩) (meth := k18m2) (c := k18c2) (by decide +kernel) rfl rfl rfl (by decide +kernel)
set_option maxRecDepth 65536 in
theorem w_c36 : (Jvm.Cond.code ({ cls := "java/lang/String", name := "equals", desc := "(Ljava/lang/Object;)Z" } : Jvm.MethodName) jdk_42_method_66_code (3 : Nat) (Option.some Jvm.ClassFile.FieldType.boolean)).before args0 about1 = true := code_word (m := ⟨7, 4⟩) (meth := k7m4) (c := k7c4) (by decide +kernel) rfl rfl rfl (by decide +kernel)
set_option maxRecDepth 65536 in
theorem w_c37 : (Jvm.Cond.code ({ cls := "java/lang/StringLatin1", name := "equals", desc := "([B[B)Z" } : Jvm.MethodName) jdk_43_method_13_code (3 : Nat) (Option.some Jvm.ClassFile.FieldType.boolean)).before args0 about1 = true := code_word (m := ⟨19, 1⟩) (meth := k19m1) (c := k19c1) (by decide +kernel) rfl rfl rfl (by decide +kernel)
def codes1 : List Jvm.Cond := [Jvm.Cond.code x code maxLocals ret, Jvm.Cond.code ({ cls := "java/lang/String", name := "<init>", desc := "([C)V" } : Jvm.MethodName) jdk_42_method_3_code (2 : Nat) (Option.none : Option Jvm.ClassFile.FieldType), Jvm.Cond.code ({ cls := "java/lang/String", name := "<init>", desc := "([CIILjava/lang/Void;)V" } : Jvm.MethodName) jdk_42_method_149_code (6 : Nat) (Option.none : Option Jvm.ClassFile.FieldType), Jvm.Cond.code ({ cls := "java/lang/Object", name := "<init>", desc := "()V" } : Jvm.MethodName) object_method_1_code (1 : Nat) (Option.none : Option Jvm.ClassFile.FieldType), Jvm.Cond.code ({ cls := "java/lang/StringUTF16", name := "compress", desc := "([CII)[B" } : Jvm.MethodName) jdk_52_method_16_code (6 : Nat) (Option.some (Jvm.ClassFile.FieldType.array Jvm.ClassFile.FieldType.byte)), Jvm.Cond.code ({ cls := "java/lang/StringUTF16", name := "compress", desc := "([CI[BII)I" } : Jvm.MethodName) jdk_52_method_21_code (7 : Nat) (Option.some Jvm.ClassFile.FieldType.int), Jvm.Cond.code ({ cls := "java/lang/StringUTF16", name := "coderFromArrayLen", desc := "([BI)B" } : Jvm.MethodName) jdk_52_method_15_code (2 : Nat) (Option.some Jvm.ClassFile.FieldType.byte), Jvm.Cond.code ({ cls := "com/example/pilotage/pilotage/core/ReadinessCheck$Login", name := "<init>", desc := "(Ljava/lang/String;Ljava/lang/String;Ljava/lang/String;)V" } : Jvm.MethodName) prog_22_method_1_code (4 : Nat) (Option.none : Option Jvm.ClassFile.FieldType), Jvm.Cond.code ({ cls := "java/lang/Record", name := "<init>", desc := "()V" } : Jvm.MethodName) jdk_30_method_1_code (1 : Nat) (Option.none : Option Jvm.ClassFile.FieldType), Jvm.Cond.code ({ cls := "java/util/Objects", name := "requireNonNull", desc := "(Ljava/lang/Object;Ljava/lang/String;)Ljava/lang/Object;" } : Jvm.MethodName) jdk_31_method_11_code (2 : Nat) (Option.some (Jvm.ClassFile.FieldType.object "java/lang/Object")), Jvm.Cond.code ({ cls := "com/example/pilotage/pilotage/core/ReadinessCheck$Login", name := "toString", desc := "()Ljava/lang/String;" } : Jvm.MethodName) prog_22_method_2_code (1 : Nat) (Option.some (Jvm.ClassFile.FieldType.object "java/lang/String")), Jvm.Cond.code ({ cls := "java/lang/StringBuilder", name := "<init>", desc := "()V" } : Jvm.MethodName) jdk_67_method_1_code (1 : Nat) (Option.none : Option Jvm.ClassFile.FieldType), Jvm.Cond.code ({ cls := "java/lang/AbstractStringBuilder", name := "<init>", desc := "(I)V" } : Jvm.MethodName) jdk_68_method_2_code (2 : Nat) (Option.none : Option Jvm.ClassFile.FieldType), Jvm.Cond.code ({ cls := "java/lang/StringBuilder", name := "append", desc := "(Ljava/lang/String;)Ljava/lang/StringBuilder;" } : Jvm.MethodName) jdk_67_method_7_code (2 : Nat) (Option.some (Jvm.ClassFile.FieldType.object "java/lang/StringBuilder")), Jvm.Cond.code ({ cls := "java/lang/AbstractStringBuilder", name := "append", desc := "(Ljava/lang/String;)Ljava/lang/AbstractStringBuilder;" } : Jvm.MethodName) jdk_68_method_22_code (3 : Nat) (Option.some (Jvm.ClassFile.FieldType.object "java/lang/AbstractStringBuilder")), Jvm.Cond.code ({ cls := "java/lang/String", name := "length", desc := "()I" } : Jvm.MethodName) jdk_42_method_54_code (1 : Nat) (Option.some Jvm.ClassFile.FieldType.int), Jvm.Cond.code ({ cls := "java/lang/String", name := "coder", desc := "()B" } : Jvm.MethodName) jdk_42_method_152_code (1 : Nat) (Option.some Jvm.ClassFile.FieldType.byte), Jvm.Cond.code ({ cls := "java/lang/AbstractStringBuilder", name := "ensureCapacityInternal", desc := "(I)V" } : Jvm.MethodName) jdk_68_method_9_code (3 : Nat) (Option.none : Option Jvm.ClassFile.FieldType), Jvm.Cond.code ({ cls := "java/lang/AbstractStringBuilder", name := "putStringAt", desc := "(ILjava/lang/String;)V" } : Jvm.MethodName) jdk_68_method_73_code (3 : Nat) (Option.none : Option Jvm.ClassFile.FieldType), Jvm.Cond.code ({ cls := "java/lang/AbstractStringBuilder", name := "inflateIfNeededFor", desc := "(Ljava/lang/String;)V" } : Jvm.MethodName) jdk_68_method_71_code (2 : Nat) (Option.none : Option Jvm.ClassFile.FieldType), Jvm.Cond.code ({ cls := "java/lang/String", name := "getBytes", desc := "([BIB)V" } : Jvm.MethodName) jdk_42_method_147_code (4 : Nat) (Option.none : Option Jvm.ClassFile.FieldType), Jvm.Cond.code ({ cls := "java/lang/AbstractStringBuilder", name := "newCapacity", desc := "(I)I" } : Jvm.MethodName) jdk_68_method_10_code (6 : Nat) (Option.some Jvm.ClassFile.FieldType.int), Jvm.Cond.code ({ cls := "jdk/internal/util/ArraysSupport", name := "newLength", desc := "(III)I" } : Jvm.MethodName) jdk_48_method_27_code (4 : Nat) (Option.some Jvm.ClassFile.FieldType.int), Jvm.Cond.code ({ cls := "java/lang/Math", name := "max", desc := "(II)I" } : Jvm.MethodName) jdk_29_method_65_code (2 : Nat) (Option.some Jvm.ClassFile.FieldType.int), Jvm.Cond.code ({ cls := "java/util/Arrays", name := "copyOf", desc := "([BI)[B" } : Jvm.MethodName) jdk_65_method_121_code (3 : Nat) (Option.some (Jvm.ClassFile.FieldType.array Jvm.ClassFile.FieldType.byte)), Jvm.Cond.code ({ cls := "java/lang/Math", name := "min", desc := "(II)I" } : Jvm.MethodName) jdk_29_method_69_code (2 : Nat) (Option.some Jvm.ClassFile.FieldType.int), Jvm.Cond.code ({ cls := "java/lang/StringBuilder", name := "toString", desc := "()Ljava/lang/String;" } : Jvm.MethodName) jdk_67_method_42_code (1 : Nat) (Option.some (Jvm.ClassFile.FieldType.object "java/lang/String")), Jvm.Cond.code ({ cls := "java/lang/String", name := "<init>", desc := "(Ljava/lang/StringBuilder;)V" } : Jvm.MethodName) jdk_42_method_53_code (2 : Nat) (Option.none : Option Jvm.ClassFile.FieldType), Jvm.Cond.code ({ cls := "java/lang/String", name := "<init>", desc := "(Ljava/lang/AbstractStringBuilder;Ljava/lang/Void;)V" } : Jvm.MethodName) jdk_42_method_150_code (5 : Nat) (Option.none : Option Jvm.ClassFile.FieldType), Jvm.Cond.code ({ cls := "java/lang/AbstractStringBuilder", name := "getValue", desc := "()[B" } : Jvm.MethodName) jdk_68_method_64_code (1 : Nat) (Option.some (Jvm.ClassFile.FieldType.array Jvm.ClassFile.FieldType.byte)), Jvm.Cond.code ({ cls := "java/lang/StringBuilder", name := "length", desc := "()I" } : Jvm.MethodName) jdk_67_method_93_code (1 : Nat) (Option.some Jvm.ClassFile.FieldType.int), Jvm.Cond.code ({ cls := "java/lang/AbstractStringBuilder", name := "length", desc := "()I" } : Jvm.MethodName) jdk_68_method_6_code (1 : Nat) (Option.some Jvm.ClassFile.FieldType.int), Jvm.Cond.code ({ cls := "java/lang/AbstractStringBuilder", name := "isLatin1", desc := "()Z" } : Jvm.MethodName) jdk_68_method_68_code (1 : Nat) (Option.some Jvm.ClassFile.FieldType.boolean), Jvm.Cond.code ({ cls := "java/util/Arrays", name := "copyOfRange", desc := "([BII)[B" } : Jvm.MethodName) jdk_65_method_132_code (3 : Nat) (Option.some (Jvm.ClassFile.FieldType.array Jvm.ClassFile.FieldType.byte)), Jvm.Cond.code ({ cls := "java/util/Arrays", name := "copyOfRangeByte", desc := "([BII)[B" } : Jvm.MethodName) jdk_65_method_133_code (5 : Nat) (Option.some (Jvm.ClassFile.FieldType.array Jvm.ClassFile.FieldType.byte)), Jvm.Cond.code ({ cls := "java/util/Arrays", name := "checkLength", desc := "(II)V" } : Jvm.MethodName) jdk_65_method_131_code (2 : Nat) (Option.none : Option Jvm.ClassFile.FieldType), Jvm.Cond.code ({ cls := "java/lang/String", name := "equals", desc := "(Ljava/lang/Object;)Z" } : Jvm.MethodName) jdk_42_method_66_code (3 : Nat) (Option.some Jvm.ClassFile.FieldType.boolean), Jvm.Cond.code ({ cls := "java/lang/StringLatin1", name := "equals", desc := "([B[B)Z" } : Jvm.MethodName) jdk_43_method_13_code (3 : Nat) (Option.some Jvm.ClassFile.FieldType.boolean)]
set_option maxRecDepth 65536 in
theorem codes_eq : words1.filter isCode = codes1 := rfl
theorem w_codes : ∀ c ∈ words1.filter isCode, c.before args0 about1 = true := by
  rw [codes_eq]
  intro c hc
  simp only [codes1, List.mem_cons, List.not_mem_nil, or_false] at hc
  rcases hc with rfl | rfl | rfl | rfl | rfl | rfl | rfl | rfl | rfl | rfl | rfl | rfl | rfl | rfl | rfl | rfl | rfl | rfl | rfl | rfl | rfl | rfl | rfl | rfl | rfl | rfl | rfl | rfl | rfl | rfl | rfl | rfl | rfl | rfl | rfl | rfl | rfl | rfl
  · exact w_c0
  · exact w_c1
  · exact w_c2
  · exact w_c3
  · exact w_c4
  · exact w_c5
  · exact w_c6
  · exact w_c7
  · exact w_c8
  · exact w_c9
  · exact w_c10
  · exact w_c11
  · exact w_c12
  · exact w_c13
  · exact w_c14
  · exact w_c15
  · exact w_c16
  · exact w_c17
  · exact w_c18
  · exact w_c19
  · exact w_c20
  · exact w_c21
  · exact w_c22
  · exact w_c23
  · exact w_c24
  · exact w_c25
  · exact w_c26
  · exact w_c27
  · exact w_c28
  · exact w_c29
  · exact w_c30
  · exact w_c31
  · exact w_c32
  · exact w_c33
  · exact w_c34
  · exact w_c35
  · exact w_c36
  · exact w_c37
set_option maxRecDepth 65536 in
theorem w_t1 : (words1.take 24).all (fun c => isCode c || c.before args0 about1) = true := by decide +kernel
set_option maxRecDepth 65536 in
theorem w_t2 : ((words1.drop 24).take 24).all (fun c => isCode c || c.before args0 about1) = true := by decide +kernel
set_option maxRecDepth 65536 in
theorem w_t3 : (((words1.drop 24).drop 24).take 24).all (fun c => isCode c || c.before args0 about1) = true := by decide +kernel
set_option maxRecDepth 65536 in
theorem w_t4 : ((((words1.drop 24).drop 24).drop 24).take 24).all (fun c => isCode c || c.before args0 about1) = true := by decide +kernel
set_option maxRecDepth 65536 in
theorem w_t5 : (((((words1.drop 24).drop 24).drop 24).drop 24).take 24).all (fun c => isCode c || c.before args0 about1) = true := by decide +kernel
set_option maxRecDepth 65536 in
theorem w_t6 : ((((((words1.drop 24).drop 24).drop 24).drop 24).drop 24).take 24).all (fun c => isCode c || c.before args0 about1) = true := by decide +kernel
set_option maxRecDepth 65536 in
theorem w_t7 : (((((((words1.drop 24).drop 24).drop 24).drop 24).drop 24).drop 24).take 24).all (fun c => isCode c || c.before args0 about1) = true := by decide +kernel
set_option maxRecDepth 65536 in
theorem w_t8 : ((((((((words1.drop 24).drop 24).drop 24).drop 24).drop 24).drop 24).drop 24).take 24).all (fun c => isCode c || c.before args0 about1) = true := by decide +kernel
set_option maxRecDepth 65536 in
theorem w_t9 : ((((((((words1.drop 24).drop 24).drop 24).drop 24).drop 24).drop 24).drop 24).drop 24).all (fun c => isCode c || c.before args0 about1) = true := by decide +kernel
theorem w_tables : (allAtoms (Jvm.Cond.code x code maxLocals ret :: tables_1)).before args0 about1 = true := by
  rw [allAtoms_all]
  show words1.all (fun c => c.before args0 about1) = true
  refine all_split ?_ w_codes
  rw [← List.take_append_drop 24 words1, List.all_append, w_t1, ← List.take_append_drop 24 (words1.drop 24), List.all_append, w_t2, ← List.take_append_drop 24 ((words1.drop 24).drop 24), List.all_append, w_t3, ← List.take_append_drop 24 (((words1.drop 24).drop 24).drop 24), List.all_append, w_t4, ← List.take_append_drop 24 ((((words1.drop 24).drop 24).drop 24).drop 24), List.all_append, w_t5, ← List.take_append_drop 24 (((((words1.drop 24).drop 24).drop 24).drop 24).drop 24), List.all_append, w_t6, ← List.take_append_drop 24 ((((((words1.drop 24).drop 24).drop 24).drop 24).drop 24).drop 24), List.all_append, w_t7, ← List.take_append_drop 24 (((((((words1.drop 24).drop 24).drop 24).drop 24).drop 24).drop 24).drop 24), List.all_append, w_t8, w_t9]
  rfl
set_option maxRecDepth 65536 in
theorem w_rest : rest_1_c.before args0 about1 = true := by decide +kernel
set_option maxRecDepth 65536 in
theorem w_case : (Jvm.Cond.and given_1 narrow_1).before args0 about1 = true := by decide +kernel
set_option maxRecDepth 65536 in
theorem w_consts : constsHeld consts_1 about1 := Jvm.Lit.constsHeldB_iff.mp (by decide +kernel)
theorem w_applies : (headSpec (Jvm.Cond.code x code maxLocals ret :: tables_1) room_1).applies x e0.platform about1 = true :=
  (Spec.applies_iff w_frames).mpr ⟨w_running, w_runnable, w_alone, w_named, w_hears, w_ripe, w_room, w_tables⟩
theorem atStart : AtStart classFile x code maxLocals ret World_1 tables_1 room_1 Calls_1 rest_1 Pre_1 launch0 p0 e0 about1 theMethod args0 below0 :=
  ⟨lists_1, trivial, launch0.admits_env _ _ _, launch0.least_env, fairChoices_fair.cas, fairChoices_fair.clock, w_frames, w_args, w_heap, w_applies, ⟨w_consts, trivial⟩, w_rest, w_case⟩
end start1
theorem witness_1 : WitnessClaimed_1 := ⟨start1.p0, start1.e0, start1.about1, start1.theMethod, start1.args0, start1.below0, start1.atStart⟩
end Jvm.Pilot.@@N@@
