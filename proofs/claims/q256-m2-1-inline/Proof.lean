import JvmDerived
import JvmDerived.Pilot.@@N@@Statement
import JvmDerived.Pilot.@@N@@Code
set_option linter.unusedVariables false
set_option linter.unusedSimpArgs false
namespace Jvm.Own
open Jvm Jvm.ClassFile Sem Op Lib Jvm.Free Jvm.Stand Jvm.LawKit Jvm.RoadKit Bundle
/-! OWN LAYER: one bundle (W) for all that a walk knows of the machine; one goal (Go): from this state the method returns as Q says. Every step is a law 'W.step w .. : Go (behind) → Go (before)'. -/
abbrev Ka : Type := Program × Env × State × MethodId × List Frame × Method × Code × Array Value
abbrev kp (κ : Ka) : Program := κ.1
abbrev ke (κ : Ka) : Env := κ.2.1
abbrev ks (κ : Ka) : State := κ.2.2.1
abbrev km (κ : Ka) : MethodId := κ.2.2.2.1
abbrev kb (κ : Ka) : List Frame := κ.2.2.2.2.1
abbrev kt (κ : Ka) : Method := κ.2.2.2.2.2.1
abbrev kc (κ : Ka) : Code := κ.2.2.2.2.2.2.1
abbrev ka (κ : Ka) : Array Value := κ.2.2.2.2.2.2.2
/-- how a walk ends: the wide frame; under nar the narrow one too -/
def EndOk (nw : Bool) (U : State) (o : Outcome) (U' : State) (L : List Loc) (k n : Nat) : Prop := ReturnedEndW U o U' L k n ∧ (nw = true → FrameEnd U o U' L k n)
/-- the places that the walk may write: made since the law's start, and no String constant's -/
def Mut (Z : State) (EL : List (String × Nat)) (vm : Vm) (h : Heap) (M : List Addr) : Prop := ∀ x ∈ M, Z.heap.size ≤ x ∧ x < h.size ∧ Safe Z EL vm h x
def Ctr (l : Launch) (Z : State) (EL : List (String × Nat)) (nw : Bool) (y : MethodName) (bytes : ByteArray) (ml : Nat) (ret : Option FieldType) (rm : Room) (as : List Value) (h0 : Heap) (M : List Addr) (Q : Option Value → Heap → List Addr → Prop) : Prop :=
  MetFree l y (head1 [Cond.code y bytes ml ret] rm) (fun a U => a = as.toArray ∧ Z.Warmed39 U.vm ∧ U.heap = h0 ∧ CHv Z EL U.vm h0 ∧ Mut Z EL U.vm h0 M) (fun _ _ _ _ _ => True)
    (fun _ U o U' => ∃ v L M', o = .returned v ∧ Q v U'.heap M' ∧ Fr Z.heap.size L ∧ CHr Z EL U.vm U.heap U'.vm U'.heap ∧ Mut Z EL U'.vm U'.heap M' ∧ Old Z Z.heap.size U'.heap ∧ EndOk nw U o U' L rm.cells rm.slots)
def W (l : Launch) (Z : State) (a0 : Array Value) (EL : List (String × Nat)) (nw : Bool) (own : String) (bytes : ByteArray) (ml : Nat) (ret : Option FieldType) (R : Room) (κ : Ka) (T : State) (h : Heap) (M : List Addr) (cells slots : Nat) : Prop :=
  ((kp κ).tables.exec = Jvm.exec ∧ (kc κ).code = bytes ∧ (kc κ).maxLocals = ml ∧ (kt κ).sig.returnType = ret ∧ (kt κ).locks = false ∧ EW Z a0 EL) ∧
  ∃ (vm0 : Vm) (k0 : Nat) (locs : List Loc), Stand (kp κ) l (ke κ) R ((ks κ).setVm vm0) (km κ) (ka κ) (kb κ) (kt κ) (kc κ) T locs cells slots ∧ Fr Z.heap.size locs ∧ Z.Warmed39 vm0 ∧ vm0.findClass own = some (km κ).cls ∧ (ks κ).Since vm0 k0 ∧ k0 ≤ h.size ∧ T.heap = h ∧
    CHr Z EL (ks κ).vm (ks κ).heap vm0 h ∧ Mut Z EL vm0 h M ∧ Old Z Z.heap.size h ∧ (nw = true → (ks κ).WarmedH vm0)
def Go (Z : State) (EL : List (String × Nat)) (nw : Bool) (R : Room) (κ : Ka) (Q : Option Value → Heap → List Addr → Prop) (U : State) : Prop :=
  ∃ s₂ o, Steps (kp κ).tables (ke κ) (kb κ) U s₂ ∧ s₂.status = .running ∧ Ended s₂ (kb κ) o ∧ ∃ v L M', o = .returned v ∧ Q v s₂.heap M' ∧ Fr Z.heap.size L ∧ CHr Z EL (ks κ).vm (ks κ).heap s₂.vm s₂.heap ∧ Mut Z EL s₂.vm s₂.heap M' ∧ Old Z Z.heap.size s₂.heap ∧ EndOk nw (ks κ) o s₂ L R.cells R.slots
section Base
variable {l : Launch} {Z : State} {a0 : Array Value} {EL : List (String × Nat)} {nw : Bool} {own : String} {bytes : ByteArray} {ml : Nat} {ret : Option FieldType} {R : Room} {κ : Ka} {T : State} {h : Heap} {M : List Addr} {cells slots : Nat} {Q : Option Value → Heap → List Addr → Prop} {U U' : State} {G : JFrame}
theorem Go.via (st : ∀ t, Steps (kp κ).tables (ke κ) (kb κ) U' t → Steps (kp κ).tables (ke κ) (kb κ) U t) (g : Go Z EL nw R κ Q U') : Go Z EL nw R κ Q U := by
  obtain ⟨s₂, o, h1, r⟩ := g
  exact ⟨s₂, o, st _ h1, r⟩
theorem Go.tr (st : Steps (kp κ).tables (ke κ) (kb κ) U U') (g : Go Z EL nw R κ Q U') : Go Z EL nw R κ Q U := Go.via (fun _ k => st.trans k) g
theorem Go.mono {Q' : Option Value → Heap → List Addr → Prop} (g : Go Z EL nw R κ Q U) (q : ∀ v h M, Q v h M → Q' v h M) : Go Z EL nw R κ Q' U := by
  obtain ⟨s₂, o, h1, h2, h3, v, L, M', h4, h5, r⟩ := g
  exact ⟨s₂, o, h1, h2, h3, v, L, M', h4, q _ _ _ h5, r⟩
theorem W.old (w : W l Z a0 EL nw own bytes ml ret R κ T h M cells slots) : Old Z Z.heap.size h := by
  obtain ⟨-, vm0, k0, locs, -, -, -, -, -, -, -, -, -, hO, -⟩ := w
  exact hO
theorem W.ew (w : W l Z a0 EL nw own bytes ml ret R κ T h M cells slots) : EW Z a0 EL := w.1.2.2.2.2.2
theorem W.mut (w : W l Z a0 EL nw own bytes ml ret R κ T h M cells slots) {x : Addr} (hx : x ∈ M) : Z.heap.size ≤ x ∧ x < h.size := by
  obtain ⟨-, vm0, k0, locs, -, -, -, -, -, -, -, -, hM, -⟩ := w
  exact ⟨(hM x hx).1, (hM x hx).2.1⟩
theorem W.grow (w : W l Z a0 EL nw own bytes ml ret R κ T h M cells slots) {cells' slots' : Nat} (hc : cells ≤ cells') (hs : slots ≤ slots') : W l Z a0 EL nw own bytes ml ret R κ T h M cells' slots' := by
  obtain ⟨hC, vm0, k0, locs, X, r⟩ := w
  exact ⟨hC, vm0, k0, locs, X.mono hc hs, r⟩
theorem W.less (w : W l Z a0 EL nw own bytes ml ret R κ T h M cells slots) {M' : List Addr} (hM : ∀ x ∈ M', x ∈ M) : W l Z a0 EL nw own bytes ml ret R κ T h M' cells slots := by
  obtain ⟨hC, vm0, k0, locs, X, h1, h2, h3, h4, h5, h6, h7, h8, r⟩ := w
  exact ⟨hC, vm0, k0, locs, X, h1, h2, h3, h4, h5, h6, h7, fun x hx => h8 x (hM x hx), r⟩
/-- a pure step -/
theorem W.pure (w : W l Z a0 EL nw own bytes ml ret R κ T h M cells slots) (st : (kp κ).tables.exec = Jvm.exec → (kc κ).code = bytes → At T (km κ) (kc κ) (kb κ) → ∀ t, Steps (kp κ).tables (ke κ) (kb κ) U' t → Steps (kp κ).tables (ke κ) (kb κ) U t) (g : Go Z EL nw R κ Q U') : Go Z EL nw R κ Q U := by
  obtain ⟨⟨hx, hby, -⟩, vm0, k0, locs, X, -⟩ := w
  exact Go.via (st hx hby X.here) g
/-- the tables have moved by a resolution alone -/
theorem W.noted (w : W l Z a0 EL nw own bytes ml ret R κ T h M cells slots) (st : ∀ (s : State) (locs : List Loc), (kp κ).tables.exec = Jvm.exec → (kc κ).code = bytes → (kc κ).maxLocals = ml → Z.Warmed39 s.vm → s.vm.findClass own = some (km κ).cls → T.heap = h → Stand (kp κ) l (ke κ) R s (km κ) (ka κ) (kb κ) (kt κ) (kc κ) T locs cells slots →
      ∃ T', Stand (kp κ) l (ke κ) R s (km κ) (ka κ) (kb κ) (kt κ) (kc κ) T' locs cells slots ∧ T'.heap = h ∧ ∀ t, Steps (kp κ).tables (ke κ) (kb κ) (T'.setTop G) t → Steps (kp κ).tables (ke κ) (kb κ) U t)
    (g : ∀ T', W l Z a0 EL nw own bytes ml ret R κ T' h M cells slots → Go Z EL nw R κ Q (T'.setTop G)) : Go Z EL nw R κ Q U := by
  obtain ⟨hC, vm0, k0, locs, X, h1, h2, h3, h4, h5, h6, r⟩ := w
  obtain ⟨T', X', e', k⟩ := st ((ks κ).setVm vm0) locs hC.1 hC.2.1 hC.2.2.1 h2 h3 h6 X
  exact Go.via k (g T' ⟨hC, vm0, k0, locs, X', h1, h2, h3, h4, h5, e', r⟩)
theorem mem0 {x : Addr} {L : List Addr} : x ∈ x :: L := List.mem_cons_self ..
theorem memS {x y : Addr} {L : List Addr} (q : x ∈ L) : x ∈ y :: L := List.mem_cons_of_mem _ q
theorem memA {x : Addr} {L K : List Addr} (q : x ∈ K) : x ∈ L ++ K := List.mem_append_right _ q
theorem memB {x : Addr} {L K : List Addr} (q : x ∈ L) : x ∈ L ++ K := List.mem_append_left _ q
theorem keepE {h h' : Heap} (E : Ext h h') : Keep h h' [] := (Keep.refl h []).ext E
theorem neL {x a : Addr} {h : Heap} (q : x < h.size) (r : h.size ≤ a) : x ≠ a := Nat.ne_of_lt (Nat.lt_of_lt_of_le q r)
/-- something was made: an object or an array, as Ext says; its place may be written -/
theorem W.made (w : W l Z a0 EL nw own bytes ml ret R κ T h M cells slots) {k n : Nat} {P : Heap → Prop} (st : ∀ (s : State) (locs : List Loc), (kp κ).tables.exec = Jvm.exec → (kc κ).code = bytes → (kc κ).maxLocals = ml → Z.Warmed39 s.vm → s.vm.findClass own = some (km κ).cls → T.heap = h → Stand (kp κ) l (ke κ) R s (km κ) (ka κ) (kb κ) (kt κ) (kc κ) T locs cells slots →
      ∃ T' h', Stand (kp κ) l (ke κ) R s (km κ) (ka κ) (kb κ) (kt κ) (kc κ) T' locs (cells + k) (slots + n) ∧ T'.heap = h' ∧ Ext h h' ∧ h.size < h'.size ∧ P h' ∧ ∀ t, Steps (kp κ).tables (ke κ) (kb κ) (T'.setTop G) t → Steps (kp κ).tables (ke κ) (kb κ) U t)
    (g : ∀ T' h', W l Z a0 EL nw own bytes ml ret R κ T' h' (h.size :: M) (cells + k) (slots + n) → Keep h h' [] → P h' → Go Z EL nw R κ Q (T'.setTop G)) : Go Z EL nw R κ Q U := by
  obtain ⟨hC, vm0, k0, locs, X, h1, h2, h3, h4, h5, h6, h7, h8, h9, r⟩ := w
  obtain ⟨T', h', X', e', E, hlt, hP, k⟩ := st ((ks κ).setVm vm0) locs hC.1 hC.2.1 hC.2.2.1 h2 h3 h6 X
  refine Go.via k (g T' h' ⟨hC, vm0, k0, locs, X', h1, h2, h3, h4, Nat.le_trans h5 E.1, e', h7.trans (CHr.ext E h7.1), fun x hx => ?_, h9.ext E, r⟩ (keepE E) hP)
  rcases List.mem_cons.mp hx with rfl | hx
  · exact ⟨h9.1 ▸ h9.2.1, hlt, Safe.ext E h7.1 (Safe.new (Nat.le_refl _))⟩
  · obtain ⟨a, b, c⟩ := h8 x hx
    exact ⟨a, Nat.lt_of_lt_of_le b E.1, Safe.ext E h7.1 c⟩
/-- one place was written -/
theorem W.wrote (w : W l Z a0 EL nw own bytes ml ret R κ T h M cells slots) {a : Addr} (ha : a ∈ M) {sl : Nat} {v : Value} (st : ∀ (s : State) (locs : List Loc), (kp κ).tables.exec = Jvm.exec → (kc κ).code = bytes → (kc κ).maxLocals = ml → Z.Warmed39 s.vm → s.vm.findClass own = some (km κ).cls → T.heap = h → Stand (kp κ) l (ke κ) R s (km κ) (ka κ) (kb κ) (kt κ) (kc κ) T locs cells slots →
      ∃ T' h', Stand (kp κ) l (ke κ) R s (km κ) (ka κ) (kb κ) (kt κ) (kc κ) T' (locs ++ [⟨a, sl⟩]) cells slots ∧ T'.heap = h' ∧ Wr h h' a sl v ∧ ∀ t, Steps (kp κ).tables (ke κ) (kb κ) (T'.setTop G) t → Steps (kp κ).tables (ke κ) (kb κ) U t)
    (g : ∀ T' h', W l Z a0 EL nw own bytes ml ret R κ T' h' M cells slots → Wr h h' a sl v → Go Z EL nw R κ Q (T'.setTop G)) : Go Z EL nw R κ Q U := by
  obtain ⟨hC, vm0, k0, locs, X, h1, h2, h3, h4, h5, h6, h7, h8, h9, r⟩ := w
  obtain ⟨T', h', X', e', Wr', k⟩ := st ((ks κ).setVm vm0) locs hC.1 hC.2.1 hC.2.2.1 h2 h3 h6 X
  obtain ⟨a1, a2, a3⟩ := h8 a ha
  refine Go.via k (g T' h' ⟨hC, vm0, k0, _, X', Fr.snoc X' h1 a1, h2, h3, h4, by rw [Wr'.size]; exact h5, e', h7.trans (CHr.wr Wr' a3 h7.1), fun x hx => ?_, h9.wr Wr' a1, r⟩ Wr')
  obtain ⟨a, b, c⟩ := h8 x hx
  exact ⟨a, by rw [Wr'.size]; exact b, Safe.wr Wr' a3 h7.1 c⟩
/-- old places among ws were written, at once -/
theorem W.kept (w : W l Z a0 EL nw own bytes ml ret R κ T h M cells slots) {ws : List Addr} (hws : ∀ x ∈ ws, x ∈ M) {P : Heap → Prop} (st : ∀ (s : State) (locs : List Loc), (kp κ).tables.exec = Jvm.exec → (kc κ).code = bytes → (kc κ).maxLocals = ml → Z.Warmed39 s.vm → s.vm.findClass own = some (km κ).cls → T.heap = h → Fr Z.heap.size locs → Stand (kp κ) l (ke κ) R s (km κ) (ka κ) (kb κ) (kt κ) (kc κ) T locs cells slots →
      ∃ T' h' L, Stand (kp κ) l (ke κ) R s (km κ) (ka κ) (kb κ) (kt κ) (kc κ) T' L cells slots ∧ T'.heap = h' ∧ Fr Z.heap.size L ∧ Keep h h' ws ∧ P h' ∧ ∀ t, Steps (kp κ).tables (ke κ) (kb κ) (T'.setTop G) t → Steps (kp κ).tables (ke κ) (kb κ) U t)
    (g : ∀ T' h', W l Z a0 EL nw own bytes ml ret R κ T' h' M cells slots → Keep h h' ws → P h' → Go Z EL nw R κ Q (T'.setTop G)) : Go Z EL nw R κ Q U := by
  obtain ⟨hC, vm0, k0, locs, X, h1, h2, h3, h4, h5, h6, h7, h8, h9, r⟩ := w
  obtain ⟨T', h', L, X', e', N', K, hP, k⟩ := st ((ks κ).setVm vm0) locs hC.1 hC.2.1 hC.2.2.1 h2 h3 h6 h1 X
  have hs : ∀ x ∈ ws, Safe Z EL vm0 h x := fun x hx => (h8 x (hws x hx)).2.2
  refine Go.via k (g T' h' ⟨hC, vm0, k0, L, X', N', h2, h3, h4, Nat.le_trans h5 K.1, e', h7.trans (CHr.keep K hs h7.1), fun x hx => ?_, h9.keep K (fun x hx => (h8 x (hws x hx)).1), r⟩ K hP)
  obtain ⟨a, b, c⟩ := h8 x hx
  exact ⟨a, Nat.lt_of_lt_of_le b K.1, Safe.keep K hs h7.1 c⟩
/-- the walk leaves -/
theorem W.leave (w : W l Z a0 EL nw own bytes ml ret R κ T h M cells slots) {v : Option Value} (hv : ret = none → v = none) (hc : cells ≤ R.cells) (hs : slots ≤ R.slots) {M' : List Addr} (hM : ∀ x ∈ M', x ∈ M) (hq : Q v h M')
    (st : ∀ (s : State) (locs : List Loc) (fs : List Frame), (kp κ).tables.exec = Jvm.exec → (kc κ).code = bytes → (kt κ).sig.returnType = ret → Stand (kp κ) l (ke κ) R s (km κ) (ka κ) (kb κ) (kt κ) (kc κ) T locs cells slots →
      (∀ (f : JFrame) (acts : List Action), f.method = km κ → f.locked = none → f.entered = [] → (doReturn (ke κ) (T.setTop f) acts v).1 = T.setFrames fs) → Steps (kp κ).tables (ke κ) (kb κ) U (T.setFrames fs)) : Go Z EL nw R κ Q U := by
  obtain ⟨⟨hx, hby, hml, hret, hlk, hEL⟩, vm0, k0, locs, X, h1, h2, h3, h4, h5, h6, h7, h8, h9, h10⟩ := w
  obtain ⟨fs, l1, l2, l3, l4, l5⟩ := X.leave (v := v) (fun q => hv (hret.symm.trans q)) hlk
  have A := CHv.at X h2 hEL h7.1
  obtain ⟨b1, b2, b3⟩ := h4.ended (U := T.setFrames fs) l4 (by show k0 ≤ T.heap.size; rw [h6]; exact h5) l5
  refine ⟨T.setFrames fs, _, st _ locs fs hx hby hret X l1, l2, l3, v, locs, M', rfl, ?_, h1, ?_, ?_, ?_, ⟨⟨⟨_, rfl⟩, b1, b2, b3.mono hc hs⟩, fun q => ⟨⟨_, rfl⟩, State.WarmedH.trans (h10 q) l4, b3.mono hc hs⟩⟩⟩
  · show Q v T.heap M'
    rw [h6]; exact hq
  · show CHr Z EL (ks κ).vm (ks κ).heap T.vm T.heap
    rw [h6]; exact h7.trans A
  · intro x hx
    obtain ⟨a, b, c⟩ := h8 x (hM x hx)
    show Z.heap.size ≤ x ∧ x < T.heap.size ∧ Safe Z EL T.vm T.heap x
    rw [h6]; exact ⟨a, b, A.safe b c⟩
  · show Old Z Z.heap.size T.heap
    rw [h6]; exact h9
/-- entering a body -/
theorem of_body {y : MethodName} {rm : Room} {as : List Value} {h0 : Heap} (hp : plainFor y = true) (hEL : EW Z a0 EL) (hO : Old Z Z.heap.size h0) {Ls : Array Slot} (hent : ∀ m, entryFrame m as.toArray ml = mkF m 0 Ls [])
    (body : ∀ (κ : Ka) (T : State), W l Z a0 EL nw y.cls bytes ml ret rm κ T h0 M 0 0 → (kt κ).name = y.name → Go Z EL nw rm κ Q (T.setTop (mkF (km κ) 0 Ls []))) : Ctr l Z EL nw y bytes ml ret rm as h0 M Q := by
  refine MetFree.of_bodySF hp hisR ?_
  intro p e s m args below meth c s₁ Bd hml0 hP hK
  obtain ⟨rfl, hZ, hh, hCH, hMu⟩ := hP
  have X0 : Stand p l e rm s m as.toArray below meth c s₁ [] 0 0 := Stand.of_body Bd
  have e0 : s₁.heap = h0 := by rw [← hh, Bd.state]; rfl
  have hnm := (name_of_methodNamed Bd.named Bd.method).1
  have w : W l Z a0 EL nw y.cls bytes ml ret rm (p, e, s, m, below, meth, c, as.toArray) s₁ h0 M 0 0 :=
    ⟨⟨Bd.exec, Bd.bytes, hml0, Bd.returns, BodyLoose.notSynchronized Bd, hEL⟩, s.vm, 0, [], X0, Fr.nil _, hZ, findClass_of_methodNamed Bd.named, (State.WarmedH.refl s).since 0, Nat.zero_le _, e0, hh ▸ CHr.refl (hh ▸ hCH), hMu, hO, fun _ => State.WarmedH.refl s⟩
  have g := body _ s₁ w hnm
  rw [← hent] at g
  exact g
end Base
section Calls
variable {l : Launch} {Z : State} {a0 : Array Value} {EL : List (String × Nat)} {nw : Bool} {own : String} {bytes : ByteArray} {ml : Nat} {ret : Option FieldType} {R : Room} {κ : Ka} {T : State} {h : Heap} {M : List Addr} {cells slots : Nat} {Q : Option Value → Heap → List Addr → Prop} {U U' : State} {G : JFrame}
/-- who pays a call of y with the arguments as at the heap h -/
def Pay (l : Launch) (Z : State) (EL : List (String × Nat)) (nw : Bool) (y : MethodName) (len kf kl kn kw : Nat) (as : List Value) (h : Heap) (M : List Addr) (Q : Option Value → Heap → List Addr → Prop) : Prop :=
  ∀ (R : Room) (p : Program) (e : Env) (below : List Frame) (s : State) (vm0 : Vm) (args : Array Value) (Wd : Nat), Z.Warmed39 vm0 → CHv Z EL vm0 h → Mut Z EL vm0 h M → kf ≤ R.frames → Wd + kl ≤ R.locals →
    BackS l R p e below (s.setVm vm0) args y len Wd (fun P a => a = as.toArray ∧ P.U.heap = h ∧ P.cells + kn ≤ R.cells ∧ P.slots + kw ≤ R.slots)
      (fun P _ v B => ∃ L M', Q v B.U.heap M' ∧ Fr Z.heap.size L ∧ B.locs = P.locs ++ L ∧ B.cells = P.cells + kn ∧ B.slots = P.slots + kw ∧ CHr Z EL vm0 h B.U.vm B.U.heap ∧ Mut Z EL B.U.vm B.U.heap M' ∧ Old Z Z.heap.size B.U.heap ∧ (nw = true → (s.setVm vm0).WarmedH B.U.vm))
theorem Mut.at {vm0 vm1 : Vm} {h' : Heap} (C : CHr Z EL vm0 h vm1 h') (m : Mut Z EL vm0 h M) : Mut Z EL vm1 h' M := fun x hx => by
  obtain ⟨a, b, c⟩ := m x hx
  exact ⟨a, Nat.lt_of_lt_of_le b C.2.1, C.safe b c⟩
theorem Ctr.pay {y : MethodName} {rm : Room} {as : List Value} {len : Nat} (hM : Ctr l Z EL nw y bytes ml ret rm as h M Q) (hEL : EW Z a0 EL) (wc : (Cond.code y bytes ml ret).before a0 Z = true) (wz : (Cond.initialized y.cls).before a0 Z = true) {kf kl : Nat} (ekf : rm.frames + 1 ≤ kf) (ekl : ml + 11 + rm.locals ≤ kl) :
    Pay l Z EL nw y len kf kl rm.cells rm.slots as h M Q := by
  intro R p e below s vm0 args Wd hZ H hMu hf hl
  refine BackS.of_freeW (bytes := bytes) (maxL := ml) (ret := ret) (E := fun _ first o t L k n => k = rm.cells ∧ n = rm.slots ∧ ∃ v M', o = .returned v ∧ Q v t.heap M' ∧ Fr Z.heap.size L ∧ CHr Z EL first.vm first.heap t.vm t.heap ∧ Mut Z EL t.vm t.heap M' ∧ Old Z Z.heap.size t.heap ∧ (nw = true → first.WarmedH t.vm)) hM (Nat.le_trans ekf hf) (by show Wd + (ml + 11) + rm.locals ≤ R.locals; omega)
    (fun m meth c A a Y hp => have hU : Z.Warmed39 A.U.vm := wtrans (s := s.setVm vm0) hZ Y.warmed
      ⟨by show (Cond.and _ .tt).before a A.U = true; rw [Cond.before_and, mv hU wc]; rfl, mv hU wc, mv hU wz, hp.2.2.1, hp.2.2.2⟩)
    (fun m meth c A a g mk Y hp => ⟨hp.1, wtrans (s := s.setVm vm0) hZ Y.warmed, hp.2.1, (CHv.at Y hZ hEL H).1, (show Mut Z EL A.U.vm h M from hMu.at (CHv.at Y hZ hEL H))⟩) (fun _ _ _ _ _ _ _ _ _ => trivial)
    (fun _ _ _ _ ⟨v, L, M', h1, h2, h3, h4, h5, h6, h7⟩ => ⟨L, _, _, h7.1, rfl, rfl, v, M', h1, h2, h3, h4, h5, h6, fun q => (h7.2 q).2.1⟩)
    (fun m meth c A a g mk v t L k n Y hp _ _ ⟨e1, e2, v', M', e3, e4, e5, e6, e7, e8, e9⟩ => by
      cases e3; subst e1 e2
      refine ⟨L, M', e4, e5, rfl, rfl, rfl, (CHv.at Y hZ hEL H).trans ?_, e7, e8, fun q => State.WarmedH.trans Y.warmed (e9 q)⟩
      rw [← hp.2.1]; exact e6)
theorem Pay.of_back {y : MethodName} {as : List Value} {len kf kl kn kw : Nat} {Q' : Option Value → Heap → List Loc → Prop} {ws : List Addr} (hEL : EW Z a0 EL) (hO : Old Z Z.heap.size h)
    (hB : ∀ (R : Room) (p : Program) (e : Env) (below : List Frame) (s : State) (args : Array Value) (Wd : Nat), Z.Warmed39 s.vm → kf ≤ R.frames → Wd + kl ≤ R.locals →
      Back l R p e below s args y len Wd (fun P a => a = as.toArray ∧ P.U.heap = h ∧ P.cells + kn ≤ R.cells ∧ P.slots + kw ≤ R.slots) (fun P _ v B => ∃ L, Q' v B.U.heap L ∧ B.locs = P.locs ++ L ∧ B.cells = P.cells + kn ∧ B.slots = P.slots + kw))
    (hws : ∀ x ∈ ws, x ∈ M) (hQ : ∀ v h' L, Q' v h' L → Q v h' [] ∧ Fr Z.heap.size L ∧ Keep h h' ws) : Pay l Z EL nw y len kf kl kn kw as h M Q := by
  intro R p e below s vm0 args Wd hZ H hMu hf hl m meth c A g ig mk a X hg hsize hdg hW hn hp
  obtain ⟨v, B, X', ⟨L, q1, q2, q3, q4⟩, st⟩ := hB R p e below (s.setVm vm0) args Wd hZ hf hl m meth c A g ig mk a X hg hsize hdg hW hn hp
  obtain ⟨r1, r2, K⟩ := hQ _ _ _ q1
  have C1 := CHr.keep K (fun x hx => (hMu x (hws x hx)).2.2) H
  have C2 := C1.trans (CHv.at X' hZ hEL C1.1)
  refine ⟨v, B, X'.retabled X'.warmed.wide, X'.warmed.since _, by rw [hp.2.1]; exact K.1, ⟨L, [], r1, r2, q2, q3, q4, C2, (fun x hx => nomatch hx), hO.keep K (fun x hx => (hMu x (hws x hx)).1), fun _ => X'.warmed⟩, st⟩
/-- a call was made and paid -/
theorem W.called (w : W l Z a0 EL nw own bytes ml ret R κ T h M cells slots) {y : MethodName} {len kf kl kn kw : Nat} {as : List Value} {M0 : List Addr} {Qc : Option Value → Heap → List Addr → Prop} (P : Pay l Z EL nw y len kf kl kn kw as h M0 Qc) (hM0 : ∀ x ∈ M0, x ∈ M) {Wd : Nat} (hf : kf ≤ R.frames) (hlo : Wd + kl ≤ R.locals) (hcl : cells + kn ≤ R.cells) (hsl : slots + kw ≤ R.slots) {F : Option Value → JFrame}
    (st : ∀ (s : State) (locs : List Loc) (Post : Pt → Array Value → Option Value → Pt → Prop), (kp κ).tables.exec = Jvm.exec → (kc κ).code = bytes → (kc κ).maxLocals = ml → Z.Warmed39 s.vm → s.vm.findClass own = some (km κ).cls → T.heap = h → Stand (kp κ) l (ke κ) R s (km κ) (ka κ) (kb κ) (kt κ) (kc κ) T locs cells slots →
      BackS l R (kp κ) (ke κ) (kb κ) s (ka κ) y len Wd (fun P a => a = as.toArray ∧ P.U.heap = h ∧ P.cells + kn ≤ R.cells ∧ P.slots + kw ≤ R.slots) Post →
      ∃ (v : Option Value) (vm₁ : Vm) (B : Pt), s.WarmedH vm₁ ∧ Stand (kp κ) l (ke κ) R (s.setVm B.U.vm) (km κ) (ka κ) (kb κ) (kt κ) (kc κ) B.U B.locs B.cells B.slots ∧ s.Since B.U.vm B.U.heap.size ∧ T.heap.size ≤ B.U.heap.size ∧ Post ⟨T.setVm vm₁, locs, cells, slots⟩ as.toArray v B ∧ Steps (kp κ).tables (ke κ) (kb κ) U (B.U.setTop (F v)))
    (g : ∀ v T' h' M', W l Z a0 EL nw own bytes ml ret R κ T' h' (M' ++ M) (cells + kn) (slots + kw) → Qc v h' M' → Go Z EL nw R κ Q (T'.setTop (F v))) : Go Z EL nw R κ Q U := by
  obtain ⟨hC, vm0, k0, locs, X, h1, h2, h3, h4, h5, h6, h7, h8, h9, h10⟩ := w
  have hK := P R (kp κ) (ke κ) (kb κ) (ks κ) vm0 (ka κ) Wd h2 h7.1 (fun x hx => h8 x (hM0 x hx)) hf hlo
  obtain ⟨v, vm₁, ⟨T', L', c', n'⟩, hW, X', hS, hg, ⟨L, M', q1, q2, q3, q4, q5, q6, q7, q8, q9⟩, k⟩ := st ((ks κ).setVm vm0) locs _ hC.1 hC.2.1 hC.2.2.1 h2 h3 h6 X hK
  dsimp only [Pt.U, Pt.locs, Pt.cells, Pt.slots] at X' hS hg q1 q3 q4 q5 q6 q7 q8 q9 k
  subst q3 q4 q5
  refine Go.tr k (g v T' T'.heap M' ⟨hC, T'.vm, T'.heap.size, _, X', h1.app q2, State.Warmed39.trans (t := (ks κ).setVm vm0) h2 hS.1, ?_, h4.trans hS (by rw [← h6] at h5; exact Nat.le_trans h5 hg), Nat.le_refl _, rfl, h7.trans q6, fun x hx => ?_, q8, fun q => State.WarmedH.trans (h10 q) (q9 q)⟩ q1)
  · rw [hS.1.alike.findClass]; exact h3
  · rcases List.mem_append.mp hx with hx | hx
    · exact q7 x hx
    · exact (h8.at q6) x hx
theorem mr0 (m : MethodId) (pc : Nat) (Ls : Array Slot) (S : List Value) : (mkF m pc Ls S).monitorRoom = 0 := rfl
theorem W.callS (w : W l Z a0 EL nw own bytes ml ret R κ T h M cells slots) {index : Nat} {y : MethodName} {yb : ByteArray} {yl : Nat} {yr : Option FieldType} (w1 : (Cond.methodLink own index y).before a0 Z = true) (w2 : (Cond.static y).before a0 Z = true) (w3 : (Cond.initialized y.cls).before a0 Z = true) (w4 : (Cond.code y yb yl yr).before a0 Z = true)
    (hy : y.cls ≠ "java/lang/invoke/MethodHandle" ∧ y.cls ≠ "java/lang/invoke/VarHandle") {ps : List FieldType} {rt : Option FieldType} (hd : parseMethodDescriptor y.desc = some ⟨ps, rt⟩)
    {kf kl kn kw : Nat} {as : List Value} {M0 : List Addr} {Qc : Option Value → Heap → List Addr → Prop} (P : Pay l Z EL nw y 3 kf kl kn kw as h M0 Qc) (hM0 : ∀ x ∈ M0, x ∈ M) {pc pc' : Nat} {Ls : Array Slot} {S rest : List Value} (hdg : decode bytes pc = .ok (.invokestatic index, 3)) (hp : pc + 3 = pc') (hsz : Ls.size = ml) (hln : as.length = ps.length) (hst : S = as.reverse ++ rest)
    {Wd : Nat} (hwd : (rest.map fun v => v.category).sum = Wd) (hf : kf ≤ R.frames) (hlo : Wd + kl ≤ R.locals) (hcl : cells + kn ≤ R.cells) (hsl : slots + kw ≤ R.slots)
    (g : ∀ v T' h' M', W l Z a0 EL nw own bytes ml ret R κ T' h' (M' ++ M) (cells + kn) (slots + kw) → Qc v h' M' → Go Z EL nw R κ Q (T'.setTop (mkF (km κ) pc' Ls (v.toList ++ rest)))) : Go Z EL nw R κ Q (T.setTop (mkF (km κ) pc Ls S)) := by
  subst hp
  refine w.called P hM0 hf hlo hcl hsl (F := fun v => mkF (km κ) (pc + 3) Ls (v.toList ++ rest)) (fun s locs Post hx hby hml hZ hown eT X hK => ?_) g
  exact callSS X hx hown (mvT hZ w1) (mvT hZ w2) (mvT hZ w3) (mvT hZ w4) hy hK (g := mkF (km κ) pc Ls S) rfl (hsz.trans hml.symm) (lenOf hd hln) hst (by rw [mr0]; omega) (hb hby hdg) (fun vm₁ _ => ⟨rfl, eT, hcl, hsl⟩)
theorem W.callI (w : W l Z a0 EL nw own bytes ml ret R κ T h M cells slots) {index : Nat} {y : MethodName} {yb : ByteArray} {yl : Nat} (w1 : (Cond.methodLink own index y).before a0 Z = true) (w2 : (Cond.instanceMethod y).before a0 Z = true) (w4 : (Cond.code y yb yl none).before a0 Z = true) (hy1 : y.name = "<init>")
    (hy : y.cls ≠ "java/lang/invoke/MethodHandle" ∧ y.cls ≠ "java/lang/invoke/VarHandle") {ps : List FieldType} {rt : Option FieldType} (hd : parseMethodDescriptor y.desc = some ⟨ps, rt⟩)
    {kf kl kn kw : Nat} {a : Addr} {as : List Value} {M0 : List Addr} {Qc : Option Value → Heap → List Addr → Prop} (P : Pay l Z EL nw y 3 kf kl kn kw (.ref a :: as) h M0 Qc) (hM0 : ∀ x ∈ M0, x ∈ M) {pc pc' : Nat} {Ls : Array Slot} {S rest : List Value} (hdg : decode bytes pc = .ok (.invokespecial index, 3)) (hp : pc + 3 = pc') (hsz : Ls.size = ml) (hln : as.length = ps.length) (hst : S = as.reverse ++ .ref a :: rest)
    {Wd : Nat} (hwd : (rest.map fun v => v.category).sum = Wd) (hf : kf ≤ R.frames) (hlo : Wd + kl ≤ R.locals) (hcl : cells + kn ≤ R.cells) (hsl : slots + kw ≤ R.slots)
    (g : ∀ v T' h' M', W l Z a0 EL nw own bytes ml ret R κ T' h' (M' ++ M) (cells + kn) (slots + kw) → Qc v h' M' → Go Z EL nw R κ Q (T'.setTop (mkF (km κ) pc' Ls (v.toList ++ rest)))) : Go Z EL nw R κ Q (T.setTop (mkF (km κ) pc Ls S)) := by
  subst hp
  refine w.called P hM0 hf hlo hcl hsl (F := fun v => mkF (km κ) (pc + 3) Ls (v.toList ++ rest)) (fun s locs Post hx hby hml hZ hown eT X hK => ?_) g
  exact X.specialBackS hx hy1 hown (mvT hZ w1) (mvT hZ w2) (mvT hZ w4) hy hK (g := mkF (km κ) pc Ls S) rfl (hsz.trans hml.symm) (Steps.refl _) (lenOf hd hln) hst (by rw [mr0]; omega) (hb hby hdg) (fun vm₁ _ => ⟨rfl, eT, hcl, hsl⟩)
theorem W.callV (w : W l Z a0 EL nw own bytes ml ret R κ T h M cells slots) {index : Nat} {C : String} {y z : MethodName} (w1 : (Cond.methodLink own index y).before a0 Z = true) (w2 : (Cond.declares y).before a0 Z = true) (nf : ∀ (s : State), Z.Warmed39 s.vm → NotFace s y) (w3 : (Cond.selects C y z).before a0 Z = true) (w4 : (Cond.instanceMethod z).before a0 Z = true)
    (hy : y.cls ≠ "java/lang/invoke/MethodHandle" ∧ y.cls ≠ "java/lang/invoke/VarHandle") {ps : List FieldType} {rt : Option FieldType} (hd : parseMethodDescriptor y.desc = some ⟨ps, rt⟩) {a : Addr} (E : Exa Z h a C)
    {kf kl kn kw : Nat} {as : List Value} {M0 : List Addr} {Qc : Option Value → Heap → List Addr → Prop} (P : Pay l Z EL nw z 3 kf kl kn kw (.ref a :: as) h M0 Qc) (hM0 : ∀ x ∈ M0, x ∈ M) {pc pc' : Nat} {Ls : Array Slot} {S rest : List Value} (hdg : decode bytes pc = .ok (.invokevirtual index, 3)) (hp : pc + 3 = pc') (hsz : Ls.size = ml) (hln : as.length = ps.length) (hst : S = as.reverse ++ .ref a :: rest)
    {Wd : Nat} (hwd : (rest.map fun v => v.category).sum = Wd) (hf : kf ≤ R.frames) (hlo : Wd + kl ≤ R.locals) (hcl : cells + kn ≤ R.cells) (hsl : slots + kw ≤ R.slots)
    (g : ∀ v T' h' M', W l Z a0 EL nw own bytes ml ret R κ T' h' (M' ++ M) (cells + kn) (slots + kw) → Qc v h' M' → Go Z EL nw R κ Q (T'.setTop (mkF (km κ) pc' Ls (v.toList ++ rest)))) : Go Z EL nw R κ Q (T.setTop (mkF (km κ) pc Ls S)) := by
  subst hp
  refine w.called P hM0 hf hlo hcl hsl (F := fun v => mkF (km κ) (pc + 3) Ls (v.toList ++ rest)) (fun s locs Post hx hby hml hZ hown eT X hK => ?_) g
  obtain ⟨cB, kB, q1, q2, q3⟩ := isOf hZ eT E
  exact X.virtualBackS hx hown (mvT hZ w1) (mvT hZ w2) (nf s hZ) (mvT hZ w3) (mvT hZ w4) hy hK q1 q3 (g := mkF (km κ) pc Ls S) rfl (hsz.trans hml.symm) (Steps.refl _) (lenOf hd hln) hst (by rw [mr0]; omega) (hb hby hdg) (fun vm₁ _ => ⟨rfl, eT, hcl, hsl⟩)
theorem W.callU (w : W l Z a0 EL nw own bytes ml ret R κ T h M cells slots) {index : Nat} {K : String} {y : MethodName} {yb : ByteArray} {yl : Nat} {yr : Option FieldType} (w1 : (Cond.methodLink own index y).before a0 Z = true) (w2 : (Cond.sameMethod y.cls y.cls y.name y.desc).before a0 Z = true) (w3 : (Cond.instanceMethod y).before a0 Z = true) (w4 : (Cond.superclass own y.cls).before a0 Z = true) (w5 : (Cond.code y yb yl yr).before a0 Z = true) (hn : y.name ≠ "<init>")
    {ps : List FieldType} {rt : Option FieldType} (hd : parseMethodDescriptor y.desc = some ⟨ps, rt⟩) {a : Addr} (F : Ins Z h a K true)
    {kf kl kn kw : Nat} {as : List Value} {M0 : List Addr} {Qc : Option Value → Heap → List Addr → Prop} (P : Pay l Z EL nw y 3 kf kl kn kw (.ref a :: as) h M0 Qc) (hM0 : ∀ x ∈ M0, x ∈ M) {pc pc' : Nat} {Ls : Array Slot} {S rest : List Value} (hdg : decode bytes pc = .ok (.invokespecial index, 3)) (hp : pc + 3 = pc') (hsz : Ls.size = ml) (hln : as.length = ps.length) (hst : S = as.reverse ++ .ref a :: rest)
    {Wd : Nat} (hwd : (rest.map fun v => v.category).sum = Wd) (hf : kf ≤ R.frames) (hlo : Wd + kl ≤ R.locals) (hcl : cells + kn ≤ R.cells) (hsl : slots + kw ≤ R.slots)
    (g : ∀ v T' h' M', W l Z a0 EL nw own bytes ml ret R κ T' h' (M' ++ M) (cells + kn) (slots + kw) → Qc v h' M' → Go Z EL nw R κ Q (T'.setTop (mkF (km κ) pc' Ls (v.toList ++ rest)))) : Go Z EL nw R κ Q (T.setTop (mkF (km κ) pc Ls S)) := by
  subst hp
  refine w.called P hM0 hf hlo hcl hsl (F := fun v => mkF (km κ) (pc + 3) Ls (v.toList ++ rest)) (fun s locs Post hx hby hml hZ hown eT X hK => ?_) g
  exact superBackS X hx hZ hown w1 w2 w3 w4 hn hK eT F (g := mkF (km κ) pc Ls S) rfl (hsz.trans hml.symm) w5 (lenOf hd hln) hst (by rw [mr0]; omega) (hb hby hdg) (fun vm₁ _ => ⟨rfl, eT, hcl, hsl⟩)
theorem W.callF (w : W l Z a0 EL nw own bytes ml ret R κ T h M cells slots) {index count : Nat} {C : String} {y z : MethodName} (w1 : (Cond.methodLink own index y).before a0 Z = true) (w2 : (Cond.declares y).before a0 Z = true) (w3 : (Cond.interfaceMethod y.cls y.cls y.name y.desc).before a0 Z = true) (w4 : (Cond.selects C y z).before a0 Z = true) (w5 : (Cond.instanceMethod z).before a0 Z = true)
    (w6 : (Cond.publicMethod z).before a0 Z = true) (w7 : (Cond.unhidden C y.name y.desc).before a0 Z = true) (w8 : (Cond.castable C y.cls).before a0 Z = true) (k3 : ((Cond.interfaceMethod y.cls y.cls y.name y.desc).onTables && (Cond.interfaceMethod y.cls y.cls y.name y.desc).keepsFace) = true)
    (hy : y.cls ≠ "java/lang/invoke/MethodHandle" ∧ y.cls ≠ "java/lang/invoke/VarHandle") {ps : List FieldType} {rt : Option FieldType} (hd : parseMethodDescriptor y.desc = some ⟨ps, rt⟩) {a : Addr} (E : Exa Z h a C)
    {kf kl kn kw : Nat} {as : List Value} {M0 : List Addr} {Qc : Option Value → Heap → List Addr → Prop} (P : Pay l Z EL nw z 5 kf kl kn kw (.ref a :: as) h M0 Qc) (hM0 : ∀ x ∈ M0, x ∈ M) {pc pc' : Nat} {Ls : Array Slot} {S rest : List Value} (hdg : decode bytes pc = .ok (.invokeinterface index count, 5)) (hp : pc + 5 = pc') (hsz : Ls.size = ml) (hln : as.length = ps.length) (hst : S = as.reverse ++ .ref a :: rest)
    {Wd : Nat} (hwd : (rest.map fun v => v.category).sum = Wd) (hf : kf ≤ R.frames) (hlo : Wd + kl ≤ R.locals) (hcl : cells + kn ≤ R.cells) (hsl : slots + kw ≤ R.slots)
    (g : ∀ v T' h' M', W l Z a0 EL nw own bytes ml ret R κ T' h' (M' ++ M) (cells + kn) (slots + kw) → Qc v h' M' → Go Z EL nw R κ Q (T'.setTop (mkF (km κ) pc' Ls (v.toList ++ rest)))) : Go Z EL nw R κ Q (T.setTop (mkF (km κ) pc Ls S)) := by
  subst hp
  refine w.called P hM0 hf hlo hcl hsl (F := fun v => mkF (km κ) (pc + 5) Ls (v.toList ++ rest)) (fun s locs Post hx hby hml hZ hown eT X hK => ?_) g
  obtain ⟨cB, kB, q1, q2, q3⟩ := isOf hZ eT E
  exact X.interfaceBackS hx hown (mvT hZ w1) (mvT hZ w2) (mvT hZ w3 k3) (mvT hZ w4) (mvT hZ w5) (mvT hZ w6) (mvT hZ w7) (mvT hZ w8) hy hK q1 q2 q3 (g := mkF (km κ) pc Ls S) rfl (hsz.trans hml.symm) (Steps.refl _) (lenOf hd hln) hst (by rw [mr0]; omega) (hb hby hdg) (fun vm₁ _ => ⟨rfl, eT, hcl, hsl⟩)
/-- a private method is declared too -/
theorem decl_of {y : MethodName} {yb : ByteArray} {yl : Nat} {yr : Option FieldType} (w1 : (Cond.instanceMethod y).before a0 Z = true) (w2 : (Cond.code y yb yl yr).before a0 Z = true) : (Cond.declares y).before a0 Z = true := by
  obtain ⟨m, meth, h1, h2, h3, -⟩ := Cond.instanceMethod_spec w1
  obtain ⟨meth', c, q1, -, -, -, -, -, -, hsig⟩ := Cond.code_spec h1 w2
  cases h2.symm.trans q1
  simp [Cond.before, Cond.holds, Cond.value, h1, h2, h3, hsig]
/-- the lookup from a class finds what the class declares itself -/
theorem sm_of {C : String} {y y' : MethodName} (w1 : (Cond.declares y).before a0 Z = true) (w2 : (Cond.selects C y' y').before a0 Z = true) (hc : y'.cls = y.cls) (hy : y.cls ≠ "java/lang/invoke/MethodHandle" ∧ y.cls ≠ "java/lang/invoke/VarHandle") : (Cond.sameMethod y.cls y.cls y.name y.desc).before a0 Z = true := by
  obtain ⟨m, meth, h1, h2, -, -⟩ := Cond.declares_spec w1
  obtain ⟨c2, r2, m2, q1, q2, q3, q4, kP, hkP, hkPi⟩ := Cond.selects_spec w2
  have hf := State.methodFound?_of_named h1 hy
  have hc1 := findClass_of_methodNamed h1
  have hc2 := findClass_of_methodNamed q3
  rw [hc] at hc2
  have e : m2.cls = m.cls := Option.some.inj (hc2.symm.trans hc1)
  rw [e] at hkP
  have h1' : Z.methodNamed? ⟨y.cls, y.name, y.desc⟩ = some m := h1
  simp [Cond.before, Cond.holds, Cond.value, hc1, hf, h1', hkP, hkPi]
theorem nfSel {C : String} {y : MethodName} (w : (Cond.selects C y y).before a0 Z = true) : ∀ (s : State), Z.Warmed39 s.vm → NotFace s y := fun s hZ => notFace_of_selects (args := #[]) (mvT hZ w)
theorem nfCls {C : String} {y y' : MethodName} (w : (Cond.selects C y' y').before a0 Z = true) (hc : y'.cls = y.cls) : ∀ (s : State), Z.Warmed39 s.vm → NotFace s y := fun s hZ r0 h0 => by
  obtain ⟨c2, r2, m2, q1, q2, q3, q4, kP, hkP, hkPi⟩ := Cond.selects_spec (mvT (args := #[]) hZ w)
  have a := findClass_of_methodNamed h0
  have b := findClass_of_methodNamed q3
  rw [hc] at b
  have e : m2.cls = r0.cls := Option.some.inj (b.symm.trans a)
  rw [e] at hkP
  exact ⟨kP, hkP, hkPi⟩
theorem nfSup {S : String} {y : MethodName} (w : (Cond.superclass y.cls S).before a0 Z = true) : ∀ (s : State), Z.Warmed39 s.vm → NotFace s y := fun s hZ => nf_super (args := #[]) (mvT hZ w)
end Calls
section Heap1
variable {l : Launch} {Z : State} {a0 : Array Value} {EL : List (String × Nat)} {nw : Bool} {own : String} {bytes : ByteArray} {ml : Nat} {ret : Option FieldType} {R : Room} {κ : Ka} {T : State} {h : Heap} {M : List Addr} {cells slots : Nat} {Q : Option Value → Heap → List Addr → Prop} {pc pc' : Nat} {Ls : Array Slot} {S rest : List Value}
theorem W.newO (w : W l Z a0 EL nw own bytes ml ret R κ T h M cells slots) {index n : Nat} {C : String} (w1 : (Cond.classLink own index C).before a0 Z = true) (w2 : (Cond.instantiable C n).before a0 Z = true) (w3 : (Cond.initialized C).before a0 Z = true) (hd : decode bytes pc = .ok (.new index, 3)) (hp : pc + 3 = pc') (hc : cells + 1 ≤ R.cells) (hs : slots + n ≤ R.slots)
    (g : ∀ T' h' a, W l Z a0 EL nw own bytes ml ret R κ T' h' (a :: M) (cells + 1) (slots + n) → Keep h h' [] → h.size ≤ a → Exa Z h' a C → (∀ {O nm d : String} {ty : FieldType}, Laid Z a0 C O nm d → parseFieldDescriptor d = some ty → Fld Z h' a O nm d (defaultValue ty)) → Go Z EL nw R κ Q (T'.setTop (mkF (km κ) pc' Ls (.ref a :: S)))) : Go Z EL nw R κ Q (T.setTop (mkF (km κ) pc Ls S)) := by
  subst hp
  refine w.made (k := 1) (n := n) (P := fun h' => Exa Z h' h.size C ∧ (∀ {O nm d : String} {ty : FieldType}, Laid Z a0 C O nm d → parseFieldDescriptor d = some ty → Fld Z h' h.size O nm d (defaultValue ty))) (G := mkF (km κ) (pc + 3) Ls (.ref h.size :: S)) (fun s locs hx hby hml hZ hown eT X => ?_) (fun T' h' w' K hP => g T' h' _ w' K (Nat.le_refl _) hP.1 hP.2)
  obtain ⟨T', h', X', e', E, A, D, -, st⟩ := RoadKit.newO X hx hZ hown w1 w2 w3 eT (g := mkF (km κ) pc Ls S) rfl (hb hby hd) hc hs
  exact ⟨T', h', X', e', E, A.lt, ⟨A, D⟩, st⟩
theorem W.newP (w : W l Z a0 EL nw own bytes ml ret R κ T h M cells slots) {aty : ArrayType} {ty : FieldType} (hty : newarray.typeOf aty = ty) (w1 : (Cond.arrayClass ty).before a0 Z = true) {n : Int32} (hd : decode bytes pc = .ok (.newarray aty, 2)) (hp : pc + 2 = pc') (hn : ¬ n < 0) {cap : Nat} (hcap : n.toNatClampNeg = cap) (hbig : cap ≤ 67108864) (hc : cells + 1 ≤ R.cells) (hs : slots + cap ≤ R.slots)
    (g : ∀ T' h' a k, W l Z a0 EL nw own bytes ml ret R κ T' h' (a :: M) (cells + 1) (slots + cap) → Keep h h' [] → h.size ≤ a → Arv Z h' a k ty n (List.replicate cap (defaultValue ty)) (defaultValue ty) → Go Z EL nw R κ Q (T'.setTop (mkF (km κ) pc' Ls (.ref a :: S)))) : Go Z EL nw R κ Q (T.setTop (mkF (km κ) pc Ls (.int n :: S))) := by
  subst hp hty
  refine w.made (k := 1) (n := cap) (P := fun h' => ∃ k, Arv Z h' h.size k (newarray.typeOf aty) n (List.replicate cap (defaultValue (newarray.typeOf aty))) (defaultValue (newarray.typeOf aty))) (G := mkF (km κ) (pc + 2) Ls (.ref h.size :: S)) (fun s locs hx hby hml hZ hown eT X => ?_) (fun T' h' w' K hP => g T' h' _ _ w' K (Nat.le_refl _) hP.choose_spec)
  obtain ⟨T', h', k, X', e', E, A, st⟩ := RoadKit.newP X hx hZ w1 eT (g := mkF (km κ) pc Ls (.int n :: S)) rfl (hb hby hd) rfl hn (cap := cap) (Nat.le_of_eq hcap) (by omega) hc hs
  exact ⟨T', h', X', e', E, A.lt, ⟨k, (Arv.new A hn).pad (pad_rep [] (defaultValue (newarray.typeOf aty)) cap)⟩, st⟩
theorem W.newPB (w : W l Z a0 EL nw own bytes ml ret R κ T h M cells slots) {aty : ArrayType} {ty : FieldType} (hty : newarray.typeOf aty = ty) (w1 : (Cond.arrayClass ty).before a0 Z = true) {n : Int32} (hd : decode bytes pc = .ok (.newarray aty, 2)) (hp : pc + 2 = pc') (hn : ¬ n < 0) {len cap : Nat} (hlen : n.toNatClampNeg = len) (hcap : len ≤ cap) (hbig : cap ≤ 67108864) (hc : cells + 1 ≤ R.cells) (hs : slots + cap ≤ R.slots)
    (g : ∀ T' h' a k, W l Z a0 EL nw own bytes ml ret R κ T' h' (a :: M) (cells + 1) (slots + cap) → Keep h h' [] → h.size ≤ a → Arv Z h' a k ty n (List.replicate len (defaultValue ty)) (defaultValue ty) → Go Z EL nw R κ Q (T'.setTop (mkF (km κ) pc' Ls (.ref a :: S)))) : Go Z EL nw R κ Q (T.setTop (mkF (km κ) pc Ls (.int n :: S))) := by
  subst hp hty
  refine w.made (k := 1) (n := cap) (P := fun h' => ∃ k, Arv Z h' h.size k (newarray.typeOf aty) n (List.replicate len (defaultValue (newarray.typeOf aty))) (defaultValue (newarray.typeOf aty))) (G := mkF (km κ) (pc + 2) Ls (.ref h.size :: S)) (fun s locs hx hby hml hZ hown eT X => ?_) (fun T' h' w' K hP => g T' h' _ _ w' K (Nat.le_refl _) hP.choose_spec)
  obtain ⟨T', h', k, X', e', E, A, st⟩ := RoadKit.newP X hx hZ w1 eT (g := mkF (km κ) pc Ls (.int n :: S)) rfl (hb hby hd) rfl hn (cap := cap) (by omega) (by omega) hc hs
  exact ⟨T', h', X', e', E, A.lt, ⟨k, (Arv.new A hn).pad (pad_rep [] (defaultValue (newarray.typeOf aty)) len)⟩, st⟩
theorem W.newPE (w : W l Z a0 EL nw own bytes ml ret R κ T h M cells slots) {aty : ArrayType} {ty : FieldType} (hty : newarray.typeOf aty = ty) (w1 : (Cond.arrayClass ty).before a0 Z = true) {ad : String} (had : "[" ++ ty.toString = ad) {n : Int32} (hd : decode bytes pc = .ok (.newarray aty, 2)) (hp : pc + 2 = pc') (hn : ¬ n < 0) {len cap : Nat} (hlen : n.toNatClampNeg = len) (hcap : len ≤ cap) (hbig : cap ≤ 67108864) (hc : cells + 1 ≤ R.cells) (hs : slots + cap ≤ R.slots)
    (g : ∀ T' h' a k, W l Z a0 EL nw own bytes ml ret R κ T' h' (a :: M) (cells + 1) (slots + cap) → Keep h h' [] → h.size ≤ a → Arv Z h' a k ty n (List.replicate len (defaultValue ty)) (defaultValue ty) → Exa Z h' a ad → Go Z EL nw R κ Q (T'.setTop (mkF (km κ) pc' Ls (.ref a :: S)))) : Go Z EL nw R κ Q (T.setTop (mkF (km κ) pc Ls (.int n :: S))) := by
  subst hp hty
  refine w.made (k := 1) (n := cap) (P := fun h' => (∃ k, Arv Z h' h.size k (newarray.typeOf aty) n (List.replicate len (defaultValue (newarray.typeOf aty))) (defaultValue (newarray.typeOf aty))) ∧ Exa Z h' h.size ad) (G := mkF (km κ) (pc + 2) Ls (.ref h.size :: S)) (fun s locs hx hby hml hZ hown eT X => ?_) (fun T' h' w' K hP => g T' h' _ _ w' K (Nat.le_refl _) hP.1.choose_spec hP.2)
  obtain ⟨T', h', k, X', e', E, A, E', st⟩ := RoadKit.newPE X hx hZ w1 eT (g := mkF (km κ) pc Ls (.int n :: S)) rfl (hb hby hd) rfl hn (cap := cap) (by omega) (by omega) hc hs had
  exact ⟨T', h', X', e', E, A.lt, ⟨⟨k, (Arv.new A hn).pad (pad_rep [] (defaultValue (newarray.typeOf aty)) len)⟩, E'⟩, st⟩
theorem W.getF (w : W l Z a0 EL nw own bytes ml ret R κ T h M cells slots) {R0 O n d host : String} {index : Nat} (w1 : (Cond.fieldLink own index R0 n d).before a0 Z = true ∨ (Cond.fieldLinkNest own index R0 n d host).before a0 Z = true) (via : Via Z R0 O n d) {a : Addr} {v : Value} (F : Fld Z h a O n d v) (hd : decode bytes pc = .ok (.getfield index, 3)) (hp : pc + 3 = pc')
    (g : ∀ T', W l Z a0 EL nw own bytes ml ret R κ T' h M cells slots → Go Z EL nw R κ Q (T'.setTop (mkF (km κ) pc' Ls (v :: S)))) : Go Z EL nw R κ Q (T.setTop (mkF (km κ) pc Ls (.ref a :: S))) := by
  subst hp
  exact w.noted (G := mkF (km κ) (pc + 3) Ls (v :: S)) (fun s locs hx hby hml hZ hown eT X => RoadKit.getF X hx hZ hown w1 via eT F (g := mkF (km κ) pc Ls (.ref a :: S)) rfl rfl (hb hby hd)) g
theorem W.getS (w : W l Z a0 EL nw own bytes ml ret R κ T h M cells slots) {R0 O n d : String} {index : Nat} (w1 : (Cond.fieldLink own index R0 n d).before a0 Z = true) (via : Via Z R0 O n d) {v : Value} (F : Sta Z h O n d v) (hd : decode bytes pc = .ok (.getstatic index, 3)) (hp : pc + 3 = pc')
    (g : ∀ T', W l Z a0 EL nw own bytes ml ret R κ T' h M cells slots → Go Z EL nw R κ Q (T'.setTop (mkF (km κ) pc' Ls (v :: S)))) : Go Z EL nw R κ Q (T.setTop (mkF (km κ) pc Ls S)) := by
  subst hp
  exact w.noted (G := mkF (km κ) (pc + 3) Ls (v :: S)) (fun s locs hx hby hml hZ hown eT X => RoadKit.getS (host := "") X hx hZ hown w1 via eT F (g := mkF (km κ) pc Ls S) rfl (hb hby hd)) g
theorem W.putF (w : W l Z a0 EL nw own bytes ml ret R κ T h M cells slots) {R0 O n d host C : String} {index kk : Nat} {ty : FieldType} (w1 : (Cond.fieldLink own index R0 n d).before a0 Z = true ∨ (Cond.fieldLinkNest own index R0 n d host).before a0 Z = true) (via : Via Z R0 O n d) {a : Addr} {v old : Value} (F : Fld Z h a O n d old) (E : Exa Z h a C)
    (L : (Cond.lays C O n d).before a0 Z = true ∨ ((Cond.laysFinal C O n d).before a0 Z = true ∧ own = O ∧ (kt κ).name = "<init>")) (wi : (Cond.instantiable C kk).before a0 Z = true) (hty : parseFieldDescriptor d = some ty) (hn : narrow ty v = v) (hf : fits ty v = true) (ha : a ∈ M) (hd : decode bytes pc = .ok (.putfield index, 3)) (hp : pc + 3 = pc')
    (g : ∀ T' h', W l Z a0 EL nw own bytes ml ret R κ T' h' M cells slots → Wr h h' a (RoadKit.slotOf Z O n d) v → Go Z EL nw R κ Q (T'.setTop (mkF (km κ) pc' Ls S))) : Go Z EL nw R κ Q (T.setTop (mkF (km κ) pc Ls (v :: .ref a :: S))) := by
  subst hp
  exact w.wrote ha (G := mkF (km κ) (pc + 3) Ls S) (fun s locs hx hby hml hZ hown eT X => RoadKit.putF X hx hZ hown w1 via eT F E L wi hty hn hf (g := mkF (km κ) pc Ls (v :: .ref a :: S)) rfl rfl (hb hby hd)) g
theorem W.putFN (w : W l Z a0 EL nw own bytes ml ret R κ T h M cells slots) {R0 O n d C : String} {index kk : Nat} {ty : FieldType} (w1 : (Cond.fieldLink own index R0 n d).before a0 Z = true) (via : Via Z R0 O n d) {a : Addr} {v v' old : Value} (F : Fld Z h a O n d old) (E : Exa Z h a C)
    (L : (Cond.lays C O n d).before a0 Z = true ∨ ((Cond.laysFinal C O n d).before a0 Z = true ∧ own = O ∧ (kt κ).name = "<init>")) (wi : (Cond.instantiable C kk).before a0 Z = true) (hty : parseFieldDescriptor d = some ty) (hn : narrow ty v = v') (hf : fits ty v' = true) (ha : a ∈ M) (hd : decode bytes pc = .ok (.putfield index, 3)) (hp : pc + 3 = pc')
    (g : ∀ T' h', W l Z a0 EL nw own bytes ml ret R κ T' h' M cells slots → Wr h h' a (RoadKit.slotOf Z O n d) v' → Go Z EL nw R κ Q (T'.setTop (mkF (km κ) pc' Ls S))) : Go Z EL nw R κ Q (T.setTop (mkF (km κ) pc Ls (v :: .ref a :: S))) := by
  subst hp
  exact w.wrote ha (G := mkF (km κ) (pc + 3) Ls S) (fun s locs hx hby hml hZ hown eT X => RoadKit.putFN X hx hZ hown w1 via eT F E L wi hty hn hf (g := mkF (km κ) pc Ls (v :: .ref a :: S)) rfl rfl (hb hby hd)) g
theorem W.stC (w : W l Z a0 EL nw own bytes ml ret R κ T h M cells slots) {a : Addr} {k : ClassId} {z j x x' : Int32} (hn : nar .char x = x') {vs : List Value} {dv : Value} (V : Arv Z h a k .char z vs dv) {i : Nat} (hj : j.toNatClampNeg = i) (hj0 : ¬ j < 0 ∧ j < z) (hi : i < vs.length) (ha : a ∈ M) (hd : decode bytes pc = .ok (.castore, 1)) (hp : pc + 1 = pc')
    (g : ∀ T' h', W l Z a0 EL nw own bytes ml ret R κ T' h' M cells slots → Keep h h' [a] → Arv Z h' a k .char z (vs.set i (.int x')) dv → Go Z EL nw R κ Q (T'.setTop (mkF (km κ) pc' Ls S))) : Go Z EL nw R κ Q (T.setTop (mkF (km κ) pc Ls (.int x :: .int j :: .ref a :: S))) := by
  subst hp hn
  obtain ⟨c, A, q, Sz, N, H, Gf⟩ := V
  exact w.wrote ha (G := mkF (km κ) (pc + 1) Ls S) (fun s locs hx hby hml hZ hown eT X => RoadKit.stC X hx hZ eT A (inb_of Sz hj0) (g := mkF (km κ) pc Ls (.int x :: .int j :: .ref a :: S)) rfl rfl (hb hby hd)) (fun T' h' w' W' => g T' h' w' (Keep.of_wr W') (Arv.set A q Sz N H Gf (fits_nar_char _) W' i hj hi))
theorem W.stB (w : W l Z a0 EL nw own bytes ml ret R κ T h M cells slots) {a : Addr} {k : ClassId} {z j x x' : Int32} (hn : nar .byte x = x') {vs : List Value} {dv : Value} (V : Arv Z h a k .byte z vs dv) {i : Nat} (hj : j.toNatClampNeg = i) (hj0 : ¬ j < 0 ∧ j < z) (hi : i < vs.length) (ha : a ∈ M) (hd : decode bytes pc = .ok (.bastore, 1)) (hp : pc + 1 = pc')
    (g : ∀ T' h', W l Z a0 EL nw own bytes ml ret R κ T' h' M cells slots → Keep h h' [a] → Arv Z h' a k .byte z (vs.set i (.int x')) dv → Go Z EL nw R κ Q (T'.setTop (mkF (km κ) pc' Ls S))) : Go Z EL nw R κ Q (T.setTop (mkF (km κ) pc Ls (.int x :: .int j :: .ref a :: S))) := by
  subst hp hn
  obtain ⟨c, A, q, Sz, N, H, Gf⟩ := V
  exact w.wrote ha (G := mkF (km κ) (pc + 1) Ls S) (fun s locs hx hby hml hZ hown eT X => RoadKit.stB X hx hZ eT A (inb_of Sz hj0) (g := mkF (km κ) pc Ls (.int x :: .int j :: .ref a :: S)) rfl rfl (hb hby hd)) (fun T' h' w' W' => g T' h' w' (Keep.of_wr W') (Arv.set A q Sz N H Gf (fits_nar_byte _) W' i hj hi))
theorem W.stI (w : W l Z a0 EL nw own bytes ml ret R κ T h M cells slots) {a : Addr} {k : ClassId} {z j x : Int32} {vs : List Value} {dv : Value} (V : Arv Z h a k .int z vs dv) {i : Nat} (hj : j.toNatClampNeg = i) (hj0 : ¬ j < 0 ∧ j < z) (hi : i < vs.length) (ha : a ∈ M) (hd : decode bytes pc = .ok (.iastore, 1)) (hp : pc + 1 = pc')
    (g : ∀ T' h', W l Z a0 EL nw own bytes ml ret R κ T' h' M cells slots → Keep h h' [a] → Arv Z h' a k .int z (vs.set i (.int x)) dv → Go Z EL nw R κ Q (T'.setTop (mkF (km κ) pc' Ls S))) : Go Z EL nw R κ Q (T.setTop (mkF (km κ) pc Ls (.int x :: .int j :: .ref a :: S))) := by
  subst hp
  obtain ⟨c, A, q, Sz, N, H, Gf⟩ := V
  exact w.wrote ha (G := mkF (km κ) (pc + 1) Ls S) (fun s locs hx hby hml hZ hown eT X => RoadKit.stI X hx hZ eT A (inb_of Sz hj0) (g := mkF (km κ) pc Ls (.int x :: .int j :: .ref a :: S)) rfl rfl (hb hby hd)) (fun T' h' w' W' => g T' h' w' (Keep.of_wr W') (Arv.set A q Sz N H Gf rfl W' i hj hi))
theorem W.stJ (w : W l Z a0 EL nw own bytes ml ret R κ T h M cells slots) {a : Addr} {k : ClassId} {z j : Int32} {x : Int64} {vs : List Value} {dv : Value} (V : Arv Z h a k .long z vs dv) {i : Nat} (hj : j.toNatClampNeg = i) (hj0 : ¬ j < 0 ∧ j < z) (hi : i < vs.length) (ha : a ∈ M) (hd : decode bytes pc = .ok (.lastore, 1)) (hp : pc + 1 = pc')
    (g : ∀ T' h', W l Z a0 EL nw own bytes ml ret R κ T' h' M cells slots → Keep h h' [a] → Arv Z h' a k .long z (vs.set i (.long x)) dv → Go Z EL nw R κ Q (T'.setTop (mkF (km κ) pc' Ls S))) : Go Z EL nw R κ Q (T.setTop (mkF (km κ) pc Ls (.long x :: .int j :: .ref a :: S))) := by
  subst hp
  obtain ⟨c, A, q, Sz, N, H, Gf⟩ := V
  exact w.wrote ha (G := mkF (km κ) (pc + 1) Ls S) (fun s locs hx hby hml hZ hown eT X => RoadKit.stJ X hx hZ eT A (inb_of Sz hj0) (g := mkF (km κ) pc Ls (.long x :: .int j :: .ref a :: S)) rfl rfl (hb hby hd)) (fun T' h' w' W' => g T' h' w' (Keep.of_wr W') (Arv.set A q Sz N H Gf rfl W' i hj hi))
theorem W.alen (w : W l Z a0 EL nw own bytes ml ret R κ T h M cells slots) {a : Addr} {k : ClassId} {ty : FieldType} {z : Int32} {vs : List Value} {dv : Value} (V : Arv Z h a k ty z vs dv) (hd : decode bytes pc = .ok (.arraylength, 1)) (hp : pc + 1 = pc') (g : Go Z EL nw R κ Q (T.setTop (mkF (km κ) pc' Ls (.int z :: S)))) : Go Z EL nw R κ Q (T.setTop (mkF (km κ) pc Ls (.ref a :: S))) := by
  subst hp
  obtain ⟨c, A, q, Sz, N, H, Gf⟩ := V
  obtain ⟨⟨hx, hby, -⟩, vm0, k0, locs, X, -, h2, -, -, -, h6, -⟩ := w
  refine Go.via (X.arraylength hx (by rw [h6]; exact A.1) (State.isArrayOf_alike (T := (ks κ).setVm vm0) h2.alike A.2.1) (g := mkF (km κ) pc Ls (.ref a :: S)) rfl rfl (hb hby hd)) ?_
  rw [len_of Sz N]; exact g
theorem W.ldC (w : W l Z a0 EL nw own bytes ml ret R κ T h M cells slots) {a : Addr} {k : ClassId} {z j : Int32} {vs : List Value} {dv v : Value} (V : Arv Z h a k .char z vs dv) (hj0 : ¬ j < 0 ∧ j < z) (hv : vs.getD j.toNatClampNeg dv = v) (hd : decode bytes pc = .ok (.caload, 1)) (hp : pc + 1 = pc') (g : Go Z EL nw R κ Q (T.setTop (mkF (km κ) pc' Ls (v :: S)))) : Go Z EL nw R κ Q (T.setTop (mkF (km κ) pc Ls (.int j :: .ref a :: S))) := by
  subst hp
  obtain ⟨c, A, q, Sz, N, H, Gf⟩ := V
  obtain ⟨⟨hx, hby, -⟩, vm0, k0, locs, X, -, h2, -, -, -, h6, -⟩ := w
  exact Go.via (X.caload hx (by rw [h6]; exact A.1) (State.isArrayOf_alike (T := (ks κ).setVm vm0) h2.alike A.2.1) A.2.2 (inb_of Sz hj0) (H.at (inb_of Sz hj0) hv) (g := mkF (km κ) pc Ls (.int j :: .ref a :: S)) rfl rfl (hb hby hd)) g
theorem W.ldB (w : W l Z a0 EL nw own bytes ml ret R κ T h M cells slots) {a : Addr} {k : ClassId} {z j : Int32} {vs : List Value} {dv v : Value} (V : Arv Z h a k .byte z vs dv) (hj0 : ¬ j < 0 ∧ j < z) (hv : vs.getD j.toNatClampNeg dv = v) (hd : decode bytes pc = .ok (.baload, 1)) (hp : pc + 1 = pc') (g : Go Z EL nw R κ Q (T.setTop (mkF (km κ) pc' Ls (v :: S)))) : Go Z EL nw R κ Q (T.setTop (mkF (km κ) pc Ls (.int j :: .ref a :: S))) := by
  subst hp
  obtain ⟨c, A, q, Sz, N, H, Gf⟩ := V
  obtain ⟨⟨hx, hby, -⟩, vm0, k0, locs, X, -, h2, -, -, -, h6, -⟩ := w
  exact Go.via (X.baloadBytes hx (by rw [h6]; exact A.1) (State.isArrayOf_alike (T := (ks κ).setVm vm0) h2.alike A.2.1) A.2.2 (inb_of Sz hj0) (H.at (inb_of Sz hj0) hv) (g := mkF (km κ) pc Ls (.int j :: .ref a :: S)) rfl rfl (hb hby hd)) g
theorem W.ldI (w : W l Z a0 EL nw own bytes ml ret R κ T h M cells slots) {a : Addr} {k : ClassId} {z j : Int32} {vs : List Value} {dv v : Value} (V : Arv Z h a k .int z vs dv) (hj0 : ¬ j < 0 ∧ j < z) (hv : vs.getD j.toNatClampNeg dv = v) (hd : decode bytes pc = .ok (.iaload, 1)) (hp : pc + 1 = pc') (g : Go Z EL nw R κ Q (T.setTop (mkF (km κ) pc' Ls (v :: S)))) : Go Z EL nw R κ Q (T.setTop (mkF (km κ) pc Ls (.int j :: .ref a :: S))) := by
  subst hp
  obtain ⟨c, A, q, Sz, N, H, Gf⟩ := V
  obtain ⟨⟨hx, hby, -⟩, vm0, k0, locs, X, -, h2, -, -, -, h6, -⟩ := w
  exact Go.via (X.iaload hx (by rw [h6]; exact A.1) (State.isArrayOf_alike (T := (ks κ).setVm vm0) h2.alike A.2.1) A.2.2 (inb_of Sz hj0) (H.at (inb_of Sz hj0) hv) (g := mkF (km κ) pc Ls (.int j :: .ref a :: S)) rfl rfl (hb hby hd)) g
theorem W.ldJ (w : W l Z a0 EL nw own bytes ml ret R κ T h M cells slots) {a : Addr} {k : ClassId} {z j : Int32} {vs : List Value} {dv v : Value} (V : Arv Z h a k .long z vs dv) (hj0 : ¬ j < 0 ∧ j < z) (hv : vs.getD j.toNatClampNeg dv = v) (hd : decode bytes pc = .ok (.laload, 1)) (hp : pc + 1 = pc') (g : Go Z EL nw R κ Q (T.setTop (mkF (km κ) pc' Ls (v :: S)))) : Go Z EL nw R κ Q (T.setTop (mkF (km κ) pc Ls (.int j :: .ref a :: S))) := by
  subst hp
  obtain ⟨c, A, q, Sz, N, H, Gf⟩ := V
  obtain ⟨⟨hx, hby, -⟩, vm0, k0, locs, X, -, h2, -, -, -, h6, -⟩ := w
  exact Go.via (X.laload hx (by rw [h6]; exact A.1) (State.isArrayOf_alike (T := (ks κ).setVm vm0) h2.alike A.2.1) A.2.2 (inb_of Sz hj0) (H.at (inb_of Sz hj0) hv) (g := mkF (km κ) pc Ls (.int j :: .ref a :: S)) rfl rfl (hb hby hd)) g
theorem W.ldA (w : W l Z a0 EL nw own bytes ml ret R κ T h M cells slots) {a : Addr} {k : ClassId} {ty : FieldType} {z j : Int32} {vs : List Value} {dv v : Value} (V : Arv Z h a k ty z vs dv) (hty : ty.isReference = true) (hj0 : ¬ j < 0 ∧ j < z) (hv : vs.getD j.toNatClampNeg dv = v) (hd : decode bytes pc = .ok (.aaload, 1)) (hp : pc + 1 = pc') (g : Go Z EL nw R κ Q (T.setTop (mkF (km κ) pc' Ls (v :: S)))) : Go Z EL nw R κ Q (T.setTop (mkF (km κ) pc Ls (.int j :: .ref a :: S))) := by
  subst hp
  obtain ⟨c, A, q, Sz, N, H, Gf⟩ := V
  obtain ⟨⟨hx, hby, -⟩, vm0, k0, locs, X, -, h2, -, -, -, h6, -⟩ := w
  exact Go.via (X.aaload hx (by rw [h6]; exact A.1) (State.isArrayOf_alike (T := (ks κ).setVm vm0) h2.alike A.2.1) hty A.2.2 (inb_of Sz hj0) (H.at (inb_of Sz hj0) hv) (g := mkF (km κ) pc Ls (.int j :: .ref a :: S)) rfl rfl (hb hby hd)) g
theorem W.ldcI (w : W l Z a0 EL nw own bytes ml ret R κ T h M cells slots) {index : Nat} {v : Int32} (w1 : (Cond.constant own index v).before a0 Z = true) (hd : decode bytes pc = .ok (.ldc index, 2)) (hp : pc + 2 = pc') (g : Go Z EL nw R κ Q (T.setTop (mkF (km κ) pc' Ls (.int v :: S)))) : Go Z EL nw R κ Q (T.setTop (mkF (km κ) pc Ls S)) := by
  subst hp
  obtain ⟨⟨hx, hby, -⟩, vm0, k0, locs, X, -, h2, h3, -⟩ := w
  exact Go.via (X.ldcInt hx h3 (mvT (s := (ks κ).setVm vm0) h2 w1) (g := mkF (km κ) pc Ls S) rfl (hb hby hd)) g
theorem W.ldcJ (w : W l Z a0 EL nw own bytes ml ret R κ T h M cells slots) {index : Nat} {v : Int64} (w1 : (Cond.constantLong own index v).before a0 Z = true) (hd : decode bytes pc = .ok (.ldc2_w index, 3)) (hp : pc + 3 = pc') (g : Go Z EL nw R κ Q (T.setTop (mkF (km κ) pc' Ls (.long v :: S)))) : Go Z EL nw R κ Q (T.setTop (mkF (km κ) pc Ls S)) := by
  subst hp
  obtain ⟨⟨hx, hby, -⟩, vm0, k0, locs, X, -, h2, h3, -⟩ := w
  exact Go.via (X.ldc2Long hx h3 (mvT (s := (ks κ).setVm vm0) h2 w1) (g := mkF (km κ) pc Ls S) rfl (hb hby hd)) g
theorem W.initO (w : W l Z a0 EL nw own bytes ml ret R κ T h M cells slots) {index : Nat} (w1 : (Cond.methodLink own index Lib.objectInit).before a0 Z = true) (w2 : (Cond.instanceMethod Lib.objectInit).before a0 Z = true) (w3 : (Cond.code Lib.objectInit ⟨#[0xb1]⟩ 1 none).before a0 Z = true) {a : Addr} (hd : decode bytes pc = .ok (.invokespecial index, 3)) (hp : pc + 3 = pc') (hsz : Ls.size = ml) (hf : 1 ≤ R.frames) {Wd : Nat} (hwd : (S.map fun v => v.category).sum = Wd) (hlo : Wd + 12 ≤ R.locals)
    (g : ∀ T', W l Z a0 EL nw own bytes ml ret R κ T' h M cells slots → Go Z EL nw R κ Q (T'.setTop (mkF (km κ) pc' Ls S))) : Go Z EL nw R κ Q (T.setTop (mkF (km κ) pc Ls (.ref a :: S))) := by
  subst hp
  exact w.noted (G := mkF (km κ) (pc + 3) Ls S) (fun s locs hx hby hml hZ hown eT X => RoadKit.initO X hx hZ hown w1 w2 w3 eT (g := mkF (km κ) pc Ls (.ref a :: S)) rfl (hsz.trans hml.symm) rfl (hb hby hd) hf (W := Wd) (by rw [mr0]; omega) hlo) g
theorem W.cast (w : W l Z a0 EL nw own bytes ml ret R κ T h M cells slots) {index : Nat} {K : String} (w1 : (Cond.classLink own index K).before a0 Z = true) {a : Addr} (F : Ins Z h a K true) (hd : decode bytes pc = .ok (.checkcast index, 3)) (hp : pc + 3 = pc')
    (g : ∀ T', W l Z a0 EL nw own bytes ml ret R κ T' h M cells slots → Go Z EL nw R κ Q (T'.setTop (mkF (km κ) pc' Ls (.ref a :: S)))) : Go Z EL nw R κ Q (T.setTop (mkF (km κ) pc Ls (.ref a :: S))) := by
  subst hp
  exact w.noted (G := mkF (km κ) (pc + 3) Ls (.ref a :: S)) (fun s locs hx hby hml hZ hown eT X => RoadKit.castY X hx hZ hown w1 eT F (g := mkF (km κ) pc Ls (.ref a :: S)) rfl rfl (hb hby hd)) g
theorem W.inst (w : W l Z a0 EL nw own bytes ml ret R κ T h M cells slots) {index : Nat} {K : String} (w1 : (Cond.classLink own index K).before a0 Z = true) {a : Addr} (F : Ins Z h a K true) (hd : decode bytes pc = .ok (.instanceof index, 3)) (hp : pc + 3 = pc')
    (g : ∀ T', W l Z a0 EL nw own bytes ml ret R κ T' h M cells slots → Go Z EL nw R κ Q (T'.setTop (mkF (km κ) pc' Ls (.int 1 :: S)))) : Go Z EL nw R κ Q (T.setTop (mkF (km κ) pc Ls (.ref a :: S))) := by
  subst hp
  exact w.noted (G := mkF (km κ) (pc + 3) Ls (.int 1 :: S)) (fun s locs hx hby hml hZ hown eT X => RoadKit.instY X hx hZ hown w1 eT F (g := mkF (km κ) pc Ls (.ref a :: S)) rfl rfl (hb hby hd)) g
theorem W.retI (w : W l Z a0 EL nw own bytes ml ret R κ T h M cells slots) {z : Int32} (hr : ret = some .int) (hd : decode bytes pc = .ok (.ireturn, 1)) {M' : List Addr} (hM : ∀ x ∈ M', x ∈ M) (hc : cells ≤ R.cells) (hs : slots ≤ R.slots) (hq : Q (some (.int z)) h M') : Go Z EL nw R κ Q (T.setTop (mkF (km κ) pc Ls (.int z :: S))) :=
  w.leave (fun q => by rw [hr] at q; cases q) hc hs hM hq (fun s locs fs hx hby hret X hl => retOut X hx (hret.trans hr) rfl (Or.inl ⟨rfl, Or.inl rfl, _, rfl⟩) (hb hby hd) hl)
theorem W.retN (w : W l Z a0 EL nw own bytes ml ret R κ T h M cells slots) {z z' : Int32} {t : FieldType} (hr : ret = some t) (hn : nar t z = z') (ht : t = .boolean ∨ t = .byte ∨ t = .char ∨ t = .short) (hd : decode bytes pc = .ok (.ireturn, 1)) {M' : List Addr} (hM : ∀ x ∈ M', x ∈ M) (hc : cells ≤ R.cells) (hs : slots ≤ R.slots) (hq : Q (some (.int z')) h M') : Go Z EL nw R κ Q (T.setTop (mkF (km κ) pc Ls (.int z :: S))) := by
  subst hn
  exact w.leave (fun q => by rw [hr] at q; cases q) hc hs hM hq (fun s locs fs hx hby hret X hl => RoadKit.retN X hx (hret.trans hr) ht (hb hby hd) hl)
theorem W.retJ (w : W l Z a0 EL nw own bytes ml ret R κ T h M cells slots) {z : Int64} (hr : ret = some .long) (hd : decode bytes pc = .ok (.lreturn, 1)) {M' : List Addr} (hM : ∀ x ∈ M', x ∈ M) (hc : cells ≤ R.cells) (hs : slots ≤ R.slots) (hq : Q (some (.long z)) h M') : Go Z EL nw R κ Q (T.setTop (mkF (km κ) pc Ls (.long z :: S))) :=
  w.leave (fun q => by rw [hr] at q; cases q) hc hs hM hq (fun s locs fs hx hby hret X hl => retOut X hx (hret.trans hr) rfl (Or.inr (Or.inl ⟨rfl, rfl, _, rfl⟩)) (hb hby hd) hl)
theorem nar_ref {t : FieldType} {v : Value} (ht : t.isReference = true) (hv : v.isRef = true) : narrow t v = v := by rcases ref_cases hv with rfl | ⟨a, rfl⟩ <;> cases t <;> first | rfl | (simp [FieldType.isReference] at ht)
theorem W.retR (w : W l Z a0 EL nw own bytes ml ret R κ T h M cells slots) {v : Value} {t : FieldType} (hr : ret = some t) (ht : t.isReference = true) (hv : v.isRef = true) (hd : decode bytes pc = .ok (.areturn, 1)) {M' : List Addr} (hM : ∀ x ∈ M', x ∈ M) (hc : cells ≤ R.cells) (hs : slots ≤ R.slots) (hq : Q (some v) h M') : Go Z EL nw R κ Q (T.setTop (mkF (km κ) pc Ls (v :: S))) :=
  w.leave (fun q => by rw [hr] at q; cases q) hc hs hM hq (fun s locs fs hx hby hret X hl => retOut X hx (hret.trans hr) (nar_ref ht hv) (Or.inr (Or.inr (Or.inr (Or.inr ⟨rfl, ht, hv⟩)))) (hb hby hd) hl)
theorem W.ret0 (w : W l Z a0 EL nw own bytes ml ret R κ T h M cells slots) (hr : ret = none) (hd : decode bytes pc = .ok (.return_, 1)) {M' : List Addr} (hM : ∀ x ∈ M', x ∈ M) (hc : cells ≤ R.cells) (hs : slots ≤ R.slots) (hq : Q none h M') : Go Z EL nw R κ Q (T.setTop (mkF (km κ) pc Ls [])) :=
  w.leave (fun _ => rfl) hc hs hM hq (fun s locs fs hx hby hret X hl => X.returnOut hx (hret.trans hr) (hb hby hd) hl)
theorem W.ldcS (w : W l Z a0 EL nw own bytes ml ret R κ T h M cells slots) (hnw : nw = false) {index : Nat} {text : String} (w1 : (Cond.stringLink own index text).before a0 Z = true) (wS : ∀ a ∈ Bundle.stringAtoms, a.before a0 Z = true) (hmem : (own, index) ∈ EL) {vs : List Value} {z : Int32}
    (ht : (∀ c ∈ text.toList, c.toNat < 256) ∧ text.toList.map (fun c => Value.int (Jvm.Lit.byteI c.toNat.toUInt16)) = vs) (hz : ¬ z < 0) (hl : z.toNatClampNeg = vs.length) (hd : decode bytes pc = .ok (.ldc index, 2)) (hp : pc + 2 = pc') {n : Nat} (hn : 4 * text.toList.length ≤ n) (hbig : n ≤ 536870912) (hc : cells + 2 ≤ R.cells) (hs : slots + (n + 4) ≤ R.slots)
    (g : ∀ T' h' a b k, W l Z a0 EL nw own bytes ml ret R κ T' h' M (cells + 2) (slots + (n + 4)) → Keep h h' [] → Exa Z h' a "java/lang/String" → Fld Z h' a "java/lang/String" "coder" "B" (.int 0) → Fld Z h' a "java/lang/String" "value" "[B" (.ref b) → Arv Z h' b k .byte z vs (.int 0) → (∀ x ∈ M, x ≠ a ∧ x ≠ b) → Go Z EL nw R κ Q (T'.setTop (mkF (km κ) pc' Ls (.ref a :: S)))) : Go Z EL nw R κ Q (T.setTop (mkF (km κ) pc Ls S)) := by
  subst hp
  obtain ⟨hC, vm0, k0, locs, X, h1, h2, h3, h4, h5, h6, h7, h8, h9, h10⟩ := w
  obtain ⟨a, T', h', k1, b, k, X', e', E, hS', hk', hZ', hown', q1, q2, q3, q4, -, -, q7, -, q9, st⟩ := ldcCH X hC.1 h2 h3 w1 wS h6 h4 h5 hC.2.2.2.2.2 hmem h7.1 ht hz hl (g := mkF (km κ) pc Ls S) rfl (hb hC.2.1 hd) hn hbig hc hs
  have hM' := h8.at q7
  exact Go.via st (g T' h' a b k ⟨hC, T'.vm, k1, locs, X', h1, hZ', hown', hS', hk', e', h7.trans q7, hM', h9.ext E, fun q => by rw [hnw] at q; cases q⟩ (keepE E) q1 q2 q3 q4 (fun x hx => q9 x (hM' x hx).2.2))
theorem W.copy (w : W l Z a0 EL nw own bytes ml ret R κ T h M cells slots) {index : Nat} (w1 : (Cond.methodLink own index Jvm.Stand.acN).before a0 Z = true) (w2 : (Cond.native Jvm.Stand.acN).before a0 Z = true) (w3 : (Cond.static Jvm.Stand.acN).before a0 Z = true) (w4 : (Cond.initialized "java/lang/System").before a0 Z = true)
    {a b : Addr} {k k' : ClassId} {ty : FieldType} {z z' sp dp nn : Int32} {vs vd us : List Value} {dv dd : Value} (A : Arv Z h a k ty z vs dv) (B : Arv Z h b k' ty z' vd dd) (hty : refKind ty = false) (h1 : ¬ sp < 0) (h2 : ¬ dp < 0) (h3 : ¬ nn < 0) (h4 : sp.toNatClampNeg + nn.toNatClampNeg ≤ z.toNatClampNeg) (h5 : dp.toNatClampNeg + nn.toNatClampNeg ≤ z'.toNatClampNeg)
    (hus : vd.take dp.toNatClampNeg ++ ((List.range nn.toNatClampNeg).map fun i => vs.getD (sp.toNatClampNeg + i) dv) ++ vd.drop (dp.toNatClampNeg + nn.toNatClampNeg) = us) (hl : dp.toNatClampNeg + nn.toNatClampNeg ≤ vd.length) (hb' : b ∈ M) (hd : decode bytes pc = .ok (.invokestatic index, 3)) (hp : pc + 3 = pc') (hsz : Ls.size = ml) (hf : 1 ≤ R.frames) {Wd : Nat} (hwd : (S.map fun v => v.category).sum = Wd) (hlo : Wd + (nativeFrameWords "java/lang/System" "arraycopy" 5 + 11) ≤ R.locals)
    (g : ∀ T' h', W l Z a0 EL nw own bytes ml ret R κ T' h' M cells slots → Keep h h' [b] → Arv Z h' b k' ty z' us dd → Go Z EL nw R κ Q (T'.setTop (mkF (km κ) pc' Ls S))) : Go Z EL nw R κ Q (T.setTop (mkF (km κ) pc Ls (.int nn :: .int dp :: .ref b :: .int sp :: .ref a :: S))) := by
  subst hp hus
  refine w.kept (ws := [b]) (fun x hx => by rw [List.mem_singleton.mp hx]; exact hb') (G := mkF (km κ) (pc + 3) Ls S) (P := fun h' => Arv Z h' b k' ty z' _ dd) (fun s locs hx hby hml hZ hown eT N X => ?_) g
  obtain ⟨T', h', L, X', e', N', K, A', st⟩ := RoadKit.cpA X hx hZ hown w1 w2 w3 w4 eT A B (Or.inl ⟨rfl, hty⟩) h1 h2 h3 h4 h5 rfl hl N (w.mut hb').1 (g := mkF (km κ) pc Ls (.int nn :: .int dp :: .ref b :: .int sp :: .ref a :: S)) rfl (hsz.trans hml.symm) rfl (hb hby hd) hf (W := Wd) (by rw [mr0]; omega) hlo
  exact ⟨T', h', L, X', e', N', K, A', st⟩
theorem W.copyN (w : W l Z a0 EL nw own bytes ml ret R κ T h M cells slots) {index : Nat} (w1 : (Cond.methodLink own index Jvm.Stand.acN).before a0 Z = true) (w2 : (Cond.native Jvm.Stand.acN).before a0 Z = true) (w3 : (Cond.static Jvm.Stand.acN).before a0 Z = true) (w4 : (Cond.initialized "java/lang/System").before a0 Z = true)
    {a b : Addr} {k k' : ClassId} {ty : FieldType} {z z' sp dp nn : Int32} {vs vd us : List Value} {dv dd : Value} (A : Arv Z h a k ty z vs dv) (B : Arv Z h b k' ty z' vd dd) (hty : refKind ty = false) {a' b' n' L1 L2 : Nat} (h1 : ¬ sp < 0 ∧ sp.toNatClampNeg = a') (h2 : ¬ dp < 0 ∧ dp.toNatClampNeg = b') (h3 : ¬ nn < 0 ∧ nn.toNatClampNeg = n') (hz : z.toNatClampNeg = L1) (hz' : z'.toNatClampNeg = L2) (h4 : a' + n' ≤ L1) (h5 : b' + n' ≤ L2)
    (hus : vd.take b' ++ ((List.range n').map fun i => vs.getD (a' + i) dv) ++ vd.drop (b' + n') = us) (hl : b' + n' ≤ vd.length) (hb' : b ∈ M) (hd : decode bytes pc = .ok (.invokestatic index, 3)) (hp : pc + 3 = pc') (hsz : Ls.size = ml) (hf : 1 ≤ R.frames) {Wd : Nat} (hwd : (S.map fun v => v.category).sum = Wd) (hlo : Wd + 18 ≤ R.locals)
    (g : ∀ T' h', W l Z a0 EL nw own bytes ml ret R κ T' h' M cells slots → Keep h h' [b] → Arv Z h' b k' ty z' us dd → Go Z EL nw R κ Q (T'.setTop (mkF (km κ) pc' Ls S))) : Go Z EL nw R κ Q (T.setTop (mkF (km κ) pc Ls (.int nn :: .int dp :: .ref b :: .int sp :: .ref a :: S))) := by
  obtain ⟨g1, rfl⟩ := h1
  obtain ⟨g2, rfl⟩ := h2
  obtain ⟨g3, rfl⟩ := h3
  subst hz hz'
  exact w.copy w1 w2 w3 w4 A B hty g1 g2 g3 h4 h5 hus hl hb' hd hp hsz hf hwd (by have e : nativeFrameWords "java/lang/System" "arraycopy" 5 = 7 := (by decide); omega) g
theorem W.clone (w : W l Z a0 EL nw own bytes ml ret R κ T h M cells slots) {index : Nat} {ad : String} (w1 : (Cond.methodLink own index ⟨ad, "clone", "()Ljava/lang/Object;"⟩).before a0 Z = true) (w2 : (Cond.sameMethod ad "java/lang/Object" "clone" "()Ljava/lang/Object;").before a0 Z = true) (w3 : (Cond.native ⟨"java/lang/Object", "clone", "()Ljava/lang/Object;"⟩).before a0 Z = true)
    (w4 : (Cond.instanceMethod ⟨"java/lang/Object", "clone", "()Ljava/lang/Object;"⟩).before a0 Z = true) (w5 : (Cond.selects ad ⟨ad, "clone", "()Ljava/lang/Object;"⟩ ⟨"java/lang/Object", "clone", "()Ljava/lang/Object;"⟩).before a0 Z = true) (w6 : (Cond.castable ad "java/lang/Cloneable").before a0 Z = true)
    {a : Addr} {k : ClassId} {ty : FieldType} {z : Int32} {vs : List Value} {dv : Value} (F : Arv Z h a k ty z vs dv) (E : Exa Z h a ad) (hd : decode bytes pc = .ok (.invokevirtual index, 3)) (hp : pc + 3 = pc') (hsz : Ls.size = ml) (hf : 1 ≤ R.frames) {Wd cap : Nat} (hwd : (S.map fun v => v.category).sum = Wd) (hlo : Wd + 14 ≤ R.locals) (hcap : z.toNatClampNeg ≤ cap) (hc : cells + 1 ≤ R.cells) (hs : slots + cap ≤ R.slots)
    (g : ∀ T' h' b, W l Z a0 EL nw own bytes ml ret R κ T' h' (b :: M) (cells + 1) (slots + cap) → Keep h h' [] → h.size ≤ b → Arv Z h' b k ty z vs dv → Exa Z h' b ad → Go Z EL nw R κ Q (T'.setTop (mkF (km κ) pc' Ls (.ref b :: S)))) : Go Z EL nw R κ Q (T.setTop (mkF (km κ) pc Ls (.ref a :: S))) := by
  subst hp
  refine w.made (k := 1) (n := cap) (P := fun h' => Arv Z h' h.size k ty z vs dv ∧ Exa Z h' h.size ad) (G := mkF (km κ) (pc + 3) Ls (.ref h.size :: S)) (fun s locs hx hby hml hZ hown eT X => ?_) (fun T' h' w' K hP => g T' h' _ w' K (Nat.le_refl _) hP.1 hP.2)
  obtain ⟨T', h', X', e', Ex, A, E', st⟩ := cloneH X hx hZ hown w1 w2 w3 w4 w5 w6 eT F.arh E (g := mkF (km κ) pc Ls (.ref a :: S)) rfl (hsz.trans hml.symm) rfl (hb hby hd) hf (W := Wd) (by rw [mr0]; omega) hlo hcap hc hs
  exact ⟨T', h', X', e', Ex, E'.lt, ⟨A, E'⟩, st⟩
theorem mN {M : List Addr} : ∀ x ∈ ([] : List Addr), x ∈ M := fun _ q => nomatch q
theorem mC {a : Addr} {L M : List Addr} (q : a ∈ M) (r : ∀ x ∈ L, x ∈ M) : ∀ x ∈ a :: L, x ∈ M := fun x z => (List.mem_cons.mp z).elim (fun u => u ▸ q) (r x)
end Heap1
section Pure
variable {l : Launch} {Z : State} {a0 : Array Value} {EL : List (String × Nat)} {nw : Bool} {own : String} {bytes : ByteArray} {ml : Nat} {ret : Option FieldType} {R : Room} {κ : Ka} {T : State} {h : Heap} {M : List Addr} {cells slots : Nat} {Q : Option Value → Heap → List Addr → Prop} {pc pc' : Nat} {Ls Ls' : Array Slot} {S : List Value}
theorem W.iloadN (w : W l Z a0 EL nw own bytes ml ret R κ T h M cells slots) {k : Fin 4} {v : Int32} (hd : decode bytes pc = .ok (.iload_n k, 1)) (hp : pc + 1 = pc') (hl : Ls[k.val]? = some (.val (.int v)))
    (g : Go Z EL nw R κ Q (T.setTop (mkF (km κ) pc' Ls (.int v :: S)))) : Go Z EL nw R κ Q (T.setTop (mkF (km κ) pc Ls (S))) := by
  subst hp
  exact w.pure (fun hx hby H t k => XS.iloadN H hx rfl (g := mkF (km κ) pc Ls (S)) (hb hby hd) hl k) g
theorem W.iload (w : W l Z a0 EL nw own bytes ml ret R κ T h M cells slots) {k : Nat} {v : Int32} (hd : decode bytes pc = .ok (.iload k, 2)) (hp : pc + 2 = pc') (hl : Ls[k]? = some (.val (.int v)))
    (g : Go Z EL nw R κ Q (T.setTop (mkF (km κ) pc' Ls (.int v :: S)))) : Go Z EL nw R κ Q (T.setTop (mkF (km κ) pc Ls (S))) := by
  subst hp
  exact w.pure (fun hx hby H t k => XS.iload H hx rfl (g := mkF (km κ) pc Ls (S)) (hb hby hd) hl k) g
theorem W.lloadN (w : W l Z a0 EL nw own bytes ml ret R κ T h M cells slots) {k : Fin 4} {v : Int64} (hd : decode bytes pc = .ok (.lload_n k, 1)) (hp : pc + 1 = pc') (hl : Ls[k.val]? = some (.val (.long v)))
    (g : Go Z EL nw R κ Q (T.setTop (mkF (km κ) pc' Ls (.long v :: S)))) : Go Z EL nw R κ Q (T.setTop (mkF (km κ) pc Ls (S))) := by
  subst hp
  exact w.pure (fun hx hby H t k => XT.lloadN H hx rfl (g := mkF (km κ) pc Ls (S)) (hb hby hd) hl k) g
theorem W.lload (w : W l Z a0 EL nw own bytes ml ret R κ T h M cells slots) {k : Nat} {v : Int64} (hd : decode bytes pc = .ok (.lload k, 2)) (hp : pc + 2 = pc') (hl : Ls[k]? = some (.val (.long v)))
    (g : Go Z EL nw R κ Q (T.setTop (mkF (km κ) pc' Ls (.long v :: S)))) : Go Z EL nw R κ Q (T.setTop (mkF (km κ) pc Ls (S))) := by
  subst hp
  exact w.pure (fun hx hby H t k => XT.lload H hx rfl (g := mkF (km κ) pc Ls (S)) (hb hby hd) hl k) g
theorem W.aloadN (w : W l Z a0 EL nw own bytes ml ret R κ T h M cells slots) {k : Fin 4} {v : Value} (hd : decode bytes pc = .ok (.aload_n k, 1)) (hp : pc + 1 = pc') (hl : Ls[k.val]? = some (.val v)) (hv : v.isRef = true)
    (g : Go Z EL nw R κ Q (T.setTop (mkF (km κ) pc' Ls (v :: S)))) : Go Z EL nw R κ Q (T.setTop (mkF (km κ) pc Ls (S))) := by
  subst hp
  exact w.pure (fun hx hby H t k => XS.aloadN H hx rfl (g := mkF (km κ) pc Ls (S)) (hb hby hd) hl hv k) g
theorem W.aload (w : W l Z a0 EL nw own bytes ml ret R κ T h M cells slots) {k : Nat} {v : Value} (hd : decode bytes pc = .ok (.aload k, 2)) (hp : pc + 2 = pc') (hl : Ls[k]? = some (.val v)) (hv : v.isRef = true)
    (g : Go Z EL nw R κ Q (T.setTop (mkF (km κ) pc' Ls (v :: S)))) : Go Z EL nw R κ Q (T.setTop (mkF (km κ) pc Ls (S))) := by
  subst hp
  exact w.pure (fun hx hby H t k => XS.aload H hx rfl (g := mkF (km κ) pc Ls (S)) (hb hby hd) hl hv k) g
theorem W.istoreN (w : W l Z a0 EL nw own bytes ml ret R κ T h M cells slots) {k : Fin 4} {x : Int32} (hd : decode bytes pc = .ok (.istore_n k, 1)) (hp : pc + 1 = pc') (hl : storeLocals Ls k.val (.int x) = some Ls')
    (g : Go Z EL nw R κ Q (T.setTop (mkF (km κ) pc' Ls' (S)))) : Go Z EL nw R κ Q (T.setTop (mkF (km κ) pc Ls (.int x :: S))) := by
  subst hp
  exact w.pure (fun hx hby H t k => XS.istoreN H hx rfl (g := mkF (km κ) pc Ls (.int x :: S)) (hb hby hd) rfl hl k) g
theorem W.istore (w : W l Z a0 EL nw own bytes ml ret R κ T h M cells slots) {k : Nat} {x : Int32} (hd : decode bytes pc = .ok (.istore k, 2)) (hp : pc + 2 = pc') (hl : storeLocals Ls k (.int x) = some Ls')
    (g : Go Z EL nw R κ Q (T.setTop (mkF (km κ) pc' Ls' (S)))) : Go Z EL nw R κ Q (T.setTop (mkF (km κ) pc Ls (.int x :: S))) := by
  subst hp
  exact w.pure (fun hx hby H t k => XS.istore H hx rfl (g := mkF (km κ) pc Ls (.int x :: S)) (hb hby hd) rfl hl k) g
theorem W.lstoreN (w : W l Z a0 EL nw own bytes ml ret R κ T h M cells slots) {k : Fin 4} {x : Int64} (hd : decode bytes pc = .ok (.lstore_n k, 1)) (hp : pc + 1 = pc') (hl : storeLocals Ls k.val (.long x) = some Ls')
    (g : Go Z EL nw R κ Q (T.setTop (mkF (km κ) pc' Ls' (S)))) : Go Z EL nw R κ Q (T.setTop (mkF (km κ) pc Ls (.long x :: S))) := by
  subst hp
  exact w.pure (fun hx hby H t k => XT.lstoreN H hx rfl (g := mkF (km κ) pc Ls (.long x :: S)) (hb hby hd) rfl hl k) g
theorem W.lstore (w : W l Z a0 EL nw own bytes ml ret R κ T h M cells slots) {k : Nat} {x : Int64} (hd : decode bytes pc = .ok (.lstore k, 2)) (hp : pc + 2 = pc') (hl : storeLocals Ls k (.long x) = some Ls')
    (g : Go Z EL nw R κ Q (T.setTop (mkF (km κ) pc' Ls' (S)))) : Go Z EL nw R κ Q (T.setTop (mkF (km κ) pc Ls (.long x :: S))) := by
  subst hp
  exact w.pure (fun hx hby H t k => XT.lstore H hx rfl (g := mkF (km κ) pc Ls (.long x :: S)) (hb hby hd) rfl hl k) g
theorem W.astoreN (w : W l Z a0 EL nw own bytes ml ret R κ T h M cells slots) {k : Fin 4} {x : Value} (hd : decode bytes pc = .ok (.astore_n k, 1)) (hp : pc + 1 = pc') (hv : x.isRef = true) (hl : storeLocals Ls k.val x = some Ls')
    (g : Go Z EL nw R κ Q (T.setTop (mkF (km κ) pc' Ls' (S)))) : Go Z EL nw R κ Q (T.setTop (mkF (km κ) pc Ls (x :: S))) := by
  subst hp
  exact w.pure (fun hx hby H t k => XS.astoreN H hx rfl (g := mkF (km κ) pc Ls (x :: S)) (hb hby hd) rfl hv hl k) g
theorem W.astore (w : W l Z a0 EL nw own bytes ml ret R κ T h M cells slots) {k : Nat} {x : Value} (hd : decode bytes pc = .ok (.astore k, 2)) (hp : pc + 2 = pc') (hv : x.isRef = true) (hl : storeLocals Ls k x = some Ls')
    (g : Go Z EL nw R κ Q (T.setTop (mkF (km κ) pc' Ls' (S)))) : Go Z EL nw R κ Q (T.setTop (mkF (km κ) pc Ls (x :: S))) := by
  subst hp
  exact w.pure (fun hx hby H t k => XS.astore H hx rfl (g := mkF (km κ) pc Ls (x :: S)) (hb hby hd) rfl hv hl k) g
theorem W.iinc (w : W l Z a0 EL nw own bytes ml ret R κ T h M cells slots) {k : Nat} {cst : Int} {x : Int32} (hd : decode bytes pc = .ok (.iinc k cst, 3)) (hp : pc + 3 = pc') {z : Int32} (hz : x + Int32.ofInt cst = z) (hl : Ls[k]? = some (.val (.int x))) (hl' : storeLocals Ls k (.int z) = some Ls')
    (g : Go Z EL nw R κ Q (T.setTop (mkF (km κ) pc' Ls' (S)))) : Go Z EL nw R κ Q (T.setTop (mkF (km κ) pc Ls (S))) := by
  subst hp hz
  exact w.pure (fun hx hby H t k => XS.iinc H hx rfl (g := mkF (km κ) pc Ls (S)) (hb hby hd) hl hl' k) g
theorem W.iconst (w : W l Z a0 EL nw own bytes ml ret R κ T h M cells slots) {i : Int} (hd : decode bytes pc = .ok (.iconst i, 1)) (hp : pc + 1 = pc') {z : Int32} (hz : Int32.ofInt i = z)
    (g : Go Z EL nw R κ Q (T.setTop (mkF (km κ) pc' Ls (.int z :: S)))) : Go Z EL nw R κ Q (T.setTop (mkF (km κ) pc Ls (S))) := by
  subst hp hz
  exact w.pure (fun hx hby H t k => XS.iconst H hx rfl (g := mkF (km κ) pc Ls (S)) (hb hby hd)  k) g
theorem W.bipush (w : W l Z a0 EL nw own bytes ml ret R κ T h M cells slots) {i : Int} (hd : decode bytes pc = .ok (.bipush i, 2)) (hp : pc + 2 = pc') {z : Int32} (hz : (Int8.ofInt i).toInt32 = z)
    (g : Go Z EL nw R κ Q (T.setTop (mkF (km κ) pc' Ls (.int z :: S)))) : Go Z EL nw R κ Q (T.setTop (mkF (km κ) pc Ls (S))) := by
  subst hp hz
  exact w.pure (fun hx hby H t k => XS.bipush H hx rfl (g := mkF (km κ) pc Ls (S)) (hb hby hd)  k) g
theorem W.sipush (w : W l Z a0 EL nw own bytes ml ret R κ T h M cells slots) {i : Int} (hd : decode bytes pc = .ok (.sipush i, 3)) (hp : pc + 3 = pc') {z : Int32} (hz : (Int16.ofInt i).toInt32 = z)
    (g : Go Z EL nw R κ Q (T.setTop (mkF (km κ) pc' Ls (.int z :: S)))) : Go Z EL nw R κ Q (T.setTop (mkF (km κ) pc Ls (S))) := by
  subst hp hz
  exact w.pure (fun hx hby H t k => XS.sipush H hx rfl (g := mkF (km κ) pc Ls (S)) (hb hby hd)  k) g
theorem W.lconst (w : W l Z a0 EL nw own bytes ml ret R κ T h M cells slots) {k : Fin 2} (hd : decode bytes pc = .ok (.lconst k, 1)) (hp : pc + 1 = pc') {z : Int64} (hz : Int64.ofNat k = z)
    (g : Go Z EL nw R κ Q (T.setTop (mkF (km κ) pc' Ls (.long z :: S)))) : Go Z EL nw R κ Q (T.setTop (mkF (km κ) pc Ls (S))) := by
  subst hp hz
  exact w.pure (fun hx hby H t k => XT.lconst H hx rfl (g := mkF (km κ) pc Ls (S)) (hb hby hd)  k) g
theorem W.aconstNull (w : W l Z a0 EL nw own bytes ml ret R κ T h M cells slots)  (hd : decode bytes pc = .ok (.aconst_null, 1)) (hp : pc + 1 = pc')
    (g : Go Z EL nw R κ Q (T.setTop (mkF (km κ) pc' Ls (.null :: S)))) : Go Z EL nw R κ Q (T.setTop (mkF (km κ) pc Ls (S))) := by
  subst hp
  exact w.pure (fun hx hby H t k => XS.aconstNull H hx rfl (g := mkF (km κ) pc Ls (S)) (hb hby hd)  k) g
theorem W.iadd (w : W l Z a0 EL nw own bytes ml ret R κ T h M cells slots) {x y : Int32} (hd : decode bytes pc = .ok (.iadd, 1)) (hp : pc + 1 = pc') {z : Int32} (hz : x + y = z)
    (g : Go Z EL nw R κ Q (T.setTop (mkF (km κ) pc' Ls (.int z :: S)))) : Go Z EL nw R κ Q (T.setTop (mkF (km κ) pc Ls (.int y :: .int x :: S))) := by
  subst hp hz
  exact w.pure (fun hx hby H t k => XS.iadd H hx rfl (g := mkF (km κ) pc Ls (.int y :: .int x :: S)) (hb hby hd) rfl k) g
theorem W.isub (w : W l Z a0 EL nw own bytes ml ret R κ T h M cells slots) {x y : Int32} (hd : decode bytes pc = .ok (.isub, 1)) (hp : pc + 1 = pc') {z : Int32} (hz : x - y = z)
    (g : Go Z EL nw R κ Q (T.setTop (mkF (km κ) pc' Ls (.int z :: S)))) : Go Z EL nw R κ Q (T.setTop (mkF (km κ) pc Ls (.int y :: .int x :: S))) := by
  subst hp hz
  exact w.pure (fun hx hby H t k => XS.isub H hx rfl (g := mkF (km κ) pc Ls (.int y :: .int x :: S)) (hb hby hd) rfl k) g
theorem W.imul (w : W l Z a0 EL nw own bytes ml ret R κ T h M cells slots) {x y : Int32} (hd : decode bytes pc = .ok (.imul, 1)) (hp : pc + 1 = pc') {z : Int32} (hz : x * y = z)
    (g : Go Z EL nw R κ Q (T.setTop (mkF (km κ) pc' Ls (.int z :: S)))) : Go Z EL nw R κ Q (T.setTop (mkF (km κ) pc Ls (.int y :: .int x :: S))) := by
  subst hp hz
  exact w.pure (fun hx hby H t k => XS.imul H hx rfl (g := mkF (km κ) pc Ls (.int y :: .int x :: S)) (hb hby hd) rfl k) g
theorem W.iand (w : W l Z a0 EL nw own bytes ml ret R κ T h M cells slots) {x y : Int32} (hd : decode bytes pc = .ok (.iand, 1)) (hp : pc + 1 = pc') {z : Int32} (hz : x &&& y = z)
    (g : Go Z EL nw R κ Q (T.setTop (mkF (km κ) pc' Ls (.int z :: S)))) : Go Z EL nw R κ Q (T.setTop (mkF (km κ) pc Ls (.int y :: .int x :: S))) := by
  subst hp hz
  exact w.pure (fun hx hby H t k => XS.iand H hx rfl (g := mkF (km κ) pc Ls (.int y :: .int x :: S)) (hb hby hd) rfl k) g
theorem W.ior (w : W l Z a0 EL nw own bytes ml ret R κ T h M cells slots) {x y : Int32} (hd : decode bytes pc = .ok (.ior, 1)) (hp : pc + 1 = pc') {z : Int32} (hz : x ||| y = z)
    (g : Go Z EL nw R κ Q (T.setTop (mkF (km κ) pc' Ls (.int z :: S)))) : Go Z EL nw R κ Q (T.setTop (mkF (km κ) pc Ls (.int y :: .int x :: S))) := by
  subst hp hz
  exact w.pure (fun hx hby H t k => XT.ior H hx rfl (g := mkF (km κ) pc Ls (.int y :: .int x :: S)) (hb hby hd) rfl k) g
theorem W.ixor (w : W l Z a0 EL nw own bytes ml ret R κ T h M cells slots) {x y : Int32} (hd : decode bytes pc = .ok (.ixor, 1)) (hp : pc + 1 = pc') {z : Int32} (hz : x ^^^ y = z)
    (g : Go Z EL nw R κ Q (T.setTop (mkF (km κ) pc' Ls (.int z :: S)))) : Go Z EL nw R κ Q (T.setTop (mkF (km κ) pc Ls (.int y :: .int x :: S))) := by
  subst hp hz
  exact w.pure (fun hx hby H t k => XT.ixor H hx rfl (g := mkF (km κ) pc Ls (.int y :: .int x :: S)) (hb hby hd) rfl k) g
theorem W.ishl (w : W l Z a0 EL nw own bytes ml ret R κ T h M cells slots) {x y : Int32} (hd : decode bytes pc = .ok (.ishl, 1)) (hp : pc + 1 = pc') {z : Int32} (hz : x <<< (y &&& 31) = z)
    (g : Go Z EL nw R κ Q (T.setTop (mkF (km κ) pc' Ls (.int z :: S)))) : Go Z EL nw R κ Q (T.setTop (mkF (km κ) pc Ls (.int y :: .int x :: S))) := by
  subst hp hz
  exact w.pure (fun hx hby H t k => XT.ishl H hx rfl (g := mkF (km κ) pc Ls (.int y :: .int x :: S)) (hb hby hd) rfl k) g
theorem W.ishr (w : W l Z a0 EL nw own bytes ml ret R κ T h M cells slots) {x y : Int32} (hd : decode bytes pc = .ok (.ishr, 1)) (hp : pc + 1 = pc') {z : Int32} (hz : x >>> (y &&& 31) = z)
    (g : Go Z EL nw R κ Q (T.setTop (mkF (km κ) pc' Ls (.int z :: S)))) : Go Z EL nw R κ Q (T.setTop (mkF (km κ) pc Ls (.int y :: .int x :: S))) := by
  subst hp hz
  exact w.pure (fun hx hby H t k => XT.ishr H hx rfl (g := mkF (km κ) pc Ls (.int y :: .int x :: S)) (hb hby hd) rfl k) g
theorem W.iushr (w : W l Z a0 EL nw own bytes ml ret R κ T h M cells slots) {x y : Int32} (hd : decode bytes pc = .ok (.iushr, 1)) (hp : pc + 1 = pc') {z : Int32} (hz : XT.ushr x y = z)
    (g : Go Z EL nw R κ Q (T.setTop (mkF (km κ) pc' Ls (.int z :: S)))) : Go Z EL nw R κ Q (T.setTop (mkF (km κ) pc Ls (.int y :: .int x :: S))) := by
  subst hp hz
  exact w.pure (fun hx hby H t k => XT.iushr H hx rfl (g := mkF (km κ) pc Ls (.int y :: .int x :: S)) (hb hby hd) rfl k) g
theorem W.ladd (w : W l Z a0 EL nw own bytes ml ret R κ T h M cells slots) {x y : Int64} (hd : decode bytes pc = .ok (.ladd, 1)) (hp : pc + 1 = pc') {z : Int64} (hz : x + y = z)
    (g : Go Z EL nw R κ Q (T.setTop (mkF (km κ) pc' Ls (.long z :: S)))) : Go Z EL nw R κ Q (T.setTop (mkF (km κ) pc Ls (.long y :: .long x :: S))) := by
  subst hp hz
  exact w.pure (fun hx hby H t k => XT.ladd H hx rfl (g := mkF (km κ) pc Ls (.long y :: .long x :: S)) (hb hby hd) rfl k) g
theorem W.lsub (w : W l Z a0 EL nw own bytes ml ret R κ T h M cells slots) {x y : Int64} (hd : decode bytes pc = .ok (.lsub, 1)) (hp : pc + 1 = pc') {z : Int64} (hz : x - y = z)
    (g : Go Z EL nw R κ Q (T.setTop (mkF (km κ) pc' Ls (.long z :: S)))) : Go Z EL nw R κ Q (T.setTop (mkF (km κ) pc Ls (.long y :: .long x :: S))) := by
  subst hp hz
  exact w.pure (fun hx hby H t k => XT.lsub H hx rfl (g := mkF (km κ) pc Ls (.long y :: .long x :: S)) (hb hby hd) rfl k) g
theorem W.lmul (w : W l Z a0 EL nw own bytes ml ret R κ T h M cells slots) {x y : Int64} (hd : decode bytes pc = .ok (.lmul, 1)) (hp : pc + 1 = pc') {z : Int64} (hz : x * y = z)
    (g : Go Z EL nw R κ Q (T.setTop (mkF (km κ) pc' Ls (.long z :: S)))) : Go Z EL nw R κ Q (T.setTop (mkF (km κ) pc Ls (.long y :: .long x :: S))) := by
  subst hp hz
  exact w.pure (fun hx hby H t k => XT.lmul H hx rfl (g := mkF (km κ) pc Ls (.long y :: .long x :: S)) (hb hby hd) rfl k) g
theorem W.land (w : W l Z a0 EL nw own bytes ml ret R κ T h M cells slots) {x y : Int64} (hd : decode bytes pc = .ok (.land, 1)) (hp : pc + 1 = pc') {z : Int64} (hz : x &&& y = z)
    (g : Go Z EL nw R κ Q (T.setTop (mkF (km κ) pc' Ls (.long z :: S)))) : Go Z EL nw R κ Q (T.setTop (mkF (km κ) pc Ls (.long y :: .long x :: S))) := by
  subst hp hz
  exact w.pure (fun hx hby H t k => XT.land H hx rfl (g := mkF (km κ) pc Ls (.long y :: .long x :: S)) (hb hby hd) rfl k) g
theorem W.lor (w : W l Z a0 EL nw own bytes ml ret R κ T h M cells slots) {x y : Int64} (hd : decode bytes pc = .ok (.lor, 1)) (hp : pc + 1 = pc') {z : Int64} (hz : x ||| y = z)
    (g : Go Z EL nw R κ Q (T.setTop (mkF (km κ) pc' Ls (.long z :: S)))) : Go Z EL nw R κ Q (T.setTop (mkF (km κ) pc Ls (.long y :: .long x :: S))) := by
  subst hp hz
  exact w.pure (fun hx hby H t k => XT.lor H hx rfl (g := mkF (km κ) pc Ls (.long y :: .long x :: S)) (hb hby hd) rfl k) g
theorem W.lxor (w : W l Z a0 EL nw own bytes ml ret R κ T h M cells slots) {x y : Int64} (hd : decode bytes pc = .ok (.lxor, 1)) (hp : pc + 1 = pc') {z : Int64} (hz : x ^^^ y = z)
    (g : Go Z EL nw R κ Q (T.setTop (mkF (km κ) pc' Ls (.long z :: S)))) : Go Z EL nw R κ Q (T.setTop (mkF (km κ) pc Ls (.long y :: .long x :: S))) := by
  subst hp hz
  exact w.pure (fun hx hby H t k => XT.lxor H hx rfl (g := mkF (km κ) pc Ls (.long y :: .long x :: S)) (hb hby hd) rfl k) g
theorem W.lshl (w : W l Z a0 EL nw own bytes ml ret R κ T h M cells slots) {x : Int64} {y : Int32} (hd : decode bytes pc = .ok (.lshl, 1)) (hp : pc + 1 = pc') {z : Int64} (hz : x <<< (y.toInt64 &&& 63) = z)
    (g : Go Z EL nw R κ Q (T.setTop (mkF (km κ) pc' Ls (.long z :: S)))) : Go Z EL nw R κ Q (T.setTop (mkF (km κ) pc Ls (.int y :: .long x :: S))) := by
  subst hp hz
  exact w.pure (fun hx hby H t k => XT.lshl H hx rfl (g := mkF (km κ) pc Ls (.int y :: .long x :: S)) (hb hby hd) rfl k) g
theorem W.lshr (w : W l Z a0 EL nw own bytes ml ret R κ T h M cells slots) {x : Int64} {y : Int32} (hd : decode bytes pc = .ok (.lshr, 1)) (hp : pc + 1 = pc') {z : Int64} (hz : x >>> (y.toInt64 &&& 63) = z)
    (g : Go Z EL nw R κ Q (T.setTop (mkF (km κ) pc' Ls (.long z :: S)))) : Go Z EL nw R κ Q (T.setTop (mkF (km κ) pc Ls (.int y :: .long x :: S))) := by
  subst hp hz
  exact w.pure (fun hx hby H t k => XT.lshr H hx rfl (g := mkF (km κ) pc Ls (.int y :: .long x :: S)) (hb hby hd) rfl k) g
theorem W.lushr (w : W l Z a0 EL nw own bytes ml ret R κ T h M cells slots) {x : Int64} {y : Int32} (hd : decode bytes pc = .ok (.lushr, 1)) (hp : pc + 1 = pc') {z : Int64} (hz : XT.ushrL x y = z)
    (g : Go Z EL nw R κ Q (T.setTop (mkF (km κ) pc' Ls (.long z :: S)))) : Go Z EL nw R κ Q (T.setTop (mkF (km κ) pc Ls (.int y :: .long x :: S))) := by
  subst hp hz
  exact w.pure (fun hx hby H t k => XT.lushr H hx rfl (g := mkF (km κ) pc Ls (.int y :: .long x :: S)) (hb hby hd) rfl k) g
theorem W.idiv (w : W l Z a0 EL nw own bytes ml ret R κ T h M cells slots) {x y : Int32} (hd : decode bytes pc = .ok (.idiv, 1)) (hp : pc + 1 = pc') {z : Int32} (hz : x / y = z) (hy : y ≠ 0)
    (g : Go Z EL nw R κ Q (T.setTop (mkF (km κ) pc' Ls (.int z :: S)))) : Go Z EL nw R κ Q (T.setTop (mkF (km κ) pc Ls (.int y :: .int x :: S))) := by
  subst hp hz
  exact w.pure (fun hx hby H t k => XS.idiv H hx rfl (g := mkF (km κ) pc Ls (.int y :: .int x :: S)) (hb hby hd) rfl hy k) g
theorem W.irem (w : W l Z a0 EL nw own bytes ml ret R κ T h M cells slots) {x y : Int32} (hd : decode bytes pc = .ok (.irem, 1)) (hp : pc + 1 = pc') {z : Int32} (hz : x - (x / y) * y = z) (hy : y ≠ 0)
    (g : Go Z EL nw R κ Q (T.setTop (mkF (km κ) pc' Ls (.int z :: S)))) : Go Z EL nw R κ Q (T.setTop (mkF (km κ) pc Ls (.int y :: .int x :: S))) := by
  subst hp hz
  exact w.pure (fun hx hby H t k => XS.irem H hx rfl (g := mkF (km κ) pc Ls (.int y :: .int x :: S)) (hb hby hd) rfl hy k) g
theorem W.ldiv (w : W l Z a0 EL nw own bytes ml ret R κ T h M cells slots) {x y : Int64} (hd : decode bytes pc = .ok (.ldiv, 1)) (hp : pc + 1 = pc') {z : Int64} (hz : x / y = z) (hy : y ≠ 0)
    (g : Go Z EL nw R κ Q (T.setTop (mkF (km κ) pc' Ls (.long z :: S)))) : Go Z EL nw R κ Q (T.setTop (mkF (km κ) pc Ls (.long y :: .long x :: S))) := by
  subst hp hz
  exact w.pure (fun hx hby H t k => XT.ldiv H hx rfl (g := mkF (km κ) pc Ls (.long y :: .long x :: S)) (hb hby hd) rfl hy k) g
theorem W.lrem (w : W l Z a0 EL nw own bytes ml ret R κ T h M cells slots) {x y : Int64} (hd : decode bytes pc = .ok (.lrem, 1)) (hp : pc + 1 = pc') {z : Int64} (hz : x - (x / y) * y = z) (hy : y ≠ 0)
    (g : Go Z EL nw R κ Q (T.setTop (mkF (km κ) pc' Ls (.long z :: S)))) : Go Z EL nw R κ Q (T.setTop (mkF (km κ) pc Ls (.long y :: .long x :: S))) := by
  subst hp hz
  exact w.pure (fun hx hby H t k => XT.lrem H hx rfl (g := mkF (km κ) pc Ls (.long y :: .long x :: S)) (hb hby hd) rfl hy k) g
theorem W.ineg (w : W l Z a0 EL nw own bytes ml ret R κ T h M cells slots) {x : Int32} (hd : decode bytes pc = .ok (.ineg, 1)) (hp : pc + 1 = pc') {z : Int32} (hz : -x = z)
    (g : Go Z EL nw R κ Q (T.setTop (mkF (km κ) pc' Ls (.int z :: S)))) : Go Z EL nw R κ Q (T.setTop (mkF (km κ) pc Ls (.int x :: S))) := by
  subst hp hz
  exact w.pure (fun hx hby H t k => XS.ineg H hx rfl (g := mkF (km κ) pc Ls (.int x :: S)) (hb hby hd) rfl k) g
theorem W.lneg (w : W l Z a0 EL nw own bytes ml ret R κ T h M cells slots) {x : Int64} (hd : decode bytes pc = .ok (.lneg, 1)) (hp : pc + 1 = pc') {z : Int64} (hz : -x = z)
    (g : Go Z EL nw R κ Q (T.setTop (mkF (km κ) pc' Ls (.long z :: S)))) : Go Z EL nw R κ Q (T.setTop (mkF (km κ) pc Ls (.long x :: S))) := by
  subst hp hz
  exact w.pure (fun hx hby H t k => XT.lneg H hx rfl (g := mkF (km κ) pc Ls (.long x :: S)) (hb hby hd) rfl k) g
theorem W.i2l (w : W l Z a0 EL nw own bytes ml ret R κ T h M cells slots) {x : Int32} (hd : decode bytes pc = .ok (.i2l, 1)) (hp : pc + 1 = pc') {z : Int64} (hz : x.toInt64 = z)
    (g : Go Z EL nw R κ Q (T.setTop (mkF (km κ) pc' Ls (.long z :: S)))) : Go Z EL nw R κ Q (T.setTop (mkF (km κ) pc Ls (.int x :: S))) := by
  subst hp hz
  exact w.pure (fun hx hby H t k => XT.i2l H hx rfl (g := mkF (km κ) pc Ls (.int x :: S)) (hb hby hd) rfl k) g
theorem W.l2i (w : W l Z a0 EL nw own bytes ml ret R κ T h M cells slots) {x : Int64} (hd : decode bytes pc = .ok (.l2i, 1)) (hp : pc + 1 = pc') {z : Int32} (hz : x.toInt32 = z)
    (g : Go Z EL nw R κ Q (T.setTop (mkF (km κ) pc' Ls (.int z :: S)))) : Go Z EL nw R κ Q (T.setTop (mkF (km κ) pc Ls (.long x :: S))) := by
  subst hp hz
  exact w.pure (fun hx hby H t k => XT.l2i H hx rfl (g := mkF (km κ) pc Ls (.long x :: S)) (hb hby hd) rfl k) g
theorem W.i2b (w : W l Z a0 EL nw own bytes ml ret R κ T h M cells slots) {x : Int32} (hd : decode bytes pc = .ok (.i2b, 1)) (hp : pc + 1 = pc') {z : Int32} (hz : x.toInt8.toInt32 = z)
    (g : Go Z EL nw R κ Q (T.setTop (mkF (km κ) pc' Ls (.int z :: S)))) : Go Z EL nw R κ Q (T.setTop (mkF (km κ) pc Ls (.int x :: S))) := by
  subst hp hz
  exact w.pure (fun hx hby H t k => XT.i2b H hx rfl (g := mkF (km κ) pc Ls (.int x :: S)) (hb hby hd) rfl k) g
theorem W.i2c (w : W l Z a0 EL nw own bytes ml ret R κ T h M cells slots) {x : Int32} (hd : decode bytes pc = .ok (.i2c, 1)) (hp : pc + 1 = pc') {z : Int32} (hz : x.toUInt32.toUInt16.toUInt32.toInt32 = z)
    (g : Go Z EL nw R κ Q (T.setTop (mkF (km κ) pc' Ls (.int z :: S)))) : Go Z EL nw R κ Q (T.setTop (mkF (km κ) pc Ls (.int x :: S))) := by
  subst hp hz
  exact w.pure (fun hx hby H t k => XT.i2c H hx rfl (g := mkF (km κ) pc Ls (.int x :: S)) (hb hby hd) rfl k) g
theorem W.i2s (w : W l Z a0 EL nw own bytes ml ret R κ T h M cells slots) {x : Int32} (hd : decode bytes pc = .ok (.i2s, 1)) (hp : pc + 1 = pc') {z : Int32} (hz : x.toInt16.toInt32 = z)
    (g : Go Z EL nw R κ Q (T.setTop (mkF (km κ) pc' Ls (.int z :: S)))) : Go Z EL nw R κ Q (T.setTop (mkF (km κ) pc Ls (.int x :: S))) := by
  subst hp hz
  exact w.pure (fun hx hby H t k => XT.i2s H hx rfl (g := mkF (km κ) pc Ls (.int x :: S)) (hb hby hd) rfl k) g
theorem W.lcmp (w : W l Z a0 EL nw own bytes ml ret R κ T h M cells slots) {x y : Int64} (hd : decode bytes pc = .ok (.lcmp, 1)) (hp : pc + 1 = pc') {z : Int32} (hz : XT.cmpL x y = z)
    (g : Go Z EL nw R κ Q (T.setTop (mkF (km κ) pc' Ls (.int z :: S)))) : Go Z EL nw R κ Q (T.setTop (mkF (km κ) pc Ls (.long y :: .long x :: S))) := by
  subst hp hz
  exact w.pure (fun hx hby H t k => XT.lcmp H hx rfl (g := mkF (km κ) pc Ls (.long y :: .long x :: S)) (hb hby hd) rfl k) g
theorem W.dup (w : W l Z a0 EL nw own bytes ml ret R κ T h M cells slots) {x : Value} (hd : decode bytes pc = .ok (.dup, 1)) (hp : pc + 1 = pc') (hc : x.category = 1)
    (g : Go Z EL nw R κ Q (T.setTop (mkF (km κ) pc' Ls (x :: x :: S)))) : Go Z EL nw R κ Q (T.setTop (mkF (km κ) pc Ls (x :: S))) := by
  subst hp
  exact w.pure (fun hx hby H t k => XS.dup H hx rfl (g := mkF (km κ) pc Ls (x :: S)) (hb hby hd) rfl hc k) g
theorem W.pop (w : W l Z a0 EL nw own bytes ml ret R κ T h M cells slots) {x : Value} (hd : decode bytes pc = .ok (.pop, 1)) (hp : pc + 1 = pc') (hc : x.category = 1)
    (g : Go Z EL nw R κ Q (T.setTop (mkF (km κ) pc' Ls (S)))) : Go Z EL nw R κ Q (T.setTop (mkF (km κ) pc Ls (x :: S))) := by
  subst hp
  exact w.pure (fun hx hby H t k => XT.pop H hx rfl (g := mkF (km κ) pc Ls (x :: S)) (hb hby hd) rfl hc k) g
theorem W.dupX1 (w : W l Z a0 EL nw own bytes ml ret R κ T h M cells slots) {x y : Value} (hd : decode bytes pc = .ok (.dup_x1, 1)) (hp : pc + 1 = pc') (hc : x.category = 1) (hc' : y.category = 1)
    (g : Go Z EL nw R κ Q (T.setTop (mkF (km κ) pc' Ls (x :: y :: x :: S)))) : Go Z EL nw R κ Q (T.setTop (mkF (km κ) pc Ls (x :: y :: S))) := by
  subst hp
  exact w.pure (fun hx hby H t k => XT.dupX1 H hx rfl (g := mkF (km κ) pc Ls (x :: y :: S)) (hb hby hd) rfl hc hc' k) g
theorem W.dup2 (w : W l Z a0 EL nw own bytes ml ret R κ T h M cells slots) {x y : Value} (hd : decode bytes pc = .ok (.dup2, 1)) (hp : pc + 1 = pc') (hc : x.category = 1) (hc' : y.category = 1)
    (g : Go Z EL nw R κ Q (T.setTop (mkF (km κ) pc' Ls (x :: y :: x :: y :: S)))) : Go Z EL nw R κ Q (T.setTop (mkF (km κ) pc Ls (x :: y :: S))) := by
  subst hp
  exact w.pure (fun hx hby H t k => XT.dup2 H hx rfl (g := mkF (km κ) pc Ls (x :: y :: S)) (hb hby hd) rfl hc hc' k) g
theorem W.dup2L (w : W l Z a0 EL nw own bytes ml ret R κ T h M cells slots) {x : Int64} (hd : decode bytes pc = .ok (.dup2, 1)) (hp : pc + 1 = pc')
    (g : Go Z EL nw R κ Q (T.setTop (mkF (km κ) pc' Ls (.long x :: .long x :: S)))) : Go Z EL nw R κ Q (T.setTop (mkF (km κ) pc Ls (.long x :: S))) := by
  subst hp
  exact w.pure (fun hx hby H t k => XT.dup2L H hx rfl (g := mkF (km κ) pc Ls (.long x :: S)) (hb hby hd) rfl k) g
theorem W.goto (w : W l Z a0 EL nw own bytes ml ret R κ T h M cells slots) {o : Int} (hd : decode bytes pc = .ok (.goto o, 3)) (ho : 0 ≤ (pc : Int) + o) (hp : ((pc : Int) + o).toNat = pc')
    (g : Go Z EL nw R κ Q (T.setTop (mkF (km κ) pc' Ls (S)))) : Go Z EL nw R κ Q (T.setTop (mkF (km κ) pc Ls (S))) := by
  subst hp
  exact w.pure (fun hx hby H t k => XS.goto H hx rfl (g := mkF (km κ) pc Ls (S)) (pc0 := pc) rfl (hb hby hd) ho rfl k) g
theorem W.ifYes (w : W l Z a0 EL nw own bytes ml ret R κ T h M cells slots) {cd : ClassFile.Cond} {x : Int32} {o : Int} (hd : decode bytes pc = .ok (.ifCond cd o, 3)) (ho : 0 ≤ (pc : Int) + o) (hp : ((pc : Int) + o).toNat = pc') (hc : ifCond.holds cd x = true)
    (g : Go Z EL nw R κ Q (T.setTop (mkF (km κ) pc' Ls (S)))) : Go Z EL nw R κ Q (T.setTop (mkF (km κ) pc Ls (.int x :: S))) := by
  subst hp
  exact w.pure (fun hx hby H t k => XS.ifYes H hx rfl (g := mkF (km κ) pc Ls (.int x :: S)) (pc0 := pc) rfl (hb hby hd) rfl hc ho rfl k) g
theorem W.ifNo (w : W l Z a0 EL nw own bytes ml ret R κ T h M cells slots) {cd : ClassFile.Cond} {x : Int32} {o : Int} (hd : decode bytes pc = .ok (.ifCond cd o, 3)) (hp : pc + 3 = pc') (hc : ifCond.holds cd x = false)
    (g : Go Z EL nw R κ Q (T.setTop (mkF (km κ) pc' Ls (S)))) : Go Z EL nw R κ Q (T.setTop (mkF (km κ) pc Ls (.int x :: S))) := by
  subst hp
  exact w.pure (fun hx hby H t k => XS.ifNo H hx rfl (g := mkF (km κ) pc Ls (.int x :: S)) (hb hby hd) rfl hc k) g
theorem W.icmpYes (w : W l Z a0 EL nw own bytes ml ret R κ T h M cells slots) {cd : ClassFile.Cond} {x y : Int32} {o : Int} (hd : decode bytes pc = .ok (.if_icmp cd o, 3)) (ho : 0 ≤ (pc : Int) + o) (hp : ((pc : Int) + o).toNat = pc') (hc : if_icmp.holds cd x y = true)
    (g : Go Z EL nw R κ Q (T.setTop (mkF (km κ) pc' Ls (S)))) : Go Z EL nw R κ Q (T.setTop (mkF (km κ) pc Ls (.int y :: .int x :: S))) := by
  subst hp
  exact w.pure (fun hx hby H t k => XS.icmpYes H hx rfl (g := mkF (km κ) pc Ls (.int y :: .int x :: S)) (pc0 := pc) rfl (hb hby hd) rfl hc ho rfl k) g
theorem W.icmpNo (w : W l Z a0 EL nw own bytes ml ret R κ T h M cells slots) {cd : ClassFile.Cond} {x y : Int32} {o : Int} (hd : decode bytes pc = .ok (.if_icmp cd o, 3)) (hp : pc + 3 = pc') (hc : if_icmp.holds cd x y = false)
    (g : Go Z EL nw R κ Q (T.setTop (mkF (km κ) pc' Ls (S)))) : Go Z EL nw R κ Q (T.setTop (mkF (km κ) pc Ls (.int y :: .int x :: S))) := by
  subst hp
  exact w.pure (fun hx hby H t k => XS.icmpNo H hx rfl (g := mkF (km κ) pc Ls (.int y :: .int x :: S)) (hb hby hd) rfl hc k) g
theorem W.ifnullYes (w : W l Z a0 EL nw own bytes ml ret R κ T h M cells slots) {o : Int} (hd : decode bytes pc = .ok (.ifnull o, 3)) (ho : 0 ≤ (pc : Int) + o) (hp : ((pc : Int) + o).toNat = pc')
    (g : Go Z EL nw R κ Q (T.setTop (mkF (km κ) pc' Ls (S)))) : Go Z EL nw R κ Q (T.setTop (mkF (km κ) pc Ls (.null :: S))) := by
  subst hp
  exact w.pure (fun hx hby H t k => XS.ifnullYes H hx rfl (g := mkF (km κ) pc Ls (.null :: S)) (pc0 := pc) rfl (hb hby hd) rfl ho rfl k) g
theorem W.ifnullNo (w : W l Z a0 EL nw own bytes ml ret R κ T h M cells slots) {o : Int} {b : Addr} (hd : decode bytes pc = .ok (.ifnull o, 3)) (hp : pc + 3 = pc')
    (g : Go Z EL nw R κ Q (T.setTop (mkF (km κ) pc' Ls (S)))) : Go Z EL nw R κ Q (T.setTop (mkF (km κ) pc Ls (.ref b :: S))) := by
  subst hp
  exact w.pure (fun hx hby H t k => XS.ifnullNo H hx rfl (g := mkF (km κ) pc Ls (.ref b :: S)) (hb hby hd) rfl k) g
theorem W.ifnonnullYes (w : W l Z a0 EL nw own bytes ml ret R κ T h M cells slots) {o : Int} {b : Addr} (hd : decode bytes pc = .ok (.ifnonnull o, 3)) (ho : 0 ≤ (pc : Int) + o) (hp : ((pc : Int) + o).toNat = pc')
    (g : Go Z EL nw R κ Q (T.setTop (mkF (km κ) pc' Ls (S)))) : Go Z EL nw R κ Q (T.setTop (mkF (km κ) pc Ls (.ref b :: S))) := by
  subst hp
  exact w.pure (fun hx hby H t k => XT.ifnonnullYes H hx rfl (g := mkF (km κ) pc Ls (.ref b :: S)) (pc0 := pc) rfl (hb hby hd) rfl ho rfl k) g
theorem W.ifnonnullNo (w : W l Z a0 EL nw own bytes ml ret R κ T h M cells slots) {o : Int} (hd : decode bytes pc = .ok (.ifnonnull o, 3)) (hp : pc + 3 = pc')
    (g : Go Z EL nw R κ Q (T.setTop (mkF (km κ) pc' Ls (S)))) : Go Z EL nw R κ Q (T.setTop (mkF (km κ) pc Ls (.null :: S))) := by
  subst hp
  exact w.pure (fun hx hby H t k => XT.ifnonnullNo H hx rfl (g := mkF (km κ) pc Ls (.null :: S)) (hb hby hd) rfl k) g
theorem W.acmpYes (w : W l Z a0 EL nw own bytes ml ret R κ T h M cells slots) {cd : ClassFile.ACond} {x y : Value} {o : Int} (hd : decode bytes pc = .ok (.if_acmp cd o, 3)) (ho : 0 ≤ (pc : Int) + o) (hp : ((pc : Int) + o).toNat = pc') (hx' : x.isRef = true) (hy' : y.isRef = true) (hc : XT.acmp cd x y = true)
    (g : Go Z EL nw R κ Q (T.setTop (mkF (km κ) pc' Ls (S)))) : Go Z EL nw R κ Q (T.setTop (mkF (km κ) pc Ls (y :: x :: S))) := by
  subst hp
  exact w.pure (fun hx hby H t k => XT.acmpYes H hx rfl (g := mkF (km κ) pc Ls (y :: x :: S)) (pc0 := pc) rfl (hb hby hd) rfl hx' hy' hc ho rfl k) g
theorem W.acmpNo (w : W l Z a0 EL nw own bytes ml ret R κ T h M cells slots) {cd : ClassFile.ACond} {x y : Value} {o : Int} (hd : decode bytes pc = .ok (.if_acmp cd o, 3)) (hp : pc + 3 = pc') (hx' : x.isRef = true) (hy' : y.isRef = true) (hc : XT.acmp cd x y = false)
    (g : Go Z EL nw R κ Q (T.setTop (mkF (km κ) pc' Ls (S)))) : Go Z EL nw R κ Q (T.setTop (mkF (km κ) pc Ls (y :: x :: S))) := by
  subst hp
  exact w.pure (fun hx hby H t k => XT.acmpNo H hx rfl (g := mkF (km κ) pc Ls (y :: x :: S)) (hb hby hd) rfl hx' hy' hc k) g
end Pure
end Jvm.Own
@@BLOCK:LamKit.lean.txt@@
namespace Jvm.Own
open Jvm Jvm.ClassFile Sem Op Lib Jvm.Free Jvm.Stand Jvm.LawKit Jvm.RoadKit Bundle Jvm.LamKit
/-! A LAMBDA THAT CAPTURES AND WHOSE TARGET IS A PRIVATE INSTANCE METHOD, IN THE WIDE FRAME: the site (W.site), the call through the interface (W.callL) -/
/-- at a the function object: its class, what it holds -/
def Fob (h : Heap) (a : Addr) (cK : ClassId) (vs : List Value) : Prop := h[a]? = some ({ cls := cK, slots := vs.toArray, vm := .none } : Cell)
theorem Fob.keep {h h' : Heap} {a : Addr} {cK : ClassId} {vs : List Value} {ws : List Addr} (F : Fob h a cK vs) (K : Keep h h' ws) (q : a ∉ ws) : Fob h' a cK vs := K.2.1 a _ F q
theorem Fob.lt {h : Heap} {a : Addr} {cK : ClassId} {vs : List Value} (F : Fob h a cK vs) : a < h.size := (Array.getElem?_eq_some_iff.mp F).1
theorem entry_w {Z : State} {vm : Vm} (hZ : Z.Warmed39 vm) {c : ClassId} {k : Class} {i : Nat} {r : Resolved} (hk : Z.vm.classes[c]? = some k) (hr : k.resolved[i]? = some (some r)) : ∃ k', vm.classes[c]? = some k' ∧ k'.resolved[i]? = some (some r) := by
  obtain ⟨k', h1, -, -, h2, -⟩ := hZ.2.2.2 c k hk
  refine ⟨k', h1, ?_⟩
  rcases h2 i with e | ⟨e, -⟩
  · rw [e]; exact hr
  · rw [hr] at e; cases e
theorem methodReady_w {Z : State} {vm : Vm} (hZ : Z.Warmed39 vm) {c : ClassId} {i : Nat} {m : MethodId} (h : Z.vm.methodReady c i m) : vm.methodReady c i m := by
  obtain ⟨k, h1, h2⟩ := h
  exact entry_w hZ h1 h2
theorem classReady_w {Z : State} {vm : Vm} (hZ : Z.Warmed39 vm) {c : ClassId} {i : Nat} {m : ClassId} (h : Z.vm.classReady c i m) : vm.classReady c i m := by
  obtain ⟨k, h1, h2⟩ := h
  exact entry_w hZ h1 h2
theorem fieldReady_w {Z : State} {vm : Vm} (hZ : Z.Warmed39 vm) {c : ClassId} {i : Nat} {m : ClassId} {f : Field} (h : Z.vm.fieldReady c i m f) : vm.fieldReady c i m f := by
  obtain ⟨k, j, kc, h1, h2, h3, h4⟩ := h
  obtain ⟨k', q1, q2⟩ := entry_w hZ h1 h2
  obtain ⟨kc', q3, q4⟩ := hZ.alike.2.2 _ _ h3
  exact ⟨k', j, kc', q1, q2, q3, by rw [q4]; exact h4⟩
/-- the made class's entry cc names the class B -/
def castOK (σ : Lambda.Shape) (host : String) (cc : Nat) (B : String) : Bool :=
  match σ.file host with
  | none => false
  | some D => match D.constantPool[cc]? with
    | some (.class_ n) => decide (D.constantPool.string? n = some B) && decide (cc ≠ D.thisClass)
    | _ => false
theorem made_cast {st : Setting} {vm : Vm} {d c : ClassId} {dk : Class} {σ : Lambda.Shape} {host B : String} {cc : Nat} {cB : ClassId} (hok : castOK σ host cc B = true) (hd : vm.classes[d]? = some dk) (hname : dk.name = host) (h : Lambda.isMade st vm d σ c = true) (hB : vm.findClass B = some cB) : vm.classReady c cc cB := by
  obtain ⟨dk', k, ok, tk, file, cf, object, iface, toy, lay, methods, target, found, hd', hk, hfile, hcf, -, -, -, -, -, -, -, -, -, -, -, -, -, -, -, -, -, -, hres, -⟩ := Lambda.isMade_spec h
  cases hd.symm.trans hd'
  rw [hname] at hcf
  unfold castOK at hok
  rw [hcf] at hok
  dsimp only at hok
  split at hok
  · rename_i n hn
    simp only [Bool.and_eq_true, decide_eq_true_eq] at hok
    exact ⟨k, hk, hres cc _ (Lambda.resolvedOf_class hn hok.2 hok.1 hB)⟩
  · cases hok
/-- an inner walk has ended (the wide word) -/
theorem outW {p : Program} {l : Launch} {e : Env} {R : Room} {s : State} {m : MethodId} {args : Array Value} {below : List Frame} {meth : Method} {c : Code} {T : State} {locs : List Loc} {cells slots : Nat}
    (X : Stand p l e R s m args below meth c T locs cells slots) {g : JFrame} (hg : g.method = m) {ig : Instr} {len : Nat} (hdg : decode c.code g.pc = .ok (ig, len)) {mk : MethodId} {a : Array Value} {t : State} {v : Option Value} {L : List Loc} {k n : Nat}
    (hend : Ended t (.java g :: below) (.returned v)) (hW : T.Warmed39 t.vm) (hB : T.Booked t.vm t.heap.size) (hsame : (T.calling g mk a).sameButNew ({ t with vm := (T.calling g mk a).vm } : State) L k n) :
    ∃ T', Stand p l e R (s.setVm T'.vm) m args below meth c T' (locs ++ L) (cells + k) (slots + n) ∧ s.Since T'.vm T'.heap.size ∧ T'.heap = t.heap ∧ T'.vm = t.vm ∧ t = T'.setTop { g with pc := g.pc + len, stack := v.toList ++ g.stack } := by
  have hend' : Ended (t.setVm T.vm) (.java g :: below) (.returned v) := by
    obtain ⟨c2, i2, len2, q1, q2, q3⟩ := hend
    refine ⟨c2, i2, len2, ?_, q2, q3⟩
    rw [State.code?_eq] at q1 ⊢
    rw [hW.alike.method?] at q1
    exact q1
  obtain ⟨T', X', -, hs', ht⟩ := X.outOf hg hdg (mk := mk) (a := a) (t := t.setVm T.vm) hend' (State.WarmedH.refl (T.calling g mk a)) hsame
  have hvm : T'.vm = T.vm := by have q := congrArg State.vm ht; exact q.symm
  have hheap : T'.heap = t.heap := by have q := congrArg State.heap ht; exact q.symm
  have ht' : t = (T'.setVm t.vm).setTop { g with pc := g.pc + len, stack := v.toList ++ g.stack } := by
    have q : (t.setVm T.vm).setVm t.vm = (T'.setTop { g with pc := g.pc + len, stack := v.toList ++ g.stack }).setVm t.vm := by rw [ht]
    exact q
  obtain ⟨X2, hS⟩ := X.movedW (T₂ := T'.setVm t.vm) (X'.here.setVm (by rw [hvm]; exact hW.alike)) X'.tail (X'.limits.trans X.limits.symm) (X'.bytes.trans X.bytes.symm) hW (by show T.Booked t.vm T'.heap.size; rw [hheap]; exact hB) hs'
  exact ⟨T'.setVm t.vm, X2, hS, hheap, rfl, ht'⟩
section Lam
variable {l : Launch} {Z : State} {a0 : Array Value} {EL : List (String × Nat)} {nw : Bool} {own : String} {bytes : ByteArray} {ml : Nat} {ret : Option FieldType} {R : Room} {κ : Ka} {T : State} {h : Heap} {M : List Addr} {cells slots : Nat} {Q : Option Value → Heap → List Addr → Prop}
/-- of_body, with the method's name -/
theorem of_bodyN {y : MethodName} {rm : Room} {as : List Value} {h0 : Heap} (hp : plainFor y = true) (hEL : EW Z a0 EL) (hO : Old Z Z.heap.size h0) {Ls : Array Slot} (hent : ∀ m, entryFrame m as.toArray ml = mkF m 0 Ls [])
    (body : ∀ (κ : Ka) (T : State), W l Z a0 EL nw y.cls bytes ml ret rm κ T h0 M 0 0 → Z.methodNamed? y = some (km κ) → Go Z EL nw rm κ Q (T.setTop (mkF (km κ) 0 Ls []))) : Ctr l Z EL nw y bytes ml ret rm as h0 M Q := by
  refine MetFree.of_bodySF hp hisR ?_
  intro p e s m args below meth c s₁ Bd hml0 hP hK
  obtain ⟨rfl, hZ, hh, hCH, hMu⟩ := hP
  have X0 : Stand p l e rm s m as.toArray below meth c s₁ [] 0 0 := Stand.of_body Bd
  have e0 : s₁.heap = h0 := by rw [← hh, Bd.state]; rfl
  have hnm : Z.methodNamed? y = some m := (State.methodNamed?_setVm (s := Z) hZ.alike y).symm.trans Bd.named
  have w : W l Z a0 EL nw y.cls bytes ml ret rm (p, e, s, m, below, meth, c, as.toArray) s₁ h0 M 0 0 :=
    ⟨⟨Bd.exec, Bd.bytes, hml0, Bd.returns, BodyLoose.notSynchronized Bd, hEL⟩, s.vm, 0, [], X0, Fr.nil _, hZ, findClass_of_methodNamed Bd.named, (State.WarmedH.refl s).since 0, Nat.zero_le _, e0, hh ▸ CHr.refl (hh ▸ hCH), hMu, hO, fun _ => State.WarmedH.refl s⟩
  have g := body _ s₁ w hnm
  rw [← hent] at g
  exact g
/-- 'invokedynamic': the object is made -/
theorem W.site (w : W l Z a0 EL nw own bytes ml ret R κ T h M cells slots) {x : MethodName} {pc pc' index fi : Nat} {σ : Lambda.Shape} {cK : ClassId} {one : Option Addr} (hn : Z.methodNamed? x = some (km κ)) (hat : Z.lambdaAt? x pc index σ = some (cK, one)) (hcap : σ.captured ≠ []) (hok : capOK σ x.cls fi 0 = true)
    (hO : (Cond.instantiable "java/lang/Object" 0).before a0 Z = true) {vals rest S : List Value} {Ls : Array Slot} (hst : S = vals.reverse ++ rest) (hlen : vals.length = σ.captured.length) (hfit : ∀ (i : Nat) t v, σ.captured[i]? = some t → vals[i]? = some v → narrow t v = v ∧ fits t v = true)
    (hd : decode bytes pc = .ok (.invokedynamic index, 5)) (hp : pc + 5 = pc') (hsz : Ls.size = ml) {Wd n : Nat} (hvn : vals.length = n) (hwd : (S.map fun v => v.category).sum = Wd) (hlo : Wd + 3072 ≤ R.locals) (hc : cells + 1 ≤ R.cells) (hs : slots + n ≤ R.slots)
    (g : ∀ T' h' a, W l Z a0 EL nw own bytes ml ret R κ T' h' (a :: M) (cells + 1) (slots + n) → Keep h h' [] → h.size ≤ a → Fob h' a cK vals → Go Z EL nw R κ Q (T'.setTop (mkF (km κ) pc' Ls (.ref a :: rest)))) : Go Z EL nw R κ Q (T.setTop (mkF (km κ) pc Ls S)) := by
  subst hp hvn
  refine w.made (k := 1) (n := vals.length) (P := fun h' => Fob h' h.size cK vals) (G := mkF (km κ) (pc + 5) Ls (.ref h.size :: rest)) (fun s locs hx hby hml hZ hown eT X => ?_) (fun T' h' w' K hP => g T' h' _ w' K (Nat.le_refl _) hP)
  obtain ⟨mD, kD, cfD, i0, p0, lk, hmD, hkD, hcfD, hsh, -, hfind, hmade, hcan, hl⟩ := State.lambdaAt?_spec hat
  cases hn.symm.trans hmD
  obtain ⟨kD', hkD', hnameD⟩ := className_of_methodNamed hn
  cases hkD.symm.trans hkD'
  rcases hl with ⟨a, cell, -, -, hc0, -⟩ | ⟨rfl, -, -⟩
  · exact absurd hc0 hcap
  obtain ⟨b, nt, desc, site, h1, h2, h3, h4⟩ := Lambda.shapeOf?_site hsh
  obtain ⟨kc, f, hkc, hkind, hty, -⟩ := made_cap hok hkD hnameD hmade (noFields hO (State.WarmedH.refl Z))
  obtain ⟨kS, hkS, eS⟩ := hZ.alike.2.2 _ _ hkD
  obtain ⟨kS2, hkS2, eS2⟩ := hZ.alike.2.2 _ _ hkc
  have hty2 : kS2.instanceTypes = σ.captured.toArray := by rw [eS2]; exact hty
  have hkind2 : kS2.kind = .ordinary := by rw [eS2]; exact hkind
  have hz : ((kS2.instanceTypes.toList.zip vals).map fun (t, v) => narrow t v) = vals := by rw [hty2]; exact zip_narrow _ _ hlen fun i t v a b => (hfit i t v a b).1
  have hw : (ke κ).platform.lambdaLinkWords = 3072 := by rw [X.admits.platform]
  have q := X.lambdaMakes hx (g := mkF (km κ) pc Ls S) rfl (hsz.trans hml.symm) (hb hby hd) (vals := vals) (rest := rest) hkS (by rw [eS]; exact hfind) (by rw [eS]; exact hcfD) h1 h2 (parseLong_of_parse h3) (by rw [h4]; exact hlen) hst hkS2 (by rw [hw, mr0]; show 2 * 0 + (S.map fun v => v.category).sum + 3072 ≤ R.locals; omega) hc (by rw [hz]; exact hs)
    (fun i v hv => by
      rw [hz] at hv
      have hv' : vals[i]? = some v := by simpa using hv
      have hi : i < σ.captured.length := by rw [← hlen]; exact (List.getElem?_eq_some_iff.mp hv').1
      have := (hfit i _ v (List.getElem?_eq_getElem hi) hv').2
      simp [State.fitsSlot, State.slotType?, hkS2, hkind2, hty2, List.getElem?_eq_getElem hi, this])
  rw [hz] at q
  subst eT
  refine ⟨T.pushCell { cls := cK, slots := vals.toArray, vm := .none }, T.heap.push { cls := cK, slots := vals.toArray, vm := .none }, by simpa using q.1, rfl, ⟨by simp, fun a c hc => ?_⟩, by simp, by simp [Fob], q.2⟩
  have hlt := (Array.getElem?_eq_some_iff.mp hc).1
  rw [Array.getElem?_push]
  split
  · omega
  · exact hc
/-- 'invokeinterface' on the object: its forwarder, the private target, and back -/
theorem W.callL (w : W l Z a0 EL nw own bytes ml ret R κ T h M cells slots) {index count px ix : Nat} {x xi y : MethodName} {σ : Lambda.Shape} {cK : ClassId} {one : Option Addr} (hat : Z.lambdaAt? x px ix σ = some (cK, one))
    (w1 : (Cond.methodLink own index xi).before a0 Z = true) (w2 : (Cond.declares xi).before a0 Z = true) (w3 : (Cond.interfaceMethod xi.cls xi.cls xi.name xi.desc).before a0 Z = true) (w4 : (Cond.instanceMethod y).before a0 Z = true) (w5 : (Cond.privateMethod y).before a0 Z = true) {yb : ByteArray} {yl : Nat} {yr : Option FieldType} (w6 : (Cond.code y yb yl yr).before a0 Z = true) (wO : (Cond.instantiable "java/lang/Object" 0).before a0 Z = true)
    (hxi : xi.cls = σ.iface ∧ xi.name = σ.name ∧ xi.desc = σ.sam.toString) (hy : y.cls = σ.implClass ∧ y.name = σ.implName ∧ y.desc = σ.implDesc.toString) (hpx : xi.cls ≠ "java/lang/invoke/MethodHandle" ∧ xi.cls ≠ "java/lang/invoke/VarHandle") (hpy : y.cls ≠ "java/lang/invoke/MethodHandle" ∧ y.cls ≠ "java/lang/invoke/VarHandle") {kI : Nat} (wI : (Cond.instantiable y.cls kI).before a0 Z = true)
    {t1 : FieldType} {r1 : Option FieldType} (hdx : parseMethodDescriptor xi.desc = some ⟨[t1], r1⟩) {t2 : FieldType} {r2 : Option FieldType} (hdy : parseMethodDescriptor y.desc = some ⟨[t2], r2⟩)
    {fcode : ByteArray} {fr : FieldType} (hfr : fr.isReference = true) {idx ci fi cc : Nat} {B : String} (fwd : fwdOK σ x.cls fcode 2 (some fr) idx ci = true) (cap : capOK σ x.cls fi 0 = true) (cst : castOK σ x.cls cc B = true)
    (d0 : decode fcode 0 = .ok (.aload_n 0, 1)) (d1 : decode fcode 1 = .ok (.getfield fi, 3)) (d4 : decode fcode 4 = .ok (.aload_n 1, 1)) (d5 : decode fcode 5 = .ok (.checkcast cc, 3)) (d8 : decode fcode 8 = .ok (.invokevirtual idx, 3)) (d11 : decode fcode 11 = .ok (.areturn, 1))
    {a b r : Addr} (F : Fob h a cK [.ref r]) (Eb : Exa Z h b B) {C : String} (Er : Exa Z h r C)
    {kf kl kn kw : Nat} {M0 : List Addr} {Qc : Option Value → Heap → List Addr → Prop} (P : Pay l Z EL nw y 3 kf kl kn kw [.ref r, .ref b] h M0 Qc) (hM0 : ∀ x ∈ M0, x ∈ M) (hQv : ∀ v h' M', Qc v h' M' → ∃ u, v = some u ∧ u.isRef = true)
    {pc pc' : Nat} {Ls : Array Slot} {S rest : List Value} (hdg : decode bytes pc = .ok (.invokeinterface index count, 5)) (hp : pc + 5 = pc') (hsz : Ls.size = ml) (hst : S = .ref b :: .ref a :: rest)
    {Wd : Nat} (hwd : (rest.map fun v => v.category).sum = Wd) (hf : kf + 1 ≤ R.frames) (hlo : Wd + (13 + kl) ≤ R.locals) (hcl : cells + kn ≤ R.cells) (hsl : slots + kw ≤ R.slots)
    (g : ∀ v T' h' M', W l Z a0 EL nw own bytes ml ret R κ T' h' (M' ++ M) (cells + kn) (slots + kw) → Qc v h' M' → Go Z EL nw R κ Q (T'.setTop (mkF (km κ) pc' Ls (v.toList ++ rest)))) : Go Z EL nw R κ Q (T.setTop (mkF (km κ) pc Ls S)) := by
  subst hp hst
  obtain ⟨hC, vm0, k0, locs, X, h1, h2, h3, h4, h5, h6, h7, h8, h9, h10⟩ := w
  obtain ⟨hx, hby, hml, hret, hlk, hEL⟩ := id hC
  have hA := h2.alike
  -- the made class, at the law's start
  obtain ⟨mD, kD, cfD, i0, p0, lk, hmD, hkD, -, -, -, -, hmade, hcan, -⟩ := State.lambdaAt?_spec hat
  obtain ⟨kD', hkD', hnameD⟩ := className_of_methodNamed hmD
  cases hkD.symm.trans hkD'
  obtain ⟨kK, methk, hkK, hmk, hpub, habs, hsel⟩ := madeSelects (⟨_, kD, hkD, hnameD, hmade, hcan⟩ : Jvm.LamKit.Made Z x.cls σ cK) fwd w3 hxi
  obtain ⟨kK2, tk, file, methk2, ck, toy, tm, nt, q1, q2, q3, q4, q5, q6, q7, q8, q9, q10, q11, q12, q13, q14, q15, q16, q17⟩ := made_static fwd hkD hnameD hmade
  cases hkK.symm.trans q1
  cases hmk.symm.trans q6
  obtain ⟨kc, fF, -, -, -, c4, c5, c6⟩ := made_cap cap hkD hnameD hmade (noFields wO (State.WarmedH.refl Z))
  -- the target
  obtain ⟨mT, methT, hmT, hmethT, hstT, habT⟩ := Cond.instanceMethod_spec w4
  obtain ⟨y1, y2, y3⟩ := hy
  have hfT : Z.vm.findClass y.cls = some mT.cls := findClass_of_methodNamed hmT
  have htoy : toy = mT.cls := Option.some.inj (q13.symm.trans (y1 ▸ hfT))
  subst htoy
  have htm : tm = mT := by
    have e1 : Z.methodFound? y.cls y.name y.desc = some mT := State.methodFound?_of_named hmT hpy
    rw [y1, y2, y3] at e1
    simp only [State.methodFound?, q13, q14, Option.bind_eq_bind, Option.bind_some] at e1
    rw [q15] at e1
    exact Option.some.inj e1
  subst htm
  have hpriv : methT.isPrivate = true := by
    have e := w5
    simp only [Cond.before, Cond.holds, Cond.value, hmT, Option.bind_some, hmethT, Option.map_some] at e
    simpa using e
  -- the interface's method
  obtain ⟨r0, rr, hn, hrm, hstR, hsigR⟩ := Cond.declares_spec w2
  obtain ⟨cL, kL, rL, hcL, hkL, hiL, -, hnL⟩ := Cond.interfaceMethod_spec w3
  cases hn.symm.trans hnL
  have hr0cls : r0.cls = cL := Option.some.inj ((findClass_of_methodNamed hn).symm.trans hcL)
  obtain ⟨hasg, hselZ, hwayZ⟩ := hsel r0 rr hn hrm
  obtain ⟨kL', hkL', eL'⟩ := hA.2.2 _ _ hkL
  obtain ⟨kK', hkK', eK'⟩ := hA.2.2 _ _ hkK
  have hnS : ((ks κ).setVm vm0).methodNamed? xi = some r0 := (State.methodNamed?_setVm (s := Z) hA xi).trans hn
  obtain ⟨vm₁, X₁, st₁⟩ := X.invokeinterface hx (own := own) (x := xi) h3 (mvT (s := (ks κ).setVm vm0) h2 w1) hnS (show vm0.method? r0 = some rr by rw [hA.method?]; exact hrm) hstR (ki := kL') (by rw [hr0cls]; exact hkL') (by rw [eL']; exact hiL) hpx (a := a) (cell := { cls := cK, slots := #[.ref r], vm := .none }) (kcell := kK') (by rw [h6]; exact F) (fun z q => by cases q) hkK'
    (show vm0.assignable cK r0.cls = true by rw [hA.assignable]; exact hasg) (m' := ⟨cK, 1⟩) (meth' := methk) (show selectMethod (ke κ).platform vm0 cK r0 = _ by rw [Launch.admits_selectMethod X.admits, hA.selectMethod]; exact hselZ) (show vm0.method? ⟨cK, 1⟩ = _ by rw [hA.method?]; exact hmk)
    (show ((cK :: vm0.superclasses cK).any fun k => (declaredIn vm0 rr.name rr.desc k).any fun (_, y) => y.isPrivate || y.isStatic) = false by simp only [hA.superclasses, hA.declaredIn]; exact hwayZ) hpub habs (g := mkF (km κ) pc Ls (.ref b :: .ref a :: rest)) rfl (argsL := [.ref b]) (rest := rest) (by rw [← Option.some.inj (hdx.symm.trans hsigR)]; rfl) rfl (hb hby hdg)
  have hZ1 : Z.Warmed39 vm₁ := wtrans (s := (ks κ).setVm vm0) (U := T.setVm vm₁) h2 X₁.warmed
  have hA1 := hZ1.alike
  have A₁ : CHr Z EL vm0 h vm₁ h := CHv.at X₁ h2 hEL h7.1
  have hmk1 : (T.setVm vm₁).vm.method? ⟨cK, 1⟩ = some methk := by show vm₁.method? _ = _; rw [hA1.method?]; exact hmk
  have hpk : (T.setVm vm₁).plainMethod ⟨cK, 1⟩ := State.plainMethod.of_name (fun k' hk' => by
    obtain ⟨k2, e1, e2⟩ := hA1.2.2 _ _ hkK
    cases e1.symm.trans (show vm₁.classes[cK]? = some k' from hk')
    rw [e2]; exact q2)
  obtain ⟨Y₀, hin⟩ := X₁.into (g := mkF (km κ) pc Ls rest) rfl (hsz.trans hml.symm) (hb hby hdg) #[.ref a, .ref b] (R' := { frames := kf, cells := kn, slots := kw, locals := kl }) hmk1 q7 q10 hpk hf (by rw [q9, mr0]; show 2 * 0 + (rest.map fun v => v.category).sum + (2 + 11) + kl ≤ R.locals; omega) hcl hsl
  have hent : entryFrame ⟨cK, 1⟩ #[.ref a, .ref b] ck.maxLocals = mkF ⟨cK, 1⟩ 0 #[.val (.ref a), .val (.ref b)] [] := by rw [q9]; rfl
  rw [hent] at Y₀ hin
  generalize hU : ((T.setVm vm₁).setTop (mkF (km κ) pc Ls rest)).pushFrame (.java (mkF ⟨cK, 1⟩ 0 #[.val (.ref a), .val (.ref b)] [])) = U at Y₀ hin
  have hvmU : U.vm = vm₁ := by rw [← hU]; rfl
  have hheapU : U.heap = h := by rw [← hU, ← h6]; rfl
  have hK := P { frames := kf, cells := kn, slots := kw, locals := kl } (kp κ) (ke κ) (.java (mkF (km κ) pc Ls rest) :: kb κ) ((T.setVm vm₁).calling (mkF (km κ) pc Ls rest) ⟨cK, 1⟩ #[.ref a, .ref b]) vm₁ #[.ref a, .ref b] 0 hZ1 A₁.1 (fun x hx => (h8.at A₁) x (hM0 x hx)) (Nat.le_refl _) (by show 0 + kl ≤ kl; omega)
  have hnamedU : U.methodNamed? y = some tm := by
    have q : (Z.setVm vm₁).methodNamed? y = some tm := (State.methodNamed?_setVm (s := Z) hA1 y).trans hmT
    rw [← hU]; exact q
  obtain ⟨v, ⟨U', ls, cc', sl'⟩, Y₁, hS, hgrow, ⟨L, M', p1, p2, p3, p4, p5, p6, p7, p8, p9⟩, stT⟩ := hK ⟨cK, 1⟩ methk ck ⟨U, [], 0, 0⟩ (mkF ⟨cK, 1⟩ 8 #[.val (.ref a), .val (.ref b)] []) (.invokevirtual idx) tm #[.ref r, .ref b] Y₀ rfl (by rw [q9]; rfl) (by rw [q8]; exact d8) (Nat.le_refl _) hnamedU ⟨rfl, hheapU, by show 0 + kn ≤ kn; omega, by show 0 + kw ≤ kw; omega⟩
  dsimp only [Pt.U, Pt.locs, Pt.cells, Pt.slots] at Y₁ hS hgrow p1 p3 p4 p5 p6 p7 p8 p9 stT
  subst p3 p4 p5
  obtain ⟨u, rfl, hu⟩ := hQv _ _ _ p1
  obtain ⟨fs, l1, l2, l3, l4, l5⟩ := Y₁.leave (v := some u) (fun q => by rw [q12] at q; cases q) q10
  obtain ⟨b1, b2, b3⟩ := hS.ended (U := U'.setFrames fs) l4 (Nat.le_refl _) l5
  obtain ⟨T', X', hS', e1, e2, ht⟩ := outW X₁ (g := mkF (km κ) pc Ls rest) rfl (hb hby hdg) (mk := ⟨cK, 1⟩) (a := #[.ref a, .ref b]) (t := U'.setFrames fs) l3 b1 b2 b3
  have e1' : T'.heap = U'.heap := e1
  have e2' : T'.vm = U'.vm := e2
  have hgrow' : T.heap.size ≤ T'.heap.size := by rw [e1', h6, ← hheapU]; exact hgrow
  -- the forwarder's own steps
  obtain ⟨cellB, kB, f1, f2, f3, f4, -⟩ := Eb
  obtain ⟨cellR, kR, g1, g2, g3, g4, -⟩ := Er
  obtain ⟨kB', hkB', -⟩ := hA1.2.2 _ _ f3
  have c0 : Steps (kp κ).tables (ke κ) (.java (mkF (km κ) pc Ls rest) :: kb κ) (U.setTop (mkF ⟨cK, 1⟩ 0 #[.val (.ref a), .val (.ref b)] [])) (U.setTop (mkF ⟨cK, 1⟩ 1 #[.val (.ref a), .val (.ref b)] [.ref a])) := XS.aloadN Y₀.here hx rfl (hb q8 d0) rfl rfl (Steps.refl _)
  have c1 := Y₀.getfieldR hx (g := mkF ⟨cK, 1⟩ 1 #[.val (.ref a), .val (.ref b)] [.ref a]) rfl (rest := []) (v := .ref r) (by rw [hvmU]; exact fieldReady_w hZ1 c4) c5 rfl (by rw [hheapU]; exact F) (by simp) (by rw [c6]; rfl) (hb q8 d1) c0
  have c2 : Steps (kp κ).tables (ke κ) (.java (mkF (km κ) pc Ls rest) :: kb κ) (U.setTop (mkF ⟨cK, 1⟩ 4 #[.val (.ref a), .val (.ref b)] [.ref r])) (U.setTop (mkF ⟨cK, 1⟩ 5 #[.val (.ref a), .val (.ref b)] [.ref b, .ref r])) := XS.aloadN Y₀.here hx rfl (hb q8 d4) rfl rfl (Steps.refl _)
  have c3 := Y₀.checkcastR hx (g := mkF ⟨cK, 1⟩ 5 #[.val (.ref a), .val (.ref b)] [.ref b, .ref r]) rfl (x := .ref b) (rest := [.ref r]) (by rw [hvmU]; exact classReady_w hZ1 (made_cast cst hkD hnameD hmade f2)) rfl
    (Or.inr ⟨b, cellB, kB', kB', rfl, (by rw [hheapU]; exact f1), (fun k q => by rw [q] at f4; cases f4), (by rw [hvmU]; exact hkB'), (by rw [hvmU]; exact hkB'), Vm.assignable_self _ _⟩) (hb q8 d5) (c1.trans c2)
  obtain ⟨tk', htk', etk'⟩ := hA1.2.2 _ _ q14
  have hntf : tk'.isInterface = false := by
    obtain ⟨cI, kI2, i1, i2, i3, i4, -⟩ := Cond.instantiable_spec wI
    cases hfT.symm.trans i1
    cases q14.symm.trans i2
    have q : tk'.isInterface = tk.isInterface := by rw [etk']; rfl
    rw [q]; exact (Bool.or_eq_false_iff.mp i4).1
  have hsp : ∀ z : Method, signaturePolymorphic tk' z = false := fun z => by
    obtain ⟨kN, hkN, hnN⟩ := className_of_methodNamed hmT
    cases q14.symm.trans hkN
    have hn' : tk'.name = y.cls := by rw [etk']; exact hnN
    simp [signaturePolymorphic, hn', hpy.1, hpy.2]
  have hmT1 : U.vm.method? tm = some methT := by rw [hvmU, hA1.method?]; exact hmethT
  obtain ⟨methC, cC, z1, -, -, -, -, -, -, hsigT⟩ := Cond.code_spec hmT w6
  cases hmethT.symm.trans z1
  have c4' : Steps (kp κ).tables (ke κ) (.java (mkF (km κ) pc Ls rest) :: kb κ) (U.setTop (mkF ⟨cK, 1⟩ 8 #[.val (.ref a), .val (.ref b)] [.ref b, .ref r])) (doInvoke (ke κ) (U.setTop (mkF ⟨cK, 1⟩ 8 #[.val (.ref a), .val (.ref b)] [])) [] tm #[.ref r, .ref b]).1 := by
    have hg8 : decode ck.code 8 = .ok (.invokevirtual idx, 3) := hb q8 d8
    obtain ⟨kK1, hkK1, eK1⟩ := hA1.2.2 _ _ hkK
    jvm_step Y₀.here [hx, hg8, invokevirtual.wp_ready (e := ke κ) (s := U) (r := tm) (m := tm) (k := tk') (mk := tk') (rmeth := methT) (meth := methT) (a := r) (args := [.ref b]) (rest := []) (cell := cellR) (f := mkF ⟨cK, 1⟩ 8 #[.val (.ref a), .val (.ref b)] [.ref b, .ref r]) Y₀.here.top
      ⟨kK1, file, ci, nt, tm.cls, tk', by rw [hvmU]; exact hkK1, by rw [eK1]; exact q3, q4, by rw [hvmU]; exact classReady_w hZ1 q17, by rw [hvmU]; exact htk', hntf⟩ (by rw [hvmU]; exact methodReady_w hZ1 q16) (by rw [hvmU]; exact htk') hmT1 (hsp _) hstT (by rw [← Option.some.inj (hdy.symm.trans hsigT)]; rfl) rfl (by rw [hheapU]; exact g1) (fun k q => by rw [q] at g4; cases g4) (selectMethod_private hmT1 hpriv) hmT1 habT (by rw [hvmU]; exact htk') hntf]
    intro acts
    rw [doInvoke_state]
    exact Steps.refl _
  have c5' := Y₁.areturnOut hx (pc := 11) (Ls := #[.val (.ref a), .val (.ref b)]) hu q12 hfr (hb q8 d11) l1
  have hinner : Steps (kp κ).tables (ke κ) (.java (mkF (km κ) pc Ls rest) :: kb κ) (U.setTop (mkF ⟨cK, 1⟩ 0 #[.val (.ref a), .val (.ref b)] [])) (U'.setFrames fs) := (c3.trans c4').trans (stT.trans c5')
  have k : Steps (kp κ).tables (ke κ) (kb κ) (T.setTop (mkF (km κ) pc Ls (.ref b :: .ref a :: rest))) (T'.setTop (mkF (km κ) (pc + 5) Ls (u :: rest))) := by
    refine st₁ _ fun acts => ?_
    rw [hin acts]
    have q := Steps.weaken (mid := [.java (mkF (km κ) pc Ls rest)]) hinner
    rw [ht] at q
    exact q
  refine Go.tr k (g (some u) T' T'.heap M' ⟨hC, T'.vm, T'.heap.size, _, (by have q := X'; simp only [Nat.zero_add] at q; exact q), h1.app (by simpa using p2), State.Warmed39.trans (t := (ks κ).setVm vm0) h2 hS'.1, ?_, h4.trans hS' (by rw [← h6] at h5; exact Nat.le_trans h5 hgrow'), Nat.le_refl _, rfl, ?_, fun z hz => ?_, by rw [e1']; exact p8, fun q => ?_⟩ (by rw [e1']; exact p1))
  · rw [hS'.1.alike.findClass]; exact h3
  · rw [e1', e2']; exact (h7.trans A₁).trans p6
  · rw [e1', e2']
    rcases List.mem_append.mp hz with hz | hz
    · exact p7 z hz
    · exact ((h8.at A₁).at p6) z hz
  · rw [e2']; exact State.WarmedH.trans (h10 q) (State.WarmedH.trans X₁.warmed (p9 q))
end Lam
end Jvm.Own
/- laws to paste: Road.backV, Road.lenW, Road.chN, Road.codOf (cut by pick.py; bodies as the Statement names them) -/
namespace Jvm.Pilot.@@N@@
namespace StrChars
open Jvm Sem ClassFile Op Lib Jvm.Stand Jvm.Free.XT Jvm.Free.ALB Jvm.Free.JM Jvm.Free
open Jvm.Lib.Cold (StaticIs)
/-- a char array whose places are chars -/
def Ch (a : Addr) (A : Cell) (U : State) : Prop := Arr .char a A U ∧ Typed .char A
theorem Ch.mv {a : Addr} {A : Cell} {U U' : State} (h : Ch a A U) (hal : U.vm.Alike U'.vm) (hh : U'.heap = U.heap) : Ch a A U' := ⟨h.1.mv hal hh, h.2⟩
theorem Ch.keep {a : Addr} {A : Cell} {U U' : State} (h : Ch a A U) (hal : U.vm.Alike U'.vm) (hk : U'.heap[a]? = some A) : Ch a A U' := ⟨h.1.keep hal hk, h.2⟩
/-- what place i of a char[]'s cell holds -/
def cv (A : Cell) (i : Nat) : Int32 := match A.slots[i]? with | some (.int x) => x | _ => 0
theorem Ch.get {a : Addr} {A : Cell} {U : State} (h : Ch a A U) {i : Nat} (hi : i < A.slots.size) : A.slots[i]? = some (.int (cv A i)) := by
  have e := Array.getElem?_eq_getElem hi
  have f := h.2 i _ e
  unfold cv; rw [e]
  generalize A.slots[i] = v at f
  cases v <;> simp [fits] at f ⊢
/-- the byte that i2b leaves of a char -/
def lo8 (x : Int32) : Int32 := x.toInt8.toInt32
theorem fits_lo8 (y : Int32) : fits .byte (.int (lo8 y)) = true := by
  have h1 := y.toInt8.le_toInt
  have h2 := y.toInt8.toInt_lt
  simp only [lo8, fits, Bool.and_eq_true, decide_eq_true_eq, Int32.le_iff_toInt_le, Int8.toInt_toInt32, show (-128 : Int32).toInt = -128 from by decide, show (127 : Int32).toInt = 127 from by decide]
  omega
/-- A' is A but that each place j of lo .. hi - 1 holds f j -/
def Laid (A A' : Cell) (lo hi : Nat) (f : Nat → Value) : Prop := A'.cls = A.cls ∧ A'.vm = A.vm ∧ A'.slots.size = A.slots.size ∧ ∀ i, A'.slots[i]? = if lo ≤ i ∧ i < hi then some (f i) else A.slots[i]?
theorem Laid.zero (A : Cell) (lo : Nat) (f : Nat → Value) : Laid A A lo (lo + 0) f := ⟨rfl, rfl, rfl, fun i => by rw [if_neg (by omega)]⟩
theorem Laid.step {A Ak : Cell} {lo k : Nat} {f : Nat → Value} {v : Value} (h : Laid A Ak lo k f) (hlo : lo ≤ k) (hk : k < Ak.slots.size) (hv : v = f k) : Laid A (Ak.setSlot k v) lo (k + 1) f := by
  refine ⟨h.1, h.2.1, by simpa [Cell.setSlot] using h.2.2.1, fun i => ?_⟩
  by_cases e : k = i
  · subst e; rw [Cell.slots_setSlot_self v hk, if_pos (by omega), hv]
  · rw [Cell.slots_setSlot_ne v e, h.2.2.2 i]
    by_cases q : lo ≤ i ∧ i < k
    · rw [if_pos q, if_pos (by omega)]
    · rw [if_neg q, if_neg (by omega)]
def U16 : String := "java/lang/StringUTF16"
namespace Cmp5
def yN : MethodName := ⟨"java/lang/StringUTF16", "compress", "([CI[BII)I"⟩
abbrev yB : ByteArray := jdk_52_method_21_code
theorem d0 : decode yB 0 = .ok (.iconst 0, 1) := by decide +kernel
theorem d1 : decode yB 1 = .ok (.istore 5, 2) := by decide +kernel
theorem d3 : decode yB 3 = .ok (.iload 5, 2) := by decide +kernel
theorem d5 : decode yB 5 = .ok (.iload 4, 2) := by decide +kernel
theorem d7 : decode yB 7 = .ok (.if_icmp (.ge) 37, 3) := by decide +kernel
theorem d10 : decode yB 10 = .ok (.aload_n 0, 1) := by decide +kernel
theorem d11 : decode yB 11 = .ok (.iload_n 1, 1) := by decide +kernel
theorem d12 : decode yB 12 = .ok (.caload, 1) := by decide +kernel
theorem d13 : decode yB 13 = .ok (.istore 6, 2) := by decide +kernel
theorem d15 : decode yB 15 = .ok (.iload 6, 2) := by decide +kernel
theorem d17 : decode yB 17 = .ok (.sipush 255, 3) := by decide +kernel
theorem d20 : decode yB 20 = .ok (.if_icmp (.le) 6, 3) := by decide +kernel
theorem d26 : decode yB 26 = .ok (.aload_n 2, 1) := by decide +kernel
theorem d27 : decode yB 27 = .ok (.iload_n 3, 1) := by decide +kernel
theorem d28 : decode yB 28 = .ok (.iload 6, 2) := by decide +kernel
theorem d30 : decode yB 30 = .ok (.i2b, 1) := by decide +kernel
theorem d31 : decode yB 31 = .ok (.bastore, 1) := by decide +kernel
theorem d32 : decode yB 32 = .ok (.iinc 1 1, 3) := by decide +kernel
theorem d35 : decode yB 35 = .ok (.iinc 3 1, 3) := by decide +kernel
theorem d38 : decode yB 38 = .ok (.iinc 5 1, 3) := by decide +kernel
theorem d41 : decode yB 41 = .ok (.goto (-38), 3) := by decide +kernel
theorem d44 : decode yB 44 = .ok (.iload 4, 2) := by decide +kernel
theorem d46 : decode yB 46 = .ok (.ireturn, 1) := by decide +kernel
def site : List Cond := []
def tab : Cond := tabOf yN yB 7 (some .int) site
def P (b : Addr) (A : Cell) (d : Addr) (B : Cell) (o q len : Nat) (args : Array Value) (s : State) : Prop := args = #[.ref b, .int (Int32.ofNat o), .ref d, .int (Int32.ofNat q), .int (Int32.ofNat len)] ∧ Ch b A s ∧ Arr .byte d B s ∧ b ≠ d ∧ o + len ≤ A.slots.size ∧ q + len ≤ B.slots.size ∧ ∀ i, i < len → ¬ 255 < cv A (o + i)
def E (b : Addr) (A : Cell) (d : Addr) (B : Cell) (o q len : Nat) (r : Option Value) (s u : State) : Prop := r = some (.int (Int32.ofNat len)) ∧ ∃ B', Put d B' s u ∧ Laid B B' q (q + len) (fun j => Value.int (lo8 (cv A (o + (j - q)))))
/-- no char of the range above 255: len; the places written hold each char's low byte -/
theorem law (l : Launch) (b : Addr) (A : Cell) (d : Addr) (B : Cell) (o q len : Nat) : Law l yN 5 5 0 0 yB 7 (some .int) site (P b A d B o q len) (E b A d B o q len) (copyLocs d q len) 0 0 := by
  refine Law.of_walk (plainFor_of_name (by decide +kernel)) (by decide +kernel) (by decide +kernel) (by decide) (fun _ _ h => by rw [h.1]; rfl) (fun _ U U' hal hh h => ⟨h.1, h.2.1.mv hal hh, h.2.2.1.mv hal hh, h.2.2.2⟩) (fun r U U' V V' h1 hal h2 h => ⟨h.1, h.2.elim fun B' q => ⟨B', q.1.mv h1 h2, q.2⟩⟩) ?_
  intro p e s m args below meth c s₁ X0 hexec hbytes hml hret hlk hnm hown hh0 W hP
  obtain ⟨rfl, hA, hB, hne, l1, l2, hp⟩ := hP
  have c1 : Steps p.tables e below (s₁.setTop (entryFrame m #[.ref b, .int (Int32.ofNat o), .ref d, .int (Int32.ofNat q), .int (Int32.ofNat len)] 7)) (s₁.setTop (mkF m 0 #[.val (.ref b), .val (.int (Int32.ofNat o)), .val (.ref d), .val (.int (Int32.ofNat q)), .val (.int (Int32.ofNat len)), .unset, .unset] [])) := entry rfl
  have hA0 := hA.1.mv X0.warmed.alike hh0
  have hB0 := hB.mv X0.warmed.alike hh0
  have a31 := hA.1.2.2.2
  have c2 : Steps p.tables e below (s₁.setTop (entryFrame m #[.ref b, .int (Int32.ofNat o), .ref d, .int (Int32.ofNat q), .int (Int32.ofNat len)] 7)) (s₁.setTop (mkF m 3 #[.val (.ref b), .val (.int (Int32.ofNat o)), .val (.ref d), .val (.int (Int32.ofNat q)), .val (.int (Int32.ofNat len)), .val (.int 0), .unset] [])) := c1.trans (by
    refine iconstV X0.here hexec rfl 0 (hb hbytes d0) (by decide) ?_
    refine XS.istore X0.here hexec rfl (hb hbytes d1) rfl rfl ?_
    exact Steps.refl _)
  have loop : ∀ (r i : Nat), i + r = len → ∀ (z : Slot), (z = .unset ∨ ∃ w, z = .val w ∧ w.category = 1) → ∀ (Tl : State) (Bk : Cell), Stand p l e { frames := 0, locals := 0, cells := 0, slots := 0 } s m #[.ref b, .int (Int32.ofNat o), .ref d, .int (Int32.ofNat q), .int (Int32.ofNat len)] below meth c Tl ([] ++ copyLocs d q i) 0 0 → Put d Bk s₁ Tl → Laid B Bk q (q + i) (fun j => Value.int (lo8 (cv A (o + (j - q))))) →
      Steps p.tables e below (s₁.setTop (entryFrame m #[.ref b, .int (Int32.ofNat o), .ref d, .int (Int32.ofNat q), .int (Int32.ofNat len)] 7)) (Tl.setTop (mkF m 3 #[.val (.ref b), .val (.int (Int32.ofNat (o + i))), .val (.ref d), .val (.int (Int32.ofNat (q + i))), .val (.int (Int32.ofNat len)), .val (.int (Int32.ofNat i)), z] [])) → ∃ (T' : State) (B' : Cell) (z' : Slot), Stand p l e { frames := 0, locals := 0, cells := 0, slots := 0 } s m #[.ref b, .int (Int32.ofNat o), .ref d, .int (Int32.ofNat q), .int (Int32.ofNat len)] below meth c T' ([] ++ copyLocs d q len) 0 0 ∧ Put d B' s₁ T' ∧ Laid B B' q (q + len) (fun j => Value.int (lo8 (cv A (o + (j - q))))) ∧
      Steps p.tables e below (s₁.setTop (entryFrame m #[.ref b, .int (Int32.ofNat o), .ref d, .int (Int32.ofNat q), .int (Int32.ofNat len)] 7)) (T'.setTop (mkF m 3 #[.val (.ref b), .val (.int (Int32.ofNat (o + len))), .val (.ref d), .val (.int (Int32.ofNat (q + len))), .val (.int (Int32.ofNat len)), .val (.int (Int32.ofNat len)), z'] [])) := by
    intro r
    induction r with
    | zero =>
      intro i hi z hz Tl Bk Xl pl fl cl
      have hil : i = len := by omega
      rw [hil] at Xl fl cl
      exact ⟨Tl, Bk, z, Xl, pl, fl, cl⟩
    | succ r ih =>
      intro i hi z hz Tl Bk Xl pl fl cl
      have all := X0.warmed.alike.symm.trans Xl.warmed.alike
      have hAl := hA0.keep all (pl.other hne hA0.1)
      have hBk := hB0.like all pl.1 fl.1 fl.2.1 fl.2.2.1
      have hlt : q + i < Bk.slots.size := by rw [fl.2.2.1]; omega
      have c3 : Steps p.tables e below (s₁.setTop (entryFrame m #[.ref b, .int (Int32.ofNat o), .ref d, .int (Int32.ofNat q), .int (Int32.ofNat len)] 7)) (Tl.setTop (mkF m 12 #[.val (.ref b), .val (.int (Int32.ofNat (o + i))), .val (.ref d), .val (.int (Int32.ofNat (q + i))), .val (.int (Int32.ofNat len)), .val (.int (Int32.ofNat i)), z] [.int (Int32.ofNat (o + i)), .ref b])) := cl.trans (by
        refine XS.iload Xl.here hexec rfl (hb hbytes d3) rfl ?_
        refine XS.iload Xl.here hexec rfl (hb hbytes d5) rfl ?_
        refine XS.icmpNo Xl.here hexec rfl (hb hbytes d7) rfl (ii_ge_f (lt32 (by omega) (by omega))) ?_
        refine XS.aloadN Xl.here hexec rfl (hb hbytes d10) rfl rfl ?_
        refine XS.iloadN Xl.here hexec rfl (hb hbytes d11) rfl ?_
        exact Steps.refl _)
      have c4 : Steps p.tables e below (s₁.setTop (entryFrame m #[.ref b, .int (Int32.ofNat o), .ref d, .int (Int32.ofNat q), .int (Int32.ofNat len)] 7)) (Tl.setTop (mkF m 13 #[.val (.ref b), .val (.int (Int32.ofNat (o + i))), .val (.ref d), .val (.int (Int32.ofNat (q + i))), .val (.int (Int32.ofNat len)), .val (.int (Int32.ofNat i)), z] [.int (cv A (o + i))])) := c3.trans (by
        refine Xl.aget hexec hAl rfl (hA.get (i := o + i) (by omega)) rfl rfl (hb hbytes d12) ?_
        exact Steps.refl _)
      have c5 : Steps p.tables e below (s₁.setTop (entryFrame m #[.ref b, .int (Int32.ofNat o), .ref d, .int (Int32.ofNat q), .int (Int32.ofNat len)] 7)) (Tl.setTop (mkF m 15 #[.val (.ref b), .val (.int (Int32.ofNat (o + i))), .val (.ref d), .val (.int (Int32.ofNat (q + i))), .val (.int (Int32.ofNat len)), .val (.int (Int32.ofNat i)), .val (.int (cv A (o + i)))] [])) := c4.trans (by
        refine XS.istoreS Xl.here hexec rfl (hb hbytes d13) rfl rfl hz ?_
        exact Steps.refl _)
      have c6 : Steps p.tables e below (s₁.setTop (entryFrame m #[.ref b, .int (Int32.ofNat o), .ref d, .int (Int32.ofNat q), .int (Int32.ofNat len)] 7)) (Tl.setTop (mkF m 31 #[.val (.ref b), .val (.int (Int32.ofNat (o + i))), .val (.ref d), .val (.int (Int32.ofNat (q + i))), .val (.int (Int32.ofNat len)), .val (.int (Int32.ofNat i)), .val (.int (cv A (o + i)))] [.int (lo8 (cv A (o + i))), .int (Int32.ofNat (q + i)), .ref d])) := c5.trans (by
        refine XS.iload Xl.here hexec rfl (hb hbytes d15) rfl ?_
        refine sipushV Xl.here hexec rfl 255 (hb hbytes d17) (by decide) ?_
        refine XS.icmpYes Xl.here hexec rfl (pc0 := 20) rfl (hb hbytes d20) rfl (ii_le_t (hp i (by omega))) (by decide) rfl ?_
        refine XS.aloadN Xl.here hexec rfl (hb hbytes d26) rfl rfl ?_
        refine XS.iloadN Xl.here hexec rfl (hb hbytes d27) rfl ?_
        refine XS.iload Xl.here hexec rfl (hb hbytes d28) rfl ?_
        refine i2b Xl.here hexec rfl (hb hbytes d30) rfl ?_
        exact Steps.refl _)
      obtain ⟨T7, X7, p7, st7⟩ := Xl.aput hexec hBk rfl hlt rfl (fits_lo8 (cv A (o + i))) (g := (mkF m 31 #[.val (.ref b), .val (.int (Int32.ofNat (o + i))), .val (.ref d), .val (.int (Int32.ofNat (q + i))), .val (.int (Int32.ofNat len)), .val (.int (Int32.ofNat i)), .val (.int (cv A (o + i)))] [.int (lo8 (cv A (o + i))), .int (Int32.ofNat (q + i)), .ref d])) rfl (rest := []) rfl (hb hbytes d31)
      have c8 : Steps p.tables e below (s₁.setTop (entryFrame m #[.ref b, .int (Int32.ofNat o), .ref d, .int (Int32.ofNat q), .int (Int32.ofNat len)] 7)) (T7.setTop (mkF m 32 #[.val (.ref b), .val (.int (Int32.ofNat (o + i))), .val (.ref d), .val (.int (Int32.ofNat (q + i))), .val (.int (Int32.ofNat len)), .val (.int (Int32.ofNat i)), .val (.int (cv A (o + i)))] [])) := c6.trans (st7 _ (Steps.refl _))
      have c9 : Steps p.tables e below (s₁.setTop (entryFrame m #[.ref b, .int (Int32.ofNat o), .ref d, .int (Int32.ofNat q), .int (Int32.ofNat len)] 7)) (T7.setTop (mkF m 3 #[.val (.ref b), .val (.int (Int32.ofNat (o + i) + 1)), .val (.ref d), .val (.int (Int32.ofNat (q + i) + 1)), .val (.int (Int32.ofNat len)), .val (.int (Int32.ofNat i + 1)), .val (.int (cv A (o + i)))] [])) := c8.trans (by
        refine iincV X7.here hexec rfl 1 (hb hbytes d32) (by decide) rfl rfl ?_
        refine iincV X7.here hexec rfl 1 (hb hbytes d35) (by decide) rfl rfl ?_
        refine iincV X7.here hexec rfl 1 (hb hbytes d38) (by decide) rfl rfl ?_
        refine XS.goto X7.here hexec rfl (pc0 := 41) rfl (hb hbytes d41) (by decide) rfl ?_
        exact Steps.refl _)
      have c10 : Steps p.tables e below (s₁.setTop (entryFrame m #[.ref b, .int (Int32.ofNat o), .ref d, .int (Int32.ofNat q), .int (Int32.ofNat len)] 7)) (T7.setTop (mkF m 3 #[.val (.ref b), .val (.int (Int32.ofNat (o + (i + 1)))), .val (.ref d), .val (.int (Int32.ofNat (q + (i + 1)))), .val (.int (Int32.ofNat len)), .val (.int (Int32.ofNat (i + 1))), .val (.int (cv A (o + i)))] [])) := by
        have := c9
        rw [succ32, succ32, succ32] at this
        exact this
      exact ih (i + 1) (by omega) _ (Or.inr ⟨_, rfl, rfl⟩) T7 _ (by rw [copyLocs_step, ← List.append_assoc]; exact X7) (pl.trans p7) (fl.step (by omega) hlt (by simp)) c10
  obtain ⟨T9, B9, z9, X9, p9, f9, g9⟩ := loop len 0 (by omega) .unset (Or.inl rfl) s₁ B (by simpa [copyLocs] using X0) ⟨hB0.1, fun _ _ => rfl, rfl⟩ (Laid.zero _ _ _) c2
  have c11 : Steps p.tables e below (s₁.setTop (entryFrame m #[.ref b, .int (Int32.ofNat o), .ref d, .int (Int32.ofNat q), .int (Int32.ofNat len)] 7)) (T9.setTop (mkF m 46 #[.val (.ref b), .val (.int (Int32.ofNat (o + len))), .val (.ref d), .val (.int (Int32.ofNat (q + len))), .val (.int (Int32.ofNat len)), .val (.int (Int32.ofNat len)), z9] [.int (Int32.ofNat len)])) := g9.trans (by
    refine XS.iload X9.here hexec rfl (hb hbytes d3) rfl ?_
    refine XS.iload X9.here hexec rfl (hb hbytes d5) rfl ?_
    refine XS.icmpYes X9.here hexec rfl (pc0 := 7) rfl (hb hbytes d7) rfl (ii_ge_t (nlt32 (by omega) (Nat.le_refl _))) (by decide) rfl ?_
    refine XS.iload X9.here hexec rfl (hb hbytes d44) rfl ?_
    exact Steps.refl _)
  exact ⟨T9, some (.int (Int32.ofNat len)), _, _, _, X9, by simp, rfl, rfl, (fun h => by cases h), ⟨rfl, B9, p9.from hh0, f9⟩, fun fs hl => c11.trans (X9.ireturnOut hexec hret rfl (Or.inl rfl) (hb hbytes d46) hl)⟩
end Cmp5
namespace Cmp3
def yN : MethodName := ⟨"java/lang/StringUTF16", "compress", "([CII)[B"⟩
abbrev yB : ByteArray := jdk_52_method_16_code
theorem d0 : decode yB 0 = .ok (.iload_n 2, 1) := by decide +kernel
theorem d1 : decode yB 1 = .ok (.newarray .byte, 2) := by decide +kernel
theorem d3 : decode yB 3 = .ok (.astore_n 3, 1) := by decide +kernel
theorem d4 : decode yB 4 = .ok (.aload_n 0, 1) := by decide +kernel
theorem d5 : decode yB 5 = .ok (.iload_n 1, 1) := by decide +kernel
theorem d6 : decode yB 6 = .ok (.aload_n 3, 1) := by decide +kernel
theorem d7 : decode yB 7 = .ok (.iconst 0, 1) := by decide +kernel
theorem d8 : decode yB 8 = .ok (.iload_n 2, 1) := by decide +kernel
theorem d9 : decode yB 9 = .ok (.invokestatic 115, 3) := by decide +kernel
theorem d12 : decode yB 12 = .ok (.istore 4, 2) := by decide +kernel
theorem d14 : decode yB 14 = .ok (.iload 4, 2) := by decide +kernel
theorem d16 : decode yB 16 = .ok (.iload_n 2, 1) := by decide +kernel
theorem d17 : decode yB 17 = .ok (.if_icmp (.eq) 40, 3) := by decide +kernel
theorem d57 : decode yB 57 = .ok (.aload_n 3, 1) := by decide +kernel
theorem d58 : decode yB 58 = .ok (.areturn, 1) := by decide +kernel
def site : List Cond := [.arrayClass .byte, Cmp5.tab] ++ staticW U16 115 Cmp5.yN
def tab : Cond := tabOf yN yB 6 (some (.array .byte)) site
def P (b : Addr) (A : Cell) (o len : Nat) (args : Array Value) (s : State) : Prop := args = #[.ref b, .int (Int32.ofNat o), .int (Int32.ofNat len)] ∧ Ch b A s ∧ o + len ≤ A.slots.size ∧ len ≤ 536870912 ∧ ∀ i, i < len → ¬ 255 < cv A (o + i)
def E (b : Addr) (A : Cell) (o len : Nat) (r : Option Value) (s u : State) : Prop := NewArr .byte "[B" len (fun j => .int (lo8 (cv A (o + j)))) r s u ∧ u.heap.size = s.heap.size + 1
/-- no char of the range above 255: a new byte[] of their low bytes -/
theorem law (l : Launch) (b : Addr) (A : Cell) (o len : Nat) : Law l yN 3 3 1 18 yB 6 (some (.array .byte)) site (P b A o len) (E b A o len) [] 1 len := by
  refine Law.of_walk (plainFor_of_name (by decide +kernel)) (by decide +kernel) (by decide +kernel) (by decide) (fun _ _ h => by rw [h.1]; rfl) (fun _ U U' hal hh h => ⟨h.1, h.2.1.mv hal hh, h.2.2⟩) (fun r U U' V V' h1 hal h2 h => ⟨NewArr.mv r U U' V V' h1 hal h2 h.1, by rw [h1, h2]; exact h.2⟩) ?_
  intro p e s m args below meth c s₁ X0 hexec hbytes hml hret hlk hnm hown hh0 W hP
  obtain ⟨rfl, hA, l1, l2, hp⟩ := hP
  have a31 := hA.1.2.2.2
  have c1 : Steps p.tables e below (s₁.setTop (entryFrame m #[.ref b, .int (Int32.ofNat o), .int (Int32.ofNat len)] 6)) (s₁.setTop (mkF m 0 #[.val (.ref b), .val (.int (Int32.ofNat o)), .val (.int (Int32.ofNat len)), .unset, .unset, .unset] [])) := entry rfl
  have c2 : Steps p.tables e below (s₁.setTop (entryFrame m #[.ref b, .int (Int32.ofNat o), .int (Int32.ofNat len)] 6)) (s₁.setTop (mkF m 1 #[.val (.ref b), .val (.int (Int32.ofNat o)), .val (.int (Int32.ofNat len)), .unset, .unset, .unset] [.int (Int32.ofNat len)])) := c1.trans (by
    refine XS.iloadN X0.here hexec rfl (hb hbytes d0) rfl ?_
    exact Steps.refl _)
  obtain ⟨T3, B3, X3, ba3, bs3, bv3, bh3, bf3, st3⟩ := X0.anew hexec (atype := .byte) (wk W (.arrayClass .byte)) rfl (by show len * 1 ≤ _; omega) (by omega) (g := (mkF m 1 #[.val (.ref b), .val (.int (Int32.ofNat o)), .val (.int (Int32.ofNat len)), .unset, .unset, .unset] [.int (Int32.ofNat len)])) rfl (hb hbytes d1) (rest := []) rfl (Nat.le_refl _) (by show 0 + len ≤ len; omega)
  rw [hh0] at ba3 st3
  have kp3 : XT.Kept s T3 := (XT.Kept.of_eq hh0).push bh3
  have hA3 := hA.keep X3.warmed.alike (kp3 _ _ hA.1.1)
  have hne : b ≠ s.heap.size := hA.1.ne
  have c4 : Steps p.tables e below (s₁.setTop (entryFrame m #[.ref b, .int (Int32.ofNat o), .int (Int32.ofNat len)] 6)) (T3.setTop (mkF m 3 #[.val (.ref b), .val (.int (Int32.ofNat o)), .val (.int (Int32.ofNat len)), .unset, .unset, .unset] [.ref s.heap.size])) := c2.trans (st3 _ (Steps.refl _))
  have c5 : Steps p.tables e below (s₁.setTop (entryFrame m #[.ref b, .int (Int32.ofNat o), .int (Int32.ofNat len)] 6)) (T3.setTop (mkF m 9 #[.val (.ref b), .val (.int (Int32.ofNat o)), .val (.int (Int32.ofNat len)), .val (.ref s.heap.size), .unset, .unset] [.int (Int32.ofNat len), .int 0, .ref s.heap.size, .int (Int32.ofNat o), .ref b])) := c4.trans (by
    refine XS.astoreN X3.here hexec rfl (hb hbytes d3) rfl rfl rfl ?_
    refine XS.aloadN X3.here hexec rfl (hb hbytes d4) rfl rfl ?_
    refine XS.iloadN X3.here hexec rfl (hb hbytes d5) rfl ?_
    refine XS.aloadN X3.here hexec rfl (hb hbytes d6) rfl rfl ?_
    refine iconstV X3.here hexec rfl 0 (hb hbytes d7) (by decide) ?_
    refine XS.iloadN X3.here hexec rfl (hb hbytes d8) rfl ?_
    exact Steps.refl _)
  obtain ⟨v6, T6, X6, E6, g6⟩ := X3.callS hexec (Cmp5.law l b A s.heap.size B3 o 0 len) hown (wks W (staticW U16 115 Cmp5.yN)) (wk W Cmp5.tab) (W := 0) (Nat.le_of_ble_eq_true rfl) (Nat.le_of_ble_eq_true rfl) (Nat.le_refl _) (by show 0 + len + 0 ≤ len; omega) (g := (mkF m 9 #[.val (.ref b), .val (.int (Int32.ofNat o)), .val (.int (Int32.ofNat len)), .val (.ref s.heap.size), .unset, .unset] [.int (Int32.ofNat len), .int (Int32.ofNat 0), .ref s.heap.size, .int (Int32.ofNat o), .ref b])) rfl (by rw [hml]; rfl) c5 (argsL := [.ref b, .int (Int32.ofNat o), .ref s.heap.size, .int (Int32.ofNat 0), .int (Int32.ofNat len)]) (rest := []) rfl rfl (by show 2 * 0 + 0 ≤ _; decide) (hb hbytes d9) (⟨rfl, hA3, ba3, hne, l1, by rw [bs3]; simp, hp⟩)
  obtain ⟨rfl, B6, p6, f6⟩ := E6
  have c7 : Steps p.tables e below (s₁.setTop (entryFrame m #[.ref b, .int (Int32.ofNat o), .int (Int32.ofNat len)] 6)) (T6.setTop (mkF m 12 #[.val (.ref b), .val (.int (Int32.ofNat o)), .val (.int (Int32.ofNat len)), .val (.ref s.heap.size), .unset, .unset] [.int (Int32.ofNat len)])) := g6
  have c8 : Steps p.tables e below (s₁.setTop (entryFrame m #[.ref b, .int (Int32.ofNat o), .int (Int32.ofNat len)] 6)) (T6.setTop (mkF m 58 #[.val (.ref b), .val (.int (Int32.ofNat o)), .val (.int (Int32.ofNat len)), .val (.ref s.heap.size), .val (.int (Int32.ofNat len)), .unset] [.ref s.heap.size])) := c7.trans (by
    refine XS.istore X6.here hexec rfl (hb hbytes d12) rfl rfl ?_
    refine XS.iload X6.here hexec rfl (hb hbytes d14) rfl ?_
    refine XS.iloadN X6.here hexec rfl (hb hbytes d16) rfl ?_
    refine XS.icmpYes X6.here hexec rfl (pc0 := 17) rfl (hb hbytes d17) rfl (ii_eq_t rfl) (by decide) rfl ?_
    refine XS.aloadN X6.here hexec rfl (hb hbytes d57) rfl rfl ?_
    exact Steps.refl _)
  have X8 := X6.wide (L' := []) (cells' := 1) (slots' := len) (fun x hx hlt => by
    simp only [List.nil_append, copyLocs, List.mem_map, List.mem_range] at hx
    obtain ⟨i, -, rfl⟩ := hx
    exact absurd hlt (Nat.lt_irrefl _)) (Nat.le_refl _) (by omega)
  exact ⟨T6, some (.ref s.heap.size), _, _, _, X8, rfl, rfl, rfl, (fun h => by cases h), ⟨⟨rfl, B6, ba3.like (X3.warmed.alike.symm.trans X6.warmed.alike) p6.1 f6.1 f6.2.1 f6.2.2.1, f6.2.1.trans bv3, by rw [X6.warmed.alike.findClass, f6.1]; exact bf3, by rw [f6.2.2.1, bs3]; simp, fun j hj => by rw [f6.2.2.2 j, if_pos (by omega)]; rfl, kp3.put p6 (Nat.le_refl _)⟩, by rw [p6.2.2, bh3, hh0]; simp⟩, fun fs hl => c8.trans (X8.areturnOut hexec rfl hret rfl (hb hbytes d58) hl)⟩
end Cmp3
namespace CodL
def yN : MethodName := ⟨"java/lang/StringUTF16", "coderFromArrayLen", "([BI)B"⟩
abbrev yB : ByteArray := jdk_52_method_15_code
theorem d0 : decode yB 0 = .ok (.iload_n 1, 1) := by decide +kernel
theorem d1 : decode yB 1 = .ok (.aload_n 0, 1) := by decide +kernel
theorem d2 : decode yB 2 = .ok (.arraylength, 1) := by decide +kernel
theorem d3 : decode yB 3 = .ok (.isub, 1) := by decide +kernel
theorem d4 : decode yB 4 = .ok (.bipush 31, 2) := by decide +kernel
theorem d6 : decode yB 6 = .ok (.iushr, 1) := by decide +kernel
theorem d7 : decode yB 7 = .ok (.i2b, 1) := by decide +kernel
theorem d8 : decode yB 8 = .ok (.ireturn, 1) := by decide +kernel
def site : List Cond := []
def tab : Cond := tabOf yN yB 2 (some .byte) site
def P (d : Addr) (B : Cell) (args : Array Value) (s : State) : Prop := args = #[.ref d, .int (Int32.ofNat B.slots.size)] ∧ Arr .byte d B s
def E (r : Option Value) (s u : State) : Prop := XT.PureE (some (.int 0)) r s u
/-- an array as long as the number of chars: LATIN1 -/
theorem law (l : Launch) (d : Addr) (B : Cell) : Law l yN 2 2 0 0 yB 2 (some .byte) site (P d B) E [] 0 0 := by
  refine Law.of_walk (plainFor_of_name (by decide +kernel)) (by decide +kernel) (by decide +kernel) (by decide) (fun _ _ h => by rw [h.1]; rfl) (fun _ U U' hal hh h => ⟨h.1, h.2.mv hal hh⟩) (fun r U U' V V' h1 hal h2 h => XT.PureE.mv r U U' V V' h1 hal h2 h) ?_
  intro p e s m args below meth c s₁ X0 hexec hbytes hml hret hlk hnm hown hh0 W hP
  obtain ⟨rfl, hB⟩ := hP
  have hB0 := hB.mv X0.warmed.alike hh0
  have c1 : Steps p.tables e below (s₁.setTop (entryFrame m #[.ref d, .int (Int32.ofNat B.slots.size)] 2)) (s₁.setTop (mkF m 0 #[.val (.ref d), .val (.int (Int32.ofNat B.slots.size))] [])) := entry rfl
  have c2 : Steps p.tables e below (s₁.setTop (entryFrame m #[.ref d, .int (Int32.ofNat B.slots.size)] 2)) (s₁.setTop (mkF m 2 #[.val (.ref d), .val (.int (Int32.ofNat B.slots.size))] [.ref d, .int (Int32.ofNat B.slots.size)])) := c1.trans (by
    refine XS.iloadN X0.here hexec rfl (hb hbytes d0) rfl ?_
    refine XS.aloadN X0.here hexec rfl (hb hbytes d1) rfl rfl ?_
    exact Steps.refl _)
  have c3 : Steps p.tables e below (s₁.setTop (entryFrame m #[.ref d, .int (Int32.ofNat B.slots.size)] 2)) (s₁.setTop (mkF m 8 #[.val (.ref d), .val (.int (Int32.ofNat B.slots.size))] [.int (lo8 (ushr (Int32.ofNat B.slots.size - Int32.ofNat B.slots.size) 31))])) := c2.trans (by
    refine X0.alen hexec hB0 rfl rfl (hb hbytes d2) ?_
    refine XS.isub X0.here hexec rfl (hb hbytes d3) rfl ?_
    refine bipushV X0.here hexec rfl 31 (hb hbytes d4) (by decide) ?_
    refine iushr X0.here hexec rfl (hb hbytes d6) rfl ?_
    refine i2b X0.here hexec rfl (hb hbytes d7) rfl ?_
    exact Steps.refl _)
  have e0 : lo8 (ushr (Int32.ofNat B.slots.size - Int32.ofNat B.slots.size) 31) = 0 := by rw [Int32.sub_self]; decide
  rw [e0] at c3
  exact ⟨s₁, some (.int 0), _, _, _, X0, rfl, rfl, rfl, (fun h => by cases h), ⟨rfl, hh0⟩, fun fs hl => c3.trans (X0.ireturnOut hexec hret rfl (Or.inr (Or.inr (Or.inl rfl))) (hb hbytes d8) hl)⟩
end CodL
/-- the String at a is Latin-1 over a new byte[] (the heap's one new cell): the low bytes of the len chars of A from o on; every cell but a is kept -/
def Got (a : Addr) (D : Cell) (fV fC : Field) (A : Cell) (o len : Nat) (r : Option Value) (s u : State) : Prop := r = none ∧ ∃ D' V : Cell, Blank "java/lang/String" a D' u ∧ Same D D' [fV.slot, fC.slot] ∧ D'.slots[fV.slot]? = some (.ref s.heap.size) ∧ D'.slots[fC.slot]? = some (.int 0) ∧ Arr .byte s.heap.size V u ∧ V.vm = .none ∧ u.vm.findClass "[B" = some V.cls ∧ V.slots.size = len ∧ (∀ j, j < len → V.slots[j]? = some (.int (lo8 (cv A (o + j))))) ∧ (∀ (y : Addr) (c : Cell), y ≠ a → s.heap[y]? = some c → u.heap[y]? = some c) ∧ u.heap.size = s.heap.size + 1
theorem Got.mv {a : Addr} {D A : Cell} {fV fC : Field} {o len : Nat} : ∀ r (U U' V V' : State), U'.heap = U.heap → V.vm.Alike V'.vm → V'.heap = V.heap → Got a D fV fC A o len r U V → Got a D fV fC A o len r U' V' :=
  fun r U U' V V' h1 hal h2 ⟨e0, D', X, a1, a2, a3, a4, a5, a6, a7, a8, a9, a10, a11⟩ => ⟨e0, D', X, a1.mv hal h2, a2, by rw [h1]; exact a3, a4, by rw [h1]; exact a5.mv hal h2, a6, by rw [hal.findClass]; exact a7, a8, a9, by rw [h1, h2]; exact a10, by rw [h1, h2]; exact a11⟩
namespace New4
def yN : MethodName := ⟨"java/lang/String", "<init>", "([CIILjava/lang/Void;)V"⟩
abbrev yB : ByteArray := jdk_42_method_149_code
theorem d0 : decode yB 0 = .ok (.aload_n 0, 1) := by decide +kernel
theorem d1 : decode yB 1 = .ok (.invokespecial 1, 3) := by decide +kernel
theorem d4 : decode yB 4 = .ok (.iload_n 3, 1) := by decide +kernel
theorem d5 : decode yB 5 = .ok (.ifCond (.ne) 22, 3) := by decide +kernel
theorem d27 : decode yB 27 = .ok (.getstatic 38, 3) := by decide +kernel
theorem d30 : decode yB 30 = .ok (.ifCond (.eq) 28, 3) := by decide +kernel
theorem d33 : decode yB 33 = .ok (.aload_n 1, 1) := by decide +kernel
theorem d34 : decode yB 34 = .ok (.iload_n 2, 1) := by decide +kernel
theorem d35 : decode yB 35 = .ok (.iload_n 3, 1) := by decide +kernel
theorem d36 : decode yB 36 = .ok (.invokestatic 177, 3) := by decide +kernel
theorem d39 : decode yB 39 = .ok (.astore 5, 2) := by decide +kernel
theorem d41 : decode yB 41 = .ok (.aload_n 0, 1) := by decide +kernel
theorem d42 : decode yB 42 = .ok (.aload 5, 2) := by decide +kernel
theorem d44 : decode yB 44 = .ok (.iload_n 3, 1) := by decide +kernel
theorem d45 : decode yB 45 = .ok (.invokestatic 47, 3) := by decide +kernel
theorem d48 : decode yB 48 = .ok (.putfield 15, 3) := by decide +kernel
theorem d51 : decode yB 51 = .ok (.aload_n 0, 1) := by decide +kernel
theorem d52 : decode yB 52 = .ok (.aload 5, 2) := by decide +kernel
theorem d54 : decode yB 54 = .ok (.putfield 9, 3) := by decide +kernel
theorem d57 : decode yB 57 = .ok (.return_, 1) := by decide +kernel
def site : List Cond := [.fieldLink "java/lang/String" 38 "java/lang/String" "COMPACT_STRINGS" "Z", Cmp3.tab, CodL.tab, .laysFinal "java/lang/String" "java/lang/String" "value" "[B", .fieldLink "java/lang/String" 9 "java/lang/String" "value" "[B", .laysFinal "java/lang/String" "java/lang/String" "coder" "B", .fieldLink "java/lang/String" 15 "java/lang/String" "coder" "B"] ++ objW "java/lang/String" 1 ++ staticW "java/lang/String" 177 Cmp3.yN ++ staticW "java/lang/String" 47 CodL.yN
def tab : Cond := tabOf yN yB 6 none site
def P (a : Addr) (D : Cell) (fV fC : Field) (b : Addr) (A : Cell) (z : Int32) (o len : Nat) (args : Array Value) (s : State) : Prop := args = #[.ref a, .ref b, .int (Int32.ofNat o), .int (Int32.ofNat len), .null] ∧ Blank "java/lang/String" a D s ∧ Found "java/lang/String" "value" "[B" fV s ∧ Found "java/lang/String" "coder" "B" fC s ∧ Ch b A s ∧ StaticIs s "java/lang/String" "COMPACT_STRINGS" "Z" (.int z) ∧ ¬ z = 0 ∧ 0 < len ∧ o + len ≤ A.slots.size ∧ len ≤ 536870912 ∧ ∀ i, i < len → ¬ 255 < cv A (o + i)
def E (a : Addr) (D : Cell) (fV fC : Field) (A : Cell) (o len : Nat) (r : Option Value) (s u : State) : Prop := Got a D fV fC A o len r s u
/-- len > 0, no char of the range above 255: a Latin-1 String of their low bytes -/
theorem law (l : Launch) (a : Addr) (D : Cell) (fV fC : Field) (b : Addr) (A : Cell) (z : Int32) (o len : Nat) : Law l yN 5 4 2 35 yB 6 none site (P a D fV fC b A z o len) (E a D fV fC A o len) [⟨a, fC.slot⟩, ⟨a, fV.slot⟩] 1 len := by
  refine Law.of_walk (plainFor_of_name (by decide +kernel)) (by decide +kernel) (by decide +kernel) (by decide) (fun _ _ h => by rw [h.1]; rfl) (fun _ U U' hal hh h => ⟨h.1, h.2.1.mv hal hh, h.2.2.1.al hal, h.2.2.2.1.al hal, h.2.2.2.2.1.mv hal hh, h.2.2.2.2.2.1.there hal hh, h.2.2.2.2.2.2⟩) (fun r U U' V V' h1 hal h2 h => Got.mv r U U' V V' h1 hal h2 h) ?_
  intro p e s m args below meth c s₁ X0 hexec hbytes hml hret hlk hnm hown hh0 W hP
  obtain ⟨rfl, hB, f1, f2, hA, s1, hz, l0, l1, l2, hp⟩ := hP
  have a31 := hA.1.2.2.2
  have c1 : Steps p.tables e below (s₁.setTop (entryFrame m #[.ref a, .ref b, .int (Int32.ofNat o), .int (Int32.ofNat len), .null] 6)) (s₁.setTop (mkF m 0 #[.val (.ref a), .val (.ref b), .val (.int (Int32.ofNat o)), .val (.int (Int32.ofNat len)), .val .null, .unset] [])) := entry rfl
  have c2 : Steps p.tables e below (s₁.setTop (entryFrame m #[.ref a, .ref b, .int (Int32.ofNat o), .int (Int32.ofNat len), .null] 6)) (s₁.setTop (mkF m 1 #[.val (.ref a), .val (.ref b), .val (.int (Int32.ofNat o)), .val (.int (Int32.ofNat len)), .val .null, .unset] [.ref a])) := c1.trans (by
    refine XS.aloadN X0.here hexec rfl (hb hbytes d0) rfl rfl ?_
    exact Steps.refl _)
  obtain ⟨T3, X3, q3, st3⟩ := X0.oinit hexec hown (wks W (objW "java/lang/String" 1)) (g := (mkF m 1 #[.val (.ref a), .val (.ref b), .val (.int (Int32.ofNat o)), .val (.int (Int32.ofNat len)), .val .null, .unset] [.ref a])) rfl (by rw [hml]; rfl) (rest := []) rfl (hb hbytes d1) (W := 0) (by show 2 * 0 + 0 ≤ _; decide) (Nat.le_of_ble_eq_true rfl) (Nat.le_of_ble_eq_true rfl)
  have hh3 := q3.trans hh0
  have c4 : Steps p.tables e below (s₁.setTop (entryFrame m #[.ref a, .ref b, .int (Int32.ofNat o), .int (Int32.ofNat len), .null] 6)) (T3.setTop (mkF m 27 #[.val (.ref a), .val (.ref b), .val (.int (Int32.ofNat o)), .val (.int (Int32.ofNat len)), .val .null, .unset] [])) := (c2.trans (st3 _ (Steps.refl _))).trans (by
    refine XS.iloadN X3.here hexec rfl (hb hbytes d4) rfl ?_
    refine XS.ifYes X3.here hexec rfl (pc0 := 5) rfl (hb hbytes d5) rfl (i0_ne_t (nz32 (by omega) l0)) (by decide) rfl ?_
    exact Steps.refl _)
  obtain ⟨T5, X5, q5, st5⟩ := X3.sget hexec hown (wk W (.fieldLink "java/lang/String" 38 "java/lang/String" "COMPACT_STRINGS" "Z")) s1 (fun _ _ h => by rw [hh3]; exact h) (g := (mkF m 27 #[.val (.ref a), .val (.ref b), .val (.int (Int32.ofNat o)), .val (.int (Int32.ofNat len)), .val .null, .unset] [])) rfl (hb hbytes d27)
  have hh5 := q5.trans hh3
  have c6 : Steps p.tables e below (s₁.setTop (entryFrame m #[.ref a, .ref b, .int (Int32.ofNat o), .int (Int32.ofNat len), .null] 6)) (T5.setTop (mkF m 30 #[.val (.ref a), .val (.ref b), .val (.int (Int32.ofNat o)), .val (.int (Int32.ofNat len)), .val .null, .unset] [.int z])) := c4.trans (st5 _ (Steps.refl _))
  have c7 : Steps p.tables e below (s₁.setTop (entryFrame m #[.ref a, .ref b, .int (Int32.ofNat o), .int (Int32.ofNat len), .null] 6)) (T5.setTop (mkF m 36 #[.val (.ref a), .val (.ref b), .val (.int (Int32.ofNat o)), .val (.int (Int32.ofNat len)), .val .null, .unset] [.int (Int32.ofNat len), .int (Int32.ofNat o), .ref b])) := c6.trans (by
    refine XS.ifNo X5.here hexec rfl (hb hbytes d30) rfl (i0_eq_f hz) ?_
    refine XS.aloadN X5.here hexec rfl (hb hbytes d33) rfl rfl ?_
    refine XS.iloadN X5.here hexec rfl (hb hbytes d34) rfl ?_
    refine XS.iloadN X5.here hexec rfl (hb hbytes d35) rfl ?_
    exact Steps.refl _)
  obtain ⟨v8, T8, X8, E8, g8⟩ := X5.callS hexec (Cmp3.law l b A o len) hown (wks W (staticW "java/lang/String" 177 Cmp3.yN)) (wk W Cmp3.tab) (W := 0) (Nat.le_of_ble_eq_true rfl) (Nat.le_of_ble_eq_true rfl) (Nat.le_refl _) (by show 0 + len ≤ len; omega) (g := (mkF m 36 #[.val (.ref a), .val (.ref b), .val (.int (Int32.ofNat o)), .val (.int (Int32.ofNat len)), .val .null, .unset] [.int (Int32.ofNat len), .int (Int32.ofNat o), .ref b])) rfl (by rw [hml]; rfl) c7 (argsL := [.ref b, .int (Int32.ofNat o), .int (Int32.ofNat len)]) (rest := []) rfl rfl (by show 2 * 0 + 0 ≤ _; decide) (hb hbytes d36) (⟨rfl, hA.mv X5.warmed.alike hh5, l1, l2, hp⟩)
  obtain ⟨e8, z8⟩ := E8
  obtain ⟨rfl, N, n1, n2, n3, n4, n5, n6⟩ := NewArr.mv _ T5 s _ _ hh5.symm (Vm.Alike.refl _) rfl e8
  rw [hh5] at z8
  have hB1 := hB.keep X8.warmed.alike (n6 _ _ hB.1)
  have hne : s.heap.size ≠ a := (Nat.ne_of_lt (Array.getElem?_eq_some_iff.mp hB.1).1).symm
  have c9 : Steps p.tables e below (s₁.setTop (entryFrame m #[.ref a, .ref b, .int (Int32.ofNat o), .int (Int32.ofNat len), .null] 6)) (T8.setTop (mkF m 39 #[.val (.ref a), .val (.ref b), .val (.int (Int32.ofNat o)), .val (.int (Int32.ofNat len)), .val .null, .unset] [.ref s.heap.size])) := g8
  have c10 : Steps p.tables e below (s₁.setTop (entryFrame m #[.ref a, .ref b, .int (Int32.ofNat o), .int (Int32.ofNat len), .null] 6)) (T8.setTop (mkF m 45 #[.val (.ref a), .val (.ref b), .val (.int (Int32.ofNat o)), .val (.int (Int32.ofNat len)), .val .null, .val (.ref s.heap.size)] [.int (Int32.ofNat N.slots.size), .ref s.heap.size, .ref a])) := by
    have hc : Steps p.tables e below (s₁.setTop (entryFrame m #[.ref a, .ref b, .int (Int32.ofNat o), .int (Int32.ofNat len), .null] 6)) (T8.setTop (mkF m 45 #[.val (.ref a), .val (.ref b), .val (.int (Int32.ofNat o)), .val (.int (Int32.ofNat len)), .val .null, .val (.ref s.heap.size)] [.int (Int32.ofNat len), .ref s.heap.size, .ref a])) := c9.trans (by
      refine XS.astore X8.here hexec rfl (hb hbytes d39) rfl rfl rfl ?_
      refine XS.aloadN X8.here hexec rfl (hb hbytes d41) rfl rfl ?_
      refine XS.aload X8.here hexec rfl (hb hbytes d42) rfl rfl ?_
      refine XS.iloadN X8.here hexec rfl (hb hbytes d44) rfl ?_
      exact Steps.refl _)
    rw [n4]; exact hc
  obtain ⟨v11, T11, X11, E11, g11⟩ := X8.callS hexec (CodL.law l s.heap.size N) hown (wks W (staticW "java/lang/String" 47 CodL.yN)) (wk W CodL.tab) (W := 1) (Nat.le_of_ble_eq_true rfl) (Nat.le_of_ble_eq_true rfl) (Nat.le_refl _) (by show 0 + len + 0 ≤ len; omega) (g := (mkF m 45 #[.val (.ref a), .val (.ref b), .val (.int (Int32.ofNat o)), .val (.int (Int32.ofNat len)), .val .null, .val (.ref s.heap.size)] [.int (Int32.ofNat N.slots.size), .ref s.heap.size, .ref a])) rfl (by rw [hml]; rfl) c10 (argsL := [.ref s.heap.size, .int (Int32.ofNat N.slots.size)]) (rest := [.ref a]) rfl rfl (by show 2 * 0 + (1 + 0) ≤ _; decide) (hb hbytes d45) (⟨rfl, n1⟩)
  obtain ⟨rfl, q11⟩ := E11
  have hB11 := hB1.mv (X8.warmed.alike.symm.trans X11.warmed.alike) q11
  have c12 : Steps p.tables e below (s₁.setTop (entryFrame m #[.ref a, .ref b, .int (Int32.ofNat o), .int (Int32.ofNat len), .null] 6)) (T11.setTop (mkF m 48 #[.val (.ref a), .val (.ref b), .val (.int (Int32.ofNat o)), .val (.int (Int32.ofNat len)), .val .null, .val (.ref s.heap.size)] [.int 0, .ref a])) := g11
  obtain ⟨T13, X13, p13, bl13, sl13, st13⟩ := X11.finit hexec hown (wk W (.fieldLink "java/lang/String" 15 "java/lang/String" "coder" "B")) (Or.inr ⟨_, (wk W (.laysFinal "java/lang/String" "java/lang/String" "coder" "B"))⟩) (Or.inl ⟨rfl, hnm⟩) f2 (Or.inl rfl) hB11 (t := .byte) (by decide +kernel) rfl (g := (mkF m 48 #[.val (.ref a), .val (.ref b), .val (.int (Int32.ofNat o)), .val (.int (Int32.ofNat len)), .val .null, .val (.ref s.heap.size)] [.int 0, .ref a])) rfl (rest := []) rfl (hb hbytes d48)
  have c14 : Steps p.tables e below (s₁.setTop (entryFrame m #[.ref a, .ref b, .int (Int32.ofNat o), .int (Int32.ofNat len), .null] 6)) (T13.setTop (mkF m 54 #[.val (.ref a), .val (.ref b), .val (.int (Int32.ofNat o)), .val (.int (Int32.ofNat len)), .val .null, .val (.ref s.heap.size)] [.ref s.heap.size, .ref a])) := (c12.trans (st13 _ (Steps.refl _))).trans (by
    refine XS.aloadN X13.here hexec rfl (hb hbytes d51) rfl rfl ?_
    refine XS.aload X13.here hexec rfl (hb hbytes d52) rfl rfl ?_
    exact Steps.refl _)
  obtain ⟨T15, X15, p15, bl15, sl15, st15⟩ := X13.finit hexec hown (wk W (.fieldLink "java/lang/String" 9 "java/lang/String" "value" "[B")) (Or.inr ⟨_, (wk W (.laysFinal "java/lang/String" "java/lang/String" "value" "[B"))⟩) (Or.inl ⟨rfl, hnm⟩) f1 (Or.inl rfl) bl13 (t := (.array .byte)) (by decide +kernel) rfl (g := (mkF m 54 #[.val (.ref a), .val (.ref b), .val (.int (Int32.ofNat o)), .val (.int (Int32.ofNat len)), .val .null, .val (.ref s.heap.size)] [.ref s.heap.size, .ref a])) rfl (rest := []) rfl (hb hbytes d54)
  have c16 : Steps p.tables e below (s₁.setTop (entryFrame m #[.ref a, .ref b, .int (Int32.ofNat o), .int (Int32.ofNat len), .null] 6)) (T15.setTop (mkF m 57 #[.val (.ref a), .val (.ref b), .val (.int (Int32.ofNat o)), .val (.int (Int32.ofNat len)), .val .null, .val (.ref s.heap.size)] [])) := c14.trans (st15 _ (Steps.refl _))
  have ap := apart (Or.inr ⟨_, (wk W (.laysFinal "java/lang/String" "java/lang/String" "value" "[B"))⟩) (Or.inr ⟨_, (wk W (.laysFinal "java/lang/String" "java/lang/String" "coder" "B"))⟩) f1 f2 (t₁ := .array .byte) (t₂ := .byte) (by decide +kernel) (by decide +kernel) (by decide)
  have al := X8.warmed.alike.symm.trans X15.warmed.alike
  have n7 : T11.heap[s.heap.size]? = some N := by rw [q11]; exact n1.1
  exact ⟨T15, none, _, _, _, X15, by simp, rfl, by omega, (fun _ => rfl), ⟨rfl, _, N, bl15, ((Same.refl D _).set _ (by simp)).set _ (by simp), sl15, (Cell.slots_setSlot_ne _ ap).trans sl13, n1.keep al (p15.other hne (p13.other hne n7)), n2, by rw [al.findClass]; exact n3, n4, n5, fun y c h1 h2 => p15.other h1 (p13.other h1 (by rw [q11]; exact n6 y c h2)), by rw [p15.2.2, p13.2.2, q11]; exact z8⟩, fun fs hl => c16.trans (X15.returnOut hexec hret (hb hbytes d57) hl)⟩
end New4
namespace New1
def yN : MethodName := ⟨"java/lang/String", "<init>", "([C)V"⟩
abbrev yB : ByteArray := jdk_42_method_3_code
theorem d0 : decode yB 0 = .ok (.aload_n 0, 1) := by decide +kernel
theorem d1 : decode yB 1 = .ok (.aload_n 1, 1) := by decide +kernel
theorem d2 : decode yB 2 = .ok (.iconst 0, 1) := by decide +kernel
theorem d3 : decode yB 3 = .ok (.aload_n 1, 1) := by decide +kernel
theorem d4 : decode yB 4 = .ok (.arraylength, 1) := by decide +kernel
theorem d5 : decode yB 5 = .ok (.aconst_null, 1) := by decide +kernel
theorem d6 : decode yB 6 = .ok (.invokespecial 27, 3) := by decide +kernel
theorem d9 : decode yB 9 = .ok (.return_, 1) := by decide +kernel
def site : List Cond := [New4.tab] ++ initW "java/lang/String" 27 New4.yN
def tab : Cond := tabOf yN yB 2 none site
def P (a : Addr) (D : Cell) (fV fC : Field) (b : Addr) (A : Cell) (z : Int32) (args : Array Value) (s : State) : Prop := args = #[.ref a, .ref b] ∧ Blank "java/lang/String" a D s ∧ Found "java/lang/String" "value" "[B" fV s ∧ Found "java/lang/String" "coder" "B" fC s ∧ Ch b A s ∧ StaticIs s "java/lang/String" "COMPACT_STRINGS" "Z" (.int z) ∧ ¬ z = 0 ∧ 0 < A.slots.size ∧ A.slots.size ≤ 536870912 ∧ ∀ i, i < A.slots.size → ¬ 255 < cv A i
def E (a : Addr) (D : Cell) (fV fC : Field) (A : Cell) (r : Option Value) (s u : State) : Prop := Got a D fV fC A 0 A.slots.size r s u
/-- new String(chars), not empty, no char above 255: a Latin-1 String of their low bytes -/
theorem law (l : Launch) (a : Addr) (D : Cell) (fV fC : Field) (b : Addr) (A : Cell) (z : Int32) : Law l yN 2 1 3 52 yB 2 none site (P a D fV fC b A z) (E a D fV fC A) [⟨a, fC.slot⟩, ⟨a, fV.slot⟩] 1 A.slots.size := by
  refine Law.of_walk (plainFor_of_name (by decide +kernel)) (by decide +kernel) (by decide +kernel) (by decide) (fun _ _ h => by rw [h.1]; rfl) (fun _ U U' hal hh h => ⟨h.1, h.2.1.mv hal hh, h.2.2.1.al hal, h.2.2.2.1.al hal, h.2.2.2.2.1.mv hal hh, h.2.2.2.2.2.1.there hal hh, h.2.2.2.2.2.2⟩) (fun r U U' V V' h1 hal h2 h => Got.mv r U U' V V' h1 hal h2 h) ?_
  intro p e s m args below meth c s₁ X0 hexec hbytes hml hret hlk hnm hown hh0 W hP
  obtain ⟨rfl, hB, f1, f2, hA, s1, hz, l0, l2, hp⟩ := hP
  have c1 : Steps p.tables e below (s₁.setTop (entryFrame m #[.ref a, .ref b] 2)) (s₁.setTop (mkF m 0 #[.val (.ref a), .val (.ref b)] [])) := entry rfl
  have c2 : Steps p.tables e below (s₁.setTop (entryFrame m #[.ref a, .ref b] 2)) (s₁.setTop (mkF m 6 #[.val (.ref a), .val (.ref b)] [.null, .int (Int32.ofNat A.slots.size), .int 0, .ref b, .ref a])) := c1.trans (by
    refine XS.aloadN X0.here hexec rfl (hb hbytes d0) rfl rfl ?_
    refine XS.aloadN X0.here hexec rfl (hb hbytes d1) rfl rfl ?_
    refine iconstV X0.here hexec rfl 0 (hb hbytes d2) (by decide) ?_
    refine XS.aloadN X0.here hexec rfl (hb hbytes d3) rfl rfl ?_
    refine X0.alen hexec (hA.1.mv X0.warmed.alike hh0) rfl rfl (hb hbytes d4) ?_
    refine XS.aconstNull X0.here hexec rfl (hb hbytes d5) ?_
    exact Steps.refl _)
  obtain ⟨v3, T3, X3, E3, g3⟩ := X0.callN hexec (New4.law l a D fV fC b A z 0 A.slots.size) rfl hown (wks W (initW "java/lang/String" 27 New4.yN)) (W New4.tab (by simp only [site, List.mem_cons, List.mem_append, true_or, or_true])) (W := 0) (Nat.le_of_ble_eq_true rfl) (Nat.le_of_ble_eq_true rfl) (Nat.le_refl _) (by show 0 + A.slots.size ≤ A.slots.size; omega) (g := (mkF m 6 #[.val (.ref a), .val (.ref b)] [.null, .int (Int32.ofNat A.slots.size), .int (Int32.ofNat 0), .ref b, .ref a])) rfl (by rw [hml]; rfl) c2 (argsL := [.ref b, .int (Int32.ofNat 0), .int (Int32.ofNat A.slots.size), .null]) (rest := []) rfl rfl (by show 2 * 0 + 0 ≤ _; decide) (hb hbytes d6) (⟨rfl, hB.mv X0.warmed.alike hh0, f1.al X0.warmed.alike, f2.al X0.warmed.alike, hA.mv X0.warmed.alike hh0, s1.there X0.warmed.alike hh0, hz, l0, by omega, l2, fun i hi => by rw [Nat.zero_add]; exact hp i hi⟩)
  have e0 := Got.mv _ s₁ s _ _ hh0.symm (Vm.Alike.refl _) rfl E3
  obtain rfl := e0.1
  have c4 : Steps p.tables e below (s₁.setTop (entryFrame m #[.ref a, .ref b] 2)) (T3.setTop (mkF m 9 #[.val (.ref a), .val (.ref b)] [])) := g3
  exact ⟨T3, none, _, _, _, X3, by simp, rfl, by omega, (fun _ => rfl), e0, fun fs hl => c4.trans (X3.returnOut hexec hret (hb hbytes d9) hl)⟩
theorem pays {l : Launch} {R : Room} {p : Program} {e : Env} {below : List Frame} {s : State} {sargs : Array Value} {len W : Nat} (a : Addr) (D : Cell) (fV fC : Field) (b : Addr) (A : Cell) (z : Int32) (htab : tab.before sargs s = true) (hfr : 4 ≤ R.frames) (hlo : W + 65 ≤ R.locals) :
    Back l R p e below s sargs yN len W (fun A₁ a₁ => A₁.cells + 1 ≤ R.cells ∧ A₁.slots + A.slots.size ≤ R.slots ∧ P a D fV fC b A z a₁ A₁.U) (fun A₁ _ v₁ B₁ => E a D fV fC A v₁ A₁.U B₁.U ∧ B₁.locs = A₁.locs ++ [⟨a, fC.slot⟩, ⟨a, fV.slot⟩] ∧ B₁.cells = A₁.cells + 1 ∧ B₁.slots = A₁.slots + A.slots.size) :=
  (law l a D fV fC b A z).pays htab hfr (by omega)
end New1
/-- the byte, read back as charAt reads it, is the char -/
theorem lo8_mask {x : Int32} (h0 : ¬ x < 0) (h1 : ¬ 255 < x) : lo8 x &&& 255 = x := by
  have t : ∀ k : Fin 256, lo8 (Int32.ofNat k.val) &&& 255 = Int32.ofNat k.val := by decide +kernel
  rw [Int32.lt_iff_toInt_lt] at h0 h1
  have e0 : (0 : Int32).toInt = 0 := rfl
  have e1 : (255 : Int32).toInt = 255 := rfl
  obtain ⟨k, hk⟩ : ∃ k : Nat, x.toInt = k := ⟨x.toInt.toNat, by omega⟩
  have hx : x = Int32.ofNat k := Int32.toInt_inj.mp (by rw [hk, Int32.toInt_ofNat_small (by omega)])
  rw [hx]
  exact t ⟨k, by omega⟩
end StrChars
namespace StrChars.Road
open Jvm Sem ClassFile Op Lib Jvm.Stand Jvm.Free Jvm.Free.XT
open Jvm.Lib.Cold (StaticIs)
abbrev ST : String := "java/lang/String"
/-- every table word that New1's law asks, flat -/
abbrev words : List Jvm.Cond := [.code New1.yN New1.yB 2 none, .initialized ST, .methodLink ST 27 New4.yN, .instanceMethod New4.yN,
  .code New4.yN New4.yB 6 none, .fieldLink ST 38 ST "COMPACT_STRINGS" "Z", .laysFinal ST ST "value" "[B", .fieldLink ST 9 ST "value" "[B", .laysFinal ST ST "coder" "B", .fieldLink ST 15 ST "coder" "B",
  .methodLink ST 1 Lib.objectInit, .instanceMethod Lib.objectInit, .code Lib.objectInit ⟨#[0xb1]⟩ 1 none, .methodLink ST 177 Cmp3.yN, .static Cmp3.yN, .methodLink ST 47 CodL.yN, .static CodL.yN,
  .code Cmp3.yN Cmp3.yB 6 (some (.array .byte)), .initialized U16, .arrayClass .byte, .methodLink U16 115 Cmp5.yN, .static Cmp5.yN, .code Cmp5.yN Cmp5.yB 7 (some .int), .code CodL.yN CodL.yB 2 (some .byte)]
theorem tab_of {a : Array Value} {s : State} (h : ∀ w ∈ words, w.before a s = true) : New1.tab.before a s = true := by
  have h5 : Cmp5.tab.before a s = true := unparts (wk h (.code Cmp5.yN Cmp5.yB 7 (some .int))) (wks h (.initialized Cmp5.yN.cls :: Cmp5.site))
  have hc : CodL.tab.before a s = true := unparts (wk h (.code CodL.yN CodL.yB 2 (some .byte))) (wks h (.initialized CodL.yN.cls :: CodL.site))
  have q5 : ∀ w ∈ Cmp5.tab :: words, w.before a s = true := fun w hw => (List.mem_cons.mp hw).elim (fun e => e ▸ h5) (h w)
  have h3 : Cmp3.tab.before a s = true := unparts (wk q5 (.code Cmp3.yN Cmp3.yB 6 (some (.array .byte)))) (wks q5 (.initialized Cmp3.yN.cls :: Cmp3.site))
  have q3 : ∀ w ∈ Cmp3.tab :: CodL.tab :: words, w.before a s = true := fun w hw => (List.mem_cons.mp hw).elim (fun e => e ▸ h3) fun hw => (List.mem_cons.mp hw).elim (fun e => e ▸ hc) (h w)
  have h4 : New4.tab.before a s = true := unparts (wk q3 (.code New4.yN New4.yB 6 none)) (wks q3 (.initialized New4.yN.cls :: New4.site))
  have q4 : ∀ w ∈ New4.tab :: words, w.before a s = true := fun w hw => (List.mem_cons.mp hw).elim (fun e => e ▸ h4) (h w)
  exact unparts (wk q4 (.code New1.yN New1.yB 2 none)) (wks q4 (.initialized New1.yN.cls :: New1.site))
/-- the words ride from the start Z to the walk's own state -/
theorem moved {Z s : State} {a0 args : Array Value} (hZ : Z.Warmed39 s.vm) (hw : ∀ d ∈ words, d.before a0 Z = true) : ∀ d ∈ words, d.before args s = true := fun d hd => by
  have q := hw d hd
  have t : ∀ d ∈ words, d = .arrayClass .byte ∨ (d.onTables && d.keepsFace) = true := by decide +kernel
  rcases t d hd with rfl | t
  · exact RoadKit.mvA hZ q
  · exact RoadKit.mv hZ q t
/-- WHAT COMES BACK, over the tables of the start Z: h the heap at the call, h' behind it -/
def Q (Z : State) (x : Addr) (A : Cell) (h : Heap) (v : Option Value) (h' : Heap) (L : List Loc) : Prop := v = none ∧ (∀ y ∈ L, y.base = x) ∧ RoadKit.Keep h h' [x] ∧ h'.size = h.size + 1 ∧ RoadKit.Exa Z h' x ST ∧ RoadKit.Fld Z h' x ST "value" "[B" (.ref h.size) ∧ RoadKit.Fld Z h' x ST "coder" "B" (.int 0) ∧
  (∃ V : Cell, RoadKit.Arr Z h' h.size V .byte ∧ V.vm = .none ∧ Z.vm.findClass "[B" = some V.cls ∧ V.slots.size = A.slots.size ∧ ∀ j, j < A.slots.size → V.slots[j]? = some (.int (lo8 (cv A j)))) ∧
  ∀ (O n d : String) (w : Value), RoadKit.Fld Z h x O n d w → RoadKit.slotOf Z O n d ≠ RoadKit.slotOf Z ST "value" "[B" → RoadKit.slotOf Z O n d ≠ RoadKit.slotOf Z ST "coder" "B" → RoadKit.Fld Z h' x O n d w
/-- **new String(chars) AT A CALL, IN THE ROAD'S FORM**: for specialBack behind newO: x the fresh String, b the char[] with the cell A -/
theorem back {p : Program} {l : Launch} {e : Env} {R : Room} {s : State} {args : Array Value} {below : List Frame} {len W : Nat} {Z : State} {a0 : Array Value} {h : Heap} (hZ : Z.Warmed39 s.vm) (hw : ∀ d ∈ words, d.before a0 Z = true) {kI : Nat} (wi : (Jvm.Cond.instantiable ST kI).before a0 Z = true)
    {x b : Addr} {A : Cell} {z : Int32} {v0 c0 : Value} (E : RoadKit.Exa Z h x ST) (V : RoadKit.Fld Z h x ST "value" "[B" v0) (C : RoadKit.Fld Z h x ST "coder" "B" c0) (K : RoadKit.Arr Z h b A .char) (hty : Typed .char A) (S : RoadKit.Sta Z h ST "COMPACT_STRINGS" "Z" (.int z)) (hz : ¬ z = 0)
    (l0 : 0 < A.slots.size) (l2 : A.slots.size ≤ 536870912) (hp : ∀ i, i < A.slots.size → ¬ 255 < cv A i) (hfr : 4 ≤ R.frames) (hlo : W + 65 ≤ R.locals) :
    Back l R p e below s args New1.yN len W (fun P a => a = #[.ref x, .ref b] ∧ P.U.heap = h ∧ P.cells + 1 ≤ R.cells ∧ P.slots + A.slots.size ≤ R.slots)
      (fun P _ v B => ∃ L, Q Z x A h v B.U.heap L ∧ B.locs = P.locs ++ L ∧ B.cells = P.cells + 1 ∧ B.slots = P.slots + A.slots.size) := by
  intro m meth c P g ig mk a X hg hsize hdg hW hn hp'
  obtain ⟨rfl, rfl, r1, r2⟩ := hp'
  have al : Z.vm.Alike P.U.vm := hZ.alike.trans X.warmed.alike
  obtain ⟨D, cfV, kV, iV, fV, hD, gV, stV, knV, obV, asV, slV⟩ := id V
  obtain ⟨D', cfC, kC, iC, fC, hD', gC, stC, -, -, asC, slC⟩ := id C
  cases hD.symm.trans hD'
  obtain ⟨D2, kD, e1, e2, e3, e4, e5⟩ := id E
  cases hD.symm.trans e1
  obtain ⟨c2, k2, i1, i2, i3, -⟩ := Cond.instantiable_spec wi
  cases e2.symm.trans i1
  cases e3.symm.trans i2
  obtain ⟨kU, u1, u2⟩ := al.2.2 _ _ e3
  have hB : Blank ST x D P.U := ⟨hD, ⟨knV, fun q hq => by rw [hq] at obV; cases obV⟩, by rw [al.findClass]; exact e2, kU, u1, by rw [u2]; exact i3, by rw [u2]; exact e5 i3⟩
  have F1 : Found ST "value" "[B" fV P.U := ⟨SBG.found_only al ⟨cfV, kV, iV, gV⟩, stV⟩
  have F2 : Found ST "coder" "B" fC P.U := ⟨SBG.found_only al ⟨cfC, kC, iC, gC⟩, stC⟩
  have hA : Ch b A P.U := ⟨⟨K.1, State.isArrayOf_alike al K.2.1, K.2.2, by omega⟩, hty⟩
  have hS : StaticIs P.U ST "COMPACT_STRINGS" "Z" (.int z) := by
    obtain ⟨cfS, iS, kS, fS, st, cS, t1, t2, t3, t4, t5, t6, t7⟩ := S
    exact StaticIs.there (s := { Z with heap := P.U.heap }) ⟨cfS, iS, kS, fS, st, cS, t1, t2, t3, t4, t5, (fun q => by rw [q] at t6; cases t6), t7⟩ al rfl
  obtain ⟨v, B, X', ⟨⟨hv, E', V', q1, q2, q3, q4, q5, q6, q7, q8, q9, q10, q11⟩, hl, hc, hs⟩, st⟩ := New1.pays x D fV fC b A z (tab_of (moved hZ hw)) hfr hlo m meth c P g ig mk _ X hg hsize hdg hW hn ⟨r1, r2, rfl, hB, F1, F2, hA, hS, hz, l0, l2, hp⟩
  have al' : Z.vm.Alike B.U.vm := hZ.alike.trans X'.warmed.alike
  have hsz : E'.slots.size = D.slots.size := by
    obtain ⟨-, -, -, kB, w1, w2, w3⟩ := q1
    obtain ⟨kB', y1, y2⟩ := al'.2.2 _ _ e3
    rw [q2.2.1] at w1
    cases w1.symm.trans y1
    rw [w3, e5 i3, y2]
  refine ⟨v, B, X', ⟨_, ⟨hv, ?_, ⟨by omega, fun y cy hy hn' => q10 y cy (by simpa using hn') hy, fun y cy hy => ?_⟩, q11, ⟨E', _, q1.1, by rw [q2.2.1]; exact e2, by rw [q2.2.1]; exact e3, by rw [q2.1]; exact obV, fun _ => by rw [hsz]; exact e5 i3⟩,
    ⟨E', cfV, kV, iV, fV, q1.1, gV, stV, by rw [q2.1]; exact knV, by rw [q2.1]; exact obV, by rw [q2.2.1]; exact asV, q3⟩, ⟨E', cfC, kC, iC, fC, q1.1, gC, stC, by rw [q2.1]; exact knV, by rw [q2.1]; exact obV, by rw [q2.2.1]; exact asC, q4⟩,
    ⟨V', ⟨q5.1, State.isArrayOf_alike al'.symm q5.2.1, q5.2.2.1⟩, q6, by rw [← al'.findClass]; exact q7, q8, fun j hj => by have := q9 j hj; rwa [Nat.zero_add] at this⟩, fun O n d w F n1 n2 => ?_⟩, hl, hc, hs⟩, st⟩
  · intro y hy
    simp only [List.mem_cons, List.not_mem_nil, or_false] at hy
    rcases hy with rfl | rfl <;> rfl
  · by_cases q : y = x
    · subst q
      cases hD.symm.trans hy
      exact ⟨E', q1.1, q2.2.1, q2.1, hsz⟩
    · exact ⟨cy, q10 y cy q hy, rfl, rfl, rfl⟩
  · obtain ⟨D3, cf, k, i, f, g1, g2, g3, g4, g5, g6, g7⟩ := F
    cases hD.symm.trans g1
    simp only [RoadKit.slotOf, g2, gV, gC, Option.map_some, Option.getD_some] at n1 n2
    exact ⟨E', cf, k, i, f, q1.1, g2, g3, by rw [q2.1]; exact g4, by rw [q2.1]; exact g5, by rw [q2.2.1]; exact g6, by rw [q2.2.2 f.slot (by simp [n1, n2])]; exact g7⟩
end StrChars.Road
namespace StrChars.Road
open Jvm Sem ClassFile Op Lib Jvm.Stand Jvm.Free Jvm.Free.XT
/-- WHAT COMES BACK, the byte[] as a list of values -/
def QA (Z : State) (x : Addr) (zn : Int32) (cs : List Int32) (h : Heap) (v : Option Value) (h' : Heap) (L : List Loc) : Prop := v = none ∧ (∀ y ∈ L, y.base = x) ∧ RoadKit.Keep h h' [x] ∧ h'.size = h.size + 1 ∧ RoadKit.Exa Z h' x ST ∧ RoadKit.Fld Z h' x ST "value" "[B" (.ref h.size) ∧ RoadKit.Fld Z h' x ST "coder" "B" (.int 0) ∧
  (∃ kb, Z.vm.findClass "[B" = some kb ∧ RoadKit.Arv Z h' h.size kb .byte zn (cs.map fun c => .int (lo8 c)) (.int 0)) ∧
  ∀ (O n d : String) (w : Value), RoadKit.Fld Z h x O n d w → RoadKit.slotOf Z O n d ≠ RoadKit.slotOf Z ST "value" "[B" → RoadKit.slotOf Z O n d ≠ RoadKit.slotOf Z ST "coder" "B" → RoadKit.Fld Z h' x O n d w
/-- **new String(chars) AT A CALL, THE ARRAYS AS LISTS**: the char[] at b holds cs, not empty, no char above 255 -/
theorem backArv {p : Program} {l : Launch} {e : Env} {R : Room} {s : State} {args : Array Value} {below : List Frame} {len W : Nat} {Z : State} {a0 : Array Value} {h : Heap} (hZ : Z.Warmed39 s.vm) (hw : ∀ d ∈ words, d.before a0 Z = true) {kI : Nat} (wi : (Jvm.Cond.instantiable ST kI).before a0 Z = true)
    {x b : Addr} {k : ClassId} {zn z : Int32} {cs : List Int32} {dv v0 c0 : Value} (E : RoadKit.Exa Z h x ST) (V : RoadKit.Fld Z h x ST "value" "[B" v0) (C : RoadKit.Fld Z h x ST "coder" "B" c0) (K : RoadKit.Arv Z h b k .char zn (cs.map Value.int) dv) (S : RoadKit.Sta Z h ST "COMPACT_STRINGS" "Z" (.int z)) (hz : ¬ z = 0)
    (hlen : zn.toNatClampNeg = cs.length) (h0 : 0 < cs.length) (hbig : cs.length ≤ 536870912) (hall : ∀ c ∈ cs, ¬ 255 < c) (hfr : 4 ≤ R.frames) (hlo : W + 65 ≤ R.locals) :
    Back l R p e below s args New1.yN len W (fun P a => a = #[.ref x, .ref b] ∧ P.U.heap = h ∧ P.cells + 1 ≤ R.cells ∧ P.slots + cs.length ≤ R.slots)
      (fun P _ v B => ∃ L, QA Z x zn cs h v B.U.heap L ∧ B.locs = P.locs ++ L ∧ B.cells = P.cells + 1 ∧ B.slots = P.slots + cs.length) := by
  obtain ⟨A, K1, K2, K3, K4, K5, K6⟩ := K
  have e : A.slots.size = cs.length := K3.trans hlen
  have hat : ∀ (i : Nat) (hi : i < cs.length), A.slots[i]? = some (.int cs[i]) := fun i hi => by rw [K5 i (by omega)]; simp [List.getD_eq_getElem?_getD, hi]
  have hcv : ∀ (i : Nat) (hi : i < cs.length), cv A i = cs[i] := fun i hi => by unfold cv; rw [hat i hi]
  have hty : Typed .char A := fun i v hv => by
    have hi : i < A.slots.size := (Array.getElem?_eq_some_iff.mp hv).1
    have q := K5 i hi
    rw [hv] at q
    rw [Option.some.inj q]
    exact K6 i hi
  refine Back.mono (back hZ hw wi E V C K1 hty S hz (by omega) (by omega) (fun i hi => by rw [hcv i (by omega)]; exact hall _ (List.getElem_mem _)) hfr hlo) (fun P a hp => ⟨hp.1, hp.2.1, hp.2.2.1, by rw [e]; exact hp.2.2.2⟩) (fun P a v B hp hq => ?_)
  obtain ⟨L, ⟨q1, q2, q3, q4, q5, q6, q7, ⟨V', v1, v2, v3, v4, v5⟩, q9⟩, hl, hc, hs⟩ := hq
  refine ⟨L, ⟨q1, q2, q3, q4, q5, q6, q7, ⟨V'.cls, v3, V', v1, rfl, by rw [v4, e, hlen], K4, fun i hi => ?_, fun i hi => ?_⟩, q9⟩, hl, hc, by rw [hs, e]⟩
  · have hi' : i < cs.length := by omega
    rw [v5 i (by omega), hcv i hi']; simp [List.getD_eq_getElem?_getD, hi']
  · have hi' : i < cs.length := by omega
    simp only [List.getD_eq_getElem?_getD, List.getElem?_map, List.getElem?_eq_getElem hi', Option.map_some, Option.getD_some]
    exact fits_lo8 _
end StrChars.Road
namespace StrChars.Road
open Jvm Sem ClassFile Op Lib Jvm.Stand Jvm.Free Jvm.Free.XT
/-- WHAT COMES BACK, in the writer's own shape -/
def QV (Z : State) (x : Addr) (N : Int32) (bs : List Int32) (h : Heap) (n0 : Nat) (v : Option Value) (h' : Heap) (L : List Loc) : Prop := v = none ∧ RoadKit.Fr n0 L ∧ RoadKit.Keep h h' [x] ∧ RoadKit.Exa Z h' x ST ∧ RoadKit.Fld Z h' x ST "coder" "B" (.int 0) ∧
  ∃ (t : Addr) (kb : ClassId), n0 ≤ t ∧ h.size ≤ t ∧ ¬ t = x ∧ RoadKit.Fld Z h' x ST "value" "[B" (.ref t) ∧ RoadKit.Arv Z h' t kb .byte N (bs.map Value.int) (.int 0)
/-- **new String(chars) AT A CALL, FOR THE WRITER**: a char[] of n known ints, each 0 to 255 -/
theorem backV {p : Program} {l : Launch} {e : Env} {R : Room} {s : State} {args : Array Value} {below : List Frame} {len W : Nat} {Z : State} {a0 : Array Value} {h : Heap} (hZ : Z.Warmed39 s.vm) (hw : ∀ d ∈ words, d.before a0 Z = true) {kI : Nat} (wi : (Jvm.Cond.instantiable ST kI).before a0 Z = true)
    {x b : Addr} {kC : ClassId} {cs bs : List Int32} {d v0 c0 : Value} {z N : Int32} {n n0 : Nat} (hx0 : n0 ≤ x) (hh0 : n0 ≤ h.size) (E : RoadKit.Exa Z h x ST) (V : RoadKit.Fld Z h x ST "value" "[B" v0) (C : RoadKit.Fld Z h x ST "coder" "B" c0) (K : RoadKit.Arv Z h b kC .char N (cs.map Value.int) d) (S : RoadKit.Sta Z h ST "COMPACT_STRINGS" "Z" (.int z)) (hz : ¬ z = 0)
    (hn : cs.length = n) (hN : N = Int32.ofNat n) (l0 : 0 < n) (l2 : n ≤ 4000) (hp : ∀ c ∈ cs, ¬ c < 0 ∧ ¬ (255 : Int32) < c) (hb : bs = cs.map (fun c => c.toInt8.toInt32)) (hfr : 4 ≤ R.frames) (hlo : W + 65 ≤ R.locals) :
    Back l R p e below s args (⟨"java/lang/String", "<init>", "([C)V"⟩ : MethodName) len W (fun P a => a = #[.ref x, .ref b] ∧ P.U.heap = h ∧ P.cells + 1 ≤ R.cells ∧ P.slots + n ≤ R.slots)
      (fun P _ v B => ∃ L, QV Z x N bs h n0 v B.U.heap L ∧ B.locs = P.locs ++ L ∧ B.cells = P.cells + 1 ∧ B.slots = P.slots + n) := by
  subst hn hN hb
  refine Back.mono (backArv hZ hw wi E V C K S hz (n32 (by omega)) l0 (by omega) (fun c hc => (hp c hc).2) hfr hlo) (fun P a hp => hp) (fun P a v B hp hq => ?_)
  obtain ⟨L, ⟨q1, q2, q3, q4, q5, q6, q7, ⟨kb, v1, v2⟩, q9⟩, hl, hc, hs⟩ := hq
  exact ⟨L, ⟨q1, fun y hy => by rw [q2 y hy]; exact hx0, q3, q5, q7, h.size, kb, hh0, Nat.le_refl _, Nat.ne_of_gt E.lt, q6, by rw [List.map_map]; exact v2⟩, hl, hc, hs⟩
end StrChars.Road
namespace StrChars
open Jvm Sem ClassFile Op Lib Jvm.Stand Jvm.Free.XT Jvm.Free.ALB Jvm.Free.JM Jvm.Free
open Jvm.Lib.Cold (StaticIs)
def hi8 (x : Int32) : Int32 := lo8 (x >>> ((8 : Int32) &&& 31))
/-- what StringUTF16.getChar makes of two bytes -/
def pairCh (u v : Int32) : Int32 := (((u &&& 255) <<< ((0 : Int32) &&& 31)) ||| ((v &&& 255) <<< ((8 : Int32) &&& 31))).toUInt32.toUInt16.toUInt32.toInt32
theorem shr0 (c : Int32) : c >>> ((0 : Int32) &&& 31) = c := by
  have e : ((0 : Int32) &&& 31) = 0 := by decide
  rw [e]
  apply Int32.toBitVec_inj.mp
  rw [Int32.toBitVec_shiftRight]
  have e1 : ((0 : Int32).toBitVec.smod 32) = 0#32 := by decide
  rw [e1, BitVec.sshiftRight_eq']
  exact BitVec.sshiftRight_zero
theorem lo8_and (x : Int32) : (lo8 x &&& 255).toBitVec.toNat = x.toBitVec.toNat % 256 := by
  have h : (lo8 x).toBitVec = (x.toBitVec.signExtend 8).signExtend 32 := by rw [lo8, Int8.toBitVec_toInt32, Int32.toBitVec_toInt8]
  rw [Int32.toBitVec_and, BitVec.toNat_and, h]
  have e : ((x.toBitVec.signExtend 8).signExtend 32).toNat % 256 = x.toBitVec.toNat % 256 := by
    rw [BitVec.toNat_signExtend]
    have hlt := x.toBitVec.isLt
    simp only [BitVec.toNat_setWidth, BitVec.toNat_signExtend]
    split <;> split <;> omega
  rw [← e]
  exact Nat.and_two_pow_sub_one_eq_mod _ 8
theorem pair_says {c : Int32} (h0 : ¬ c < 0) (h1 : ¬ 65535 < c) : pairCh (lo8 c) (hi8 c) = c := by
  rw [Int32.lt_iff_toInt_lt] at h0 h1
  have e0 : (0 : Int32).toInt = 0 := rfl
  have e1 : (65535 : Int32).toInt = 65535 := rfl
  have hc : c.toInt = c.toBitVec.toNat := by
    have := c.toBitVec.isLt
    have e : c.toInt = c.toBitVec.toInt := rfl
    rw [e] at h0 h1
    rw [e]
    rw [BitVec.toInt_eq_toNat_cond] at h0 h1 ⊢
    split at h0 <;> split <;> omega
  have hn : c.toBitVec.toNat < 65536 := by omega
  have a1 := lo8_and c
  have a2 : (hi8 c &&& 255).toBitVec.toNat = c.toBitVec.toNat / 256 := by
    rw [hi8, lo8_and]
    have e : ((8 : Int32) &&& 31) = 8 := by decide
    rw [e, Int32.toBitVec_shiftRight]
    have e2 : ((8 : Int32).toBitVec.smod 32) = 8#32 := by decide
    rw [e2, BitVec.sshiftRight_eq', BitVec.toNat_sshiftRight_of_msb_false (by rw [BitVec.msb_eq_false_iff_two_mul_lt]; omega)]
    show c.toBitVec.toNat >>> 8 % 256 = _
    rw [Nat.shiftRight_eq_div_pow]
    omega
  unfold pairCh
  apply Int32.toBitVec_inj.mp
  apply BitVec.eq_of_toNat_eq
  have f0 : ((0 : Int32) &&& 31) = 0 := by decide
  have f8 : ((8 : Int32) &&& 31) = 8 := by decide
  rw [f0, f8]
  have g : (((lo8 c &&& 255) <<< (0 : Int32)) ||| ((hi8 c &&& 255) <<< (8 : Int32))).toBitVec.toNat = c.toBitVec.toNat := by
    rw [Int32.toBitVec_or, Int32.toBitVec_shiftLeft, Int32.toBitVec_shiftLeft]
    have s0 : ((0 : Int32).toBitVec.smod 32) = 0#32 := by decide
    have s8 : ((8 : Int32).toBitVec.smod 32) = 8#32 := by decide
    rw [s0, s8, BitVec.toNat_or]
    simp only [BitVec.shiftLeft_eq', BitVec.toNat_shiftLeft, a1, a2]
    show (c.toBitVec.toNat % 256) <<< 0 % 2 ^ 32 ||| (c.toBitVec.toNat / 256) <<< 8 % 2 ^ 32 = _
    rw [Nat.shiftLeft_zero, Nat.mod_eq_of_lt (show c.toBitVec.toNat % 256 < 2 ^ 32 by omega), Nat.mod_eq_of_lt (show (c.toBitVec.toNat / 256) <<< 8 < 2 ^ 32 by rw [Nat.shiftLeft_eq]; omega), Nat.or_comm, ← Nat.shiftLeft_add_eq_or_of_lt (by omega), Nat.shiftLeft_eq]
    omega
  show BitVec.toNat (((((lo8 c &&& 255) <<< (0 : Int32)) ||| ((hi8 c &&& 255) <<< (8 : Int32))).toBitVec.setWidth 16).setWidth 32) = _
  rw [BitVec.toNat_setWidth, BitVec.toNat_setWidth, g]
  omega
end StrChars
namespace StrChars
open Jvm Sem ClassFile Op Lib Jvm.Stand Jvm.Free.XT Jvm.Free.ALB Jvm.Free.JM Jvm.Free
open Jvm.Lib.Cold (StaticIs)
theorem shr1 {n : Nat} (h : 2 * n < 2 ^ 31) : Int32.ofNat (2 * n) >>> ((1 : Int32) &&& 31) = Int32.ofNat n := by
  have e : ((1 : Int32) &&& 31) = 1 := by decide
  rw [e]
  apply Int32.toBitVec_inj.mp
  rw [Int32.toBitVec_shiftRight]
  have e1 : ((1 : Int32).toBitVec.smod 32) = 1#32 := by decide
  have hm : (BitVec.ofNat 32 (2 * n)).toNat = 2 * n := by rw [BitVec.toNat_ofNat, Nat.mod_eq_of_lt (by omega)]
  rw [e1, BitVec.sshiftRight_eq']
  apply BitVec.eq_of_toNat_eq
  show ((BitVec.ofNat 32 (2 * n)).sshiftRight 1).toNat = (BitVec.ofNat 32 n).toNat
  rw [BitVec.toNat_sshiftRight_of_msb_false (by rw [BitVec.msb_eq_false_iff_two_mul_lt, hm]; omega), hm, BitVec.toNat_ofNat, Nat.shiftRight_eq_div_pow]
  omega
/-- charAt's cast of a byte read back -/
def chr8 (u : Int32) : Int32 := (u &&& 255).toUInt32.toUInt16.toUInt32.toInt32
theorem chr8_lo8 {c : Int32} (h0 : ¬ c < 0) (h1 : ¬ 255 < c) : chr8 (lo8 c) = c := by
  have t : ∀ k : Fin 256, (Int32.ofNat k.val).toUInt32.toUInt16.toUInt32.toInt32 = Int32.ofNat k.val := by decide +kernel
  unfold chr8
  rw [lo8_mask h0 h1]
  rw [Int32.lt_iff_toInt_lt] at h0 h1
  have e0 : (0 : Int32).toInt = 0 := rfl
  have e1 : (255 : Int32).toInt = 255 := rfl
  obtain ⟨k, hk⟩ : ∃ k : Nat, c.toInt = k := ⟨c.toInt.toNat, by omega⟩
  have hx : c = Int32.ofNat k := Int32.toInt_inj.mp (by rw [hk, Int32.toInt_ofNat_small (by omega)])
  rw [hx]
  exact t ⟨k, by omega⟩
theorem narrow_ch {c : Int32} (h0 : ¬ c < 0) (h1 : ¬ 65535 < c) : narrow .char (.int c) = .int c := by
  have q : narrow .char (.int (pairCh (lo8 c) (hi8 c))) = .int (pairCh (lo8 c) (hi8 c)) := narrow_c _
  rwa [pair_says h0 h1] at q
/-- the array's cell V codes the n chars f 0 .. f (n - 1) by the coder cd, as the JDK does: coder 1 just where some char is above 255 -/
def Cod (cd : Int32) (n : Nat) (f : Nat → Int32) (V : Cell) : Prop := (cd = 0 ∧ V.slots.size = n ∧ ∀ j, j < n → V.slots[j]? = some (.int (lo8 (f j))) ∧ ¬ 255 < f j) ∨ (cd = 1 ∧ V.slots.size = 2 * n ∧ (∀ j, j < n → V.slots[2 * j]? = some (.int (lo8 (f j))) ∧ V.slots[2 * j + 1]? = some (.int (hi8 (f j)))) ∧ ∃ j, j < n ∧ 255 < f j)
theorem Cod.cd {cd : Int32} {n : Nat} {f : Nat → Int32} {V : Cell} (h : Cod cd n f V) : cd = 0 ∨ cd = 1 := h.imp (fun q => q.1) fun q => q.1
theorem Cod.len {cd : Int32} {n : Nat} {f : Nat → Int32} {V : Cell} (h : Cod cd n f V) (hs : V.slots.size < 2 ^ 31) : Int32.ofNat V.slots.size >>> (cd &&& 31) = Int32.ofNat n := by
  rcases h with ⟨rfl, h, -⟩ | ⟨rfl, h, -⟩
  · rw [shr0, h]
  · rw [h, shr1 (by omega)]
/-- **x is a String of the n chars f 0 .. f (n - 1)**, Latin-1 or UTF-16; its array at t has the cell V -/
def Txt (x t : Addr) (V : Cell) (cd : Int32) (n : Nat) (f : Nat → Int32) (U : State) : Prop := Exact "java/lang/String" x U ∧ Has x "java/lang/String" "value" "[B" (.ref t) U ∧ Has x "java/lang/String" "coder" "B" (.int cd) U ∧ XT.Arr .byte t V U ∧ Cod cd n f V ∧ ∀ j, j < n → ¬ f j < 0 ∧ ¬ 65535 < f j
theorem Txt.mv {x t : Addr} {V : Cell} {cd : Int32} {n : Nat} {f : Nat → Int32} {U U' : State} (h : Txt x t V cd n f U) (hal : U.vm.Alike U'.vm) (hh : U'.heap = U.heap) : Txt x t V cd n f U' := ⟨h.1.mv hal hh, h.2.1.mv hal hh, h.2.2.1.mv hal hh, h.2.2.2.1.mv hal hh, h.2.2.2.2⟩
namespace Cdr
def yN : MethodName := ⟨"java/lang/String", "coder", "()B"⟩
abbrev yB : ByteArray := jdk_42_method_152_code
theorem d0 : decode yB 0 = .ok (.getstatic 38, 3) := by decide +kernel
theorem d3 : decode yB 3 = .ok (.ifCond (.eq) 10, 3) := by decide +kernel
theorem d6 : decode yB 6 = .ok (.aload_n 0, 1) := by decide +kernel
theorem d7 : decode yB 7 = .ok (.getfield 15, 3) := by decide +kernel
theorem d10 : decode yB 10 = .ok (.goto 4, 3) := by decide +kernel
theorem d14 : decode yB 14 = .ok (.ireturn, 1) := by decide +kernel
def site : List Cond := [.fieldLink "java/lang/String" 38 "java/lang/String" "COMPACT_STRINGS" "Z", .fieldLink "java/lang/String" 15 "java/lang/String" "coder" "B"]
def tab : Cond := tabOf yN yB 1 (some .byte) site
def P (x : Addr) (cd z : Int32) (args : Array Value) (s : State) : Prop := args = #[.ref x] ∧ Has x "java/lang/String" "coder" "B" (.int cd) s ∧ (cd = 0 ∨ cd = 1) ∧ StaticIs s "java/lang/String" "COMPACT_STRINGS" "Z" (.int z) ∧ ¬ z = 0
def E (cd : Int32) (r : Option Value) (s u : State) : Prop := XT.PureE (some (.int cd)) r s u
theorem law (l : Launch) (x : Addr) (cd z : Int32) : Law l yN 1 0 0 0 yB 1 (some .byte) site (P x cd z) (E cd) [] 0 0 := by
  refine Law.of_walk (plainFor_of_name (by decide +kernel)) (by decide +kernel) (by decide +kernel) (by decide) (fun _ _ h => by rw [h.1]; rfl) (fun _ U U' hal hh h => ⟨h.1, h.2.1.mv hal hh, h.2.2.1, h.2.2.2.1.there hal hh, h.2.2.2.2⟩) (fun r U U' V V' h1 hal h2 h => XT.PureE.mv r U U' V V' h1 hal h2 h) ?_
  intro p e s m args below meth c s₁ X0 hexec hbytes hml hret hlk hnm hown hh0 W hP
  obtain ⟨rfl, hx, hc, s1, hz⟩ := hP
  have c1 : Steps p.tables e below (s₁.setTop (entryFrame m #[.ref x] 1)) (s₁.setTop (mkF m 0 #[.val (.ref x)] [])) := entry rfl
  obtain ⟨T2, X2, q2, st2⟩ := X0.sget hexec hown (wk W (.fieldLink "java/lang/String" 38 "java/lang/String" "COMPACT_STRINGS" "Z")) s1 (fun _ _ h => by rw [hh0]; exact h) (g := (mkF m 0 #[.val (.ref x)] [])) rfl (hb hbytes d0)
  have hh2 := q2.trans hh0
  have c3 : Steps p.tables e below (s₁.setTop (entryFrame m #[.ref x] 1)) (T2.setTop (mkF m 7 #[.val (.ref x)] [.ref x])) := (c1.trans (st2 _ (Steps.refl _))).trans (by
    refine XS.ifNo X2.here hexec rfl (hb hbytes d3) rfl (i0_eq_f hz) ?_
    refine XS.aloadN X2.here hexec rfl (hb hbytes d6) rfl rfl ?_
    exact Steps.refl _)
  obtain ⟨T4, X4, q4, st4⟩ := X2.hget hexec hown (wk W (.fieldLink "java/lang/String" 15 "java/lang/String" "coder" "B")) (hx.mv X2.warmed.alike hh2) (g := (mkF m 7 #[.val (.ref x)] [.ref x])) rfl (rest := []) rfl (hb hbytes d7)
  have c5 : Steps p.tables e below (s₁.setTop (entryFrame m #[.ref x] 1)) (T4.setTop (mkF m 14 #[.val (.ref x)] [.int cd])) := (c3.trans (st4 _ (Steps.refl _))).trans (by
    refine XS.goto X4.here hexec rfl (pc0 := 10) rfl (hb hbytes d10) (by decide) rfl ?_
    exact Steps.refl _)
  exact ⟨T4, some (.int cd), _, _, _, X4, rfl, rfl, rfl, (fun h => by cases h), ⟨rfl, q4.trans hh2⟩, fun fs hl => c5.trans (X4.ireturnOut hexec hret (by rcases hc with rfl | rfl <;> rfl) (Or.inr (Or.inr (Or.inl rfl))) (hb hbytes d14) hl)⟩
end Cdr
namespace Len
def yN : MethodName := ⟨"java/lang/String", "length", "()I"⟩
abbrev yB : ByteArray := jdk_42_method_54_code
theorem d0 : decode yB 0 = .ok (.aload_n 0, 1) := by decide +kernel
theorem d1 : decode yB 1 = .ok (.getfield 9, 3) := by decide +kernel
theorem d4 : decode yB 4 = .ok (.arraylength, 1) := by decide +kernel
theorem d5 : decode yB 5 = .ok (.aload_n 0, 1) := by decide +kernel
theorem d6 : decode yB 6 = .ok (.invokevirtual 335, 3) := by decide +kernel
theorem d9 : decode yB 9 = .ok (.ishr, 1) := by decide +kernel
theorem d10 : decode yB 10 = .ok (.ireturn, 1) := by decide +kernel
def site : List Cond := [.fieldLink "java/lang/String" 9 "java/lang/String" "value" "[B", Cdr.tab] ++ virtW "java/lang/String" 335 "java/lang/String" Cdr.yN Cdr.yN
def tab : Cond := tabOf yN yB 1 (some .int) site
def P (x t : Addr) (V : Cell) (cd : Int32) (n : Nat) (f : Nat → Int32) (z : Int32) (args : Array Value) (s : State) : Prop := args = #[.ref x] ∧ Txt x t V cd n f s ∧ StaticIs s "java/lang/String" "COMPACT_STRINGS" "Z" (.int z) ∧ ¬ z = 0
def E (n : Nat) (r : Option Value) (s u : State) : Prop := XT.PureE (some (.int (Int32.ofNat n))) r s u
/-- length() of a String of n chars, in either coding -/
theorem law (l : Launch) (x t : Addr) (V : Cell) (cd : Int32) (n : Nat) (f : Nat → Int32) (z : Int32) : Law l yN 1 0 1 13 yB 1 (some .int) site (P x t V cd n f z) (E n) [] 0 0 := by
  refine Law.of_walk (plainFor_of_name (by decide +kernel)) (by decide +kernel) (by decide +kernel) (by decide) (fun _ _ h => by rw [h.1]; rfl) (fun _ U U' hal hh h => ⟨h.1, h.2.1.mv hal hh, h.2.2.1.there hal hh, h.2.2.2⟩) (fun r U U' V V' h1 hal h2 h => XT.PureE.mv r U U' V V' h1 hal h2 h) ?_
  intro p e s m args below meth c s₁ X0 hexec hbytes hml hret hlk hnm hown hh0 W hP
  obtain ⟨rfl, hx, s1, hz⟩ := hP
  have v31 := hx.2.2.2.1.2.2.2
  have c1 : Steps p.tables e below (s₁.setTop (entryFrame m #[.ref x] 1)) (s₁.setTop (mkF m 1 #[.val (.ref x)] [.ref x])) := Steps.trans (entry rfl) (by
    show Steps p.tables e below (s₁.setTop (mkF m 0 #[.val (.ref x)] [])) _
    refine XS.aloadN X0.here hexec rfl (hb hbytes d0) rfl rfl ?_
    exact Steps.refl _)
  obtain ⟨T2, X2, q2, st2⟩ := X0.hget hexec hown (wk W (.fieldLink "java/lang/String" 9 "java/lang/String" "value" "[B")) (hx.mv X0.warmed.alike hh0).2.1 (g := (mkF m 1 #[.val (.ref x)] [.ref x])) rfl (rest := []) rfl (hb hbytes d1)
  have hh2 := q2.trans hh0
  have hx2 := hx.mv X2.warmed.alike hh2
  have c3 : Steps p.tables e below (s₁.setTop (entryFrame m #[.ref x] 1)) (T2.setTop (mkF m 6 #[.val (.ref x)] [.ref x, .int (Int32.ofNat V.slots.size)])) := (c1.trans (st2 _ (Steps.refl _))).trans (by
    refine X2.alen hexec hx2.2.2.2.1 rfl rfl (hb hbytes d4) ?_
    refine XS.aloadN X2.here hexec rfl (hb hbytes d5) rfl rfl ?_
    exact Steps.refl _)
  obtain ⟨v4, T4, X4, E4, g4⟩ := X2.callV hexec (Cdr.law l x cd z) hown (wks W (virtW "java/lang/String" 335 "java/lang/String" Cdr.yN Cdr.yN)) rfl (by decide) (wk W Cdr.tab) (W := 1) (Nat.le_of_ble_eq_true rfl) (Nat.le_of_ble_eq_true rfl) (Nat.le_refl _) (Nat.le_refl _) (hx2.1.fc X2.warmed.alike) hx2.1.is (g := (mkF m 6 #[.val (.ref x)] [.ref x, .int (Int32.ofNat V.slots.size)])) rfl (by rw [hml]; rfl) c3 (argsL := []) (rest := [.int (Int32.ofNat V.slots.size)]) rfl rfl (by show 2 * 0 + (1 + 0) ≤ _; decide) (hb hbytes d6) (⟨rfl, hx2.2.2.1, hx.2.2.2.2.1.cd, s1.there X2.warmed.alike hh2, hz⟩)
  obtain ⟨rfl, q4⟩ := E4
  have c5 : Steps p.tables e below (s₁.setTop (entryFrame m #[.ref x] 1)) (T4.setTop (mkF m 10 #[.val (.ref x)] [.int (Int32.ofNat V.slots.size >>> (cd &&& 31))])) := Steps.trans g4 (by
    refine ishr X4.here hexec rfl (hb hbytes d9) rfl ?_
    exact Steps.refl _)
  rw [hx.2.2.2.2.1.len v31] at c5
  exact ⟨T4, some (.int (Int32.ofNat n)), _, _, _, X4, rfl, rfl, rfl, (fun h => by cases h), ⟨rfl, q4.trans hh2⟩, fun fs hl => c5.trans (X4.ireturnOut hexec hret rfl (Or.inl rfl) (hb hbytes d10) hl)⟩
theorem pays {l : Launch} {R : Room} {p : Program} {e : Env} {below : List Frame} {s : State} {sargs : Array Value} {len W : Nat} (x t : Addr) (V : Cell) (cd : Int32) (n : Nat) (f : Nat → Int32) (z : Int32) (htab : tab.before sargs s = true) (hfr : 2 ≤ R.frames) (hlo : W + 25 ≤ R.locals) :
    Back l R p e below s sargs yN len W (fun A₁ a₁ => A₁.cells + 0 ≤ R.cells ∧ A₁.slots + 0 ≤ R.slots ∧ P x t V cd n f z a₁ A₁.U) (fun A₁ _ v₁ B₁ => E n v₁ A₁.U B₁.U ∧ B₁.locs = A₁.locs ++ [] ∧ B₁.cells = A₁.cells + 0 ∧ B₁.slots = A₁.slots + 0) :=
  (law l x t V cd n f z).pays htab hfr (by omega)
end Len
namespace IsL
def yN : MethodName := ⟨"java/lang/String", "isLatin1", "()Z"⟩
abbrev yB : ByteArray := jdk_42_method_154_code
theorem d0 : decode yB 0 = .ok (.getstatic 38, 3) := by decide +kernel
theorem d3 : decode yB 3 = .ok (.ifCond (.eq) 14, 3) := by decide +kernel
theorem d6 : decode yB 6 = .ok (.aload_n 0, 1) := by decide +kernel
theorem d7 : decode yB 7 = .ok (.getfield 15, 3) := by decide +kernel
theorem d10 : decode yB 10 = .ok (.ifCond (.ne) 7, 3) := by decide +kernel
theorem d13 : decode yB 13 = .ok (.iconst 1, 1) := by decide +kernel
theorem d14 : decode yB 14 = .ok (.goto 4, 3) := by decide +kernel
theorem d17 : decode yB 17 = .ok (.iconst 0, 1) := by decide +kernel
theorem d18 : decode yB 18 = .ok (.ireturn, 1) := by decide +kernel
def site : List Cond := [.fieldLink "java/lang/String" 38 "java/lang/String" "COMPACT_STRINGS" "Z", .fieldLink "java/lang/String" 15 "java/lang/String" "coder" "B"]
def tab : Cond := tabOf yN yB 1 (some .boolean) site
def P (x : Addr) (cd z : Int32) (args : Array Value) (s : State) : Prop := args = #[.ref x] ∧ Has x "java/lang/String" "coder" "B" (.int cd) s ∧ (cd = 0 ∨ cd = 1) ∧ StaticIs s "java/lang/String" "COMPACT_STRINGS" "Z" (.int z) ∧ ¬ z = 0
def E (cd : Int32) (r : Option Value) (s u : State) : Prop := XT.PureE (some (.int (1 - cd))) r s u
theorem law (l : Launch) (x : Addr) (cd z : Int32) : Law l yN 1 0 0 0 yB 1 (some .boolean) site (P x cd z) (E cd) [] 0 0 := by
  refine Law.of_walk (plainFor_of_name (by decide +kernel)) (by decide +kernel) (by decide +kernel) (by decide) (fun _ _ h => by rw [h.1]; rfl) (fun _ U U' hal hh h => ⟨h.1, h.2.1.mv hal hh, h.2.2.1, h.2.2.2.1.there hal hh, h.2.2.2.2⟩) (fun r U U' V V' h1 hal h2 h => XT.PureE.mv r U U' V V' h1 hal h2 h) ?_
  intro p e s m args below meth c s₁ X0 hexec hbytes hml hret hlk hnm hown hh0 W hP
  obtain ⟨rfl, hx, hc, s1, hz⟩ := hP
  have c1 : Steps p.tables e below (s₁.setTop (entryFrame m #[.ref x] 1)) (s₁.setTop (mkF m 0 #[.val (.ref x)] [])) := entry rfl
  obtain ⟨T2, X2, q2, st2⟩ := X0.sget hexec hown (wk W (.fieldLink "java/lang/String" 38 "java/lang/String" "COMPACT_STRINGS" "Z")) s1 (fun _ _ h => by rw [hh0]; exact h) (g := (mkF m 0 #[.val (.ref x)] [])) rfl (hb hbytes d0)
  have hh2 := q2.trans hh0
  have c3 : Steps p.tables e below (s₁.setTop (entryFrame m #[.ref x] 1)) (T2.setTop (mkF m 7 #[.val (.ref x)] [.ref x])) := (c1.trans (st2 _ (Steps.refl _))).trans (by
    refine XS.ifNo X2.here hexec rfl (hb hbytes d3) rfl (i0_eq_f hz) ?_
    refine XS.aloadN X2.here hexec rfl (hb hbytes d6) rfl rfl ?_
    exact Steps.refl _)
  obtain ⟨T4, X4, q4, st4⟩ := X2.hget hexec hown (wk W (.fieldLink "java/lang/String" 15 "java/lang/String" "coder" "B")) (hx.mv X2.warmed.alike hh2) (g := (mkF m 7 #[.val (.ref x)] [.ref x])) rfl (rest := []) rfl (hb hbytes d7)
  have c5 : Steps p.tables e below (s₁.setTop (entryFrame m #[.ref x] 1)) (T4.setTop (mkF m 10 #[.val (.ref x)] [.int cd])) := c3.trans (st4 _ (Steps.refl _))
  have c6 : Steps p.tables e below (s₁.setTop (entryFrame m #[.ref x] 1)) (T4.setTop (mkF m 18 #[.val (.ref x)] [.int (1 - cd)])) := by
    rcases hc with rfl | rfl
    · exact c5.trans (by
        refine XS.ifNo X4.here hexec rfl (hb hbytes d10) rfl (i0_ne_f rfl) ?_
        refine iconstV X4.here hexec rfl 1 (hb hbytes d13) (by decide) ?_
        refine XS.goto X4.here hexec rfl (pc0 := 14) rfl (hb hbytes d14) (by decide) rfl ?_
        exact Steps.refl _)
    · exact c5.trans (by
        refine XS.ifYes X4.here hexec rfl (pc0 := 10) rfl (hb hbytes d10) rfl (i0_ne_t (by decide)) (by decide) rfl ?_
        refine iconstV X4.here hexec rfl 0 (hb hbytes d17) (by decide) ?_
        exact Steps.refl _)
  exact ⟨T4, some (.int (1 - cd)), _, _, _, X4, rfl, rfl, rfl, (fun h => by cases h), ⟨rfl, q4.trans hh2⟩, fun fs hl => c6.trans (X4.ireturnOut hexec hret (by rcases hc with rfl | rfl <;> rfl) (Or.inr (Or.inl rfl)) (hb hbytes d18) hl)⟩
end IsL
namespace LChA
def yN : MethodName := ⟨"java/lang/StringLatin1", "charAt", "([BI)C"⟩
abbrev yB : ByteArray := jdk_43_method_2_code
theorem d0 : decode yB 0 = .ok (.iload_n 1, 1) := by decide +kernel
theorem d1 : decode yB 1 = .ok (.aload_n 0, 1) := by decide +kernel
theorem d2 : decode yB 2 = .ok (.arraylength, 1) := by decide +kernel
theorem d3 : decode yB 3 = .ok (.invokestatic 9, 3) := by decide +kernel
theorem d6 : decode yB 6 = .ok (.aload_n 0, 1) := by decide +kernel
theorem d7 : decode yB 7 = .ok (.iload_n 1, 1) := by decide +kernel
theorem d8 : decode yB 8 = .ok (.baload, 1) := by decide +kernel
theorem d9 : decode yB 9 = .ok (.sipush 255, 3) := by decide +kernel
theorem d12 : decode yB 12 = .ok (.iand, 1) := by decide +kernel
theorem d13 : decode yB 13 = .ok (.i2c, 1) := by decide +kernel
theorem d14 : decode yB 14 = .ok (.ireturn, 1) := by decide +kernel
def site : List Cond := [JO.Str_checkIndex.tab] ++ staticW "java/lang/StringLatin1" 9 JO.Str_checkIndex.yN
def tab : Cond := tabOf yN yB 2 (some .char) site
def P (t : Addr) (V : Cell) (i : Nat) (u : Int32) (fm : Value) (args : Array Value) (s : State) : Prop := args = #[.ref t, .int (Int32.ofNat i)] ∧ XT.Arr .byte t V s ∧ V.slots[i]? = some (.int u) ∧ (StaticIs s "jdk/internal/util/Preconditions" "SIOOBE_FORMATTER" "Ljava/util/function/BiFunction;" fm ∧ fm.isRef = true)
def E (u : Int32) (r : Option Value) (s w : State) : Prop := XT.PureE (some (.int (chr8 u))) r s w
theorem law (l : Launch) (t : Addr) (V : Cell) (i : Nat) (u : Int32) (fm : Value) : Law l yN 2 2 2 27 yB 2 (some .char) site (P t V i u fm) (E u) [] 0 0 := by
  refine Law.of_walk (plainFor_of_name (by decide +kernel)) (by decide +kernel) (by decide +kernel) (by decide) (fun _ _ h => by rw [h.1]; rfl) (fun _ U U' hal hh h => ⟨h.1, h.2.1.mv hal hh, h.2.2.1, h.2.2.2.1.there hal hh, h.2.2.2.2⟩) (fun r U U' V V' h1 hal h2 h => XT.PureE.mv r U U' V V' h1 hal h2 h) ?_
  intro p e s m args below meth c s₁ X0 hexec hbytes hml hret hlk hnm hown hh0 W hP
  obtain ⟨rfl, hV, hu, s1, rf⟩ := hP
  have v31 := hV.2.2.2
  have hi : i < V.slots.size := (Array.getElem?_eq_some_iff.mp hu).1
  have c1 : Steps p.tables e below (s₁.setTop (entryFrame m #[.ref t, .int (Int32.ofNat i)] 2)) (s₁.setTop (mkF m 0 #[.val (.ref t), .val (.int (Int32.ofNat i))] [])) := entry rfl
  have c2 : Steps p.tables e below (s₁.setTop (entryFrame m #[.ref t, .int (Int32.ofNat i)] 2)) (s₁.setTop (mkF m 3 #[.val (.ref t), .val (.int (Int32.ofNat i))] [.int (Int32.ofNat V.slots.size), .int (Int32.ofNat i)])) := c1.trans (by
    refine XS.iloadN X0.here hexec rfl (hb hbytes d0) rfl ?_
    refine XS.aloadN X0.here hexec rfl (hb hbytes d1) rfl rfl ?_
    refine X0.alen hexec (hV.mv X0.warmed.alike hh0) rfl rfl (hb hbytes d2) ?_
    exact Steps.refl _)
  obtain ⟨v3, T3, X3, E3, g3⟩ := X0.callS hexec (JO.Str_checkIndex.law l (Int32.ofNat i) (Int32.ofNat V.slots.size) fm) hown (wks W (staticW "java/lang/StringLatin1" 9 JO.Str_checkIndex.yN)) (wk W JO.Str_checkIndex.tab) (W := 0) (Nat.le_of_ble_eq_true rfl) (Nat.le_of_ble_eq_true rfl) (Nat.le_refl _) (Nat.le_refl _) (g := (mkF m 3 #[.val (.ref t), .val (.int (Int32.ofNat i))] [.int (Int32.ofNat V.slots.size), .int (Int32.ofNat i)])) rfl (by rw [hml]; rfl) c2 (argsL := [.int (Int32.ofNat i), .int (Int32.ofNat V.slots.size)]) (rest := []) rfl rfl (by show 2 * 0 + 0 ≤ _; decide) (hb hbytes d3) (⟨rfl, rf, s1.there X0.warmed.alike hh0, Int32.ofNat_not_neg (by omega), lt32 v31 hi⟩)
  obtain ⟨rfl, q3⟩ := E3
  have hh3 := q3.trans hh0
  have c4 : Steps p.tables e below (s₁.setTop (entryFrame m #[.ref t, .int (Int32.ofNat i)] 2)) (T3.setTop (mkF m 14 #[.val (.ref t), .val (.int (Int32.ofNat i))] [.int (chr8 u)])) := Steps.trans g3 (by
    refine XS.aloadN X3.here hexec rfl (hb hbytes d6) rfl rfl ?_
    refine XS.iloadN X3.here hexec rfl (hb hbytes d7) rfl ?_
    refine X3.aget hexec (hV.mv X3.warmed.alike hh3) rfl hu rfl rfl (hb hbytes d8) ?_
    refine sipushV X3.here hexec rfl 255 (hb hbytes d9) (by decide) ?_
    refine XS.iand X3.here hexec rfl (hb hbytes d12) rfl ?_
    refine i2c X3.here hexec rfl (hb hbytes d13) rfl ?_
    exact Steps.refl _)
  exact ⟨T3, some (.int (chr8 u)), _, _, _, X3, rfl, rfl, rfl, (fun h => by cases h), ⟨rfl, hh3⟩, fun fs hl => c4.trans (X3.ireturnOut hexec hret (narrow_c _) (Or.inr (Or.inr (Or.inr (Or.inl rfl)))) (hb hbytes d14) hl)⟩
end LChA
end StrChars
namespace StrChars.Road
open Jvm Sem ClassFile Op Lib Jvm.Stand Jvm.Free Jvm.Free.XT
open Jvm.Lib.Cold (StaticIs)
theorem consq {a : Array Value} {s : State} {c : Jvm.Cond} {L : List Jvm.Cond} (h0 : c.before a s = true) (h : ∀ w ∈ L, w.before a s = true) : ∀ w ∈ c :: L, w.before a s = true := fun w hw => (List.mem_cons.mp hw).elim (fun e => e ▸ h0) (h w)
/-- the words of String.length(), either coding -/
abbrev wordsLen : List Jvm.Cond := [.code Len.yN Len.yB 1 (some .int), .initialized ST, .fieldLink ST 9 ST "value" "[B", .fieldLink ST 38 ST "COMPACT_STRINGS" "Z", .fieldLink ST 15 ST "coder" "B", .code Cdr.yN Cdr.yB 1 (some .byte), .methodLink ST 335 Cdr.yN, .declares Cdr.yN, .selects ST Cdr.yN Cdr.yN, .instanceMethod Cdr.yN]
theorem tabLen_of {a : Array Value} {s : State} (h : ∀ w ∈ wordsLen, w.before a s = true) : Len.tab.before a s = true := by
  have hc : Cdr.tab.before a s = true := unparts (wk h (.code Cdr.yN Cdr.yB 1 (some .byte))) (wks h (.initialized Cdr.yN.cls :: Cdr.site))
  have q := consq hc h
  exact unparts (wk q (.code Len.yN Len.yB 1 (some .int))) (wks q (.initialized Len.yN.cls :: Len.site))
theorem movedLen {Z s : State} {a0 args : Array Value} (hZ : Z.Warmed39 s.vm) (hw : ∀ d ∈ wordsLen, d.before a0 Z = true) : ∀ d ∈ wordsLen, d.before args s = true := fun d hd => by
  have q := hw d hd
  have t : ∀ d ∈ wordsLen, d = .arrayClass .byte ∨ (d.onTables && d.keepsFace) = true := by decide +kernel
  rcases t d hd with rfl | t
  · exact RoadKit.mvA hZ q
  · exact RoadKit.mv hZ q t
/-- the bytes of the chars cs, low before high -/
def wideBytes : List Int32 → List Value
  | [] => []
  | c :: cs => .int (lo8 c) :: .int (hi8 c) :: wideBytes cs
theorem wide_lo (d : Value) : ∀ (cs : List Int32) (j : Nat), j < cs.length → (wideBytes cs).getD (2 * j) d = .int (lo8 (cs.getD j 0))
  | [], j, h => absurd h (Nat.not_lt_zero j)
  | c :: cs, 0, _ => rfl
  | c :: cs, j + 1, h => by
    have q := wide_lo d cs j (by simpa using h)
    rw [show 2 * (j + 1) = 2 * j + 1 + 1 from by omega]
    simpa [wideBytes] using q
theorem wide_hi (d : Value) : ∀ (cs : List Int32) (j : Nat), j < cs.length → (wideBytes cs).getD (2 * j + 1) d = .int (hi8 (cs.getD j 0))
  | [], j, h => absurd h (Nat.not_lt_zero j)
  | c :: cs, 0, _ => rfl
  | c :: cs, j + 1, h => by
    have q := wide_hi d cs j (by simpa using h)
    rw [show 2 * (j + 1) + 1 = 2 * j + 1 + 1 + 1 from by omega]
    simpa [wideBytes] using q
theorem low_at (d : Value) (cs : List Int32) (j : Nat) (h : j < cs.length) : (cs.map fun c => Value.int (lo8 c)).getD j d = .int (lo8 (cs.getD j 0)) := by
  simp [List.getD_eq_getElem?_getD, h]
/-- an array of N2 bytes vs codes the chars cs by the coder cd -/
def CodA (cs : List Int32) (cd N2 : Int32) (vs : List Value) : Prop := (cd = 0 ∧ N2 = Int32.ofNat cs.length ∧ vs = (cs.map fun c => Value.int (lo8 c)) ∧ ∀ c ∈ cs, ¬ 255 < c) ∨ (cd = 1 ∧ N2 = Int32.ofNat (2 * cs.length) ∧ vs = wideBytes cs ∧ ∃ c ∈ cs, 255 < c)
theorem CodA.cod {cs : List Int32} {cd N2 : Int32} {vs : List Value} {V : Cell} (h : CodA cs cd N2 vs) (hn : 2 * cs.length < 2 ^ 31) (hs : V.slots.size = N2.toNatClampNeg) (hv : RoadKit.Has V vs (.int 0)) : Cod cd cs.length (fun j => cs.getD j 0) V := by
  rcases h with ⟨rfl, rfl, rfl, h⟩ | ⟨rfl, rfl, rfl, c, hc, hw⟩
  · rw [n32 (by omega)] at hs
    exact Or.inl ⟨rfl, hs, fun j hj => ⟨by rw [hv j (by omega), low_at _ _ _ hj], by
      have e : cs.getD j 0 = cs[j] := by simp [List.getD_eq_getElem?_getD, hj]
      show ¬ 255 < cs.getD j 0
      rw [e]; exact h _ (List.getElem_mem _)⟩⟩
  · rw [n32 (by omega)] at hs
    obtain ⟨j, hj, rfl⟩ := List.getElem_of_mem hc
    exact Or.inr ⟨rfl, hs, fun j hj => ⟨by rw [hv _ (by omega), wide_lo _ _ _ hj], by rw [hv _ (by omega), wide_hi _ _ _ hj]⟩, j, hj, by
      have e : cs.getD j 0 = cs[j] := by simp [List.getD_eq_getElem?_getD, hj]
      show 255 < cs.getD j 0
      rw [e]; exact hw⟩
/-- an object of exactly java/lang/String, its two fields found: as the laws ask it -/
theorem strObj {Z U : State} {a0 : Array Value} {kI : Nat} (wi : (Jvm.Cond.instantiable ST kI).before a0 Z = true) (al : Z.vm.Alike U.vm) {x : Addr} {v0 c0 : Value} (E : RoadKit.Exa Z U.heap x ST) (V : RoadKit.Fld Z U.heap x ST "value" "[B" v0) (C : RoadKit.Fld Z U.heap x ST "coder" "B" c0) :
    ∃ (D : Cell) (fV fC : Field), Blank ST x D U ∧ Found ST "value" "[B" fV U ∧ Found ST "coder" "B" fC U ∧ D.slots[fV.slot]? = some v0 ∧ D.slots[fC.slot]? = some c0 ∧ RoadKit.slotOf Z ST "value" "[B" = fV.slot ∧ RoadKit.slotOf Z ST "coder" "B" = fC.slot := by
  obtain ⟨D, cfV, kV, iV, fV, hD, gV, stV, knV, obV, asV, slV⟩ := V
  obtain ⟨D', cfC, kC, iC, fC, hD', gC, stC, -, -, asC, slC⟩ := C
  cases hD.symm.trans hD'
  obtain ⟨D2, kD, e1, e2, e3, e4, e5⟩ := E
  cases hD.symm.trans e1
  obtain ⟨c2, k2, i1, i2, i3, -⟩ := Cond.instantiable_spec wi
  cases e2.symm.trans i1
  cases e3.symm.trans i2
  obtain ⟨kU, u1, u2⟩ := al.2.2 _ _ e3
  exact ⟨D, fV, fC, ⟨hD, ⟨knV, fun q hq => by rw [hq] at obV; cases obV⟩, by rw [al.findClass]; exact e2, kU, u1, by rw [u2]; exact i3, by rw [u2]; exact e5 i3⟩, ⟨SBG.found_only al ⟨cfV, kV, iV, gV⟩, stV⟩, ⟨SBG.found_only al ⟨cfC, kC, iC, gC⟩, stC⟩, slV, slC, by simp [RoadKit.slotOf, gV], by simp [RoadKit.slotOf, gC]⟩
theorem sta_is {Z U : State} (al : Z.vm.Alike U.vm) {C n d : String} {v : Value} (S : RoadKit.Sta Z U.heap C n d v) : StaticIs U C n d v := by
  obtain ⟨cfS, iS, kS, fS, st, cS, t1, t2, t3, t4, t5, t6, t7⟩ := S
  exact StaticIs.there (s := { Z with heap := U.heap }) ⟨cfS, iS, kS, fS, st, cS, t1, t2, t3, t4, t5, (fun q => by rw [q] at t6; cases t6), t7⟩ al rfl
/-- **length() OF SUCH A STRING** -/
theorem lenW {p : Program} {l : Launch} {e : Env} {R : Room} {s : State} {args : Array Value} {below : List Frame} {len W : Nat} {Z : State} {a0 : Array Value} {h : Heap} (hZ : Z.Warmed39 s.vm) (hw : ∀ d ∈ wordsLen, d.before a0 Z = true) {kI : Nat} (wi : (Jvm.Cond.instantiable ST kI).before a0 Z = true)
    {x t : Addr} {kb : ClassId} {cs : List Int32} {cd N2 z : Int32} {vs : List Value} (E : RoadKit.Exa Z h x ST) (V : RoadKit.Fld Z h x ST "value" "[B" (.ref t)) (C : RoadKit.Fld Z h x ST "coder" "B" (.int cd)) (K : RoadKit.Arv Z h t kb .byte N2 vs (.int 0)) (hc : CodA cs cd N2 vs) (hb : ∀ c ∈ cs, ¬ c < 0 ∧ ¬ (65535 : Int32) < c)
    (S : RoadKit.Sta Z h ST "COMPACT_STRINGS" "Z" (.int z)) (hz : ¬ z = 0) (l2 : cs.length ≤ 4000) (hfr : 2 ≤ R.frames) (hlo : W + 25 ≤ R.locals) :
    Back l R p e below s args (⟨"java/lang/String", "length", "()I"⟩ : MethodName) len W (fun P a => a = #[.ref x] ∧ P.U.heap = h ∧ P.cells + 0 ≤ R.cells ∧ P.slots + 0 ≤ R.slots)
      (fun P _ v B => ∃ L, (v = some (.int (Int32.ofNat cs.length)) ∧ L = [] ∧ B.U.heap = h) ∧ B.locs = P.locs ++ L ∧ B.cells = P.cells + 0 ∧ B.slots = P.slots + 0) := by
  obtain ⟨A, K1, K2, K3, K4, K5, K6⟩ := K
  have hcod := hc.cod (by omega) K3 K5
  intro m meth c P g ig mk a X hg hsize hdg hW hn hp'
  obtain ⟨rfl, rfl, r1, r2⟩ := hp'
  have al : Z.vm.Alike P.U.vm := hZ.alike.trans X.warmed.alike
  obtain ⟨D, fV, fC, hB, F1, F2, g1, g2, -, -⟩ := strObj wi al E V C
  have hx : Txt x t A cd cs.length (fun j => cs.getD j 0) P.U := ⟨⟨_, hB.2.2.1, D, hB.1, rfl, by cases q : D.vm <;> first | rfl | exact absurd q (hB.2.1.2 _)⟩, Has.of hB F1 g1, Has.of hB F2 g2, ⟨K1.1, State.isArrayOf_alike al K1.2.1, K1.2.2, by rcases hcod with ⟨-, q, -⟩ | ⟨-, q, -⟩ <;> omega⟩, hcod, fun j hj => by
    have e : cs.getD j 0 = cs[j] := by simp [List.getD_eq_getElem?_getD, hj]
    show ¬ cs.getD j 0 < 0 ∧ ¬ 65535 < cs.getD j 0
    rw [e]; exact hb _ (List.getElem_mem _)⟩
  obtain ⟨v, B, X', ⟨⟨hv, hh⟩, hl, hk, hs⟩, st⟩ := Len.pays x t A cd cs.length (fun j => cs.getD j 0) z (tabLen_of (movedLen hZ hw)) hfr hlo m meth c P g ig mk _ X hg hsize hdg hW hn ⟨r1, r2, rfl, hx, sta_is al S, hz⟩
  exact ⟨v, B, X', ⟨[], ⟨hv, rfl, hh⟩, hl, hk, hs⟩, st⟩
end StrChars.Road
namespace StrChars.Road
open Jvm Sem ClassFile Op Lib Jvm.Stand Jvm.Free Jvm.Free.XT
open Jvm.Lib.Cold (StaticIs)
/-- the road's facts of a String, as the laws ask it -/
theorem txt_of {Z U : State} {a0 : Array Value} {kI : Nat} (wi : (Jvm.Cond.instantiable ST kI).before a0 Z = true) (al : Z.vm.Alike U.vm) {x t : Addr} {kb : ClassId} {cs : List Int32} {cd N2 : Int32} {vs : List Value} (E : RoadKit.Exa Z U.heap x ST) (V : RoadKit.Fld Z U.heap x ST "value" "[B" (.ref t)) (C : RoadKit.Fld Z U.heap x ST "coder" "B" (.int cd)) (K : RoadKit.Arv Z U.heap t kb .byte N2 vs (.int 0)) (hc : CodA cs cd N2 vs) (hb : ∀ c ∈ cs, ¬ c < 0 ∧ ¬ (65535 : Int32) < c) (l2 : cs.length ≤ 4000) :
    ∃ A, Txt x t A cd cs.length (fun j => cs.getD j 0) U := by
  obtain ⟨A, K1, K2, K3, K4, K5, K6⟩ := K
  have hcod := hc.cod (by omega) K3 K5
  obtain ⟨D, fV, fC, hB, F1, F2, g1, g2, -, -⟩ := strObj wi al E V C
  exact ⟨A, ⟨_, hB.2.2.1, D, hB.1, rfl, by cases q : D.vm <;> first | rfl | exact absurd q (hB.2.1.2 _)⟩, Has.of hB F1 g1, Has.of hB F2 g2, ⟨K1.1, State.isArrayOf_alike al K1.2.1, K1.2.2, by rcases hcod with ⟨-, q, -⟩ | ⟨-, q, -⟩ <;> omega⟩, hcod, fun j hj => by
    have e : cs.getD j 0 = cs[j] := by simp [List.getD_eq_getElem?_getD, hj]
    show ¬ cs.getD j 0 < 0 ∧ ¬ 65535 < cs.getD j 0
    rw [e]; exact hb _ (List.getElem_mem _)⟩
end StrChars.Road
namespace StrChars
open Jvm Sem ClassFile Op Lib Jvm.Stand Jvm.Free.XT Jvm.Free.ALB Jvm.Free.JM Jvm.Free
open Jvm.Lib.Cold (StaticIs)
namespace ChN
def yN : MethodName := ⟨"java/lang/String", "charAt", "(I)C"⟩
abbrev yB : ByteArray := jdk_42_method_56_code
theorem d0 : decode yB 0 = .ok (.aload_n 0, 1) := by decide +kernel
theorem d1 : decode yB 1 = .ok (.invokevirtual 492, 3) := by decide +kernel
theorem d4 : decode yB 4 = .ok (.ifCond (.eq) 12, 3) := by decide +kernel
theorem d7 : decode yB 7 = .ok (.aload_n 0, 1) := by decide +kernel
theorem d8 : decode yB 8 = .ok (.getfield 9, 3) := by decide +kernel
theorem d11 : decode yB 11 = .ok (.iload_n 1, 1) := by decide +kernel
theorem d12 : decode yB 12 = .ok (.invokestatic 495, 3) := by decide +kernel
theorem d15 : decode yB 15 = .ok (.ireturn, 1) := by decide +kernel
def site : List Cond := [.fieldLink "java/lang/String" 9 "java/lang/String" "value" "[B", IsL.tab, LChA.tab] ++ virtW "java/lang/String" 492 "java/lang/String" IsL.yN IsL.yN ++ staticW "java/lang/String" 495 LChA.yN
def tab : Cond := tabOf yN yB 2 (some .char) site
def P (x t : Addr) (V : Cell) (n : Nat) (f : Nat → Int32) (z : Int32) (fm : Value) (i : Nat) (args : Array Value) (s : State) : Prop := args = #[.ref x, .int (Int32.ofNat i)] ∧ Txt x t V 0 n f s ∧ i < n ∧ StaticIs s "java/lang/String" "COMPACT_STRINGS" "Z" (.int z) ∧ ¬ z = 0 ∧ StaticIs s "jdk/internal/util/Preconditions" "SIOOBE_FORMATTER" "Ljava/util/function/BiFunction;" fm ∧ fm.isRef = true
def E (f : Nat → Int32) (i : Nat) (r : Option Value) (s u : State) : Prop := XT.PureE (some (.int (f i))) r s u
/-- charAt(i) of a Latin-1 String of n chars, i < n: f i -/
theorem law (l : Launch) (x t : Addr) (V : Cell) (n : Nat) (f : Nat → Int32) (z : Int32) (fm : Value) (i : Nat) : Law l yN 2 1 3 40 yB 2 (some .char) site (P x t V n f z fm i) (E f i) [] 0 0 := by
  refine Law.of_walk (plainFor_of_name (by decide +kernel)) (by decide +kernel) (by decide +kernel) (by decide) (fun _ _ h => by rw [h.1]; rfl) (fun _ U U' hal hh h => ⟨h.1, h.2.1.mv hal hh, h.2.2.1, h.2.2.2.1.there hal hh, h.2.2.2.2.1, h.2.2.2.2.2.1.there hal hh, h.2.2.2.2.2.2⟩) (fun r U U' V V' h1 hal h2 h => XT.PureE.mv r U U' V V' h1 hal h2 h) ?_
  intro p e s m args below meth c s₁ X0 hexec hbytes hml hret hlk hnm hown hh0 W hP
  obtain ⟨rfl, hx, hi, s1, hz, s3, rf⟩ := hP
  have v31 := hx.2.2.2.1.2.2.2
  have hr := hx.2.2.2.2.2 i hi
  have hx0 := hx.mv X0.warmed.alike hh0
  have c1 : Steps p.tables e below (s₁.setTop (entryFrame m #[.ref x, .int (Int32.ofNat i)] 2)) (s₁.setTop (mkF m 1 #[.val (.ref x), .val (.int (Int32.ofNat i))] [.ref x])) := Steps.trans (entry rfl) (by
    show Steps p.tables e below (s₁.setTop (mkF m 0 #[.val (.ref x), .val (.int (Int32.ofNat i))] [])) _
    refine XS.aloadN X0.here hexec rfl (hb hbytes d0) rfl rfl ?_
    exact Steps.refl _)
  obtain ⟨v2, T2, X2, E2, g2⟩ := X0.callV hexec (IsL.law l x 0 z) hown (wks W (virtW "java/lang/String" 492 "java/lang/String" IsL.yN IsL.yN)) rfl (by decide) (wk W IsL.tab) (W := 0) (Nat.le_of_ble_eq_true rfl) (Nat.le_of_ble_eq_true rfl) (Nat.le_refl _) (Nat.le_refl _) (hx0.1.fc X0.warmed.alike) hx0.1.is (g := (mkF m 1 #[.val (.ref x), .val (.int (Int32.ofNat i))] [.ref x])) rfl (by rw [hml]; rfl) c1 (argsL := []) (rest := []) rfl rfl (by show 2 * 0 + 0 ≤ _; decide) (hb hbytes d1) (⟨rfl, hx0.2.2.1, hx.2.2.2.2.1.cd, s1.there X0.warmed.alike hh0, hz⟩)
  obtain ⟨rfl, q2⟩ := E2
  have hh2 := q2.trans hh0
  have hx2 := hx.mv X2.warmed.alike hh2
  obtain ⟨-, k1, k2⟩ | ⟨k0, -⟩ := hx.2.2.2.2.1
  · have c3 : Steps p.tables e below (s₁.setTop (entryFrame m #[.ref x, .int (Int32.ofNat i)] 2)) (T2.setTop (mkF m 8 #[.val (.ref x), .val (.int (Int32.ofNat i))] [.ref x])) := Steps.trans g2 (by
      refine XS.ifNo X2.here hexec rfl (hb hbytes d4) rfl (i0_eq_f (by decide)) ?_
      refine XS.aloadN X2.here hexec rfl (hb hbytes d7) rfl rfl ?_
      exact Steps.refl _)
    obtain ⟨T4, X4, q4, st4⟩ := X2.hget hexec hown (wk W (.fieldLink "java/lang/String" 9 "java/lang/String" "value" "[B")) hx2.2.1 (g := (mkF m 8 #[.val (.ref x), .val (.int (Int32.ofNat i))] [.ref x])) rfl (rest := []) rfl (hb hbytes d8)
    have hh4 := q4.trans hh2
    have c5 : Steps p.tables e below (s₁.setTop (entryFrame m #[.ref x, .int (Int32.ofNat i)] 2)) (T4.setTop (mkF m 12 #[.val (.ref x), .val (.int (Int32.ofNat i))] [.int (Int32.ofNat i), .ref t])) := (c3.trans (st4 _ (Steps.refl _))).trans (by
      refine XS.iloadN X4.here hexec rfl (hb hbytes d11) rfl ?_
      exact Steps.refl _)
    obtain ⟨v6, T6, X6, E6, g6⟩ := X4.callS hexec (LChA.law l t V i (lo8 (f i)) fm) hown (wks W (staticW "java/lang/String" 495 LChA.yN)) (wk W LChA.tab) (W := 0) (Nat.le_of_ble_eq_true rfl) (Nat.le_of_ble_eq_true rfl) (Nat.le_refl _) (Nat.le_refl _) (g := (mkF m 12 #[.val (.ref x), .val (.int (Int32.ofNat i))] [.int (Int32.ofNat i), .ref t])) rfl (by rw [hml]; rfl) c5 (argsL := [.ref t, .int (Int32.ofNat i)]) (rest := []) rfl rfl (by show 2 * 0 + 0 ≤ _; decide) (hb hbytes d12) (⟨rfl, hx.2.2.2.1.mv X4.warmed.alike hh4, (k2 i hi).1, s3.there X4.warmed.alike hh4, rf⟩)
    obtain ⟨rfl, q6⟩ := E6
    rw [chr8_lo8 hr.1 (k2 i hi).2] at g6
    exact ⟨T6, some (.int (f i)), _, _, _, X6, rfl, rfl, rfl, (fun h => by cases h), ⟨rfl, q6.trans hh4⟩, fun fs hl => Steps.trans g6 (X6.ireturnOut hexec hret (narrow_ch hr.1 hr.2) (Or.inr (Or.inr (Or.inr (Or.inl rfl)))) (hb hbytes d15) hl)⟩
  · exact absurd k0 (by decide)
theorem pays {l : Launch} {R : Room} {p : Program} {e : Env} {below : List Frame} {s : State} {sargs : Array Value} {len W : Nat} (x t : Addr) (V : Cell) (n : Nat) (f : Nat → Int32) (z : Int32) (fm : Value) (i : Nat) (htab : tab.before sargs s = true) (hfr : 4 ≤ R.frames) (hlo : W + 53 ≤ R.locals) :
    Back l R p e below s sargs yN len W (fun A₁ a₁ => A₁.cells + 0 ≤ R.cells ∧ A₁.slots + 0 ≤ R.slots ∧ P x t V n f z fm i a₁ A₁.U) (fun A₁ _ v₁ B₁ => E f i v₁ A₁.U B₁.U ∧ B₁.locs = A₁.locs ++ [] ∧ B₁.cells = A₁.cells + 0 ∧ B₁.slots = A₁.slots + 0) :=
  (law l x t V n f z fm i).pays htab hfr (by omega)
end ChN
end StrChars
namespace StrChars.Road
open Jvm Sem ClassFile Op Lib Jvm.Stand Jvm.Free Jvm.Free.XT
open Jvm.Lib.Cold (StaticIs)
/-- the words of String.charAt(int), the Latin-1 road alone -/
abbrev wordsChN : List Jvm.Cond := [.code ChN.yN ChN.yB 2 (some .char), .initialized ST, .fieldLink ST 9 ST "value" "[B", .fieldLink ST 38 ST "COMPACT_STRINGS" "Z", .fieldLink ST 15 ST "coder" "B", .code IsL.yN IsL.yB 1 (some .boolean), .methodLink ST 492 IsL.yN, .declares IsL.yN, .selects ST IsL.yN IsL.yN, .instanceMethod IsL.yN,
  .methodLink ST 495 LChA.yN, .static LChA.yN, .code LChA.yN LChA.yB 2 (some .char), .initialized "java/lang/StringLatin1", .methodLink "java/lang/StringLatin1" 9 JO.Str_checkIndex.yN, .static JO.Str_checkIndex.yN, .code JO.Str_checkIndex.yN JO.Str_checkIndex.yB 2 none,
  .fieldLink ST 1053 "jdk/internal/util/Preconditions" "SIOOBE_FORMATTER" "Ljava/util/function/BiFunction;", .methodLink ST 1059 JC.PreCheck.yN, .static JC.PreCheck.yN, .code JC.PreCheck.yN JC.PreCheck.yB 3 (some .int), .initialized "jdk/internal/util/Preconditions"]
theorem tabChN_of {a : Array Value} {s : State} (h : ∀ w ∈ wordsChN, w.before a s = true) : ChN.tab.before a s = true := by
  have hp : JC.PreCheck.tab.before a s = true := unparts (wk h (.code JC.PreCheck.yN JC.PreCheck.yB 3 (some .int))) (wks h (.initialized JC.PreCheck.yN.cls :: JC.PreCheck.site))
  have qk := consq hp h
  have hk : JO.Str_checkIndex.tab.before a s = true := unparts (wk qk (.code JO.Str_checkIndex.yN JO.Str_checkIndex.yB 2 none)) (wks qk (.initialized JO.Str_checkIndex.yN.cls :: JO.Str_checkIndex.site))
  have ql := consq hk h
  have hl : LChA.tab.before a s = true := unparts (wk ql (.code LChA.yN LChA.yB 2 (some .char))) (wks ql (.initialized LChA.yN.cls :: LChA.site))
  have hi : IsL.tab.before a s = true := unparts (wk h (.code IsL.yN IsL.yB 1 (some .boolean))) (wks h (.initialized IsL.yN.cls :: IsL.site))
  have q := consq hi (consq hl h)
  exact unparts (wk q (.code ChN.yN ChN.yB 2 (some .char))) (wks q (.initialized ChN.yN.cls :: ChN.site))
theorem movedChN {Z s : State} {a0 args : Array Value} (hZ : Z.Warmed39 s.vm) (hw : ∀ d ∈ wordsChN, d.before a0 Z = true) : ∀ d ∈ wordsChN, d.before args s = true := fun d hd => by
  have t : ∀ d ∈ wordsChN, (d.onTables && d.keepsFace) = true := by decide +kernel
  exact RoadKit.mv hZ (hw d hd) (t d hd)
/-- **charAt(i) OF A LATIN-1 STRING**, i < n: the char -/
theorem chN {p : Program} {l : Launch} {e : Env} {R : Room} {s : State} {args : Array Value} {below : List Frame} {len W : Nat} {Z : State} {a0 : Array Value} {h : Heap} (hZ : Z.Warmed39 s.vm) (hw : ∀ d ∈ wordsChN, d.before a0 Z = true) {kI : Nat} (wi : (Jvm.Cond.instantiable ST kI).before a0 Z = true)
    {x t : Addr} {kb : ClassId} {cs : List Int32} {N2 z : Int32} {vs : List Value} {fm : Value} {i : Nat} {j : Int32} (E : RoadKit.Exa Z h x ST) (V : RoadKit.Fld Z h x ST "value" "[B" (.ref t)) (C : RoadKit.Fld Z h x ST "coder" "B" (.int 0)) (K : RoadKit.Arv Z h t kb .byte N2 vs (.int 0)) (hc : CodA cs 0 N2 vs) (hb : ∀ c ∈ cs, ¬ c < 0 ∧ ¬ (65535 : Int32) < c)
    (S : RoadKit.Sta Z h ST "COMPACT_STRINGS" "Z" (.int z)) (hz : ¬ z = 0) (F : RoadKit.Sta Z h "jdk/internal/util/Preconditions" "SIOOBE_FORMATTER" "Ljava/util/function/BiFunction;" fm) (rf : fm.isRef = true) (l2 : cs.length ≤ 4000) (hi : i < cs.length) (hj : j = Int32.ofNat i) (hfr : 4 ≤ R.frames) (hlo : W + 53 ≤ R.locals) :
    Back l R p e below s args (⟨"java/lang/String", "charAt", "(I)C"⟩ : MethodName) len W (fun P a => a = #[.ref x, .int j] ∧ P.U.heap = h ∧ P.cells + 0 ≤ R.cells ∧ P.slots + 0 ≤ R.slots)
      (fun P _ v B => ∃ L, (v = some (.int (cs.getD i 0)) ∧ L = [] ∧ B.U.heap = h) ∧ B.locs = P.locs ++ L ∧ B.cells = P.cells + 0 ∧ B.slots = P.slots + 0) := by
  subst hj
  intro m meth c P g ig mk a X hg hsize hdg hW hn hp'
  obtain ⟨rfl, rfl, r1, r2⟩ := hp'
  have al : Z.vm.Alike P.U.vm := hZ.alike.trans X.warmed.alike
  obtain ⟨A, hx⟩ := txt_of wi al E V C K hc hb l2
  obtain ⟨v, B, X', ⟨⟨hv, hh⟩, hl, hk, hs⟩, st⟩ := ChN.pays x t A cs.length (fun j => cs.getD j 0) z fm i (tabChN_of (movedChN hZ hw)) hfr hlo m meth c P g ig mk _ X hg hsize hdg hW hn ⟨r1, r2, rfl, hx, hi, sta_is al S, hz, sta_is al F, rf⟩
  exact ⟨v, B, X', ⟨[], ⟨hv, rfl, hh⟩, hl, hk, hs⟩, st⟩
/-- what backV says of its String, as the contracts of this text ask it: cs's low bytes, coder 0 -/
theorem codOf {cs : List Int32} {n : Nat} (hn : cs.length = n) (hb : ∀ c ∈ cs, ¬ 255 < c) : CodA cs 0 (Int32.ofNat n) ((cs.map lo8).map Value.int) := Or.inl ⟨rfl, by rw [hn], by simp [List.map_map, Function.comp_def], hb⟩
end StrChars.Road
end Jvm.Pilot.@@N@@
namespace Jvm.Pilot.@@N@@
open Jvm Jvm.ClassFile Sem Op Lib Jvm.Free Jvm.Stand Jvm.LawKit Jvm.RoadKit Bundle Jvm.LamKit Jvm.Own Jvm.Pilot.@@N@@.Jvm.D
/-- the lambda's shape; the forwarder that the rule makes for it -/
abbrev sg : Lambda.Shape := (Jvm.Lambda.Shape.mk "java/util/function/Function" "apply" (Jvm.ClassFile.MethodDescriptor.mk ([(Jvm.ClassFile.FieldType.object "java/lang/Object")] : List Jvm.ClassFile.FieldType) (Option.some (Jvm.ClassFile.FieldType.object "java/lang/Object"))) ([(Jvm.ClassFile.FieldType.object "com/example/sedgeholt/sedgeholt/layout/VersionFile")] : List Jvm.ClassFile.FieldType) (5 : Nat) "com/example/sedgeholt/sedgeholt/layout/VersionFile" "lambda$fileVersion$3" (Jvm.ClassFile.MethodDescriptor.mk ([(Jvm.ClassFile.FieldType.object "com/example/sedgeholt/sedgeholt/layout/VersionFile$Build")] : List Jvm.ClassFile.FieldType) (Option.some (Jvm.ClassFile.FieldType.object "java/lang/String"))) false (Jvm.ClassFile.MethodDescriptor.mk ([(Jvm.ClassFile.FieldType.object "com/example/sedgeholt/sedgeholt/layout/VersionFile$Build")] : List Jvm.ClassFile.FieldType) (Option.some (Jvm.ClassFile.FieldType.object "java/lang/String"))))
def fcode : ByteArray := ⟨#[0x2a, 0xb4, 0x00, 0x0f, 0x2b, 0xc0, 0x00, 0x13, 0xb6, 0x00, 0x19, 0xb0]⟩
theorem lfwd : fwdOK sg "com/example/sedgeholt/sedgeholt/layout/VersionFile" fcode 2 (some (.object "java/lang/Object")) 25 21 = true := by decide +kernel
theorem lcap : capOK sg "com/example/sedgeholt/sedgeholt/layout/VersionFile" 15 0 = true := by decide +kernel
theorem lcst : castOK sg "com/example/sedgeholt/sedgeholt/layout/VersionFile" 19 "com/example/sedgeholt/sedgeholt/layout/VersionFile$Build" = true := by decide +kernel
theorem lf0 : decode fcode 0 = .ok (.aload_n 0, 1) := by decide +kernel
theorem lf1 : decode fcode 1 = .ok (.getfield 15, 3) := by decide +kernel
theorem lf4 : decode fcode 4 = .ok (.aload_n 1, 1) := by decide +kernel
theorem lf5 : decode fcode 5 = .ok (.checkcast 19, 3) := by decide +kernel
theorem lf8 : decode fcode 8 = .ok (.invokevirtual 25, 3) := by decide +kernel
theorem lf11 : decode fcode 11 = .ok (.areturn, 1) := by decide +kernel
/-- what the two statics of the JDK's set hold -/
def Cst (Z : State) : Prop := (∃ z : Int32, Sta Z Z.heap "java/lang/String" "COMPACT_STRINGS" "Z" (.int z) ∧ ¬ z = 0) ∧ ∃ f : Value, Sta Z Z.heap "jdk/internal/util/Preconditions" "SIOOBE_FORMATTER" "Ljava/util/function/BiFunction;" f ∧ f.isRef = true
def XS0 (Z : State) : Prop := ∃ (OE : Addr) (cK : ClassId) (one : Option Addr), Sta Z Z.heap "java/util/Optional" "EMPTY" "Ljava/util/Optional;" (.ref OE) ∧ Exa Z Z.heap OE "java/util/Optional" ∧ Fld Z Z.heap OE "java/util/Optional" "value" "Ljava/lang/Object;" .null ∧ Z.lambdaAt? ({ cls := "com/example/sedgeholt/sedgeholt/layout/VersionFile", name := "fileVersion", desc := "()Ljava/lang/String;" } : Jvm.MethodName) 5 118 sg = some (cK, one)
def HW (Z : State) (a0 : Array Value) : Prop := (∀ d ∈ tables_1, d.before a0 Z = true) ∧ Cst Z ∧ XS0 Z
theorem ow_0 {Z : State} {a0 : Array Value} (hw : HW Z a0) : (Jvm.Cond.arrayClass Jvm.ClassFile.FieldType.char).before a0 Z = true := hw.1 _ (List.mem_of_getElem? (i := 0) rfl)
theorem ow_1 {Z : State} {a0 : Array Value} (hw : HW Z a0) : (Jvm.Cond.classLink "com/example/sedgeholt/sedgeholt/layout/VersionFileFileVersionPinLaw" (7 : Nat) "java/lang/String").before a0 Z = true := hw.1 _ (List.mem_of_getElem? (i := 1) rfl)
theorem ow_2 {Z : State} {a0 : Array Value} (hw : HW Z a0) : (Jvm.Cond.instantiable "java/lang/String" (4 : Nat)).before a0 Z = true := hw.1 _ (List.mem_of_getElem? (i := 2) rfl)
theorem ow_3 {Z : State} {a0 : Array Value} (hw : HW Z a0) : (Jvm.Cond.initialized "java/lang/String").before a0 Z = true := hw.1 _ (List.mem_of_getElem? (i := 3) rfl)
theorem ow_4 {Z : State} {a0 : Array Value} (hw : HW Z a0) : (Jvm.Cond.methodLink "com/example/sedgeholt/sedgeholt/layout/VersionFileFileVersionPinLaw" (9 : Nat) ({ cls := "java/lang/String", name := "<init>", desc := "([C)V" } : Jvm.MethodName)).before a0 Z = true := hw.1 _ (List.mem_of_getElem? (i := 4) rfl)
theorem ow_5 {Z : State} {a0 : Array Value} (hw : HW Z a0) : (Jvm.Cond.instanceMethod ({ cls := "java/lang/String", name := "<init>", desc := "([C)V" } : Jvm.MethodName)).before a0 Z = true := hw.1 _ (List.mem_of_getElem? (i := 5) rfl)
theorem ow_6 {Z : State} {a0 : Array Value} (hw : HW Z a0) : (Jvm.Cond.code ({ cls := "java/lang/String", name := "<init>", desc := "([C)V" } : Jvm.MethodName) jdk_42_method_3_code (2 : Nat) (Option.none : Option Jvm.ClassFile.FieldType)).before a0 Z = true := hw.1 _ (List.mem_of_getElem? (i := 6) rfl)
theorem ow_11 {Z : State} {a0 : Array Value} (hw : HW Z a0) : (Jvm.Cond.methodLink "java/lang/String" (1 : Nat) ({ cls := "java/lang/Object", name := "<init>", desc := "()V" } : Jvm.MethodName)).before a0 Z = true := hw.1 _ (List.mem_of_getElem? (i := 11) rfl)
theorem ow_12 {Z : State} {a0 : Array Value} (hw : HW Z a0) : (Jvm.Cond.instanceMethod ({ cls := "java/lang/Object", name := "<init>", desc := "()V" } : Jvm.MethodName)).before a0 Z = true := hw.1 _ (List.mem_of_getElem? (i := 12) rfl)
theorem ow_13 {Z : State} {a0 : Array Value} (hw : HW Z a0) : (Jvm.Cond.code ({ cls := "java/lang/Object", name := "<init>", desc := "()V" } : Jvm.MethodName) object_method_1_code (1 : Nat) (Option.none : Option Jvm.ClassFile.FieldType)).before a0 Z = true := hw.1 _ (List.mem_of_getElem? (i := 13) rfl)
theorem ow_14 {Z : State} {a0 : Array Value} (hw : HW Z a0) : (Jvm.Cond.fieldLink "java/lang/String" (38 : Nat) "java/lang/String" "COMPACT_STRINGS" "Z").before a0 Z = true := hw.1 _ (List.mem_of_getElem? (i := 14) rfl)
theorem ow_19 {Z : State} {a0 : Array Value} (hw : HW Z a0) : (Jvm.Cond.arrayClass Jvm.ClassFile.FieldType.byte).before a0 Z = true := hw.1 _ (List.mem_of_getElem? (i := 19) rfl)
theorem ow_26 {Z : State} {a0 : Array Value} (hw : HW Z a0) : (Jvm.Cond.fieldLink "java/lang/String" (15 : Nat) "java/lang/String" "coder" "B").before a0 Z = true := hw.1 _ (List.mem_of_getElem? (i := 26) rfl)
theorem ow_27 {Z : State} {a0 : Array Value} (hw : HW Z a0) : (Jvm.Cond.laysFinal "java/lang/String" "java/lang/String" "coder" "B").before a0 Z = true := hw.1 _ (List.mem_of_getElem? (i := 27) rfl)
theorem ow_28 {Z : State} {a0 : Array Value} (hw : HW Z a0) : (Jvm.Cond.fieldLink "java/lang/String" (9 : Nat) "java/lang/String" "value" "[B").before a0 Z = true := hw.1 _ (List.mem_of_getElem? (i := 28) rfl)
theorem ow_29 {Z : State} {a0 : Array Value} (hw : HW Z a0) : (Jvm.Cond.laysFinal "java/lang/String" "java/lang/String" "value" "[B").before a0 Z = true := hw.1 _ (List.mem_of_getElem? (i := 29) rfl)
theorem ow_30 {Z : State} {a0 : Array Value} (hw : HW Z a0) : (Jvm.Cond.classLink "com/example/sedgeholt/sedgeholt/layout/VersionFileFileVersionPinLaw" (12 : Nat) "com/example/sedgeholt/sedgeholt/layout/VersionFile").before a0 Z = true := hw.1 _ (List.mem_of_getElem? (i := 30) rfl)
theorem ow_31 {Z : State} {a0 : Array Value} (hw : HW Z a0) : (Jvm.Cond.instantiable "com/example/sedgeholt/sedgeholt/layout/VersionFile" (5 : Nat)).before a0 Z = true := hw.1 _ (List.mem_of_getElem? (i := 31) rfl)
theorem ow_32 {Z : State} {a0 : Array Value} (hw : HW Z a0) : (Jvm.Cond.initialized "com/example/sedgeholt/sedgeholt/layout/VersionFile").before a0 Z = true := hw.1 _ (List.mem_of_getElem? (i := 32) rfl)
theorem ow_33 {Z : State} {a0 : Array Value} (hw : HW Z a0) : (Jvm.Cond.stringLink "com/example/sedgeholt/sedgeholt/layout/VersionFileFileVersionPinLaw" (14 : Nat) "a").before a0 Z = true := hw.1 _ (List.mem_of_getElem? (i := 33) rfl)
theorem ow_36 {Z : State} {a0 : Array Value} (hw : HW Z a0) : (Jvm.Cond.classLink "com/example/sedgeholt/sedgeholt/layout/VersionFileFileVersionPinLaw" (16 : Nat) "com/example/sedgeholt/sedgeholt/layout/VersionFile$Build").before a0 Z = true := hw.1 _ (List.mem_of_getElem? (i := 36) rfl)
theorem ow_37 {Z : State} {a0 : Array Value} (hw : HW Z a0) : (Jvm.Cond.instantiable "com/example/sedgeholt/sedgeholt/layout/VersionFile$Build" (2 : Nat)).before a0 Z = true := hw.1 _ (List.mem_of_getElem? (i := 37) rfl)
theorem ow_38 {Z : State} {a0 : Array Value} (hw : HW Z a0) : (Jvm.Cond.initialized "com/example/sedgeholt/sedgeholt/layout/VersionFile$Build").before a0 Z = true := hw.1 _ (List.mem_of_getElem? (i := 38) rfl)
theorem ow_39 {Z : State} {a0 : Array Value} (hw : HW Z a0) : (Jvm.Cond.methodLink "com/example/sedgeholt/sedgeholt/layout/VersionFileFileVersionPinLaw" (18 : Nat) ({ cls := "com/example/sedgeholt/sedgeholt/layout/VersionFile$Build", name := "<init>", desc := "(Ljava/lang/String;Ljava/lang/String;)V" } : Jvm.MethodName)).before a0 Z = true := hw.1 _ (List.mem_of_getElem? (i := 39) rfl)
theorem ow_40 {Z : State} {a0 : Array Value} (hw : HW Z a0) : (Jvm.Cond.instanceMethod ({ cls := "com/example/sedgeholt/sedgeholt/layout/VersionFile$Build", name := "<init>", desc := "(Ljava/lang/String;Ljava/lang/String;)V" } : Jvm.MethodName)).before a0 Z = true := hw.1 _ (List.mem_of_getElem? (i := 40) rfl)
theorem ow_41 {Z : State} {a0 : Array Value} (hw : HW Z a0) : (Jvm.Cond.code ({ cls := "com/example/sedgeholt/sedgeholt/layout/VersionFile$Build", name := "<init>", desc := "(Ljava/lang/String;Ljava/lang/String;)V" } : Jvm.MethodName) prog_10_method_1_code (3 : Nat) (Option.none : Option Jvm.ClassFile.FieldType)).before a0 Z = true := hw.1 _ (List.mem_of_getElem? (i := 41) rfl)
theorem ow_42 {Z : State} {a0 : Array Value} (hw : HW Z a0) : (Jvm.Cond.methodLink "com/example/sedgeholt/sedgeholt/layout/VersionFile$Build" (1 : Nat) ({ cls := "java/lang/Record", name := "<init>", desc := "()V" } : Jvm.MethodName)).before a0 Z = true := hw.1 _ (List.mem_of_getElem? (i := 42) rfl)
theorem ow_43 {Z : State} {a0 : Array Value} (hw : HW Z a0) : (Jvm.Cond.instanceMethod ({ cls := "java/lang/Record", name := "<init>", desc := "()V" } : Jvm.MethodName)).before a0 Z = true := hw.1 _ (List.mem_of_getElem? (i := 43) rfl)
theorem ow_45 {Z : State} {a0 : Array Value} (hw : HW Z a0) : (Jvm.Cond.initialized "java/lang/Record").before a0 Z = true := hw.1 _ (List.mem_of_getElem? (i := 45) rfl)
theorem ow_46 {Z : State} {a0 : Array Value} (hw : HW Z a0) : (Jvm.Cond.code ({ cls := "java/lang/Record", name := "<init>", desc := "()V" } : Jvm.MethodName) jdk_30_method_1_code (1 : Nat) (Option.none : Option Jvm.ClassFile.FieldType)).before a0 Z = true := hw.1 _ (List.mem_of_getElem? (i := 46) rfl)
theorem ow_47 {Z : State} {a0 : Array Value} (hw : HW Z a0) : (Jvm.Cond.methodLink "java/lang/Record" (1 : Nat) ({ cls := "java/lang/Object", name := "<init>", desc := "()V" } : Jvm.MethodName)).before a0 Z = true := hw.1 _ (List.mem_of_getElem? (i := 47) rfl)
theorem ow_48 {Z : State} {a0 : Array Value} (hw : HW Z a0) : (Jvm.Cond.fieldLink "com/example/sedgeholt/sedgeholt/layout/VersionFile$Build" (7 : Nat) "com/example/sedgeholt/sedgeholt/layout/VersionFile$Build" "timestamp" "Ljava/lang/String;").before a0 Z = true := hw.1 _ (List.mem_of_getElem? (i := 48) rfl)
theorem ow_49 {Z : State} {a0 : Array Value} (hw : HW Z a0) : (Jvm.Cond.laysFinal "com/example/sedgeholt/sedgeholt/layout/VersionFile$Build" "com/example/sedgeholt/sedgeholt/layout/VersionFile$Build" "timestamp" "Ljava/lang/String;").before a0 Z = true := hw.1 _ (List.mem_of_getElem? (i := 49) rfl)
theorem ow_50 {Z : State} {a0 : Array Value} (hw : HW Z a0) : (Jvm.Cond.fieldLink "com/example/sedgeholt/sedgeholt/layout/VersionFile$Build" (13 : Nat) "com/example/sedgeholt/sedgeholt/layout/VersionFile$Build" "number" "Ljava/lang/String;").before a0 Z = true := hw.1 _ (List.mem_of_getElem? (i := 50) rfl)
theorem ow_51 {Z : State} {a0 : Array Value} (hw : HW Z a0) : (Jvm.Cond.laysFinal "com/example/sedgeholt/sedgeholt/layout/VersionFile$Build" "com/example/sedgeholt/sedgeholt/layout/VersionFile$Build" "number" "Ljava/lang/String;").before a0 Z = true := hw.1 _ (List.mem_of_getElem? (i := 51) rfl)
theorem ow_52 {Z : State} {a0 : Array Value} (hw : HW Z a0) : (Jvm.Cond.methodLink "com/example/sedgeholt/sedgeholt/layout/VersionFileFileVersionPinLaw" (21 : Nat) ({ cls := "java/util/Optional", name := "of", desc := "(Ljava/lang/Object;)Ljava/util/Optional;" } : Jvm.MethodName)).before a0 Z = true := hw.1 _ (List.mem_of_getElem? (i := 52) rfl)
theorem ow_53 {Z : State} {a0 : Array Value} (hw : HW Z a0) : (Jvm.Cond.static ({ cls := "java/util/Optional", name := "of", desc := "(Ljava/lang/Object;)Ljava/util/Optional;" } : Jvm.MethodName)).before a0 Z = true := hw.1 _ (List.mem_of_getElem? (i := 53) rfl)
theorem ow_54 {Z : State} {a0 : Array Value} (hw : HW Z a0) : (Jvm.Cond.initialized "java/util/Optional").before a0 Z = true := hw.1 _ (List.mem_of_getElem? (i := 54) rfl)
theorem ow_55 {Z : State} {a0 : Array Value} (hw : HW Z a0) : (Jvm.Cond.code ({ cls := "java/util/Optional", name := "of", desc := "(Ljava/lang/Object;)Ljava/util/Optional;" } : Jvm.MethodName) jdk_32_method_3_code (1 : Nat) (Option.some (Jvm.ClassFile.FieldType.object "java/util/Optional"))).before a0 Z = true := hw.1 _ (List.mem_of_getElem? (i := 55) rfl)
theorem ow_56 {Z : State} {a0 : Array Value} (hw : HW Z a0) : (Jvm.Cond.classLink "java/util/Optional" (2 : Nat) "java/util/Optional").before a0 Z = true := hw.1 _ (List.mem_of_getElem? (i := 56) rfl)
theorem ow_57 {Z : State} {a0 : Array Value} (hw : HW Z a0) : (Jvm.Cond.instantiable "java/util/Optional" (1 : Nat)).before a0 Z = true := hw.1 _ (List.mem_of_getElem? (i := 57) rfl)
theorem ow_58 {Z : State} {a0 : Array Value} (hw : HW Z a0) : (Jvm.Cond.methodLink "java/util/Optional" (17 : Nat) ({ cls := "java/util/Objects", name := "requireNonNull", desc := "(Ljava/lang/Object;)Ljava/lang/Object;" } : Jvm.MethodName)).before a0 Z = true := hw.1 _ (List.mem_of_getElem? (i := 58) rfl)
theorem ow_59 {Z : State} {a0 : Array Value} (hw : HW Z a0) : (Jvm.Cond.static ({ cls := "java/util/Objects", name := "requireNonNull", desc := "(Ljava/lang/Object;)Ljava/lang/Object;" } : Jvm.MethodName)).before a0 Z = true := hw.1 _ (List.mem_of_getElem? (i := 59) rfl)
theorem ow_60 {Z : State} {a0 : Array Value} (hw : HW Z a0) : (Jvm.Cond.initialized "java/util/Objects").before a0 Z = true := hw.1 _ (List.mem_of_getElem? (i := 60) rfl)
theorem ow_61 {Z : State} {a0 : Array Value} (hw : HW Z a0) : (Jvm.Cond.code ({ cls := "java/util/Objects", name := "requireNonNull", desc := "(Ljava/lang/Object;)Ljava/lang/Object;" } : Jvm.MethodName) jdk_31_method_10_code (1 : Nat) (Option.some (Jvm.ClassFile.FieldType.object "java/lang/Object"))).before a0 Z = true := hw.1 _ (List.mem_of_getElem? (i := 61) rfl)
theorem ow_62 {Z : State} {a0 : Array Value} (hw : HW Z a0) : (Jvm.Cond.methodLink "java/util/Optional" (23 : Nat) ({ cls := "java/util/Optional", name := "<init>", desc := "(Ljava/lang/Object;)V" } : Jvm.MethodName)).before a0 Z = true := hw.1 _ (List.mem_of_getElem? (i := 62) rfl)
theorem ow_63 {Z : State} {a0 : Array Value} (hw : HW Z a0) : (Jvm.Cond.instanceMethod ({ cls := "java/util/Optional", name := "<init>", desc := "(Ljava/lang/Object;)V" } : Jvm.MethodName)).before a0 Z = true := hw.1 _ (List.mem_of_getElem? (i := 63) rfl)
theorem ow_65 {Z : State} {a0 : Array Value} (hw : HW Z a0) : (Jvm.Cond.code ({ cls := "java/util/Optional", name := "<init>", desc := "(Ljava/lang/Object;)V" } : Jvm.MethodName) jdk_32_method_2_code (2 : Nat) (Option.none : Option Jvm.ClassFile.FieldType)).before a0 Z = true := hw.1 _ (List.mem_of_getElem? (i := 65) rfl)
theorem ow_66 {Z : State} {a0 : Array Value} (hw : HW Z a0) : (Jvm.Cond.methodLink "java/util/Optional" (7 : Nat) ({ cls := "java/lang/Object", name := "<init>", desc := "()V" } : Jvm.MethodName)).before a0 Z = true := hw.1 _ (List.mem_of_getElem? (i := 66) rfl)
theorem ow_67 {Z : State} {a0 : Array Value} (hw : HW Z a0) : (Jvm.Cond.fieldLink "java/util/Optional" (13 : Nat) "java/util/Optional" "value" "Ljava/lang/Object;").before a0 Z = true := hw.1 _ (List.mem_of_getElem? (i := 67) rfl)
theorem ow_68 {Z : State} {a0 : Array Value} (hw : HW Z a0) : (Jvm.Cond.laysFinal "java/util/Optional" "java/util/Optional" "value" "Ljava/lang/Object;").before a0 Z = true := hw.1 _ (List.mem_of_getElem? (i := 68) rfl)
theorem ow_69 {Z : State} {a0 : Array Value} (hw : HW Z a0) : (Jvm.Cond.stringLink "com/example/sedgeholt/sedgeholt/layout/VersionFileFileVersionPinLaw" (27 : Nat) "").before a0 Z = true := hw.1 _ (List.mem_of_getElem? (i := 69) rfl)
theorem ow_70 {Z : State} {a0 : Array Value} (hw : HW Z a0) : (Jvm.Cond.stringLink "com/example/sedgeholt/sedgeholt/layout/VersionFileFileVersionPinLaw" (29 : Nat) "jar").before a0 Z = true := hw.1 _ (List.mem_of_getElem? (i := 70) rfl)
theorem ow_71 {Z : State} {a0 : Array Value} (hw : HW Z a0) : (Jvm.Cond.methodLink "com/example/sedgeholt/sedgeholt/layout/VersionFileFileVersionPinLaw" (31 : Nat) ({ cls := "com/example/sedgeholt/sedgeholt/layout/VersionFile", name := "<init>", desc := "(Ljava/lang/String;Ljava/lang/String;Ljava/util/Optional;Ljava/lang/String;Ljava/lang/String;)V" } : Jvm.MethodName)).before a0 Z = true := hw.1 _ (List.mem_of_getElem? (i := 71) rfl)
theorem ow_72 {Z : State} {a0 : Array Value} (hw : HW Z a0) : (Jvm.Cond.instanceMethod ({ cls := "com/example/sedgeholt/sedgeholt/layout/VersionFile", name := "<init>", desc := "(Ljava/lang/String;Ljava/lang/String;Ljava/util/Optional;Ljava/lang/String;Ljava/lang/String;)V" } : Jvm.MethodName)).before a0 Z = true := hw.1 _ (List.mem_of_getElem? (i := 72) rfl)
theorem ow_73 {Z : State} {a0 : Array Value} (hw : HW Z a0) : (Jvm.Cond.code ({ cls := "com/example/sedgeholt/sedgeholt/layout/VersionFile", name := "<init>", desc := "(Ljava/lang/String;Ljava/lang/String;Ljava/util/Optional;Ljava/lang/String;Ljava/lang/String;)V" } : Jvm.MethodName) prog_9_method_1_code (6 : Nat) (Option.none : Option Jvm.ClassFile.FieldType)).before a0 Z = true := hw.1 _ (List.mem_of_getElem? (i := 73) rfl)
theorem ow_74 {Z : State} {a0 : Array Value} (hw : HW Z a0) : (Jvm.Cond.methodLink "com/example/sedgeholt/sedgeholt/layout/VersionFile" (1 : Nat) ({ cls := "java/lang/Record", name := "<init>", desc := "()V" } : Jvm.MethodName)).before a0 Z = true := hw.1 _ (List.mem_of_getElem? (i := 74) rfl)
theorem ow_75 {Z : State} {a0 : Array Value} (hw : HW Z a0) : (Jvm.Cond.fieldLink "com/example/sedgeholt/sedgeholt/layout/VersionFile" (7 : Nat) "com/example/sedgeholt/sedgeholt/layout/VersionFile" "artifactId" "Ljava/lang/String;").before a0 Z = true := hw.1 _ (List.mem_of_getElem? (i := 75) rfl)
theorem ow_76 {Z : State} {a0 : Array Value} (hw : HW Z a0) : (Jvm.Cond.laysFinal "com/example/sedgeholt/sedgeholt/layout/VersionFile" "com/example/sedgeholt/sedgeholt/layout/VersionFile" "artifactId" "Ljava/lang/String;").before a0 Z = true := hw.1 _ (List.mem_of_getElem? (i := 76) rfl)
theorem ow_77 {Z : State} {a0 : Array Value} (hw : HW Z a0) : (Jvm.Cond.fieldLink "com/example/sedgeholt/sedgeholt/layout/VersionFile" (13 : Nat) "com/example/sedgeholt/sedgeholt/layout/VersionFile" "version" "Ljava/lang/String;").before a0 Z = true := hw.1 _ (List.mem_of_getElem? (i := 77) rfl)
theorem ow_78 {Z : State} {a0 : Array Value} (hw : HW Z a0) : (Jvm.Cond.laysFinal "com/example/sedgeholt/sedgeholt/layout/VersionFile" "com/example/sedgeholt/sedgeholt/layout/VersionFile" "version" "Ljava/lang/String;").before a0 Z = true := hw.1 _ (List.mem_of_getElem? (i := 78) rfl)
theorem ow_79 {Z : State} {a0 : Array Value} (hw : HW Z a0) : (Jvm.Cond.fieldLink "com/example/sedgeholt/sedgeholt/layout/VersionFile" (16 : Nat) "com/example/sedgeholt/sedgeholt/layout/VersionFile" "build" "Ljava/util/Optional;").before a0 Z = true := hw.1 _ (List.mem_of_getElem? (i := 79) rfl)
theorem ow_80 {Z : State} {a0 : Array Value} (hw : HW Z a0) : (Jvm.Cond.laysFinal "com/example/sedgeholt/sedgeholt/layout/VersionFile" "com/example/sedgeholt/sedgeholt/layout/VersionFile" "build" "Ljava/util/Optional;").before a0 Z = true := hw.1 _ (List.mem_of_getElem? (i := 80) rfl)
theorem ow_81 {Z : State} {a0 : Array Value} (hw : HW Z a0) : (Jvm.Cond.fieldLink "com/example/sedgeholt/sedgeholt/layout/VersionFile" (20 : Nat) "com/example/sedgeholt/sedgeholt/layout/VersionFile" "classifier" "Ljava/lang/String;").before a0 Z = true := hw.1 _ (List.mem_of_getElem? (i := 81) rfl)
theorem ow_82 {Z : State} {a0 : Array Value} (hw : HW Z a0) : (Jvm.Cond.laysFinal "com/example/sedgeholt/sedgeholt/layout/VersionFile" "com/example/sedgeholt/sedgeholt/layout/VersionFile" "classifier" "Ljava/lang/String;").before a0 Z = true := hw.1 _ (List.mem_of_getElem? (i := 82) rfl)
theorem ow_83 {Z : State} {a0 : Array Value} (hw : HW Z a0) : (Jvm.Cond.fieldLink "com/example/sedgeholt/sedgeholt/layout/VersionFile" (23 : Nat) "com/example/sedgeholt/sedgeholt/layout/VersionFile" "extension" "Ljava/lang/String;").before a0 Z = true := hw.1 _ (List.mem_of_getElem? (i := 83) rfl)
theorem ow_84 {Z : State} {a0 : Array Value} (hw : HW Z a0) : (Jvm.Cond.laysFinal "com/example/sedgeholt/sedgeholt/layout/VersionFile" "com/example/sedgeholt/sedgeholt/layout/VersionFile" "extension" "Ljava/lang/String;").before a0 Z = true := hw.1 _ (List.mem_of_getElem? (i := 84) rfl)
theorem ow_85 {Z : State} {a0 : Array Value} (hw : HW Z a0) : (Jvm.Cond.methodLink "com/example/sedgeholt/sedgeholt/layout/VersionFileFileVersionPinLaw" (34 : Nat) ({ cls := "com/example/sedgeholt/sedgeholt/layout/VersionFile", name := "fileVersion", desc := "()Ljava/lang/String;" } : Jvm.MethodName)).before a0 Z = true := hw.1 _ (List.mem_of_getElem? (i := 85) rfl)
theorem ow_86 {Z : State} {a0 : Array Value} (hw : HW Z a0) : (Jvm.Cond.declares ({ cls := "com/example/sedgeholt/sedgeholt/layout/VersionFile", name := "fileVersion", desc := "()Ljava/lang/String;" } : Jvm.MethodName)).before a0 Z = true := hw.1 _ (List.mem_of_getElem? (i := 86) rfl)
theorem ow_87 {Z : State} {a0 : Array Value} (hw : HW Z a0) : (Jvm.Cond.instanceMethod ({ cls := "com/example/sedgeholt/sedgeholt/layout/VersionFile", name := "fileVersion", desc := "()Ljava/lang/String;" } : Jvm.MethodName)).before a0 Z = true := hw.1 _ (List.mem_of_getElem? (i := 87) rfl)
theorem ow_88 {Z : State} {a0 : Array Value} (hw : HW Z a0) : (Jvm.Cond.selects "com/example/sedgeholt/sedgeholt/layout/VersionFile" ({ cls := "com/example/sedgeholt/sedgeholt/layout/VersionFile", name := "fileVersion", desc := "()Ljava/lang/String;" } : Jvm.MethodName) ({ cls := "com/example/sedgeholt/sedgeholt/layout/VersionFile", name := "fileVersion", desc := "()Ljava/lang/String;" } : Jvm.MethodName)).before a0 Z = true := hw.1 _ (List.mem_of_getElem? (i := 88) rfl)
theorem ow_89 {Z : State} {a0 : Array Value} (hw : HW Z a0) : (Jvm.Cond.code ({ cls := "com/example/sedgeholt/sedgeholt/layout/VersionFile", name := "fileVersion", desc := "()Ljava/lang/String;" } : Jvm.MethodName) prog_9_method_6_code (1 : Nat) (Option.some (Jvm.ClassFile.FieldType.object "java/lang/String"))).before a0 Z = true := hw.1 _ (List.mem_of_getElem? (i := 89) rfl)
theorem ow_93 {Z : State} {a0 : Array Value} (hw : HW Z a0) : (Jvm.Cond.instantiable "java/lang/Object" (0 : Nat)).before a0 Z = true := hw.1 _ (List.mem_of_getElem? (i := 93) rfl)
theorem ow_94 {Z : State} {a0 : Array Value} (hw : HW Z a0) : (Jvm.Cond.methodLink "com/example/sedgeholt/sedgeholt/layout/VersionFile" (67 : Nat) ({ cls := "java/util/Optional", name := "map", desc := "(Ljava/util/function/Function;)Ljava/util/Optional;" } : Jvm.MethodName)).before a0 Z = true := hw.1 _ (List.mem_of_getElem? (i := 94) rfl)
theorem ow_95 {Z : State} {a0 : Array Value} (hw : HW Z a0) : (Jvm.Cond.declares ({ cls := "java/util/Optional", name := "map", desc := "(Ljava/util/function/Function;)Ljava/util/Optional;" } : Jvm.MethodName)).before a0 Z = true := hw.1 _ (List.mem_of_getElem? (i := 95) rfl)
theorem ow_96 {Z : State} {a0 : Array Value} (hw : HW Z a0) : (Jvm.Cond.instanceMethod ({ cls := "java/util/Optional", name := "map", desc := "(Ljava/util/function/Function;)Ljava/util/Optional;" } : Jvm.MethodName)).before a0 Z = true := hw.1 _ (List.mem_of_getElem? (i := 96) rfl)
theorem ow_97 {Z : State} {a0 : Array Value} (hw : HW Z a0) : (Jvm.Cond.selects "java/util/Optional" ({ cls := "java/util/Optional", name := "map", desc := "(Ljava/util/function/Function;)Ljava/util/Optional;" } : Jvm.MethodName) ({ cls := "java/util/Optional", name := "map", desc := "(Ljava/util/function/Function;)Ljava/util/Optional;" } : Jvm.MethodName)).before a0 Z = true := hw.1 _ (List.mem_of_getElem? (i := 97) rfl)
theorem ow_98 {Z : State} {a0 : Array Value} (hw : HW Z a0) : (Jvm.Cond.code ({ cls := "java/util/Optional", name := "map", desc := "(Ljava/util/function/Function;)Ljava/util/Optional;" } : Jvm.MethodName) jdk_32_method_11_code (2 : Nat) (Option.some (Jvm.ClassFile.FieldType.object "java/util/Optional"))).before a0 Z = true := hw.1 _ (List.mem_of_getElem? (i := 98) rfl)
theorem ow_99 {Z : State} {a0 : Array Value} (hw : HW Z a0) : (Jvm.Cond.methodLink "java/util/Optional" (43 : Nat) ({ cls := "java/util/Optional", name := "isEmpty", desc := "()Z" } : Jvm.MethodName)).before a0 Z = true := hw.1 _ (List.mem_of_getElem? (i := 99) rfl)
theorem ow_100 {Z : State} {a0 : Array Value} (hw : HW Z a0) : (Jvm.Cond.declares ({ cls := "java/util/Optional", name := "isEmpty", desc := "()Z" } : Jvm.MethodName)).before a0 Z = true := hw.1 _ (List.mem_of_getElem? (i := 100) rfl)
theorem ow_101 {Z : State} {a0 : Array Value} (hw : HW Z a0) : (Jvm.Cond.instanceMethod ({ cls := "java/util/Optional", name := "isEmpty", desc := "()Z" } : Jvm.MethodName)).before a0 Z = true := hw.1 _ (List.mem_of_getElem? (i := 101) rfl)
theorem ow_102 {Z : State} {a0 : Array Value} (hw : HW Z a0) : (Jvm.Cond.selects "java/util/Optional" ({ cls := "java/util/Optional", name := "isEmpty", desc := "()Z" } : Jvm.MethodName) ({ cls := "java/util/Optional", name := "isEmpty", desc := "()Z" } : Jvm.MethodName)).before a0 Z = true := hw.1 _ (List.mem_of_getElem? (i := 102) rfl)
theorem ow_103 {Z : State} {a0 : Array Value} (hw : HW Z a0) : (Jvm.Cond.code ({ cls := "java/util/Optional", name := "isEmpty", desc := "()Z" } : Jvm.MethodName) jdk_32_method_7_code (1 : Nat) (Option.some Jvm.ClassFile.FieldType.boolean)).before a0 Z = true := hw.1 _ (List.mem_of_getElem? (i := 103) rfl)
theorem ow_104 {Z : State} {a0 : Array Value} (hw : HW Z a0) : (Jvm.Cond.methodLink "java/util/Optional" (57 : Nat) ({ cls := "java/util/function/Function", name := "apply", desc := "(Ljava/lang/Object;)Ljava/lang/Object;" } : Jvm.MethodName)).before a0 Z = true := hw.1 _ (List.mem_of_getElem? (i := 104) rfl)
theorem ow_105 {Z : State} {a0 : Array Value} (hw : HW Z a0) : (Jvm.Cond.declares ({ cls := "java/util/function/Function", name := "apply", desc := "(Ljava/lang/Object;)Ljava/lang/Object;" } : Jvm.MethodName)).before a0 Z = true := hw.1 _ (List.mem_of_getElem? (i := 105) rfl)
theorem ow_106 {Z : State} {a0 : Array Value} (hw : HW Z a0) : (Jvm.Cond.interfaceMethod "java/util/function/Function" "java/util/function/Function" "apply" "(Ljava/lang/Object;)Ljava/lang/Object;").before a0 Z = true := hw.1 _ (List.mem_of_getElem? (i := 106) rfl)
theorem ow_108 {Z : State} {a0 : Array Value} (hw : HW Z a0) : (Jvm.Cond.instanceMethod ({ cls := "com/example/sedgeholt/sedgeholt/layout/VersionFile", name := "lambda$fileVersion$3", desc := "(Lcom/example/sedgeholt/sedgeholt/layout/VersionFile$Build;)Ljava/lang/String;" } : Jvm.MethodName)).before a0 Z = true := hw.1 _ (List.mem_of_getElem? (i := 108) rfl)
theorem ow_109 {Z : State} {a0 : Array Value} (hw : HW Z a0) : (Jvm.Cond.privateMethod ({ cls := "com/example/sedgeholt/sedgeholt/layout/VersionFile", name := "lambda$fileVersion$3", desc := "(Lcom/example/sedgeholt/sedgeholt/layout/VersionFile$Build;)Ljava/lang/String;" } : Jvm.MethodName)).before a0 Z = true := hw.1 _ (List.mem_of_getElem? (i := 109) rfl)
theorem ow_110 {Z : State} {a0 : Array Value} (hw : HW Z a0) : (Jvm.Cond.code ({ cls := "com/example/sedgeholt/sedgeholt/layout/VersionFile", name := "lambda$fileVersion$3", desc := "(Lcom/example/sedgeholt/sedgeholt/layout/VersionFile$Build;)Ljava/lang/String;" } : Jvm.MethodName) prog_9_method_19_code (2 : Nat) (Option.some (Jvm.ClassFile.FieldType.object "java/lang/String"))).before a0 Z = true := hw.1 _ (List.mem_of_getElem? (i := 110) rfl)
theorem ow_111 {Z : State} {a0 : Array Value} (hw : HW Z a0) : (Jvm.Cond.classLink "com/example/sedgeholt/sedgeholt/layout/VersionFile" (38 : Nat) "java/lang/StringBuilder").before a0 Z = true := hw.1 _ (List.mem_of_getElem? (i := 111) rfl)
theorem ow_112 {Z : State} {a0 : Array Value} (hw : HW Z a0) : (Jvm.Cond.instantiable "java/lang/StringBuilder" (4 : Nat)).before a0 Z = true := hw.1 _ (List.mem_of_getElem? (i := 112) rfl)
theorem ow_113 {Z : State} {a0 : Array Value} (hw : HW Z a0) : (Jvm.Cond.initialized "java/lang/StringBuilder").before a0 Z = true := hw.1 _ (List.mem_of_getElem? (i := 113) rfl)
theorem ow_114 {Z : State} {a0 : Array Value} (hw : HW Z a0) : (Jvm.Cond.methodLink "com/example/sedgeholt/sedgeholt/layout/VersionFile" (40 : Nat) ({ cls := "java/lang/StringBuilder", name := "<init>", desc := "()V" } : Jvm.MethodName)).before a0 Z = true := hw.1 _ (List.mem_of_getElem? (i := 114) rfl)
theorem ow_115 {Z : State} {a0 : Array Value} (hw : HW Z a0) : (Jvm.Cond.instanceMethod ({ cls := "java/lang/StringBuilder", name := "<init>", desc := "()V" } : Jvm.MethodName)).before a0 Z = true := hw.1 _ (List.mem_of_getElem? (i := 115) rfl)
theorem ow_116 {Z : State} {a0 : Array Value} (hw : HW Z a0) : (Jvm.Cond.code ({ cls := "java/lang/StringBuilder", name := "<init>", desc := "()V" } : Jvm.MethodName) jdk_67_method_1_code (1 : Nat) (Option.none : Option Jvm.ClassFile.FieldType)).before a0 Z = true := hw.1 _ (List.mem_of_getElem? (i := 116) rfl)
theorem ow_117 {Z : State} {a0 : Array Value} (hw : HW Z a0) : (Jvm.Cond.methodLink "java/lang/StringBuilder" (1 : Nat) ({ cls := "java/lang/AbstractStringBuilder", name := "<init>", desc := "(I)V" } : Jvm.MethodName)).before a0 Z = true := hw.1 _ (List.mem_of_getElem? (i := 117) rfl)
theorem ow_118 {Z : State} {a0 : Array Value} (hw : HW Z a0) : (Jvm.Cond.instanceMethod ({ cls := "java/lang/AbstractStringBuilder", name := "<init>", desc := "(I)V" } : Jvm.MethodName)).before a0 Z = true := hw.1 _ (List.mem_of_getElem? (i := 118) rfl)
theorem ow_121 {Z : State} {a0 : Array Value} (hw : HW Z a0) : (Jvm.Cond.initialized "java/lang/AbstractStringBuilder").before a0 Z = true := hw.1 _ (List.mem_of_getElem? (i := 121) rfl)
theorem ow_122 {Z : State} {a0 : Array Value} (hw : HW Z a0) : (Jvm.Cond.code ({ cls := "java/lang/AbstractStringBuilder", name := "<init>", desc := "(I)V" } : Jvm.MethodName) jdk_68_method_2_code (2 : Nat) (Option.none : Option Jvm.ClassFile.FieldType)).before a0 Z = true := hw.1 _ (List.mem_of_getElem? (i := 122) rfl)
theorem ow_123 {Z : State} {a0 : Array Value} (hw : HW Z a0) : (Jvm.Cond.methodLink "java/lang/AbstractStringBuilder" (3 : Nat) ({ cls := "java/lang/Object", name := "<init>", desc := "()V" } : Jvm.MethodName)).before a0 Z = true := hw.1 _ (List.mem_of_getElem? (i := 123) rfl)
theorem ow_124 {Z : State} {a0 : Array Value} (hw : HW Z a0) : (Jvm.Cond.fieldLink "java/lang/AbstractStringBuilder" (18 : Nat) "java/lang/String" "COMPACT_STRINGS" "Z").before a0 Z = true := hw.1 _ (List.mem_of_getElem? (i := 124) rfl)
theorem ow_125 {Z : State} {a0 : Array Value} (hw : HW Z a0) : (Jvm.Cond.fieldLink "java/lang/AbstractStringBuilder" (15 : Nat) "java/lang/AbstractStringBuilder" "value" "[B").before a0 Z = true := hw.1 _ (List.mem_of_getElem? (i := 125) rfl)
theorem ow_126 {Z : State} {a0 : Array Value} (hw : HW Z a0) : (Jvm.Cond.lays "java/lang/StringBuilder" "java/lang/AbstractStringBuilder" "value" "[B").before a0 Z = true := hw.1 _ (List.mem_of_getElem? (i := 126) rfl)
theorem ow_127 {Z : State} {a0 : Array Value} (hw : HW Z a0) : (Jvm.Cond.fieldLink "java/lang/AbstractStringBuilder" (22 : Nat) "java/lang/AbstractStringBuilder" "coder" "B").before a0 Z = true := hw.1 _ (List.mem_of_getElem? (i := 127) rfl)
theorem ow_128 {Z : State} {a0 : Array Value} (hw : HW Z a0) : (Jvm.Cond.lays "java/lang/StringBuilder" "java/lang/AbstractStringBuilder" "coder" "B").before a0 Z = true := hw.1 _ (List.mem_of_getElem? (i := 128) rfl)
theorem ow_129 {Z : State} {a0 : Array Value} (hw : HW Z a0) : (Jvm.Cond.methodLink "com/example/sedgeholt/sedgeholt/layout/VersionFile" (76 : Nat) ({ cls := "com/example/sedgeholt/sedgeholt/layout/VersionFile", name := "withoutSnapshot", desc := "(Ljava/lang/String;)Ljava/lang/String;" } : Jvm.MethodName)).before a0 Z = true := hw.1 _ (List.mem_of_getElem? (i := 129) rfl)
theorem ow_130 {Z : State} {a0 : Array Value} (hw : HW Z a0) : (Jvm.Cond.static ({ cls := "com/example/sedgeholt/sedgeholt/layout/VersionFile", name := "withoutSnapshot", desc := "(Ljava/lang/String;)Ljava/lang/String;" } : Jvm.MethodName)).before a0 Z = true := hw.1 _ (List.mem_of_getElem? (i := 130) rfl)
theorem ow_131 {Z : State} {a0 : Array Value} (hw : HW Z a0) : (Jvm.Cond.code ({ cls := "com/example/sedgeholt/sedgeholt/layout/VersionFile", name := "withoutSnapshot", desc := "(Ljava/lang/String;)Ljava/lang/String;" } : Jvm.MethodName) prog_9_method_10_code (1 : Nat) (Option.some (Jvm.ClassFile.FieldType.object "java/lang/String"))).before a0 Z = true := hw.1 _ (List.mem_of_getElem? (i := 131) rfl)
theorem ow_132 {Z : State} {a0 : Array Value} (hw : HW Z a0) : (Jvm.Cond.methodLink "com/example/sedgeholt/sedgeholt/layout/VersionFile" (26 : Nat) ({ cls := "java/lang/String", name := "length", desc := "()I" } : Jvm.MethodName)).before a0 Z = true := hw.1 _ (List.mem_of_getElem? (i := 132) rfl)
theorem ow_133 {Z : State} {a0 : Array Value} (hw : HW Z a0) : (Jvm.Cond.declares ({ cls := "java/lang/String", name := "length", desc := "()I" } : Jvm.MethodName)).before a0 Z = true := hw.1 _ (List.mem_of_getElem? (i := 133) rfl)
theorem ow_134 {Z : State} {a0 : Array Value} (hw : HW Z a0) : (Jvm.Cond.instanceMethod ({ cls := "java/lang/String", name := "length", desc := "()I" } : Jvm.MethodName)).before a0 Z = true := hw.1 _ (List.mem_of_getElem? (i := 134) rfl)
theorem ow_135 {Z : State} {a0 : Array Value} (hw : HW Z a0) : (Jvm.Cond.selects "java/lang/String" ({ cls := "java/lang/String", name := "length", desc := "()I" } : Jvm.MethodName) ({ cls := "java/lang/String", name := "length", desc := "()I" } : Jvm.MethodName)).before a0 Z = true := hw.1 _ (List.mem_of_getElem? (i := 135) rfl)
theorem ow_137 {Z : State} {a0 : Array Value} (hw : HW Z a0) : (Jvm.Cond.methodLink "java/lang/String" (335 : Nat) ({ cls := "java/lang/String", name := "coder", desc := "()B" } : Jvm.MethodName)).before a0 Z = true := hw.1 _ (List.mem_of_getElem? (i := 137) rfl)
theorem ow_138 {Z : State} {a0 : Array Value} (hw : HW Z a0) : (Jvm.Cond.declares ({ cls := "java/lang/String", name := "coder", desc := "()B" } : Jvm.MethodName)).before a0 Z = true := hw.1 _ (List.mem_of_getElem? (i := 138) rfl)
theorem ow_139 {Z : State} {a0 : Array Value} (hw : HW Z a0) : (Jvm.Cond.instanceMethod ({ cls := "java/lang/String", name := "coder", desc := "()B" } : Jvm.MethodName)).before a0 Z = true := hw.1 _ (List.mem_of_getElem? (i := 139) rfl)
theorem ow_140 {Z : State} {a0 : Array Value} (hw : HW Z a0) : (Jvm.Cond.selects "java/lang/String" ({ cls := "java/lang/String", name := "coder", desc := "()B" } : Jvm.MethodName) ({ cls := "java/lang/String", name := "coder", desc := "()B" } : Jvm.MethodName)).before a0 Z = true := hw.1 _ (List.mem_of_getElem? (i := 140) rfl)
theorem ow_141 {Z : State} {a0 : Array Value} (hw : HW Z a0) : (Jvm.Cond.code ({ cls := "java/lang/String", name := "coder", desc := "()B" } : Jvm.MethodName) jdk_42_method_152_code (1 : Nat) (Option.some Jvm.ClassFile.FieldType.byte)).before a0 Z = true := hw.1 _ (List.mem_of_getElem? (i := 141) rfl)
theorem ow_142 {Z : State} {a0 : Array Value} (hw : HW Z a0) : (Jvm.Cond.stringLink "com/example/sedgeholt/sedgeholt/layout/VersionFile" (32 : Nat) "SNAPSHOT").before a0 Z = true := hw.1 _ (List.mem_of_getElem? (i := 142) rfl)
theorem ow_143 {Z : State} {a0 : Array Value} (hw : HW Z a0) : (Jvm.Cond.methodLink "com/example/sedgeholt/sedgeholt/layout/VersionFile" (157 : Nat) ({ cls := "java/lang/String", name := "substring", desc := "(II)Ljava/lang/String;" } : Jvm.MethodName)).before a0 Z = true := hw.1 _ (List.mem_of_getElem? (i := 143) rfl)
theorem ow_144 {Z : State} {a0 : Array Value} (hw : HW Z a0) : (Jvm.Cond.declares ({ cls := "java/lang/String", name := "substring", desc := "(II)Ljava/lang/String;" } : Jvm.MethodName)).before a0 Z = true := hw.1 _ (List.mem_of_getElem? (i := 144) rfl)
theorem ow_145 {Z : State} {a0 : Array Value} (hw : HW Z a0) : (Jvm.Cond.instanceMethod ({ cls := "java/lang/String", name := "substring", desc := "(II)Ljava/lang/String;" } : Jvm.MethodName)).before a0 Z = true := hw.1 _ (List.mem_of_getElem? (i := 145) rfl)
theorem ow_146 {Z : State} {a0 : Array Value} (hw : HW Z a0) : (Jvm.Cond.selects "java/lang/String" ({ cls := "java/lang/String", name := "substring", desc := "(II)Ljava/lang/String;" } : Jvm.MethodName) ({ cls := "java/lang/String", name := "substring", desc := "(II)Ljava/lang/String;" } : Jvm.MethodName)).before a0 Z = true := hw.1 _ (List.mem_of_getElem? (i := 146) rfl)
theorem ow_147 {Z : State} {a0 : Array Value} (hw : HW Z a0) : (Jvm.Cond.code ({ cls := "java/lang/String", name := "substring", desc := "(II)Ljava/lang/String;" } : Jvm.MethodName) jdk_42_method_92_code (5 : Nat) (Option.some (Jvm.ClassFile.FieldType.object "java/lang/String"))).before a0 Z = true := hw.1 _ (List.mem_of_getElem? (i := 147) rfl)
theorem ow_148 {Z : State} {a0 : Array Value} (hw : HW Z a0) : (Jvm.Cond.methodLink "java/lang/String" (505 : Nat) ({ cls := "java/lang/String", name := "length", desc := "()I" } : Jvm.MethodName)).before a0 Z = true := hw.1 _ (List.mem_of_getElem? (i := 148) rfl)
theorem ow_149 {Z : State} {a0 : Array Value} (hw : HW Z a0) : (Jvm.Cond.methodLink "java/lang/String" (521 : Nat) ({ cls := "java/lang/String", name := "checkBoundsBeginEnd", desc := "(III)V" } : Jvm.MethodName)).before a0 Z = true := hw.1 _ (List.mem_of_getElem? (i := 149) rfl)
theorem ow_150 {Z : State} {a0 : Array Value} (hw : HW Z a0) : (Jvm.Cond.static ({ cls := "java/lang/String", name := "checkBoundsBeginEnd", desc := "(III)V" } : Jvm.MethodName)).before a0 Z = true := hw.1 _ (List.mem_of_getElem? (i := 150) rfl)
theorem ow_151 {Z : State} {a0 : Array Value} (hw : HW Z a0) : (Jvm.Cond.code ({ cls := "java/lang/String", name := "checkBoundsBeginEnd", desc := "(III)V" } : Jvm.MethodName) jdk_42_method_158_code (3 : Nat) (Option.none : Option Jvm.ClassFile.FieldType)).before a0 Z = true := hw.1 _ (List.mem_of_getElem? (i := 151) rfl)
theorem ow_152 {Z : State} {a0 : Array Value} (hw : HW Z a0) : (Jvm.Cond.fieldLink "java/lang/String" (1053 : Nat) "jdk/internal/util/Preconditions" "SIOOBE_FORMATTER" "Ljava/util/function/BiFunction;").before a0 Z = true := hw.1 _ (List.mem_of_getElem? (i := 152) rfl)
theorem ow_153 {Z : State} {a0 : Array Value} (hw : HW Z a0) : (Jvm.Cond.initialized "jdk/internal/util/Preconditions").before a0 Z = true := hw.1 _ (List.mem_of_getElem? (i := 153) rfl)
theorem ow_154 {Z : State} {a0 : Array Value} (hw : HW Z a0) : (Jvm.Cond.methodLink "java/lang/String" (1062 : Nat) ({ cls := "jdk/internal/util/Preconditions", name := "checkFromToIndex", desc := "(IIILjava/util/function/BiFunction;)I" } : Jvm.MethodName)).before a0 Z = true := hw.1 _ (List.mem_of_getElem? (i := 154) rfl)
theorem ow_155 {Z : State} {a0 : Array Value} (hw : HW Z a0) : (Jvm.Cond.static ({ cls := "jdk/internal/util/Preconditions", name := "checkFromToIndex", desc := "(IIILjava/util/function/BiFunction;)I" } : Jvm.MethodName)).before a0 Z = true := hw.1 _ (List.mem_of_getElem? (i := 155) rfl)
theorem ow_156 {Z : State} {a0 : Array Value} (hw : HW Z a0) : (Jvm.Cond.code ({ cls := "jdk/internal/util/Preconditions", name := "checkFromToIndex", desc := "(IIILjava/util/function/BiFunction;)I" } : Jvm.MethodName) jdk_41_method_12_code (4 : Nat) (Option.some Jvm.ClassFile.FieldType.int)).before a0 Z = true := hw.1 _ (List.mem_of_getElem? (i := 156) rfl)
theorem ow_157 {Z : State} {a0 : Array Value} (hw : HW Z a0) : (Jvm.Cond.methodLink "java/lang/String" (492 : Nat) ({ cls := "java/lang/String", name := "isLatin1", desc := "()Z" } : Jvm.MethodName)).before a0 Z = true := hw.1 _ (List.mem_of_getElem? (i := 157) rfl)
theorem ow_158 {Z : State} {a0 : Array Value} (hw : HW Z a0) : (Jvm.Cond.declares ({ cls := "java/lang/String", name := "isLatin1", desc := "()Z" } : Jvm.MethodName)).before a0 Z = true := hw.1 _ (List.mem_of_getElem? (i := 158) rfl)
theorem ow_159 {Z : State} {a0 : Array Value} (hw : HW Z a0) : (Jvm.Cond.instanceMethod ({ cls := "java/lang/String", name := "isLatin1", desc := "()Z" } : Jvm.MethodName)).before a0 Z = true := hw.1 _ (List.mem_of_getElem? (i := 159) rfl)
theorem ow_160 {Z : State} {a0 : Array Value} (hw : HW Z a0) : (Jvm.Cond.selects "java/lang/String" ({ cls := "java/lang/String", name := "isLatin1", desc := "()Z" } : Jvm.MethodName) ({ cls := "java/lang/String", name := "isLatin1", desc := "()Z" } : Jvm.MethodName)).before a0 Z = true := hw.1 _ (List.mem_of_getElem? (i := 160) rfl)
theorem ow_161 {Z : State} {a0 : Array Value} (hw : HW Z a0) : (Jvm.Cond.code ({ cls := "java/lang/String", name := "isLatin1", desc := "()Z" } : Jvm.MethodName) jdk_42_method_154_code (1 : Nat) (Option.some Jvm.ClassFile.FieldType.boolean)).before a0 Z = true := hw.1 _ (List.mem_of_getElem? (i := 161) rfl)
theorem ow_162 {Z : State} {a0 : Array Value} (hw : HW Z a0) : (Jvm.Cond.methodLink "java/lang/String" (685 : Nat) ({ cls := "java/lang/StringLatin1", name := "newString", desc := "([BII)Ljava/lang/String;" } : Jvm.MethodName)).before a0 Z = true := hw.1 _ (List.mem_of_getElem? (i := 162) rfl)
theorem ow_163 {Z : State} {a0 : Array Value} (hw : HW Z a0) : (Jvm.Cond.static ({ cls := "java/lang/StringLatin1", name := "newString", desc := "([BII)Ljava/lang/String;" } : Jvm.MethodName)).before a0 Z = true := hw.1 _ (List.mem_of_getElem? (i := 163) rfl)
theorem ow_164 {Z : State} {a0 : Array Value} (hw : HW Z a0) : (Jvm.Cond.initialized "java/lang/StringLatin1").before a0 Z = true := hw.1 _ (List.mem_of_getElem? (i := 164) rfl)
theorem ow_165 {Z : State} {a0 : Array Value} (hw : HW Z a0) : (Jvm.Cond.code ({ cls := "java/lang/StringLatin1", name := "newString", desc := "([BII)Ljava/lang/String;" } : Jvm.MethodName) jdk_43_method_47_code (3 : Nat) (Option.some (Jvm.ClassFile.FieldType.object "java/lang/String"))).before a0 Z = true := hw.1 _ (List.mem_of_getElem? (i := 165) rfl)
theorem ow_166 {Z : State} {a0 : Array Value} (hw : HW Z a0) : (Jvm.Cond.classLink "java/lang/StringLatin1" (1 : Nat) "java/lang/String").before a0 Z = true := hw.1 _ (List.mem_of_getElem? (i := 166) rfl)
theorem ow_167 {Z : State} {a0 : Array Value} (hw : HW Z a0) : (Jvm.Cond.methodLink "java/lang/StringLatin1" (232 : Nat) ({ cls := "java/util/Arrays", name := "copyOfRange", desc := "([BII)[B" } : Jvm.MethodName)).before a0 Z = true := hw.1 _ (List.mem_of_getElem? (i := 167) rfl)
theorem ow_168 {Z : State} {a0 : Array Value} (hw : HW Z a0) : (Jvm.Cond.static ({ cls := "java/util/Arrays", name := "copyOfRange", desc := "([BII)[B" } : Jvm.MethodName)).before a0 Z = true := hw.1 _ (List.mem_of_getElem? (i := 168) rfl)
theorem ow_169 {Z : State} {a0 : Array Value} (hw : HW Z a0) : (Jvm.Cond.initialized "java/util/Arrays").before a0 Z = true := hw.1 _ (List.mem_of_getElem? (i := 169) rfl)
theorem ow_170 {Z : State} {a0 : Array Value} (hw : HW Z a0) : (Jvm.Cond.code ({ cls := "java/util/Arrays", name := "copyOfRange", desc := "([BII)[B" } : Jvm.MethodName) jdk_65_method_132_code (3 : Nat) (Option.some (Jvm.ClassFile.FieldType.array Jvm.ClassFile.FieldType.byte))).before a0 Z = true := hw.1 _ (List.mem_of_getElem? (i := 170) rfl)
theorem ow_171 {Z : State} {a0 : Array Value} (hw : HW Z a0) : (Jvm.Cond.methodLink "java/util/Arrays" (339 : Nat) ({ cls := "java/util/Arrays", name := "copyOfRangeByte", desc := "([BII)[B" } : Jvm.MethodName)).before a0 Z = true := hw.1 _ (List.mem_of_getElem? (i := 171) rfl)
theorem ow_172 {Z : State} {a0 : Array Value} (hw : HW Z a0) : (Jvm.Cond.static ({ cls := "java/util/Arrays", name := "copyOfRangeByte", desc := "([BII)[B" } : Jvm.MethodName)).before a0 Z = true := hw.1 _ (List.mem_of_getElem? (i := 172) rfl)
theorem ow_173 {Z : State} {a0 : Array Value} (hw : HW Z a0) : (Jvm.Cond.code ({ cls := "java/util/Arrays", name := "copyOfRangeByte", desc := "([BII)[B" } : Jvm.MethodName) jdk_65_method_133_code (5 : Nat) (Option.some (Jvm.ClassFile.FieldType.array Jvm.ClassFile.FieldType.byte))).before a0 Z = true := hw.1 _ (List.mem_of_getElem? (i := 173) rfl)
theorem ow_174 {Z : State} {a0 : Array Value} (hw : HW Z a0) : (Jvm.Cond.methodLink "java/util/Arrays" (343 : Nat) ({ cls := "java/util/Arrays", name := "checkLength", desc := "(II)V" } : Jvm.MethodName)).before a0 Z = true := hw.1 _ (List.mem_of_getElem? (i := 174) rfl)
theorem ow_175 {Z : State} {a0 : Array Value} (hw : HW Z a0) : (Jvm.Cond.static ({ cls := "java/util/Arrays", name := "checkLength", desc := "(II)V" } : Jvm.MethodName)).before a0 Z = true := hw.1 _ (List.mem_of_getElem? (i := 175) rfl)
theorem ow_176 {Z : State} {a0 : Array Value} (hw : HW Z a0) : (Jvm.Cond.code ({ cls := "java/util/Arrays", name := "checkLength", desc := "(II)V" } : Jvm.MethodName) jdk_65_method_131_code (2 : Nat) (Option.none : Option Jvm.ClassFile.FieldType)).before a0 Z = true := hw.1 _ (List.mem_of_getElem? (i := 176) rfl)
theorem ow_177 {Z : State} {a0 : Array Value} (hw : HW Z a0) : (Jvm.Cond.methodLink "java/util/Arrays" (304 : Nat) ({ cls := "java/lang/Math", name := "min", desc := "(II)I" } : Jvm.MethodName)).before a0 Z = true := hw.1 _ (List.mem_of_getElem? (i := 177) rfl)
theorem ow_178 {Z : State} {a0 : Array Value} (hw : HW Z a0) : (Jvm.Cond.static ({ cls := "java/lang/Math", name := "min", desc := "(II)I" } : Jvm.MethodName)).before a0 Z = true := hw.1 _ (List.mem_of_getElem? (i := 178) rfl)
theorem ow_179 {Z : State} {a0 : Array Value} (hw : HW Z a0) : (Jvm.Cond.initialized "java/lang/Math").before a0 Z = true := hw.1 _ (List.mem_of_getElem? (i := 179) rfl)
theorem ow_180 {Z : State} {a0 : Array Value} (hw : HW Z a0) : (Jvm.Cond.code ({ cls := "java/lang/Math", name := "min", desc := "(II)I" } : Jvm.MethodName) jdk_29_method_69_code (2 : Nat) (Option.some Jvm.ClassFile.FieldType.int)).before a0 Z = true := hw.1 _ (List.mem_of_getElem? (i := 180) rfl)
theorem ow_181 {Z : State} {a0 : Array Value} (hw : HW Z a0) : (Jvm.Cond.methodLink "java/util/Arrays" (150 : Nat) ({ cls := "java/lang/System", name := "arraycopy", desc := "(Ljava/lang/Object;ILjava/lang/Object;II)V" } : Jvm.MethodName)).before a0 Z = true := hw.1 _ (List.mem_of_getElem? (i := 181) rfl)
theorem ow_182 {Z : State} {a0 : Array Value} (hw : HW Z a0) : (Jvm.Cond.static ({ cls := "java/lang/System", name := "arraycopy", desc := "(Ljava/lang/Object;ILjava/lang/Object;II)V" } : Jvm.MethodName)).before a0 Z = true := hw.1 _ (List.mem_of_getElem? (i := 182) rfl)
theorem ow_183 {Z : State} {a0 : Array Value} (hw : HW Z a0) : (Jvm.Cond.initialized "java/lang/System").before a0 Z = true := hw.1 _ (List.mem_of_getElem? (i := 183) rfl)
theorem ow_184 {Z : State} {a0 : Array Value} (hw : HW Z a0) : (Jvm.Cond.native ({ cls := "java/lang/System", name := "arraycopy", desc := "(Ljava/lang/Object;ILjava/lang/Object;II)V" } : Jvm.MethodName)).before a0 Z = true := hw.1 _ (List.mem_of_getElem? (i := 184) rfl)
theorem ow_185 {Z : State} {a0 : Array Value} (hw : HW Z a0) : (Jvm.Cond.methodLink "java/lang/StringLatin1" (112 : Nat) ({ cls := "java/lang/String", name := "<init>", desc := "([BB)V" } : Jvm.MethodName)).before a0 Z = true := hw.1 _ (List.mem_of_getElem? (i := 185) rfl)
theorem ow_186 {Z : State} {a0 : Array Value} (hw : HW Z a0) : (Jvm.Cond.instanceMethod ({ cls := "java/lang/String", name := "<init>", desc := "([BB)V" } : Jvm.MethodName)).before a0 Z = true := hw.1 _ (List.mem_of_getElem? (i := 186) rfl)
theorem ow_187 {Z : State} {a0 : Array Value} (hw : HW Z a0) : (Jvm.Cond.code ({ cls := "java/lang/String", name := "<init>", desc := "([BB)V" } : Jvm.MethodName) jdk_42_method_151_code (3 : Nat) (Option.none : Option Jvm.ClassFile.FieldType)).before a0 Z = true := hw.1 _ (List.mem_of_getElem? (i := 187) rfl)
theorem ow_188 {Z : State} {a0 : Array Value} (hw : HW Z a0) : (Jvm.Cond.methodLink "com/example/sedgeholt/sedgeholt/layout/VersionFile" (41 : Nat) ({ cls := "java/lang/StringBuilder", name := "append", desc := "(Ljava/lang/String;)Ljava/lang/StringBuilder;" } : Jvm.MethodName)).before a0 Z = true := hw.1 _ (List.mem_of_getElem? (i := 188) rfl)
theorem ow_189 {Z : State} {a0 : Array Value} (hw : HW Z a0) : (Jvm.Cond.declares ({ cls := "java/lang/StringBuilder", name := "append", desc := "(Ljava/lang/String;)Ljava/lang/StringBuilder;" } : Jvm.MethodName)).before a0 Z = true := hw.1 _ (List.mem_of_getElem? (i := 189) rfl)
theorem ow_190 {Z : State} {a0 : Array Value} (hw : HW Z a0) : (Jvm.Cond.instanceMethod ({ cls := "java/lang/StringBuilder", name := "append", desc := "(Ljava/lang/String;)Ljava/lang/StringBuilder;" } : Jvm.MethodName)).before a0 Z = true := hw.1 _ (List.mem_of_getElem? (i := 190) rfl)
theorem ow_191 {Z : State} {a0 : Array Value} (hw : HW Z a0) : (Jvm.Cond.selects "java/lang/StringBuilder" ({ cls := "java/lang/StringBuilder", name := "append", desc := "(Ljava/lang/String;)Ljava/lang/StringBuilder;" } : Jvm.MethodName) ({ cls := "java/lang/StringBuilder", name := "append", desc := "(Ljava/lang/String;)Ljava/lang/StringBuilder;" } : Jvm.MethodName)).before a0 Z = true := hw.1 _ (List.mem_of_getElem? (i := 191) rfl)
theorem ow_192 {Z : State} {a0 : Array Value} (hw : HW Z a0) : (Jvm.Cond.code ({ cls := "java/lang/StringBuilder", name := "append", desc := "(Ljava/lang/String;)Ljava/lang/StringBuilder;" } : Jvm.MethodName) jdk_67_method_7_code (2 : Nat) (Option.some (Jvm.ClassFile.FieldType.object "java/lang/StringBuilder"))).before a0 Z = true := hw.1 _ (List.mem_of_getElem? (i := 192) rfl)
theorem ow_193 {Z : State} {a0 : Array Value} (hw : HW Z a0) : (Jvm.Cond.methodLink "java/lang/StringBuilder" (29 : Nat) ({ cls := "java/lang/AbstractStringBuilder", name := "append", desc := "(Ljava/lang/String;)Ljava/lang/AbstractStringBuilder;" } : Jvm.MethodName)).before a0 Z = true := hw.1 _ (List.mem_of_getElem? (i := 193) rfl)
theorem ow_194 {Z : State} {a0 : Array Value} (hw : HW Z a0) : (Jvm.Cond.instanceMethod ({ cls := "java/lang/AbstractStringBuilder", name := "append", desc := "(Ljava/lang/String;)Ljava/lang/AbstractStringBuilder;" } : Jvm.MethodName)).before a0 Z = true := hw.1 _ (List.mem_of_getElem? (i := 194) rfl)
theorem ow_195 {Z : State} {a0 : Array Value} (hw : HW Z a0) : (Jvm.Cond.superclass "java/lang/StringBuilder" "java/lang/AbstractStringBuilder").before a0 Z = true := hw.1 _ (List.mem_of_getElem? (i := 195) rfl)
theorem ow_196 {Z : State} {a0 : Array Value} (hw : HW Z a0) : (Jvm.Cond.declares ({ cls := "java/lang/AbstractStringBuilder", name := "append", desc := "(Ljava/lang/String;)Ljava/lang/AbstractStringBuilder;" } : Jvm.MethodName)).before a0 Z = true := hw.1 _ (List.mem_of_getElem? (i := 196) rfl)
theorem ow_197 {Z : State} {a0 : Array Value} (hw : HW Z a0) : (Jvm.Cond.code ({ cls := "java/lang/AbstractStringBuilder", name := "append", desc := "(Ljava/lang/String;)Ljava/lang/AbstractStringBuilder;" } : Jvm.MethodName) jdk_68_method_22_code (3 : Nat) (Option.some (Jvm.ClassFile.FieldType.object "java/lang/AbstractStringBuilder"))).before a0 Z = true := hw.1 _ (List.mem_of_getElem? (i := 197) rfl)
theorem ow_198 {Z : State} {a0 : Array Value} (hw : HW Z a0) : (Jvm.Cond.methodLink "java/lang/AbstractStringBuilder" (32 : Nat) ({ cls := "java/lang/String", name := "length", desc := "()I" } : Jvm.MethodName)).before a0 Z = true := hw.1 _ (List.mem_of_getElem? (i := 198) rfl)
theorem ow_199 {Z : State} {a0 : Array Value} (hw : HW Z a0) : (Jvm.Cond.fieldLink "java/lang/AbstractStringBuilder" (79 : Nat) "java/lang/AbstractStringBuilder" "count" "I").before a0 Z = true := hw.1 _ (List.mem_of_getElem? (i := 199) rfl)
theorem ow_200 {Z : State} {a0 : Array Value} (hw : HW Z a0) : (Jvm.Cond.lays "java/lang/StringBuilder" "java/lang/AbstractStringBuilder" "count" "I").before a0 Z = true := hw.1 _ (List.mem_of_getElem? (i := 200) rfl)
theorem ow_201 {Z : State} {a0 : Array Value} (hw : HW Z a0) : (Jvm.Cond.methodLink "java/lang/AbstractStringBuilder" (100 : Nat) ({ cls := "java/lang/AbstractStringBuilder", name := "ensureCapacityInternal", desc := "(I)V" } : Jvm.MethodName)).before a0 Z = true := hw.1 _ (List.mem_of_getElem? (i := 201) rfl)
theorem ow_202 {Z : State} {a0 : Array Value} (hw : HW Z a0) : (Jvm.Cond.instanceMethod ({ cls := "java/lang/AbstractStringBuilder", name := "ensureCapacityInternal", desc := "(I)V" } : Jvm.MethodName)).before a0 Z = true := hw.1 _ (List.mem_of_getElem? (i := 202) rfl)
theorem ow_204 {Z : State} {a0 : Array Value} (hw : HW Z a0) : (Jvm.Cond.selects "java/lang/StringBuilder" ({ cls := "java/lang/AbstractStringBuilder", name := "ensureCapacityInternal", desc := "(I)V" } : Jvm.MethodName) ({ cls := "java/lang/AbstractStringBuilder", name := "ensureCapacityInternal", desc := "(I)V" } : Jvm.MethodName)).before a0 Z = true := hw.1 _ (List.mem_of_getElem? (i := 204) rfl)
theorem ow_205 {Z : State} {a0 : Array Value} (hw : HW Z a0) : (Jvm.Cond.code ({ cls := "java/lang/AbstractStringBuilder", name := "ensureCapacityInternal", desc := "(I)V" } : Jvm.MethodName) jdk_68_method_9_code (3 : Nat) (Option.none : Option Jvm.ClassFile.FieldType)).before a0 Z = true := hw.1 _ (List.mem_of_getElem? (i := 205) rfl)
theorem ow_206 {Z : State} {a0 : Array Value} (hw : HW Z a0) : (Jvm.Cond.methodLink "java/lang/AbstractStringBuilder" (208 : Nat) ({ cls := "java/lang/AbstractStringBuilder", name := "putStringAt", desc := "(ILjava/lang/String;)V" } : Jvm.MethodName)).before a0 Z = true := hw.1 _ (List.mem_of_getElem? (i := 206) rfl)
theorem ow_207 {Z : State} {a0 : Array Value} (hw : HW Z a0) : (Jvm.Cond.instanceMethod ({ cls := "java/lang/AbstractStringBuilder", name := "putStringAt", desc := "(ILjava/lang/String;)V" } : Jvm.MethodName)).before a0 Z = true := hw.1 _ (List.mem_of_getElem? (i := 207) rfl)
theorem ow_209 {Z : State} {a0 : Array Value} (hw : HW Z a0) : (Jvm.Cond.selects "java/lang/StringBuilder" ({ cls := "java/lang/AbstractStringBuilder", name := "putStringAt", desc := "(ILjava/lang/String;)V" } : Jvm.MethodName) ({ cls := "java/lang/AbstractStringBuilder", name := "putStringAt", desc := "(ILjava/lang/String;)V" } : Jvm.MethodName)).before a0 Z = true := hw.1 _ (List.mem_of_getElem? (i := 209) rfl)
theorem ow_210 {Z : State} {a0 : Array Value} (hw : HW Z a0) : (Jvm.Cond.code ({ cls := "java/lang/AbstractStringBuilder", name := "putStringAt", desc := "(ILjava/lang/String;)V" } : Jvm.MethodName) jdk_68_method_73_code (3 : Nat) (Option.none : Option Jvm.ClassFile.FieldType)).before a0 Z = true := hw.1 _ (List.mem_of_getElem? (i := 210) rfl)
theorem ow_211 {Z : State} {a0 : Array Value} (hw : HW Z a0) : (Jvm.Cond.methodLink "java/lang/AbstractStringBuilder" (397 : Nat) ({ cls := "java/lang/AbstractStringBuilder", name := "inflateIfNeededFor", desc := "(Ljava/lang/String;)V" } : Jvm.MethodName)).before a0 Z = true := hw.1 _ (List.mem_of_getElem? (i := 211) rfl)
theorem ow_212 {Z : State} {a0 : Array Value} (hw : HW Z a0) : (Jvm.Cond.instanceMethod ({ cls := "java/lang/AbstractStringBuilder", name := "inflateIfNeededFor", desc := "(Ljava/lang/String;)V" } : Jvm.MethodName)).before a0 Z = true := hw.1 _ (List.mem_of_getElem? (i := 212) rfl)
theorem ow_214 {Z : State} {a0 : Array Value} (hw : HW Z a0) : (Jvm.Cond.selects "java/lang/StringBuilder" ({ cls := "java/lang/AbstractStringBuilder", name := "inflateIfNeededFor", desc := "(Ljava/lang/String;)V" } : Jvm.MethodName) ({ cls := "java/lang/AbstractStringBuilder", name := "inflateIfNeededFor", desc := "(Ljava/lang/String;)V" } : Jvm.MethodName)).before a0 Z = true := hw.1 _ (List.mem_of_getElem? (i := 214) rfl)
theorem ow_215 {Z : State} {a0 : Array Value} (hw : HW Z a0) : (Jvm.Cond.code ({ cls := "java/lang/AbstractStringBuilder", name := "inflateIfNeededFor", desc := "(Ljava/lang/String;)V" } : Jvm.MethodName) jdk_68_method_71_code (2 : Nat) (Option.none : Option Jvm.ClassFile.FieldType)).before a0 Z = true := hw.1 _ (List.mem_of_getElem? (i := 215) rfl)
theorem ow_216 {Z : State} {a0 : Array Value} (hw : HW Z a0) : (Jvm.Cond.methodLink "java/lang/AbstractStringBuilder" (40 : Nat) ({ cls := "java/lang/String", name := "coder", desc := "()B" } : Jvm.MethodName)).before a0 Z = true := hw.1 _ (List.mem_of_getElem? (i := 216) rfl)
theorem ow_217 {Z : State} {a0 : Array Value} (hw : HW Z a0) : (Jvm.Cond.methodLink "java/lang/AbstractStringBuilder" (399 : Nat) ({ cls := "java/lang/String", name := "getBytes", desc := "([BIB)V" } : Jvm.MethodName)).before a0 Z = true := hw.1 _ (List.mem_of_getElem? (i := 217) rfl)
theorem ow_218 {Z : State} {a0 : Array Value} (hw : HW Z a0) : (Jvm.Cond.declares ({ cls := "java/lang/String", name := "getBytes", desc := "([BIB)V" } : Jvm.MethodName)).before a0 Z = true := hw.1 _ (List.mem_of_getElem? (i := 218) rfl)
theorem ow_219 {Z : State} {a0 : Array Value} (hw : HW Z a0) : (Jvm.Cond.instanceMethod ({ cls := "java/lang/String", name := "getBytes", desc := "([BIB)V" } : Jvm.MethodName)).before a0 Z = true := hw.1 _ (List.mem_of_getElem? (i := 219) rfl)
theorem ow_220 {Z : State} {a0 : Array Value} (hw : HW Z a0) : (Jvm.Cond.selects "java/lang/String" ({ cls := "java/lang/String", name := "getBytes", desc := "([BIB)V" } : Jvm.MethodName) ({ cls := "java/lang/String", name := "getBytes", desc := "([BIB)V" } : Jvm.MethodName)).before a0 Z = true := hw.1 _ (List.mem_of_getElem? (i := 220) rfl)
theorem ow_221 {Z : State} {a0 : Array Value} (hw : HW Z a0) : (Jvm.Cond.code ({ cls := "java/lang/String", name := "getBytes", desc := "([BIB)V" } : Jvm.MethodName) jdk_42_method_147_code (4 : Nat) (Option.none : Option Jvm.ClassFile.FieldType)).before a0 Z = true := hw.1 _ (List.mem_of_getElem? (i := 221) rfl)
theorem ow_222 {Z : State} {a0 : Array Value} (hw : HW Z a0) : (Jvm.Cond.methodLink "java/lang/String" (212 : Nat) ({ cls := "java/lang/System", name := "arraycopy", desc := "(Ljava/lang/Object;ILjava/lang/Object;II)V" } : Jvm.MethodName)).before a0 Z = true := hw.1 _ (List.mem_of_getElem? (i := 222) rfl)
theorem ow_223 {Z : State} {a0 : Array Value} (hw : HW Z a0) : (Jvm.Cond.methodLink "com/example/sedgeholt/sedgeholt/layout/VersionFile" (161 : Nat) ({ cls := "com/example/sedgeholt/sedgeholt/layout/VersionFile$Build", name := "timestamp", desc := "()Ljava/lang/String;" } : Jvm.MethodName)).before a0 Z = true := hw.1 _ (List.mem_of_getElem? (i := 223) rfl)
theorem ow_224 {Z : State} {a0 : Array Value} (hw : HW Z a0) : (Jvm.Cond.declares ({ cls := "com/example/sedgeholt/sedgeholt/layout/VersionFile$Build", name := "timestamp", desc := "()Ljava/lang/String;" } : Jvm.MethodName)).before a0 Z = true := hw.1 _ (List.mem_of_getElem? (i := 224) rfl)
theorem ow_225 {Z : State} {a0 : Array Value} (hw : HW Z a0) : (Jvm.Cond.instanceMethod ({ cls := "com/example/sedgeholt/sedgeholt/layout/VersionFile$Build", name := "timestamp", desc := "()Ljava/lang/String;" } : Jvm.MethodName)).before a0 Z = true := hw.1 _ (List.mem_of_getElem? (i := 225) rfl)
theorem ow_226 {Z : State} {a0 : Array Value} (hw : HW Z a0) : (Jvm.Cond.selects "com/example/sedgeholt/sedgeholt/layout/VersionFile$Build" ({ cls := "com/example/sedgeholt/sedgeholt/layout/VersionFile$Build", name := "timestamp", desc := "()Ljava/lang/String;" } : Jvm.MethodName) ({ cls := "com/example/sedgeholt/sedgeholt/layout/VersionFile$Build", name := "timestamp", desc := "()Ljava/lang/String;" } : Jvm.MethodName)).before a0 Z = true := hw.1 _ (List.mem_of_getElem? (i := 226) rfl)
theorem ow_227 {Z : State} {a0 : Array Value} (hw : HW Z a0) : (Jvm.Cond.code ({ cls := "com/example/sedgeholt/sedgeholt/layout/VersionFile$Build", name := "timestamp", desc := "()Ljava/lang/String;" } : Jvm.MethodName) prog_10_method_6_code (1 : Nat) (Option.some (Jvm.ClassFile.FieldType.object "java/lang/String"))).before a0 Z = true := hw.1 _ (List.mem_of_getElem? (i := 227) rfl)
theorem ow_228 {Z : State} {a0 : Array Value} (hw : HW Z a0) : (Jvm.Cond.stringLink "com/example/sedgeholt/sedgeholt/layout/VersionFile" (45 : Nat) "-").before a0 Z = true := hw.1 _ (List.mem_of_getElem? (i := 228) rfl)
theorem ow_229 {Z : State} {a0 : Array Value} (hw : HW Z a0) : (Jvm.Cond.methodLink "com/example/sedgeholt/sedgeholt/layout/VersionFile" (166 : Nat) ({ cls := "com/example/sedgeholt/sedgeholt/layout/VersionFile$Build", name := "number", desc := "()Ljava/lang/String;" } : Jvm.MethodName)).before a0 Z = true := hw.1 _ (List.mem_of_getElem? (i := 229) rfl)
theorem ow_230 {Z : State} {a0 : Array Value} (hw : HW Z a0) : (Jvm.Cond.declares ({ cls := "com/example/sedgeholt/sedgeholt/layout/VersionFile$Build", name := "number", desc := "()Ljava/lang/String;" } : Jvm.MethodName)).before a0 Z = true := hw.1 _ (List.mem_of_getElem? (i := 230) rfl)
theorem ow_231 {Z : State} {a0 : Array Value} (hw : HW Z a0) : (Jvm.Cond.instanceMethod ({ cls := "com/example/sedgeholt/sedgeholt/layout/VersionFile$Build", name := "number", desc := "()Ljava/lang/String;" } : Jvm.MethodName)).before a0 Z = true := hw.1 _ (List.mem_of_getElem? (i := 231) rfl)
theorem ow_232 {Z : State} {a0 : Array Value} (hw : HW Z a0) : (Jvm.Cond.selects "com/example/sedgeholt/sedgeholt/layout/VersionFile$Build" ({ cls := "com/example/sedgeholt/sedgeholt/layout/VersionFile$Build", name := "number", desc := "()Ljava/lang/String;" } : Jvm.MethodName) ({ cls := "com/example/sedgeholt/sedgeholt/layout/VersionFile$Build", name := "number", desc := "()Ljava/lang/String;" } : Jvm.MethodName)).before a0 Z = true := hw.1 _ (List.mem_of_getElem? (i := 232) rfl)
theorem ow_233 {Z : State} {a0 : Array Value} (hw : HW Z a0) : (Jvm.Cond.code ({ cls := "com/example/sedgeholt/sedgeholt/layout/VersionFile$Build", name := "number", desc := "()Ljava/lang/String;" } : Jvm.MethodName) prog_10_method_7_code (1 : Nat) (Option.some (Jvm.ClassFile.FieldType.object "java/lang/String"))).before a0 Z = true := hw.1 _ (List.mem_of_getElem? (i := 233) rfl)
theorem ow_234 {Z : State} {a0 : Array Value} (hw : HW Z a0) : (Jvm.Cond.methodLink "com/example/sedgeholt/sedgeholt/layout/VersionFile" (47 : Nat) ({ cls := "java/lang/StringBuilder", name := "toString", desc := "()Ljava/lang/String;" } : Jvm.MethodName)).before a0 Z = true := hw.1 _ (List.mem_of_getElem? (i := 234) rfl)
theorem ow_235 {Z : State} {a0 : Array Value} (hw : HW Z a0) : (Jvm.Cond.declares ({ cls := "java/lang/StringBuilder", name := "toString", desc := "()Ljava/lang/String;" } : Jvm.MethodName)).before a0 Z = true := hw.1 _ (List.mem_of_getElem? (i := 235) rfl)
theorem ow_236 {Z : State} {a0 : Array Value} (hw : HW Z a0) : (Jvm.Cond.instanceMethod ({ cls := "java/lang/StringBuilder", name := "toString", desc := "()Ljava/lang/String;" } : Jvm.MethodName)).before a0 Z = true := hw.1 _ (List.mem_of_getElem? (i := 236) rfl)
theorem ow_237 {Z : State} {a0 : Array Value} (hw : HW Z a0) : (Jvm.Cond.selects "java/lang/StringBuilder" ({ cls := "java/lang/StringBuilder", name := "toString", desc := "()Ljava/lang/String;" } : Jvm.MethodName) ({ cls := "java/lang/StringBuilder", name := "toString", desc := "()Ljava/lang/String;" } : Jvm.MethodName)).before a0 Z = true := hw.1 _ (List.mem_of_getElem? (i := 237) rfl)
theorem ow_238 {Z : State} {a0 : Array Value} (hw : HW Z a0) : (Jvm.Cond.code ({ cls := "java/lang/StringBuilder", name := "toString", desc := "()Ljava/lang/String;" } : Jvm.MethodName) jdk_67_method_42_code (1 : Nat) (Option.some (Jvm.ClassFile.FieldType.object "java/lang/String"))).before a0 Z = true := hw.1 _ (List.mem_of_getElem? (i := 238) rfl)
theorem ow_239 {Z : State} {a0 : Array Value} (hw : HW Z a0) : (Jvm.Cond.classLink "java/lang/StringBuilder" (18 : Nat) "java/lang/String").before a0 Z = true := hw.1 _ (List.mem_of_getElem? (i := 239) rfl)
theorem ow_240 {Z : State} {a0 : Array Value} (hw : HW Z a0) : (Jvm.Cond.methodLink "java/lang/StringBuilder" (137 : Nat) ({ cls := "java/lang/String", name := "<init>", desc := "(Ljava/lang/StringBuilder;)V" } : Jvm.MethodName)).before a0 Z = true := hw.1 _ (List.mem_of_getElem? (i := 240) rfl)
theorem ow_241 {Z : State} {a0 : Array Value} (hw : HW Z a0) : (Jvm.Cond.instanceMethod ({ cls := "java/lang/String", name := "<init>", desc := "(Ljava/lang/StringBuilder;)V" } : Jvm.MethodName)).before a0 Z = true := hw.1 _ (List.mem_of_getElem? (i := 241) rfl)
theorem ow_242 {Z : State} {a0 : Array Value} (hw : HW Z a0) : (Jvm.Cond.code ({ cls := "java/lang/String", name := "<init>", desc := "(Ljava/lang/StringBuilder;)V" } : Jvm.MethodName) jdk_42_method_53_code (2 : Nat) (Option.none : Option Jvm.ClassFile.FieldType)).before a0 Z = true := hw.1 _ (List.mem_of_getElem? (i := 242) rfl)
theorem ow_243 {Z : State} {a0 : Array Value} (hw : HW Z a0) : (Jvm.Cond.methodLink "java/lang/String" (489 : Nat) ({ cls := "java/lang/String", name := "<init>", desc := "(Ljava/lang/AbstractStringBuilder;Ljava/lang/Void;)V" } : Jvm.MethodName)).before a0 Z = true := hw.1 _ (List.mem_of_getElem? (i := 243) rfl)
theorem ow_244 {Z : State} {a0 : Array Value} (hw : HW Z a0) : (Jvm.Cond.instanceMethod ({ cls := "java/lang/String", name := "<init>", desc := "(Ljava/lang/AbstractStringBuilder;Ljava/lang/Void;)V" } : Jvm.MethodName)).before a0 Z = true := hw.1 _ (List.mem_of_getElem? (i := 244) rfl)
theorem ow_245 {Z : State} {a0 : Array Value} (hw : HW Z a0) : (Jvm.Cond.code ({ cls := "java/lang/String", name := "<init>", desc := "(Ljava/lang/AbstractStringBuilder;Ljava/lang/Void;)V" } : Jvm.MethodName) jdk_42_method_150_code (5 : Nat) (Option.none : Option Jvm.ClassFile.FieldType)).before a0 Z = true := hw.1 _ (List.mem_of_getElem? (i := 245) rfl)
theorem ow_246 {Z : State} {a0 : Array Value} (hw : HW Z a0) : (Jvm.Cond.methodLink "java/lang/String" (552 : Nat) ({ cls := "java/lang/AbstractStringBuilder", name := "getValue", desc := "()[B" } : Jvm.MethodName)).before a0 Z = true := hw.1 _ (List.mem_of_getElem? (i := 246) rfl)
theorem ow_247 {Z : State} {a0 : Array Value} (hw : HW Z a0) : (Jvm.Cond.declares ({ cls := "java/lang/AbstractStringBuilder", name := "getValue", desc := "()[B" } : Jvm.MethodName)).before a0 Z = true := hw.1 _ (List.mem_of_getElem? (i := 247) rfl)
theorem ow_248 {Z : State} {a0 : Array Value} (hw : HW Z a0) : (Jvm.Cond.instanceMethod ({ cls := "java/lang/AbstractStringBuilder", name := "getValue", desc := "()[B" } : Jvm.MethodName)).before a0 Z = true := hw.1 _ (List.mem_of_getElem? (i := 248) rfl)
theorem ow_249 {Z : State} {a0 : Array Value} (hw : HW Z a0) : (Jvm.Cond.selects "java/lang/StringBuilder" ({ cls := "java/lang/AbstractStringBuilder", name := "getValue", desc := "()[B" } : Jvm.MethodName) ({ cls := "java/lang/AbstractStringBuilder", name := "getValue", desc := "()[B" } : Jvm.MethodName)).before a0 Z = true := hw.1 _ (List.mem_of_getElem? (i := 249) rfl)
theorem ow_250 {Z : State} {a0 : Array Value} (hw : HW Z a0) : (Jvm.Cond.code ({ cls := "java/lang/AbstractStringBuilder", name := "getValue", desc := "()[B" } : Jvm.MethodName) jdk_68_method_64_code (1 : Nat) (Option.some (Jvm.ClassFile.FieldType.array Jvm.ClassFile.FieldType.byte))).before a0 Z = true := hw.1 _ (List.mem_of_getElem? (i := 250) rfl)
theorem ow_251 {Z : State} {a0 : Array Value} (hw : HW Z a0) : (Jvm.Cond.methodLink "java/lang/String" (549 : Nat) ({ cls := "java/lang/AbstractStringBuilder", name := "length", desc := "()I" } : Jvm.MethodName)).before a0 Z = true := hw.1 _ (List.mem_of_getElem? (i := 251) rfl)
theorem ow_252 {Z : State} {a0 : Array Value} (hw : HW Z a0) : (Jvm.Cond.declares ({ cls := "java/lang/AbstractStringBuilder", name := "length", desc := "()I" } : Jvm.MethodName)).before a0 Z = true := hw.1 _ (List.mem_of_getElem? (i := 252) rfl)
theorem ow_253 {Z : State} {a0 : Array Value} (hw : HW Z a0) : (Jvm.Cond.instanceMethod ({ cls := "java/lang/AbstractStringBuilder", name := "length", desc := "()I" } : Jvm.MethodName)).before a0 Z = true := hw.1 _ (List.mem_of_getElem? (i := 253) rfl)
theorem ow_254 {Z : State} {a0 : Array Value} (hw : HW Z a0) : (Jvm.Cond.selects "java/lang/StringBuilder" ({ cls := "java/lang/AbstractStringBuilder", name := "length", desc := "()I" } : Jvm.MethodName) ({ cls := "java/lang/StringBuilder", name := "length", desc := "()I" } : Jvm.MethodName)).before a0 Z = true := hw.1 _ (List.mem_of_getElem? (i := 254) rfl)
theorem ow_255 {Z : State} {a0 : Array Value} (hw : HW Z a0) : (Jvm.Cond.instanceMethod ({ cls := "java/lang/StringBuilder", name := "length", desc := "()I" } : Jvm.MethodName)).before a0 Z = true := hw.1 _ (List.mem_of_getElem? (i := 255) rfl)
theorem ow_256 {Z : State} {a0 : Array Value} (hw : HW Z a0) : (Jvm.Cond.code ({ cls := "java/lang/StringBuilder", name := "length", desc := "()I" } : Jvm.MethodName) jdk_67_method_93_code (1 : Nat) (Option.some Jvm.ClassFile.FieldType.int)).before a0 Z = true := hw.1 _ (List.mem_of_getElem? (i := 256) rfl)
theorem ow_257 {Z : State} {a0 : Array Value} (hw : HW Z a0) : (Jvm.Cond.methodLink "java/lang/StringBuilder" (343 : Nat) ({ cls := "java/lang/AbstractStringBuilder", name := "length", desc := "()I" } : Jvm.MethodName)).before a0 Z = true := hw.1 _ (List.mem_of_getElem? (i := 257) rfl)
theorem ow_258 {Z : State} {a0 : Array Value} (hw : HW Z a0) : (Jvm.Cond.code ({ cls := "java/lang/AbstractStringBuilder", name := "length", desc := "()I" } : Jvm.MethodName) jdk_68_method_6_code (1 : Nat) (Option.some Jvm.ClassFile.FieldType.int)).before a0 Z = true := hw.1 _ (List.mem_of_getElem? (i := 258) rfl)
theorem ow_259 {Z : State} {a0 : Array Value} (hw : HW Z a0) : (Jvm.Cond.methodLink "java/lang/String" (1047 : Nat) ({ cls := "java/lang/AbstractStringBuilder", name := "isLatin1", desc := "()Z" } : Jvm.MethodName)).before a0 Z = true := hw.1 _ (List.mem_of_getElem? (i := 259) rfl)
theorem ow_260 {Z : State} {a0 : Array Value} (hw : HW Z a0) : (Jvm.Cond.declares ({ cls := "java/lang/AbstractStringBuilder", name := "isLatin1", desc := "()Z" } : Jvm.MethodName)).before a0 Z = true := hw.1 _ (List.mem_of_getElem? (i := 260) rfl)
theorem ow_261 {Z : State} {a0 : Array Value} (hw : HW Z a0) : (Jvm.Cond.instanceMethod ({ cls := "java/lang/AbstractStringBuilder", name := "isLatin1", desc := "()Z" } : Jvm.MethodName)).before a0 Z = true := hw.1 _ (List.mem_of_getElem? (i := 261) rfl)
theorem ow_262 {Z : State} {a0 : Array Value} (hw : HW Z a0) : (Jvm.Cond.selects "java/lang/StringBuilder" ({ cls := "java/lang/AbstractStringBuilder", name := "isLatin1", desc := "()Z" } : Jvm.MethodName) ({ cls := "java/lang/AbstractStringBuilder", name := "isLatin1", desc := "()Z" } : Jvm.MethodName)).before a0 Z = true := hw.1 _ (List.mem_of_getElem? (i := 262) rfl)
theorem ow_263 {Z : State} {a0 : Array Value} (hw : HW Z a0) : (Jvm.Cond.code ({ cls := "java/lang/AbstractStringBuilder", name := "isLatin1", desc := "()Z" } : Jvm.MethodName) jdk_68_method_68_code (1 : Nat) (Option.some Jvm.ClassFile.FieldType.boolean)).before a0 Z = true := hw.1 _ (List.mem_of_getElem? (i := 263) rfl)
theorem ow_264 {Z : State} {a0 : Array Value} (hw : HW Z a0) : (Jvm.Cond.methodLink "java/lang/String" (54 : Nat) ({ cls := "java/util/Arrays", name := "copyOfRange", desc := "([BII)[B" } : Jvm.MethodName)).before a0 Z = true := hw.1 _ (List.mem_of_getElem? (i := 264) rfl)
theorem ow_265 {Z : State} {a0 : Array Value} (hw : HW Z a0) : (Jvm.Cond.methodLink "java/util/Optional" (62 : Nat) ({ cls := "java/util/Optional", name := "ofNullable", desc := "(Ljava/lang/Object;)Ljava/util/Optional;" } : Jvm.MethodName)).before a0 Z = true := hw.1 _ (List.mem_of_getElem? (i := 265) rfl)
theorem ow_266 {Z : State} {a0 : Array Value} (hw : HW Z a0) : (Jvm.Cond.static ({ cls := "java/util/Optional", name := "ofNullable", desc := "(Ljava/lang/Object;)Ljava/util/Optional;" } : Jvm.MethodName)).before a0 Z = true := hw.1 _ (List.mem_of_getElem? (i := 266) rfl)
theorem ow_267 {Z : State} {a0 : Array Value} (hw : HW Z a0) : (Jvm.Cond.code ({ cls := "java/util/Optional", name := "ofNullable", desc := "(Ljava/lang/Object;)Ljava/util/Optional;" } : Jvm.MethodName) jdk_32_method_4_code (1 : Nat) (Option.some (Jvm.ClassFile.FieldType.object "java/util/Optional"))).before a0 Z = true := hw.1 _ (List.mem_of_getElem? (i := 267) rfl)
theorem ow_268 {Z : State} {a0 : Array Value} (hw : HW Z a0) : (Jvm.Cond.methodLink "com/example/sedgeholt/sedgeholt/layout/VersionFile" (121 : Nat) ({ cls := "java/util/Optional", name := "orElse", desc := "(Ljava/lang/Object;)Ljava/lang/Object;" } : Jvm.MethodName)).before a0 Z = true := hw.1 _ (List.mem_of_getElem? (i := 268) rfl)
theorem ow_269 {Z : State} {a0 : Array Value} (hw : HW Z a0) : (Jvm.Cond.declares ({ cls := "java/util/Optional", name := "orElse", desc := "(Ljava/lang/Object;)Ljava/lang/Object;" } : Jvm.MethodName)).before a0 Z = true := hw.1 _ (List.mem_of_getElem? (i := 269) rfl)
theorem ow_270 {Z : State} {a0 : Array Value} (hw : HW Z a0) : (Jvm.Cond.instanceMethod ({ cls := "java/util/Optional", name := "orElse", desc := "(Ljava/lang/Object;)Ljava/lang/Object;" } : Jvm.MethodName)).before a0 Z = true := hw.1 _ (List.mem_of_getElem? (i := 270) rfl)
theorem ow_271 {Z : State} {a0 : Array Value} (hw : HW Z a0) : (Jvm.Cond.selects "java/util/Optional" ({ cls := "java/util/Optional", name := "orElse", desc := "(Ljava/lang/Object;)Ljava/lang/Object;" } : Jvm.MethodName) ({ cls := "java/util/Optional", name := "orElse", desc := "(Ljava/lang/Object;)Ljava/lang/Object;" } : Jvm.MethodName)).before a0 Z = true := hw.1 _ (List.mem_of_getElem? (i := 271) rfl)
theorem ow_272 {Z : State} {a0 : Array Value} (hw : HW Z a0) : (Jvm.Cond.code ({ cls := "java/util/Optional", name := "orElse", desc := "(Ljava/lang/Object;)Ljava/lang/Object;" } : Jvm.MethodName) jdk_32_method_15_code (2 : Nat) (Option.some (Jvm.ClassFile.FieldType.object "java/lang/Object"))).before a0 Z = true := hw.1 _ (List.mem_of_getElem? (i := 272) rfl)
theorem ow_273 {Z : State} {a0 : Array Value} (hw : HW Z a0) : (Jvm.Cond.classLink "com/example/sedgeholt/sedgeholt/layout/VersionFile" (27 : Nat) "java/lang/String").before a0 Z = true := hw.1 _ (List.mem_of_getElem? (i := 273) rfl)
theorem ow_274 {Z : State} {a0 : Array Value} (hw : HW Z a0) : (Jvm.Cond.methodLink "com/example/sedgeholt/sedgeholt/layout/VersionFileFileVersionPinLaw" (38 : Nat) ({ cls := "java/lang/String", name := "length", desc := "()I" } : Jvm.MethodName)).before a0 Z = true := hw.1 _ (List.mem_of_getElem? (i := 274) rfl)
theorem ow_275 {Z : State} {a0 : Array Value} (hw : HW Z a0) : (Jvm.Cond.methodLink "com/example/sedgeholt/sedgeholt/layout/VersionFileFileVersionPinLaw" (42 : Nat) ({ cls := "java/lang/String", name := "charAt", desc := "(I)C" } : Jvm.MethodName)).before a0 Z = true := hw.1 _ (List.mem_of_getElem? (i := 275) rfl)
theorem ow_276 {Z : State} {a0 : Array Value} (hw : HW Z a0) : (Jvm.Cond.declares ({ cls := "java/lang/String", name := "charAt", desc := "(I)C" } : Jvm.MethodName)).before a0 Z = true := hw.1 _ (List.mem_of_getElem? (i := 276) rfl)
theorem ow_277 {Z : State} {a0 : Array Value} (hw : HW Z a0) : (Jvm.Cond.instanceMethod ({ cls := "java/lang/String", name := "charAt", desc := "(I)C" } : Jvm.MethodName)).before a0 Z = true := hw.1 _ (List.mem_of_getElem? (i := 277) rfl)
theorem ow_278 {Z : State} {a0 : Array Value} (hw : HW Z a0) : (Jvm.Cond.selects "java/lang/String" ({ cls := "java/lang/String", name := "charAt", desc := "(I)C" } : Jvm.MethodName) ({ cls := "java/lang/String", name := "charAt", desc := "(I)C" } : Jvm.MethodName)).before a0 Z = true := hw.1 _ (List.mem_of_getElem? (i := 278) rfl)
theorem ow_289 {Z : State} {a0 : Array Value} (hw : HW Z a0) : (Jvm.Cond.methodLink "com/example/sedgeholt/sedgeholt/layout/VersionFileFileVersionPinLaw" (46 : Nat) ({ cls := "java/util/Optional", name := "empty", desc := "()Ljava/util/Optional;" } : Jvm.MethodName)).before a0 Z = true := hw.1 _ (List.mem_of_getElem? (i := 289) rfl)
theorem ow_290 {Z : State} {a0 : Array Value} (hw : HW Z a0) : (Jvm.Cond.static ({ cls := "java/util/Optional", name := "empty", desc := "()Ljava/util/Optional;" } : Jvm.MethodName)).before a0 Z = true := hw.1 _ (List.mem_of_getElem? (i := 290) rfl)
theorem ow_291 {Z : State} {a0 : Array Value} (hw : HW Z a0) : (Jvm.Cond.code ({ cls := "java/util/Optional", name := "empty", desc := "()Ljava/util/Optional;" } : Jvm.MethodName) jdk_32_method_1_code (1 : Nat) (Option.some (Jvm.ClassFile.FieldType.object "java/util/Optional"))).before a0 Z = true := hw.1 _ (List.mem_of_getElem? (i := 291) rfl)
theorem ow_292 {Z : State} {a0 : Array Value} (hw : HW Z a0) : (Jvm.Cond.fieldLink "java/util/Optional" (1 : Nat) "java/util/Optional" "EMPTY" "Ljava/util/Optional;").before a0 Z = true := hw.1 _ (List.mem_of_getElem? (i := 292) rfl)
theorem ow_293 {Z : State} {a0 : Array Value} (hw : HW Z a0) : (Jvm.Cond.methodLink "java/util/Optional" (53 : Nat) ({ cls := "java/util/Optional", name := "empty", desc := "()Ljava/util/Optional;" } : Jvm.MethodName)).before a0 Z = true := hw.1 _ (List.mem_of_getElem? (i := 293) rfl)
theorem ow_294 {Z : State} {a0 : Array Value} (hw : HW Z a0) : (Jvm.Cond.methodLink "com/example/sedgeholt/sedgeholt/layout/VersionFileFileVersionPinLaw" (50 : Nat) ({ cls := "java/lang/String", name := "equals", desc := "(Ljava/lang/Object;)Z" } : Jvm.MethodName)).before a0 Z = true := hw.1 _ (List.mem_of_getElem? (i := 294) rfl)
theorem ow_295 {Z : State} {a0 : Array Value} (hw : HW Z a0) : (Jvm.Cond.declares ({ cls := "java/lang/String", name := "equals", desc := "(Ljava/lang/Object;)Z" } : Jvm.MethodName)).before a0 Z = true := hw.1 _ (List.mem_of_getElem? (i := 295) rfl)
theorem ow_296 {Z : State} {a0 : Array Value} (hw : HW Z a0) : (Jvm.Cond.instanceMethod ({ cls := "java/lang/String", name := "equals", desc := "(Ljava/lang/Object;)Z" } : Jvm.MethodName)).before a0 Z = true := hw.1 _ (List.mem_of_getElem? (i := 296) rfl)
theorem ow_297 {Z : State} {a0 : Array Value} (hw : HW Z a0) : (Jvm.Cond.selects "java/lang/String" ({ cls := "java/lang/String", name := "equals", desc := "(Ljava/lang/Object;)Z" } : Jvm.MethodName) ({ cls := "java/lang/String", name := "equals", desc := "(Ljava/lang/Object;)Z" } : Jvm.MethodName)).before a0 Z = true := hw.1 _ (List.mem_of_getElem? (i := 297) rfl)
theorem ow_298 {Z : State} {a0 : Array Value} (hw : HW Z a0) : (Jvm.Cond.code ({ cls := "java/lang/String", name := "equals", desc := "(Ljava/lang/Object;)Z" } : Jvm.MethodName) jdk_42_method_66_code (3 : Nat) (Option.some Jvm.ClassFile.FieldType.boolean)).before a0 Z = true := hw.1 _ (List.mem_of_getElem? (i := 298) rfl)
theorem own_wS {Z : State} {a0 : Array Value} (hw : HW Z a0) : (Jvm.Cond.instantiable "java/lang/String" (4 : Nat)).before a0 Z = true := (ow_2 hw)
abbrev EL0 : List (String × Nat) := consts_1
abbrev nw0 : Bool := false
theorem own_ew {Z : State} {a0 : Array Value} (hw : HW Z a0) : EW Z a0 EL0 := (EW.cons (ow_142 hw) (by decide) (EW.cons (ow_228 hw) (by decide) (EW.cons (ow_33 hw) (by decide) (EW.cons (ow_69 hw) (by decide) (EW.cons (ow_70 hw) (by decide) EW.nil)))))
theorem own_sA {Z : State} {a0 : Array Value} (hw : HW Z a0) : ∀ a ∈ Bundle.stringAtoms, a.before a0 Z = true := fun d hd => hw.1 d ((by decide +kernel : ∀ d ∈ Bundle.stringAtoms, d ∈ tables_1) d hd)
theorem od_30_0 : decode jdk_29_method_69_code 0 = .ok (.iload_n 0, 1) := by decide +kernel
theorem od_30_1 : decode jdk_29_method_69_code 1 = .ok (.iload_n 1, 1) := by decide +kernel
theorem od_30_2 : decode jdk_29_method_69_code 2 = .ok (.if_icmp .gt 7, 3) := by decide +kernel
theorem od_30_9 : decode jdk_29_method_69_code 9 = .ok (.iload_n 1, 1) := by decide +kernel
theorem od_30_10 : decode jdk_29_method_69_code 10 = .ok (.ireturn, 1) := by decide +kernel
theorem od_30_5 : decode jdk_29_method_69_code 5 = .ok (.iload_n 0, 1) := by decide +kernel
theorem od_30_6 : decode jdk_29_method_69_code 6 = .ok (.goto 4, 3) := by decide +kernel
theorem od_34_0 : decode jdk_68_method_9_code 0 = .ok (.aload_n 0, 1) := by decide +kernel
theorem od_34_1 : decode jdk_68_method_9_code 1 = .ok (.getfield 15, 3) := by decide +kernel
theorem od_34_4 : decode jdk_68_method_9_code 4 = .ok (.arraylength, 1) := by decide +kernel
theorem od_34_5 : decode jdk_68_method_9_code 5 = .ok (.aload_n 0, 1) := by decide +kernel
theorem od_34_6 : decode jdk_68_method_9_code 6 = .ok (.getfield 22, 3) := by decide +kernel
theorem od_34_9 : decode jdk_68_method_9_code 9 = .ok (.ishr, 1) := by decide +kernel
theorem od_34_10 : decode jdk_68_method_9_code 10 = .ok (.istore_n 2, 1) := by decide +kernel
theorem od_34_11 : decode jdk_68_method_9_code 11 = .ok (.iload_n 1, 1) := by decide +kernel
theorem od_34_12 : decode jdk_68_method_9_code 12 = .ok (.iload_n 2, 1) := by decide +kernel
theorem od_34_13 : decode jdk_68_method_9_code 13 = .ok (.isub, 1) := by decide +kernel
theorem od_34_14 : decode jdk_68_method_9_code 14 = .ok (.ifCond .le 24, 3) := by decide +kernel
theorem od_34_38 : decode jdk_68_method_9_code 38 = .ok (.return_, 1) := by decide +kernel
theorem od_21_0 : decode jdk_42_method_152_code 0 = .ok (.getstatic 38, 3) := by decide +kernel
theorem od_21_3 : decode jdk_42_method_152_code 3 = .ok (.ifCond .eq 10, 3) := by decide +kernel
theorem od_21_6 : decode jdk_42_method_152_code 6 = .ok (.aload_n 0, 1) := by decide +kernel
theorem od_21_7 : decode jdk_42_method_152_code 7 = .ok (.getfield 15, 3) := by decide +kernel
theorem od_21_10 : decode jdk_42_method_152_code 10 = .ok (.goto 4, 3) := by decide +kernel
theorem od_21_14 : decode jdk_42_method_152_code 14 = .ok (.ireturn, 1) := by decide +kernel
theorem od_36_0 : decode jdk_68_method_71_code 0 = .ok (.getstatic 18, 3) := by decide +kernel
theorem od_36_3 : decode jdk_68_method_71_code 3 = .ok (.ifCond .eq 18, 3) := by decide +kernel
theorem od_36_6 : decode jdk_68_method_71_code 6 = .ok (.aload_n 0, 1) := by decide +kernel
theorem od_36_7 : decode jdk_68_method_71_code 7 = .ok (.getfield 22, 3) := by decide +kernel
theorem od_36_10 : decode jdk_68_method_71_code 10 = .ok (.aload_n 1, 1) := by decide +kernel
theorem od_36_11 : decode jdk_68_method_71_code 11 = .ok (.invokevirtual 40, 3) := by decide +kernel
theorem od_36_14 : decode jdk_68_method_71_code 14 = .ok (.if_icmp .eq 7, 3) := by decide +kernel
theorem od_36_21 : decode jdk_68_method_71_code 21 = .ok (.return_, 1) := by decide +kernel
theorem od_37_0 : decode jdk_42_method_147_code 0 = .ok (.aload_n 0, 1) := by decide +kernel
theorem od_37_1 : decode jdk_42_method_147_code 1 = .ok (.invokevirtual 335, 3) := by decide +kernel
theorem od_37_4 : decode jdk_42_method_147_code 4 = .ok (.iload_n 3, 1) := by decide +kernel
theorem od_37_5 : decode jdk_42_method_147_code 5 = .ok (.if_icmp .ne 23, 3) := by decide +kernel
theorem od_37_8 : decode jdk_42_method_147_code 8 = .ok (.aload_n 0, 1) := by decide +kernel
theorem od_37_9 : decode jdk_42_method_147_code 9 = .ok (.getfield 9, 3) := by decide +kernel
theorem od_37_12 : decode jdk_42_method_147_code 12 = .ok (.iconst 0, 1) := by decide +kernel
theorem od_37_13 : decode jdk_42_method_147_code 13 = .ok (.aload_n 1, 1) := by decide +kernel
theorem od_37_14 : decode jdk_42_method_147_code 14 = .ok (.iload_n 2, 1) := by decide +kernel
theorem od_37_15 : decode jdk_42_method_147_code 15 = .ok (.iload_n 3, 1) := by decide +kernel
theorem od_37_16 : decode jdk_42_method_147_code 16 = .ok (.ishl, 1) := by decide +kernel
theorem od_37_17 : decode jdk_42_method_147_code 17 = .ok (.aload_n 0, 1) := by decide +kernel
theorem od_37_18 : decode jdk_42_method_147_code 18 = .ok (.getfield 9, 3) := by decide +kernel
theorem od_37_21 : decode jdk_42_method_147_code 21 = .ok (.arraylength, 1) := by decide +kernel
theorem od_37_22 : decode jdk_42_method_147_code 22 = .ok (.invokestatic 212, 3) := by decide +kernel
theorem od_37_25 : decode jdk_42_method_147_code 25 = .ok (.goto 18, 3) := by decide +kernel
theorem od_37_43 : decode jdk_42_method_147_code 43 = .ok (.return_, 1) := by decide +kernel
theorem od_35_0 : decode jdk_68_method_73_code 0 = .ok (.aload_n 0, 1) := by decide +kernel
theorem od_35_1 : decode jdk_68_method_73_code 1 = .ok (.aload_n 2, 1) := by decide +kernel
theorem od_35_2 : decode jdk_68_method_73_code 2 = .ok (.invokevirtual 397, 3) := by decide +kernel
theorem od_35_5 : decode jdk_68_method_73_code 5 = .ok (.aload_n 2, 1) := by decide +kernel
theorem od_35_6 : decode jdk_68_method_73_code 6 = .ok (.aload_n 0, 1) := by decide +kernel
theorem od_35_7 : decode jdk_68_method_73_code 7 = .ok (.getfield 15, 3) := by decide +kernel
theorem od_35_10 : decode jdk_68_method_73_code 10 = .ok (.iload_n 1, 1) := by decide +kernel
theorem od_35_11 : decode jdk_68_method_73_code 11 = .ok (.aload_n 0, 1) := by decide +kernel
theorem od_35_12 : decode jdk_68_method_73_code 12 = .ok (.getfield 22, 3) := by decide +kernel
theorem od_35_15 : decode jdk_68_method_73_code 15 = .ok (.invokevirtual 399, 3) := by decide +kernel
theorem od_35_18 : decode jdk_68_method_73_code 18 = .ok (.return_, 1) := by decide +kernel
theorem od_33_0 : decode jdk_68_method_22_code 0 = .ok (.aload_n 1, 1) := by decide +kernel
theorem od_33_1 : decode jdk_68_method_22_code 1 = .ok (.ifnonnull 8, 3) := by decide +kernel
theorem od_33_9 : decode jdk_68_method_22_code 9 = .ok (.aload_n 1, 1) := by decide +kernel
theorem od_33_10 : decode jdk_68_method_22_code 10 = .ok (.invokevirtual 32, 3) := by decide +kernel
theorem od_33_13 : decode jdk_68_method_22_code 13 = .ok (.istore_n 2, 1) := by decide +kernel
theorem od_33_14 : decode jdk_68_method_22_code 14 = .ok (.aload_n 0, 1) := by decide +kernel
theorem od_33_15 : decode jdk_68_method_22_code 15 = .ok (.aload_n 0, 1) := by decide +kernel
theorem od_33_16 : decode jdk_68_method_22_code 16 = .ok (.getfield 79, 3) := by decide +kernel
theorem od_33_19 : decode jdk_68_method_22_code 19 = .ok (.iload_n 2, 1) := by decide +kernel
theorem od_33_20 : decode jdk_68_method_22_code 20 = .ok (.iadd, 1) := by decide +kernel
theorem od_33_21 : decode jdk_68_method_22_code 21 = .ok (.invokevirtual 100, 3) := by decide +kernel
theorem od_33_24 : decode jdk_68_method_22_code 24 = .ok (.aload_n 0, 1) := by decide +kernel
theorem od_33_25 : decode jdk_68_method_22_code 25 = .ok (.aload_n 0, 1) := by decide +kernel
theorem od_33_26 : decode jdk_68_method_22_code 26 = .ok (.getfield 79, 3) := by decide +kernel
theorem od_33_29 : decode jdk_68_method_22_code 29 = .ok (.aload_n 1, 1) := by decide +kernel
theorem od_33_30 : decode jdk_68_method_22_code 30 = .ok (.invokevirtual 208, 3) := by decide +kernel
theorem od_33_33 : decode jdk_68_method_22_code 33 = .ok (.aload_n 0, 1) := by decide +kernel
theorem od_33_34 : decode jdk_68_method_22_code 34 = .ok (.dup, 1) := by decide +kernel
theorem od_33_35 : decode jdk_68_method_22_code 35 = .ok (.getfield 79, 3) := by decide +kernel
theorem od_33_38 : decode jdk_68_method_22_code 38 = .ok (.iload_n 2, 1) := by decide +kernel
theorem od_33_39 : decode jdk_68_method_22_code 39 = .ok (.iadd, 1) := by decide +kernel
theorem od_33_40 : decode jdk_68_method_22_code 40 = .ok (.putfield 79, 3) := by decide +kernel
theorem od_33_43 : decode jdk_68_method_22_code 43 = .ok (.aload_n 0, 1) := by decide +kernel
theorem od_33_44 : decode jdk_68_method_22_code 44 = .ok (.areturn, 1) := by decide +kernel
theorem od_32_0 : decode jdk_67_method_7_code 0 = .ok (.aload_n 0, 1) := by decide +kernel
theorem od_32_1 : decode jdk_67_method_7_code 1 = .ok (.aload_n 1, 1) := by decide +kernel
theorem od_32_2 : decode jdk_67_method_7_code 2 = .ok (.invokespecial 29, 3) := by decide +kernel
theorem od_32_5 : decode jdk_67_method_7_code 5 = .ok (.pop, 1) := by decide +kernel
theorem od_32_6 : decode jdk_67_method_7_code 6 = .ok (.aload_n 0, 1) := by decide +kernel
theorem od_32_7 : decode jdk_67_method_7_code 7 = .ok (.areturn, 1) := by decide +kernel
theorem od_18_0 : decode jdk_68_method_2_code 0 = .ok (.aload_n 0, 1) := by decide +kernel
theorem od_18_1 : decode jdk_68_method_2_code 1 = .ok (.invokespecial 3, 3) := by decide +kernel
theorem od_18_4 : decode jdk_68_method_2_code 4 = .ok (.getstatic 18, 3) := by decide +kernel
theorem od_18_7 : decode jdk_68_method_2_code 7 = .ok (.ifCond .eq 18, 3) := by decide +kernel
theorem od_18_10 : decode jdk_68_method_2_code 10 = .ok (.aload_n 0, 1) := by decide +kernel
theorem od_18_11 : decode jdk_68_method_2_code 11 = .ok (.iload_n 1, 1) := by decide +kernel
theorem od_18_12 : decode jdk_68_method_2_code 12 = .ok (.newarray .byte, 2) := by decide +kernel
theorem od_18_14 : decode jdk_68_method_2_code 14 = .ok (.putfield 15, 3) := by decide +kernel
theorem od_18_17 : decode jdk_68_method_2_code 17 = .ok (.aload_n 0, 1) := by decide +kernel
theorem od_18_18 : decode jdk_68_method_2_code 18 = .ok (.iconst 0, 1) := by decide +kernel
theorem od_18_19 : decode jdk_68_method_2_code 19 = .ok (.putfield 22, 3) := by decide +kernel
theorem od_18_22 : decode jdk_68_method_2_code 22 = .ok (.goto 16, 3) := by decide +kernel
theorem od_18_38 : decode jdk_68_method_2_code 38 = .ok (.return_, 1) := by decide +kernel
theorem od_17_0 : decode jdk_67_method_1_code 0 = .ok (.aload_n 0, 1) := by decide +kernel
theorem od_17_1 : decode jdk_67_method_1_code 1 = .ok (.bipush 16, 2) := by decide +kernel
theorem od_17_3 : decode jdk_67_method_1_code 3 = .ok (.invokespecial 1, 3) := by decide +kernel
theorem od_17_6 : decode jdk_67_method_1_code 6 = .ok (.return_, 1) := by decide +kernel
theorem od_43_0 : decode jdk_68_method_64_code 0 = .ok (.aload_n 0, 1) := by decide +kernel
theorem od_43_1 : decode jdk_68_method_64_code 1 = .ok (.getfield 15, 3) := by decide +kernel
theorem od_43_4 : decode jdk_68_method_64_code 4 = .ok (.areturn, 1) := by decide +kernel
theorem od_45_0 : decode jdk_68_method_6_code 0 = .ok (.aload_n 0, 1) := by decide +kernel
theorem od_45_1 : decode jdk_68_method_6_code 1 = .ok (.getfield 79, 3) := by decide +kernel
theorem od_45_4 : decode jdk_68_method_6_code 4 = .ok (.ireturn, 1) := by decide +kernel
theorem od_46_0 : decode jdk_68_method_68_code 0 = .ok (.getstatic 18, 3) := by decide +kernel
theorem od_46_3 : decode jdk_68_method_68_code 3 = .ok (.ifCond .eq 14, 3) := by decide +kernel
theorem od_46_6 : decode jdk_68_method_68_code 6 = .ok (.aload_n 0, 1) := by decide +kernel
theorem od_46_7 : decode jdk_68_method_68_code 7 = .ok (.getfield 22, 3) := by decide +kernel
theorem od_46_10 : decode jdk_68_method_68_code 10 = .ok (.ifCond .ne 7, 3) := by decide +kernel
theorem od_46_13 : decode jdk_68_method_68_code 13 = .ok (.iconst 1, 1) := by decide +kernel
theorem od_46_14 : decode jdk_68_method_68_code 14 = .ok (.goto 4, 3) := by decide +kernel
theorem od_46_18 : decode jdk_68_method_68_code 18 = .ok (.ireturn, 1) := by decide +kernel
theorem od_44_0 : decode jdk_67_method_93_code 0 = .ok (.aload_n 0, 1) := by decide +kernel
theorem od_44_1 : decode jdk_67_method_93_code 1 = .ok (.invokespecial 343, 3) := by decide +kernel
theorem od_44_4 : decode jdk_67_method_93_code 4 = .ok (.ireturn, 1) := by decide +kernel
theorem od_29_0 : decode jdk_65_method_131_code 0 = .ok (.iload_n 1, 1) := by decide +kernel
theorem od_29_1 : decode jdk_65_method_131_code 1 = .ok (.iload_n 0, 1) := by decide +kernel
theorem od_29_2 : decode jdk_65_method_131_code 2 = .ok (.if_icmp .ge 35, 3) := by decide +kernel
theorem od_29_37 : decode jdk_65_method_131_code 37 = .ok (.return_, 1) := by decide +kernel
theorem od_28_0 : decode jdk_65_method_133_code 0 = .ok (.iload_n 1, 1) := by decide +kernel
theorem od_28_1 : decode jdk_65_method_133_code 1 = .ok (.iload_n 2, 1) := by decide +kernel
theorem od_28_2 : decode jdk_65_method_133_code 2 = .ok (.invokestatic 343, 3) := by decide +kernel
theorem od_28_5 : decode jdk_65_method_133_code 5 = .ok (.iload_n 2, 1) := by decide +kernel
theorem od_28_6 : decode jdk_65_method_133_code 6 = .ok (.iload_n 1, 1) := by decide +kernel
theorem od_28_7 : decode jdk_65_method_133_code 7 = .ok (.isub, 1) := by decide +kernel
theorem od_28_8 : decode jdk_65_method_133_code 8 = .ok (.istore_n 3, 1) := by decide +kernel
theorem od_28_9 : decode jdk_65_method_133_code 9 = .ok (.iload_n 3, 1) := by decide +kernel
theorem od_28_10 : decode jdk_65_method_133_code 10 = .ok (.newarray .byte, 2) := by decide +kernel
theorem od_28_12 : decode jdk_65_method_133_code 12 = .ok (.astore 4, 2) := by decide +kernel
theorem od_28_14 : decode jdk_65_method_133_code 14 = .ok (.aload_n 0, 1) := by decide +kernel
theorem od_28_15 : decode jdk_65_method_133_code 15 = .ok (.iload_n 1, 1) := by decide +kernel
theorem od_28_16 : decode jdk_65_method_133_code 16 = .ok (.aload 4, 2) := by decide +kernel
theorem od_28_18 : decode jdk_65_method_133_code 18 = .ok (.iconst 0, 1) := by decide +kernel
theorem od_28_19 : decode jdk_65_method_133_code 19 = .ok (.aload_n 0, 1) := by decide +kernel
theorem od_28_20 : decode jdk_65_method_133_code 20 = .ok (.arraylength, 1) := by decide +kernel
theorem od_28_21 : decode jdk_65_method_133_code 21 = .ok (.iload_n 1, 1) := by decide +kernel
theorem od_28_22 : decode jdk_65_method_133_code 22 = .ok (.isub, 1) := by decide +kernel
theorem od_28_23 : decode jdk_65_method_133_code 23 = .ok (.iload_n 3, 1) := by decide +kernel
theorem od_28_24 : decode jdk_65_method_133_code 24 = .ok (.invokestatic 304, 3) := by decide +kernel
theorem od_28_27 : decode jdk_65_method_133_code 27 = .ok (.invokestatic 150, 3) := by decide +kernel
theorem od_28_30 : decode jdk_65_method_133_code 30 = .ok (.aload 4, 2) := by decide +kernel
theorem od_28_32 : decode jdk_65_method_133_code 32 = .ok (.areturn, 1) := by decide +kernel
theorem od_27_0 : decode jdk_65_method_132_code 0 = .ok (.iload_n 1, 1) := by decide +kernel
theorem od_27_1 : decode jdk_65_method_132_code 1 = .ok (.ifCond .ne 9, 3) := by decide +kernel
theorem od_27_4 : decode jdk_65_method_132_code 4 = .ok (.iload_n 2, 1) := by decide +kernel
theorem od_27_5 : decode jdk_65_method_132_code 5 = .ok (.aload_n 0, 1) := by decide +kernel
theorem od_27_6 : decode jdk_65_method_132_code 6 = .ok (.arraylength, 1) := by decide +kernel
theorem od_27_7 : decode jdk_65_method_132_code 7 = .ok (.if_icmp .eq 10, 3) := by decide +kernel
theorem od_27_10 : decode jdk_65_method_132_code 10 = .ok (.aload_n 0, 1) := by decide +kernel
theorem od_27_11 : decode jdk_65_method_132_code 11 = .ok (.iload_n 1, 1) := by decide +kernel
theorem od_27_12 : decode jdk_65_method_132_code 12 = .ok (.iload_n 2, 1) := by decide +kernel
theorem od_27_13 : decode jdk_65_method_132_code 13 = .ok (.invokestatic 339, 3) := by decide +kernel
theorem od_27_16 : decode jdk_65_method_132_code 16 = .ok (.areturn, 1) := by decide +kernel
theorem od_42_0 : decode jdk_42_method_150_code 0 = .ok (.aload_n 0, 1) := by decide +kernel
theorem od_42_1 : decode jdk_42_method_150_code 1 = .ok (.invokespecial 1, 3) := by decide +kernel
theorem od_42_4 : decode jdk_42_method_150_code 4 = .ok (.aload_n 1, 1) := by decide +kernel
theorem od_42_5 : decode jdk_42_method_150_code 5 = .ok (.invokevirtual 552, 3) := by decide +kernel
theorem od_42_8 : decode jdk_42_method_150_code 8 = .ok (.astore_n 3, 1) := by decide +kernel
theorem od_42_9 : decode jdk_42_method_150_code 9 = .ok (.aload_n 1, 1) := by decide +kernel
theorem od_42_10 : decode jdk_42_method_150_code 10 = .ok (.invokevirtual 549, 3) := by decide +kernel
theorem od_42_13 : decode jdk_42_method_150_code 13 = .ok (.istore 4, 2) := by decide +kernel
theorem od_42_15 : decode jdk_42_method_150_code 15 = .ok (.aload_n 1, 1) := by decide +kernel
theorem od_42_16 : decode jdk_42_method_150_code 16 = .ok (.invokevirtual 1047, 3) := by decide +kernel
theorem od_42_19 : decode jdk_42_method_150_code 19 = .ok (.ifCond .eq 22, 3) := by decide +kernel
theorem od_42_22 : decode jdk_42_method_150_code 22 = .ok (.aload_n 0, 1) := by decide +kernel
theorem od_42_23 : decode jdk_42_method_150_code 23 = .ok (.iconst 0, 1) := by decide +kernel
theorem od_42_24 : decode jdk_42_method_150_code 24 = .ok (.putfield 15, 3) := by decide +kernel
theorem od_42_27 : decode jdk_42_method_150_code 27 = .ok (.aload_n 0, 1) := by decide +kernel
theorem od_42_28 : decode jdk_42_method_150_code 28 = .ok (.aload_n 3, 1) := by decide +kernel
theorem od_42_29 : decode jdk_42_method_150_code 29 = .ok (.iconst 0, 1) := by decide +kernel
theorem od_42_30 : decode jdk_42_method_150_code 30 = .ok (.iload 4, 2) := by decide +kernel
theorem od_42_32 : decode jdk_42_method_150_code 32 = .ok (.invokestatic 54, 3) := by decide +kernel
theorem od_42_35 : decode jdk_42_method_150_code 35 = .ok (.putfield 9, 3) := by decide +kernel
theorem od_42_38 : decode jdk_42_method_150_code 38 = .ok (.goto 59, 3) := by decide +kernel
theorem od_42_97 : decode jdk_42_method_150_code 97 = .ok (.return_, 1) := by decide +kernel
theorem od_41_0 : decode jdk_42_method_53_code 0 = .ok (.aload_n 0, 1) := by decide +kernel
theorem od_41_1 : decode jdk_42_method_53_code 1 = .ok (.aload_n 1, 1) := by decide +kernel
theorem od_41_2 : decode jdk_42_method_53_code 2 = .ok (.aconst_null, 1) := by decide +kernel
theorem od_41_3 : decode jdk_42_method_53_code 3 = .ok (.invokespecial 489, 3) := by decide +kernel
theorem od_41_6 : decode jdk_42_method_53_code 6 = .ok (.return_, 1) := by decide +kernel
theorem od_40_0 : decode jdk_67_method_42_code 0 = .ok (.new 18, 3) := by decide +kernel
theorem od_40_3 : decode jdk_67_method_42_code 3 = .ok (.dup, 1) := by decide +kernel
theorem od_40_4 : decode jdk_67_method_42_code 4 = .ok (.aload_n 0, 1) := by decide +kernel
theorem od_40_5 : decode jdk_67_method_42_code 5 = .ok (.invokespecial 137, 3) := by decide +kernel
theorem od_40_8 : decode jdk_67_method_42_code 8 = .ok (.areturn, 1) := by decide +kernel
theorem od_10_0 : decode jdk_31_method_10_code 0 = .ok (.aload_n 0, 1) := by decide +kernel
theorem od_10_1 : decode jdk_31_method_10_code 1 = .ok (.ifnonnull 11, 3) := by decide +kernel
theorem od_10_12 : decode jdk_31_method_10_code 12 = .ok (.aload_n 0, 1) := by decide +kernel
theorem od_10_13 : decode jdk_31_method_10_code 13 = .ok (.areturn, 1) := by decide +kernel
theorem od_11_0 : decode jdk_32_method_2_code 0 = .ok (.aload_n 0, 1) := by decide +kernel
theorem od_11_1 : decode jdk_32_method_2_code 1 = .ok (.invokespecial 7, 3) := by decide +kernel
theorem od_11_4 : decode jdk_32_method_2_code 4 = .ok (.aload_n 0, 1) := by decide +kernel
theorem od_11_5 : decode jdk_32_method_2_code 5 = .ok (.aload_n 1, 1) := by decide +kernel
theorem od_11_6 : decode jdk_32_method_2_code 6 = .ok (.putfield 13, 3) := by decide +kernel
theorem od_11_9 : decode jdk_32_method_2_code 9 = .ok (.return_, 1) := by decide +kernel
theorem od_9_0 : decode jdk_32_method_3_code 0 = .ok (.new 2, 3) := by decide +kernel
theorem od_9_3 : decode jdk_32_method_3_code 3 = .ok (.dup, 1) := by decide +kernel
theorem od_9_4 : decode jdk_32_method_3_code 4 = .ok (.aload_n 0, 1) := by decide +kernel
theorem od_9_5 : decode jdk_32_method_3_code 5 = .ok (.invokestatic 17, 3) := by decide +kernel
theorem od_9_8 : decode jdk_32_method_3_code 8 = .ok (.invokespecial 23, 3) := by decide +kernel
theorem od_9_11 : decode jdk_32_method_3_code 11 = .ok (.areturn, 1) := by decide +kernel
theorem od_53_0 : decode jdk_32_method_1_code 0 = .ok (.getstatic 1, 3) := by decide +kernel
theorem od_53_3 : decode jdk_32_method_1_code 3 = .ok (.astore_n 0, 1) := by decide +kernel
theorem od_53_4 : decode jdk_32_method_1_code 4 = .ok (.aload_n 0, 1) := by decide +kernel
theorem od_53_5 : decode jdk_32_method_1_code 5 = .ok (.areturn, 1) := by decide +kernel
theorem od_15_0 : decode jdk_32_method_7_code 0 = .ok (.aload_n 0, 1) := by decide +kernel
theorem od_15_1 : decode jdk_32_method_7_code 1 = .ok (.getfield 13, 3) := by decide +kernel
theorem od_15_4 : decode jdk_32_method_7_code 4 = .ok (.ifnonnull 7, 3) := by decide +kernel
theorem od_15_11 : decode jdk_32_method_7_code 11 = .ok (.iconst 0, 1) := by decide +kernel
theorem od_15_12 : decode jdk_32_method_7_code 12 = .ok (.ireturn, 1) := by decide +kernel
theorem od_15_7 : decode jdk_32_method_7_code 7 = .ok (.iconst 1, 1) := by decide +kernel
theorem od_15_8 : decode jdk_32_method_7_code 8 = .ok (.goto 4, 3) := by decide +kernel
theorem od_47_0 : decode jdk_32_method_4_code 0 = .ok (.aload_n 0, 1) := by decide +kernel
theorem od_47_1 : decode jdk_32_method_4_code 1 = .ok (.ifnonnull 9, 3) := by decide +kernel
theorem od_47_10 : decode jdk_32_method_4_code 10 = .ok (.new 2, 3) := by decide +kernel
theorem od_47_13 : decode jdk_32_method_4_code 13 = .ok (.dup, 1) := by decide +kernel
theorem od_47_14 : decode jdk_32_method_4_code 14 = .ok (.aload_n 0, 1) := by decide +kernel
theorem od_47_15 : decode jdk_32_method_4_code 15 = .ok (.invokespecial 23, 3) := by decide +kernel
theorem od_47_18 : decode jdk_32_method_4_code 18 = .ok (.areturn, 1) := by decide +kernel
theorem od_48_0 : decode jdk_32_method_15_code 0 = .ok (.aload_n 0, 1) := by decide +kernel
theorem od_48_1 : decode jdk_32_method_15_code 1 = .ok (.getfield 13, 3) := by decide +kernel
theorem od_48_4 : decode jdk_32_method_15_code 4 = .ok (.ifnull 10, 3) := by decide +kernel
theorem od_48_7 : decode jdk_32_method_15_code 7 = .ok (.aload_n 0, 1) := by decide +kernel
theorem od_48_8 : decode jdk_32_method_15_code 8 = .ok (.getfield 13, 3) := by decide +kernel
theorem od_48_11 : decode jdk_32_method_15_code 11 = .ok (.goto 4, 3) := by decide +kernel
theorem od_48_15 : decode jdk_32_method_15_code 15 = .ok (.areturn, 1) := by decide +kernel
theorem od_48_14 : decode jdk_32_method_15_code 14 = .ok (.aload_n 1, 1) := by decide +kernel
theorem od_24_0 : decode jdk_41_method_12_code 0 = .ok (.iload_n 0, 1) := by decide +kernel
theorem od_24_1 : decode jdk_41_method_12_code 1 = .ok (.ifCond .lt 13, 3) := by decide +kernel
theorem od_24_4 : decode jdk_41_method_12_code 4 = .ok (.iload_n 0, 1) := by decide +kernel
theorem od_24_5 : decode jdk_41_method_12_code 5 = .ok (.iload_n 1, 1) := by decide +kernel
theorem od_24_6 : decode jdk_41_method_12_code 6 = .ok (.if_icmp .gt 8, 3) := by decide +kernel
theorem od_24_9 : decode jdk_41_method_12_code 9 = .ok (.iload_n 1, 1) := by decide +kernel
theorem od_24_10 : decode jdk_41_method_12_code 10 = .ok (.iload_n 2, 1) := by decide +kernel
theorem od_24_11 : decode jdk_41_method_12_code 11 = .ok (.if_icmp .le 11, 3) := by decide +kernel
theorem od_24_22 : decode jdk_41_method_12_code 22 = .ok (.iload_n 0, 1) := by decide +kernel
theorem od_24_23 : decode jdk_41_method_12_code 23 = .ok (.ireturn, 1) := by decide +kernel
theorem od_23_0 : decode jdk_42_method_158_code 0 = .ok (.iload_n 0, 1) := by decide +kernel
theorem od_23_1 : decode jdk_42_method_158_code 1 = .ok (.iload_n 1, 1) := by decide +kernel
theorem od_23_2 : decode jdk_42_method_158_code 2 = .ok (.iload_n 2, 1) := by decide +kernel
theorem od_23_3 : decode jdk_42_method_158_code 3 = .ok (.getstatic 1053, 3) := by decide +kernel
theorem od_23_6 : decode jdk_42_method_158_code 6 = .ok (.invokestatic 1062, 3) := by decide +kernel
theorem od_23_9 : decode jdk_42_method_158_code 9 = .ok (.pop, 1) := by decide +kernel
theorem od_23_10 : decode jdk_42_method_158_code 10 = .ok (.return_, 1) := by decide +kernel
theorem od_31_0 : decode jdk_42_method_151_code 0 = .ok (.aload_n 0, 1) := by decide +kernel
theorem od_31_1 : decode jdk_42_method_151_code 1 = .ok (.invokespecial 1, 3) := by decide +kernel
theorem od_31_4 : decode jdk_42_method_151_code 4 = .ok (.aload_n 0, 1) := by decide +kernel
theorem od_31_5 : decode jdk_42_method_151_code 5 = .ok (.aload_n 1, 1) := by decide +kernel
theorem od_31_6 : decode jdk_42_method_151_code 6 = .ok (.putfield 9, 3) := by decide +kernel
theorem od_31_9 : decode jdk_42_method_151_code 9 = .ok (.aload_n 0, 1) := by decide +kernel
theorem od_31_10 : decode jdk_42_method_151_code 10 = .ok (.iload_n 2, 1) := by decide +kernel
theorem od_31_11 : decode jdk_42_method_151_code 11 = .ok (.putfield 15, 3) := by decide +kernel
theorem od_31_14 : decode jdk_42_method_151_code 14 = .ok (.return_, 1) := by decide +kernel
theorem od_26_0 : decode jdk_43_method_47_code 0 = .ok (.iload_n 2, 1) := by decide +kernel
theorem od_26_1 : decode jdk_43_method_47_code 1 = .ok (.ifCond .ne 6, 3) := by decide +kernel
theorem od_26_7 : decode jdk_43_method_47_code 7 = .ok (.new 1, 3) := by decide +kernel
theorem od_26_10 : decode jdk_43_method_47_code 10 = .ok (.dup, 1) := by decide +kernel
theorem od_26_11 : decode jdk_43_method_47_code 11 = .ok (.aload_n 0, 1) := by decide +kernel
theorem od_26_12 : decode jdk_43_method_47_code 12 = .ok (.iload_n 1, 1) := by decide +kernel
theorem od_26_13 : decode jdk_43_method_47_code 13 = .ok (.iload_n 1, 1) := by decide +kernel
theorem od_26_14 : decode jdk_43_method_47_code 14 = .ok (.iload_n 2, 1) := by decide +kernel
theorem od_26_15 : decode jdk_43_method_47_code 15 = .ok (.iadd, 1) := by decide +kernel
theorem od_26_16 : decode jdk_43_method_47_code 16 = .ok (.invokestatic 232, 3) := by decide +kernel
theorem od_26_19 : decode jdk_43_method_47_code 19 = .ok (.iconst 0, 1) := by decide +kernel
theorem od_26_20 : decode jdk_43_method_47_code 20 = .ok (.invokespecial 112, 3) := by decide +kernel
theorem od_26_23 : decode jdk_43_method_47_code 23 = .ok (.areturn, 1) := by decide +kernel
theorem od_25_0 : decode jdk_42_method_154_code 0 = .ok (.getstatic 38, 3) := by decide +kernel
theorem od_25_3 : decode jdk_42_method_154_code 3 = .ok (.ifCond .eq 14, 3) := by decide +kernel
theorem od_25_6 : decode jdk_42_method_154_code 6 = .ok (.aload_n 0, 1) := by decide +kernel
theorem od_25_7 : decode jdk_42_method_154_code 7 = .ok (.getfield 15, 3) := by decide +kernel
theorem od_25_10 : decode jdk_42_method_154_code 10 = .ok (.ifCond .ne 7, 3) := by decide +kernel
theorem od_25_13 : decode jdk_42_method_154_code 13 = .ok (.iconst 1, 1) := by decide +kernel
theorem od_25_14 : decode jdk_42_method_154_code 14 = .ok (.goto 4, 3) := by decide +kernel
theorem od_25_18 : decode jdk_42_method_154_code 18 = .ok (.ireturn, 1) := by decide +kernel
theorem od_22_0 : decode jdk_42_method_92_code 0 = .ok (.aload_n 0, 1) := by decide +kernel
theorem od_22_1 : decode jdk_42_method_92_code 1 = .ok (.invokevirtual 505, 3) := by decide +kernel
theorem od_22_4 : decode jdk_42_method_92_code 4 = .ok (.istore_n 3, 1) := by decide +kernel
theorem od_22_5 : decode jdk_42_method_92_code 5 = .ok (.iload_n 1, 1) := by decide +kernel
theorem od_22_6 : decode jdk_42_method_92_code 6 = .ok (.iload_n 2, 1) := by decide +kernel
theorem od_22_7 : decode jdk_42_method_92_code 7 = .ok (.iload_n 3, 1) := by decide +kernel
theorem od_22_8 : decode jdk_42_method_92_code 8 = .ok (.invokestatic 521, 3) := by decide +kernel
theorem od_22_11 : decode jdk_42_method_92_code 11 = .ok (.iload_n 1, 1) := by decide +kernel
theorem od_22_12 : decode jdk_42_method_92_code 12 = .ok (.ifCond .ne 10, 3) := by decide +kernel
theorem od_22_15 : decode jdk_42_method_92_code 15 = .ok (.iload_n 2, 1) := by decide +kernel
theorem od_22_16 : decode jdk_42_method_92_code 16 = .ok (.iload_n 3, 1) := by decide +kernel
theorem od_22_17 : decode jdk_42_method_92_code 17 = .ok (.if_icmp .ne 5, 3) := by decide +kernel
theorem od_22_22 : decode jdk_42_method_92_code 22 = .ok (.iload_n 2, 1) := by decide +kernel
theorem od_22_23 : decode jdk_42_method_92_code 23 = .ok (.iload_n 1, 1) := by decide +kernel
theorem od_22_24 : decode jdk_42_method_92_code 24 = .ok (.isub, 1) := by decide +kernel
theorem od_22_25 : decode jdk_42_method_92_code 25 = .ok (.istore 4, 2) := by decide +kernel
theorem od_22_27 : decode jdk_42_method_92_code 27 = .ok (.aload_n 0, 1) := by decide +kernel
theorem od_22_28 : decode jdk_42_method_92_code 28 = .ok (.invokevirtual 492, 3) := by decide +kernel
theorem od_22_31 : decode jdk_42_method_92_code 31 = .ok (.ifCond .eq 16, 3) := by decide +kernel
theorem od_22_34 : decode jdk_42_method_92_code 34 = .ok (.aload_n 0, 1) := by decide +kernel
theorem od_22_35 : decode jdk_42_method_92_code 35 = .ok (.getfield 9, 3) := by decide +kernel
theorem od_22_38 : decode jdk_42_method_92_code 38 = .ok (.iload_n 1, 1) := by decide +kernel
theorem od_22_39 : decode jdk_42_method_92_code 39 = .ok (.iload 4, 2) := by decide +kernel
theorem od_22_41 : decode jdk_42_method_92_code 41 = .ok (.invokestatic 685, 3) := by decide +kernel
theorem od_22_44 : decode jdk_42_method_92_code 44 = .ok (.goto 13, 3) := by decide +kernel
theorem od_22_57 : decode jdk_42_method_92_code 57 = .ok (.areturn, 1) := by decide +kernel
theorem od_19_0 : decode prog_9_method_10_code 0 = .ok (.aload_n 0, 1) := by decide +kernel
theorem od_19_1 : decode prog_9_method_10_code 1 = .ok (.iconst 0, 1) := by decide +kernel
theorem od_19_2 : decode prog_9_method_10_code 2 = .ok (.aload_n 0, 1) := by decide +kernel
theorem od_19_3 : decode prog_9_method_10_code 3 = .ok (.invokevirtual 26, 3) := by decide +kernel
theorem od_19_6 : decode prog_9_method_10_code 6 = .ok (.ldc 32, 2) := by decide +kernel
theorem od_19_8 : decode prog_9_method_10_code 8 = .ok (.invokevirtual 26, 3) := by decide +kernel
theorem od_19_11 : decode prog_9_method_10_code 11 = .ok (.isub, 1) := by decide +kernel
theorem od_19_12 : decode prog_9_method_10_code 12 = .ok (.invokevirtual 157, 3) := by decide +kernel
theorem od_19_15 : decode prog_9_method_10_code 15 = .ok (.areturn, 1) := by decide +kernel
theorem od_38_0 : decode prog_10_method_6_code 0 = .ok (.aload_n 0, 1) := by decide +kernel
theorem od_38_1 : decode prog_10_method_6_code 1 = .ok (.getfield 7, 3) := by decide +kernel
theorem od_38_4 : decode prog_10_method_6_code 4 = .ok (.areturn, 1) := by decide +kernel
theorem od_39_0 : decode prog_10_method_7_code 0 = .ok (.aload_n 0, 1) := by decide +kernel
theorem od_39_1 : decode prog_10_method_7_code 1 = .ok (.getfield 13, 3) := by decide +kernel
theorem od_39_4 : decode prog_10_method_7_code 4 = .ok (.areturn, 1) := by decide +kernel
theorem od_16_0 : decode prog_9_method_19_code 0 = .ok (.new 38, 3) := by decide +kernel
theorem od_16_3 : decode prog_9_method_19_code 3 = .ok (.dup, 1) := by decide +kernel
theorem od_16_4 : decode prog_9_method_19_code 4 = .ok (.invokespecial 40, 3) := by decide +kernel
theorem od_16_7 : decode prog_9_method_19_code 7 = .ok (.aload_n 0, 1) := by decide +kernel
theorem od_16_8 : decode prog_9_method_19_code 8 = .ok (.getfield 13, 3) := by decide +kernel
theorem od_16_11 : decode prog_9_method_19_code 11 = .ok (.invokestatic 76, 3) := by decide +kernel
theorem od_16_14 : decode prog_9_method_19_code 14 = .ok (.invokevirtual 41, 3) := by decide +kernel
theorem od_16_17 : decode prog_9_method_19_code 17 = .ok (.aload_n 1, 1) := by decide +kernel
theorem od_16_18 : decode prog_9_method_19_code 18 = .ok (.invokevirtual 161, 3) := by decide +kernel
theorem od_16_21 : decode prog_9_method_19_code 21 = .ok (.invokevirtual 41, 3) := by decide +kernel
theorem od_16_24 : decode prog_9_method_19_code 24 = .ok (.ldc 45, 2) := by decide +kernel
theorem od_16_26 : decode prog_9_method_19_code 26 = .ok (.invokevirtual 41, 3) := by decide +kernel
theorem od_16_29 : decode prog_9_method_19_code 29 = .ok (.aload_n 1, 1) := by decide +kernel
theorem od_16_30 : decode prog_9_method_19_code 30 = .ok (.invokevirtual 166, 3) := by decide +kernel
theorem od_16_33 : decode prog_9_method_19_code 33 = .ok (.invokevirtual 41, 3) := by decide +kernel
theorem od_16_36 : decode prog_9_method_19_code 36 = .ok (.invokevirtual 47, 3) := by decide +kernel
theorem od_16_39 : decode prog_9_method_19_code 39 = .ok (.areturn, 1) := by decide +kernel
theorem od_14_0 : decode jdk_32_method_11_code 0 = .ok (.aload_n 1, 1) := by decide +kernel
theorem od_14_1 : decode jdk_32_method_11_code 1 = .ok (.invokestatic 17, 3) := by decide +kernel
theorem od_14_4 : decode jdk_32_method_11_code 4 = .ok (.pop, 1) := by decide +kernel
theorem od_14_5 : decode jdk_32_method_11_code 5 = .ok (.aload_n 0, 1) := by decide +kernel
theorem od_14_6 : decode jdk_32_method_11_code 6 = .ok (.invokevirtual 43, 3) := by decide +kernel
theorem od_14_9 : decode jdk_32_method_11_code 9 = .ok (.ifCond .eq 7, 3) := by decide +kernel
theorem od_14_16 : decode jdk_32_method_11_code 16 = .ok (.aload_n 1, 1) := by decide +kernel
theorem od_14_17 : decode jdk_32_method_11_code 17 = .ok (.aload_n 0, 1) := by decide +kernel
theorem od_14_18 : decode jdk_32_method_11_code 18 = .ok (.getfield 13, 3) := by decide +kernel
theorem od_14_21 : decode jdk_32_method_11_code 21 = .ok (.invokeinterface 57 2, 5) := by decide +kernel
theorem od_14_26 : decode jdk_32_method_11_code 26 = .ok (.invokestatic 62, 3) := by decide +kernel
theorem od_14_29 : decode jdk_32_method_11_code 29 = .ok (.areturn, 1) := by decide +kernel
theorem od_14_12 : decode jdk_32_method_11_code 12 = .ok (.invokestatic 53, 3) := by decide +kernel
theorem od_14_15 : decode jdk_32_method_11_code 15 = .ok (.areturn, 1) := by decide +kernel
theorem od_13_0 : decode prog_9_method_6_code 0 = .ok (.aload_n 0, 1) := by decide +kernel
theorem od_13_1 : decode prog_9_method_6_code 1 = .ok (.getfield 16, 3) := by decide +kernel
theorem od_13_4 : decode prog_9_method_6_code 4 = .ok (.aload_n 0, 1) := by decide +kernel
theorem od_13_5 : decode prog_9_method_6_code 5 = .ok (.invokedynamic 118, 5) := by decide +kernel
theorem od_13_10 : decode prog_9_method_6_code 10 = .ok (.invokevirtual 67, 3) := by decide +kernel
theorem od_13_13 : decode prog_9_method_6_code 13 = .ok (.aload_n 0, 1) := by decide +kernel
theorem od_13_14 : decode prog_9_method_6_code 14 = .ok (.getfield 13, 3) := by decide +kernel
theorem od_13_17 : decode prog_9_method_6_code 17 = .ok (.invokevirtual 121, 3) := by decide +kernel
theorem od_13_20 : decode prog_9_method_6_code 20 = .ok (.checkcast 27, 3) := by decide +kernel
theorem od_13_23 : decode prog_9_method_6_code 23 = .ok (.areturn, 1) := by decide +kernel
theorem od_8_0 : decode jdk_30_method_1_code 0 = .ok (.aload_n 0, 1) := by decide +kernel
theorem od_8_1 : decode jdk_30_method_1_code 1 = .ok (.invokespecial 1, 3) := by decide +kernel
theorem od_8_4 : decode jdk_30_method_1_code 4 = .ok (.return_, 1) := by decide +kernel
theorem od_7_0 : decode prog_10_method_1_code 0 = .ok (.aload_n 0, 1) := by decide +kernel
theorem od_7_1 : decode prog_10_method_1_code 1 = .ok (.invokespecial 1, 3) := by decide +kernel
theorem od_7_4 : decode prog_10_method_1_code 4 = .ok (.aload_n 0, 1) := by decide +kernel
theorem od_7_5 : decode prog_10_method_1_code 5 = .ok (.aload_n 1, 1) := by decide +kernel
theorem od_7_6 : decode prog_10_method_1_code 6 = .ok (.putfield 7, 3) := by decide +kernel
theorem od_7_9 : decode prog_10_method_1_code 9 = .ok (.aload_n 0, 1) := by decide +kernel
theorem od_7_10 : decode prog_10_method_1_code 10 = .ok (.aload_n 2, 1) := by decide +kernel
theorem od_7_11 : decode prog_10_method_1_code 11 = .ok (.putfield 13, 3) := by decide +kernel
theorem od_7_14 : decode prog_10_method_1_code 14 = .ok (.return_, 1) := by decide +kernel
theorem od_12_0 : decode prog_9_method_1_code 0 = .ok (.aload_n 0, 1) := by decide +kernel
theorem od_12_1 : decode prog_9_method_1_code 1 = .ok (.invokespecial 1, 3) := by decide +kernel
theorem od_12_4 : decode prog_9_method_1_code 4 = .ok (.aload_n 0, 1) := by decide +kernel
theorem od_12_5 : decode prog_9_method_1_code 5 = .ok (.aload_n 1, 1) := by decide +kernel
theorem od_12_6 : decode prog_9_method_1_code 6 = .ok (.putfield 7, 3) := by decide +kernel
theorem od_12_9 : decode prog_9_method_1_code 9 = .ok (.aload_n 0, 1) := by decide +kernel
theorem od_12_10 : decode prog_9_method_1_code 10 = .ok (.aload_n 2, 1) := by decide +kernel
theorem od_12_11 : decode prog_9_method_1_code 11 = .ok (.putfield 13, 3) := by decide +kernel
theorem od_12_14 : decode prog_9_method_1_code 14 = .ok (.aload_n 0, 1) := by decide +kernel
theorem od_12_15 : decode prog_9_method_1_code 15 = .ok (.aload_n 3, 1) := by decide +kernel
theorem od_12_16 : decode prog_9_method_1_code 16 = .ok (.putfield 16, 3) := by decide +kernel
theorem od_12_19 : decode prog_9_method_1_code 19 = .ok (.aload_n 0, 1) := by decide +kernel
theorem od_12_20 : decode prog_9_method_1_code 20 = .ok (.aload 4, 2) := by decide +kernel
theorem od_12_22 : decode prog_9_method_1_code 22 = .ok (.putfield 20, 3) := by decide +kernel
theorem od_12_25 : decode prog_9_method_1_code 25 = .ok (.aload_n 0, 1) := by decide +kernel
theorem od_12_26 : decode prog_9_method_1_code 26 = .ok (.aload 5, 2) := by decide +kernel
theorem od_12_28 : decode prog_9_method_1_code 28 = .ok (.putfield 23, 3) := by decide +kernel
theorem od_12_31 : decode prog_9_method_1_code 31 = .ok (.return_, 1) := by decide +kernel
theorem od_54_0 : decode jdk_42_method_66_code 0 = .ok (.aload_n 0, 1) := by decide +kernel
theorem od_54_1 : decode jdk_42_method_66_code 1 = .ok (.aload_n 1, 1) := by decide +kernel
theorem od_54_2 : decode jdk_42_method_66_code 2 = .ok (.if_acmp .ne 5, 3) := by decide +kernel
theorem od_54_5 : decode jdk_42_method_66_code 5 = .ok (.iconst 1, 1) := by decide +kernel
theorem od_54_6 : decode jdk_42_method_66_code 6 = .ok (.ireturn, 1) := by decide +kernel
theorem od_0_0 : decode code 0 = .ok (.iload_n 0, 1) := by decide +kernel
theorem od_0_1 : decode code 1 = .ok (.sipush 255, 3) := by decide +kernel
theorem od_0_4 : decode code 4 = .ok (.iand, 1) := by decide +kernel
theorem od_0_5 : decode code 5 = .ok (.i2c, 1) := by decide +kernel
theorem od_0_6 : decode code 6 = .ok (.istore 4, 2) := by decide +kernel
theorem od_0_8 : decode code 8 = .ok (.iload_n 0, 1) := by decide +kernel
theorem od_0_9 : decode code 9 = .ok (.bipush 8, 2) := by decide +kernel
theorem od_0_11 : decode code 11 = .ok (.iushr, 1) := by decide +kernel
theorem od_0_12 : decode code 12 = .ok (.sipush 255, 3) := by decide +kernel
theorem od_0_15 : decode code 15 = .ok (.iand, 1) := by decide +kernel
theorem od_0_16 : decode code 16 = .ok (.i2c, 1) := by decide +kernel
theorem od_0_17 : decode code 17 = .ok (.istore 5, 2) := by decide +kernel
theorem od_0_19 : decode code 19 = .ok (.iload_n 1, 1) := by decide +kernel
theorem od_0_20 : decode code 20 = .ok (.sipush 255, 3) := by decide +kernel
theorem od_0_23 : decode code 23 = .ok (.iand, 1) := by decide +kernel
theorem od_0_24 : decode code 24 = .ok (.i2c, 1) := by decide +kernel
theorem od_0_25 : decode code 25 = .ok (.istore 6, 2) := by decide +kernel
theorem od_0_27 : decode code 27 = .ok (.iload_n 1, 1) := by decide +kernel
theorem od_0_28 : decode code 28 = .ok (.bipush 8, 2) := by decide +kernel
theorem od_0_30 : decode code 30 = .ok (.iushr, 1) := by decide +kernel
theorem od_0_31 : decode code 31 = .ok (.sipush 255, 3) := by decide +kernel
theorem od_0_34 : decode code 34 = .ok (.iand, 1) := by decide +kernel
theorem od_0_35 : decode code 35 = .ok (.i2c, 1) := by decide +kernel
theorem od_0_36 : decode code 36 = .ok (.istore 7, 2) := by decide +kernel
theorem od_0_38 : decode code 38 = .ok (.iload_n 2, 1) := by decide +kernel
theorem od_0_39 : decode code 39 = .ok (.sipush 255, 3) := by decide +kernel
theorem od_0_42 : decode code 42 = .ok (.iand, 1) := by decide +kernel
theorem od_0_43 : decode code 43 = .ok (.i2c, 1) := by decide +kernel
theorem od_0_44 : decode code 44 = .ok (.istore 8, 2) := by decide +kernel
theorem od_0_46 : decode code 46 = .ok (.iload_n 2, 1) := by decide +kernel
theorem od_0_47 : decode code 47 = .ok (.bipush 8, 2) := by decide +kernel
theorem od_0_49 : decode code 49 = .ok (.iushr, 1) := by decide +kernel
theorem od_0_50 : decode code 50 = .ok (.sipush 255, 3) := by decide +kernel
theorem od_0_53 : decode code 53 = .ok (.iand, 1) := by decide +kernel
theorem od_0_54 : decode code 54 = .ok (.i2c, 1) := by decide +kernel
theorem od_0_55 : decode code 55 = .ok (.istore 9, 2) := by decide +kernel
theorem od_0_57 : decode code 57 = .ok (.iload_n 3, 1) := by decide +kernel
theorem od_0_58 : decode code 58 = .ok (.iconst 1, 1) := by decide +kernel
theorem od_0_59 : decode code 59 = .ok (.iand, 1) := by decide +kernel
theorem od_0_60 : decode code 60 = .ok (.ifCond .eq 7, 3) := by decide +kernel
theorem od_0_67 : decode code 67 = .ok (.iconst 0, 1) := by decide +kernel
theorem od_0_63 : decode code 63 = .ok (.iconst 1, 1) := by decide +kernel
theorem od_0_64 : decode code 64 = .ok (.goto 4, 3) := by decide +kernel
theorem od_0_68 : decode code 68 = .ok (.istore 10, 2) := by decide +kernel
theorem od_0_70 : decode code 70 = .ok (.iload_n 3, 1) := by decide +kernel
theorem od_0_71 : decode code 71 = .ok (.iconst 2, 1) := by decide +kernel
theorem od_0_72 : decode code 72 = .ok (.iand, 1) := by decide +kernel
theorem od_0_73 : decode code 73 = .ok (.ifCond .eq 7, 3) := by decide +kernel
theorem od_0_80 : decode code 80 = .ok (.iconst 0, 1) := by decide +kernel
theorem od_0_76 : decode code 76 = .ok (.iconst 1, 1) := by decide +kernel
theorem od_0_77 : decode code 77 = .ok (.goto 4, 3) := by decide +kernel
theorem od_0_81 : decode code 81 = .ok (.istore 11, 2) := by decide +kernel
theorem od_0_83 : decode code 83 = .ok (.iload_n 3, 1) := by decide +kernel
theorem od_0_84 : decode code 84 = .ok (.iconst 4, 1) := by decide +kernel
theorem od_0_85 : decode code 85 = .ok (.iand, 1) := by decide +kernel
theorem od_0_86 : decode code 86 = .ok (.ifCond .eq 7, 3) := by decide +kernel
theorem od_0_93 : decode code 93 = .ok (.iconst 0, 1) := by decide +kernel
theorem od_0_89 : decode code 89 = .ok (.iconst 1, 1) := by decide +kernel
theorem od_0_90 : decode code 90 = .ok (.goto 4, 3) := by decide +kernel
theorem od_0_94 : decode code 94 = .ok (.istore 12, 2) := by decide +kernel
theorem od_0_96 : decode code 96 = .ok (.iload 11, 2) := by decide +kernel
theorem od_0_98 : decode code 98 = .ok (.ifCond .eq 8, 3) := by decide +kernel
theorem od_0_106 : decode code 106 = .ok (.iconst 0, 1) := by decide +kernel
theorem od_0_101 : decode code 101 = .ok (.bipush 32, 2) := by decide +kernel
theorem od_0_103 : decode code 103 = .ok (.goto 4, 3) := by decide +kernel
theorem od_0_107 : decode code 107 = .ok (.istore 13, 2) := by decide +kernel
theorem od_0_109 : decode code 109 = .ok (.bipush 10, 2) := by decide +kernel
theorem od_0_111 : decode code 111 = .ok (.newarray .char, 2) := by decide +kernel
theorem od_0_113 : decode code 113 = .ok (.dup, 1) := by decide +kernel
theorem od_0_114 : decode code 114 = .ok (.iconst 0, 1) := by decide +kernel
theorem od_0_115 : decode code 115 = .ok (.iload 4, 2) := by decide +kernel
theorem od_0_117 : decode code 117 = .ok (.castore, 1) := by decide +kernel
theorem od_0_118 : decode code 118 = .ok (.dup, 1) := by decide +kernel
theorem od_0_119 : decode code 119 = .ok (.iconst 1, 1) := by decide +kernel
theorem od_0_120 : decode code 120 = .ok (.iload 5, 2) := by decide +kernel
theorem od_0_122 : decode code 122 = .ok (.castore, 1) := by decide +kernel
theorem od_0_123 : decode code 123 = .ok (.dup, 1) := by decide +kernel
theorem od_0_124 : decode code 124 = .ok (.iconst 2, 1) := by decide +kernel
theorem od_0_125 : decode code 125 = .ok (.bipush 83, 2) := by decide +kernel
theorem od_0_127 : decode code 127 = .ok (.iload 13, 2) := by decide +kernel
theorem od_0_129 : decode code 129 = .ok (.iadd, 1) := by decide +kernel
theorem od_0_130 : decode code 130 = .ok (.i2c, 1) := by decide +kernel
theorem od_0_131 : decode code 131 = .ok (.castore, 1) := by decide +kernel
theorem od_0_132 : decode code 132 = .ok (.dup, 1) := by decide +kernel
theorem od_0_133 : decode code 133 = .ok (.iconst 3, 1) := by decide +kernel
theorem od_0_134 : decode code 134 = .ok (.bipush 78, 2) := by decide +kernel
theorem od_0_136 : decode code 136 = .ok (.iload 13, 2) := by decide +kernel
theorem od_0_138 : decode code 138 = .ok (.iadd, 1) := by decide +kernel
theorem od_0_139 : decode code 139 = .ok (.i2c, 1) := by decide +kernel
theorem od_0_140 : decode code 140 = .ok (.castore, 1) := by decide +kernel
theorem od_0_141 : decode code 141 = .ok (.dup, 1) := by decide +kernel
theorem od_0_142 : decode code 142 = .ok (.iconst 4, 1) := by decide +kernel
theorem od_0_143 : decode code 143 = .ok (.bipush 65, 2) := by decide +kernel
theorem od_0_145 : decode code 145 = .ok (.iload 13, 2) := by decide +kernel
theorem od_0_147 : decode code 147 = .ok (.iadd, 1) := by decide +kernel
theorem od_0_148 : decode code 148 = .ok (.i2c, 1) := by decide +kernel
theorem od_0_149 : decode code 149 = .ok (.castore, 1) := by decide +kernel
theorem od_0_150 : decode code 150 = .ok (.dup, 1) := by decide +kernel
theorem od_0_151 : decode code 151 = .ok (.iconst 5, 1) := by decide +kernel
theorem od_0_152 : decode code 152 = .ok (.bipush 80, 2) := by decide +kernel
theorem od_0_154 : decode code 154 = .ok (.iload 13, 2) := by decide +kernel
theorem od_0_156 : decode code 156 = .ok (.iadd, 1) := by decide +kernel
theorem od_0_157 : decode code 157 = .ok (.i2c, 1) := by decide +kernel
theorem od_0_158 : decode code 158 = .ok (.castore, 1) := by decide +kernel
theorem od_0_159 : decode code 159 = .ok (.dup, 1) := by decide +kernel
theorem od_0_160 : decode code 160 = .ok (.bipush 6, 2) := by decide +kernel
theorem od_0_162 : decode code 162 = .ok (.bipush 83, 2) := by decide +kernel
theorem od_0_164 : decode code 164 = .ok (.iload 13, 2) := by decide +kernel
theorem od_0_166 : decode code 166 = .ok (.iadd, 1) := by decide +kernel
theorem od_0_167 : decode code 167 = .ok (.i2c, 1) := by decide +kernel
theorem od_0_168 : decode code 168 = .ok (.castore, 1) := by decide +kernel
theorem od_0_169 : decode code 169 = .ok (.dup, 1) := by decide +kernel
theorem od_0_170 : decode code 170 = .ok (.bipush 7, 2) := by decide +kernel
theorem od_0_172 : decode code 172 = .ok (.bipush 72, 2) := by decide +kernel
theorem od_0_174 : decode code 174 = .ok (.iload 13, 2) := by decide +kernel
theorem od_0_176 : decode code 176 = .ok (.iadd, 1) := by decide +kernel
theorem od_0_177 : decode code 177 = .ok (.i2c, 1) := by decide +kernel
theorem od_0_178 : decode code 178 = .ok (.castore, 1) := by decide +kernel
theorem od_0_179 : decode code 179 = .ok (.dup, 1) := by decide +kernel
theorem od_0_180 : decode code 180 = .ok (.bipush 8, 2) := by decide +kernel
theorem od_0_182 : decode code 182 = .ok (.bipush 79, 2) := by decide +kernel
theorem od_0_184 : decode code 184 = .ok (.iload 13, 2) := by decide +kernel
theorem od_0_186 : decode code 186 = .ok (.iadd, 1) := by decide +kernel
theorem od_0_187 : decode code 187 = .ok (.i2c, 1) := by decide +kernel
theorem od_0_188 : decode code 188 = .ok (.castore, 1) := by decide +kernel
theorem od_0_189 : decode code 189 = .ok (.dup, 1) := by decide +kernel
theorem od_0_190 : decode code 190 = .ok (.bipush 9, 2) := by decide +kernel
theorem od_0_192 : decode code 192 = .ok (.bipush 84, 2) := by decide +kernel
theorem od_0_194 : decode code 194 = .ok (.iload 13, 2) := by decide +kernel
theorem od_0_196 : decode code 196 = .ok (.iadd, 1) := by decide +kernel
theorem od_0_197 : decode code 197 = .ok (.i2c, 1) := by decide +kernel
theorem od_0_198 : decode code 198 = .ok (.castore, 1) := by decide +kernel
theorem od_0_199 : decode code 199 = .ok (.astore 14, 2) := by decide +kernel
theorem od_0_201 : decode code 201 = .ok (.bipush 6, 2) := by decide +kernel
theorem od_0_203 : decode code 203 = .ok (.newarray .char, 2) := by decide +kernel
theorem od_0_205 : decode code 205 = .ok (.dup, 1) := by decide +kernel
theorem od_0_206 : decode code 206 = .ok (.iconst 0, 1) := by decide +kernel
theorem od_0_207 : decode code 207 = .ok (.iload 4, 2) := by decide +kernel
theorem od_0_209 : decode code 209 = .ok (.castore, 1) := by decide +kernel
theorem od_0_210 : decode code 210 = .ok (.dup, 1) := by decide +kernel
theorem od_0_211 : decode code 211 = .ok (.iconst 1, 1) := by decide +kernel
theorem od_0_212 : decode code 212 = .ok (.iload 5, 2) := by decide +kernel
theorem od_0_214 : decode code 214 = .ok (.castore, 1) := by decide +kernel
theorem od_0_215 : decode code 215 = .ok (.dup, 1) := by decide +kernel
theorem od_0_216 : decode code 216 = .ok (.iconst 2, 1) := by decide +kernel
theorem od_0_217 : decode code 217 = .ok (.iload 6, 2) := by decide +kernel
theorem od_0_219 : decode code 219 = .ok (.castore, 1) := by decide +kernel
theorem od_0_220 : decode code 220 = .ok (.dup, 1) := by decide +kernel
theorem od_0_221 : decode code 221 = .ok (.iconst 3, 1) := by decide +kernel
theorem od_0_222 : decode code 222 = .ok (.iload 7, 2) := by decide +kernel
theorem od_0_224 : decode code 224 = .ok (.castore, 1) := by decide +kernel
theorem od_0_225 : decode code 225 = .ok (.dup, 1) := by decide +kernel
theorem od_0_226 : decode code 226 = .ok (.iconst 4, 1) := by decide +kernel
theorem od_0_227 : decode code 227 = .ok (.iload 8, 2) := by decide +kernel
theorem od_0_229 : decode code 229 = .ok (.castore, 1) := by decide +kernel
theorem od_0_230 : decode code 230 = .ok (.dup, 1) := by decide +kernel
theorem od_0_231 : decode code 231 = .ok (.iconst 5, 1) := by decide +kernel
theorem od_0_232 : decode code 232 = .ok (.iload 9, 2) := by decide +kernel
theorem od_0_234 : decode code 234 = .ok (.castore, 1) := by decide +kernel
theorem od_0_235 : decode code 235 = .ok (.astore 15, 2) := by decide +kernel
theorem od_0_237 : decode code 237 = .ok (.iload 10, 2) := by decide +kernel
theorem od_0_239 : decode code 239 = .ok (.ifCond .eq 190, 3) := by decide +kernel
theorem od_0_429 : decode code 429 = .ok (.iload 12, 2) := by decide +kernel
theorem od_0_431 : decode code 431 = .ok (.ifCond .eq 15, 3) := by decide +kernel
theorem od_0_446 : decode code 446 = .ok (.new 7, 3) := by decide +kernel
theorem od_0_449 : decode code 449 = .ok (.dup, 1) := by decide +kernel
theorem od_0_450 : decode code 450 = .ok (.aload 15, 2) := by decide +kernel
theorem od_0_452 : decode code 452 = .ok (.invokespecial 9, 3) := by decide +kernel
theorem od_0_455 : decode code 455 = .ok (.astore 16, 2) := by decide +kernel
theorem od_0_457 : decode code 457 = .ok (.new 12, 3) := by decide +kernel
theorem od_0_460 : decode code 460 = .ok (.dup, 1) := by decide +kernel
theorem od_0_461 : decode code 461 = .ok (.ldc 14, 2) := by decide +kernel
theorem od_0_463 : decode code 463 = .ok (.aload 16, 2) := by decide +kernel
theorem od_0_465 : decode code 465 = .ok (.invokestatic 46, 3) := by decide +kernel
theorem od_0_468 : decode code 468 = .ok (.ldc 27, 2) := by decide +kernel
theorem od_0_470 : decode code 470 = .ok (.ldc 29, 2) := by decide +kernel
theorem od_0_472 : decode code 472 = .ok (.invokespecial 31, 3) := by decide +kernel
theorem od_0_475 : decode code 475 = .ok (.astore 17, 2) := by decide +kernel
theorem od_0_477 : decode code 477 = .ok (.aload 17, 2) := by decide +kernel
theorem od_0_479 : decode code 479 = .ok (.invokevirtual 34, 3) := by decide +kernel
theorem od_0_482 : decode code 482 = .ok (.aload 16, 2) := by decide +kernel
theorem od_0_484 : decode code 484 = .ok (.invokevirtual 50, 3) := by decide +kernel
theorem od_0_487 : decode code 487 = .ok (.ireturn, 1) := by decide +kernel
theorem od_0_434 : decode code 434 = .ok (.new 7, 3) := by decide +kernel
theorem od_0_437 : decode code 437 = .ok (.dup, 1) := by decide +kernel
theorem od_0_438 : decode code 438 = .ok (.aload 14, 2) := by decide +kernel
theorem od_0_440 : decode code 440 = .ok (.invokespecial 9, 3) := by decide +kernel
theorem od_0_443 : decode code 443 = .ok (.goto 12, 3) := by decide +kernel
theorem od_0_242 : decode code 242 = .ok (.new 7, 3) := by decide +kernel
theorem od_0_245 : decode code 245 = .ok (.dup, 1) := by decide +kernel
theorem od_0_246 : decode code 246 = .ok (.aload 14, 2) := by decide +kernel
theorem od_0_248 : decode code 248 = .ok (.invokespecial 9, 3) := by decide +kernel
theorem od_0_251 : decode code 251 = .ok (.astore 16, 2) := by decide +kernel
theorem od_0_253 : decode code 253 = .ok (.new 7, 3) := by decide +kernel
theorem od_0_256 : decode code 256 = .ok (.dup, 1) := by decide +kernel
theorem od_0_257 : decode code 257 = .ok (.iconst 2, 1) := by decide +kernel
theorem od_0_258 : decode code 258 = .ok (.newarray .char, 2) := by decide +kernel
theorem od_0_260 : decode code 260 = .ok (.dup, 1) := by decide +kernel
theorem od_0_261 : decode code 261 = .ok (.iconst 0, 1) := by decide +kernel
theorem od_0_262 : decode code 262 = .ok (.iload 6, 2) := by decide +kernel
theorem od_0_264 : decode code 264 = .ok (.castore, 1) := by decide +kernel
theorem od_0_265 : decode code 265 = .ok (.dup, 1) := by decide +kernel
theorem od_0_266 : decode code 266 = .ok (.iconst 1, 1) := by decide +kernel
theorem od_0_267 : decode code 267 = .ok (.iload 7, 2) := by decide +kernel
theorem od_0_269 : decode code 269 = .ok (.castore, 1) := by decide +kernel
theorem od_0_270 : decode code 270 = .ok (.invokespecial 9, 3) := by decide +kernel
theorem od_0_273 : decode code 273 = .ok (.astore 17, 2) := by decide +kernel
theorem od_0_275 : decode code 275 = .ok (.new 7, 3) := by decide +kernel
theorem od_0_278 : decode code 278 = .ok (.dup, 1) := by decide +kernel
theorem od_0_279 : decode code 279 = .ok (.iconst 2, 1) := by decide +kernel
theorem od_0_280 : decode code 280 = .ok (.newarray .char, 2) := by decide +kernel
theorem od_0_282 : decode code 282 = .ok (.dup, 1) := by decide +kernel
theorem od_0_283 : decode code 283 = .ok (.iconst 0, 1) := by decide +kernel
theorem od_0_284 : decode code 284 = .ok (.iload 8, 2) := by decide +kernel
theorem od_0_286 : decode code 286 = .ok (.castore, 1) := by decide +kernel
theorem od_0_287 : decode code 287 = .ok (.dup, 1) := by decide +kernel
theorem od_0_288 : decode code 288 = .ok (.iconst 1, 1) := by decide +kernel
theorem od_0_289 : decode code 289 = .ok (.iload 9, 2) := by decide +kernel
theorem od_0_291 : decode code 291 = .ok (.castore, 1) := by decide +kernel
theorem od_0_292 : decode code 292 = .ok (.invokespecial 9, 3) := by decide +kernel
theorem od_0_295 : decode code 295 = .ok (.astore 18, 2) := by decide +kernel
theorem od_0_297 : decode code 297 = .ok (.new 12, 3) := by decide +kernel
theorem od_0_300 : decode code 300 = .ok (.dup, 1) := by decide +kernel
theorem od_0_301 : decode code 301 = .ok (.ldc 14, 2) := by decide +kernel
theorem od_0_303 : decode code 303 = .ok (.aload 16, 2) := by decide +kernel
theorem od_0_305 : decode code 305 = .ok (.new 16, 3) := by decide +kernel
theorem od_0_308 : decode code 308 = .ok (.dup, 1) := by decide +kernel
theorem od_0_309 : decode code 309 = .ok (.aload 17, 2) := by decide +kernel
theorem od_0_311 : decode code 311 = .ok (.aload 18, 2) := by decide +kernel
theorem od_0_313 : decode code 313 = .ok (.invokespecial 18, 3) := by decide +kernel
theorem od_0_316 : decode code 316 = .ok (.invokestatic 21, 3) := by decide +kernel
theorem od_0_319 : decode code 319 = .ok (.ldc 27, 2) := by decide +kernel
theorem od_0_321 : decode code 321 = .ok (.ldc 29, 2) := by decide +kernel
theorem od_0_323 : decode code 323 = .ok (.invokespecial 31, 3) := by decide +kernel
theorem od_0_326 : decode code 326 = .ok (.astore 19, 2) := by decide +kernel
theorem od_0_328 : decode code 328 = .ok (.aload 19, 2) := by decide +kernel
theorem od_0_330 : decode code 330 = .ok (.invokevirtual 34, 3) := by decide +kernel
theorem od_0_333 : decode code 333 = .ok (.astore 20, 2) := by decide +kernel
theorem od_0_335 : decode code 335 = .ok (.aload 20, 2) := by decide +kernel
theorem od_0_337 : decode code 337 = .ok (.invokevirtual 38, 3) := by decide +kernel
theorem od_0_340 : decode code 340 = .ok (.bipush 7, 2) := by decide +kernel
theorem od_0_342 : decode code 342 = .ok (.if_icmp .ne 85, 3) := by decide +kernel
theorem od_0_345 : decode code 345 = .ok (.aload 20, 2) := by decide +kernel
theorem od_0_347 : decode code 347 = .ok (.iconst 0, 1) := by decide +kernel
theorem od_0_348 : decode code 348 = .ok (.invokevirtual 42, 3) := by decide +kernel
theorem od_0_351 : decode code 351 = .ok (.iload 4, 2) := by decide +kernel
theorem od_0_353 : decode code 353 = .ok (.if_icmp .ne 74, 3) := by decide +kernel
theorem od_0_356 : decode code 356 = .ok (.aload 20, 2) := by decide +kernel
theorem od_0_358 : decode code 358 = .ok (.iconst 1, 1) := by decide +kernel
theorem od_0_359 : decode code 359 = .ok (.invokevirtual 42, 3) := by decide +kernel
theorem od_0_362 : decode code 362 = .ok (.iload 5, 2) := by decide +kernel
theorem od_0_364 : decode code 364 = .ok (.if_icmp .ne 63, 3) := by decide +kernel
theorem od_0_367 : decode code 367 = .ok (.aload 20, 2) := by decide +kernel
theorem od_0_369 : decode code 369 = .ok (.iconst 2, 1) := by decide +kernel
theorem od_0_370 : decode code 370 = .ok (.invokevirtual 42, 3) := by decide +kernel
theorem od_0_373 : decode code 373 = .ok (.iload 6, 2) := by decide +kernel
theorem od_0_375 : decode code 375 = .ok (.if_icmp .ne 52, 3) := by decide +kernel
theorem od_0_378 : decode code 378 = .ok (.aload 20, 2) := by decide +kernel
theorem od_0_380 : decode code 380 = .ok (.iconst 3, 1) := by decide +kernel
theorem od_0_381 : decode code 381 = .ok (.invokevirtual 42, 3) := by decide +kernel
theorem od_0_384 : decode code 384 = .ok (.iload 7, 2) := by decide +kernel
theorem od_0_386 : decode code 386 = .ok (.if_icmp .ne 41, 3) := by decide +kernel
theorem od_0_389 : decode code 389 = .ok (.aload 20, 2) := by decide +kernel
theorem od_0_391 : decode code 391 = .ok (.iconst 4, 1) := by decide +kernel
theorem od_0_392 : decode code 392 = .ok (.invokevirtual 42, 3) := by decide +kernel
theorem od_0_395 : decode code 395 = .ok (.bipush 45, 2) := by decide +kernel
theorem od_0_397 : decode code 397 = .ok (.if_icmp .ne 30, 3) := by decide +kernel
theorem od_0_400 : decode code 400 = .ok (.aload 20, 2) := by decide +kernel
theorem od_0_402 : decode code 402 = .ok (.iconst 5, 1) := by decide +kernel
theorem od_0_403 : decode code 403 = .ok (.invokevirtual 42, 3) := by decide +kernel
theorem od_0_406 : decode code 406 = .ok (.iload 8, 2) := by decide +kernel
theorem od_0_408 : decode code 408 = .ok (.if_icmp .ne 19, 3) := by decide +kernel
theorem od_0_411 : decode code 411 = .ok (.aload 20, 2) := by decide +kernel
theorem od_0_413 : decode code 413 = .ok (.bipush 6, 2) := by decide +kernel
theorem od_0_415 : decode code 415 = .ok (.invokevirtual 42, 3) := by decide +kernel
theorem od_0_418 : decode code 418 = .ok (.iload 9, 2) := by decide +kernel
theorem od_0_420 : decode code 420 = .ok (.if_icmp .ne 7, 3) := by decide +kernel
theorem od_0_423 : decode code 423 = .ok (.iconst 1, 1) := by decide +kernel
theorem od_0_424 : decode code 424 = .ok (.goto 4, 3) := by decide +kernel
theorem od_0_428 : decode code 428 = .ok (.ireturn, 1) := by decide +kernel
theorem opd_0 : parseMethodDescriptor "()B" = some ⟨[], some .byte⟩ := by decide +kernel
theorem opd_1 : parseMethodDescriptor "(Ljava/lang/String;)V" = some ⟨[(.object "java/lang/String")], none⟩ := by decide +kernel
theorem opd_2 : parseMethodDescriptor "([BIB)V" = some ⟨[(.array .byte), .int, .byte], none⟩ := by decide +kernel
theorem opd_3 : parseMethodDescriptor "()I" = some ⟨[], some .int⟩ := by decide +kernel
theorem opd_4 : parseMethodDescriptor "(I)V" = some ⟨[.int], none⟩ := by decide +kernel
theorem opd_5 : parseMethodDescriptor "(ILjava/lang/String;)V" = some ⟨[.int, (.object "java/lang/String")], none⟩ := by decide +kernel
theorem opd_6 : parseMethodDescriptor "(Ljava/lang/String;)Ljava/lang/AbstractStringBuilder;" = some ⟨[(.object "java/lang/String")], some (.object "java/lang/AbstractStringBuilder")⟩ := by decide +kernel
theorem opd_7 : parseMethodDescriptor "(II)V" = some ⟨[.int, .int], none⟩ := by decide +kernel
theorem opd_8 : parseMethodDescriptor "(II)I" = some ⟨[.int, .int], some .int⟩ := by decide +kernel
theorem opd_9 : parseMethodDescriptor "([BII)[B" = some ⟨[(.array .byte), .int, .int], some (.array .byte)⟩ := by decide +kernel
theorem opd_10 : parseMethodDescriptor "()[B" = some ⟨[], some (.array .byte)⟩ := by decide +kernel
theorem opd_11 : parseMethodDescriptor "()Z" = some ⟨[], some .boolean⟩ := by decide +kernel
theorem opd_12 : parseMethodDescriptor "(Ljava/lang/AbstractStringBuilder;Ljava/lang/Void;)V" = some ⟨[(.object "java/lang/AbstractStringBuilder"), (.object "java/lang/Void")], none⟩ := by decide +kernel
theorem opd_13 : parseMethodDescriptor "(Ljava/lang/StringBuilder;)V" = some ⟨[(.object "java/lang/StringBuilder")], none⟩ := by decide +kernel
theorem opd_14 : parseMethodDescriptor "(Ljava/lang/Object;)Ljava/lang/Object;" = some ⟨[(.object "java/lang/Object")], some (.object "java/lang/Object")⟩ := by decide +kernel
theorem opd_15 : parseMethodDescriptor "(Ljava/lang/Object;)V" = some ⟨[(.object "java/lang/Object")], none⟩ := by decide +kernel
theorem opd_16 : parseMethodDescriptor "(IIILjava/util/function/BiFunction;)I" = some ⟨[.int, .int, .int, (.object "java/util/function/BiFunction")], some .int⟩ := by decide +kernel
theorem opd_17 : parseMethodDescriptor "([BB)V" = some ⟨[(.array .byte), .byte], none⟩ := by decide +kernel
theorem opd_18 : parseMethodDescriptor "(III)V" = some ⟨[.int, .int, .int], none⟩ := by decide +kernel
theorem opd_19 : parseMethodDescriptor "([BII)Ljava/lang/String;" = some ⟨[(.array .byte), .int, .int], some (.object "java/lang/String")⟩ := by decide +kernel
theorem opd_20 : parseMethodDescriptor "(II)Ljava/lang/String;" = some ⟨[.int, .int], some (.object "java/lang/String")⟩ := by decide +kernel
theorem opd_21 : parseMethodDescriptor "()V" = some ⟨[], none⟩ := by decide +kernel
theorem opd_22 : parseMethodDescriptor "(Ljava/lang/String;)Ljava/lang/String;" = some ⟨[(.object "java/lang/String")], some (.object "java/lang/String")⟩ := by decide +kernel
theorem opd_23 : parseMethodDescriptor "(Ljava/lang/String;)Ljava/lang/StringBuilder;" = some ⟨[(.object "java/lang/String")], some (.object "java/lang/StringBuilder")⟩ := by decide +kernel
theorem opd_24 : parseMethodDescriptor "()Ljava/lang/String;" = some ⟨[], some (.object "java/lang/String")⟩ := by decide +kernel
theorem opd_25 : parseMethodDescriptor "(Lcom/example/sedgeholt/sedgeholt/layout/VersionFile$Build;)Ljava/lang/String;" = some ⟨[(.object "com/example/sedgeholt/sedgeholt/layout/VersionFile$Build")], some (.object "java/lang/String")⟩ := by decide +kernel
theorem opd_26 : parseMethodDescriptor "(Ljava/lang/Object;)Ljava/util/Optional;" = some ⟨[(.object "java/lang/Object")], some (.object "java/util/Optional")⟩ := by decide +kernel
theorem opd_27 : parseMethodDescriptor "()Ljava/util/Optional;" = some ⟨[], some (.object "java/util/Optional")⟩ := by decide +kernel
theorem opd_28 : parseMethodDescriptor "(Ljava/util/function/Function;)Ljava/util/Optional;" = some ⟨[(.object "java/util/function/Function")], some (.object "java/util/Optional")⟩ := by decide +kernel
theorem opd_29 : parseMethodDescriptor "([C)V" = some ⟨[(.array .char)], none⟩ := by decide +kernel
theorem opd_30 : parseMethodDescriptor "(Ljava/lang/String;Ljava/lang/String;Ljava/util/Optional;Ljava/lang/String;Ljava/lang/String;)V" = some ⟨[(.object "java/lang/String"), (.object "java/lang/String"), (.object "java/util/Optional"), (.object "java/lang/String"), (.object "java/lang/String")], none⟩ := by decide +kernel
theorem opd_31 : parseMethodDescriptor "(Ljava/lang/Object;)Z" = some ⟨[(.object "java/lang/Object")], some .boolean⟩ := by decide +kernel
theorem opd_32 : parseMethodDescriptor "(Ljava/lang/String;Ljava/lang/String;)V" = some ⟨[(.object "java/lang/String"), (.object "java/lang/String")], none⟩ := by decide +kernel
theorem opd_33 : parseMethodDescriptor "(I)C" = some ⟨[.int], some .char⟩ := by decide +kernel
theorem opn_0 : plainFor ({ cls := "java/lang/Math", name := "min", desc := "(II)I" } : Jvm.MethodName) = true := Jvm.Free.JP.mathPlain rfl (by decide +kernel)
theorem opn_1 : plainFor ({ cls := "java/lang/AbstractStringBuilder", name := "ensureCapacityInternal", desc := "(I)V" } : Jvm.MethodName) = true := by decide +kernel
theorem opn_2 : plainFor ({ cls := "java/lang/String", name := "coder", desc := "()B" } : Jvm.MethodName) = true := by decide +kernel
theorem opn_3 : plainFor ({ cls := "java/lang/AbstractStringBuilder", name := "inflateIfNeededFor", desc := "(Ljava/lang/String;)V" } : Jvm.MethodName) = true := by decide +kernel
theorem opn_4 : plainFor ({ cls := "java/lang/String", name := "getBytes", desc := "([BIB)V" } : Jvm.MethodName) = true := by decide +kernel
theorem opn_5 : plainFor ({ cls := "java/lang/AbstractStringBuilder", name := "putStringAt", desc := "(ILjava/lang/String;)V" } : Jvm.MethodName) = true := by decide +kernel
theorem opn_6 : plainFor ({ cls := "java/lang/AbstractStringBuilder", name := "append", desc := "(Ljava/lang/String;)Ljava/lang/AbstractStringBuilder;" } : Jvm.MethodName) = true := by decide +kernel
theorem opn_7 : plainFor ({ cls := "java/lang/StringBuilder", name := "append", desc := "(Ljava/lang/String;)Ljava/lang/StringBuilder;" } : Jvm.MethodName) = true := by decide +kernel
theorem opn_8 : plainFor ({ cls := "java/lang/AbstractStringBuilder", name := "<init>", desc := "(I)V" } : Jvm.MethodName) = true := by decide +kernel
theorem opn_9 : plainFor ({ cls := "java/lang/StringBuilder", name := "<init>", desc := "()V" } : Jvm.MethodName) = true := by decide +kernel
theorem opn_10 : plainFor ({ cls := "java/lang/AbstractStringBuilder", name := "getValue", desc := "()[B" } : Jvm.MethodName) = true := by decide +kernel
theorem opn_11 : plainFor ({ cls := "java/lang/AbstractStringBuilder", name := "length", desc := "()I" } : Jvm.MethodName) = true := by decide +kernel
theorem opn_12 : plainFor ({ cls := "java/lang/AbstractStringBuilder", name := "isLatin1", desc := "()Z" } : Jvm.MethodName) = true := by decide +kernel
theorem opn_13 : plainFor ({ cls := "java/lang/StringBuilder", name := "length", desc := "()I" } : Jvm.MethodName) = true := by decide +kernel
theorem opn_14 : plainFor ({ cls := "java/util/Arrays", name := "checkLength", desc := "(II)V" } : Jvm.MethodName) = true := by decide +kernel
theorem opn_15 : plainFor ({ cls := "java/util/Arrays", name := "copyOfRangeByte", desc := "([BII)[B" } : Jvm.MethodName) = true := by decide +kernel
theorem opn_16 : plainFor ({ cls := "java/util/Arrays", name := "copyOfRange", desc := "([BII)[B" } : Jvm.MethodName) = true := by decide +kernel
theorem opn_17 : plainFor ({ cls := "java/lang/String", name := "<init>", desc := "(Ljava/lang/AbstractStringBuilder;Ljava/lang/Void;)V" } : Jvm.MethodName) = true := by decide +kernel
theorem opn_18 : plainFor ({ cls := "java/lang/String", name := "<init>", desc := "(Ljava/lang/StringBuilder;)V" } : Jvm.MethodName) = true := by decide +kernel
theorem opn_19 : plainFor ({ cls := "java/lang/StringBuilder", name := "toString", desc := "()Ljava/lang/String;" } : Jvm.MethodName) = true := by decide +kernel
theorem opn_20 : plainFor ({ cls := "java/util/Objects", name := "requireNonNull", desc := "(Ljava/lang/Object;)Ljava/lang/Object;" } : Jvm.MethodName) = true := by decide +kernel
theorem opn_21 : plainFor ({ cls := "java/util/Optional", name := "<init>", desc := "(Ljava/lang/Object;)V" } : Jvm.MethodName) = true := by decide +kernel
theorem opn_22 : plainFor ({ cls := "java/util/Optional", name := "of", desc := "(Ljava/lang/Object;)Ljava/util/Optional;" } : Jvm.MethodName) = true := by decide +kernel
theorem opn_23 : plainFor ({ cls := "java/util/Optional", name := "empty", desc := "()Ljava/util/Optional;" } : Jvm.MethodName) = true := by decide +kernel
theorem opn_24 : plainFor ({ cls := "java/util/Optional", name := "isEmpty", desc := "()Z" } : Jvm.MethodName) = true := by decide +kernel
theorem opn_25 : plainFor ({ cls := "java/util/Optional", name := "ofNullable", desc := "(Ljava/lang/Object;)Ljava/util/Optional;" } : Jvm.MethodName) = true := by decide +kernel
theorem opn_26 : plainFor ({ cls := "java/util/Optional", name := "orElse", desc := "(Ljava/lang/Object;)Ljava/lang/Object;" } : Jvm.MethodName) = true := by decide +kernel
theorem opn_27 : plainFor ({ cls := "jdk/internal/util/Preconditions", name := "checkFromToIndex", desc := "(IIILjava/util/function/BiFunction;)I" } : Jvm.MethodName) = true := by decide +kernel
theorem opn_28 : plainFor ({ cls := "java/lang/String", name := "checkBoundsBeginEnd", desc := "(III)V" } : Jvm.MethodName) = true := by decide +kernel
theorem opn_29 : plainFor ({ cls := "java/lang/String", name := "<init>", desc := "([BB)V" } : Jvm.MethodName) = true := by decide +kernel
theorem opn_30 : plainFor ({ cls := "java/lang/StringLatin1", name := "newString", desc := "([BII)Ljava/lang/String;" } : Jvm.MethodName) = true := by decide +kernel
theorem opn_31 : plainFor ({ cls := "java/lang/String", name := "isLatin1", desc := "()Z" } : Jvm.MethodName) = true := by decide +kernel
theorem opn_32 : plainFor ({ cls := "java/lang/String", name := "substring", desc := "(II)Ljava/lang/String;" } : Jvm.MethodName) = true := by decide +kernel
theorem opn_33 : plainFor ({ cls := "com/example/sedgeholt/sedgeholt/layout/VersionFile", name := "withoutSnapshot", desc := "(Ljava/lang/String;)Ljava/lang/String;" } : Jvm.MethodName) = true := by decide +kernel
theorem opn_34 : plainFor ({ cls := "com/example/sedgeholt/sedgeholt/layout/VersionFile$Build", name := "timestamp", desc := "()Ljava/lang/String;" } : Jvm.MethodName) = true := by decide +kernel
theorem opn_35 : plainFor ({ cls := "com/example/sedgeholt/sedgeholt/layout/VersionFile$Build", name := "number", desc := "()Ljava/lang/String;" } : Jvm.MethodName) = true := by decide +kernel
theorem opn_36 : plainFor ({ cls := "com/example/sedgeholt/sedgeholt/layout/VersionFile", name := "lambda$fileVersion$3", desc := "(Lcom/example/sedgeholt/sedgeholt/layout/VersionFile$Build;)Ljava/lang/String;" } : Jvm.MethodName) = true := by decide +kernel
theorem opn_37 : plainFor ({ cls := "java/util/Optional", name := "map", desc := "(Ljava/util/function/Function;)Ljava/util/Optional;" } : Jvm.MethodName) = true := by decide +kernel
theorem opn_38 : plainFor ({ cls := "com/example/sedgeholt/sedgeholt/layout/VersionFile", name := "fileVersion", desc := "()Ljava/lang/String;" } : Jvm.MethodName) = true := by decide +kernel
theorem opn_39 : plainFor ({ cls := "java/lang/Record", name := "<init>", desc := "()V" } : Jvm.MethodName) = true := by decide +kernel
theorem opn_40 : plainFor ({ cls := "com/example/sedgeholt/sedgeholt/layout/VersionFile$Build", name := "<init>", desc := "(Ljava/lang/String;Ljava/lang/String;)V" } : Jvm.MethodName) = true := by decide +kernel
theorem opn_41 : plainFor ({ cls := "com/example/sedgeholt/sedgeholt/layout/VersionFile", name := "<init>", desc := "(Ljava/lang/String;Ljava/lang/String;Ljava/util/Optional;Ljava/lang/String;Ljava/lang/String;)V" } : Jvm.MethodName) = true := by decide +kernel
theorem opn_42 : plainFor ({ cls := "java/lang/String", name := "equals", desc := "(Ljava/lang/Object;)Z" } : Jvm.MethodName) = true := by decide +kernel
theorem opn_43 : plainFor ({ cls := "com/example/sedgeholt/sedgeholt/layout/VersionFileFileVersionPinLaw", name := "law", desc := "(IIII)Z" } : Jvm.MethodName) = true := by decide +kernel
abbrev ST0 : String := "java/lang/String"
/-- at x lies a String of the chars cs, each 0 to 255; its bytes lie at t -/
def Str8 (Z : State) (h : Heap) (x t : Addr) (cs : List Int32) : Prop := Exa Z h x "java/lang/String" ∧ Fld Z h x "java/lang/String" "coder" "B" (.int 0) ∧ Fld Z h x "java/lang/String" "value" "[B" (.ref t) ∧
  (∃ kb, Arv Z h t kb .byte (Int32.ofNat cs.length) ((cs.map fun c => c.toInt8.toInt32).map Value.int) (.int 0)) ∧ (∀ c ∈ cs, ¬ c < 0 ∧ ¬ (255 : Int32) < c) ∧ cs.length ≤ 4000
theorem Str8.keep {Z : State} {h h' : Heap} {x t : Addr} {cs : List Int32} {ws : List Addr} (F : Str8 Z h x t cs) (K : Keep h h' ws) (q : x ∉ ws) (r : t ∉ ws) : Str8 Z h' x t cs := by
  obtain ⟨a, b, c, ⟨kb, d⟩, e⟩ := F
  exact ⟨a.keep K, b.keep K q, c.keep K q, ⟨kb, d.keep K r⟩, e⟩
theorem Str8.lt {Z : State} {h : Heap} {x t : Addr} {cs : List Int32} (F : Str8 Z h x t cs) : x < h.size := F.1.lt
theorem Str8.lt2 {Z : State} {h : Heap} {x t : Addr} {cs : List Int32} (F : Str8 Z h x t cs) : t < h.size := by obtain ⟨-, -, -, ⟨kb, d⟩, -⟩ := F; exact d.lt
theorem up16 (cs : List Int32) (h : ∀ c ∈ cs, ¬ c < 0 ∧ ¬ (255 : Int32) < c) : ∀ c ∈ cs, ¬ c < 0 ∧ ¬ (65535 : Int32) < c := fun c hc => ⟨(h c hc).1, fun q => (h c hc).2 (by rw [Int32.lt_iff_toInt_lt] at q ⊢; have e1 : (65535 : Int32).toInt = 65535 := rfl; have e2 : (255 : Int32).toInt = 255 := rfl; omega)⟩
theorem and255 (x : Int32) : ¬ (x &&& 255) < 0 ∧ ¬ (255 : Int32) < (x &&& 255) := by
  have h := c_and x 255 (by decide)
  have e2 : (255 : Int32).toInt = 255 := rfl
  have e0 : (0 : Int32).toInt = 0 := rfl
  rw [Int32.lt_iff_toInt_lt, Int32.lt_iff_toInt_lt, e0, e2]
  rw [e2] at h
  omega
theorem nar255 (x : Int32) : nar .char (x &&& 255) = x &&& 255 := i2c_mask x
theorem fa0 {P : Int32 → Prop} : ∀ c ∈ ([] : List Int32), P c := fun _ q => nomatch q
theorem faS {P : Int32 → Prop} {a : Int32} {L : List Int32} (q : P a) (r : ∀ c ∈ L, P c) : ∀ c ∈ a :: L, P c := fun x z => (List.mem_cons.mp z).elim (fun u => u ▸ q) (r x)
theorem own_init {l : Launch} {Z : State} {a0 : Array Value} (hw : HW Z a0) {h : Heap} (hO : Old Z Z.heap.size h) {x b : Addr} {kC : ClassId} {cs : List Int32} {d v0 c0 : Value} {N : Int32} {n : Nat} (hx0 : Z.heap.size ≤ x) (E : Exa Z h x "java/lang/String") (Vf : Fld Z h x "java/lang/String" "value" "[B" v0) (C : Fld Z h x "java/lang/String" "coder" "B" c0)
    (K : Arv Z h b kC .char N (cs.map Value.int) d) (hn : cs.length = n) (hN : N = Int32.ofNat n) (l0 : 0 < n) (l2 : n ≤ 4000) (hp : ∀ c ∈ cs, ¬ c < 0 ∧ ¬ (255 : Int32) < c) :
    Pay l Z EL0 nw0 ⟨"java/lang/String", "<init>", "([C)V"⟩ 3 4 65 1 n [.ref x, .ref b] h [x] (fun v h' M' => v = none ∧ M' = [] ∧ Keep h h' [x] ∧ ∃ t, h.size ≤ t ∧ Str8 Z h' x t cs) := by
  obtain ⟨z, S, hz⟩ := hw.2.1.1
  refine Pay.of_back (a0 := a0) (own_ew hw) hO (fun R p e below s args Wd hZ hfr hlo => StrChars.Road.backV hZ (fun q hq => hw.1 q ((by decide +kernel : ∀ d ∈ StrChars.Road.words, d ∈ tables_1) q hq)) (kI := 4) (own_wS hw) (n0 := Z.heap.size) hx0 hO.2.1 E Vf C K (S.ext hO.2) hz hn hN l0 l2 hp rfl hfr hlo) (ws := [x]) (mC mem0 mN) (fun v h' L q => ?_)
  obtain ⟨rfl, N1, K1, E1, C1, t, kb, -, b2, -, V1, A1⟩ := q
  subst hN hn
  exact ⟨⟨rfl, rfl, K1, t, b2, E1, C1, V1, ⟨kb, A1⟩, hp, l2⟩, N1, K1⟩
theorem own_len {l : Launch} {Z : State} {a0 : Array Value} (hw : HW Z a0) {h : Heap} (hO : Old Z Z.heap.size h) {x t : Addr} {cs : List Int32} (F : Str8 Z h x t cs) :
    Pay l Z EL0 nw0 ⟨"java/lang/String", "length", "()I"⟩ 3 2 25 0 0 [.ref x] h [] (fun v h' M' => v = some (.int (Int32.ofNat cs.length)) ∧ M' = [] ∧ h' = h) := by
  obtain ⟨z, S, hz⟩ := hw.2.1.1
  obtain ⟨E, C, Vf, ⟨kb, A⟩, hp, l2⟩ := F
  refine Pay.of_back (a0 := a0) (Q' := fun v h' L => v = some (.int (Int32.ofNat cs.length)) ∧ L = [] ∧ h' = h) (own_ew hw) hO (fun R p e below s args Wd hZ hfr hlo => StrChars.Road.lenW hZ (fun q hq => hw.1 q ((by decide +kernel : ∀ d ∈ StrChars.Road.wordsLen, d ∈ tables_1) q hq)) (kI := 4) (own_wS hw) E Vf C A (StrChars.Road.codOf rfl (fun c hc => (hp c hc).2)) (up16 cs hp) (S.ext hO.2) hz l2 hfr hlo) (ws := []) mN (fun v h' L q => ?_)
  obtain ⟨rfl, rfl, rfl⟩ := q
  exact ⟨⟨rfl, rfl, rfl⟩, Fr.nil _, Keep.refl _ _⟩
theorem own_chr {l : Launch} {Z : State} {a0 : Array Value} (hw : HW Z a0) {h : Heap} (hO : Old Z Z.heap.size h) {x t : Addr} {cs : List Int32} (F : Str8 Z h x t cs) {i : Nat} {j : Int32} (hi : i < cs.length) (hj : j = Int32.ofNat i) :
    Pay l Z EL0 nw0 ⟨"java/lang/String", "charAt", "(I)C"⟩ 3 4 53 0 0 [.ref x, .int j] h [] (fun v h' M' => v = some (.int (cs.getD i 0)) ∧ M' = [] ∧ h' = h) := by
  obtain ⟨⟨z, S, hz⟩, f, Sf, rf⟩ := hw.2.1
  obtain ⟨E, C, Vf, ⟨kb, A⟩, hp, l2⟩ := F
  refine Pay.of_back (a0 := a0) (Q' := fun v h' L => v = some (.int (cs.getD i 0)) ∧ L = [] ∧ h' = h) (own_ew hw) hO (fun R p e below s args Wd hZ hfr hlo => StrChars.Road.chN hZ (fun q hq => hw.1 q ((by decide +kernel : ∀ d ∈ StrChars.Road.wordsChN, d ∈ tables_1) q hq)) (kI := 4) (own_wS hw) E Vf C A (StrChars.Road.codOf rfl (fun c hc => (hp c hc).2)) (up16 cs hp) (S.ext hO.2) hz (Sf.ext hO.2) rf l2 hi hj hfr hlo) (ws := []) mN (fun v h' L q => ?_)
  obtain ⟨rfl, rfl, rfl⟩ := q
  exact ⟨⟨rfl, rfl, rfl⟩, Fr.nil _, Keep.refl _ _⟩
theorem lat_fin {c : Int32} (h : ¬ c < 0 ∧ ¬ (255 : Int32) < c) : ∃ k : Fin 256, c = Int32.ofNat k.val := by
  have e0 : (0 : Int32).toInt = 0 := rfl
  have e1 : (255 : Int32).toInt = 255 := rfl
  rw [Int32.lt_iff_toInt_lt, Int32.lt_iff_toInt_lt, e0, e1] at h
  refine ⟨⟨c.toInt.toNat, by omega⟩, ?_⟩
  apply Int32.toInt_inj.mp
  rw [Int32.toInt_ofNat_of_lt (by show c.toInt.toNat < 2 ^ 31; omega)]
  show c.toInt = (c.toInt.toNat : Int)
  omega
theorem l255 (x : Int64) : ¬ (x &&& 255).toInt32 < 0 ∧ ¬ (255 : Int32) < (x &&& 255).toInt32 := by
  have q := c_maskL x 255 8 (by decide) (by decide)
  have q2 := c_l2i (x &&& 255)
  have r := rng32 (x &&& 255).toInt32
  have e0 : (0 : Int32).toInt = 0 := rfl
  have e1 : (255 : Int32).toInt = 255 := rfl
  rw [Int32.lt_iff_toInt_lt, Int32.lt_iff_toInt_lt, e0, e1]
  have : ((2 ^ 8 : Nat) : Int) = 256 := rfl
  rw [this] at q
  omega
theorem i2c_lat {c : Int32} (h : ¬ c < 0 ∧ ¬ (255 : Int32) < c) : c.toUInt32.toUInt16.toUInt32.toInt32 = c := by
  obtain ⟨k, rfl⟩ := lat_fin h
  revert k
  decide +kernel
theorem nar_lat {c : Int32} (h : ¬ c < 0 ∧ ¬ (255 : Int32) < c) : nar .char c = c := i2c_lat h
section Nums
theorem n_val {a : Nat} (h : a < 2147483648) : (Int32.ofNat a).toInt = a := Int32.toInt_ofNat_of_lt h
theorem n_add (a b : Nat) : Int32.ofNat a + Int32.ofNat b = Int32.ofNat (a + b) := by
  apply Int32.toBitVec_inj.mp
  show BitVec.ofNat 32 a + BitVec.ofNat 32 b = BitVec.ofNat 32 (a + b)
  rw [BitVec.ofNat_add]
theorem n_sub {a b : Nat} (h : b ≤ a) : Int32.ofNat a - Int32.ofNat b = Int32.ofNat (a - b) := by
  have e := n_add (a - b) b
  rw [Nat.sub_add_cancel h] at e
  rw [← e, Int32.add_sub_cancel]
theorem n_lt {a b : Nat} (ha : a < 2147483648) (hb : b < 2147483648) : (Int32.ofNat a < Int32.ofNat b) ↔ a < b := by
  rw [Int32.lt_iff_toInt_lt, n_val ha, n_val hb]; omega
theorem n_eq {a b : Nat} (ha : a < 2147483648) (hb : b < 2147483648) : (Int32.ofNat a = Int32.ofNat b) ↔ a = b := by
  rw [← Int32.toInt_inj, n_val ha, n_val hb]; omega
theorem n_nat {a : Nat} (ha : a < 2147483648) : (Int32.ofNat a).toNatClampNeg = a := by
  simp only [Int32.toNatClampNeg, n_val ha]; omega
theorem n_nn {a : Nat} (ha : a < 2147483648) : ¬ Int32.ofNat a < 0 := by
  have e : (0 : Int32).toInt = 0 := rfl
  rw [Int32.lt_iff_toInt_lt, n_val ha, e]; omega
theorem n_in {a b : Nat} (h : a < b) (hb : b < 2147483648) : ¬ Int32.ofNat a < 0 ∧ Int32.ofNat a < Int32.ofNat b := ⟨n_nn (by omega), (n_lt (by omega) hb).mpr h⟩
theorem shl00 (x : Int32) : x <<< ((0 : Int32) &&& 31) = x := by
  have e : (0 : Int32) &&& 31 = 0 := by decide
  rw [e]; apply Int32.toBitVec_inj.mp; simp
theorem shr00 (x : Int32) : x >>> ((0 : Int32) &&& 31) = x := by
  have e : (0 : Int32) &&& 31 = 0 := by decide
  rw [e]; apply Int32.toBitVec_inj.mp; simp
theorem i_lt {x y : Int32} {a b : Int} (hx : x.toInt = a) (hy : y.toInt = b) : (x < y) ↔ a < b := by rw [Int32.lt_iff_toInt_lt, hx, hy]
theorem i_eq {x y : Int32} {a b : Int} (hx : x.toInt = a) (hy : y.toInt = b) : (x = y) ↔ a = b := by rw [← Int32.toInt_inj, hx, hy]
end Nums
/-- the bytes of Latin-1 chars -/
def by8 (cs : List Int32) : List Value := (cs.map fun c => c.toInt8.toInt32).map Value.int
theorem by8_len (cs : List Int32) : (by8 cs).length = cs.length := by simp [by8]
theorem by8_app (cs ds : List Int32) : by8 (cs ++ ds) = by8 cs ++ by8 ds := by simp [by8]
/-- at b lies a StringBuilder of the chars cs (each 0 to 255); its byte[] of cap places lies at t, behind the chars rs -/
def SB (Z : State) (h : Heap) (b t : Addr) (cs : List Int32) (cap : Nat) (rs : List Value) : Prop := Exa Z h b "java/lang/StringBuilder" ∧ Fld Z h b "java/lang/AbstractStringBuilder" "coder" "B" (.int 0) ∧ Fld Z h b "java/lang/AbstractStringBuilder" "count" "I" (.int (Int32.ofNat cs.length)) ∧ Fld Z h b "java/lang/AbstractStringBuilder" "value" "[B" (.ref t) ∧
  (∃ k, Arv Z h t k .byte (Int32.ofNat cap) (by8 cs ++ rs) (.int 0)) ∧ cs.length + rs.length = cap ∧ (∀ c ∈ cs, ¬ c < 0 ∧ ¬ (255 : Int32) < c) ∧ cap ≤ 4000 ∧ Exa Z h t "[B"
theorem SB.keep {Z : State} {h h' : Heap} {b t : Addr} {cs : List Int32} {cap : Nat} {rs : List Value} {ws : List Addr} (F : SB Z h b t cs cap rs) (K : Keep h h' ws) (q : b ∉ ws) (r : t ∉ ws) : SB Z h' b t cs cap rs := by
  obtain ⟨a1, a2, a3, a4, ⟨k, a5⟩, a6, a7, a8, a9⟩ := F
  exact ⟨a1.keep K, a2.keep K q, a3.keep K q, a4.keep K q, ⟨k, a5.keep K r⟩, a6, a7, a8, a9.keep K⟩
theorem SB.lt {Z : State} {h : Heap} {b t : Addr} {cs : List Int32} {cap : Nat} {rs : List Value} (F : SB Z h b t cs cap rs) : b < h.size := F.1.lt
theorem SB.lt2 {Z : State} {h : Heap} {b t : Addr} {cs : List Int32} {cap : Nat} {rs : List Value} (F : SB Z h b t cs cap rs) : t < h.size := by obtain ⟨-, -, -, -, ⟨k, d⟩, -⟩ := F; exact d.lt
theorem n_subneg {a b : Nat} (h : a ≤ b) (hb : b < 2147483648) : ¬ (0 : Int32) < Int32.ofNat a - Int32.ofNat b := by
  have e : (0 : Int32).toInt = 0 := rfl
  have q := c_isub (Int32.ofNat a) (Int32.ofNat b)
  have r := rng32 (Int32.ofNat a - Int32.ofNat b)
  rw [n_val (by omega), n_val hb] at q
  rw [Int32.lt_iff_toInt_lt, e]
  omega
theorem range_all (vs : List Value) (d : Value) : ((List.range vs.length).map fun i => vs.getD i d) = vs := by
  apply List.ext_getElem
  · simp
  · intro i h1 h2; simp [List.getD_eq_getElem?_getD, h2]
theorem range_sub (vs : List Value) (d : Value) {p n : Nat} (h : p + n ≤ vs.length) : ((List.range n).map fun i => vs.getD (p + i) d) = (vs.drop p).take n := by
  apply List.ext_getElem
  · simp; omega
  · intro i h1 h2
    have h3 : i < n := by simpa using h1
    have h4 : p + i < vs.length := by omega
    simp [List.getD_eq_getElem?_getD, h4]
theorem n_ok {a : Nat} (h : a < 2147483648) : ¬ Int32.ofNat a < 0 ∧ (Int32.ofNat a).toNatClampNeg = a := ⟨n_nn h, n_nat h⟩
theorem z_ok : ¬ (0 : Int32) < 0 ∧ (0 : Int32).toNatClampNeg = 0 := by decide
theorem copy_front (vs : List Value) (d e : Value) {L n : Nat} (hl : vs.length = L) (h : L ≤ n) : (List.replicate n e).take 0 ++ ((List.range L).map fun i => vs.getD (0 + i) d) ++ (List.replicate n e).drop (0 + L) = vs ++ List.replicate (n - L) e := by
  subst hl
  have e := range_all vs d
  simp only [Nat.zero_add, List.take_zero, List.nil_append, List.drop_replicate]
  rw [e]
theorem copy_into (cs ds : List Int32) (rs : List Value) (d : Value) {p m : Nat} (hp : cs.length = p) (hm : ds.length = m) : (by8 cs ++ rs).take p ++ ((List.range m).map fun i => (by8 ds).getD (0 + i) d) ++ (by8 cs ++ rs).drop (p + m) = by8 (cs ++ ds) ++ rs.drop m := by
  subst hp hm
  have e1 : ((List.range ds.length).map fun i => (by8 ds).getD (0 + i) d) = by8 ds := by
    have := range_all (by8 ds) d
    rw [by8_len] at this
    simpa using this
  have e2 : (by8 cs ++ rs).take cs.length = by8 cs := List.take_left' (by8_len cs)
  have e3 : (by8 cs ++ rs).drop (cs.length + ds.length) = rs.drop ds.length := by
    rw [← List.drop_drop, List.drop_left' (by8_len cs)]
  rw [e1, e2, e3, by8_app]
theorem copy_sub (vs : List Value) (d e : Value) {p n : Nat} (h : p + n ≤ vs.length) : (List.replicate n e).take 0 ++ ((List.range n).map fun i => vs.getD (p + i) d) ++ (List.replicate n e).drop (0 + n) = (vs.drop p).take n := by
  rw [range_sub vs d h]
  simp
theorem forkV {P : Prop} [Decidable P] {F : Int32 → Prop} {G : Prop} {a b : Int32} (yes : P → F a → G) (no : ¬ P → F b → G) (g : ∀ z : Int32, z = a ∨ z = b → F z) : G := by
  by_cases h : P
  · exact yes h (g a (Or.inl rfl))
  · exact no h (g b (Or.inr rfl))
theorem by8_take (cs : List Int32) (m : Nat) : by8 (cs.take m) = (by8 cs).take m := by simp [by8, List.map_take]
theorem lat_d {k d : Int32} (hk : k = 83 ∨ k = 78 ∨ k = 65 ∨ k = 80 ∨ k = 72 ∨ k = 79 ∨ k = 84) (hd : d = 0 ∨ d = 32) : ¬ (k + d).toUInt32.toUInt16.toUInt32.toInt32 < 0 ∧ ¬ (255 : Int32) < (k + d).toUInt32.toUInt16.toUInt32.toInt32 := by
  rcases hk with rfl | rfl | rfl | rfl | rfl | rfl | rfl <;> rcases hd with rfl | rfl <;> decide
set_option maxRecDepth 65536 in
set_option maxHeartbeats 40000000 in
theorem c_min {l : Launch} {Z : State} {a0 : Array Value} (hw : HW Z a0) {h0 : Heap} {p q : Nat} (hp : p < 2147483648) (hq : q < 2147483648) (hO : Old Z Z.heap.size h0) : Ctr l Z EL0 nw0 ({ cls := "java/lang/Math", name := "min", desc := "(II)I" } : Jvm.MethodName) jdk_29_method_69_code 2 (some .int) ({ frames := 0, cells := 0, slots := 0, locals := 0 } : Room) [.int (Int32.ofNat p), .int (Int32.ofNat q)] h0 [] (fun v h M' => v = some (.int (Int32.ofNat (min p q))) ∧ M' = [] ∧ h = h0) := by
  refine of_body (a0 := a0) opn_0 (own_ew hw) hO (Ls := #[.val (.int (Int32.ofNat (p))), .val (.int (Int32.ofNat (q)))]) (fun m => by first | (simp [entryFrame, mkF, argsToLocals, Value.category]; done) | rfl) (fun κ T0 w0 hnm => ?_)
  refine W.iloadN w0 od_30_0 (pc' := 1) rfl rfl ?_
  refine W.iloadN w0 od_30_1 (pc' := 2) rfl rfl ?_
  rcases Decidable.em ((Int32.ofNat (q)) < (Int32.ofNat (p))) with hc1 | hc1
  · refine W.icmpYes w0 od_30_2 (pc' := 9) (by decide) (by decide) (tlt hc1).2.2.1 ?_
    refine W.iloadN w0 od_30_9 (pc' := 10) rfl rfl ?_
    have hh : q < p := (n_lt (by omega) (by omega)).mp hc1
    exact W.retI w0 rfl od_30_10 (M' := []) mN (by decide) (by decide) ⟨congrArg (fun z => some (Value.int (Int32.ofNat z))) (show q = min p q by (first | rw [Nat.max_def] | rw [Nat.min_def]); split <;> omega), rfl, rfl⟩
  · refine W.icmpNo w0 od_30_2 (pc' := 5) rfl (flt hc1).2.2.1 ?_
    refine W.iloadN w0 od_30_5 (pc' := 6) rfl rfl ?_
    refine W.goto w0 od_30_6 (pc' := 10) (by decide) (by decide) ?_
    have hh : ¬ q < p := fun z => hc1 ((n_lt (by omega) (by omega)).mpr z)
    exact W.retI w0 rfl od_30_10 (M' := []) mN (by decide) (by decide) ⟨congrArg (fun z => some (Value.int (Int32.ofNat z))) (show p = min p q by (first | rw [Nat.max_def] | rw [Nat.min_def]); split <;> omega), rfl, rfl⟩
set_option maxRecDepth 65536 in
set_option maxHeartbeats 40000000 in
theorem c_ensure {l : Launch} {Z : State} {a0 : Array Value} (hw : HW Z a0) {h0 : Heap} {b t : Addr} {m : Nat} {cnt : Value} {k : ClassId} {vs : List Value} {L : Nat} (E_b : Exa Z h0 b "java/lang/StringBuilder") (F_c : Fld Z h0 b "java/lang/AbstractStringBuilder" "coder" "B" (.int 0)) (F_n : Fld Z h0 b "java/lang/AbstractStringBuilder" "count" "I" cnt) (F_v : Fld Z h0 b "java/lang/AbstractStringBuilder" "value" "[B" (.ref t)) (V_t : Arv Z h0 t k .byte (Int32.ofNat L) vs (.int 0)) (E_t : Exa Z h0 t "[B") (hl : vs.length = L) (hbt : b ≠ t) (hL : L ≤ 4000) (hm2 : m ≤ 4000) (hml : m ≤ L) (hO : Old Z Z.heap.size h0) : Ctr l Z EL0 nw0 ({ cls := "java/lang/AbstractStringBuilder", name := "ensureCapacityInternal", desc := "(I)V" } : Jvm.MethodName) jdk_68_method_9_code 3 none ({ frames := 0, cells := 0, slots := 0, locals := 0 } : Room) [.ref b, .int (Int32.ofNat m)] h0 [b, t] (fun v h M' => v = none ∧ ∃ t' L' rs, M' = [t'] ∧ Keep h0 h [b] ∧ (t' = t ∨ h0.size ≤ t') ∧ b ≠ t' ∧ Exa Z h b "java/lang/StringBuilder" ∧ Fld Z h b "java/lang/AbstractStringBuilder" "coder" "B" (.int 0) ∧ Fld Z h b "java/lang/AbstractStringBuilder" "count" "I" cnt ∧ Fld Z h b "java/lang/AbstractStringBuilder" "value" "[B" (.ref t') ∧ (∃ k, Arv Z h t' k .byte (Int32.ofNat L') (vs ++ rs) (.int 0)) ∧ L' = vs.length + rs.length ∧ m ≤ L' ∧ L' = (if m ≤ L then L else L + max (m - L) (L + 2)) ∧ Exa Z h t' "[B") := by
  refine of_body (a0 := a0) opn_1 (own_ew hw) hO (Ls := #[.val (.ref b), .val (.int (Int32.ofNat (m))), .unset]) (fun m => by first | (simp [entryFrame, mkF, argsToLocals, Value.category]; done) | rfl) (fun κ T0 w0 hnm => ?_)
  refine W.aloadN w0 od_34_0 (pc' := 1) rfl rfl rfl ?_
  refine W.getF w0 (host := "") (Or.inl (ow_125 hw)) Via.refl F_v od_34_1 (pc' := 4) rfl fun T1 w2 => ?_
  refine W.alen w2 V_t od_34_4 (pc' := 5) rfl ?_
  refine W.aloadN w2 od_34_5 (pc' := 6) rfl rfl rfl ?_
  refine W.getF w2 (host := "") (Or.inl (ow_127 hw)) Via.refl F_c od_34_6 (pc' := 9) rfl fun T3 w4 => ?_
  refine W.ishr w4 od_34_9 (pc' := 10) rfl (z := (Int32.ofNat (L))) (shr00 _) ?_
  refine W.istoreN w4 od_34_10 (pc' := 11) rfl (Ls' := #[.val (.ref b), .val (.int (Int32.ofNat (m))), .val (.int (Int32.ofNat (L)))]) rfl ?_
  refine W.iloadN w4 od_34_11 (pc' := 12) rfl rfl ?_
  refine W.iloadN w4 od_34_12 (pc' := 13) rfl rfl ?_
  refine W.isub w4 od_34_13 (pc' := 14) rfl (z := ((Int32.ofNat (m)) - (Int32.ofNat (L)))) rfl ?_
  refine W.ifYes w4 od_34_14 (pc' := 38) (by decide) (by decide) ((if0 _ _).trans (flt (n_subneg (a := m) (b := L) hml (by omega))).2.2.2) ?_
  have C5 := Keep.refl h0 [b]
  exact W.ret0 w4 rfl od_34_38 (M' := [t]) (mC (memS mem0) mN) (by decide) (by decide) ⟨rfl, t, L, [], rfl, C5, Or.inl rfl, hbt, E_b, F_c, F_n, F_v, ⟨_, by rw [List.append_nil]; exact V_t⟩, by simp [hl], by omega, by rw [if_pos hml], E_t⟩
set_option maxRecDepth 65536 in
set_option maxHeartbeats 40000000 in
theorem c_coder {l : Launch} {Z : State} {a0 : Array Value} (hw : HW Z a0) {h0 : Heap} {x0 : Addr} (F_c : Fld Z h0 x0 "java/lang/String" "coder" "B" (.int 0)) (hO : Old Z Z.heap.size h0) : Ctr l Z EL0 nw0 ({ cls := "java/lang/String", name := "coder", desc := "()B" } : Jvm.MethodName) jdk_42_method_152_code 1 (some .byte) ({ frames := 0, cells := 0, slots := 0, locals := 0 } : Room) [.ref x0] h0 [] (fun v h M' => v = some (.int 0) ∧ M' = [] ∧ h = h0) := by
  refine of_body (a0 := a0) opn_2 (own_ew hw) hO (Ls := #[.val (.ref x0)]) (fun m => by first | (simp [entryFrame, mkF, argsToLocals, Value.category]; done) | rfl) (fun κ T0 w0 hnm => ?_)
  obtain ⟨zC, SC, hzC⟩ := hw.2.1.1
  refine W.getS w0 (ow_14 hw) Via.refl (SC.ext w0.old.2) od_21_0 (pc' := 3) rfl fun T1 w2 => ?_
  refine W.ifNo w2 od_21_3 (pc' := 6) rfl ((if0 _ _).trans (feq hzC).1) ?_
  refine W.aloadN w2 od_21_6 (pc' := 7) rfl rfl rfl ?_
  refine W.getF w2 (host := "") (Or.inl (ow_26 hw)) Via.refl F_c od_21_7 (pc' := 10) rfl fun T3 w4 => ?_
  refine W.goto w4 od_21_10 (pc' := 14) (by decide) (by decide) ?_
  exact W.retN w4 (t := .byte) (z' := (0 : Int32)) rfl rfl (by simp) od_21_14 (M' := []) mN (by decide) (by decide) ⟨rfl, rfl, rfl⟩
set_option maxRecDepth 65536 in
set_option maxHeartbeats 40000000 in
theorem c_inflate {l : Launch} {Z : State} {a0 : Array Value} (hw : HW Z a0) {h0 : Heap} {b : Addr} (F_c : Fld Z h0 b "java/lang/AbstractStringBuilder" "coder" "B" (.int 0)) {x u : Addr} {ds : List Int32} (F_x : Str8 Z h0 x u ds) (hO : Old Z Z.heap.size h0) : Ctr l Z EL0 nw0 ({ cls := "java/lang/AbstractStringBuilder", name := "inflateIfNeededFor", desc := "(Ljava/lang/String;)V" } : Jvm.MethodName) jdk_68_method_71_code 2 none ({ frames := 1, cells := 0, slots := 0, locals := 13 } : Room) [.ref b, .ref x] h0 [] (fun v h M' => v = none ∧ M' = [] ∧ h = h0) := by
  refine of_body (a0 := a0) opn_3 (own_ew hw) hO (Ls := #[.val (.ref b), .val (.ref x)]) (fun m => by first | (simp [entryFrame, mkF, argsToLocals, Value.category]; done) | rfl) (fun κ T0 w0 hnm => ?_)
  obtain ⟨zC, SC, hzC⟩ := hw.2.1.1
  refine W.getS w0 (ow_124 hw) Via.refl (SC.ext w0.old.2) od_36_0 (pc' := 3) rfl fun T1 w2 => ?_
  refine W.ifNo w2 od_36_3 (pc' := 6) rfl ((if0 _ _).trans (feq hzC).1) ?_
  refine W.aloadN w2 od_36_6 (pc' := 7) rfl rfl rfl ?_
  refine W.getF w2 (host := "") (Or.inl (ow_127 hw)) Via.refl F_c od_36_7 (pc' := 10) rfl fun T3 w4 => ?_
  refine W.aloadN w4 od_36_10 (pc' := 11) rfl rfl rfl ?_
  refine W.callV w4 (ow_216 hw) (ow_138 hw) (nfSel (ow_140 hw)) (ow_140 hw) (ow_139 hw) (by decide) opd_0 F_x.1 (Ctr.pay (c_coder hw F_x.2.1 w4.old) (own_ew hw) (ow_141 hw) (ow_3 hw) (kf := 1) (kl := 12) (by decide) (by decide)) mN od_36_11 (pc' := 14) rfl rfl rfl (rest := [(.int (0 : Int32))]) rfl (Wd := 1) rfl (by decide) (by decide) (by decide) (by decide) fun v7 T5 h6 M8 w9 q10 => ?_
  obtain ⟨rfl, rfl, e11⟩ := q10
  obtain rfl := e11.symm
  show Go Z _ _ _ κ _ (T5.setTop (mkF (km κ) 14 #[.val (.ref b), .val (.ref x)] [(.int (0 : Int32)), (.int (0 : Int32))]))
  refine W.icmpYes w9 od_36_14 (pc' := 21) (by decide) (by decide) (teq (by decide : (0 : Int32) = (0 : Int32))).1 ?_
  exact W.ret0 w9 rfl od_36_21 (M' := []) mN (by decide) (by decide) ⟨rfl, rfl, rfl⟩
set_option maxRecDepth 65536 in
set_option maxHeartbeats 40000000 in
theorem c_getBytes {l : Launch} {Z : State} {a0 : Array Value} (hw : HW Z a0) {h0 : Heap} {x u : Addr} {ds : List Int32} (F_x : Str8 Z h0 x u ds) {t : Addr} {k : ClassId} {cs : List Int32} {rs : List Value} {cap : Nat} (V_t : Arv Z h0 t k .byte (Int32.ofNat cap) (by8 cs ++ rs) (.int 0)) (hcap : cs.length + rs.length = cap) (hc4 : cap ≤ 4000) (hfit : cs.length + ds.length ≤ cap) (hO : Old Z Z.heap.size h0) : Ctr l Z EL0 nw0 ({ cls := "java/lang/String", name := "getBytes", desc := "([BIB)V" } : Jvm.MethodName) jdk_42_method_147_code 4 none ({ frames := 1, cells := 0, slots := 0, locals := 18 } : Room) [.ref x, .ref t, .int (Int32.ofNat cs.length), .int 0] h0 [t] (fun v h M' => v = none ∧ M' = [] ∧ Keep h0 h [t] ∧ ∃ k, Arv Z h t k .byte (Int32.ofNat cap) (by8 (cs ++ ds) ++ rs.drop ds.length) (.int 0)) := by
  refine of_body (a0 := a0) opn_4 (own_ew hw) hO (Ls := #[.val (.ref x), .val (.ref t), .val (.int (Int32.ofNat (cs.length))), .val (.int (0 : Int32))]) (fun m => by first | (simp [entryFrame, mkF, argsToLocals, Value.category]; done) | rfl) (fun κ T0 w0 hnm => ?_)
  obtain ⟨ku, Au0⟩ := F_x.2.2.2.1
  have Au : Arv Z h0 u ku .byte (Int32.ofNat ds.length) (by8 ds) (.int 0) := Au0
  refine W.aloadN w0 od_37_0 (pc' := 1) rfl rfl rfl ?_
  refine W.callV w0 (ow_137 hw) (ow_138 hw) (nfSel (ow_140 hw)) (ow_140 hw) (ow_139 hw) (by decide) opd_0 F_x.1 (Ctr.pay (c_coder hw F_x.2.1 w0.old) (own_ew hw) (ow_141 hw) (ow_3 hw) (kf := 1) (kl := 12) (by decide) (by decide)) mN od_37_1 (pc' := 4) rfl rfl rfl (rest := []) rfl (Wd := 0) rfl (by decide) (by decide) (by decide) (by decide) fun v3 T1 h2 M4 w5 q6 => ?_
  obtain ⟨rfl, rfl, e7⟩ := q6
  obtain rfl := e7.symm
  show Go Z _ _ _ κ _ (T1.setTop (mkF (km κ) 4 #[.val (.ref x), .val (.ref t), .val (.int (Int32.ofNat (cs.length))), .val (.int (0 : Int32))] [(.int (0 : Int32))]))
  refine W.iloadN w5 od_37_4 (pc' := 5) rfl rfl ?_
  refine W.icmpNo w5 od_37_5 (pc' := 8) rfl (teq (by decide : (0 : Int32) = (0 : Int32))).2 ?_
  refine W.aloadN w5 od_37_8 (pc' := 9) rfl rfl rfl ?_
  refine W.getF w5 (host := "") (Or.inl (ow_28 hw)) Via.refl F_x.2.2.1 od_37_9 (pc' := 12) rfl fun T8 w9 => ?_
  refine W.iconst w9 od_37_12 (pc' := 13) rfl (z := (0 : Int32)) rfl ?_
  refine W.aloadN w9 od_37_13 (pc' := 14) rfl rfl rfl ?_
  refine W.iloadN w9 od_37_14 (pc' := 15) rfl rfl ?_
  refine W.iloadN w9 od_37_15 (pc' := 16) rfl rfl ?_
  refine W.ishl w9 od_37_16 (pc' := 17) rfl (z := (Int32.ofNat (cs.length))) (shl00 _) ?_
  refine W.aloadN w9 od_37_17 (pc' := 18) rfl rfl rfl ?_
  refine W.getF w9 (host := "") (Or.inl (ow_28 hw)) Via.refl F_x.2.2.1 od_37_18 (pc' := 21) rfl fun T10 w11 => ?_
  refine W.alen w11 Au od_37_21 (pc' := 22) rfl ?_
  refine W.copyN w11 (ow_222 hw) (ow_184 hw) (ow_182 hw) (ow_183 hw) Au V_t rfl (us := (by8 (cs ++ ds) ++ rs.drop ds.length)) z_ok (n_ok (a := cs.length) (by omega)) (n_ok (a := ds.length) (by omega)) (n_nat (a := ds.length) (by omega)) (n_nat (a := cap) (by omega)) (by omega) (by omega) (copy_into cs ds rs _ rfl rfl) (by simp [by8_len]; omega) (memA mem0) od_37_22 (pc' := 25) rfl rfl (by decide) (Wd := 0) rfl (by decide) fun T12 h13 w14 K15 V16 => ?_
  refine W.goto w14 od_37_25 (pc' := 43) (by decide) (by decide) ?_
  have C17 := Keep.refl h0 [t]
  have C18 := C17.trans K15 (allS (Or.inl mem0) RoadKit.all0)
  exact W.ret0 w14 rfl od_37_43 (M' := []) mN (by decide) (by decide) ⟨rfl, rfl, C18, ⟨_, V16⟩⟩
set_option maxRecDepth 65536 in
set_option maxHeartbeats 40000000 in
theorem c_putString {l : Launch} {Z : State} {a0 : Array Value} (hw : HW Z a0) {h0 : Heap} {b : Addr} (E_b : Exa Z h0 b "java/lang/StringBuilder") (F_c : Fld Z h0 b "java/lang/AbstractStringBuilder" "coder" "B" (.int 0)) {x u : Addr} {ds : List Int32} (F_x : Str8 Z h0 x u ds) {t : Addr} {k : ClassId} {cs : List Int32} {rs : List Value} {cap : Nat} (V_t : Arv Z h0 t k .byte (Int32.ofNat cap) (by8 cs ++ rs) (.int 0)) (hcap : cs.length + rs.length = cap) (hc4 : cap ≤ 4000) (hfit : cs.length + ds.length ≤ cap) (F_v : Fld Z h0 b "java/lang/AbstractStringBuilder" "value" "[B" (.ref t)) (hO : Old Z Z.heap.size h0) : Ctr l Z EL0 nw0 ({ cls := "java/lang/AbstractStringBuilder", name := "putStringAt", desc := "(ILjava/lang/String;)V" } : Jvm.MethodName) jdk_68_method_73_code 3 none ({ frames := 2, cells := 0, slots := 0, locals := 33 } : Room) [.ref b, .int (Int32.ofNat cs.length), .ref x] h0 [t] (fun v h M' => v = none ∧ M' = [] ∧ Keep h0 h [t] ∧ ∃ k, Arv Z h t k .byte (Int32.ofNat cap) (by8 (cs ++ ds) ++ rs.drop ds.length) (.int 0)) := by
  refine of_body (a0 := a0) opn_5 (own_ew hw) hO (Ls := #[.val (.ref b), .val (.int (Int32.ofNat (cs.length))), .val (.ref x)]) (fun m => by first | (simp [entryFrame, mkF, argsToLocals, Value.category]; done) | rfl) (fun κ T0 w0 hnm => ?_)
  refine W.aloadN w0 od_35_0 (pc' := 1) rfl rfl rfl ?_
  refine W.aloadN w0 od_35_1 (pc' := 2) rfl rfl rfl ?_
  refine W.callV w0 (ow_211 hw) (decl_of (ow_212 hw) (ow_215 hw)) (nfSel (ow_214 hw)) (ow_214 hw) (ow_212 hw) (by decide) opd_1 E_b (Ctr.pay (c_inflate hw F_c F_x w0.old) (own_ew hw) (ow_215 hw) (ow_121 hw) (kf := 2) (kl := 26) (by decide) (by decide)) mN od_35_2 (pc' := 5) rfl rfl rfl (rest := []) rfl (Wd := 0) rfl (by decide) (by decide) (by decide) (by decide) fun v3 T1 h2 M4 w5 q6 => ?_
  obtain ⟨rfl, rfl, e7⟩ := q6
  obtain rfl := e7.symm
  show Go Z _ _ _ κ _ (T1.setTop (mkF (km κ) 5 #[.val (.ref b), .val (.int (Int32.ofNat (cs.length))), .val (.ref x)] []))
  refine W.aloadN w5 od_35_5 (pc' := 6) rfl rfl rfl ?_
  refine W.aloadN w5 od_35_6 (pc' := 7) rfl rfl rfl ?_
  refine W.getF w5 (host := "") (Or.inl (ow_125 hw)) Via.refl F_v od_35_7 (pc' := 10) rfl fun T8 w9 => ?_
  refine W.iloadN w9 od_35_10 (pc' := 11) rfl rfl ?_
  refine W.aloadN w9 od_35_11 (pc' := 12) rfl rfl rfl ?_
  refine W.getF w9 (host := "") (Or.inl (ow_127 hw)) Via.refl F_c od_35_12 (pc' := 15) rfl fun T10 w11 => ?_
  refine W.callV w11 (ow_217 hw) (ow_218 hw) (nfSel (ow_220 hw)) (ow_220 hw) (ow_219 hw) (by decide) opd_2 F_x.1 (Ctr.pay (c_getBytes hw F_x V_t hcap hc4 hfit w11.old) (own_ew hw) (ow_221 hw) (ow_3 hw) (kf := 2) (kl := 33) (by decide) (by decide)) (mC (memA mem0) mN) od_35_15 (pc' := 18) rfl rfl rfl (rest := []) rfl (Wd := 0) rfl (by decide) (by decide) (by decide) (by decide) fun v14 T12 h13 M15 w16 q17 => ?_
  obtain ⟨rfl, rfl, K18, k19, V20⟩ := q17
  show Go Z _ _ _ κ _ (T12.setTop (mkF (km κ) 18 #[.val (.ref b), .val (.int (Int32.ofNat (cs.length))), .val (.ref x)] []))
  have C21 := Keep.refl h0 [t]
  have C22 := C21.trans K18 (allS (Or.inl mem0) RoadKit.all0)
  exact W.ret0 w16 rfl od_35_18 (M' := []) mN (by decide) (by decide) ⟨rfl, rfl, C22, ⟨_, V20⟩⟩
set_option maxRecDepth 65536 in
set_option maxHeartbeats 40000000 in
theorem c_aappend {l : Launch} {Z : State} {a0 : Array Value} (hw : HW Z a0) {h0 : Heap} {b t x u : Addr} {cs ds : List Int32} {cap : Nat} {rs : List Value} (S_b : SB Z h0 b t cs cap rs) (hbt : b ≠ t) (F_x : Str8 Z h0 x u ds) (hxt : b ≠ x ∧ t ≠ x ∧ b ≠ u ∧ t ≠ u) (hsz : cs.length + ds.length ≤ cap ∨ cs.length + ds.length ≤ cap) (hO : Old Z Z.heap.size h0) : Ctr l Z EL0 nw0 ({ cls := "java/lang/AbstractStringBuilder", name := "append", desc := "(Ljava/lang/String;)Ljava/lang/AbstractStringBuilder;" } : Jvm.MethodName) jdk_68_method_22_code 3 (some (.object "java/lang/AbstractStringBuilder")) ({ frames := 3, cells := 0, slots := 0, locals := 47 } : Room) [.ref b, .ref x] h0 [b, t] (fun v h M' => v = some (.ref b) ∧ ∃ t' rs', M' = [t'] ∧ Keep h0 h [b, t] ∧ (t' = t ∨ h0.size ≤ t') ∧ b ≠ t' ∧ SB Z h b t' (cs ++ ds) (if cs.length + ds.length ≤ cap then cap else cap + max (cs.length + ds.length - cap) (cap + 2)) rs') := by
  refine of_body (a0 := a0) opn_6 (own_ew hw) hO (Ls := #[.val (.ref b), .val (.ref x), .unset]) (fun m => by first | (simp [entryFrame, mkF, argsToLocals, Value.category]; done) | rfl) (fun κ T0 w0 hnm => ?_)
  obtain ⟨E_b, F_c, F_n, F_v, ⟨k, V_t⟩, hcap, hlat, hc4, E_t⟩ := S_b
  obtain ⟨nbx, ntx, nbu, ntu⟩ := hxt
  have hl : (by8 cs ++ rs).length = cap := by rw [List.length_append, by8_len]; exact hcap
  have hlx := F_x.2.2.2.2.2
  have hcap2 : (if cs.length + ds.length ≤ cap then cap else cap + max (cs.length + ds.length - cap) (cap + 2)) ≤ 4000 ∧ cs.length + ds.length ≤ (if cs.length + ds.length ≤ cap then cap else cap + max (cs.length + ds.length - cap) (cap + 2)) := by split <;> omega
  refine W.aloadN w0 od_33_0 (pc' := 1) rfl rfl rfl ?_
  refine W.ifnonnullYes w0 od_33_1 (pc' := 9) (by decide) (by decide) ?_
  refine W.aloadN w0 od_33_9 (pc' := 10) rfl rfl rfl ?_
  refine W.callV w0 (ow_198 hw) (ow_133 hw) (nfSel (ow_135 hw)) (ow_135 hw) (ow_134 hw) (by decide) opd_3 F_x.1 (own_len hw w0.old F_x) mN od_33_10 (pc' := 13) rfl rfl rfl (rest := []) rfl (Wd := 0) rfl (by decide) (by decide) (by decide) (by decide) fun v3 T1 h2 M4 w5 q6 => ?_
  obtain ⟨rfl, rfl, e7⟩ := q6
  obtain rfl := e7.symm
  show Go Z _ _ _ κ _ (T1.setTop (mkF (km κ) 13 #[.val (.ref b), .val (.ref x), .unset] [(.int (Int32.ofNat (ds.length)))]))
  refine W.istoreN w5 od_33_13 (pc' := 14) rfl (Ls' := #[.val (.ref b), .val (.ref x), .val (.int (Int32.ofNat (ds.length)))]) rfl ?_
  refine W.aloadN w5 od_33_14 (pc' := 15) rfl rfl rfl ?_
  refine W.aloadN w5 od_33_15 (pc' := 16) rfl rfl rfl ?_
  refine W.getF w5 (host := "") (Or.inl (ow_199 hw)) Via.refl F_n od_33_16 (pc' := 19) rfl fun T8 w9 => ?_
  refine W.iloadN w9 od_33_19 (pc' := 20) rfl rfl ?_
  refine W.iadd w9 od_33_20 (pc' := 21) rfl (z := (Int32.ofNat (cs.length + ds.length))) (n_add _ _) ?_
  refine W.callV w9 (ow_201 hw) (decl_of (ow_202 hw) (ow_205 hw)) (nfSel (ow_204 hw)) (ow_204 hw) (ow_202 hw) (by decide) opd_4 E_b (Ctr.pay (c_ensure hw (m := cs.length + ds.length) E_b F_c F_n F_v V_t E_t hl hbt hc4 (by omega) (by omega) w9.old) (own_ew hw) (ow_205 hw) (ow_121 hw) (kf := 1) (kl := 14) (by decide) (by decide)) (mC (memA mem0) (mC (memA (memS mem0)) mN)) od_33_21 (pc' := 24) rfl rfl rfl (rest := []) rfl (Wd := 0) rfl (by decide) (by decide) (by decide) (by decide) fun v12 T10 h11 M13 w14 q15 => ?_
  obtain ⟨rfl, t16, L17, rs18, rfl, K19, W20, ne21, E22, F23, F24, F25, ⟨k26, V27⟩, e28, e29, e30, E31⟩ := q15
  rw [List.append_assoc] at V27
  have ne32 : x ≠ t16 := W20.elim (fun q => q ▸ Ne.symm ntx) (fun q => neL F_x.1.lt q)
  have ne33 : u ≠ t16 := W20.elim (fun q => q ▸ Ne.symm ntu) (fun q => neL F_x.lt2 q)
  show Go Z _ _ _ κ _ (T10.setTop (mkF (km κ) 24 #[.val (.ref b), .val (.ref x), .val (.int (Int32.ofNat (ds.length)))] []))
  refine W.aloadN w14 od_33_24 (pc' := 25) rfl rfl rfl ?_
  refine W.aloadN w14 od_33_25 (pc' := 26) rfl rfl rfl ?_
  refine W.getF w14 (host := "") (Or.inl (ow_199 hw)) Via.refl F24 od_33_26 (pc' := 29) rfl fun T34 w35 => ?_
  refine W.aloadN w35 od_33_29 (pc' := 30) rfl rfl rfl ?_
  have hq1 : cs.length + (rs ++ rs18).length = L17 := by rw [e28, List.length_append, List.length_append, by8_len]; omega
  have f36 := (F_x.keep K19 (ninS (Ne.symm nbx) nin0) (ninS (Ne.symm nbu) nin0))
  refine W.callV w35 (ow_206 hw) (decl_of (ow_207 hw) (ow_210 hw)) (nfSel (ow_209 hw)) (ow_209 hw) (ow_207 hw) (by decide) opd_5 E22 (Ctr.pay (c_putString hw E22 F23 f36 V27 hq1 (by rw [e30]; exact hcap2.1) e29 F25 w35.old) (own_ew hw) (ow_210 hw) (ow_121 hw) (kf := 3) (kl := 47) (by decide) (by decide)) (mC (memB mem0) mN) od_33_30 (pc' := 33) rfl rfl rfl (rest := []) rfl (Wd := 0) rfl (by decide) (by decide) (by decide) (by decide) fun v39 T37 h38 M40 w41 q42 => ?_
  obtain ⟨rfl, rfl, K43, k44, V45⟩ := q42
  show Go Z _ _ _ κ _ (T37.setTop (mkF (km κ) 33 #[.val (.ref b), .val (.ref x), .val (.int (Int32.ofNat (ds.length)))] []))
  refine W.aloadN w41 od_33_33 (pc' := 34) rfl rfl rfl ?_
  refine Jvm.Own.W.dup w41 od_33_34 rfl rfl ?_
  have f46 := (F24.keep K43 (ninS ne21 nin0))
  refine W.getF w41 (host := "") (Or.inl (ow_199 hw)) Via.refl f46 od_33_35 (pc' := 38) rfl fun T47 w48 => ?_
  refine W.iloadN w48 od_33_38 (pc' := 39) rfl rfl ?_
  refine W.iadd w48 od_33_39 (pc' := 40) rfl (z := (Int32.ofNat (cs.length + ds.length))) (n_add _ _) ?_
  have f49 := (E22.keep K43)
  refine W.putF w48 (host := "") (Or.inl (ow_199 hw)) Via.refl f46 f49 (Or.inl (ow_200 hw)) (ow_112 hw) (ty := .int) (by decide) rfl rfl (memA (memA (memA mem0))) od_33_40 (pc' := 43) rfl fun T50 h51 w52 W53 => ?_
  have f54 := (F23.keep K43 (ninS ne21 nin0))
  have F55 := f54.other W53 (Or.inr (slot_ne (Or.inl (ow_128 hw)) (Or.inl (ow_200 hw)) (by decide) (t := .byte) (t' := .int) (by decide) (by decide)))
  have f56 := (F25.keep K43 (ninS ne21 nin0))
  have F57 := f56.other W53 (Or.inr (slot_ne (Or.inl (ow_126 hw)) (Or.inl (ow_200 hw)) (by decide) (t := (.array .byte)) (t' := .int) (by decide) (by decide)))
  have F58 := f46.same W53
  have K59 := Keep.of_wr W53
  refine W.aloadN w52 od_33_43 (pc' := 44) rfl rfl rfl ?_
  have C60 := Keep.refl h0 [b, t]
  have C61 := C60.trans K19 (allS (Or.inl mem0) RoadKit.all0)
  have C62 := C61.trans K43 (allS (W20.elim (fun q => Or.inl (q ▸ memS mem0)) Or.inr) RoadKit.all0)
  have C63 := C62.trans K59 (allS (Or.inl mem0) RoadKit.all0)
  subst e30
  have f64 := (f49.keep K59)
  have f65 := (V45.keep K59 (ninS (Ne.symm ne21) nin0))
  have f66 := ((E31.keep K43).keep K59)
  exact W.retR w52 rfl rfl rfl od_33_44 (M' := [t16]) (mC (memA (memB mem0)) mN) (by decide) (by decide) ⟨rfl, t16, _, rfl, C63, W20, ne21, f64, F55, by rw [List.length_append]; exact F58, F57, ⟨_, f65⟩, by simp only [List.length_append, List.length_drop] at hq1 ⊢; omega, fun z hz => (List.mem_append.mp hz).elim (hlat z) (F_x.2.2.2.2.1 z), hcap2.1, f66⟩
set_option maxRecDepth 65536 in
set_option maxHeartbeats 40000000 in
theorem c_append {l : Launch} {Z : State} {a0 : Array Value} (hw : HW Z a0) {h0 : Heap} {b t x u : Addr} {cs ds : List Int32} {cap : Nat} {rs : List Value} (S_b : SB Z h0 b t cs cap rs) (hbt : b ≠ t) (F_x : Str8 Z h0 x u ds) (hxt : b ≠ x ∧ t ≠ x ∧ b ≠ u ∧ t ≠ u) (hsz : cs.length + ds.length ≤ cap ∨ cs.length + ds.length ≤ cap) (hO : Old Z Z.heap.size h0) : Ctr l Z EL0 nw0 ({ cls := "java/lang/StringBuilder", name := "append", desc := "(Ljava/lang/String;)Ljava/lang/StringBuilder;" } : Jvm.MethodName) jdk_67_method_7_code 2 (some (.object "java/lang/StringBuilder")) ({ frames := 4, cells := 0, slots := 0, locals := 61 } : Room) [.ref b, .ref x] h0 [b, t] (fun v h M' => v = some (.ref b) ∧ ∃ t' rs', M' = [t'] ∧ Keep h0 h [b, t] ∧ (t' = t ∨ h0.size ≤ t') ∧ b ≠ t' ∧ SB Z h b t' (cs ++ ds) (if cs.length + ds.length ≤ cap then cap else cap + max (cs.length + ds.length - cap) (cap + 2)) rs') := by
  refine of_body (a0 := a0) opn_7 (own_ew hw) hO (Ls := #[.val (.ref b), .val (.ref x)]) (fun m => by first | (simp [entryFrame, mkF, argsToLocals, Value.category]; done) | rfl) (fun κ T0 w0 hnm => ?_)
  refine W.aloadN w0 od_32_0 (pc' := 1) rfl rfl rfl ?_
  refine W.aloadN w0 od_32_1 (pc' := 2) rfl rfl rfl ?_
  refine W.callU w0 (ow_193 hw) (sm_of (ow_196 hw) (ow_204 hw) rfl (by decide)) (ow_194 hw) (ow_195 hw) (ow_197 hw) (by decide) opd_6 (Ins.self S_b.1) (Ctr.pay (c_aappend hw S_b hbt F_x hxt hsz w0.old) (own_ew hw) (ow_197 hw) (ow_121 hw) (kf := 4) (kl := 61) (by decide) (by decide)) (mC mem0 (mC (memS mem0) mN)) od_32_2 (pc' := 5) rfl rfl rfl (rest := []) rfl (Wd := 0) rfl (by decide) (by decide) (by decide) (by decide) fun v3 T1 h2 M4 w5 q6 => ?_
  obtain ⟨rfl, t7, rs8, rfl, K9, W10, ne11, F12⟩ := q6
  show Go Z _ _ _ κ _ (T1.setTop (mkF (km κ) 5 #[.val (.ref b), .val (.ref x)] [(.ref b)]))
  refine Jvm.Own.W.pop w5 od_32_5 rfl rfl ?_
  refine W.aloadN w5 od_32_6 (pc' := 7) rfl rfl rfl ?_
  have C13 := Keep.refl h0 [b, t]
  have C14 := C13.trans K9 (allS (Or.inl mem0) (allS (Or.inl (memS mem0)) RoadKit.all0))
  exact W.retR w5 rfl rfl rfl od_32_7 (M' := [t7]) (mC (memB mem0) mN) (by decide) (by decide) ⟨rfl, t7, rs8, rfl, C14, W10, ne11, F12⟩
set_option maxRecDepth 65536 in
set_option maxHeartbeats 40000000 in
theorem c_ainit {l : Launch} {Z : State} {a0 : Array Value} (hw : HW Z a0) {h0 : Heap} {b : Addr} {v1 v2 : Value} (E_b : Exa Z h0 b "java/lang/StringBuilder") (F_v : Fld Z h0 b "java/lang/AbstractStringBuilder" "value" "[B" v1) (F_c : Fld Z h0 b "java/lang/AbstractStringBuilder" "coder" "B" v2) (F_n : Fld Z h0 b "java/lang/AbstractStringBuilder" "count" "I" (.int 0)) (hO : Old Z Z.heap.size h0) : Ctr l Z EL0 nw0 ({ cls := "java/lang/AbstractStringBuilder", name := "<init>", desc := "(I)V" } : Jvm.MethodName) jdk_68_method_2_code 2 none ({ frames := 1, cells := 1, slots := 16, locals := 12 } : Room) [.ref b, .int 16] h0 [b] (fun v h M' => v = none ∧ ∃ t, M' = [t] ∧ Keep h0 h [b] ∧ h0.size ≤ t ∧ SB Z h b t [] 16 (List.replicate 16 (.int 0))) := by
  refine of_body (a0 := a0) opn_8 (own_ew hw) hO (Ls := #[.val (.ref b), .val (.int (16 : Int32))]) (fun m => by first | (simp [entryFrame, mkF, argsToLocals, Value.category]; done) | rfl) (fun κ T0 w0 hnm => ?_)
  obtain ⟨zC, SC, hzC⟩ := hw.2.1.1
  refine W.aloadN w0 od_18_0 (pc' := 1) rfl rfl rfl ?_
  refine W.initO w0 (ow_123 hw) (ow_12 hw) (ow_13 hw) od_18_1 (pc' := 4) rfl rfl (by decide) (Wd := 0) rfl (by decide) fun T1 w2 => ?_
  refine W.getS w2 (ow_124 hw) Via.refl (SC.ext w2.old.2) od_18_4 (pc' := 7) rfl fun T3 w4 => ?_
  refine W.ifNo w4 od_18_7 (pc' := 10) rfl ((if0 _ _).trans (feq hzC).1) ?_
  refine W.aloadN w4 od_18_10 (pc' := 11) rfl rfl rfl ?_
  refine W.iloadN w4 od_18_11 (pc' := 12) rfl rfl ?_
  refine W.newPE w4 (ty := .byte) rfl (ow_19 hw) (ad := "[B") (by decide) od_18_12 (pc' := 14) rfl (by decide) (len := 16) (by decide) (cap := 16) (by decide) (by decide) (by decide) (by decide) fun T5 h6 a7 k8 w9 K10 B11 V12 E13 => ?_
  have ne14 : b ≠ a7 := neL E_b.lt B11
  have V15 : Arv Z h6 a7 k8 .byte (16 : Int32) (List.replicate (16) (.int 0)) (.int 0) := V12
  have f16 := (F_v.keep K10 nin0)
  have f17 := (E_b.keep K10)
  refine W.putF w9 (host := "") (Or.inl (ow_125 hw)) Via.refl f16 f17 (Or.inl (ow_126 hw)) (ow_112 hw) (ty := (.array .byte)) (by decide) rfl rfl (memS mem0) od_18_14 (pc' := 17) rfl fun T18 h19 w20 W21 => ?_
  have f22 := (F_c.keep K10 nin0)
  have F23 := f22.other W21 (Or.inr (slot_ne (Or.inl (ow_128 hw)) (Or.inl (ow_126 hw)) (by decide) (t := .byte) (t' := (.array .byte)) (by decide) (by decide)))
  have f24 := (F_n.keep K10 nin0)
  have F25 := f24.other W21 (Or.inr (slot_ne (Or.inl (ow_200 hw)) (Or.inl (ow_126 hw)) (by decide) (t := .int) (t' := (.array .byte)) (by decide) (by decide)))
  have F26 := f16.same W21
  have K27 := Keep.of_wr W21
  refine W.aloadN w20 od_18_17 (pc' := 18) rfl rfl rfl ?_
  refine W.iconst w20 od_18_18 (pc' := 19) rfl (z := (0 : Int32)) rfl ?_
  have f28 := (f17.keep K27)
  refine W.putFN w20 (ow_127 hw) Via.refl F23 f28 (Or.inl (ow_128 hw)) (ow_112 hw) (ty := .byte) (v' := (.int (0 : Int32))) (by decide) rfl rfl (memS mem0) od_18_19 (pc' := 22) rfl fun T29 h30 w31 W32 => ?_
  have F33 := F26.other W32 (Or.inr (slot_ne (Or.inl (ow_126 hw)) (Or.inl (ow_128 hw)) (by decide) (t := (.array .byte)) (t' := .byte) (by decide) (by decide)))
  have F34 := F25.other W32 (Or.inr (slot_ne (Or.inl (ow_200 hw)) (Or.inl (ow_128 hw)) (by decide) (t := .int) (t' := .byte) (by decide) (by decide)))
  have F35 := F23.same W32
  have K36 := Keep.of_wr W32
  refine W.goto w31 od_18_22 (pc' := 38) (by decide) (by decide) ?_
  have C37 := Keep.refl h0 [b]
  have C38 := C37.trans K10 RoadKit.all0
  have C39 := C38.trans K27 (allS (Or.inl mem0) RoadKit.all0)
  have C40 := C39.trans K36 (allS (Or.inl mem0) RoadKit.all0)
  have f41 := (f28.keep K36)
  have f42 := ((V15.keep K27 (ninS (Ne.symm ne14) nin0)).keep K36 (ninS (Ne.symm ne14) nin0))
  have f43 := ((E13.keep K27).keep K36)
  exact W.ret0 w31 rfl od_18_38 (M' := [a7]) (mC mem0 mN) (by decide) (by decide) ⟨rfl, a7, rfl, C40, B11, f41, F35, F34, F33, ⟨_, f42⟩, rfl, fa0, by decide, f43⟩
set_option maxRecDepth 65536 in
set_option maxHeartbeats 40000000 in
theorem c_sbinit {l : Launch} {Z : State} {a0 : Array Value} (hw : HW Z a0) {h0 : Heap} {b : Addr} {v1 v2 : Value} (E_b : Exa Z h0 b "java/lang/StringBuilder") (F_v : Fld Z h0 b "java/lang/AbstractStringBuilder" "value" "[B" v1) (F_c : Fld Z h0 b "java/lang/AbstractStringBuilder" "coder" "B" v2) (F_n : Fld Z h0 b "java/lang/AbstractStringBuilder" "count" "I" (.int 0)) (hO : Old Z Z.heap.size h0) : Ctr l Z EL0 nw0 ({ cls := "java/lang/StringBuilder", name := "<init>", desc := "()V" } : Jvm.MethodName) jdk_67_method_1_code 1 none ({ frames := 2, cells := 1, slots := 16, locals := 25 } : Room) [.ref b] h0 [b] (fun v h M' => v = none ∧ ∃ t, M' = [t] ∧ Keep h0 h [b] ∧ h0.size ≤ t ∧ SB Z h b t [] 16 (List.replicate 16 (.int 0))) := by
  refine of_body (a0 := a0) opn_9 (own_ew hw) hO (Ls := #[.val (.ref b)]) (fun m => by first | (simp [entryFrame, mkF, argsToLocals, Value.category]; done) | rfl) (fun κ T0 w0 hnm => ?_)
  refine W.aloadN w0 od_17_0 (pc' := 1) rfl rfl rfl ?_
  refine W.bipush w0 od_17_1 (pc' := 3) rfl (z := (16 : Int32)) rfl ?_
  refine W.callI w0 (ow_117 hw) (ow_118 hw) (ow_122 hw) rfl (by decide) opd_4 (Ctr.pay (c_ainit hw E_b F_v F_c F_n w0.old) (own_ew hw) (ow_122 hw) (ow_121 hw) (kf := 2) (kl := 25) (by decide) (by decide)) (mC mem0 mN) od_17_3 (pc' := 6) rfl rfl rfl (rest := []) rfl (Wd := 0) rfl (by decide) (by decide) (by decide) (by decide) fun v3 T1 h2 M4 w5 q6 => ?_
  obtain ⟨rfl, t7, rfl, K8, B9, F10⟩ := q6
  show Go Z _ _ _ κ _ (T1.setTop (mkF (km κ) 6 #[.val (.ref b)] []))
  have C11 := Keep.refl h0 [b]
  have C12 := C11.trans K8 (allS (Or.inl mem0) RoadKit.all0)
  exact W.ret0 w5 rfl od_17_6 (M' := [t7]) (mC (memB mem0) mN) (by decide) (by decide) ⟨rfl, t7, rfl, C12, B9, F10⟩
set_option maxRecDepth 65536 in
set_option maxHeartbeats 40000000 in
theorem c_getValue {l : Launch} {Z : State} {a0 : Array Value} (hw : HW Z a0) {h0 : Heap} {b t : Addr} {cs : List Int32} {cap : Nat} {rs : List Value} (S_b : SB Z h0 b t cs cap rs) (hO : Old Z Z.heap.size h0) : Ctr l Z EL0 nw0 ({ cls := "java/lang/AbstractStringBuilder", name := "getValue", desc := "()[B" } : Jvm.MethodName) jdk_68_method_64_code 1 (some (.array .byte)) ({ frames := 0, cells := 0, slots := 0, locals := 0 } : Room) [.ref b] h0 [] (fun v h M' => v = some (.ref t) ∧ M' = [] ∧ h = h0) := by
  refine of_body (a0 := a0) opn_10 (own_ew hw) hO (Ls := #[.val (.ref b)]) (fun m => by first | (simp [entryFrame, mkF, argsToLocals, Value.category]; done) | rfl) (fun κ T0 w0 hnm => ?_)
  obtain ⟨E_b, F_c, F_n, F_v, ⟨k, V_t⟩, hcap, hlat, hc4, E_t⟩ := S_b
  refine W.aloadN w0 od_43_0 (pc' := 1) rfl rfl rfl ?_
  refine W.getF w0 (host := "") (Or.inl (ow_125 hw)) Via.refl F_v od_43_1 (pc' := 4) rfl fun T1 w2 => ?_
  exact W.retR w2 rfl rfl rfl od_43_4 (M' := []) mN (by decide) (by decide) ⟨rfl, rfl, rfl⟩
set_option maxRecDepth 65536 in
set_option maxHeartbeats 40000000 in
theorem c_alength {l : Launch} {Z : State} {a0 : Array Value} (hw : HW Z a0) {h0 : Heap} {b t : Addr} {cs : List Int32} {cap : Nat} {rs : List Value} (S_b : SB Z h0 b t cs cap rs) (hO : Old Z Z.heap.size h0) : Ctr l Z EL0 nw0 ({ cls := "java/lang/AbstractStringBuilder", name := "length", desc := "()I" } : Jvm.MethodName) jdk_68_method_6_code 1 (some .int) ({ frames := 0, cells := 0, slots := 0, locals := 0 } : Room) [.ref b] h0 [] (fun v h M' => v = some (.int (Int32.ofNat (cs.length))) ∧ M' = [] ∧ h = h0) := by
  refine of_body (a0 := a0) opn_11 (own_ew hw) hO (Ls := #[.val (.ref b)]) (fun m => by first | (simp [entryFrame, mkF, argsToLocals, Value.category]; done) | rfl) (fun κ T0 w0 hnm => ?_)
  obtain ⟨E_b, F_c, F_n, F_v, ⟨k, V_t⟩, hcap, hlat, hc4, E_t⟩ := S_b
  refine W.aloadN w0 od_45_0 (pc' := 1) rfl rfl rfl ?_
  refine W.getF w0 (host := "") (Or.inl (ow_199 hw)) Via.refl F_n od_45_1 (pc' := 4) rfl fun T1 w2 => ?_
  exact W.retI w2 rfl od_45_4 (M' := []) mN (by decide) (by decide) ⟨rfl, rfl, rfl⟩
set_option maxRecDepth 65536 in
set_option maxHeartbeats 40000000 in
theorem c_aLatin1 {l : Launch} {Z : State} {a0 : Array Value} (hw : HW Z a0) {h0 : Heap} {b t : Addr} {cs : List Int32} {cap : Nat} {rs : List Value} (S_b : SB Z h0 b t cs cap rs) (hO : Old Z Z.heap.size h0) : Ctr l Z EL0 nw0 ({ cls := "java/lang/AbstractStringBuilder", name := "isLatin1", desc := "()Z" } : Jvm.MethodName) jdk_68_method_68_code 1 (some .boolean) ({ frames := 0, cells := 0, slots := 0, locals := 0 } : Room) [.ref b] h0 [] (fun v h M' => v = some (.int (1 : Int32)) ∧ M' = [] ∧ h = h0) := by
  refine of_body (a0 := a0) opn_12 (own_ew hw) hO (Ls := #[.val (.ref b)]) (fun m => by first | (simp [entryFrame, mkF, argsToLocals, Value.category]; done) | rfl) (fun κ T0 w0 hnm => ?_)
  obtain ⟨E_b, F_c, F_n, F_v, ⟨k, V_t⟩, hcap, hlat, hc4, E_t⟩ := S_b
  obtain ⟨zC, SC, hzC⟩ := hw.2.1.1
  refine W.getS w0 (ow_124 hw) Via.refl (SC.ext w0.old.2) od_46_0 (pc' := 3) rfl fun T1 w2 => ?_
  refine W.ifNo w2 od_46_3 (pc' := 6) rfl ((if0 _ _).trans (feq hzC).1) ?_
  refine W.aloadN w2 od_46_6 (pc' := 7) rfl rfl rfl ?_
  refine W.getF w2 (host := "") (Or.inl (ow_127 hw)) Via.refl F_c od_46_7 (pc' := 10) rfl fun T3 w4 => ?_
  refine W.ifNo w4 od_46_10 (pc' := 13) rfl ((if0 _ _).trans (teq (by decide : (0 : Int32) = (0 : Int32))).2) ?_
  refine W.iconst w4 od_46_13 (pc' := 14) rfl (z := (1 : Int32)) rfl ?_
  refine W.goto w4 od_46_14 (pc' := 18) (by decide) (by decide) ?_
  exact W.retN w4 (t := .boolean) (z' := (1 : Int32)) rfl rfl (by simp) od_46_18 (M' := []) mN (by decide) (by decide) ⟨rfl, rfl, rfl⟩
set_option maxRecDepth 65536 in
set_option maxHeartbeats 40000000 in
theorem c_sblength {l : Launch} {Z : State} {a0 : Array Value} (hw : HW Z a0) {h0 : Heap} {b t : Addr} {cs : List Int32} {cap : Nat} {rs : List Value} (S_b : SB Z h0 b t cs cap rs) (hO : Old Z Z.heap.size h0) : Ctr l Z EL0 nw0 ({ cls := "java/lang/StringBuilder", name := "length", desc := "()I" } : Jvm.MethodName) jdk_67_method_93_code 1 (some .int) ({ frames := 1, cells := 0, slots := 0, locals := 12 } : Room) [.ref b] h0 [] (fun v h M' => v = some (.int (Int32.ofNat (cs.length))) ∧ M' = [] ∧ h = h0) := by
  refine of_body (a0 := a0) opn_13 (own_ew hw) hO (Ls := #[.val (.ref b)]) (fun m => by first | (simp [entryFrame, mkF, argsToLocals, Value.category]; done) | rfl) (fun κ T0 w0 hnm => ?_)
  obtain ⟨E_b, F_c, F_n, F_v, ⟨k, V_t⟩, hcap, hlat, hc4, E_t⟩ := S_b
  have S_b : SB Z h0 b t cs cap rs := ⟨E_b, F_c, F_n, F_v, ⟨k, V_t⟩, hcap, hlat, hc4, E_t⟩
  refine W.aloadN w0 od_44_0 (pc' := 1) rfl rfl rfl ?_
  refine W.callU w0 (ow_257 hw) (sm_of (ow_252 hw) (ow_204 hw) rfl (by decide)) (ow_253 hw) (ow_195 hw) (ow_258 hw) (by decide) opd_3 (Ins.self E_b) (Ctr.pay (c_alength hw S_b w0.old) (own_ew hw) (ow_258 hw) (ow_121 hw) (kf := 1) (kl := 12) (by decide) (by decide)) mN od_44_1 (pc' := 4) rfl rfl rfl (rest := []) rfl (Wd := 0) rfl (by decide) (by decide) (by decide) (by decide) fun v3 T1 h2 M4 w5 q6 => ?_
  obtain ⟨rfl, rfl, e7⟩ := q6
  obtain rfl := e7.symm
  show Go Z _ _ _ κ _ (T1.setTop (mkF (km κ) 4 #[.val (.ref b)] [(.int (Int32.ofNat (cs.length)))]))
  exact W.retI w5 rfl od_44_4 (M' := []) mN (by decide) (by decide) ⟨rfl, rfl, rfl⟩
set_option maxRecDepth 65536 in
set_option maxHeartbeats 40000000 in
theorem c_checkLength {l : Launch} {Z : State} {a0 : Array Value} (hw : HW Z a0) {h0 : Heap} {p q : Nat} (hpq : p ≤ q) (hq : q < 2147483648) (hO : Old Z Z.heap.size h0) : Ctr l Z EL0 nw0 ({ cls := "java/util/Arrays", name := "checkLength", desc := "(II)V" } : Jvm.MethodName) jdk_65_method_131_code 2 none ({ frames := 0, cells := 0, slots := 0, locals := 0 } : Room) [.int (Int32.ofNat p), .int (Int32.ofNat q)] h0 [] (fun v h M' => v = none ∧ M' = [] ∧ h = h0) := by
  refine of_body (a0 := a0) opn_14 (own_ew hw) hO (Ls := #[.val (.int (Int32.ofNat (p))), .val (.int (Int32.ofNat (q)))]) (fun m => by first | (simp [entryFrame, mkF, argsToLocals, Value.category]; done) | rfl) (fun κ T0 w0 hnm => ?_)
  refine W.iloadN w0 od_29_0 (pc' := 1) rfl rfl ?_
  refine W.iloadN w0 od_29_1 (pc' := 2) rfl rfl ?_
  refine W.icmpYes w0 od_29_2 (pc' := 37) (by decide) (by decide) (flt (show ¬ ((Int32.ofNat (q)) < (Int32.ofNat (p))) from fun hlt_ => absurd ((i_lt (n_val (a := q) (by omega)) (n_val (a := p) (by omega))).mp hlt_) (by omega))).2.1 ?_
  exact W.ret0 w0 rfl od_29_37 (M' := []) mN (by decide) (by decide) ⟨rfl, rfl, rfl⟩
set_option maxRecDepth 65536 in
set_option maxHeartbeats 40000000 in
theorem c_cofrb {l : Launch} {Z : State} {a0 : Array Value} (hw : HW Z a0) {h0 : Heap} {a : Addr} {p q : Nat} {k : ClassId} {vs : List Value} {L : Nat} (V_a : Arv Z h0 a k .byte (Int32.ofNat L) vs (.int 0)) (hl : vs.length = L) (hL : L ≤ 4000) (hpq : p ≤ q) (hqL : q ≤ L) (hq2 : q - p ≤ 40) (hO : Old Z Z.heap.size h0) : Ctr l Z EL0 nw0 ({ cls := "java/util/Arrays", name := "copyOfRangeByte", desc := "([BII)[B" } : Jvm.MethodName) jdk_65_method_133_code 5 (some (.array .byte)) ({ frames := 1, cells := 1, slots := 40, locals := 18 } : Room) [.ref a, .int (Int32.ofNat p), .int (Int32.ofNat q)] h0 [] (fun v h M' => ∃ b, v = some (.ref b) ∧ M' = [b] ∧ Keep h0 h [] ∧ h0.size ≤ b ∧ ∃ k', Arv Z h b k' .byte (Int32.ofNat (q - p)) ((vs.drop p).take (q - p)) (.int 0)) := by
  refine of_body (a0 := a0) opn_15 (own_ew hw) hO (Ls := #[.val (.ref a), .val (.int (Int32.ofNat (p))), .val (.int (Int32.ofNat (q))), .unset, .unset]) (fun m => by first | (simp [entryFrame, mkF, argsToLocals, Value.category]; done) | rfl) (fun κ T0 w0 hnm => ?_)
  refine W.iloadN w0 od_28_0 (pc' := 1) rfl rfl ?_
  refine W.iloadN w0 od_28_1 (pc' := 2) rfl rfl ?_
  refine W.callS w0 (ow_174 hw) (ow_175 hw) (ow_169 hw) (ow_176 hw) (by decide) opd_7 (Ctr.pay (c_checkLength hw (p := p) (q := q) (by omega) (by omega) w0.old) (own_ew hw) (ow_176 hw) (ow_169 hw) (kf := 1) (kl := 13) (by decide) (by decide)) mN od_28_2 (pc' := 5) rfl rfl rfl (rest := []) rfl (Wd := 0) rfl (by decide) (by decide) (by decide) (by decide) fun v3 T1 h2 M4 w5 q6 => ?_
  obtain ⟨rfl, rfl, e7⟩ := q6
  obtain rfl := e7.symm
  show Go Z _ _ _ κ _ (T1.setTop (mkF (km κ) 5 #[.val (.ref a), .val (.int (Int32.ofNat (p))), .val (.int (Int32.ofNat (q))), .unset, .unset] []))
  refine W.iloadN w5 od_28_5 (pc' := 6) rfl rfl ?_
  refine W.iloadN w5 od_28_6 (pc' := 7) rfl rfl ?_
  refine W.isub w5 od_28_7 (pc' := 8) rfl (z := (Int32.ofNat (q - (p)))) (n_sub (a := q) (b := p) (by omega)) ?_
  refine W.istoreN w5 od_28_8 (pc' := 9) rfl (Ls' := #[.val (.ref a), .val (.int (Int32.ofNat (p))), .val (.int (Int32.ofNat (q))), .val (.int (Int32.ofNat (q - (p)))), .unset]) rfl ?_
  refine W.iloadN w5 od_28_9 (pc' := 10) rfl rfl ?_
  refine W.newPE w5 (ty := .byte) rfl (ow_19 hw) (ad := "[B") (by decide) od_28_10 (pc' := 12) rfl (n_nn (a := q - (p)) (by omega)) (len := q - (p)) (n_nat (by omega)) (cap := 40) (by omega) (by decide) (by decide) (by decide) fun T8 h9 a10 k11 w12 K13 B14 V15 E16 => ?_
  have ne17 : a ≠ a10 := neL V_a.lt B14
  have V18 : Arv Z h9 a10 k11 .byte (Int32.ofNat (q - (p))) (List.replicate (q - (p)) (.int 0)) (.int 0) := V15
  refine W.astore w12 od_28_12 (pc' := 14) rfl (Ls' := #[.val (.ref a), .val (.int (Int32.ofNat (p))), .val (.int (Int32.ofNat (q))), .val (.int (Int32.ofNat (q - (p)))), .val (.ref a10)]) rfl rfl ?_
  refine W.aloadN w12 od_28_14 (pc' := 15) rfl rfl rfl ?_
  refine W.iloadN w12 od_28_15 (pc' := 16) rfl rfl ?_
  refine W.aload w12 od_28_16 (pc' := 18) rfl rfl rfl ?_
  refine W.iconst w12 od_28_18 (pc' := 19) rfl (z := (0 : Int32)) rfl ?_
  refine W.aloadN w12 od_28_19 (pc' := 20) rfl rfl rfl ?_
  have f19 := (V_a.keep K13 nin0)
  refine W.alen w12 f19 od_28_20 (pc' := 21) rfl ?_
  refine W.iloadN w12 od_28_21 (pc' := 22) rfl rfl ?_
  refine W.isub w12 od_28_22 (pc' := 23) rfl (z := (Int32.ofNat (L - (p)))) (n_sub (a := L) (b := p) (by omega)) ?_
  refine W.iloadN w12 od_28_23 (pc' := 24) rfl rfl ?_
  refine W.callS w12 (ow_177 hw) (ow_178 hw) (ow_179 hw) (ow_180 hw) (by decide) opd_8 (Ctr.pay (c_min hw (p := L - (p)) (q := q - (p)) (by omega) (by omega) w12.old) (own_ew hw) (ow_180 hw) (ow_179 hw) (kf := 1) (kl := 13) (by decide) (by decide)) mN od_28_24 (pc' := 27) rfl rfl rfl (rest := [(.int (0 : Int32)), (.ref a10), (.int (Int32.ofNat (p))), (.ref a)]) rfl (Wd := 4) rfl (by decide) (by decide) (by decide) (by decide) fun v22 T20 h21 M23 w24 q25 => ?_
  rw [show min (L - (p)) (q - (p)) = q - (p) from by omega] at q25
  obtain ⟨rfl, rfl, e26⟩ := q25
  obtain rfl := e26.symm
  show Go Z _ _ _ κ _ (T20.setTop (mkF (km κ) 27 #[.val (.ref a), .val (.int (Int32.ofNat (p))), .val (.int (Int32.ofNat (q))), .val (.int (Int32.ofNat (q - (p)))), .val (.ref a10)] [(.int (Int32.ofNat (q - (p)))), (.int (0 : Int32)), (.ref a10), (.int (Int32.ofNat (p))), (.ref a)]))
  refine W.copyN w24 (ow_181 hw) (ow_184 hw) (ow_182 hw) (ow_183 hw) f19 V18 rfl (us := ((vs.drop p).take (q - p))) (n_ok (a := p) (by omega)) z_ok (n_ok (a := q - (p)) (by omega)) (n_nat (a := L) (by omega)) (n_nat (a := q - (p)) (by omega)) (by omega) (by omega) (copy_sub vs _ _ (by omega)) (by simp) (memA mem0) od_28_27 (pc' := 30) rfl rfl (by decide) (Wd := 0) rfl (by decide) fun T27 h28 w29 K30 V31 => ?_
  refine W.aload w29 od_28_30 (pc' := 32) rfl rfl rfl ?_
  have C32 := Keep.refl h0 []
  have C33 := C32.trans K13 RoadKit.all0
  have C34 := C33.trans K30 (allS (Or.inr B14) RoadKit.all0)
  exact W.retR w29 rfl rfl rfl od_28_32 (M' := [a10]) (mC (memA mem0) mN) (by decide) (by decide) ⟨a10, rfl, rfl, C34, B14, ⟨_, V31⟩⟩
set_option maxRecDepth 65536 in
set_option maxHeartbeats 40000000 in
theorem c_cofr {l : Launch} {Z : State} {a0 : Array Value} (hw : HW Z a0) {h0 : Heap} {a : Addr} {p q : Nat} {k : ClassId} {vs : List Value} {L : Nat} (V_a : Arv Z h0 a k .byte (Int32.ofNat L) vs (.int 0)) (hl : vs.length = L) (hL : L ≤ 4000) (hpq : p ≤ q) (hqL : q ≤ L) (hq2 : q - p ≤ 40) (hnq : p = 0 → q < L) (hO : Old Z Z.heap.size h0) : Ctr l Z EL0 nw0 ({ cls := "java/util/Arrays", name := "copyOfRange", desc := "([BII)[B" } : Jvm.MethodName) jdk_65_method_132_code 3 (some (.array .byte)) ({ frames := 2, cells := 1, slots := 40, locals := 34 } : Room) [.ref a, .int (Int32.ofNat p), .int (Int32.ofNat q)] h0 [] (fun v h M' => ∃ b, v = some (.ref b) ∧ M' = [b] ∧ Keep h0 h [] ∧ h0.size ≤ b ∧ ∃ k', Arv Z h b k' .byte (Int32.ofNat (q - p)) ((vs.drop p).take (q - p)) (.int 0)) := by
  refine of_body (a0 := a0) opn_16 (own_ew hw) hO (Ls := #[.val (.ref a), .val (.int (Int32.ofNat (p))), .val (.int (Int32.ofNat (q)))]) (fun m => by first | (simp [entryFrame, mkF, argsToLocals, Value.category]; done) | rfl) (fun κ T0 w0 hnm => ?_)
  rcases Decidable.em (p = 0) with hp0 | hp0
  · have hq7 := hnq hp0
    refine W.iloadN w0 od_27_0 (pc' := 1) rfl rfl ?_
    refine W.ifNo w0 od_27_1 (pc' := 4) rfl ((if0 _ _).trans (teq (show (Int32.ofNat (p)) = (0 : Int32) from (i_eq (n_val (a := p) (by omega)) (show (0 : Int32).toInt = 0 by decide)).mpr (by omega))).2) ?_
    refine W.iloadN w0 od_27_4 (pc' := 5) rfl rfl ?_
    refine W.aloadN w0 od_27_5 (pc' := 6) rfl rfl rfl ?_
    refine W.alen w0 V_a od_27_6 (pc' := 7) rfl ?_
    refine W.icmpNo w0 od_27_7 (pc' := 10) rfl (feq (show ¬ ((Int32.ofNat (q)) = (Int32.ofNat (L))) from fun hlt_ => absurd ((i_eq (n_val (a := q) (by omega)) (n_val (a := L) (by omega))).mp hlt_) (by omega))).1 ?_
    refine W.aloadN w0 od_27_10 (pc' := 11) rfl rfl rfl ?_
    refine W.iloadN w0 od_27_11 (pc' := 12) rfl rfl ?_
    refine W.iloadN w0 od_27_12 (pc' := 13) rfl rfl ?_
    refine W.callS w0 (ow_171 hw) (ow_172 hw) (ow_169 hw) (ow_173 hw) (by decide) opd_9 (Ctr.pay (c_cofrb hw V_a hl hL hpq hqL hq2 w0.old) (own_ew hw) (ow_173 hw) (ow_169 hw) (kf := 2) (kl := 34) (by decide) (by decide)) mN od_27_13 (pc' := 16) rfl rfl rfl (rest := []) rfl (Wd := 0) rfl (by decide) (by decide) (by decide) (by decide) fun v3 T1 h2 M4 w5 q6 => ?_
    obtain ⟨a7, rfl, rfl, K8, B9, k10, V11⟩ := q6
    show Go Z _ _ _ κ _ (T1.setTop (mkF (km κ) 16 #[.val (.ref a), .val (.int (Int32.ofNat (p))), .val (.int (Int32.ofNat (q)))] [(.ref a7)]))
    have C12 := Keep.refl h0 []
    have C13 := C12.trans K8 RoadKit.all0
    exact W.retR w5 rfl rfl rfl od_27_16 (M' := [a7]) (mC (memB mem0) mN) (by decide) (by decide) ⟨a7, rfl, rfl, C13, B9, ⟨_, V11⟩⟩
  · refine W.iloadN w0 od_27_0 (pc' := 1) rfl rfl ?_
    refine W.ifYes w0 od_27_1 (pc' := 10) (by decide) (by decide) ((if0 _ _).trans (feq (show ¬ ((Int32.ofNat (p)) = (0 : Int32)) from fun hlt_ => absurd ((i_eq (n_val (a := p) (by omega)) (show (0 : Int32).toInt = 0 by decide)).mp hlt_) (by omega))).2) ?_
    refine W.aloadN w0 od_27_10 (pc' := 11) rfl rfl rfl ?_
    refine W.iloadN w0 od_27_11 (pc' := 12) rfl rfl ?_
    refine W.iloadN w0 od_27_12 (pc' := 13) rfl rfl ?_
    refine W.callS w0 (ow_171 hw) (ow_172 hw) (ow_169 hw) (ow_173 hw) (by decide) opd_9 (Ctr.pay (c_cofrb hw V_a hl hL hpq hqL hq2 w0.old) (own_ew hw) (ow_173 hw) (ow_169 hw) (kf := 2) (kl := 34) (by decide) (by decide)) mN od_27_13 (pc' := 16) rfl rfl rfl (rest := []) rfl (Wd := 0) rfl (by decide) (by decide) (by decide) (by decide) fun v16 T14 h15 M17 w18 q19 => ?_
    obtain ⟨a20, rfl, rfl, K21, B22, k23, V24⟩ := q19
    show Go Z _ _ _ κ _ (T14.setTop (mkF (km κ) 16 #[.val (.ref a), .val (.int (Int32.ofNat (p))), .val (.int (Int32.ofNat (q)))] [(.ref a20)]))
    have C25 := Keep.refl h0 []
    have C26 := C25.trans K21 RoadKit.all0
    exact W.retR w18 rfl rfl rfl od_27_16 (M' := [a20]) (mC (memB mem0) mN) (by decide) (by decide) ⟨a20, rfl, rfl, C26, B22, ⟨_, V24⟩⟩
set_option maxRecDepth 65536 in
set_option maxHeartbeats 40000000 in
theorem c_sinitA {l : Launch} {Z : State} {a0 : Array Value} (hw : HW Z a0) {h0 : Heap} {b t : Addr} {cs : List Int32} {cap : Nat} {rs : List Value} (S_b : SB Z h0 b t cs cap rs) {x : Addr} {v1 v2 : Value} (E_x : Exa Z h0 x "java/lang/String") (F_xv : Fld Z h0 x "java/lang/String" "value" "[B" v1) (F_xc : Fld Z h0 x "java/lang/String" "coder" "B" v2) (hxb : x ≠ b ∧ x ≠ t) (hcc : cs.length ≤ 40 ∧ cs.length < cap) (hO : Old Z Z.heap.size h0) : Ctr l Z EL0 nw0 ({ cls := "java/lang/String", name := "<init>", desc := "(Ljava/lang/AbstractStringBuilder;Ljava/lang/Void;)V" } : Jvm.MethodName) jdk_42_method_150_code 5 none ({ frames := 3, cells := 1, slots := 40, locals := 49 } : Room) [.ref x, .ref b, .null] h0 [x] (fun v h M' => v = none ∧ M' = [] ∧ Keep h0 h [x] ∧ ∃ u, h0.size ≤ u ∧ Str8 Z h x u cs) := by
  refine of_body (a0 := a0) opn_17 (own_ew hw) hO (Ls := #[.val (.ref x), .val (.ref b), .val .null, .unset, .unset]) (fun m => by first | (simp [entryFrame, mkF, argsToLocals, Value.category]; done) | rfl) (fun κ T0 w0 hnm => ?_)
  obtain ⟨E_b, F_c, F_n, F_v, ⟨k, V_t⟩, hcap, hlat, hc4, E_t⟩ := S_b
  have S_b : SB Z h0 b t cs cap rs := ⟨E_b, F_c, F_n, F_v, ⟨k, V_t⟩, hcap, hlat, hc4, E_t⟩
  refine W.aloadN w0 od_42_0 (pc' := 1) rfl rfl rfl ?_
  refine W.initO w0 (ow_11 hw) (ow_12 hw) (ow_13 hw) od_42_1 (pc' := 4) rfl rfl (by decide) (Wd := 0) rfl (by decide) fun T1 w2 => ?_
  refine W.aloadN w2 od_42_4 (pc' := 5) rfl rfl rfl ?_
  refine W.callV w2 (ow_246 hw) (ow_247 hw) (nfSel (ow_249 hw)) (ow_249 hw) (ow_248 hw) (by decide) opd_10 E_b (Ctr.pay (c_getValue hw (show SB Z h0 b t cs cap rs from ⟨E_b, F_c, F_n, F_v, ⟨_, V_t⟩, hcap, hlat, hc4, E_t⟩) w2.old) (own_ew hw) (ow_250 hw) (ow_121 hw) (kf := 1) (kl := 12) (by decide) (by decide)) mN od_42_5 (pc' := 8) rfl rfl rfl (rest := []) rfl (Wd := 0) rfl (by decide) (by decide) (by decide) (by decide) fun v5 T3 h4 M6 w7 q8 => ?_
  obtain ⟨rfl, rfl, e9⟩ := q8
  obtain rfl := e9.symm
  show Go Z _ _ _ κ _ (T3.setTop (mkF (km κ) 8 #[.val (.ref x), .val (.ref b), .val .null, .unset, .unset] [(.ref t)]))
  refine W.astoreN w7 od_42_8 (pc' := 9) rfl (Ls' := #[.val (.ref x), .val (.ref b), .val .null, .val (.ref t), .unset]) rfl rfl ?_
  refine W.aloadN w7 od_42_9 (pc' := 10) rfl rfl rfl ?_
  refine W.callV w7 (ow_251 hw) (ow_252 hw) (nfCls (ow_204 hw) rfl) (ow_254 hw) (ow_255 hw) (by decide) opd_3 E_b (Ctr.pay (c_sblength hw (show SB Z h0 b t cs cap rs from ⟨E_b, F_c, F_n, F_v, ⟨_, V_t⟩, hcap, hlat, hc4, E_t⟩) w7.old) (own_ew hw) (ow_256 hw) (ow_113 hw) (kf := 2) (kl := 24) (by decide) (by decide)) mN od_42_10 (pc' := 13) rfl rfl rfl (rest := []) rfl (Wd := 0) rfl (by decide) (by decide) (by decide) (by decide) fun v12 T10 h11 M13 w14 q15 => ?_
  obtain ⟨rfl, rfl, e16⟩ := q15
  obtain rfl := e16.symm
  show Go Z _ _ _ κ _ (T10.setTop (mkF (km κ) 13 #[.val (.ref x), .val (.ref b), .val .null, .val (.ref t), .unset] [(.int (Int32.ofNat (cs.length)))]))
  refine W.istore w14 od_42_13 (pc' := 15) rfl (Ls' := #[.val (.ref x), .val (.ref b), .val .null, .val (.ref t), .val (.int (Int32.ofNat (cs.length)))]) rfl ?_
  refine W.aloadN w14 od_42_15 (pc' := 16) rfl rfl rfl ?_
  refine W.callV w14 (ow_259 hw) (ow_260 hw) (nfSel (ow_262 hw)) (ow_262 hw) (ow_261 hw) (by decide) opd_11 E_b (Ctr.pay (c_aLatin1 hw (show SB Z h0 b t cs cap rs from ⟨E_b, F_c, F_n, F_v, ⟨_, V_t⟩, hcap, hlat, hc4, E_t⟩) w14.old) (own_ew hw) (ow_263 hw) (ow_121 hw) (kf := 1) (kl := 12) (by decide) (by decide)) mN od_42_16 (pc' := 19) rfl rfl rfl (rest := []) rfl (Wd := 0) rfl (by decide) (by decide) (by decide) (by decide) fun v19 T17 h18 M20 w21 q22 => ?_
  obtain ⟨rfl, rfl, e23⟩ := q22
  obtain rfl := e23.symm
  show Go Z _ _ _ κ _ (T17.setTop (mkF (km κ) 19 #[.val (.ref x), .val (.ref b), .val .null, .val (.ref t), .val (.int (Int32.ofNat (cs.length)))] [(.int (1 : Int32))]))
  refine W.ifNo w21 od_42_19 (pc' := 22) rfl ((if0 _ _).trans (feq (by decide : ¬ ((1 : Int32) = (0 : Int32)))).1) ?_
  refine W.aloadN w21 od_42_22 (pc' := 23) rfl rfl rfl ?_
  refine W.iconst w21 od_42_23 (pc' := 24) rfl (z := (0 : Int32)) rfl ?_
  refine W.putFN w21 (ow_26 hw) Via.refl F_xc E_x (Or.inr ⟨(ow_27 hw), rfl, hnm⟩) (ow_2 hw) (ty := .byte) (v' := (.int (0 : Int32))) (by decide) rfl rfl (memA (memA (memA mem0))) od_42_24 (pc' := 27) rfl fun T24 h25 w26 W27 => ?_
  have F28 := F_xv.other W27 (Or.inr (slot_ne (Or.inr (ow_29 hw)) (Or.inr (ow_27 hw)) (by decide) (t := (.array .byte)) (t' := .byte) (by decide) (by decide)))
  have F29 := F_xc.same W27
  have K30 := Keep.of_wr W27
  refine W.aloadN w26 od_42_27 (pc' := 28) rfl rfl rfl ?_
  refine W.aloadN w26 od_42_28 (pc' := 29) rfl rfl rfl ?_
  refine W.iconst w26 od_42_29 (pc' := 30) rfl (z := (0 : Int32)) rfl ?_
  refine W.iload w26 od_42_30 (pc' := 32) rfl rfl ?_
  have f31 := (E_b.keep K30)
  have f32 := (V_t.keep K30 (ninS (Ne.symm hxb.2) nin0))
  have f33 := (E_x.keep K30)
  refine W.callS w26 (ow_264 hw) (ow_168 hw) (ow_169 hw) (ow_170 hw) (by decide) opd_9 (Ctr.pay (c_cofr hw (p := 0) (q := cs.length) f32 (by rw [List.length_append, by8_len]; exact hcap) hc4 (by omega) (by omega) (by omega) (fun _ => hcc.2) w26.old) (own_ew hw) (ow_170 hw) (ow_169 hw) (kf := 3) (kl := 48) (by decide) (by decide)) mN od_42_32 (pc' := 35) rfl rfl rfl (rest := [(.ref x)]) rfl (Wd := 1) rfl (by decide) (by decide) (by decide) (by decide) fun v36 T34 h35 M37 w38 q39 => ?_
  obtain ⟨a40, rfl, rfl, K41, B42, k43, V44⟩ := q39
  have ne45 : b ≠ a40 := neL f31.lt B42
  have ne46 : t ≠ a40 := neL f32.lt B42
  have ne47 : x ≠ a40 := neL f33.lt B42
  have V48 : Arv Z h35 a40 k43 .byte (Int32.ofNat cs.length) (by8 cs) (.int 0) := by rw [Nat.sub_zero, List.drop_zero, List.take_left' (by8_len cs)] at V44; exact V44
  show Go Z _ _ _ κ _ (T34.setTop (mkF (km κ) 35 #[.val (.ref x), .val (.ref b), .val .null, .val (.ref t), .val (.int (Int32.ofNat (cs.length)))] [(.ref a40), (.ref x)]))
  have f49 := (F28.keep K41 nin0)
  have f50 := (f33.keep K41)
  refine W.putF w38 (host := "") (Or.inl (ow_28 hw)) Via.refl f49 f50 (Or.inr ⟨(ow_29 hw), rfl, hnm⟩) (ow_2 hw) (ty := (.array .byte)) (by decide) rfl rfl (memA (memA (memA (memA mem0)))) od_42_35 (pc' := 38) rfl fun T51 h52 w53 W54 => ?_
  have f55 := (F29.keep K41 nin0)
  have F56 := f55.other W54 (Or.inr (slot_ne (Or.inr (ow_27 hw)) (Or.inr (ow_29 hw)) (by decide) (t := .byte) (t' := (.array .byte)) (by decide) (by decide)))
  have F57 := f49.same W54
  have K58 := Keep.of_wr W54
  refine W.goto w53 od_42_38 (pc' := 97) (by decide) (by decide) ?_
  have C59 := Keep.refl h0 [x]
  have C60 := C59.trans K30 (allS (Or.inl mem0) RoadKit.all0)
  have C61 := C60.trans K41 RoadKit.all0
  have C62 := C61.trans K58 (allS (Or.inl mem0) RoadKit.all0)
  have f63 := (f50.keep K58)
  have f64 := (V48.keep K58 (ninS (Ne.symm ne47) nin0))
  exact W.ret0 w53 rfl od_42_97 (M' := []) mN (by decide) (by decide) ⟨rfl, rfl, C62, a40, (Nat.le_trans K30.1 B42), f63, F56, F57, ⟨_, f64⟩, hlat, by omega⟩
set_option maxRecDepth 65536 in
set_option maxHeartbeats 40000000 in
theorem c_sinitB {l : Launch} {Z : State} {a0 : Array Value} (hw : HW Z a0) {h0 : Heap} {b t : Addr} {cs : List Int32} {cap : Nat} {rs : List Value} (S_b : SB Z h0 b t cs cap rs) {x : Addr} {v1 v2 : Value} (E_x : Exa Z h0 x "java/lang/String") (F_xv : Fld Z h0 x "java/lang/String" "value" "[B" v1) (F_xc : Fld Z h0 x "java/lang/String" "coder" "B" v2) (hxb : x ≠ b ∧ x ≠ t) (hcc : cs.length ≤ 40 ∧ cs.length < cap) (hO : Old Z Z.heap.size h0) : Ctr l Z EL0 nw0 ({ cls := "java/lang/String", name := "<init>", desc := "(Ljava/lang/StringBuilder;)V" } : Jvm.MethodName) jdk_42_method_53_code 2 none ({ frames := 4, cells := 1, slots := 40, locals := 65 } : Room) [.ref x, .ref b] h0 [x] (fun v h M' => v = none ∧ M' = [] ∧ Keep h0 h [x] ∧ ∃ u, h0.size ≤ u ∧ Str8 Z h x u cs) := by
  refine of_body (a0 := a0) opn_18 (own_ew hw) hO (Ls := #[.val (.ref x), .val (.ref b)]) (fun m => by first | (simp [entryFrame, mkF, argsToLocals, Value.category]; done) | rfl) (fun κ T0 w0 hnm => ?_)
  refine W.aloadN w0 od_41_0 (pc' := 1) rfl rfl rfl ?_
  refine W.aloadN w0 od_41_1 (pc' := 2) rfl rfl rfl ?_
  refine Jvm.Own.W.aconstNull w0 od_41_2 rfl ?_
  refine W.callI w0 (ow_243 hw) (ow_244 hw) (ow_245 hw) rfl (by decide) opd_12 (Ctr.pay (c_sinitA hw S_b E_x F_xv F_xc hxb hcc w0.old) (own_ew hw) (ow_245 hw) (ow_3 hw) (kf := 4) (kl := 65) (by decide) (by decide)) (mC mem0 mN) od_41_3 (pc' := 6) rfl rfl rfl (rest := []) rfl (Wd := 0) rfl (by decide) (by decide) (by decide) (by decide) fun v3 T1 h2 M4 w5 q6 => ?_
  obtain ⟨rfl, rfl, K7, t8, B9, F10⟩ := q6
  show Go Z _ _ _ κ _ (T1.setTop (mkF (km κ) 6 #[.val (.ref x), .val (.ref b)] []))
  have C11 := Keep.refl h0 [x]
  have C12 := C11.trans K7 (allS (Or.inl mem0) RoadKit.all0)
  exact W.ret0 w5 rfl od_41_6 (M' := []) mN (by decide) (by decide) ⟨rfl, rfl, C12, t8, B9, F10⟩
set_option maxRecDepth 65536 in
set_option maxHeartbeats 40000000 in
theorem c_toString {l : Launch} {Z : State} {a0 : Array Value} (hw : HW Z a0) {h0 : Heap} {b t : Addr} {cs : List Int32} {cap : Nat} {rs : List Value} (S_b : SB Z h0 b t cs cap rs) (hcc : cs.length ≤ 40 ∧ cs.length < cap) (hO : Old Z Z.heap.size h0) : Ctr l Z EL0 nw0 ({ cls := "java/lang/StringBuilder", name := "toString", desc := "()Ljava/lang/String;" } : Jvm.MethodName) jdk_67_method_42_code 1 (some (.object "java/lang/String")) ({ frames := 5, cells := 2, slots := 44, locals := 79 } : Room) [.ref b] h0 [] (fun v h M' => ∃ x, v = some (.ref x) ∧ M' = [] ∧ Keep h0 h [] ∧ h0.size ≤ x ∧ ∃ u, h0.size ≤ u ∧ Str8 Z h x u cs) := by
  refine of_body (a0 := a0) opn_19 (own_ew hw) hO (Ls := #[.val (.ref b)]) (fun m => by first | (simp [entryFrame, mkF, argsToLocals, Value.category]; done) | rfl) (fun κ T0 w0 hnm => ?_)
  refine W.newO w0 (ow_239 hw) (ow_2 hw) (ow_3 hw) od_40_0 (pc' := 3) rfl (by decide) (by decide) fun T1 h2 a3 w4 K5 B6 E7 D8 => ?_
  have ne9 : b ≠ a3 := neL S_b.lt B6
  have ne10 : t ≠ a3 := neL S_b.lt2 B6
  have F11 : Fld Z h2 a3 "java/lang/String" "coder" "B" (.int (0 : Int32)) := D8 (Or.inr (ow_27 hw)) (ty := .byte) (by decide)
  have F12 : Fld Z h2 a3 "java/lang/String" "value" "[B" .null := D8 (Or.inr (ow_29 hw)) (ty := (.array .byte)) (by decide)
  refine Jvm.Own.W.dup w4 od_40_3 rfl rfl ?_
  refine W.aloadN w4 od_40_4 (pc' := 5) rfl rfl rfl ?_
  refine W.callI w4 (ow_240 hw) (ow_241 hw) (ow_242 hw) rfl (by decide) opd_13 (Ctr.pay (c_sinitB hw (S_b.keep K5 nin0 nin0) E7 F12 F11 ⟨Ne.symm (neL S_b.lt B6), Ne.symm (neL S_b.lt2 B6)⟩ hcc w4.old) (own_ew hw) (ow_242 hw) (ow_3 hw) (kf := 5) (kl := 78) (by decide) (by decide)) (mC mem0 mN) od_40_5 (pc' := 8) rfl rfl rfl (rest := [(.ref a3)]) rfl (Wd := 1) rfl (by decide) (by decide) (by decide) (by decide) fun v15 T13 h14 M16 w17 q18 => ?_
  obtain ⟨rfl, rfl, K19, t20, B21, F22⟩ := q18
  show Go Z _ _ _ κ _ (T13.setTop (mkF (km κ) 8 #[.val (.ref b)] [(.ref a3)]))
  have C23 := Keep.refl h0 []
  have C24 := C23.trans K5 RoadKit.all0
  have C25 := C24.trans K19 (allS (Or.inr B6) RoadKit.all0)
  exact W.retR w17 rfl rfl rfl od_40_8 (M' := []) mN (by decide) (by decide) ⟨a3, rfl, rfl, C25, B6, t20, (Nat.le_trans K5.1 B21), F22⟩
set_option maxRecDepth 65536 in
set_option maxHeartbeats 40000000 in
theorem c_rnn1 {l : Launch} {Z : State} {a0 : Array Value} (hw : HW Z a0) {h0 : Heap} {x1 : Addr} (hO : Old Z Z.heap.size h0) : Ctr l Z EL0 nw0 ({ cls := "java/util/Objects", name := "requireNonNull", desc := "(Ljava/lang/Object;)Ljava/lang/Object;" } : Jvm.MethodName) jdk_31_method_10_code 1 (some (.object "java/lang/Object")) ({ frames := 0, cells := 0, slots := 0, locals := 0 } : Room) [.ref x1] h0 [] (fun v h M' => v = some (.ref x1) ∧ M' = [] ∧ h = h0) := by
  refine of_body (a0 := a0) opn_20 (own_ew hw) hO (Ls := #[.val (.ref x1)]) (fun m => by first | (simp [entryFrame, mkF, argsToLocals, Value.category]; done) | rfl) (fun κ T0 w0 hnm => ?_)
  refine W.aloadN w0 od_10_0 (pc' := 1) rfl rfl rfl ?_
  refine W.ifnonnullYes w0 od_10_1 (pc' := 12) (by decide) (by decide) ?_
  refine W.aloadN w0 od_10_12 (pc' := 13) rfl rfl rfl ?_
  exact W.retR w0 rfl rfl rfl od_10_13 (M' := []) mN (by decide) (by decide) ⟨rfl, rfl, rfl⟩
set_option maxRecDepth 65536 in
set_option maxHeartbeats 40000000 in
theorem c_opinit {l : Launch} {Z : State} {a0 : Array Value} (hw : HW Z a0) {h0 : Heap} {o x1 : Addr} {v0 : Value} (E_o : Exa Z h0 o "java/util/Optional") (F_o : Fld Z h0 o "java/util/Optional" "value" "Ljava/lang/Object;" v0) (hO : Old Z Z.heap.size h0) : Ctr l Z EL0 nw0 ({ cls := "java/util/Optional", name := "<init>", desc := "(Ljava/lang/Object;)V" } : Jvm.MethodName) jdk_32_method_2_code 2 none ({ frames := 1, cells := 0, slots := 0, locals := 12 } : Room) [.ref o, .ref x1] h0 [o] (fun v h M' => v = none ∧ M' = [] ∧ Keep h0 h [o] ∧ Exa Z h o "java/util/Optional" ∧ Fld Z h o "java/util/Optional" "value" "Ljava/lang/Object;" (.ref x1)) := by
  refine of_body (a0 := a0) opn_21 (own_ew hw) hO (Ls := #[.val (.ref o), .val (.ref x1)]) (fun m => by first | (simp [entryFrame, mkF, argsToLocals, Value.category]; done) | rfl) (fun κ T0 w0 hnm => ?_)
  refine W.aloadN w0 od_11_0 (pc' := 1) rfl rfl rfl ?_
  refine W.initO w0 (ow_66 hw) (ow_12 hw) (ow_13 hw) od_11_1 (pc' := 4) rfl rfl (by decide) (Wd := 0) rfl (by decide) fun T1 w2 => ?_
  refine W.aloadN w2 od_11_4 (pc' := 5) rfl rfl rfl ?_
  refine W.aloadN w2 od_11_5 (pc' := 6) rfl rfl rfl ?_
  refine W.putF w2 (host := "") (Or.inl (ow_67 hw)) Via.refl F_o E_o (Or.inr ⟨(ow_68 hw), rfl, hnm⟩) (ow_57 hw) (ty := (.object "java/lang/Object")) (by decide) rfl rfl mem0 od_11_6 (pc' := 9) rfl fun T3 h4 w5 W6 => ?_
  have F7 := F_o.same W6
  have K8 := Keep.of_wr W6
  have C9 := Keep.refl h0 [o]
  have C10 := C9.trans K8 (allS (Or.inl mem0) RoadKit.all0)
  have f11 := (E_o.keep K8)
  exact W.ret0 w5 rfl od_11_9 (M' := []) mN (by decide) (by decide) ⟨rfl, rfl, C10, f11, F7⟩
set_option maxRecDepth 65536 in
set_option maxHeartbeats 40000000 in
theorem c_opof {l : Launch} {Z : State} {a0 : Array Value} (hw : HW Z a0) {h0 : Heap} {x1 : Addr} (hO : Old Z Z.heap.size h0) : Ctr l Z EL0 nw0 ({ cls := "java/util/Optional", name := "of", desc := "(Ljava/lang/Object;)Ljava/util/Optional;" } : Jvm.MethodName) jdk_32_method_3_code 1 (some (.object "java/util/Optional")) ({ frames := 2, cells := 1, slots := 1, locals := 26 } : Room) [.ref x1] h0 [] (fun v h M' => ∃ o, v = some (.ref o) ∧ M' = [] ∧ Keep h0 h [] ∧ h0.size ≤ o ∧ Exa Z h o "java/util/Optional" ∧ Fld Z h o "java/util/Optional" "value" "Ljava/lang/Object;" (.ref x1)) := by
  refine of_body (a0 := a0) opn_22 (own_ew hw) hO (Ls := #[.val (.ref x1)]) (fun m => by first | (simp [entryFrame, mkF, argsToLocals, Value.category]; done) | rfl) (fun κ T0 w0 hnm => ?_)
  refine W.newO w0 (ow_56 hw) (ow_57 hw) (ow_54 hw) od_9_0 (pc' := 3) rfl (by decide) (by decide) fun T1 h2 a3 w4 K5 B6 E7 D8 => ?_
  have F9 : Fld Z h2 a3 "java/util/Optional" "value" "Ljava/lang/Object;" .null := D8 (Or.inr (ow_68 hw)) (ty := (.object "java/lang/Object")) (by decide)
  refine Jvm.Own.W.dup w4 od_9_3 rfl rfl ?_
  refine W.aloadN w4 od_9_4 (pc' := 5) rfl rfl rfl ?_
  refine W.callS w4 (ow_58 hw) (ow_59 hw) (ow_60 hw) (ow_61 hw) (by decide) opd_14 (Ctr.pay (c_rnn1 hw w4.old) (own_ew hw) (ow_61 hw) (ow_60 hw) (kf := 1) (kl := 12) (by decide) (by decide)) mN od_9_5 (pc' := 8) rfl rfl rfl (rest := [(.ref a3), (.ref a3)]) rfl (Wd := 2) rfl (by decide) (by decide) (by decide) (by decide) fun v12 T10 h11 M13 w14 q15 => ?_
  obtain ⟨rfl, rfl, e16⟩ := q15
  obtain rfl := e16.symm
  show Go Z _ _ _ κ _ (T10.setTop (mkF (km κ) 8 #[.val (.ref x1)] [(.ref x1), (.ref a3), (.ref a3)]))
  refine W.callI w14 (ow_62 hw) (ow_63 hw) (ow_65 hw) rfl (by decide) opd_15 (Ctr.pay (c_opinit hw E7 F9 w14.old) (own_ew hw) (ow_65 hw) (ow_54 hw) (kf := 2) (kl := 25) (by decide) (by decide)) (mC (memA mem0) mN) od_9_8 (pc' := 11) rfl rfl rfl (rest := [(.ref a3)]) rfl (Wd := 1) rfl (by decide) (by decide) (by decide) (by decide) fun v19 T17 h18 M20 w21 q22 => ?_
  obtain ⟨rfl, rfl, K23, E24, F25⟩ := q22
  show Go Z _ _ _ κ _ (T17.setTop (mkF (km κ) 11 #[.val (.ref x1)] [(.ref a3)]))
  have C26 := Keep.refl h0 []
  have C27 := C26.trans K5 RoadKit.all0
  have C28 := C27.trans K23 (allS (Or.inr B6) RoadKit.all0)
  exact W.retR w21 rfl rfl rfl od_9_11 (M' := []) mN (by decide) (by decide) ⟨a3, rfl, rfl, C28, B6, E24, F25⟩
set_option maxRecDepth 65536 in
set_option maxHeartbeats 40000000 in
theorem c_opempty {l : Launch} {Z : State} {a0 : Array Value} (hw : HW Z a0) {h0 : Heap} {oe : Addr} (S_e : Sta Z Z.heap "java/util/Optional" "EMPTY" "Ljava/util/Optional;" (.ref oe)) (hO : Old Z Z.heap.size h0) : Ctr l Z EL0 nw0 ({ cls := "java/util/Optional", name := "empty", desc := "()Ljava/util/Optional;" } : Jvm.MethodName) jdk_32_method_1_code 1 (some (.object "java/util/Optional")) ({ frames := 0, cells := 0, slots := 0, locals := 0 } : Room) [] h0 [] (fun v h M' => v = some (.ref oe) ∧ M' = [] ∧ h = h0) := by
  refine of_body (a0 := a0) opn_23 (own_ew hw) hO (Ls := #[.unset]) (fun m => by first | (simp [entryFrame, mkF, argsToLocals, Value.category]; done) | rfl) (fun κ T0 w0 hnm => ?_)
  refine W.getS w0 (ow_292 hw) Via.refl (S_e.ext w0.old.2) od_53_0 (pc' := 3) rfl fun T1 w2 => ?_
  refine W.astoreN w2 od_53_3 (pc' := 4) rfl (Ls' := #[.val (.ref oe)]) rfl rfl ?_
  refine W.aloadN w2 od_53_4 (pc' := 5) rfl rfl rfl ?_
  exact W.retR w2 rfl rfl rfl od_53_5 (M' := []) mN (by decide) (by decide) ⟨rfl, rfl, rfl⟩
set_option maxRecDepth 65536 in
set_option maxHeartbeats 40000000 in
theorem c_isEmpty1 {l : Launch} {Z : State} {a0 : Array Value} (hw : HW Z a0) {h0 : Heap} {o x1 : Addr} (F_o : Fld Z h0 o "java/util/Optional" "value" "Ljava/lang/Object;" (.ref x1)) (hO : Old Z Z.heap.size h0) : Ctr l Z EL0 nw0 ({ cls := "java/util/Optional", name := "isEmpty", desc := "()Z" } : Jvm.MethodName) jdk_32_method_7_code 1 (some .boolean) ({ frames := 0, cells := 0, slots := 0, locals := 0 } : Room) [.ref o] h0 [] (fun v h M' => v = some (.int (0 : Int32)) ∧ M' = [] ∧ h = h0) := by
  refine of_body (a0 := a0) opn_24 (own_ew hw) hO (Ls := #[.val (.ref o)]) (fun m => by first | (simp [entryFrame, mkF, argsToLocals, Value.category]; done) | rfl) (fun κ T0 w0 hnm => ?_)
  refine W.aloadN w0 od_15_0 (pc' := 1) rfl rfl rfl ?_
  refine W.getF w0 (host := "") (Or.inl (ow_67 hw)) Via.refl F_o od_15_1 (pc' := 4) rfl fun T1 w2 => ?_
  refine W.ifnonnullYes w2 od_15_4 (pc' := 11) (by decide) (by decide) ?_
  refine W.iconst w2 od_15_11 (pc' := 12) rfl (z := (0 : Int32)) rfl ?_
  exact W.retN w2 (t := .boolean) (z' := (0 : Int32)) rfl rfl (by simp) od_15_12 (M' := []) mN (by decide) (by decide) ⟨rfl, rfl, rfl⟩
set_option maxRecDepth 65536 in
set_option maxHeartbeats 40000000 in
theorem c_isEmpty0 {l : Launch} {Z : State} {a0 : Array Value} (hw : HW Z a0) {h0 : Heap} {o x1 : Addr} (F_o : Fld Z h0 o "java/util/Optional" "value" "Ljava/lang/Object;" .null) (hO : Old Z Z.heap.size h0) : Ctr l Z EL0 nw0 ({ cls := "java/util/Optional", name := "isEmpty", desc := "()Z" } : Jvm.MethodName) jdk_32_method_7_code 1 (some .boolean) ({ frames := 0, cells := 0, slots := 0, locals := 0 } : Room) [.ref o] h0 [] (fun v h M' => v = some (.int (1 : Int32)) ∧ M' = [] ∧ h = h0) := by
  refine of_body (a0 := a0) opn_24 (own_ew hw) hO (Ls := #[.val (.ref o)]) (fun m => by first | (simp [entryFrame, mkF, argsToLocals, Value.category]; done) | rfl) (fun κ T0 w0 hnm => ?_)
  refine W.aloadN w0 od_15_0 (pc' := 1) rfl rfl rfl ?_
  refine W.getF w0 (host := "") (Or.inl (ow_67 hw)) Via.refl F_o od_15_1 (pc' := 4) rfl fun T1 w2 => ?_
  refine W.ifnonnullNo w2 od_15_4 (pc' := 7) rfl ?_
  refine W.iconst w2 od_15_7 (pc' := 8) rfl (z := (1 : Int32)) rfl ?_
  refine W.goto w2 od_15_8 (pc' := 12) (by decide) (by decide) ?_
  exact W.retN w2 (t := .boolean) (z' := (1 : Int32)) rfl rfl (by simp) od_15_12 (M' := []) mN (by decide) (by decide) ⟨rfl, rfl, rfl⟩
set_option maxRecDepth 65536 in
set_option maxHeartbeats 40000000 in
theorem c_ofn {l : Launch} {Z : State} {a0 : Array Value} (hw : HW Z a0) {h0 : Heap} {x1 : Addr} (hO : Old Z Z.heap.size h0) : Ctr l Z EL0 nw0 ({ cls := "java/util/Optional", name := "ofNullable", desc := "(Ljava/lang/Object;)Ljava/util/Optional;" } : Jvm.MethodName) jdk_32_method_4_code 1 (some (.object "java/util/Optional")) ({ frames := 2, cells := 1, slots := 1, locals := 26 } : Room) [.ref x1] h0 [] (fun v h M' => ∃ o, v = some (.ref o) ∧ M' = [] ∧ Keep h0 h [] ∧ h0.size ≤ o ∧ Exa Z h o "java/util/Optional" ∧ Fld Z h o "java/util/Optional" "value" "Ljava/lang/Object;" (.ref x1)) := by
  refine of_body (a0 := a0) opn_25 (own_ew hw) hO (Ls := #[.val (.ref x1)]) (fun m => by first | (simp [entryFrame, mkF, argsToLocals, Value.category]; done) | rfl) (fun κ T0 w0 hnm => ?_)
  refine W.aloadN w0 od_47_0 (pc' := 1) rfl rfl rfl ?_
  refine W.ifnonnullYes w0 od_47_1 (pc' := 10) (by decide) (by decide) ?_
  refine W.newO w0 (ow_56 hw) (ow_57 hw) (ow_54 hw) od_47_10 (pc' := 13) rfl (by decide) (by decide) fun T1 h2 a3 w4 K5 B6 E7 D8 => ?_
  have F9 : Fld Z h2 a3 "java/util/Optional" "value" "Ljava/lang/Object;" .null := D8 (Or.inr (ow_68 hw)) (ty := (.object "java/lang/Object")) (by decide)
  refine Jvm.Own.W.dup w4 od_47_13 rfl rfl ?_
  refine W.aloadN w4 od_47_14 (pc' := 15) rfl rfl rfl ?_
  refine W.callI w4 (ow_62 hw) (ow_63 hw) (ow_65 hw) rfl (by decide) opd_15 (Ctr.pay (c_opinit hw E7 F9 w4.old) (own_ew hw) (ow_65 hw) (ow_54 hw) (kf := 2) (kl := 25) (by decide) (by decide)) (mC mem0 mN) od_47_15 (pc' := 18) rfl rfl rfl (rest := [(.ref a3)]) rfl (Wd := 1) rfl (by decide) (by decide) (by decide) (by decide) fun v12 T10 h11 M13 w14 q15 => ?_
  obtain ⟨rfl, rfl, K16, E17, F18⟩ := q15
  show Go Z _ _ _ κ _ (T10.setTop (mkF (km κ) 18 #[.val (.ref x1)] [(.ref a3)]))
  have C19 := Keep.refl h0 []
  have C20 := C19.trans K5 RoadKit.all0
  have C21 := C20.trans K16 (allS (Or.inr B6) RoadKit.all0)
  exact W.retR w14 rfl rfl rfl od_47_18 (M' := []) mN (by decide) (by decide) ⟨a3, rfl, rfl, C21, B6, E17, F18⟩
set_option maxRecDepth 65536 in
set_option maxHeartbeats 40000000 in
theorem c_orElse1 {l : Launch} {Z : State} {a0 : Array Value} (hw : HW Z a0) {h0 : Heap} {o x1 x2 : Addr} (F_o : Fld Z h0 o "java/util/Optional" "value" "Ljava/lang/Object;" (.ref x1)) (hO : Old Z Z.heap.size h0) : Ctr l Z EL0 nw0 ({ cls := "java/util/Optional", name := "orElse", desc := "(Ljava/lang/Object;)Ljava/lang/Object;" } : Jvm.MethodName) jdk_32_method_15_code 2 (some (.object "java/lang/Object")) ({ frames := 0, cells := 0, slots := 0, locals := 0 } : Room) [.ref o, .ref x2] h0 [] (fun v h M' => v = some (.ref x1) ∧ M' = [] ∧ h = h0) := by
  refine of_body (a0 := a0) opn_26 (own_ew hw) hO (Ls := #[.val (.ref o), .val (.ref x2)]) (fun m => by first | (simp [entryFrame, mkF, argsToLocals, Value.category]; done) | rfl) (fun κ T0 w0 hnm => ?_)
  refine W.aloadN w0 od_48_0 (pc' := 1) rfl rfl rfl ?_
  refine W.getF w0 (host := "") (Or.inl (ow_67 hw)) Via.refl F_o od_48_1 (pc' := 4) rfl fun T1 w2 => ?_
  refine W.ifnullNo w2 od_48_4 (pc' := 7) rfl ?_
  refine W.aloadN w2 od_48_7 (pc' := 8) rfl rfl rfl ?_
  refine W.getF w2 (host := "") (Or.inl (ow_67 hw)) Via.refl F_o od_48_8 (pc' := 11) rfl fun T3 w4 => ?_
  refine W.goto w4 od_48_11 (pc' := 15) (by decide) (by decide) ?_
  exact W.retR w4 rfl rfl rfl od_48_15 (M' := []) mN (by decide) (by decide) ⟨rfl, rfl, rfl⟩
set_option maxRecDepth 65536 in
set_option maxHeartbeats 40000000 in
theorem c_orElse0 {l : Launch} {Z : State} {a0 : Array Value} (hw : HW Z a0) {h0 : Heap} {o x1 x2 : Addr} (F_o : Fld Z h0 o "java/util/Optional" "value" "Ljava/lang/Object;" .null) (hO : Old Z Z.heap.size h0) : Ctr l Z EL0 nw0 ({ cls := "java/util/Optional", name := "orElse", desc := "(Ljava/lang/Object;)Ljava/lang/Object;" } : Jvm.MethodName) jdk_32_method_15_code 2 (some (.object "java/lang/Object")) ({ frames := 0, cells := 0, slots := 0, locals := 0 } : Room) [.ref o, .ref x2] h0 [] (fun v h M' => v = some (.ref x2) ∧ M' = [] ∧ h = h0) := by
  refine of_body (a0 := a0) opn_26 (own_ew hw) hO (Ls := #[.val (.ref o), .val (.ref x2)]) (fun m => by first | (simp [entryFrame, mkF, argsToLocals, Value.category]; done) | rfl) (fun κ T0 w0 hnm => ?_)
  refine W.aloadN w0 od_48_0 (pc' := 1) rfl rfl rfl ?_
  refine W.getF w0 (host := "") (Or.inl (ow_67 hw)) Via.refl F_o od_48_1 (pc' := 4) rfl fun T1 w2 => ?_
  refine W.ifnullYes w2 od_48_4 (pc' := 14) (by decide) (by decide) ?_
  refine W.aloadN w2 od_48_14 (pc' := 15) rfl rfl rfl ?_
  exact W.retR w2 rfl rfl rfl od_48_15 (M' := []) mN (by decide) (by decide) ⟨rfl, rfl, rfl⟩
set_option maxRecDepth 65536 in
set_option maxHeartbeats 40000000 in
theorem c_cftN {l : Launch} {Z : State} {a0 : Array Value} (hw : HW Z a0) {h0 : Heap} {p q r : Nat} {fa : Addr} (hpq : p ≤ q) (hqr : q ≤ r) (hr : r ≤ 4000) (hO : Old Z Z.heap.size h0) : Ctr l Z EL0 nw0 ({ cls := "jdk/internal/util/Preconditions", name := "checkFromToIndex", desc := "(IIILjava/util/function/BiFunction;)I" } : Jvm.MethodName) jdk_41_method_12_code 4 (some .int) ({ frames := 0, cells := 0, slots := 0, locals := 0 } : Room) [.int (Int32.ofNat p), .int (Int32.ofNat q), .int (Int32.ofNat r), .null] h0 [] (fun v h M' => v = some (.int (Int32.ofNat p)) ∧ M' = [] ∧ h = h0) := by
  refine of_body (a0 := a0) opn_27 (own_ew hw) hO (Ls := #[.val (.int (Int32.ofNat (p))), .val (.int (Int32.ofNat (q))), .val (.int (Int32.ofNat (r))), .val .null]) (fun m => by first | (simp [entryFrame, mkF, argsToLocals, Value.category]; done) | rfl) (fun κ T0 w0 hnm => ?_)
  refine W.iloadN w0 od_24_0 (pc' := 1) rfl rfl ?_
  refine W.ifNo w0 od_24_1 (pc' := 4) rfl ((if0 _ _).trans (flt (n_nn (by omega))).1) ?_
  refine W.iloadN w0 od_24_4 (pc' := 5) rfl rfl ?_
  refine W.iloadN w0 od_24_5 (pc' := 6) rfl rfl ?_
  refine W.icmpNo w0 od_24_6 (pc' := 9) rfl (flt (show ¬ ((Int32.ofNat (q)) < (Int32.ofNat (p))) from fun hlt_ => absurd ((i_lt (n_val (a := q) (by omega)) (n_val (a := p) (by omega))).mp hlt_) (by omega))).2.2.1 ?_
  refine W.iloadN w0 od_24_9 (pc' := 10) rfl rfl ?_
  refine W.iloadN w0 od_24_10 (pc' := 11) rfl rfl ?_
  refine W.icmpYes w0 od_24_11 (pc' := 22) (by decide) (by decide) (flt (show ¬ ((Int32.ofNat (r)) < (Int32.ofNat (q))) from fun hlt_ => absurd ((i_lt (n_val (a := r) (by omega)) (n_val (a := q) (by omega))).mp hlt_) (by omega))).2.2.2 ?_
  refine W.iloadN w0 od_24_22 (pc' := 23) rfl rfl ?_
  exact W.retI w0 rfl od_24_23 (M' := []) mN (by decide) (by decide) ⟨rfl, rfl, rfl⟩
set_option maxRecDepth 65536 in
set_option maxHeartbeats 40000000 in
theorem c_cftR {l : Launch} {Z : State} {a0 : Array Value} (hw : HW Z a0) {h0 : Heap} {p q r : Nat} {fa : Addr} (hpq : p ≤ q) (hqr : q ≤ r) (hr : r ≤ 4000) (hO : Old Z Z.heap.size h0) : Ctr l Z EL0 nw0 ({ cls := "jdk/internal/util/Preconditions", name := "checkFromToIndex", desc := "(IIILjava/util/function/BiFunction;)I" } : Jvm.MethodName) jdk_41_method_12_code 4 (some .int) ({ frames := 0, cells := 0, slots := 0, locals := 0 } : Room) [.int (Int32.ofNat p), .int (Int32.ofNat q), .int (Int32.ofNat r), (.ref fa)] h0 [] (fun v h M' => v = some (.int (Int32.ofNat p)) ∧ M' = [] ∧ h = h0) := by
  refine of_body (a0 := a0) opn_27 (own_ew hw) hO (Ls := #[.val (.int (Int32.ofNat (p))), .val (.int (Int32.ofNat (q))), .val (.int (Int32.ofNat (r))), .val (.ref fa)]) (fun m => by first | (simp [entryFrame, mkF, argsToLocals, Value.category]; done) | rfl) (fun κ T0 w0 hnm => ?_)
  refine W.iloadN w0 od_24_0 (pc' := 1) rfl rfl ?_
  refine W.ifNo w0 od_24_1 (pc' := 4) rfl ((if0 _ _).trans (flt (n_nn (by omega))).1) ?_
  refine W.iloadN w0 od_24_4 (pc' := 5) rfl rfl ?_
  refine W.iloadN w0 od_24_5 (pc' := 6) rfl rfl ?_
  refine W.icmpNo w0 od_24_6 (pc' := 9) rfl (flt (show ¬ ((Int32.ofNat (q)) < (Int32.ofNat (p))) from fun hlt_ => absurd ((i_lt (n_val (a := q) (by omega)) (n_val (a := p) (by omega))).mp hlt_) (by omega))).2.2.1 ?_
  refine W.iloadN w0 od_24_9 (pc' := 10) rfl rfl ?_
  refine W.iloadN w0 od_24_10 (pc' := 11) rfl rfl ?_
  refine W.icmpYes w0 od_24_11 (pc' := 22) (by decide) (by decide) (flt (show ¬ ((Int32.ofNat (r)) < (Int32.ofNat (q))) from fun hlt_ => absurd ((i_lt (n_val (a := r) (by omega)) (n_val (a := q) (by omega))).mp hlt_) (by omega))).2.2.2 ?_
  refine W.iloadN w0 od_24_22 (pc' := 23) rfl rfl ?_
  exact W.retI w0 rfl od_24_23 (M' := []) mN (by decide) (by decide) ⟨rfl, rfl, rfl⟩
set_option maxRecDepth 65536 in
set_option maxHeartbeats 40000000 in
theorem c_cbe {l : Launch} {Z : State} {a0 : Array Value} (hw : HW Z a0) {h0 : Heap} {p q r : Nat} (hpq : p ≤ q) (hqr : q ≤ r) (hr : r ≤ 4000) (hO : Old Z Z.heap.size h0) : Ctr l Z EL0 nw0 ({ cls := "java/lang/String", name := "checkBoundsBeginEnd", desc := "(III)V" } : Jvm.MethodName) jdk_42_method_158_code 3 none ({ frames := 1, cells := 0, slots := 0, locals := 15 } : Room) [.int (Int32.ofNat p), .int (Int32.ofNat q), .int (Int32.ofNat r)] h0 [] (fun v h M' => v = none ∧ M' = [] ∧ h = h0) := by
  refine of_body (a0 := a0) opn_28 (own_ew hw) hO (Ls := #[.val (.int (Int32.ofNat (p))), .val (.int (Int32.ofNat (q))), .val (.int (Int32.ofNat (r)))]) (fun m => by first | (simp [entryFrame, mkF, argsToLocals, Value.category]; done) | rfl) (fun κ T0 w0 hnm => ?_)
  obtain ⟨ff, Sff, hff⟩ := hw.2.1.2
  rcases ref_cases hff with rfl | ⟨fa, rfl⟩
  · refine W.iloadN w0 od_23_0 (pc' := 1) rfl rfl ?_
    refine W.iloadN w0 od_23_1 (pc' := 2) rfl rfl ?_
    refine W.iloadN w0 od_23_2 (pc' := 3) rfl rfl ?_
    refine W.getS w0 (ow_152 hw) Via.refl (Sff.ext w0.old.2) od_23_3 (pc' := 6) rfl fun T1 w2 => ?_
    refine W.callS w2 (ow_154 hw) (ow_155 hw) (ow_153 hw) (ow_156 hw) (by decide) opd_16 (Ctr.pay (c_cftN hw (fa := 0) hpq hqr hr w2.old) (own_ew hw) (ow_156 hw) (ow_153 hw) (kf := 1) (kl := 15) (by decide) (by decide)) mN od_23_6 (pc' := 9) rfl rfl rfl (rest := []) rfl (Wd := 0) rfl (by decide) (by decide) (by decide) (by decide) fun v5 T3 h4 M6 w7 q8 => ?_
    obtain ⟨rfl, rfl, e9⟩ := q8
    obtain rfl := e9.symm
    show Go Z _ _ _ κ _ (T3.setTop (mkF (km κ) 9 #[.val (.int (Int32.ofNat (p))), .val (.int (Int32.ofNat (q))), .val (.int (Int32.ofNat (r)))] [(.int (Int32.ofNat (p)))]))
    refine Jvm.Own.W.pop w7 od_23_9 rfl rfl ?_
    exact W.ret0 w7 rfl od_23_10 (M' := []) mN (by decide) (by decide) ⟨rfl, rfl, rfl⟩
  · refine W.iloadN w0 od_23_0 (pc' := 1) rfl rfl ?_
    refine W.iloadN w0 od_23_1 (pc' := 2) rfl rfl ?_
    refine W.iloadN w0 od_23_2 (pc' := 3) rfl rfl ?_
    refine W.getS w0 (ow_152 hw) Via.refl (Sff.ext w0.old.2) od_23_3 (pc' := 6) rfl fun T10 w11 => ?_
    refine W.callS w11 (ow_154 hw) (ow_155 hw) (ow_153 hw) (ow_156 hw) (by decide) opd_16 (Ctr.pay (c_cftR hw hpq hqr hr w11.old) (own_ew hw) (ow_156 hw) (ow_153 hw) (kf := 1) (kl := 15) (by decide) (by decide)) mN od_23_6 (pc' := 9) rfl rfl rfl (rest := []) rfl (Wd := 0) rfl (by decide) (by decide) (by decide) (by decide) fun v14 T12 h13 M15 w16 q17 => ?_
    obtain ⟨rfl, rfl, e18⟩ := q17
    obtain rfl := e18.symm
    show Go Z _ _ _ κ _ (T12.setTop (mkF (km κ) 9 #[.val (.int (Int32.ofNat (p))), .val (.int (Int32.ofNat (q))), .val (.int (Int32.ofNat (r)))] [(.int (Int32.ofNat (p)))]))
    refine Jvm.Own.W.pop w16 od_23_9 rfl rfl ?_
    exact W.ret0 w16 rfl od_23_10 (M' := []) mN (by decide) (by decide) ⟨rfl, rfl, rfl⟩
set_option maxRecDepth 65536 in
set_option maxHeartbeats 40000000 in
theorem c_sinitBB {l : Launch} {Z : State} {a0 : Array Value} (hw : HW Z a0) {h0 : Heap} {x b : Addr} {k : ClassId} {cs : List Int32} {v1 v2 : Value} (E_x : Exa Z h0 x "java/lang/String") (F_v : Fld Z h0 x "java/lang/String" "value" "[B" v1) (F_c : Fld Z h0 x "java/lang/String" "coder" "B" v2) (V_b : Arv Z h0 b k .byte (Int32.ofNat cs.length) (by8 cs) (.int 0)) (hxb : x ≠ b) (hlat : ∀ c ∈ cs, ¬ c < 0 ∧ ¬ (255 : Int32) < c) (hlen : cs.length ≤ 40) (hO : Old Z Z.heap.size h0) : Ctr l Z EL0 nw0 ({ cls := "java/lang/String", name := "<init>", desc := "([BB)V" } : Jvm.MethodName) jdk_42_method_151_code 3 none ({ frames := 1, cells := 0, slots := 0, locals := 12 } : Room) [.ref x, .ref b, .int 0] h0 [x] (fun v h M' => v = none ∧ M' = [] ∧ Keep h0 h [x] ∧ Str8 Z h x b cs) := by
  refine of_body (a0 := a0) opn_29 (own_ew hw) hO (Ls := #[.val (.ref x), .val (.ref b), .val (.int (0 : Int32))]) (fun m => by first | (simp [entryFrame, mkF, argsToLocals, Value.category]; done) | rfl) (fun κ T0 w0 hnm => ?_)
  refine W.aloadN w0 od_31_0 (pc' := 1) rfl rfl rfl ?_
  refine W.initO w0 (ow_11 hw) (ow_12 hw) (ow_13 hw) od_31_1 (pc' := 4) rfl rfl (by decide) (Wd := 0) rfl (by decide) fun T1 w2 => ?_
  refine W.aloadN w2 od_31_4 (pc' := 5) rfl rfl rfl ?_
  refine W.aloadN w2 od_31_5 (pc' := 6) rfl rfl rfl ?_
  refine W.putF w2 (host := "") (Or.inl (ow_28 hw)) Via.refl F_v E_x (Or.inr ⟨(ow_29 hw), rfl, hnm⟩) (ow_2 hw) (ty := (.array .byte)) (by decide) rfl rfl mem0 od_31_6 (pc' := 9) rfl fun T3 h4 w5 W6 => ?_
  have F7 := F_c.other W6 (Or.inr (slot_ne (Or.inr (ow_27 hw)) (Or.inr (ow_29 hw)) (by decide) (t := .byte) (t' := (.array .byte)) (by decide) (by decide)))
  have F8 := F_v.same W6
  have K9 := Keep.of_wr W6
  refine W.aloadN w5 od_31_9 (pc' := 10) rfl rfl rfl ?_
  refine W.iloadN w5 od_31_10 (pc' := 11) rfl rfl ?_
  have f10 := (E_x.keep K9)
  refine W.putFN w5 (ow_26 hw) Via.refl F7 f10 (Or.inr ⟨(ow_27 hw), rfl, hnm⟩) (ow_2 hw) (ty := .byte) (v' := (.int (0 : Int32))) (by decide) rfl rfl mem0 od_31_11 (pc' := 14) rfl fun T11 h12 w13 W14 => ?_
  have F15 := F8.other W14 (Or.inr (slot_ne (Or.inr (ow_29 hw)) (Or.inr (ow_27 hw)) (by decide) (t := (.array .byte)) (t' := .byte) (by decide) (by decide)))
  have F16 := F7.same W14
  have K17 := Keep.of_wr W14
  have C18 := Keep.refl h0 [x]
  have C19 := C18.trans K9 (allS (Or.inl mem0) RoadKit.all0)
  have C20 := C19.trans K17 (allS (Or.inl mem0) RoadKit.all0)
  have f21 := (f10.keep K17)
  have f22 := ((V_b.keep K9 (ninS (Ne.symm hxb) nin0)).keep K17 (ninS (Ne.symm hxb) nin0))
  exact W.ret0 w13 rfl od_31_14 (M' := []) mN (by decide) (by decide) ⟨rfl, rfl, C20, f21, F16, F15, ⟨_, f22⟩, hlat, by omega⟩
set_option maxRecDepth 65536 in
set_option maxHeartbeats 40000000 in
theorem c_newString {l : Launch} {Z : State} {a0 : Array Value} (hw : HW Z a0) {h0 : Heap} {b : Addr} {k : ClassId} {cs : List Int32} {m : Nat} (V_b : Arv Z h0 b k .byte (Int32.ofNat cs.length) (by8 cs) (.int 0)) (hm0 : 0 < m) (hm : m < cs.length) (hlat : ∀ c ∈ cs, ¬ c < 0 ∧ ¬ (255 : Int32) < c) (hlen : cs.length ≤ 40) (hO : Old Z Z.heap.size h0) : Ctr l Z EL0 nw0 ({ cls := "java/lang/StringLatin1", name := "newString", desc := "([BII)Ljava/lang/String;" } : Jvm.MethodName) jdk_43_method_47_code 3 (some (.object "java/lang/String")) ({ frames := 3, cells := 2, slots := 44, locals := 50 } : Room) [.ref b, .int 0, .int (Int32.ofNat m)] h0 [] (fun v h M' => ∃ x u, v = some (.ref x) ∧ M' = [] ∧ Keep h0 h [] ∧ h0.size ≤ x ∧ h0.size ≤ u ∧ Str8 Z h x u (cs.take m)) := by
  refine of_body (a0 := a0) opn_30 (own_ew hw) hO (Ls := #[.val (.ref b), .val (.int (0 : Int32)), .val (.int (Int32.ofNat (m)))]) (fun m => by first | (simp [entryFrame, mkF, argsToLocals, Value.category]; done) | rfl) (fun κ T0 w0 hnm => ?_)
  have hlt : (cs.take m).length = m := by rw [List.length_take]; omega
  refine W.iloadN w0 od_26_0 (pc' := 1) rfl rfl ?_
  refine W.ifYes w0 od_26_1 (pc' := 7) (by decide) (by decide) ((if0 _ _).trans (feq (show ¬ ((Int32.ofNat (m)) = (0 : Int32)) from fun hlt_ => absurd ((i_eq (n_val (a := m) (by omega)) (show (0 : Int32).toInt = 0 by decide)).mp hlt_) (by omega))).2) ?_
  refine W.newO w0 (ow_166 hw) (ow_2 hw) (ow_3 hw) od_26_7 (pc' := 10) rfl (by decide) (by decide) fun T1 h2 a3 w4 K5 B6 E7 D8 => ?_
  have ne9 : b ≠ a3 := neL V_b.lt B6
  have F10 : Fld Z h2 a3 "java/lang/String" "coder" "B" (.int (0 : Int32)) := D8 (Or.inr (ow_27 hw)) (ty := .byte) (by decide)
  have F11 : Fld Z h2 a3 "java/lang/String" "value" "[B" .null := D8 (Or.inr (ow_29 hw)) (ty := (.array .byte)) (by decide)
  refine Jvm.Own.W.dup w4 od_26_10 rfl rfl ?_
  refine W.aloadN w4 od_26_11 (pc' := 12) rfl rfl rfl ?_
  refine W.iloadN w4 od_26_12 (pc' := 13) rfl rfl ?_
  refine W.iloadN w4 od_26_13 (pc' := 14) rfl rfl ?_
  refine W.iloadN w4 od_26_14 (pc' := 15) rfl rfl ?_
  refine W.iadd w4 od_26_15 (pc' := 16) rfl (z := (Int32.ofNat (m))) (Int32.zero_add _) ?_
  have f12 := (V_b.keep K5 nin0)
  refine W.callS w4 (ow_167 hw) (ow_168 hw) (ow_169 hw) (ow_170 hw) (by decide) opd_9 (Ctr.pay (c_cofr hw (p := 0) (q := m) f12 (by8_len cs) (by omega) (by omega) (by omega) (by omega) (fun _ => hm) w4.old) (own_ew hw) (ow_170 hw) (ow_169 hw) (kf := 3) (kl := 48) (by decide) (by decide)) mN od_26_16 (pc' := 19) rfl rfl rfl (rest := [(.ref a3), (.ref a3)]) rfl (Wd := 2) rfl (by decide) (by decide) (by decide) (by decide) fun v15 T13 h14 M16 w17 q18 => ?_
  obtain ⟨a19, rfl, rfl, K20, B21, k22, V23⟩ := q18
  have ne24 : b ≠ a19 := neL f12.lt B21
  have ne25 : a3 ≠ a19 := neL E7.lt B21
  have V26 : Arv Z h14 a19 k22 .byte (Int32.ofNat (cs.take m).length) (by8 (cs.take m)) (.int 0) := by rw [hlt, by8_take]; rw [Nat.sub_zero, List.drop_zero] at V23; exact V23
  show Go Z _ _ _ κ _ (T13.setTop (mkF (km κ) 19 #[.val (.ref b), .val (.int (0 : Int32)), .val (.int (Int32.ofNat (m)))] [(.ref a19), (.ref a3), (.ref a3)]))
  refine W.iconst w17 od_26_19 (pc' := 20) rfl (z := (0 : Int32)) rfl ?_
  have f27 := (E7.keep K20)
  have f28 := (F11.keep K20 nin0)
  have f29 := (F10.keep K20 nin0)
  refine W.callI w17 (ow_185 hw) (ow_186 hw) (ow_187 hw) rfl (by decide) opd_17 (Ctr.pay (c_sinitBB hw f27 f28 f29 V26 ne25 (fun c hc => hlat c (List.mem_of_mem_take hc)) (by rw [hlt]; omega) w17.old) (own_ew hw) (ow_187 hw) (ow_3 hw) (kf := 2) (kl := 26) (by decide) (by decide)) (mC (memA mem0) mN) od_26_20 (pc' := 23) rfl rfl rfl (rest := [(.ref a3)]) rfl (Wd := 1) rfl (by decide) (by decide) (by decide) (by decide) fun v32 T30 h31 M33 w34 q35 => ?_
  obtain ⟨rfl, rfl, K36, F37⟩ := q35
  show Go Z _ _ _ κ _ (T30.setTop (mkF (km κ) 23 #[.val (.ref b), .val (.int (0 : Int32)), .val (.int (Int32.ofNat (m)))] [(.ref a3)]))
  have C38 := Keep.refl h0 []
  have C39 := C38.trans K5 RoadKit.all0
  have C40 := C39.trans K20 RoadKit.all0
  have C41 := C40.trans K36 (allS (Or.inr B6) RoadKit.all0)
  exact W.retR w34 rfl rfl rfl od_26_23 (M' := []) mN (by decide) (by decide) ⟨a3, a19, rfl, rfl, C41, B6, (Nat.le_trans K5.1 B21), F37⟩
set_option maxRecDepth 65536 in
set_option maxHeartbeats 40000000 in
theorem c_sLat1 {l : Launch} {Z : State} {a0 : Array Value} (hw : HW Z a0) {h0 : Heap} {x0 : Addr} (F_c : Fld Z h0 x0 "java/lang/String" "coder" "B" (.int 0)) (hO : Old Z Z.heap.size h0) : Ctr l Z EL0 nw0 ({ cls := "java/lang/String", name := "isLatin1", desc := "()Z" } : Jvm.MethodName) jdk_42_method_154_code 1 (some .boolean) ({ frames := 0, cells := 0, slots := 0, locals := 0 } : Room) [.ref x0] h0 [] (fun v h M' => v = some (.int 1) ∧ M' = [] ∧ h = h0) := by
  refine of_body (a0 := a0) opn_31 (own_ew hw) hO (Ls := #[.val (.ref x0)]) (fun m => by first | (simp [entryFrame, mkF, argsToLocals, Value.category]; done) | rfl) (fun κ T0 w0 hnm => ?_)
  obtain ⟨zC, SC, hzC⟩ := hw.2.1.1
  refine W.getS w0 (ow_14 hw) Via.refl (SC.ext w0.old.2) od_25_0 (pc' := 3) rfl fun T1 w2 => ?_
  refine W.ifNo w2 od_25_3 (pc' := 6) rfl ((if0 _ _).trans (feq hzC).1) ?_
  refine W.aloadN w2 od_25_6 (pc' := 7) rfl rfl rfl ?_
  refine W.getF w2 (host := "") (Or.inl (ow_26 hw)) Via.refl F_c od_25_7 (pc' := 10) rfl fun T3 w4 => ?_
  refine W.ifNo w4 od_25_10 (pc' := 13) rfl ((if0 _ _).trans (teq (by decide : (0 : Int32) = (0 : Int32))).2) ?_
  refine W.iconst w4 od_25_13 (pc' := 14) rfl (z := (1 : Int32)) rfl ?_
  refine W.goto w4 od_25_14 (pc' := 18) (by decide) (by decide) ?_
  exact W.retN w4 (t := .boolean) (z' := (1 : Int32)) rfl rfl (by simp) od_25_18 (M' := []) mN (by decide) (by decide) ⟨rfl, rfl, rfl⟩
set_option maxRecDepth 65536 in
set_option maxHeartbeats 40000000 in
theorem c_substr {l : Launch} {Z : State} {a0 : Array Value} (hw : HW Z a0) {h0 : Heap} {x t : Addr} {cs : List Int32} {m : Nat} (F_x : Str8 Z h0 x t cs) (hm0 : 0 < m) (hm : m < cs.length) (hlen : cs.length ≤ 40) (hO : Old Z Z.heap.size h0) : Ctr l Z EL0 nw0 ({ cls := "java/lang/String", name := "substring", desc := "(II)Ljava/lang/String;" } : Jvm.MethodName) jdk_42_method_92_code 5 (some (.object "java/lang/String")) ({ frames := 4, cells := 2, slots := 44, locals := 64 } : Room) [.ref x, .int 0, .int (Int32.ofNat m)] h0 [] (fun v h M' => ∃ x u, v = some (.ref x) ∧ M' = [] ∧ Keep h0 h [] ∧ h0.size ≤ x ∧ h0.size ≤ u ∧ Str8 Z h x u (cs.take m)) := by
  refine of_body (a0 := a0) opn_32 (own_ew hw) hO (Ls := #[.val (.ref x), .val (.int (0 : Int32)), .val (.int (Int32.ofNat (m))), .unset, .unset]) (fun m => by first | (simp [entryFrame, mkF, argsToLocals, Value.category]; done) | rfl) (fun κ T0 w0 hnm => ?_)
  obtain ⟨ku, Au0⟩ := F_x.2.2.2.1
  have Au : Arv Z h0 t ku .byte (Int32.ofNat cs.length) (by8 cs) (.int 0) := Au0
  refine W.aloadN w0 od_22_0 (pc' := 1) rfl rfl rfl ?_
  refine W.callV w0 (ow_148 hw) (ow_133 hw) (nfSel (ow_135 hw)) (ow_135 hw) (ow_134 hw) (by decide) opd_3 F_x.1 (own_len hw w0.old F_x) mN od_22_1 (pc' := 4) rfl rfl rfl (rest := []) rfl (Wd := 0) rfl (by decide) (by decide) (by decide) (by decide) fun v3 T1 h2 M4 w5 q6 => ?_
  obtain ⟨rfl, rfl, e7⟩ := q6
  obtain rfl := e7.symm
  show Go Z _ _ _ κ _ (T1.setTop (mkF (km κ) 4 #[.val (.ref x), .val (.int (0 : Int32)), .val (.int (Int32.ofNat (m))), .unset, .unset] [(.int (Int32.ofNat (cs.length)))]))
  refine W.istoreN w5 od_22_4 (pc' := 5) rfl (Ls' := #[.val (.ref x), .val (.int (0 : Int32)), .val (.int (Int32.ofNat (m))), .val (.int (Int32.ofNat (cs.length))), .unset]) rfl ?_
  refine W.iloadN w5 od_22_5 (pc' := 6) rfl rfl ?_
  refine W.iloadN w5 od_22_6 (pc' := 7) rfl rfl ?_
  refine W.iloadN w5 od_22_7 (pc' := 8) rfl rfl ?_
  refine W.callS w5 (ow_149 hw) (ow_150 hw) (ow_3 hw) (ow_151 hw) (by decide) opd_18 (Ctr.pay (c_cbe hw (p := 0) (q := m) (r := cs.length) (by omega) (by omega) (by omega) w5.old) (own_ew hw) (ow_151 hw) (ow_3 hw) (kf := 2) (kl := 29) (by decide) (by decide)) mN od_22_8 (pc' := 11) rfl rfl rfl (rest := []) rfl (Wd := 0) rfl (by decide) (by decide) (by decide) (by decide) fun v10 T8 h9 M11 w12 q13 => ?_
  obtain ⟨rfl, rfl, e14⟩ := q13
  obtain rfl := e14.symm
  show Go Z _ _ _ κ _ (T8.setTop (mkF (km κ) 11 #[.val (.ref x), .val (.int (0 : Int32)), .val (.int (Int32.ofNat (m))), .val (.int (Int32.ofNat (cs.length))), .unset] []))
  refine W.iloadN w12 od_22_11 (pc' := 12) rfl rfl ?_
  refine W.ifNo w12 od_22_12 (pc' := 15) rfl ((if0 _ _).trans (teq (by decide : (0 : Int32) = (0 : Int32))).2) ?_
  refine W.iloadN w12 od_22_15 (pc' := 16) rfl rfl ?_
  refine W.iloadN w12 od_22_16 (pc' := 17) rfl rfl ?_
  refine W.icmpYes w12 od_22_17 (pc' := 22) (by decide) (by decide) (feq (show ¬ ((Int32.ofNat (m)) = (Int32.ofNat (cs.length))) from fun hlt_ => absurd ((i_eq (n_val (a := m) (by omega)) (n_val (a := cs.length) (by omega))).mp hlt_) (by omega))).2 ?_
  refine W.iloadN w12 od_22_22 (pc' := 23) rfl rfl ?_
  refine W.iloadN w12 od_22_23 (pc' := 24) rfl rfl ?_
  refine W.isub w12 od_22_24 (pc' := 25) rfl (z := (Int32.ofNat (m - (0)))) (n_sub (a := m) (b := 0) (by omega)) ?_
  refine W.istore w12 od_22_25 (pc' := 27) rfl (Ls' := #[.val (.ref x), .val (.int (0 : Int32)), .val (.int (Int32.ofNat (m))), .val (.int (Int32.ofNat (cs.length))), .val (.int (Int32.ofNat (m - (0))))]) rfl ?_
  refine W.aloadN w12 od_22_27 (pc' := 28) rfl rfl rfl ?_
  refine W.callV w12 (ow_157 hw) (ow_158 hw) (nfSel (ow_160 hw)) (ow_160 hw) (ow_159 hw) (by decide) opd_11 F_x.1 (Ctr.pay (c_sLat1 hw F_x.2.1 w12.old) (own_ew hw) (ow_161 hw) (ow_3 hw) (kf := 1) (kl := 12) (by decide) (by decide)) mN od_22_28 (pc' := 31) rfl rfl rfl (rest := []) rfl (Wd := 0) rfl (by decide) (by decide) (by decide) (by decide) fun v17 T15 h16 M18 w19 q20 => ?_
  obtain ⟨rfl, rfl, e21⟩ := q20
  obtain rfl := e21.symm
  show Go Z _ _ _ κ _ (T15.setTop (mkF (km κ) 31 #[.val (.ref x), .val (.int (0 : Int32)), .val (.int (Int32.ofNat (m))), .val (.int (Int32.ofNat (cs.length))), .val (.int (Int32.ofNat (m - (0))))] [(.int (1 : Int32))]))
  refine W.ifNo w19 od_22_31 (pc' := 34) rfl ((if0 _ _).trans (feq (by decide : ¬ ((1 : Int32) = (0 : Int32)))).1) ?_
  refine W.aloadN w19 od_22_34 (pc' := 35) rfl rfl rfl ?_
  refine W.getF w19 (host := "") (Or.inl (ow_28 hw)) Via.refl F_x.2.2.1 od_22_35 (pc' := 38) rfl fun T22 w23 => ?_
  refine W.iloadN w23 od_22_38 (pc' := 39) rfl rfl ?_
  refine W.iload w23 od_22_39 (pc' := 41) rfl rfl ?_
  refine W.callS w23 (ow_162 hw) (ow_163 hw) (ow_164 hw) (ow_165 hw) (by decide) opd_19 (Ctr.pay (c_newString hw Au hm0 hm F_x.2.2.2.2.1 hlen w23.old) (own_ew hw) (ow_165 hw) (ow_164 hw) (kf := 4) (kl := 64) (by decide) (by decide)) mN od_22_41 (pc' := 44) rfl rfl rfl (rest := []) rfl (Wd := 0) rfl (by decide) (by decide) (by decide) (by decide) fun v26 T24 h25 M27 w28 q29 => ?_
  obtain ⟨a30, t31, rfl, rfl, K32, B33, B34, F35⟩ := q29
  have ne36 : x ≠ a30 := neL F_x.1.lt B33
  have ne37 : t ≠ a30 := neL Au.lt B33
  have ne38 : x ≠ t31 := neL F_x.1.lt B34
  have ne39 : t ≠ t31 := neL Au.lt B34
  show Go Z _ _ _ κ _ (T24.setTop (mkF (km κ) 44 #[.val (.ref x), .val (.int (0 : Int32)), .val (.int (Int32.ofNat (m))), .val (.int (Int32.ofNat (cs.length))), .val (.int (Int32.ofNat (m - (0))))] [(.ref a30)]))
  refine W.goto w28 od_22_44 (pc' := 57) (by decide) (by decide) ?_
  have C40 := Keep.refl h0 []
  have C41 := C40.trans K32 RoadKit.all0
  exact W.retR w28 rfl rfl rfl od_22_57 (M' := []) mN (by decide) (by decide) ⟨a30, t31, rfl, rfl, C41, B33, B34, F35⟩
set_option maxRecDepth 65536 in
set_option maxHeartbeats 40000000 in
theorem c_wos {l : Launch} {Z : State} {a0 : Array Value} (hw : HW Z a0) {h0 : Heap} {x t : Addr} {c0 c1 c2 c3 c4 c5 c6 c7 c8 c9 : Int32} (F_x : Str8 Z h0 x t [c0, c1, c2, c3, c4, c5, c6, c7, c8, c9]) (hO : Old Z Z.heap.size h0) : Ctr l Z EL0 nw0 ({ cls := "com/example/sedgeholt/sedgeholt/layout/VersionFile", name := "withoutSnapshot", desc := "(Ljava/lang/String;)Ljava/lang/String;" } : Jvm.MethodName) prog_9_method_10_code 1 (some (.object "java/lang/String")) ({ frames := 5, cells := 4, slots := 80, locals := 80 } : Room) [.ref x] h0 [] (fun v h M' => ∃ x u, v = some (.ref x) ∧ M' = [] ∧ Keep h0 h [] ∧ h0.size ≤ x ∧ h0.size ≤ u ∧ Str8 Z h x u [c0, c1]) := by
  refine of_body (a0 := a0) opn_33 (own_ew hw) hO (Ls := #[.val (.ref x)]) (fun m => by first | (simp [entryFrame, mkF, argsToLocals, Value.category]; done) | rfl) (fun κ T0 w0 hnm => ?_)
  refine W.aloadN w0 od_19_0 (pc' := 1) rfl rfl rfl ?_
  refine W.iconst w0 od_19_1 (pc' := 2) rfl (z := (0 : Int32)) rfl ?_
  refine W.aloadN w0 od_19_2 (pc' := 3) rfl rfl rfl ?_
  refine W.callV w0 (ow_132 hw) (ow_133 hw) (nfSel (ow_135 hw)) (ow_135 hw) (ow_134 hw) (by decide) opd_3 F_x.1 (own_len hw w0.old F_x) mN od_19_3 (pc' := 6) rfl rfl rfl (rest := [(.int (0 : Int32)), (.ref x)]) rfl (Wd := 2) rfl (by decide) (by decide) (by decide) (by decide) fun v3 T1 h2 M4 w5 q6 => ?_
  obtain ⟨rfl, rfl, e7⟩ := q6
  obtain rfl := e7.symm
  show Go Z _ _ _ κ _ (T1.setTop (mkF (km κ) 6 #[.val (.ref x)] [(.int (10 : Int32)), (.int (0 : Int32)), (.ref x)]))
  refine W.ldcS w5 rfl (ow_142 hw) (own_sA hw) (List.mem_of_getElem? (i := 0) rfl) (vs := [(.int (83 : Int32)), (.int (78 : Int32)), (.int (65 : Int32)), (.int (80 : Int32)), (.int (83 : Int32)), (.int (72 : Int32)), (.int (79 : Int32)), (.int (84 : Int32))]) (z := (8 : Int32)) ⟨by decide, by decide⟩ (by decide) (by decide) od_19_6 (pc' := 8) rfl (n := 32) (by decide) (by decide) (by decide) (by decide) fun T8 h9 a10 a11 k12 w13 K14 E15 F16 F17 V18 Q19 => ?_
  have F20 : Str8 Z h9 a10 a11 [(83 : Int32), (78 : Int32), (65 : Int32), (80 : Int32), (83 : Int32), (72 : Int32), (79 : Int32), (84 : Int32)] := ⟨E15, F16, F17, ⟨_, V18⟩, by decide, by decide⟩
  refine W.callV w13 (ow_132 hw) (ow_133 hw) (nfSel (ow_135 hw)) (ow_135 hw) (ow_134 hw) (by decide) opd_3 E15 (own_len hw w13.old F20) mN od_19_8 (pc' := 11) rfl rfl rfl (rest := [(.int (10 : Int32)), (.int (0 : Int32)), (.ref x)]) rfl (Wd := 3) rfl (by decide) (by decide) (by decide) (by decide) fun v23 T21 h22 M24 w25 q26 => ?_
  obtain ⟨rfl, rfl, e27⟩ := q26
  obtain rfl := e27.symm
  show Go Z _ _ _ κ _ (T21.setTop (mkF (km κ) 11 #[.val (.ref x)] [(.int (8 : Int32)), (.int (10 : Int32)), (.int (0 : Int32)), (.ref x)]))
  refine W.isub w25 od_19_11 (pc' := 12) rfl (z := (2 : Int32)) rfl ?_
  have f28 := (F_x.1.keep K14)
  have f29 := (F_x.keep K14 nin0 nin0)
  refine W.callV w25 (ow_143 hw) (ow_144 hw) (nfSel (ow_146 hw)) (ow_146 hw) (ow_145 hw) (by decide) opd_20 f28 (Ctr.pay (c_substr hw (m := 2) f29 (by decide) (Nat.le_of_ble_eq_true rfl) (Nat.le_of_ble_eq_true rfl) w25.old) (own_ew hw) (ow_147 hw) (ow_3 hw) (kf := 5) (kl := 80) (by decide) (by decide)) mN od_19_12 (pc' := 15) rfl rfl rfl (rest := []) rfl (Wd := 0) rfl (by decide) (by decide) (by decide) (by decide) fun v32 T30 h31 M33 w34 q35 => ?_
  obtain ⟨a36, t37, rfl, rfl, K38, B39, B40, F41⟩ := q35
  have ne42 : x ≠ a36 := neL f28.lt B39
  have ne43 : t ≠ a36 := neL f29.lt2 B39
  have ne44 : a10 ≠ a36 := neL E15.lt B39
  have ne45 : a11 ≠ a36 := neL V18.lt B39
  have ne46 : x ≠ t37 := neL f28.lt B40
  have ne47 : t ≠ t37 := neL f29.lt2 B40
  have ne48 : a10 ≠ t37 := neL E15.lt B40
  have ne49 : a11 ≠ t37 := neL V18.lt B40
  show Go Z _ _ _ κ _ (T30.setTop (mkF (km κ) 15 #[.val (.ref x)] [(.ref a36)]))
  have C50 := Keep.refl h0 []
  have C51 := C50.trans K14 RoadKit.all0
  have C52 := C51.trans K38 RoadKit.all0
  exact W.retR w34 rfl rfl rfl od_19_15 (M' := []) mN (by decide) (by decide) ⟨a36, t37, rfl, rfl, C52, (Nat.le_trans K14.1 B39), (Nat.le_trans K14.1 B40), F41⟩
set_option maxRecDepth 65536 in
set_option maxHeartbeats 40000000 in
theorem c_timestamp {l : Launch} {Z : State} {a0 : Array Value} (hw : HW Z a0) {h0 : Heap} {b x : Addr} (F_b : Fld Z h0 b "com/example/sedgeholt/sedgeholt/layout/VersionFile$Build" "timestamp" "Ljava/lang/String;" (.ref x)) (hO : Old Z Z.heap.size h0) : Ctr l Z EL0 nw0 ({ cls := "com/example/sedgeholt/sedgeholt/layout/VersionFile$Build", name := "timestamp", desc := "()Ljava/lang/String;" } : Jvm.MethodName) prog_10_method_6_code 1 (some (.object "java/lang/String")) ({ frames := 0, cells := 0, slots := 0, locals := 0 } : Room) [.ref b] h0 [] (fun v h M' => v = some (.ref x) ∧ M' = [] ∧ h = h0) := by
  refine of_body (a0 := a0) opn_34 (own_ew hw) hO (Ls := #[.val (.ref b)]) (fun m => by first | (simp [entryFrame, mkF, argsToLocals, Value.category]; done) | rfl) (fun κ T0 w0 hnm => ?_)
  refine W.aloadN w0 od_38_0 (pc' := 1) rfl rfl rfl ?_
  refine W.getF w0 (host := "") (Or.inl (ow_48 hw)) Via.refl F_b od_38_1 (pc' := 4) rfl fun T1 w2 => ?_
  exact W.retR w2 rfl rfl rfl od_38_4 (M' := []) mN (by decide) (by decide) ⟨rfl, rfl, rfl⟩
set_option maxRecDepth 65536 in
set_option maxHeartbeats 40000000 in
theorem c_number {l : Launch} {Z : State} {a0 : Array Value} (hw : HW Z a0) {h0 : Heap} {b x : Addr} (F_b : Fld Z h0 b "com/example/sedgeholt/sedgeholt/layout/VersionFile$Build" "number" "Ljava/lang/String;" (.ref x)) (hO : Old Z Z.heap.size h0) : Ctr l Z EL0 nw0 ({ cls := "com/example/sedgeholt/sedgeholt/layout/VersionFile$Build", name := "number", desc := "()Ljava/lang/String;" } : Jvm.MethodName) prog_10_method_7_code 1 (some (.object "java/lang/String")) ({ frames := 0, cells := 0, slots := 0, locals := 0 } : Room) [.ref b] h0 [] (fun v h M' => v = some (.ref x) ∧ M' = [] ∧ h = h0) := by
  refine of_body (a0 := a0) opn_35 (own_ew hw) hO (Ls := #[.val (.ref b)]) (fun m => by first | (simp [entryFrame, mkF, argsToLocals, Value.category]; done) | rfl) (fun κ T0 w0 hnm => ?_)
  refine W.aloadN w0 od_39_0 (pc' := 1) rfl rfl rfl ?_
  refine W.getF w0 (host := "") (Or.inl (ow_50 hw)) Via.refl F_b od_39_1 (pc' := 4) rfl fun T1 w2 => ?_
  exact W.retR w2 rfl rfl rfl od_39_4 (M' := []) mN (by decide) (by decide) ⟨rfl, rfl, rfl⟩
set_option maxRecDepth 65536 in
set_option maxHeartbeats 40000000 in
theorem c_lam {l : Launch} {Z : State} {a0 : Array Value} (hw : HW Z a0) {h0 : Heap} {r b xv tv xt tt xn tn : Addr} {c0 c1 c2 c3 c4 c5 c6 c7 c8 c9 t0 t1 n0 n1 : Int32} (E_b : Exa Z h0 b "com/example/sedgeholt/sedgeholt/layout/VersionFile$Build") (F_r : Fld Z h0 r "com/example/sedgeholt/sedgeholt/layout/VersionFile" "version" "Ljava/lang/String;" (.ref xv)) (F_t : Fld Z h0 b "com/example/sedgeholt/sedgeholt/layout/VersionFile$Build" "timestamp" "Ljava/lang/String;" (.ref xt)) (F_n : Fld Z h0 b "com/example/sedgeholt/sedgeholt/layout/VersionFile$Build" "number" "Ljava/lang/String;" (.ref xn)) (S_v : Str8 Z h0 xv tv [c0, c1, c2, c3, c4, c5, c6, c7, c8, c9]) (S_t : Str8 Z h0 xt tt [t0, t1]) (S_n : Str8 Z h0 xn tn [n0, n1]) (hO : Old Z Z.heap.size h0) : Ctr l Z EL0 nw0 ({ cls := "com/example/sedgeholt/sedgeholt/layout/VersionFile", name := "lambda$fileVersion$3", desc := "(Lcom/example/sedgeholt/sedgeholt/layout/VersionFile$Build;)Ljava/lang/String;" } : Jvm.MethodName) prog_9_method_19_code 2 (some (.object "java/lang/String")) ({ frames := 6, cells := 10, slots := 152, locals := 93 } : Room) [.ref r, .ref b] h0 [] (fun v h M' => ∃ x u, v = some (.ref x) ∧ M' = [] ∧ Keep h0 h [] ∧ h0.size ≤ x ∧ h0.size ≤ u ∧ Str8 Z h x u [c0, c1, t0, t1, (45 : Int32), n0, n1]) := by
  refine of_body (a0 := a0) opn_36 (own_ew hw) hO (Ls := #[.val (.ref r), .val (.ref b)]) (fun m => by first | (simp [entryFrame, mkF, argsToLocals, Value.category]; done) | rfl) (fun κ T0 w0 hnm => ?_)
  refine W.newO w0 (ow_111 hw) (ow_112 hw) (ow_113 hw) od_16_0 (pc' := 3) rfl (by decide) (by decide) fun T1 h2 a3 w4 K5 B6 E7 D8 => ?_
  have ne9 : r ≠ a3 := neL F_r.lt B6
  have ne10 : b ≠ a3 := neL E_b.lt B6
  have ne11 : xv ≠ a3 := neL S_v.1.lt B6
  have ne12 : tv ≠ a3 := neL S_v.lt2 B6
  have ne13 : xt ≠ a3 := neL S_t.1.lt B6
  have ne14 : tt ≠ a3 := neL S_t.lt2 B6
  have ne15 : xn ≠ a3 := neL S_n.1.lt B6
  have ne16 : tn ≠ a3 := neL S_n.lt2 B6
  have F17 : Fld Z h2 a3 "java/lang/AbstractStringBuilder" "value" "[B" .null := D8 (Or.inl (ow_126 hw)) (ty := (.array .byte)) (by decide)
  have F18 : Fld Z h2 a3 "java/lang/AbstractStringBuilder" "coder" "B" (.int (0 : Int32)) := D8 (Or.inl (ow_128 hw)) (ty := .byte) (by decide)
  have F19 : Fld Z h2 a3 "java/lang/AbstractStringBuilder" "count" "I" (.int (0 : Int32)) := D8 (Or.inl (ow_200 hw)) (ty := .int) (by decide)
  refine Jvm.Own.W.dup w4 od_16_3 rfl rfl ?_
  have f20 := (Nat.lt_of_lt_of_le F_r.lt K5.1)
  have f21 := (E_b.keep K5)
  have f22 := (S_v.1.keep K5)
  have f23 := (S_v.keep K5 nin0 nin0)
  have f24 := (S_t.1.keep K5)
  have f25 := (S_t.keep K5 nin0 nin0)
  have f26 := (S_n.1.keep K5)
  have f27 := (S_n.keep K5 nin0 nin0)
  refine W.callI w4 (ow_114 hw) (ow_115 hw) (ow_116 hw) rfl (by decide) opd_21 (Ctr.pay (c_sbinit hw E7 F17 F18 F19 w4.old) (own_ew hw) (ow_116 hw) (ow_113 hw) (kf := 3) (kl := 37) (by decide) (by decide)) (mC mem0 mN) od_16_4 (pc' := 7) rfl rfl rfl (rest := [(.ref a3)]) rfl (Wd := 1) rfl (by decide) (by decide) (by decide) (by decide) fun v30 T28 h29 M31 w32 q33 => ?_
  obtain ⟨rfl, t34, rfl, K35, B36, F37⟩ := q33
  have ne38 : r ≠ t34 := neL f20 B36
  have ne39 : b ≠ t34 := neL f21.lt B36
  have ne40 : xv ≠ t34 := neL f22.lt B36
  have ne41 : tv ≠ t34 := neL f23.lt2 B36
  have ne42 : xt ≠ t34 := neL f24.lt B36
  have ne43 : tt ≠ t34 := neL f25.lt2 B36
  have ne44 : xn ≠ t34 := neL f26.lt B36
  have ne45 : tn ≠ t34 := neL f27.lt2 B36
  have ne46 : a3 ≠ t34 := neL E7.lt B36
  show Go Z _ _ _ κ _ (T28.setTop (mkF (km κ) 7 #[.val (.ref r), .val (.ref b)] [(.ref a3)]))
  refine W.aloadN w32 od_16_7 (pc' := 8) rfl rfl rfl ?_
  have f47 := ((F_r.keep K5 nin0).keep K35 (ninS ne9 nin0))
  refine W.getF w32 (host := "") (Or.inl (ow_77 hw)) Via.refl f47 od_16_8 (pc' := 11) rfl fun T48 w49 => ?_
  have f50 := (Nat.lt_of_lt_of_le f20 K35.1)
  have f51 := (f21.keep K35)
  have f52 := (f22.keep K35)
  have f53 := (f23.keep K35 (ninS ne11 nin0) (ninS ne12 nin0))
  have f54 := (f24.keep K35)
  have f55 := (f25.keep K35 (ninS ne13 nin0) (ninS ne14 nin0))
  have f56 := (f26.keep K35)
  have f57 := (f27.keep K35 (ninS ne15 nin0) (ninS ne16 nin0))
  refine W.callS w49 (ow_129 hw) (ow_130 hw) (ow_32 hw) (ow_131 hw) (by decide) opd_22 (Ctr.pay (c_wos hw f53 w49.old) (own_ew hw) (ow_131 hw) (ow_32 hw) (kf := 6) (kl := 92) (by decide) (by decide)) mN od_16_11 (pc' := 14) rfl rfl rfl (rest := [(.ref a3)]) rfl (Wd := 1) rfl (by decide) (by decide) (by decide) (by decide) fun v60 T58 h59 M61 w62 q63 => ?_
  obtain ⟨a64, t65, rfl, rfl, K66, B67, B68, F69⟩ := q63
  have ne70 : r ≠ a64 := neL f50 B67
  have ne71 : b ≠ a64 := neL f51.lt B67
  have ne72 : xv ≠ a64 := neL f52.lt B67
  have ne73 : tv ≠ a64 := neL f53.lt2 B67
  have ne74 : xt ≠ a64 := neL f54.lt B67
  have ne75 : tt ≠ a64 := neL f55.lt2 B67
  have ne76 : xn ≠ a64 := neL f56.lt B67
  have ne77 : tn ≠ a64 := neL f57.lt2 B67
  have ne78 : a3 ≠ a64 := neL F37.1.lt B67
  have ne79 : t34 ≠ a64 := neL F37.lt2 B67
  have ne80 : r ≠ t65 := neL f50 B68
  have ne81 : b ≠ t65 := neL f51.lt B68
  have ne82 : xv ≠ t65 := neL f52.lt B68
  have ne83 : tv ≠ t65 := neL f53.lt2 B68
  have ne84 : xt ≠ t65 := neL f54.lt B68
  have ne85 : tt ≠ t65 := neL f55.lt2 B68
  have ne86 : xn ≠ t65 := neL f56.lt B68
  have ne87 : tn ≠ t65 := neL f57.lt2 B68
  have ne88 : a3 ≠ t65 := neL F37.1.lt B68
  have ne89 : t34 ≠ t65 := neL F37.lt2 B68
  show Go Z _ _ _ κ _ (T58.setTop (mkF (km κ) 14 #[.val (.ref r), .val (.ref b)] [(.ref a64), (.ref a3)]))
  have f90 := (F37.keep K66 nin0 nin0)
  have f91 := (Nat.lt_of_lt_of_le f50 K66.1)
  have f92 := (f51.keep K66)
  have f93 := (f52.keep K66)
  have f94 := (f53.keep K66 nin0 nin0)
  have f95 := (f54.keep K66)
  have f96 := (f55.keep K66 nin0 nin0)
  have f97 := (f56.keep K66)
  have f98 := (f57.keep K66 nin0 nin0)
  have f105 := (F37.1.keep K66)
  refine W.callV w62 (ow_188 hw) (ow_189 hw) (nfSel (ow_191 hw)) (ow_191 hw) (ow_190 hw) (by decide) opd_23 f105 (Ctr.pay (c_append hw f90 ne46 F69 ⟨ne78, ne79, ne88, ne89⟩ (Or.inl (Nat.le_of_ble_eq_true rfl)) w62.old) (own_ew hw) (ow_192 hw) (ow_113 hw) (kf := 5) (kl := 74) (by decide) (by decide)) (mC (memA (memA mem0)) (mC (memA (memB mem0)) mN)) od_16_14 (pc' := 17) rfl rfl rfl (rest := []) rfl (Wd := 0) rfl (by decide) (by decide) (by decide) (by decide) fun v101 T99 h100 M102 w103 q104 => ?_
  obtain ⟨rfl, t106, rs107, rfl, K108, W109, ne110, F111⟩ := q104
  have F112 : SB Z h100 a3 t106 [c0, c1] 16 rs107 := F111
  have ne113 : r ≠ t106 := W109.elim (fun q => q ▸ ne38) (fun q => neL f91 q)
  have ne114 : b ≠ t106 := W109.elim (fun q => q ▸ ne39) (fun q => neL f92.lt q)
  have ne115 : xv ≠ t106 := W109.elim (fun q => q ▸ ne40) (fun q => neL f93.lt q)
  have ne116 : tv ≠ t106 := W109.elim (fun q => q ▸ ne41) (fun q => neL f94.lt2 q)
  have ne117 : xt ≠ t106 := W109.elim (fun q => q ▸ ne42) (fun q => neL f95.lt q)
  have ne118 : tt ≠ t106 := W109.elim (fun q => q ▸ ne43) (fun q => neL f96.lt2 q)
  have ne119 : xn ≠ t106 := W109.elim (fun q => q ▸ ne44) (fun q => neL f97.lt q)
  have ne120 : tn ≠ t106 := W109.elim (fun q => q ▸ ne45) (fun q => neL f98.lt2 q)
  have ne121 : a64 ≠ t106 := W109.elim (fun q => q ▸ (Ne.symm ne79)) (fun q => neL F69.1.lt q)
  have ne122 : t65 ≠ t106 := W109.elim (fun q => q ▸ (Ne.symm ne89)) (fun q => neL F69.lt2 q)
  have ab123 : h0.size ≤ t106 := W109.elim (fun q => q ▸ (Nat.le_trans K5.1 B36)) (fun q => (Nat.le_trans K5.1 (Nat.le_trans K35.1 (Nat.le_trans K66.1 q))))
  show Go Z _ _ _ κ _ (T99.setTop (mkF (km κ) 17 #[.val (.ref r), .val (.ref b)] [(.ref a3)]))
  refine W.aloadN w103 od_16_17 (pc' := 18) rfl rfl rfl ?_
  have f124 := ((((F_t.keep K5 nin0).keep K35 (ninS ne10 nin0)).keep K66 nin0).keep K108 (ninS ne10 (ninS ne39 nin0)))
  have f131 := (f92.keep K108)
  refine W.callV w103 (ow_223 hw) (ow_224 hw) (nfSel (ow_226 hw)) (ow_226 hw) (ow_225 hw) (by decide) opd_24 f131 (Ctr.pay (c_timestamp hw f124 w103.old) (own_ew hw) (ow_227 hw) (ow_38 hw) (kf := 1) (kl := 12) (by decide) (by decide)) mN od_16_18 (pc' := 21) rfl rfl rfl (rest := [(.ref a3)]) rfl (Wd := 1) rfl (by decide) (by decide) (by decide) (by decide) fun v127 T125 h126 M128 w129 q130 => ?_
  obtain ⟨rfl, rfl, e132⟩ := q130
  obtain rfl := e132.symm
  show Go Z _ _ _ κ _ (T125.setTop (mkF (km κ) 21 #[.val (.ref r), .val (.ref b)] [(.ref xt), (.ref a3)]))
  have f133 := (f96.keep K108 (ninS ne13 (ninS ne42 nin0)) (ninS ne14 (ninS ne43 nin0)))
  have f134 := (Nat.lt_of_lt_of_le f91 K108.1)
  have f135 := (f93.keep K108)
  have f136 := (f94.keep K108 (ninS ne11 (ninS ne40 nin0)) (ninS ne12 (ninS ne41 nin0)))
  have f137 := (f95.keep K108)
  have f138 := (f97.keep K108)
  have f139 := (f98.keep K108 (ninS ne15 (ninS ne44 nin0)) (ninS ne16 (ninS ne45 nin0)))
  have f140 := (F69.1.keep K108)
  have f141 := (F69.keep K108 (ninS (Ne.symm ne78) (ninS (Ne.symm ne79) nin0)) (ninS (Ne.symm ne88) (ninS (Ne.symm ne89) nin0)))
  refine W.callV w129 (ow_188 hw) (ow_189 hw) (nfSel (ow_191 hw)) (ow_191 hw) (ow_190 hw) (by decide) opd_23 F112.1 (Ctr.pay (c_append hw F112 ne110 f133 ⟨(Ne.symm ne13), (Ne.symm ne117), (Ne.symm ne14), (Ne.symm ne118)⟩ (Or.inl (Nat.le_of_ble_eq_true rfl)) w129.old) (own_ew hw) (ow_192 hw) (ow_113 hw) (kf := 5) (kl := 74) (by decide) (by decide)) (mC (memA (memA (memA (memA mem0)))) (mC (memA (memB mem0)) mN)) od_16_21 (pc' := 24) rfl rfl rfl (rest := []) rfl (Wd := 0) rfl (by decide) (by decide) (by decide) (by decide) fun v144 T142 h143 M145 w146 q147 => ?_
  obtain ⟨rfl, t148, rs149, rfl, K150, W151, ne152, F153⟩ := q147
  have F154 : SB Z h143 a3 t148 [c0, c1, t0, t1] 16 rs149 := F153
  have ne155 : r ≠ t148 := W151.elim (fun q => q ▸ ne113) (fun q => neL f134 q)
  have ne156 : b ≠ t148 := W151.elim (fun q => q ▸ ne114) (fun q => neL f131.lt q)
  have ne157 : xv ≠ t148 := W151.elim (fun q => q ▸ ne115) (fun q => neL f135.lt q)
  have ne158 : tv ≠ t148 := W151.elim (fun q => q ▸ ne116) (fun q => neL f136.lt2 q)
  have ne159 : xt ≠ t148 := W151.elim (fun q => q ▸ ne117) (fun q => neL f137.lt q)
  have ne160 : tt ≠ t148 := W151.elim (fun q => q ▸ ne118) (fun q => neL f133.lt2 q)
  have ne161 : xn ≠ t148 := W151.elim (fun q => q ▸ ne119) (fun q => neL f138.lt q)
  have ne162 : tn ≠ t148 := W151.elim (fun q => q ▸ ne120) (fun q => neL f139.lt2 q)
  have ne163 : a64 ≠ t148 := W151.elim (fun q => q ▸ ne121) (fun q => neL f140.lt q)
  have ne164 : t65 ≠ t148 := W151.elim (fun q => q ▸ ne122) (fun q => neL f141.lt2 q)
  have ab165 : h0.size ≤ t148 := W151.elim (fun q => q ▸ ab123) (fun q => (Nat.le_trans K5.1 (Nat.le_trans K35.1 (Nat.le_trans K66.1 (Nat.le_trans K108.1 q)))))
  show Go Z _ _ _ κ _ (T142.setTop (mkF (km κ) 24 #[.val (.ref r), .val (.ref b)] [(.ref a3)]))
  refine W.ldcS w146 rfl (ow_228 hw) (own_sA hw) (List.mem_of_getElem? (i := 1) rfl) (vs := [(.int (45 : Int32))]) (z := (1 : Int32)) ⟨by decide, by decide⟩ (by decide) (by decide) od_16_24 (pc' := 26) rfl (n := 4) (by decide) (by decide) (by decide) (by decide) fun T166 h167 a168 a169 k170 w171 K172 E173 F174 F175 V176 Q177 => ?_
  have ne178 : a3 ≠ a168 := (Q177 a3 (memA (memA (memA (memA (memA mem0)))))).1
  have ne179 : a3 ≠ a169 := (Q177 a3 (memA (memA (memA (memA (memA mem0)))))).2
  have ne180 : t148 ≠ a168 := (Q177 t148 (memB mem0)).1
  have ne181 : t148 ≠ a169 := (Q177 t148 (memB mem0)).2
  have F182 : Str8 Z h167 a168 a169 [(45 : Int32)] := ⟨E173, F174, F175, ⟨_, V176⟩, by decide, by decide⟩
  have f183 := (F154.keep K172 nin0 nin0)
  have f184 := (Nat.lt_of_lt_of_le (Nat.lt_of_lt_of_le f134 K150.1) K172.1)
  have f185 := ((f131.keep K150).keep K172)
  have f186 := ((f135.keep K150).keep K172)
  have f187 := ((f136.keep K150 (ninS ne11 (ninS ne115 nin0)) (ninS ne12 (ninS ne116 nin0))).keep K172 nin0 nin0)
  have f188 := ((f137.keep K150).keep K172)
  have f189 := ((f133.keep K150 (ninS ne13 (ninS ne117 nin0)) (ninS ne14 (ninS ne118 nin0))).keep K172 nin0 nin0)
  have f190 := ((f138.keep K150).keep K172)
  have f191 := ((f139.keep K150 (ninS ne15 (ninS ne119 nin0)) (ninS ne16 (ninS ne120 nin0))).keep K172 nin0 nin0)
  have f192 := ((f140.keep K150).keep K172)
  have f193 := ((f141.keep K150 (ninS (Ne.symm ne78) (ninS ne121 nin0)) (ninS (Ne.symm ne88) (ninS ne122 nin0))).keep K172 nin0 nin0)
  have f200 := (F154.1.keep K172)
  refine W.callV w171 (ow_188 hw) (ow_189 hw) (nfSel (ow_191 hw)) (ow_191 hw) (ow_190 hw) (by decide) opd_23 f200 (Ctr.pay (c_append hw f183 ne152 F182 ⟨ne178, ne180, ne179, ne181⟩ (Or.inl (Nat.le_of_ble_eq_true rfl)) w171.old) (own_ew hw) (ow_192 hw) (ow_113 hw) (kf := 5) (kl := 74) (by decide) (by decide)) (mC (memA (memA (memA (memA (memA mem0))))) (mC (memB mem0) mN)) od_16_26 (pc' := 29) rfl rfl rfl (rest := []) rfl (Wd := 0) rfl (by decide) (by decide) (by decide) (by decide) fun v196 T194 h195 M197 w198 q199 => ?_
  obtain ⟨rfl, t201, rs202, rfl, K203, W204, ne205, F206⟩ := q199
  have F207 : SB Z h195 a3 t201 [c0, c1, t0, t1, (45 : Int32)] 16 rs202 := F206
  have ne208 : r ≠ t201 := W204.elim (fun q => q ▸ ne155) (fun q => neL f184 q)
  have ne209 : b ≠ t201 := W204.elim (fun q => q ▸ ne156) (fun q => neL f185.lt q)
  have ne210 : xv ≠ t201 := W204.elim (fun q => q ▸ ne157) (fun q => neL f186.lt q)
  have ne211 : tv ≠ t201 := W204.elim (fun q => q ▸ ne158) (fun q => neL f187.lt2 q)
  have ne212 : xt ≠ t201 := W204.elim (fun q => q ▸ ne159) (fun q => neL f188.lt q)
  have ne213 : tt ≠ t201 := W204.elim (fun q => q ▸ ne160) (fun q => neL f189.lt2 q)
  have ne214 : xn ≠ t201 := W204.elim (fun q => q ▸ ne161) (fun q => neL f190.lt q)
  have ne215 : tn ≠ t201 := W204.elim (fun q => q ▸ ne162) (fun q => neL f191.lt2 q)
  have ne216 : a64 ≠ t201 := W204.elim (fun q => q ▸ ne163) (fun q => neL f192.lt q)
  have ne217 : t65 ≠ t201 := W204.elim (fun q => q ▸ ne164) (fun q => neL f193.lt2 q)
  have ne218 : a168 ≠ t201 := W204.elim (fun q => q ▸ (Ne.symm ne180)) (fun q => neL E173.lt q)
  have ne219 : a169 ≠ t201 := W204.elim (fun q => q ▸ (Ne.symm ne181)) (fun q => neL V176.lt q)
  have ab220 : h0.size ≤ t201 := W204.elim (fun q => q ▸ ab165) (fun q => (Nat.le_trans K5.1 (Nat.le_trans K35.1 (Nat.le_trans K66.1 (Nat.le_trans K108.1 (Nat.le_trans K150.1 (Nat.le_trans K172.1 q)))))))
  show Go Z _ _ _ κ _ (T194.setTop (mkF (km κ) 29 #[.val (.ref r), .val (.ref b)] [(.ref a3)]))
  refine W.aloadN w198 od_16_29 (pc' := 30) rfl rfl rfl ?_
  have f221 := (((((((F_n.keep K5 nin0).keep K35 (ninS ne10 nin0)).keep K66 nin0).keep K108 (ninS ne10 (ninS ne39 nin0))).keep K150 (ninS ne10 (ninS ne114 nin0))).keep K172 nin0).keep K203 (ninS ne10 (ninS ne156 nin0)))
  have f228 := (f185.keep K203)
  refine W.callV w198 (ow_229 hw) (ow_230 hw) (nfSel (ow_232 hw)) (ow_232 hw) (ow_231 hw) (by decide) opd_24 f228 (Ctr.pay (c_number hw f221 w198.old) (own_ew hw) (ow_233 hw) (ow_38 hw) (kf := 1) (kl := 12) (by decide) (by decide)) mN od_16_30 (pc' := 33) rfl rfl rfl (rest := [(.ref a3)]) rfl (Wd := 1) rfl (by decide) (by decide) (by decide) (by decide) fun v224 T222 h223 M225 w226 q227 => ?_
  obtain ⟨rfl, rfl, e229⟩ := q227
  obtain rfl := e229.symm
  show Go Z _ _ _ κ _ (T222.setTop (mkF (km κ) 33 #[.val (.ref r), .val (.ref b)] [(.ref xn), (.ref a3)]))
  have f230 := (f191.keep K203 (ninS ne15 (ninS ne161 nin0)) (ninS ne16 (ninS ne162 nin0)))
  have f231 := (Nat.lt_of_lt_of_le f184 K203.1)
  have f232 := (f186.keep K203)
  have f233 := (f187.keep K203 (ninS ne11 (ninS ne157 nin0)) (ninS ne12 (ninS ne158 nin0)))
  have f234 := (f188.keep K203)
  have f235 := (f189.keep K203 (ninS ne13 (ninS ne159 nin0)) (ninS ne14 (ninS ne160 nin0)))
  have f236 := (f190.keep K203)
  have f237 := (f192.keep K203)
  have f238 := (f193.keep K203 (ninS (Ne.symm ne78) (ninS ne163 nin0)) (ninS (Ne.symm ne88) (ninS ne164 nin0)))
  have f239 := (E173.keep K203)
  have f240 := (V176.keep K203 (ninS (Ne.symm ne179) (ninS (Ne.symm ne181) nin0)))
  refine W.callV w226 (ow_188 hw) (ow_189 hw) (nfSel (ow_191 hw)) (ow_191 hw) (ow_190 hw) (by decide) opd_23 F207.1 (Ctr.pay (c_append hw F207 ne205 f230 ⟨(Ne.symm ne15), (Ne.symm ne214), (Ne.symm ne16), (Ne.symm ne215)⟩ (Or.inl (Nat.le_of_ble_eq_true rfl)) w226.old) (own_ew hw) (ow_192 hw) (ow_113 hw) (kf := 5) (kl := 74) (by decide) (by decide)) (mC (memA (memA (memA (memA (memA (memA (memA mem0))))))) (mC (memA (memB mem0)) mN)) od_16_33 (pc' := 36) rfl rfl rfl (rest := []) rfl (Wd := 0) rfl (by decide) (by decide) (by decide) (by decide) fun v243 T241 h242 M244 w245 q246 => ?_
  obtain ⟨rfl, t247, rs248, rfl, K249, W250, ne251, F252⟩ := q246
  have F253 : SB Z h242 a3 t247 [c0, c1, t0, t1, (45 : Int32), n0, n1] 16 rs248 := F252
  have ne254 : r ≠ t247 := W250.elim (fun q => q ▸ ne208) (fun q => neL f231 q)
  have ne255 : b ≠ t247 := W250.elim (fun q => q ▸ ne209) (fun q => neL f228.lt q)
  have ne256 : xv ≠ t247 := W250.elim (fun q => q ▸ ne210) (fun q => neL f232.lt q)
  have ne257 : tv ≠ t247 := W250.elim (fun q => q ▸ ne211) (fun q => neL f233.lt2 q)
  have ne258 : xt ≠ t247 := W250.elim (fun q => q ▸ ne212) (fun q => neL f234.lt q)
  have ne259 : tt ≠ t247 := W250.elim (fun q => q ▸ ne213) (fun q => neL f235.lt2 q)
  have ne260 : xn ≠ t247 := W250.elim (fun q => q ▸ ne214) (fun q => neL f236.lt q)
  have ne261 : tn ≠ t247 := W250.elim (fun q => q ▸ ne215) (fun q => neL f230.lt2 q)
  have ne262 : a64 ≠ t247 := W250.elim (fun q => q ▸ ne216) (fun q => neL f237.lt q)
  have ne263 : t65 ≠ t247 := W250.elim (fun q => q ▸ ne217) (fun q => neL f238.lt2 q)
  have ne264 : a168 ≠ t247 := W250.elim (fun q => q ▸ ne218) (fun q => neL f239.lt q)
  have ne265 : a169 ≠ t247 := W250.elim (fun q => q ▸ ne219) (fun q => neL f240.lt q)
  have ab266 : h0.size ≤ t247 := W250.elim (fun q => q ▸ ab220) (fun q => (Nat.le_trans K5.1 (Nat.le_trans K35.1 (Nat.le_trans K66.1 (Nat.le_trans K108.1 (Nat.le_trans K150.1 (Nat.le_trans K172.1 (Nat.le_trans K203.1 q))))))))
  show Go Z _ _ _ κ _ (T241.setTop (mkF (km κ) 36 #[.val (.ref r), .val (.ref b)] [(.ref a3)]))
  have f267 := (Nat.lt_of_lt_of_le f231 K249.1)
  have f268 := (f228.keep K249)
  have f269 := (f232.keep K249)
  have f270 := (f233.keep K249 (ninS ne11 (ninS ne210 nin0)) (ninS ne12 (ninS ne211 nin0)))
  have f271 := (f234.keep K249)
  have f272 := (f235.keep K249 (ninS ne13 (ninS ne212 nin0)) (ninS ne14 (ninS ne213 nin0)))
  have f273 := (f236.keep K249)
  have f274 := (f230.keep K249 (ninS ne15 (ninS ne214 nin0)) (ninS ne16 (ninS ne215 nin0)))
  have f275 := (f237.keep K249)
  have f276 := (f238.keep K249 (ninS (Ne.symm ne78) (ninS ne216 nin0)) (ninS (Ne.symm ne88) (ninS ne217 nin0)))
  have f277 := (f239.keep K249)
  have f278 := (f240.keep K249 (ninS (Ne.symm ne179) (ninS ne219 nin0)))
  refine W.callV w245 (ow_234 hw) (ow_235 hw) (nfSel (ow_237 hw)) (ow_237 hw) (ow_236 hw) (by decide) opd_24 F253.1 (Ctr.pay (c_toString hw F253 ⟨Nat.le_of_ble_eq_true rfl, Nat.le_of_ble_eq_true rfl⟩ w245.old) (own_ew hw) (ow_238 hw) (ow_113 hw) (kf := 6) (kl := 91) (by decide) (by decide)) mN od_16_36 (pc' := 39) rfl rfl rfl (rest := []) rfl (Wd := 0) rfl (by decide) (by decide) (by decide) (by decide) fun v281 T279 h280 M282 w283 q284 => ?_
  obtain ⟨a285, rfl, rfl, K286, B287, t288, B289, F290⟩ := q284
  have ne292 : r ≠ a285 := neL f267 B287
  have ne293 : b ≠ a285 := neL f268.lt B287
  have ne294 : xv ≠ a285 := neL f269.lt B287
  have ne295 : tv ≠ a285 := neL f270.lt2 B287
  have ne296 : xt ≠ a285 := neL f271.lt B287
  have ne297 : tt ≠ a285 := neL f272.lt2 B287
  have ne298 : xn ≠ a285 := neL f273.lt B287
  have ne299 : tn ≠ a285 := neL f274.lt2 B287
  have ne300 : a3 ≠ a285 := neL F253.1.lt B287
  have ne301 : a64 ≠ a285 := neL f275.lt B287
  have ne302 : t65 ≠ a285 := neL f276.lt2 B287
  have ne303 : a168 ≠ a285 := neL f277.lt B287
  have ne304 : a169 ≠ a285 := neL f278.lt B287
  have ne305 : t247 ≠ a285 := neL F253.lt2 B287
  have ne306 : r ≠ t288 := neL f267 B289
  have ne307 : b ≠ t288 := neL f268.lt B289
  have ne308 : xv ≠ t288 := neL f269.lt B289
  have ne309 : tv ≠ t288 := neL f270.lt2 B289
  have ne310 : xt ≠ t288 := neL f271.lt B289
  have ne311 : tt ≠ t288 := neL f272.lt2 B289
  have ne312 : xn ≠ t288 := neL f273.lt B289
  have ne313 : tn ≠ t288 := neL f274.lt2 B289
  have ne314 : a3 ≠ t288 := neL F253.1.lt B289
  have ne315 : a64 ≠ t288 := neL f275.lt B289
  have ne316 : t65 ≠ t288 := neL f276.lt2 B289
  have ne317 : a168 ≠ t288 := neL f277.lt B289
  have ne318 : a169 ≠ t288 := neL f278.lt B289
  have ne319 : t247 ≠ t288 := neL F253.lt2 B289
  show Go Z _ _ _ κ _ (T279.setTop (mkF (km κ) 39 #[.val (.ref r), .val (.ref b)] [(.ref a285)]))
  have C320 := Keep.refl h0 []
  have C321 := C320.trans K5 RoadKit.all0
  have C322 := C321.trans K35 (allS (Or.inr B6) RoadKit.all0)
  have C323 := C322.trans K66 RoadKit.all0
  have C324 := C323.trans K108 (allS (Or.inr B6) (allS (Or.inr (Nat.le_trans K5.1 B36)) RoadKit.all0))
  have C325 := C324.trans K150 (allS (Or.inr B6) (allS (Or.inr ab123) RoadKit.all0))
  have C326 := C325.trans K172 RoadKit.all0
  have C327 := C326.trans K203 (allS (Or.inr B6) (allS (Or.inr ab165) RoadKit.all0))
  have C328 := C327.trans K249 (allS (Or.inr B6) (allS (Or.inr ab220) RoadKit.all0))
  have C329 := C328.trans K286 RoadKit.all0
  exact W.retR w283 rfl rfl rfl od_16_39 (M' := []) mN (by decide) (by decide) ⟨a285, t288, rfl, rfl, C329, (Nat.le_trans K5.1 (Nat.le_trans K35.1 (Nat.le_trans K66.1 (Nat.le_trans K108.1 (Nat.le_trans K150.1 (Nat.le_trans K172.1 (Nat.le_trans K203.1 (Nat.le_trans K249.1 B287)))))))), (Nat.le_trans K5.1 (Nat.le_trans K35.1 (Nat.le_trans K66.1 (Nat.le_trans K108.1 (Nat.le_trans K150.1 (Nat.le_trans K172.1 (Nat.le_trans K203.1 (Nat.le_trans K249.1 B289)))))))), F290⟩
set_option maxRecDepth 65536 in
set_option maxHeartbeats 40000000 in
theorem c_map1 {l : Launch} {Z : State} {a0 : Array Value} (hw : HW Z a0) {h0 : Heap} {r b xv tv xt tt xn tn : Addr} {c0 c1 c2 c3 c4 c5 c6 c7 c8 c9 t0 t1 n0 n1 : Int32} (E_b : Exa Z h0 b "com/example/sedgeholt/sedgeholt/layout/VersionFile$Build") (F_r : Fld Z h0 r "com/example/sedgeholt/sedgeholt/layout/VersionFile" "version" "Ljava/lang/String;" (.ref xv)) (F_t : Fld Z h0 b "com/example/sedgeholt/sedgeholt/layout/VersionFile$Build" "timestamp" "Ljava/lang/String;" (.ref xt)) (F_n : Fld Z h0 b "com/example/sedgeholt/sedgeholt/layout/VersionFile$Build" "number" "Ljava/lang/String;" (.ref xn)) (S_v : Str8 Z h0 xv tv [c0, c1, c2, c3, c4, c5, c6, c7, c8, c9]) (S_t : Str8 Z h0 xt tt [t0, t1]) (S_n : Str8 Z h0 xn tn [n0, n1]) {o fo : Addr} {cK : ClassId} {one : Option Addr} (hat : Z.lambdaAt? ({ cls := "com/example/sedgeholt/sedgeholt/layout/VersionFile", name := "fileVersion", desc := "()Ljava/lang/String;" } : Jvm.MethodName) 5 118 sg = some (cK, one)) (E_r : Exa Z h0 r "com/example/sedgeholt/sedgeholt/layout/VersionFile") (E_o : Exa Z h0 o "java/util/Optional") (F_o : Fld Z h0 o "java/util/Optional" "value" "Ljava/lang/Object;" (.ref b)) (F_fo : Fob h0 fo cK [.ref r]) (hO : Old Z Z.heap.size h0) : Ctr l Z EL0 nw0 ({ cls := "java/util/Optional", name := "map", desc := "(Ljava/util/function/Function;)Ljava/util/Optional;" } : Jvm.MethodName) jdk_32_method_11_code 2 (some (.object "java/util/Optional")) ({ frames := 8, cells := 11, slots := 153, locals := 119 } : Room) [.ref o, .ref fo] h0 [] (fun v h M' => ∃ o x u, v = some (.ref o) ∧ M' = [] ∧ Keep h0 h [] ∧ Exa Z h o "java/util/Optional" ∧ Fld Z h o "java/util/Optional" "value" "Ljava/lang/Object;" (.ref x) ∧ Str8 Z h x u [c0, c1, t0, t1, (45 : Int32), n0, n1]) := by
  refine of_body (a0 := a0) opn_37 (own_ew hw) hO (Ls := #[.val (.ref o), .val (.ref fo)]) (fun m => by first | (simp [entryFrame, mkF, argsToLocals, Value.category]; done) | rfl) (fun κ T0 w0 hnm => ?_)
  refine W.aloadN w0 od_14_0 (pc' := 1) rfl rfl rfl ?_
  refine W.callS w0 (ow_58 hw) (ow_59 hw) (ow_60 hw) (ow_61 hw) (by decide) opd_14 (Ctr.pay (c_rnn1 hw w0.old) (own_ew hw) (ow_61 hw) (ow_60 hw) (kf := 1) (kl := 12) (by decide) (by decide)) mN od_14_1 (pc' := 4) rfl rfl rfl (rest := []) rfl (Wd := 0) rfl (by decide) (by decide) (by decide) (by decide) fun v3 T1 h2 M4 w5 q6 => ?_
  obtain ⟨rfl, rfl, e7⟩ := q6
  obtain rfl := e7.symm
  show Go Z _ _ _ κ _ (T1.setTop (mkF (km κ) 4 #[.val (.ref o), .val (.ref fo)] [(.ref fo)]))
  refine Jvm.Own.W.pop w5 od_14_4 rfl rfl ?_
  refine W.aloadN w5 od_14_5 (pc' := 6) rfl rfl rfl ?_
  refine W.callV w5 (ow_99 hw) (ow_100 hw) (nfSel (ow_102 hw)) (ow_102 hw) (ow_101 hw) (by decide) opd_11 E_o (Ctr.pay (c_isEmpty1 hw F_o w5.old) (own_ew hw) (ow_103 hw) (ow_54 hw) (kf := 1) (kl := 12) (by decide) (by decide)) mN od_14_6 (pc' := 9) rfl rfl rfl (rest := []) rfl (Wd := 0) rfl (by decide) (by decide) (by decide) (by decide) fun v10 T8 h9 M11 w12 q13 => ?_
  obtain ⟨rfl, rfl, e14⟩ := q13
  obtain rfl := e14.symm
  show Go Z _ _ _ κ _ (T8.setTop (mkF (km κ) 9 #[.val (.ref o), .val (.ref fo)] [(.int (0 : Int32))]))
  refine W.ifYes w12 od_14_9 (pc' := 16) (by decide) (by decide) ((if0 _ _).trans (teq (by decide : (0 : Int32) = (0 : Int32))).1) ?_
  refine W.aloadN w12 od_14_16 (pc' := 17) rfl rfl rfl ?_
  refine W.aloadN w12 od_14_17 (pc' := 18) rfl rfl rfl ?_
  refine W.getF w12 (host := "") (Or.inl (ow_67 hw)) Via.refl F_o od_14_18 (pc' := 21) rfl fun T15 w16 => ?_
  refine W.callL w16 hat (ow_104 hw) (ow_105 hw) (ow_106 hw) (ow_108 hw) (ow_109 hw) (ow_110 hw) (ow_93 hw) (by decide +kernel) (by decide +kernel) (by decide) (by decide) (ow_31 hw) opd_14 opd_25 (fr := .object "java/lang/Object") rfl lfwd lcap lcst lf0 lf1 lf4 lf5 lf8 lf11 F_fo E_b E_r (Ctr.pay (c_lam hw E_b F_r F_t F_n S_v S_t S_n w16.old) (own_ew hw) (ow_110 hw) (ow_32 hw) (kf := 7) (kl := 106) (by decide) (by decide)) mN (fun v h' M' q => by obtain ⟨x, u, rfl, -⟩ := q; exact ⟨_, rfl, rfl⟩) od_14_21 (pc' := 26) rfl rfl rfl (Wd := 0) rfl (by decide) (by decide) (by decide) (by decide) fun v19 T17 h18 M20 w21 q22 => ?_
  obtain ⟨a23, t24, rfl, rfl, K25, B26, B27, F28⟩ := q22
  have ne29 : r ≠ a23 := neL F_r.lt B26
  have ne30 : b ≠ a23 := neL E_b.lt B26
  have ne31 : xv ≠ a23 := neL S_v.1.lt B26
  have ne32 : tv ≠ a23 := neL S_v.lt2 B26
  have ne33 : xt ≠ a23 := neL S_t.1.lt B26
  have ne34 : tt ≠ a23 := neL S_t.lt2 B26
  have ne35 : xn ≠ a23 := neL S_n.1.lt B26
  have ne36 : tn ≠ a23 := neL S_n.lt2 B26
  have ne37 : o ≠ a23 := neL F_o.lt B26
  have ne38 : fo ≠ a23 := neL F_fo.lt B26
  have ne39 : r ≠ t24 := neL F_r.lt B27
  have ne40 : b ≠ t24 := neL E_b.lt B27
  have ne41 : xv ≠ t24 := neL S_v.1.lt B27
  have ne42 : tv ≠ t24 := neL S_v.lt2 B27
  have ne43 : xt ≠ t24 := neL S_t.1.lt B27
  have ne44 : tt ≠ t24 := neL S_t.lt2 B27
  have ne45 : xn ≠ t24 := neL S_n.1.lt B27
  have ne46 : tn ≠ t24 := neL S_n.lt2 B27
  have ne47 : o ≠ t24 := neL F_o.lt B27
  have ne48 : fo ≠ t24 := neL F_fo.lt B27
  show Go Z _ _ _ κ _ (T17.setTop (mkF (km κ) 26 #[.val (.ref o), .val (.ref fo)] [(.ref a23)]))
  have f49 := (Nat.lt_of_lt_of_le F_r.lt K25.1)
  have f50 := (E_b.keep K25)
  have f51 := (S_v.1.keep K25)
  have f52 := (S_v.keep K25 nin0 nin0)
  have f53 := (S_t.1.keep K25)
  have f54 := (S_t.keep K25 nin0 nin0)
  have f55 := (S_n.1.keep K25)
  have f56 := (S_n.keep K25 nin0 nin0)
  have f57 := (F_o.keep K25 nin0)
  have f58 := (Nat.lt_of_lt_of_le F_fo.lt K25.1)
  refine W.callS w21 (ow_265 hw) (ow_266 hw) (ow_54 hw) (ow_267 hw) (by decide) opd_26 (Ctr.pay (c_ofn hw w21.old) (own_ew hw) (ow_267 hw) (ow_54 hw) (kf := 3) (kl := 38) (by decide) (by decide)) mN od_14_26 (pc' := 29) rfl rfl rfl (rest := []) rfl (Wd := 0) rfl (by decide) (by decide) (by decide) (by decide) fun v61 T59 h60 M62 w63 q64 => ?_
  obtain ⟨a65, rfl, rfl, K66, B67, E68, F69⟩ := q64
  have ne70 : r ≠ a65 := neL f49 B67
  have ne71 : b ≠ a65 := neL f50.lt B67
  have ne72 : xv ≠ a65 := neL f51.lt B67
  have ne73 : tv ≠ a65 := neL f52.lt2 B67
  have ne74 : xt ≠ a65 := neL f53.lt B67
  have ne75 : tt ≠ a65 := neL f54.lt2 B67
  have ne76 : xn ≠ a65 := neL f55.lt B67
  have ne77 : tn ≠ a65 := neL f56.lt2 B67
  have ne78 : o ≠ a65 := neL f57.lt B67
  have ne79 : fo ≠ a65 := neL f58 B67
  have ne80 : a23 ≠ a65 := neL F28.1.lt B67
  have ne81 : t24 ≠ a65 := neL F28.lt2 B67
  show Go Z _ _ _ κ _ (T59.setTop (mkF (km κ) 29 #[.val (.ref o), .val (.ref fo)] [(.ref a65)]))
  have C82 := Keep.refl h0 []
  have C83 := C82.trans K25 RoadKit.all0
  have C84 := C83.trans K66 RoadKit.all0
  have f85 := (F28.keep K66 nin0 nin0)
  exact W.retR w63 rfl rfl rfl od_14_29 (M' := []) mN (by decide) (by decide) ⟨a65, a23, t24, rfl, rfl, C84, E68, F69, f85⟩
set_option maxRecDepth 65536 in
set_option maxHeartbeats 40000000 in
theorem c_map0 {l : Launch} {Z : State} {a0 : Array Value} (hw : HW Z a0) {h0 : Heap} {o fo : Addr} (E_o : Exa Z h0 o "java/util/Optional") (F_o : Fld Z h0 o "java/util/Optional" "value" "Ljava/lang/Object;" .null) (hO : Old Z Z.heap.size h0) : Ctr l Z EL0 nw0 ({ cls := "java/util/Optional", name := "map", desc := "(Ljava/util/function/Function;)Ljava/util/Optional;" } : Jvm.MethodName) jdk_32_method_11_code 2 (some (.object "java/util/Optional")) ({ frames := 1, cells := 0, slots := 0, locals := 12 } : Room) [.ref o, .ref fo] h0 [] (fun v h M' => ∃ o, v = some (.ref o) ∧ M' = [] ∧ h = h0 ∧ Exa Z h0 o "java/util/Optional" ∧ Fld Z h0 o "java/util/Optional" "value" "Ljava/lang/Object;" .null) := by
  refine of_body (a0 := a0) opn_37 (own_ew hw) hO (Ls := #[.val (.ref o), .val (.ref fo)]) (fun m => by first | (simp [entryFrame, mkF, argsToLocals, Value.category]; done) | rfl) (fun κ T0 w0 hnm => ?_)
  obtain ⟨OE, cK, one, S_e, E_e, F_e, hat⟩ := hw.2.2
  refine W.aloadN w0 od_14_0 (pc' := 1) rfl rfl rfl ?_
  refine W.callS w0 (ow_58 hw) (ow_59 hw) (ow_60 hw) (ow_61 hw) (by decide) opd_14 (Ctr.pay (c_rnn1 hw w0.old) (own_ew hw) (ow_61 hw) (ow_60 hw) (kf := 1) (kl := 12) (by decide) (by decide)) mN od_14_1 (pc' := 4) rfl rfl rfl (rest := []) rfl (Wd := 0) rfl (by decide) (by decide) (by decide) (by decide) fun v3 T1 h2 M4 w5 q6 => ?_
  obtain ⟨rfl, rfl, e7⟩ := q6
  obtain rfl := e7.symm
  show Go Z _ _ _ κ _ (T1.setTop (mkF (km κ) 4 #[.val (.ref o), .val (.ref fo)] [(.ref fo)]))
  refine Jvm.Own.W.pop w5 od_14_4 rfl rfl ?_
  refine W.aloadN w5 od_14_5 (pc' := 6) rfl rfl rfl ?_
  refine W.callV w5 (ow_99 hw) (ow_100 hw) (nfSel (ow_102 hw)) (ow_102 hw) (ow_101 hw) (by decide) opd_11 E_o (Ctr.pay (c_isEmpty0 hw (x1 := 0) F_o w5.old) (own_ew hw) (ow_103 hw) (ow_54 hw) (kf := 1) (kl := 12) (by decide) (by decide)) mN od_14_6 (pc' := 9) rfl rfl rfl (rest := []) rfl (Wd := 0) rfl (by decide) (by decide) (by decide) (by decide) fun v10 T8 h9 M11 w12 q13 => ?_
  obtain ⟨rfl, rfl, e14⟩ := q13
  obtain rfl := e14.symm
  show Go Z _ _ _ κ _ (T8.setTop (mkF (km κ) 9 #[.val (.ref o), .val (.ref fo)] [(.int (1 : Int32))]))
  refine W.ifNo w12 od_14_9 (pc' := 12) rfl ((if0 _ _).trans (feq (by decide : ¬ ((1 : Int32) = (0 : Int32)))).1) ?_
  refine W.callS w12 (ow_293 hw) (ow_290 hw) (ow_54 hw) (ow_291 hw) (by decide) opd_27 (Ctr.pay (c_opempty hw S_e w12.old) (own_ew hw) (ow_291 hw) (ow_54 hw) (kf := 1) (kl := 12) (by decide) (by decide)) mN od_14_12 (pc' := 15) rfl rfl rfl (rest := []) rfl (Wd := 0) rfl (by decide) (by decide) (by decide) (by decide) fun v17 T15 h16 M18 w19 q20 => ?_
  obtain ⟨rfl, rfl, e21⟩ := q20
  obtain rfl := e21.symm
  show Go Z _ _ _ κ _ (T15.setTop (mkF (km κ) 15 #[.val (.ref o), .val (.ref fo)] [(.ref OE)]))
  exact W.retR w19 rfl rfl rfl od_14_15 (M' := []) mN (by decide) (by decide) ⟨OE, rfl, rfl, rfl, E_e.keep (keepE hO.2), F_e.keep (keepE hO.2) nin0⟩
set_option maxRecDepth 65536 in
set_option maxHeartbeats 40000000 in
theorem c_fv1 {l : Launch} {Z : State} {a0 : Array Value} (hw : HW Z a0) {h0 : Heap} {r b xv tv xt tt xn tn : Addr} {c0 c1 c2 c3 c4 c5 c6 c7 c8 c9 t0 t1 n0 n1 : Int32} (E_b : Exa Z h0 b "com/example/sedgeholt/sedgeholt/layout/VersionFile$Build") (F_r : Fld Z h0 r "com/example/sedgeholt/sedgeholt/layout/VersionFile" "version" "Ljava/lang/String;" (.ref xv)) (F_t : Fld Z h0 b "com/example/sedgeholt/sedgeholt/layout/VersionFile$Build" "timestamp" "Ljava/lang/String;" (.ref xt)) (F_n : Fld Z h0 b "com/example/sedgeholt/sedgeholt/layout/VersionFile$Build" "number" "Ljava/lang/String;" (.ref xn)) (S_v : Str8 Z h0 xv tv [c0, c1, c2, c3, c4, c5, c6, c7, c8, c9]) (S_t : Str8 Z h0 xt tt [t0, t1]) (S_n : Str8 Z h0 xn tn [n0, n1]) {o : Addr} (E_r : Exa Z h0 r "com/example/sedgeholt/sedgeholt/layout/VersionFile") (E_o : Exa Z h0 o "java/util/Optional") (F_b : Fld Z h0 r "com/example/sedgeholt/sedgeholt/layout/VersionFile" "build" "Ljava/util/Optional;" (.ref o)) (F_o : Fld Z h0 o "java/util/Optional" "value" "Ljava/lang/Object;" (.ref b)) (hO : Old Z Z.heap.size h0) : Ctr l Z EL0 nw0 ({ cls := "com/example/sedgeholt/sedgeholt/layout/VersionFile", name := "fileVersion", desc := "()Ljava/lang/String;" } : Jvm.MethodName) prog_9_method_6_code 1 (some (.object "java/lang/String")) ({ frames := 9, cells := 12, slots := 154, locals := 3074 } : Room) [.ref r] h0 [] (fun v h M' => ∃ x u, v = some (.ref x) ∧ M' = [] ∧ Keep h0 h [] ∧ Str8 Z h x u [c0, c1, t0, t1, (45 : Int32), n0, n1]) := by
  refine of_bodyN (a0 := a0) opn_38 (own_ew hw) hO (Ls := #[.val (.ref r)]) (fun m => by first | (simp [entryFrame, mkF, argsToLocals, Value.category]; done) | rfl) (fun κ T0 w0 hnm => ?_)
  obtain ⟨OE, cK, one, S_e, E_e, F_e, hat⟩ := hw.2.2
  refine W.aloadN w0 od_13_0 (pc' := 1) rfl rfl rfl ?_
  refine W.getF w0 (host := "") (Or.inl (ow_79 hw)) Via.refl F_b od_13_1 (pc' := 4) rfl fun T1 w2 => ?_
  refine W.aloadN w2 od_13_4 (pc' := 5) rfl rfl rfl ?_
  refine W.site w2 hnm hat (by decide) lcap (ow_93 hw) (vals := [(.ref r)]) (rest := [(.ref o)]) rfl rfl (fun i t v h1 h2 => by cases i with | zero => cases h1; cases h2; exact ⟨rfl, rfl⟩ | succ i => cases h1) od_13_5 (pc' := 10) rfl rfl (n := 1) rfl (Wd := 2) rfl (by decide) (by decide) (by decide) fun T3 h4 a5 w6 K7 B8 F9 => ?_
  have ne10 : r ≠ a5 := neL F_r.lt B8
  have ne11 : o ≠ a5 := neL F_o.lt B8
  have ne12 : b ≠ a5 := neL E_b.lt B8
  have ne13 : xv ≠ a5 := neL S_v.1.lt B8
  have ne14 : tv ≠ a5 := neL S_v.lt2 B8
  have ne15 : xt ≠ a5 := neL S_t.1.lt B8
  have ne16 : tt ≠ a5 := neL S_t.lt2 B8
  have ne17 : xn ≠ a5 := neL S_n.1.lt B8
  have ne18 : tn ≠ a5 := neL S_n.lt2 B8
  show Go Z _ _ _ κ _ (T3.setTop (mkF (km κ) 10 #[.val (.ref r)] [(.ref a5), (.ref o)]))
  have f19 := (Nat.lt_of_lt_of_le F_r.lt K7.1)
  have f20 := (F_o.keep K7 nin0)
  have f21 := (E_b.keep K7)
  have f22 := (S_v.1.keep K7)
  have f23 := (S_v.keep K7 nin0 nin0)
  have f24 := (S_t.1.keep K7)
  have f25 := (S_t.keep K7 nin0 nin0)
  have f26 := (S_n.1.keep K7)
  have f27 := (S_n.keep K7 nin0 nin0)
  have f28 := (F_r.keep K7 nin0)
  have f29 := (F_t.keep K7 nin0)
  have f30 := (F_n.keep K7 nin0)
  have f31 := (E_r.keep K7)
  have f32 := (E_o.keep K7)
  refine W.callV w6 (ow_94 hw) (ow_95 hw) (nfSel (ow_97 hw)) (ow_97 hw) (ow_96 hw) (by decide) opd_28 f32 (Ctr.pay (c_map1 hw f21 f28 f29 f30 f23 f25 f27 hat f31 f32 f20 F9 w6.old) (own_ew hw) (ow_98 hw) (ow_54 hw) (kf := 9) (kl := 132) (by decide) (by decide)) mN od_13_10 (pc' := 13) rfl rfl rfl (rest := []) rfl (Wd := 0) rfl (by decide) (by decide) (by decide) (by decide) fun v35 T33 h34 M36 w37 q38 => ?_
  obtain ⟨a39, a40, t41, rfl, rfl, K42, E43, F44, F45⟩ := q38
  show Go Z _ _ _ κ _ (T33.setTop (mkF (km κ) 13 #[.val (.ref r)] [(.ref a39)]))
  refine W.aloadN w37 od_13_13 (pc' := 14) rfl rfl rfl ?_
  have f46 := (f28.keep K42 nin0)
  refine W.getF w37 (host := "") (Or.inl (ow_77 hw)) Via.refl f46 od_13_14 (pc' := 17) rfl fun T47 w48 => ?_
  refine W.callV w48 (ow_268 hw) (ow_269 hw) (nfSel (ow_271 hw)) (ow_271 hw) (ow_270 hw) (by decide) opd_14 E43 (Ctr.pay (c_orElse1 hw F44 w48.old) (own_ew hw) (ow_272 hw) (ow_54 hw) (kf := 1) (kl := 13) (by decide) (by decide)) mN od_13_17 (pc' := 20) rfl rfl rfl (rest := []) rfl (Wd := 0) rfl (by decide) (by decide) (by decide) (by decide) fun v51 T49 h50 M52 w53 q54 => ?_
  obtain ⟨rfl, rfl, e55⟩ := q54
  obtain rfl := e55.symm
  show Go Z _ _ _ κ _ (T49.setTop (mkF (km κ) 20 #[.val (.ref r)] [(.ref a40)]))
  refine W.cast w53 (ow_273 hw) (Ins.self F45.1) od_13_20 (pc' := 23) rfl fun T56 w57 => ?_
  have C58 := Keep.refl h0 []
  have C59 := C58.trans K7 RoadKit.all0
  have C60 := C59.trans K42 RoadKit.all0
  exact W.retR w57 rfl rfl rfl od_13_23 (M' := []) mN (by decide) (by decide) ⟨a40, t41, rfl, rfl, C60, F45⟩
set_option maxRecDepth 65536 in
set_option maxHeartbeats 40000000 in
theorem c_fv0 {l : Launch} {Z : State} {a0 : Array Value} (hw : HW Z a0) {h0 : Heap} {r xv : Addr} {o : Addr} (E_r : Exa Z h0 r "com/example/sedgeholt/sedgeholt/layout/VersionFile") (E_o : Exa Z h0 o "java/util/Optional") (F_b : Fld Z h0 r "com/example/sedgeholt/sedgeholt/layout/VersionFile" "build" "Ljava/util/Optional;" (.ref o)) (F_r : Fld Z h0 r "com/example/sedgeholt/sedgeholt/layout/VersionFile" "version" "Ljava/lang/String;" (.ref xv)) (E_xv : Exa Z h0 xv "java/lang/String") (F_o : Fld Z h0 o "java/util/Optional" "value" "Ljava/lang/Object;" .null) (hO : Old Z Z.heap.size h0) : Ctr l Z EL0 nw0 ({ cls := "com/example/sedgeholt/sedgeholt/layout/VersionFile", name := "fileVersion", desc := "()Ljava/lang/String;" } : Jvm.MethodName) prog_9_method_6_code 1 (some (.object "java/lang/String")) ({ frames := 2, cells := 1, slots := 1, locals := 3074 } : Room) [.ref r] h0 [] (fun v h M' => v = some (.ref xv) ∧ M' = [] ∧ Keep h0 h []) := by
  refine of_bodyN (a0 := a0) opn_38 (own_ew hw) hO (Ls := #[.val (.ref r)]) (fun m => by first | (simp [entryFrame, mkF, argsToLocals, Value.category]; done) | rfl) (fun κ T0 w0 hnm => ?_)
  obtain ⟨OE, cK, one, S_e, E_e, F_e, hat⟩ := hw.2.2
  refine W.aloadN w0 od_13_0 (pc' := 1) rfl rfl rfl ?_
  refine W.getF w0 (host := "") (Or.inl (ow_79 hw)) Via.refl F_b od_13_1 (pc' := 4) rfl fun T1 w2 => ?_
  refine W.aloadN w2 od_13_4 (pc' := 5) rfl rfl rfl ?_
  refine W.site w2 hnm hat (by decide) lcap (ow_93 hw) (vals := [(.ref r)]) (rest := [(.ref o)]) rfl rfl (fun i t v h1 h2 => by cases i with | zero => cases h1; cases h2; exact ⟨rfl, rfl⟩ | succ i => cases h1) od_13_5 (pc' := 10) rfl rfl (n := 1) rfl (Wd := 2) rfl (by decide) (by decide) (by decide) fun T3 h4 a5 w6 K7 B8 F9 => ?_
  have ne10 : r ≠ a5 := neL F_r.lt B8
  have ne11 : o ≠ a5 := neL F_o.lt B8
  have ne12 : xv ≠ a5 := neL E_xv.lt B8
  show Go Z _ _ _ κ _ (T3.setTop (mkF (km κ) 10 #[.val (.ref r)] [(.ref a5), (.ref o)]))
  have f13 := (F_r.keep K7 nin0)
  have f14 := (F_o.keep K7 nin0)
  have f15 := (E_xv.keep K7)
  have f16 := (E_o.keep K7)
  refine W.callV w6 (ow_94 hw) (ow_95 hw) (nfSel (ow_97 hw)) (ow_97 hw) (ow_96 hw) (by decide) opd_28 f16 (Ctr.pay (c_map0 hw f16 f14 w6.old) (own_ew hw) (ow_98 hw) (ow_54 hw) (kf := 2) (kl := 25) (by decide) (by decide)) mN od_13_10 (pc' := 13) rfl rfl rfl (rest := []) rfl (Wd := 0) rfl (by decide) (by decide) (by decide) (by decide) fun v19 T17 h18 M20 w21 q22 => ?_
  obtain ⟨a23, rfl, rfl, e24, E25, F26⟩ := q22
  obtain rfl := e24.symm
  show Go Z _ _ _ κ _ (T17.setTop (mkF (km κ) 13 #[.val (.ref r)] [(.ref a23)]))
  refine W.aloadN w21 od_13_13 (pc' := 14) rfl rfl rfl ?_
  refine W.getF w21 (host := "") (Or.inl (ow_77 hw)) Via.refl f13 od_13_14 (pc' := 17) rfl fun T27 w28 => ?_
  refine W.callV w28 (ow_268 hw) (ow_269 hw) (nfSel (ow_271 hw)) (ow_271 hw) (ow_270 hw) (by decide) opd_14 E25 (Ctr.pay (c_orElse0 hw (x1 := 0) F26 w28.old) (own_ew hw) (ow_272 hw) (ow_54 hw) (kf := 1) (kl := 13) (by decide) (by decide)) mN od_13_17 (pc' := 20) rfl rfl rfl (rest := []) rfl (Wd := 0) rfl (by decide) (by decide) (by decide) (by decide) fun v31 T29 h30 M32 w33 q34 => ?_
  obtain ⟨rfl, rfl, e35⟩ := q34
  obtain rfl := e35.symm
  show Go Z _ _ _ κ _ (T29.setTop (mkF (km κ) 20 #[.val (.ref r)] [(.ref xv)]))
  refine W.cast w33 (ow_273 hw) (Ins.self f15) od_13_20 (pc' := 23) rfl fun T36 w37 => ?_
  have C38 := Keep.refl h0 []
  have C39 := C38.trans K7 RoadKit.all0
  exact W.retR w37 rfl rfl rfl od_13_23 (M' := []) mN (by decide) (by decide) ⟨rfl, rfl, C39⟩
set_option maxRecDepth 65536 in
set_option maxHeartbeats 40000000 in
theorem c_rec {l : Launch} {Z : State} {a0 : Array Value} (hw : HW Z a0) {h0 : Heap} {x0 : Addr} (hO : Old Z Z.heap.size h0) : Ctr l Z EL0 nw0 ({ cls := "java/lang/Record", name := "<init>", desc := "()V" } : Jvm.MethodName) jdk_30_method_1_code 1 none ({ frames := 1, cells := 0, slots := 0, locals := 12 } : Room) [.ref x0] h0 [] (fun v h M' => v = none ∧ M' = [] ∧ h = h0) := by
  refine of_body (a0 := a0) opn_39 (own_ew hw) hO (Ls := #[.val (.ref x0)]) (fun m => by first | (simp [entryFrame, mkF, argsToLocals, Value.category]; done) | rfl) (fun κ T0 w0 hnm => ?_)
  refine W.aloadN w0 od_8_0 (pc' := 1) rfl rfl rfl ?_
  refine W.initO w0 (ow_47 hw) (ow_12 hw) (ow_13 hw) od_8_1 (pc' := 4) rfl rfl (by decide) (Wd := 0) rfl (by decide) fun T1 w2 => ?_
  exact W.ret0 w2 rfl od_8_4 (M' := []) mN (by decide) (by decide) ⟨rfl, rfl, rfl⟩
set_option maxRecDepth 65536 in
set_option maxHeartbeats 40000000 in
theorem c_binit {l : Launch} {Z : State} {a0 : Array Value} (hw : HW Z a0) {h0 : Heap} {x0 y0 y1 : Addr} {v0 v1 : Value} (E_x0 : Exa Z h0 x0 "com/example/sedgeholt/sedgeholt/layout/VersionFile$Build") (F_0 : Fld Z h0 x0 "com/example/sedgeholt/sedgeholt/layout/VersionFile$Build" "timestamp" "Ljava/lang/String;" v0) (F_1 : Fld Z h0 x0 "com/example/sedgeholt/sedgeholt/layout/VersionFile$Build" "number" "Ljava/lang/String;" v1) (hO : Old Z Z.heap.size h0) : Ctr l Z EL0 nw0 ({ cls := "com/example/sedgeholt/sedgeholt/layout/VersionFile$Build", name := "<init>", desc := "(Ljava/lang/String;Ljava/lang/String;)V" } : Jvm.MethodName) prog_10_method_1_code 3 none ({ frames := 2, cells := 0, slots := 0, locals := 24 } : Room) [.ref x0, .ref y0, .ref y1] h0 [x0] (fun v h M' => v = none ∧ M' = [] ∧ Keep h0 h [x0] ∧ Exa Z h x0 "com/example/sedgeholt/sedgeholt/layout/VersionFile$Build" ∧ Fld Z h x0 "com/example/sedgeholt/sedgeholt/layout/VersionFile$Build" "timestamp" "Ljava/lang/String;" (.ref y0) ∧ Fld Z h x0 "com/example/sedgeholt/sedgeholt/layout/VersionFile$Build" "number" "Ljava/lang/String;" (.ref y1)) := by
  refine of_body (a0 := a0) opn_40 (own_ew hw) hO (Ls := #[.val (.ref x0), .val (.ref y0), .val (.ref y1)]) (fun m => by first | (simp [entryFrame, mkF, argsToLocals, Value.category]; done) | rfl) (fun κ T0 w0 hnm => ?_)
  refine W.aloadN w0 od_7_0 (pc' := 1) rfl rfl rfl ?_
  refine W.callI w0 (ow_42 hw) (ow_43 hw) (ow_46 hw) rfl (by decide) opd_21 (Ctr.pay (c_rec hw w0.old) (own_ew hw) (ow_46 hw) (ow_45 hw) (kf := 2) (kl := 24) (by decide) (by decide)) mN od_7_1 (pc' := 4) rfl rfl rfl (rest := []) rfl (Wd := 0) rfl (by decide) (by decide) (by decide) (by decide) fun v3 T1 h2 M4 w5 q6 => ?_
  obtain ⟨rfl, rfl, e7⟩ := q6
  obtain rfl := e7.symm
  show Go Z _ _ _ κ _ (T1.setTop (mkF (km κ) 4 #[.val (.ref x0), .val (.ref y0), .val (.ref y1)] []))
  refine W.aloadN w5 od_7_4 (pc' := 5) rfl rfl rfl ?_
  refine W.aloadN w5 od_7_5 (pc' := 6) rfl rfl rfl ?_
  refine W.putF w5 (host := "") (Or.inl (ow_48 hw)) Via.refl F_0 E_x0 (Or.inr ⟨(ow_49 hw), rfl, hnm⟩) (ow_37 hw) (ty := (.object "java/lang/String")) (by decide) rfl rfl (memA mem0) od_7_6 (pc' := 9) rfl fun T8 h9 w10 W11 => ?_
  have F12 := F_1.other W11 (Or.inr (slot_ne (Or.inr (ow_51 hw)) (Or.inr (ow_49 hw)) (by decide) (t := (.object "java/lang/String")) (t' := (.object "java/lang/String")) (by decide) (by decide)))
  have F13 := F_0.same W11
  have K14 := Keep.of_wr W11
  refine W.aloadN w10 od_7_9 (pc' := 10) rfl rfl rfl ?_
  refine W.aloadN w10 od_7_10 (pc' := 11) rfl rfl rfl ?_
  have f15 := (E_x0.keep K14)
  refine W.putF w10 (host := "") (Or.inl (ow_50 hw)) Via.refl F12 f15 (Or.inr ⟨(ow_51 hw), rfl, hnm⟩) (ow_37 hw) (ty := (.object "java/lang/String")) (by decide) rfl rfl (memA mem0) od_7_11 (pc' := 14) rfl fun T16 h17 w18 W19 => ?_
  have F20 := F13.other W19 (Or.inr (slot_ne (Or.inr (ow_49 hw)) (Or.inr (ow_51 hw)) (by decide) (t := (.object "java/lang/String")) (t' := (.object "java/lang/String")) (by decide) (by decide)))
  have F21 := F12.same W19
  have K22 := Keep.of_wr W19
  have C23 := Keep.refl h0 [x0]
  have C24 := C23.trans K14 (allS (Or.inl mem0) RoadKit.all0)
  have C25 := C24.trans K22 (allS (Or.inl mem0) RoadKit.all0)
  have f26 := (f15.keep K22)
  exact W.ret0 w18 rfl od_7_14 (M' := []) mN (by decide) (by decide) ⟨rfl, rfl, C25, f26, F20, F21⟩
set_option maxRecDepth 65536 in
set_option maxHeartbeats 40000000 in
theorem c_vinit {l : Launch} {Z : State} {a0 : Array Value} (hw : HW Z a0) {h0 : Heap} {x0 y0 y1 y2 y3 y4 : Addr} {v0 v1 v2 v3 v4 : Value} (E_x0 : Exa Z h0 x0 "com/example/sedgeholt/sedgeholt/layout/VersionFile") (F_0 : Fld Z h0 x0 "com/example/sedgeholt/sedgeholt/layout/VersionFile" "artifactId" "Ljava/lang/String;" v0) (F_1 : Fld Z h0 x0 "com/example/sedgeholt/sedgeholt/layout/VersionFile" "version" "Ljava/lang/String;" v1) (F_2 : Fld Z h0 x0 "com/example/sedgeholt/sedgeholt/layout/VersionFile" "build" "Ljava/util/Optional;" v2) (F_3 : Fld Z h0 x0 "com/example/sedgeholt/sedgeholt/layout/VersionFile" "classifier" "Ljava/lang/String;" v3) (F_4 : Fld Z h0 x0 "com/example/sedgeholt/sedgeholt/layout/VersionFile" "extension" "Ljava/lang/String;" v4) (hO : Old Z Z.heap.size h0) : Ctr l Z EL0 nw0 ({ cls := "com/example/sedgeholt/sedgeholt/layout/VersionFile", name := "<init>", desc := "(Ljava/lang/String;Ljava/lang/String;Ljava/util/Optional;Ljava/lang/String;Ljava/lang/String;)V" } : Jvm.MethodName) prog_9_method_1_code 6 none ({ frames := 2, cells := 0, slots := 0, locals := 24 } : Room) [.ref x0, .ref y0, .ref y1, .ref y2, .ref y3, .ref y4] h0 [x0] (fun v h M' => v = none ∧ M' = [] ∧ Keep h0 h [x0] ∧ Exa Z h x0 "com/example/sedgeholt/sedgeholt/layout/VersionFile" ∧ Fld Z h x0 "com/example/sedgeholt/sedgeholt/layout/VersionFile" "artifactId" "Ljava/lang/String;" (.ref y0) ∧ Fld Z h x0 "com/example/sedgeholt/sedgeholt/layout/VersionFile" "version" "Ljava/lang/String;" (.ref y1) ∧ Fld Z h x0 "com/example/sedgeholt/sedgeholt/layout/VersionFile" "build" "Ljava/util/Optional;" (.ref y2) ∧ Fld Z h x0 "com/example/sedgeholt/sedgeholt/layout/VersionFile" "classifier" "Ljava/lang/String;" (.ref y3) ∧ Fld Z h x0 "com/example/sedgeholt/sedgeholt/layout/VersionFile" "extension" "Ljava/lang/String;" (.ref y4)) := by
  refine of_body (a0 := a0) opn_41 (own_ew hw) hO (Ls := #[.val (.ref x0), .val (.ref y0), .val (.ref y1), .val (.ref y2), .val (.ref y3), .val (.ref y4)]) (fun m => by first | (simp [entryFrame, mkF, argsToLocals, Value.category]; done) | rfl) (fun κ T0 w0 hnm => ?_)
  refine W.aloadN w0 od_12_0 (pc' := 1) rfl rfl rfl ?_
  refine W.callI w0 (ow_74 hw) (ow_43 hw) (ow_46 hw) rfl (by decide) opd_21 (Ctr.pay (c_rec hw w0.old) (own_ew hw) (ow_46 hw) (ow_45 hw) (kf := 2) (kl := 24) (by decide) (by decide)) mN od_12_1 (pc' := 4) rfl rfl rfl (rest := []) rfl (Wd := 0) rfl (by decide) (by decide) (by decide) (by decide) fun v3 T1 h2 M4 w5 q6 => ?_
  obtain ⟨rfl, rfl, e7⟩ := q6
  obtain rfl := e7.symm
  show Go Z _ _ _ κ _ (T1.setTop (mkF (km κ) 4 #[.val (.ref x0), .val (.ref y0), .val (.ref y1), .val (.ref y2), .val (.ref y3), .val (.ref y4)] []))
  refine W.aloadN w5 od_12_4 (pc' := 5) rfl rfl rfl ?_
  refine W.aloadN w5 od_12_5 (pc' := 6) rfl rfl rfl ?_
  refine W.putF w5 (host := "") (Or.inl (ow_75 hw)) Via.refl F_0 E_x0 (Or.inr ⟨(ow_76 hw), rfl, hnm⟩) (ow_31 hw) (ty := (.object "java/lang/String")) (by decide) rfl rfl (memA mem0) od_12_6 (pc' := 9) rfl fun T8 h9 w10 W11 => ?_
  have F12 := F_1.other W11 (Or.inr (slot_ne (Or.inr (ow_78 hw)) (Or.inr (ow_76 hw)) (by decide) (t := (.object "java/lang/String")) (t' := (.object "java/lang/String")) (by decide) (by decide)))
  have F13 := F_2.other W11 (Or.inr (slot_ne (Or.inr (ow_80 hw)) (Or.inr (ow_76 hw)) (by decide) (t := (.object "java/util/Optional")) (t' := (.object "java/lang/String")) (by decide) (by decide)))
  have F14 := F_3.other W11 (Or.inr (slot_ne (Or.inr (ow_82 hw)) (Or.inr (ow_76 hw)) (by decide) (t := (.object "java/lang/String")) (t' := (.object "java/lang/String")) (by decide) (by decide)))
  have F15 := F_4.other W11 (Or.inr (slot_ne (Or.inr (ow_84 hw)) (Or.inr (ow_76 hw)) (by decide) (t := (.object "java/lang/String")) (t' := (.object "java/lang/String")) (by decide) (by decide)))
  have F16 := F_0.same W11
  have K17 := Keep.of_wr W11
  refine W.aloadN w10 od_12_9 (pc' := 10) rfl rfl rfl ?_
  refine W.aloadN w10 od_12_10 (pc' := 11) rfl rfl rfl ?_
  have f18 := (E_x0.keep K17)
  refine W.putF w10 (host := "") (Or.inl (ow_77 hw)) Via.refl F12 f18 (Or.inr ⟨(ow_78 hw), rfl, hnm⟩) (ow_31 hw) (ty := (.object "java/lang/String")) (by decide) rfl rfl (memA mem0) od_12_11 (pc' := 14) rfl fun T19 h20 w21 W22 => ?_
  have F23 := F16.other W22 (Or.inr (slot_ne (Or.inr (ow_76 hw)) (Or.inr (ow_78 hw)) (by decide) (t := (.object "java/lang/String")) (t' := (.object "java/lang/String")) (by decide) (by decide)))
  have F24 := F13.other W22 (Or.inr (slot_ne (Or.inr (ow_80 hw)) (Or.inr (ow_78 hw)) (by decide) (t := (.object "java/util/Optional")) (t' := (.object "java/lang/String")) (by decide) (by decide)))
  have F25 := F14.other W22 (Or.inr (slot_ne (Or.inr (ow_82 hw)) (Or.inr (ow_78 hw)) (by decide) (t := (.object "java/lang/String")) (t' := (.object "java/lang/String")) (by decide) (by decide)))
  have F26 := F15.other W22 (Or.inr (slot_ne (Or.inr (ow_84 hw)) (Or.inr (ow_78 hw)) (by decide) (t := (.object "java/lang/String")) (t' := (.object "java/lang/String")) (by decide) (by decide)))
  have F27 := F12.same W22
  have K28 := Keep.of_wr W22
  refine W.aloadN w21 od_12_14 (pc' := 15) rfl rfl rfl ?_
  refine W.aloadN w21 od_12_15 (pc' := 16) rfl rfl rfl ?_
  have f29 := (f18.keep K28)
  refine W.putF w21 (host := "") (Or.inl (ow_79 hw)) Via.refl F24 f29 (Or.inr ⟨(ow_80 hw), rfl, hnm⟩) (ow_31 hw) (ty := (.object "java/util/Optional")) (by decide) rfl rfl (memA mem0) od_12_16 (pc' := 19) rfl fun T30 h31 w32 W33 => ?_
  have F34 := F23.other W33 (Or.inr (slot_ne (Or.inr (ow_76 hw)) (Or.inr (ow_80 hw)) (by decide) (t := (.object "java/lang/String")) (t' := (.object "java/util/Optional")) (by decide) (by decide)))
  have F35 := F27.other W33 (Or.inr (slot_ne (Or.inr (ow_78 hw)) (Or.inr (ow_80 hw)) (by decide) (t := (.object "java/lang/String")) (t' := (.object "java/util/Optional")) (by decide) (by decide)))
  have F36 := F25.other W33 (Or.inr (slot_ne (Or.inr (ow_82 hw)) (Or.inr (ow_80 hw)) (by decide) (t := (.object "java/lang/String")) (t' := (.object "java/util/Optional")) (by decide) (by decide)))
  have F37 := F26.other W33 (Or.inr (slot_ne (Or.inr (ow_84 hw)) (Or.inr (ow_80 hw)) (by decide) (t := (.object "java/lang/String")) (t' := (.object "java/util/Optional")) (by decide) (by decide)))
  have F38 := F24.same W33
  have K39 := Keep.of_wr W33
  refine W.aloadN w32 od_12_19 (pc' := 20) rfl rfl rfl ?_
  refine W.aload w32 od_12_20 (pc' := 22) rfl rfl rfl ?_
  have f40 := (f29.keep K39)
  refine W.putF w32 (host := "") (Or.inl (ow_81 hw)) Via.refl F36 f40 (Or.inr ⟨(ow_82 hw), rfl, hnm⟩) (ow_31 hw) (ty := (.object "java/lang/String")) (by decide) rfl rfl (memA mem0) od_12_22 (pc' := 25) rfl fun T41 h42 w43 W44 => ?_
  have F45 := F34.other W44 (Or.inr (slot_ne (Or.inr (ow_76 hw)) (Or.inr (ow_82 hw)) (by decide) (t := (.object "java/lang/String")) (t' := (.object "java/lang/String")) (by decide) (by decide)))
  have F46 := F35.other W44 (Or.inr (slot_ne (Or.inr (ow_78 hw)) (Or.inr (ow_82 hw)) (by decide) (t := (.object "java/lang/String")) (t' := (.object "java/lang/String")) (by decide) (by decide)))
  have F47 := F38.other W44 (Or.inr (slot_ne (Or.inr (ow_80 hw)) (Or.inr (ow_82 hw)) (by decide) (t := (.object "java/util/Optional")) (t' := (.object "java/lang/String")) (by decide) (by decide)))
  have F48 := F37.other W44 (Or.inr (slot_ne (Or.inr (ow_84 hw)) (Or.inr (ow_82 hw)) (by decide) (t := (.object "java/lang/String")) (t' := (.object "java/lang/String")) (by decide) (by decide)))
  have F49 := F36.same W44
  have K50 := Keep.of_wr W44
  refine W.aloadN w43 od_12_25 (pc' := 26) rfl rfl rfl ?_
  refine W.aload w43 od_12_26 (pc' := 28) rfl rfl rfl ?_
  have f51 := (f40.keep K50)
  refine W.putF w43 (host := "") (Or.inl (ow_83 hw)) Via.refl F48 f51 (Or.inr ⟨(ow_84 hw), rfl, hnm⟩) (ow_31 hw) (ty := (.object "java/lang/String")) (by decide) rfl rfl (memA mem0) od_12_28 (pc' := 31) rfl fun T52 h53 w54 W55 => ?_
  have F56 := F45.other W55 (Or.inr (slot_ne (Or.inr (ow_76 hw)) (Or.inr (ow_84 hw)) (by decide) (t := (.object "java/lang/String")) (t' := (.object "java/lang/String")) (by decide) (by decide)))
  have F57 := F46.other W55 (Or.inr (slot_ne (Or.inr (ow_78 hw)) (Or.inr (ow_84 hw)) (by decide) (t := (.object "java/lang/String")) (t' := (.object "java/lang/String")) (by decide) (by decide)))
  have F58 := F47.other W55 (Or.inr (slot_ne (Or.inr (ow_80 hw)) (Or.inr (ow_84 hw)) (by decide) (t := (.object "java/util/Optional")) (t' := (.object "java/lang/String")) (by decide) (by decide)))
  have F59 := F49.other W55 (Or.inr (slot_ne (Or.inr (ow_82 hw)) (Or.inr (ow_84 hw)) (by decide) (t := (.object "java/lang/String")) (t' := (.object "java/lang/String")) (by decide) (by decide)))
  have F60 := F48.same W55
  have K61 := Keep.of_wr W55
  have C62 := Keep.refl h0 [x0]
  have C63 := C62.trans K17 (allS (Or.inl mem0) RoadKit.all0)
  have C64 := C63.trans K28 (allS (Or.inl mem0) RoadKit.all0)
  have C65 := C64.trans K39 (allS (Or.inl mem0) RoadKit.all0)
  have C66 := C65.trans K50 (allS (Or.inl mem0) RoadKit.all0)
  have C67 := C66.trans K61 (allS (Or.inl mem0) RoadKit.all0)
  have f68 := (f51.keep K61)
  exact W.ret0 w54 rfl od_12_31 (M' := []) mN (by decide) (by decide) ⟨rfl, rfl, C67, f68, F56, F57, F58, F59, F60⟩
set_option maxRecDepth 65536 in
set_option maxHeartbeats 40000000 in
theorem c_eqs {l : Launch} {Z : State} {a0 : Array Value} (hw : HW Z a0) {h0 : Heap} {x : Addr} (hO : Old Z Z.heap.size h0) : Ctr l Z EL0 nw0 ({ cls := "java/lang/String", name := "equals", desc := "(Ljava/lang/Object;)Z" } : Jvm.MethodName) jdk_42_method_66_code 3 (some .boolean) ({ frames := 0, cells := 0, slots := 0, locals := 0 } : Room) [.ref x, .ref x] h0 [] (fun v h M' => v = some (.int 1) ∧ M' = [] ∧ h = h0) := by
  refine of_body (a0 := a0) opn_42 (own_ew hw) hO (Ls := #[.val (.ref x), .val (.ref x), .unset]) (fun m => by first | (simp [entryFrame, mkF, argsToLocals, Value.category]; done) | rfl) (fun κ T0 w0 hnm => ?_)
  refine W.aloadN w0 od_54_0 (pc' := 1) rfl rfl rfl ?_
  refine W.aloadN w0 od_54_1 (pc' := 2) rfl rfl rfl ?_
  refine W.acmpNo w0 od_54_2 (pc' := 5) rfl rfl rfl (by simp [XT.acmp]) ?_
  refine W.iconst w0 od_54_5 (pc' := 6) rfl (z := (1 : Int32)) rfl ?_
  exact W.retN w0 (t := .boolean) (z' := (1 : Int32)) rfl rfl (by simp) od_54_6 (M' := []) mN (by decide) (by decide) ⟨rfl, rfl, rfl⟩
set_option maxRecDepth 65536 in
set_option maxHeartbeats 40000000 in
theorem c_law {l : Launch} {Z : State} {a0 : Array Value} (hw : HW Z a0) {h0 : Heap} {p0 p1 p2 p3 : Int32} (hO : Old Z Z.heap.size h0) : Ctr l Z EL0 nw0 x code maxLocals ret room_1 [.int p0, .int p1, .int p2, .int p3] h0 [] (fun v h M' => v = some (.int 1)) := by
  refine of_body (a0 := a0) opn_43 (own_ew hw) hO (Ls := #[.val (.int p0), .val (.int p1), .val (.int p2), .val (.int p3), .unset, .unset, .unset, .unset, .unset, .unset, .unset, .unset, .unset, .unset, .unset, .unset, .unset, .unset, .unset, .unset, .unset]) (fun m => by first | (simp [entryFrame, mkF, argsToLocals, Value.category, maxLocals]; done) | rfl) (fun κ T0 w0 hnm => ?_)
  obtain ⟨OE, cK, one, S_e, E_e, F_e, hat⟩ := hw.2.2
  have E_e0 := E_e.keep (keepE hO.2)
  have F_e0 := F_e.keep (keepE hO.2) nin0
  refine W.iloadN w0 od_0_0 (pc' := 1) rfl rfl ?_
  refine W.sipush w0 od_0_1 (pc' := 4) rfl (z := (255 : Int32)) rfl ?_
  refine W.iand w0 od_0_4 (pc' := 5) rfl (z := (p0 &&& (255 : Int32))) rfl ?_
  obtain ⟨z0, ez0, hz0⟩ : ∃ z, ((p0 &&& (255 : Int32))).toUInt32.toUInt16.toUInt32.toInt32 = z ∧ (¬ z < 0 ∧ ¬ (255 : Int32) < z) := ⟨_, i2c_mask _, and255 _⟩
  refine W.i2c w0 od_0_5 (pc' := 6) rfl (z := z0) ez0 ?_
  refine W.istore w0 od_0_6 (pc' := 8) rfl (Ls' := #[.val (.int p0), .val (.int p1), .val (.int p2), .val (.int p3), .val (.int z0), .unset, .unset, .unset, .unset, .unset, .unset, .unset, .unset, .unset, .unset, .unset, .unset, .unset, .unset, .unset, .unset]) rfl ?_
  refine W.iloadN w0 od_0_8 (pc' := 9) rfl rfl ?_
  refine W.bipush w0 od_0_9 (pc' := 11) rfl (z := (8 : Int32)) rfl ?_
  refine W.iushr w0 od_0_11 (pc' := 12) rfl (z := (XT.ushr p0 (8 : Int32))) rfl ?_
  refine W.sipush w0 od_0_12 (pc' := 15) rfl (z := (255 : Int32)) rfl ?_
  refine W.iand w0 od_0_15 (pc' := 16) rfl (z := ((XT.ushr p0 (8 : Int32)) &&& (255 : Int32))) rfl ?_
  obtain ⟨z1, ez1, hz1⟩ : ∃ z, (((XT.ushr p0 (8 : Int32)) &&& (255 : Int32))).toUInt32.toUInt16.toUInt32.toInt32 = z ∧ (¬ z < 0 ∧ ¬ (255 : Int32) < z) := ⟨_, i2c_mask _, and255 _⟩
  refine W.i2c w0 od_0_16 (pc' := 17) rfl (z := z1) ez1 ?_
  refine W.istore w0 od_0_17 (pc' := 19) rfl (Ls' := #[.val (.int p0), .val (.int p1), .val (.int p2), .val (.int p3), .val (.int z0), .val (.int z1), .unset, .unset, .unset, .unset, .unset, .unset, .unset, .unset, .unset, .unset, .unset, .unset, .unset, .unset, .unset]) rfl ?_
  refine W.iloadN w0 od_0_19 (pc' := 20) rfl rfl ?_
  refine W.sipush w0 od_0_20 (pc' := 23) rfl (z := (255 : Int32)) rfl ?_
  refine W.iand w0 od_0_23 (pc' := 24) rfl (z := (p1 &&& (255 : Int32))) rfl ?_
  obtain ⟨z2, ez2, hz2⟩ : ∃ z, ((p1 &&& (255 : Int32))).toUInt32.toUInt16.toUInt32.toInt32 = z ∧ (¬ z < 0 ∧ ¬ (255 : Int32) < z) := ⟨_, i2c_mask _, and255 _⟩
  refine W.i2c w0 od_0_24 (pc' := 25) rfl (z := z2) ez2 ?_
  refine W.istore w0 od_0_25 (pc' := 27) rfl (Ls' := #[.val (.int p0), .val (.int p1), .val (.int p2), .val (.int p3), .val (.int z0), .val (.int z1), .val (.int z2), .unset, .unset, .unset, .unset, .unset, .unset, .unset, .unset, .unset, .unset, .unset, .unset, .unset, .unset]) rfl ?_
  refine W.iloadN w0 od_0_27 (pc' := 28) rfl rfl ?_
  refine W.bipush w0 od_0_28 (pc' := 30) rfl (z := (8 : Int32)) rfl ?_
  refine W.iushr w0 od_0_30 (pc' := 31) rfl (z := (XT.ushr p1 (8 : Int32))) rfl ?_
  refine W.sipush w0 od_0_31 (pc' := 34) rfl (z := (255 : Int32)) rfl ?_
  refine W.iand w0 od_0_34 (pc' := 35) rfl (z := ((XT.ushr p1 (8 : Int32)) &&& (255 : Int32))) rfl ?_
  obtain ⟨z3, ez3, hz3⟩ : ∃ z, (((XT.ushr p1 (8 : Int32)) &&& (255 : Int32))).toUInt32.toUInt16.toUInt32.toInt32 = z ∧ (¬ z < 0 ∧ ¬ (255 : Int32) < z) := ⟨_, i2c_mask _, and255 _⟩
  refine W.i2c w0 od_0_35 (pc' := 36) rfl (z := z3) ez3 ?_
  refine W.istore w0 od_0_36 (pc' := 38) rfl (Ls' := #[.val (.int p0), .val (.int p1), .val (.int p2), .val (.int p3), .val (.int z0), .val (.int z1), .val (.int z2), .val (.int z3), .unset, .unset, .unset, .unset, .unset, .unset, .unset, .unset, .unset, .unset, .unset, .unset, .unset]) rfl ?_
  refine W.iloadN w0 od_0_38 (pc' := 39) rfl rfl ?_
  refine W.sipush w0 od_0_39 (pc' := 42) rfl (z := (255 : Int32)) rfl ?_
  refine W.iand w0 od_0_42 (pc' := 43) rfl (z := (p2 &&& (255 : Int32))) rfl ?_
  obtain ⟨z4, ez4, hz4⟩ : ∃ z, ((p2 &&& (255 : Int32))).toUInt32.toUInt16.toUInt32.toInt32 = z ∧ (¬ z < 0 ∧ ¬ (255 : Int32) < z) := ⟨_, i2c_mask _, and255 _⟩
  refine W.i2c w0 od_0_43 (pc' := 44) rfl (z := z4) ez4 ?_
  refine W.istore w0 od_0_44 (pc' := 46) rfl (Ls' := #[.val (.int p0), .val (.int p1), .val (.int p2), .val (.int p3), .val (.int z0), .val (.int z1), .val (.int z2), .val (.int z3), .val (.int z4), .unset, .unset, .unset, .unset, .unset, .unset, .unset, .unset, .unset, .unset, .unset, .unset]) rfl ?_
  refine W.iloadN w0 od_0_46 (pc' := 47) rfl rfl ?_
  refine W.bipush w0 od_0_47 (pc' := 49) rfl (z := (8 : Int32)) rfl ?_
  refine W.iushr w0 od_0_49 (pc' := 50) rfl (z := (XT.ushr p2 (8 : Int32))) rfl ?_
  refine W.sipush w0 od_0_50 (pc' := 53) rfl (z := (255 : Int32)) rfl ?_
  refine W.iand w0 od_0_53 (pc' := 54) rfl (z := ((XT.ushr p2 (8 : Int32)) &&& (255 : Int32))) rfl ?_
  obtain ⟨z5, ez5, hz5⟩ : ∃ z, (((XT.ushr p2 (8 : Int32)) &&& (255 : Int32))).toUInt32.toUInt16.toUInt32.toInt32 = z ∧ (¬ z < 0 ∧ ¬ (255 : Int32) < z) := ⟨_, i2c_mask _, and255 _⟩
  refine W.i2c w0 od_0_54 (pc' := 55) rfl (z := z5) ez5 ?_
  refine W.istore w0 od_0_55 (pc' := 57) rfl (Ls' := #[.val (.int p0), .val (.int p1), .val (.int p2), .val (.int p3), .val (.int z0), .val (.int z1), .val (.int z2), .val (.int z3), .val (.int z4), .val (.int z5), .unset, .unset, .unset, .unset, .unset, .unset, .unset, .unset, .unset, .unset, .unset]) rfl ?_
  refine W.iloadN w0 od_0_57 (pc' := 58) rfl rfl ?_
  refine W.iconst w0 od_0_58 (pc' := 59) rfl (z := (1 : Int32)) rfl ?_
  refine W.iand w0 od_0_59 (pc' := 60) rfl (z := (p3 &&& (1 : Int32))) rfl ?_
  refine forkV (P := (p3 &&& (1 : Int32)) = (0 : Int32)) (a := 0) (b := 1) (F := fun z => Go Z EL0 nw0 room_1 κ (fun v h M' => v = some (.int 1)) (T0.setTop (mkF (km κ) 68 #[.val (.int p0), .val (.int p1), .val (.int p2), .val (.int p3), .val (.int z0), .val (.int z1), .val (.int z2), .val (.int z3), .val (.int z4), .val (.int z5), .unset, .unset, .unset, .unset, .unset, .unset, .unset, .unset, .unset, .unset, .unset] [.int z]))) (fun hP g => ?_) (fun hP g => ?_) (fun y68 hy68 => ?_)
  · refine W.ifYes w0 od_0_60 (pc' := 67) (by decide) (by decide) ((if0 _ _).trans (teq hP).1) ?_
    refine W.iconst w0 od_0_67 (pc' := 68) rfl (z := (0 : Int32)) rfl ?_
    exact g
  · refine W.ifNo w0 od_0_60 (pc' := 63) rfl ((if0 _ _).trans (feq hP).1) ?_
    refine W.iconst w0 od_0_63 (pc' := 64) rfl (z := (1 : Int32)) rfl ?_
    refine W.goto w0 od_0_64 (pc' := 68) (by decide) (by decide) ?_
    exact g
  refine W.istore w0 od_0_68 (pc' := 70) rfl (Ls' := #[.val (.int p0), .val (.int p1), .val (.int p2), .val (.int p3), .val (.int z0), .val (.int z1), .val (.int z2), .val (.int z3), .val (.int z4), .val (.int z5), .val (.int y68), .unset, .unset, .unset, .unset, .unset, .unset, .unset, .unset, .unset, .unset]) rfl ?_
  refine W.iloadN w0 od_0_70 (pc' := 71) rfl rfl ?_
  refine W.iconst w0 od_0_71 (pc' := 72) rfl (z := (2 : Int32)) rfl ?_
  refine W.iand w0 od_0_72 (pc' := 73) rfl (z := (p3 &&& (2 : Int32))) rfl ?_
  refine forkV (P := (p3 &&& (2 : Int32)) = (0 : Int32)) (a := 0) (b := 1) (F := fun z => Go Z EL0 nw0 room_1 κ (fun v h M' => v = some (.int 1)) (T0.setTop (mkF (km κ) 81 #[.val (.int p0), .val (.int p1), .val (.int p2), .val (.int p3), .val (.int z0), .val (.int z1), .val (.int z2), .val (.int z3), .val (.int z4), .val (.int z5), .val (.int y68), .unset, .unset, .unset, .unset, .unset, .unset, .unset, .unset, .unset, .unset] [.int z]))) (fun hP g => ?_) (fun hP g => ?_) (fun y81 hy81 => ?_)
  · refine W.ifYes w0 od_0_73 (pc' := 80) (by decide) (by decide) ((if0 _ _).trans (teq hP).1) ?_
    refine W.iconst w0 od_0_80 (pc' := 81) rfl (z := (0 : Int32)) rfl ?_
    exact g
  · refine W.ifNo w0 od_0_73 (pc' := 76) rfl ((if0 _ _).trans (feq hP).1) ?_
    refine W.iconst w0 od_0_76 (pc' := 77) rfl (z := (1 : Int32)) rfl ?_
    refine W.goto w0 od_0_77 (pc' := 81) (by decide) (by decide) ?_
    exact g
  refine W.istore w0 od_0_81 (pc' := 83) rfl (Ls' := #[.val (.int p0), .val (.int p1), .val (.int p2), .val (.int p3), .val (.int z0), .val (.int z1), .val (.int z2), .val (.int z3), .val (.int z4), .val (.int z5), .val (.int y68), .val (.int y81), .unset, .unset, .unset, .unset, .unset, .unset, .unset, .unset, .unset]) rfl ?_
  refine W.iloadN w0 od_0_83 (pc' := 84) rfl rfl ?_
  refine W.iconst w0 od_0_84 (pc' := 85) rfl (z := (4 : Int32)) rfl ?_
  refine W.iand w0 od_0_85 (pc' := 86) rfl (z := (p3 &&& (4 : Int32))) rfl ?_
  refine forkV (P := (p3 &&& (4 : Int32)) = (0 : Int32)) (a := 0) (b := 1) (F := fun z => Go Z EL0 nw0 room_1 κ (fun v h M' => v = some (.int 1)) (T0.setTop (mkF (km κ) 94 #[.val (.int p0), .val (.int p1), .val (.int p2), .val (.int p3), .val (.int z0), .val (.int z1), .val (.int z2), .val (.int z3), .val (.int z4), .val (.int z5), .val (.int y68), .val (.int y81), .unset, .unset, .unset, .unset, .unset, .unset, .unset, .unset, .unset] [.int z]))) (fun hP g => ?_) (fun hP g => ?_) (fun y94 hy94 => ?_)
  · refine W.ifYes w0 od_0_86 (pc' := 93) (by decide) (by decide) ((if0 _ _).trans (teq hP).1) ?_
    refine W.iconst w0 od_0_93 (pc' := 94) rfl (z := (0 : Int32)) rfl ?_
    exact g
  · refine W.ifNo w0 od_0_86 (pc' := 89) rfl ((if0 _ _).trans (feq hP).1) ?_
    refine W.iconst w0 od_0_89 (pc' := 90) rfl (z := (1 : Int32)) rfl ?_
    refine W.goto w0 od_0_90 (pc' := 94) (by decide) (by decide) ?_
    exact g
  refine W.istore w0 od_0_94 (pc' := 96) rfl (Ls' := #[.val (.int p0), .val (.int p1), .val (.int p2), .val (.int p3), .val (.int z0), .val (.int z1), .val (.int z2), .val (.int z3), .val (.int z4), .val (.int z5), .val (.int y68), .val (.int y81), .val (.int y94), .unset, .unset, .unset, .unset, .unset, .unset, .unset, .unset]) rfl ?_
  refine W.iload w0 od_0_96 (pc' := 98) rfl rfl ?_
  refine forkV (P := y81 = (0 : Int32)) (a := 0) (b := 32) (F := fun z => Go Z EL0 nw0 room_1 κ (fun v h M' => v = some (.int 1)) (T0.setTop (mkF (km κ) 107 #[.val (.int p0), .val (.int p1), .val (.int p2), .val (.int p3), .val (.int z0), .val (.int z1), .val (.int z2), .val (.int z3), .val (.int z4), .val (.int z5), .val (.int y68), .val (.int y81), .val (.int y94), .unset, .unset, .unset, .unset, .unset, .unset, .unset, .unset] [.int z]))) (fun hP g => ?_) (fun hP g => ?_) (fun y107 hy107 => ?_)
  · refine W.ifYes w0 od_0_98 (pc' := 106) (by decide) (by decide) ((if0 _ _).trans (teq hP).1) ?_
    refine W.iconst w0 od_0_106 (pc' := 107) rfl (z := (0 : Int32)) rfl ?_
    exact g
  · refine W.ifNo w0 od_0_98 (pc' := 101) rfl ((if0 _ _).trans (feq hP).1) ?_
    refine W.bipush w0 od_0_101 (pc' := 103) rfl (z := (32 : Int32)) rfl ?_
    refine W.goto w0 od_0_103 (pc' := 107) (by decide) (by decide) ?_
    exact g
  refine W.istore w0 od_0_107 (pc' := 109) rfl (Ls' := #[.val (.int p0), .val (.int p1), .val (.int p2), .val (.int p3), .val (.int z0), .val (.int z1), .val (.int z2), .val (.int z3), .val (.int z4), .val (.int z5), .val (.int y68), .val (.int y81), .val (.int y94), .val (.int y107), .unset, .unset, .unset, .unset, .unset, .unset, .unset]) rfl ?_
  refine W.bipush w0 od_0_109 (pc' := 111) rfl (z := (10 : Int32)) rfl ?_
  refine W.newP w0 (ty := .char) rfl (ow_0 hw) od_0_111 (pc' := 113) rfl (by decide) (cap := 10) (by decide) (by decide) (by decide) (by decide) fun T1 h2 a3 k4 w5 K6 B7 V8 => ?_
  have ne9 : OE ≠ a3 := neL E_e0.lt B7
  have V10 : Arv Z h2 a3 k4 .char (10 : Int32) [(.int (0 : Int32)), (.int (0 : Int32)), (.int (0 : Int32)), (.int (0 : Int32)), (.int (0 : Int32)), (.int (0 : Int32)), (.int (0 : Int32)), (.int (0 : Int32)), (.int (0 : Int32)), (.int (0 : Int32))] (.int (0 : Int32)) := V8
  refine Jvm.Own.W.dup w5 od_0_113 rfl rfl ?_
  refine W.iconst w5 od_0_114 (pc' := 115) rfl (z := (0 : Int32)) rfl ?_
  refine W.iload w5 od_0_115 (pc' := 117) rfl rfl ?_
  refine W.stC w5 (x' := z0) (nar_lat hz0) V10 (i := 0) (by decide) ⟨by decide, by decide⟩ (Nat.le_of_ble_eq_true rfl) mem0 od_0_117 (pc' := 118) rfl fun T11 h12 w13 K14 V15 => ?_
  have V16 : Arv Z h12 a3 k4 .char (10 : Int32) [(.int z0), (.int (0 : Int32)), (.int (0 : Int32)), (.int (0 : Int32)), (.int (0 : Int32)), (.int (0 : Int32)), (.int (0 : Int32)), (.int (0 : Int32)), (.int (0 : Int32)), (.int (0 : Int32))] (.int (0 : Int32)) := V15
  refine Jvm.Own.W.dup w13 od_0_118 rfl rfl ?_
  refine W.iconst w13 od_0_119 (pc' := 120) rfl (z := (1 : Int32)) rfl ?_
  refine W.iload w13 od_0_120 (pc' := 122) rfl rfl ?_
  refine W.stC w13 (x' := z1) (nar_lat hz1) V16 (i := 1) (by decide) ⟨by decide, by decide⟩ (Nat.le_of_ble_eq_true rfl) mem0 od_0_122 (pc' := 123) rfl fun T17 h18 w19 K20 V21 => ?_
  have V22 : Arv Z h18 a3 k4 .char (10 : Int32) [(.int z0), (.int z1), (.int (0 : Int32)), (.int (0 : Int32)), (.int (0 : Int32)), (.int (0 : Int32)), (.int (0 : Int32)), (.int (0 : Int32)), (.int (0 : Int32)), (.int (0 : Int32))] (.int (0 : Int32)) := V21
  refine Jvm.Own.W.dup w19 od_0_123 rfl rfl ?_
  refine W.iconst w19 od_0_124 (pc' := 125) rfl (z := (2 : Int32)) rfl ?_
  refine W.bipush w19 od_0_125 (pc' := 127) rfl (z := (83 : Int32)) rfl ?_
  refine W.iload w19 od_0_127 (pc' := 129) rfl rfl ?_
  refine W.iadd w19 od_0_129 (pc' := 130) rfl (z := ((83 : Int32) + y107)) rfl ?_
  obtain ⟨z6, ez6, hz6⟩ : ∃ z, (((83 : Int32) + y107)).toUInt32.toUInt16.toUInt32.toInt32 = z ∧ (¬ z < 0 ∧ ¬ (255 : Int32) < z) := ⟨_, rfl, lat_d (by decide) hy107⟩
  refine W.i2c w19 od_0_130 (pc' := 131) rfl (z := z6) ez6 ?_
  refine W.stC w19 (x' := z6) (nar_lat hz6) V22 (i := 2) (by decide) ⟨by decide, by decide⟩ (Nat.le_of_ble_eq_true rfl) mem0 od_0_131 (pc' := 132) rfl fun T23 h24 w25 K26 V27 => ?_
  have V28 : Arv Z h24 a3 k4 .char (10 : Int32) [(.int z0), (.int z1), (.int z6), (.int (0 : Int32)), (.int (0 : Int32)), (.int (0 : Int32)), (.int (0 : Int32)), (.int (0 : Int32)), (.int (0 : Int32)), (.int (0 : Int32))] (.int (0 : Int32)) := V27
  refine Jvm.Own.W.dup w25 od_0_132 rfl rfl ?_
  refine W.iconst w25 od_0_133 (pc' := 134) rfl (z := (3 : Int32)) rfl ?_
  refine W.bipush w25 od_0_134 (pc' := 136) rfl (z := (78 : Int32)) rfl ?_
  refine W.iload w25 od_0_136 (pc' := 138) rfl rfl ?_
  refine W.iadd w25 od_0_138 (pc' := 139) rfl (z := ((78 : Int32) + y107)) rfl ?_
  obtain ⟨z7, ez7, hz7⟩ : ∃ z, (((78 : Int32) + y107)).toUInt32.toUInt16.toUInt32.toInt32 = z ∧ (¬ z < 0 ∧ ¬ (255 : Int32) < z) := ⟨_, rfl, lat_d (by decide) hy107⟩
  refine W.i2c w25 od_0_139 (pc' := 140) rfl (z := z7) ez7 ?_
  refine W.stC w25 (x' := z7) (nar_lat hz7) V28 (i := 3) (by decide) ⟨by decide, by decide⟩ (Nat.le_of_ble_eq_true rfl) mem0 od_0_140 (pc' := 141) rfl fun T29 h30 w31 K32 V33 => ?_
  have V34 : Arv Z h30 a3 k4 .char (10 : Int32) [(.int z0), (.int z1), (.int z6), (.int z7), (.int (0 : Int32)), (.int (0 : Int32)), (.int (0 : Int32)), (.int (0 : Int32)), (.int (0 : Int32)), (.int (0 : Int32))] (.int (0 : Int32)) := V33
  refine Jvm.Own.W.dup w31 od_0_141 rfl rfl ?_
  refine W.iconst w31 od_0_142 (pc' := 143) rfl (z := (4 : Int32)) rfl ?_
  refine W.bipush w31 od_0_143 (pc' := 145) rfl (z := (65 : Int32)) rfl ?_
  refine W.iload w31 od_0_145 (pc' := 147) rfl rfl ?_
  refine W.iadd w31 od_0_147 (pc' := 148) rfl (z := ((65 : Int32) + y107)) rfl ?_
  obtain ⟨z8, ez8, hz8⟩ : ∃ z, (((65 : Int32) + y107)).toUInt32.toUInt16.toUInt32.toInt32 = z ∧ (¬ z < 0 ∧ ¬ (255 : Int32) < z) := ⟨_, rfl, lat_d (by decide) hy107⟩
  refine W.i2c w31 od_0_148 (pc' := 149) rfl (z := z8) ez8 ?_
  refine W.stC w31 (x' := z8) (nar_lat hz8) V34 (i := 4) (by decide) ⟨by decide, by decide⟩ (Nat.le_of_ble_eq_true rfl) mem0 od_0_149 (pc' := 150) rfl fun T35 h36 w37 K38 V39 => ?_
  have V40 : Arv Z h36 a3 k4 .char (10 : Int32) [(.int z0), (.int z1), (.int z6), (.int z7), (.int z8), (.int (0 : Int32)), (.int (0 : Int32)), (.int (0 : Int32)), (.int (0 : Int32)), (.int (0 : Int32))] (.int (0 : Int32)) := V39
  refine Jvm.Own.W.dup w37 od_0_150 rfl rfl ?_
  refine W.iconst w37 od_0_151 (pc' := 152) rfl (z := (5 : Int32)) rfl ?_
  refine W.bipush w37 od_0_152 (pc' := 154) rfl (z := (80 : Int32)) rfl ?_
  refine W.iload w37 od_0_154 (pc' := 156) rfl rfl ?_
  refine W.iadd w37 od_0_156 (pc' := 157) rfl (z := ((80 : Int32) + y107)) rfl ?_
  obtain ⟨z9, ez9, hz9⟩ : ∃ z, (((80 : Int32) + y107)).toUInt32.toUInt16.toUInt32.toInt32 = z ∧ (¬ z < 0 ∧ ¬ (255 : Int32) < z) := ⟨_, rfl, lat_d (by decide) hy107⟩
  refine W.i2c w37 od_0_157 (pc' := 158) rfl (z := z9) ez9 ?_
  refine W.stC w37 (x' := z9) (nar_lat hz9) V40 (i := 5) (by decide) ⟨by decide, by decide⟩ (Nat.le_of_ble_eq_true rfl) mem0 od_0_158 (pc' := 159) rfl fun T41 h42 w43 K44 V45 => ?_
  have V46 : Arv Z h42 a3 k4 .char (10 : Int32) [(.int z0), (.int z1), (.int z6), (.int z7), (.int z8), (.int z9), (.int (0 : Int32)), (.int (0 : Int32)), (.int (0 : Int32)), (.int (0 : Int32))] (.int (0 : Int32)) := V45
  refine Jvm.Own.W.dup w43 od_0_159 rfl rfl ?_
  refine W.bipush w43 od_0_160 (pc' := 162) rfl (z := (6 : Int32)) rfl ?_
  refine W.bipush w43 od_0_162 (pc' := 164) rfl (z := (83 : Int32)) rfl ?_
  refine W.iload w43 od_0_164 (pc' := 166) rfl rfl ?_
  refine W.iadd w43 od_0_166 (pc' := 167) rfl (z := ((83 : Int32) + y107)) rfl ?_
  obtain ⟨z10, ez10, hz10⟩ : ∃ z, (((83 : Int32) + y107)).toUInt32.toUInt16.toUInt32.toInt32 = z ∧ (¬ z < 0 ∧ ¬ (255 : Int32) < z) := ⟨_, rfl, lat_d (by decide) hy107⟩
  refine W.i2c w43 od_0_167 (pc' := 168) rfl (z := z10) ez10 ?_
  refine W.stC w43 (x' := z10) (nar_lat hz10) V46 (i := 6) (by decide) ⟨by decide, by decide⟩ (Nat.le_of_ble_eq_true rfl) mem0 od_0_168 (pc' := 169) rfl fun T47 h48 w49 K50 V51 => ?_
  have V52 : Arv Z h48 a3 k4 .char (10 : Int32) [(.int z0), (.int z1), (.int z6), (.int z7), (.int z8), (.int z9), (.int z10), (.int (0 : Int32)), (.int (0 : Int32)), (.int (0 : Int32))] (.int (0 : Int32)) := V51
  refine Jvm.Own.W.dup w49 od_0_169 rfl rfl ?_
  refine W.bipush w49 od_0_170 (pc' := 172) rfl (z := (7 : Int32)) rfl ?_
  refine W.bipush w49 od_0_172 (pc' := 174) rfl (z := (72 : Int32)) rfl ?_
  refine W.iload w49 od_0_174 (pc' := 176) rfl rfl ?_
  refine W.iadd w49 od_0_176 (pc' := 177) rfl (z := ((72 : Int32) + y107)) rfl ?_
  obtain ⟨z11, ez11, hz11⟩ : ∃ z, (((72 : Int32) + y107)).toUInt32.toUInt16.toUInt32.toInt32 = z ∧ (¬ z < 0 ∧ ¬ (255 : Int32) < z) := ⟨_, rfl, lat_d (by decide) hy107⟩
  refine W.i2c w49 od_0_177 (pc' := 178) rfl (z := z11) ez11 ?_
  refine W.stC w49 (x' := z11) (nar_lat hz11) V52 (i := 7) (by decide) ⟨by decide, by decide⟩ (Nat.le_of_ble_eq_true rfl) mem0 od_0_178 (pc' := 179) rfl fun T53 h54 w55 K56 V57 => ?_
  have V58 : Arv Z h54 a3 k4 .char (10 : Int32) [(.int z0), (.int z1), (.int z6), (.int z7), (.int z8), (.int z9), (.int z10), (.int z11), (.int (0 : Int32)), (.int (0 : Int32))] (.int (0 : Int32)) := V57
  refine Jvm.Own.W.dup w55 od_0_179 rfl rfl ?_
  refine W.bipush w55 od_0_180 (pc' := 182) rfl (z := (8 : Int32)) rfl ?_
  refine W.bipush w55 od_0_182 (pc' := 184) rfl (z := (79 : Int32)) rfl ?_
  refine W.iload w55 od_0_184 (pc' := 186) rfl rfl ?_
  refine W.iadd w55 od_0_186 (pc' := 187) rfl (z := ((79 : Int32) + y107)) rfl ?_
  obtain ⟨z12, ez12, hz12⟩ : ∃ z, (((79 : Int32) + y107)).toUInt32.toUInt16.toUInt32.toInt32 = z ∧ (¬ z < 0 ∧ ¬ (255 : Int32) < z) := ⟨_, rfl, lat_d (by decide) hy107⟩
  refine W.i2c w55 od_0_187 (pc' := 188) rfl (z := z12) ez12 ?_
  refine W.stC w55 (x' := z12) (nar_lat hz12) V58 (i := 8) (by decide) ⟨by decide, by decide⟩ (Nat.le_of_ble_eq_true rfl) mem0 od_0_188 (pc' := 189) rfl fun T59 h60 w61 K62 V63 => ?_
  have V64 : Arv Z h60 a3 k4 .char (10 : Int32) [(.int z0), (.int z1), (.int z6), (.int z7), (.int z8), (.int z9), (.int z10), (.int z11), (.int z12), (.int (0 : Int32))] (.int (0 : Int32)) := V63
  refine Jvm.Own.W.dup w61 od_0_189 rfl rfl ?_
  refine W.bipush w61 od_0_190 (pc' := 192) rfl (z := (9 : Int32)) rfl ?_
  refine W.bipush w61 od_0_192 (pc' := 194) rfl (z := (84 : Int32)) rfl ?_
  refine W.iload w61 od_0_194 (pc' := 196) rfl rfl ?_
  refine W.iadd w61 od_0_196 (pc' := 197) rfl (z := ((84 : Int32) + y107)) rfl ?_
  obtain ⟨z13, ez13, hz13⟩ : ∃ z, (((84 : Int32) + y107)).toUInt32.toUInt16.toUInt32.toInt32 = z ∧ (¬ z < 0 ∧ ¬ (255 : Int32) < z) := ⟨_, rfl, lat_d (by decide) hy107⟩
  refine W.i2c w61 od_0_197 (pc' := 198) rfl (z := z13) ez13 ?_
  refine W.stC w61 (x' := z13) (nar_lat hz13) V64 (i := 9) (by decide) ⟨by decide, by decide⟩ (Nat.le_of_ble_eq_true rfl) mem0 od_0_198 (pc' := 199) rfl fun T65 h66 w67 K68 V69 => ?_
  have V70 : Arv Z h66 a3 k4 .char (10 : Int32) [(.int z0), (.int z1), (.int z6), (.int z7), (.int z8), (.int z9), (.int z10), (.int z11), (.int z12), (.int z13)] (.int (0 : Int32)) := V69
  refine W.astore w67 od_0_199 (pc' := 201) rfl (Ls' := #[.val (.int p0), .val (.int p1), .val (.int p2), .val (.int p3), .val (.int z0), .val (.int z1), .val (.int z2), .val (.int z3), .val (.int z4), .val (.int z5), .val (.int y68), .val (.int y81), .val (.int y94), .val (.int y107), .val (.ref a3), .unset, .unset, .unset, .unset, .unset, .unset]) rfl rfl ?_
  refine W.bipush w67 od_0_201 (pc' := 203) rfl (z := (6 : Int32)) rfl ?_
  have f79 := (((((((((((E_e0.keep K6).keep K14).keep K20).keep K26).keep K32).keep K38).keep K44).keep K50).keep K56).keep K62).keep K68)
  refine W.newP w67 (ty := .char) rfl (ow_0 hw) od_0_203 (pc' := 205) rfl (by decide) (cap := 6) (by decide) (by decide) (by decide) (by decide) fun T71 h72 a73 k74 w75 K76 B77 V78 => ?_
  have ne80 : OE ≠ a73 := neL f79.lt B77
  have ne81 : a3 ≠ a73 := neL V70.lt B77
  have V82 : Arv Z h72 a73 k74 .char (6 : Int32) [(.int (0 : Int32)), (.int (0 : Int32)), (.int (0 : Int32)), (.int (0 : Int32)), (.int (0 : Int32)), (.int (0 : Int32))] (.int (0 : Int32)) := V78
  refine Jvm.Own.W.dup w75 od_0_205 rfl rfl ?_
  refine W.iconst w75 od_0_206 (pc' := 207) rfl (z := (0 : Int32)) rfl ?_
  refine W.iload w75 od_0_207 (pc' := 209) rfl rfl ?_
  refine W.stC w75 (x' := z0) (nar_lat hz0) V82 (i := 0) (by decide) ⟨by decide, by decide⟩ (Nat.le_of_ble_eq_true rfl) mem0 od_0_209 (pc' := 210) rfl fun T83 h84 w85 K86 V87 => ?_
  have V88 : Arv Z h84 a73 k74 .char (6 : Int32) [(.int z0), (.int (0 : Int32)), (.int (0 : Int32)), (.int (0 : Int32)), (.int (0 : Int32)), (.int (0 : Int32))] (.int (0 : Int32)) := V87
  refine Jvm.Own.W.dup w85 od_0_210 rfl rfl ?_
  refine W.iconst w85 od_0_211 (pc' := 212) rfl (z := (1 : Int32)) rfl ?_
  refine W.iload w85 od_0_212 (pc' := 214) rfl rfl ?_
  refine W.stC w85 (x' := z1) (nar_lat hz1) V88 (i := 1) (by decide) ⟨by decide, by decide⟩ (Nat.le_of_ble_eq_true rfl) mem0 od_0_214 (pc' := 215) rfl fun T89 h90 w91 K92 V93 => ?_
  have V94 : Arv Z h90 a73 k74 .char (6 : Int32) [(.int z0), (.int z1), (.int (0 : Int32)), (.int (0 : Int32)), (.int (0 : Int32)), (.int (0 : Int32))] (.int (0 : Int32)) := V93
  refine Jvm.Own.W.dup w91 od_0_215 rfl rfl ?_
  refine W.iconst w91 od_0_216 (pc' := 217) rfl (z := (2 : Int32)) rfl ?_
  refine W.iload w91 od_0_217 (pc' := 219) rfl rfl ?_
  refine W.stC w91 (x' := z2) (nar_lat hz2) V94 (i := 2) (by decide) ⟨by decide, by decide⟩ (Nat.le_of_ble_eq_true rfl) mem0 od_0_219 (pc' := 220) rfl fun T95 h96 w97 K98 V99 => ?_
  have V100 : Arv Z h96 a73 k74 .char (6 : Int32) [(.int z0), (.int z1), (.int z2), (.int (0 : Int32)), (.int (0 : Int32)), (.int (0 : Int32))] (.int (0 : Int32)) := V99
  refine Jvm.Own.W.dup w97 od_0_220 rfl rfl ?_
  refine W.iconst w97 od_0_221 (pc' := 222) rfl (z := (3 : Int32)) rfl ?_
  refine W.iload w97 od_0_222 (pc' := 224) rfl rfl ?_
  refine W.stC w97 (x' := z3) (nar_lat hz3) V100 (i := 3) (by decide) ⟨by decide, by decide⟩ (Nat.le_of_ble_eq_true rfl) mem0 od_0_224 (pc' := 225) rfl fun T101 h102 w103 K104 V105 => ?_
  have V106 : Arv Z h102 a73 k74 .char (6 : Int32) [(.int z0), (.int z1), (.int z2), (.int z3), (.int (0 : Int32)), (.int (0 : Int32))] (.int (0 : Int32)) := V105
  refine Jvm.Own.W.dup w103 od_0_225 rfl rfl ?_
  refine W.iconst w103 od_0_226 (pc' := 227) rfl (z := (4 : Int32)) rfl ?_
  refine W.iload w103 od_0_227 (pc' := 229) rfl rfl ?_
  refine W.stC w103 (x' := z4) (nar_lat hz4) V106 (i := 4) (by decide) ⟨by decide, by decide⟩ (Nat.le_of_ble_eq_true rfl) mem0 od_0_229 (pc' := 230) rfl fun T107 h108 w109 K110 V111 => ?_
  have V112 : Arv Z h108 a73 k74 .char (6 : Int32) [(.int z0), (.int z1), (.int z2), (.int z3), (.int z4), (.int (0 : Int32))] (.int (0 : Int32)) := V111
  refine Jvm.Own.W.dup w109 od_0_230 rfl rfl ?_
  refine W.iconst w109 od_0_231 (pc' := 232) rfl (z := (5 : Int32)) rfl ?_
  refine W.iload w109 od_0_232 (pc' := 234) rfl rfl ?_
  refine W.stC w109 (x' := z5) (nar_lat hz5) V112 (i := 5) (by decide) ⟨by decide, by decide⟩ (Nat.le_of_ble_eq_true rfl) mem0 od_0_234 (pc' := 235) rfl fun T113 h114 w115 K116 V117 => ?_
  have V118 : Arv Z h114 a73 k74 .char (6 : Int32) [(.int z0), (.int z1), (.int z2), (.int z3), (.int z4), (.int z5)] (.int (0 : Int32)) := V117
  refine W.astore w115 od_0_235 (pc' := 237) rfl (Ls' := #[.val (.int p0), .val (.int p1), .val (.int p2), .val (.int p3), .val (.int z0), .val (.int z1), .val (.int z2), .val (.int z3), .val (.int z4), .val (.int z5), .val (.int y68), .val (.int y81), .val (.int y94), .val (.int y107), .val (.ref a3), .val (.ref a73), .unset, .unset, .unset, .unset, .unset]) rfl rfl ?_
  refine W.iload w115 od_0_237 (pc' := 239) rfl rfl ?_
  rcases Decidable.em (y68 = (0 : Int32)) with hc119 | hc119
  · refine W.ifYes w115 od_0_239 (pc' := 429) (by decide) (by decide) ((if0 _ _).trans (teq hc119).1) ?_
    refine W.iload w115 od_0_429 (pc' := 431) rfl rfl ?_
    rcases Decidable.em (y94 = (0 : Int32)) with hc120 | hc120
    · refine W.ifYes w115 od_0_431 (pc' := 446) (by decide) (by decide) ((if0 _ _).trans (teq hc120).1) ?_
      have f129 := (((((((f79.keep K76).keep K86).keep K92).keep K98).keep K104).keep K110).keep K116)
      have f130 := (((((((V70.keep K76 nin0).keep K86 (ninS ne81 nin0)).keep K92 (ninS ne81 nin0)).keep K98 (ninS ne81 nin0)).keep K104 (ninS ne81 nin0)).keep K110 (ninS ne81 nin0)).keep K116 (ninS ne81 nin0))
      refine W.newO w115 (ow_1 hw) (ow_2 hw) (ow_3 hw) od_0_446 (pc' := 449) rfl (by decide) (by decide) fun T121 h122 a123 w124 K125 B126 E127 D128 => ?_
      have ne131 : OE ≠ a123 := neL f129.lt B126
      have ne132 : a3 ≠ a123 := neL f130.lt B126
      have ne133 : a73 ≠ a123 := neL V118.lt B126
      have F134 : Fld Z h122 a123 "java/lang/String" "coder" "B" (.int (0 : Int32)) := D128 (Or.inr (ow_27 hw)) (ty := .byte) (by decide)
      have F135 : Fld Z h122 a123 "java/lang/String" "value" "[B" .null := D128 (Or.inr (ow_29 hw)) (ty := (.array .byte)) (by decide)
      refine Jvm.Own.W.dup w124 od_0_449 rfl rfl ?_
      refine W.aload w124 od_0_450 (pc' := 452) rfl rfl rfl ?_
      have f136 := (V118.keep K125 nin0)
      have f137 := (f129.keep K125)
      have f138 := (f130.keep K125 nin0)
      refine W.callI w124 (ow_4 hw) (ow_5 hw) (ow_6 hw) rfl (by decide) opd_29 (own_init hw w124.old (w124.mut mem0).1 E127 F135 F134 (cs := [z0, z1, z2, z3, z4, z5]) f136 (n := 6) rfl rfl (by decide) (by decide) (faS hz0 (faS hz1 (faS hz2 (faS hz3 (faS hz4 (faS hz5 fa0))))))) (mC mem0 mN) od_0_452 (pc' := 455) rfl rfl rfl (rest := [(.ref a123)]) rfl (Wd := 1) rfl (by decide) (by decide) (by decide) (by decide) fun v141 T139 h140 M142 w143 q144 => ?_
      obtain ⟨rfl, rfl, K145, t146, B147, F148⟩ := q144
      have ne149 : OE ≠ t146 := neL f137.lt B147
      have ne150 : a3 ≠ t146 := neL f138.lt B147
      have ne151 : a73 ≠ t146 := neL f136.lt B147
      have ne152 : a123 ≠ t146 := neL E127.lt B147
      show Go Z _ _ _ κ _ (T139.setTop (mkF (km κ) 455 #[.val (.int p0), .val (.int p1), .val (.int p2), .val (.int p3), .val (.int z0), .val (.int z1), .val (.int z2), .val (.int z3), .val (.int z4), .val (.int z5), .val (.int y68), .val (.int y81), .val (.int y94), .val (.int y107), .val (.ref a3), .val (.ref a73), .unset, .unset, .unset, .unset, .unset] [(.ref a123)]))
      refine W.astore w143 od_0_455 (pc' := 457) rfl (Ls' := #[.val (.int p0), .val (.int p1), .val (.int p2), .val (.int p3), .val (.int z0), .val (.int z1), .val (.int z2), .val (.int z3), .val (.int z4), .val (.int z5), .val (.int y68), .val (.int y81), .val (.int y94), .val (.int y107), .val (.ref a3), .val (.ref a73), .val (.ref a123), .unset, .unset, .unset, .unset]) rfl rfl ?_
      have f161 := (f137.keep K145)
      have f162 := (f138.keep K145 (ninS ne132 nin0))
      have f163 := (f136.keep K145 (ninS ne133 nin0))
      have f164 := (E127.keep K145)
      refine W.newO w143 (ow_30 hw) (ow_31 hw) (ow_32 hw) od_0_457 (pc' := 460) rfl (by decide) (by decide) fun T153 h154 a155 w156 K157 B158 E159 D160 => ?_
      have ne165 : OE ≠ a155 := neL f161.lt B158
      have ne166 : a3 ≠ a155 := neL f162.lt B158
      have ne167 : a73 ≠ a155 := neL f163.lt B158
      have ne168 : a123 ≠ a155 := neL f164.lt B158
      have ne169 : t146 ≠ a155 := neL F148.lt2 B158
      have F170 : Fld Z h154 a155 "com/example/sedgeholt/sedgeholt/layout/VersionFile" "artifactId" "Ljava/lang/String;" .null := D160 (Or.inr (ow_76 hw)) (ty := (.object "java/lang/String")) (by decide)
      have F171 : Fld Z h154 a155 "com/example/sedgeholt/sedgeholt/layout/VersionFile" "version" "Ljava/lang/String;" .null := D160 (Or.inr (ow_78 hw)) (ty := (.object "java/lang/String")) (by decide)
      have F172 : Fld Z h154 a155 "com/example/sedgeholt/sedgeholt/layout/VersionFile" "build" "Ljava/util/Optional;" .null := D160 (Or.inr (ow_80 hw)) (ty := (.object "java/util/Optional")) (by decide)
      have F173 : Fld Z h154 a155 "com/example/sedgeholt/sedgeholt/layout/VersionFile" "classifier" "Ljava/lang/String;" .null := D160 (Or.inr (ow_82 hw)) (ty := (.object "java/lang/String")) (by decide)
      have F174 : Fld Z h154 a155 "com/example/sedgeholt/sedgeholt/layout/VersionFile" "extension" "Ljava/lang/String;" .null := D160 (Or.inr (ow_84 hw)) (ty := (.object "java/lang/String")) (by decide)
      refine Jvm.Own.W.dup w156 od_0_460 rfl rfl ?_
      refine W.ldcS w156 rfl (ow_33 hw) (own_sA hw) (List.mem_of_getElem? (i := 2) rfl) (vs := [(.int (97 : Int32))]) (z := (1 : Int32)) ⟨by decide, by decide⟩ (by decide) (by decide) od_0_461 (pc' := 463) rfl (n := 4) (by decide) (by decide) (by decide) (by decide) fun T175 h176 a177 a178 k179 w180 K181 E182 F183 F184 V185 Q186 => ?_
      have ne187 : a3 ≠ a177 := (Q186 a3 (memS (memA (memS (memS mem0))))).1
      have ne188 : a3 ≠ a178 := (Q186 a3 (memS (memA (memS (memS mem0))))).2
      have ne189 : a73 ≠ a177 := (Q186 a73 (memS (memA (memS mem0)))).1
      have ne190 : a73 ≠ a178 := (Q186 a73 (memS (memA (memS mem0)))).2
      have ne191 : a123 ≠ a177 := (Q186 a123 (memS (memA mem0))).1
      have ne192 : a123 ≠ a178 := (Q186 a123 (memS (memA mem0))).2
      have ne193 : a155 ≠ a177 := (Q186 a155 mem0).1
      have ne194 : a155 ≠ a178 := (Q186 a155 mem0).2
      have F195 : Str8 Z h176 a177 a178 [(97 : Int32)] := ⟨E182, F183, F184, ⟨_, V185⟩, by decide, by decide⟩
      refine W.aload w180 od_0_463 (pc' := 465) rfl rfl rfl ?_
      refine W.callS w180 (ow_289 hw) (ow_290 hw) (ow_54 hw) (ow_291 hw) (by decide) opd_27 (Ctr.pay (c_opempty hw S_e w180.old) (own_ew hw) (ow_291 hw) (ow_54 hw) (kf := 1) (kl := 12) (by decide) (by decide)) mN od_0_465 (pc' := 468) rfl rfl rfl (rest := [(.ref a123), (.ref a177), (.ref a155), (.ref a155)]) rfl (Wd := 4) rfl (by decide) (by decide) (by decide) (by decide) fun v198 T196 h197 M199 w200 q201 => ?_
      obtain ⟨rfl, rfl, e202⟩ := q201
      obtain rfl := e202.symm
      show Go Z _ _ _ κ _ (T196.setTop (mkF (km κ) 468 #[.val (.int p0), .val (.int p1), .val (.int p2), .val (.int p3), .val (.int z0), .val (.int z1), .val (.int z2), .val (.int z3), .val (.int z4), .val (.int z5), .val (.int y68), .val (.int y81), .val (.int y94), .val (.int y107), .val (.ref a3), .val (.ref a73), .val (.ref a123), .unset, .unset, .unset, .unset] [(.ref OE), (.ref a123), (.ref a177), (.ref a155), (.ref a155)]))
      refine W.ldcS w200 rfl (ow_69 hw) (own_sA hw) (List.mem_of_getElem? (i := 3) rfl) (vs := []) (z := (0 : Int32)) ⟨by decide, by decide⟩ (by decide) (by decide) od_0_468 (pc' := 470) rfl (n := 0) (by decide) (by decide) (by decide) (by decide) fun T203 h204 a205 a206 k207 w208 K209 E210 F211 F212 V213 Q214 => ?_
      have ne215 : a3 ≠ a205 := (Q214 a3 (memA (memS (memA (memS (memS mem0)))))).1
      have ne216 : a3 ≠ a206 := (Q214 a3 (memA (memS (memA (memS (memS mem0)))))).2
      have ne217 : a73 ≠ a205 := (Q214 a73 (memA (memS (memA (memS mem0))))).1
      have ne218 : a73 ≠ a206 := (Q214 a73 (memA (memS (memA (memS mem0))))).2
      have ne219 : a123 ≠ a205 := (Q214 a123 (memA (memS (memA mem0)))).1
      have ne220 : a123 ≠ a206 := (Q214 a123 (memA (memS (memA mem0)))).2
      have ne221 : a155 ≠ a205 := (Q214 a155 (memA mem0)).1
      have ne222 : a155 ≠ a206 := (Q214 a155 (memA mem0)).2
      have F223 : Str8 Z h204 a205 a206 [] := ⟨E210, F211, F212, ⟨_, V213⟩, by decide, by decide⟩
      refine W.ldcS w208 rfl (ow_70 hw) (own_sA hw) (List.mem_of_getElem? (i := 4) rfl) (vs := [(.int (106 : Int32)), (.int (97 : Int32)), (.int (114 : Int32))]) (z := (3 : Int32)) ⟨by decide, by decide⟩ (by decide) (by decide) od_0_470 (pc' := 472) rfl (n := 12) (by decide) (by decide) (by decide) (by decide) fun T224 h225 a226 a227 k228 w229 K230 E231 F232 F233 V234 Q235 => ?_
      have ne236 : a3 ≠ a226 := (Q235 a3 (memA (memS (memA (memS (memS mem0)))))).1
      have ne237 : a3 ≠ a227 := (Q235 a3 (memA (memS (memA (memS (memS mem0)))))).2
      have ne238 : a73 ≠ a226 := (Q235 a73 (memA (memS (memA (memS mem0))))).1
      have ne239 : a73 ≠ a227 := (Q235 a73 (memA (memS (memA (memS mem0))))).2
      have ne240 : a123 ≠ a226 := (Q235 a123 (memA (memS (memA mem0)))).1
      have ne241 : a123 ≠ a227 := (Q235 a123 (memA (memS (memA mem0)))).2
      have ne242 : a155 ≠ a226 := (Q235 a155 (memA mem0)).1
      have ne243 : a155 ≠ a227 := (Q235 a155 (memA mem0)).2
      have F244 : Str8 Z h225 a226 a227 [(106 : Int32), (97 : Int32), (114 : Int32)] := ⟨E231, F232, F233, ⟨_, V234⟩, by decide, by decide⟩
      have f245 := (((E159.keep K181).keep K209).keep K230)
      have f246 := (((F170.keep K181 nin0).keep K209 nin0).keep K230 nin0)
      have f247 := (((F171.keep K181 nin0).keep K209 nin0).keep K230 nin0)
      have f248 := (((F172.keep K181 nin0).keep K209 nin0).keep K230 nin0)
      have f249 := (((F173.keep K181 nin0).keep K209 nin0).keep K230 nin0)
      have f250 := (((F174.keep K181 nin0).keep K209 nin0).keep K230 nin0)
      refine W.callI w229 (ow_71 hw) (ow_72 hw) (ow_73 hw) rfl (by decide) opd_30 (Ctr.pay (c_vinit hw f245 f246 f247 f248 f249 f250 w229.old) (own_ew hw) (ow_73 hw) (ow_32 hw) (kf := 3) (kl := 41) (by decide) (by decide)) (mC (memA mem0) mN) od_0_472 (pc' := 475) rfl rfl rfl (rest := [(.ref a155)]) rfl (Wd := 1) rfl (by decide) (by decide) (by decide) (by decide) fun v253 T251 h252 M254 w255 q256 => ?_
      obtain ⟨rfl, rfl, K257, E258, F259, F260, F261, F262, F263⟩ := q256
      show Go Z _ _ _ κ _ (T251.setTop (mkF (km κ) 475 #[.val (.int p0), .val (.int p1), .val (.int p2), .val (.int p3), .val (.int z0), .val (.int z1), .val (.int z2), .val (.int z3), .val (.int z4), .val (.int z5), .val (.int y68), .val (.int y81), .val (.int y94), .val (.int y107), .val (.ref a3), .val (.ref a73), .val (.ref a123), .unset, .unset, .unset, .unset] [(.ref a155)]))
      refine W.astore w255 od_0_475 (pc' := 477) rfl (Ls' := #[.val (.int p0), .val (.int p1), .val (.int p2), .val (.int p3), .val (.int z0), .val (.int z1), .val (.int z2), .val (.int z3), .val (.int z4), .val (.int z5), .val (.int y68), .val (.int y81), .val (.int y94), .val (.int y107), .val (.ref a3), .val (.ref a73), .val (.ref a123), .val (.ref a155), .unset, .unset, .unset]) rfl rfl ?_
      refine W.aload w255 od_0_477 (pc' := 479) rfl rfl rfl ?_
      have f264 := (((((f161.keep K157).keep K181).keep K209).keep K230).keep K257)
      have f265 := (((((f164.keep K157).keep K181).keep K209).keep K230).keep K257)
      have f266 := (((((((((((((((((((((((((F_e0.keep K6 nin0).keep K14 (ninS ne9 nin0)).keep K20 (ninS ne9 nin0)).keep K26 (ninS ne9 nin0)).keep K32 (ninS ne9 nin0)).keep K38 (ninS ne9 nin0)).keep K44 (ninS ne9 nin0)).keep K50 (ninS ne9 nin0)).keep K56 (ninS ne9 nin0)).keep K62 (ninS ne9 nin0)).keep K68 (ninS ne9 nin0)).keep K76 nin0).keep K86 (ninS ne80 nin0)).keep K92 (ninS ne80 nin0)).keep K98 (ninS ne80 nin0)).keep K104 (ninS ne80 nin0)).keep K110 (ninS ne80 nin0)).keep K116 (ninS ne80 nin0)).keep K125 nin0).keep K145 (ninS ne131 nin0)).keep K157 nin0).keep K181 nin0).keep K209 nin0).keep K230 nin0).keep K257 (ninS ne165 nin0))
      refine W.callV w255 (ow_85 hw) (ow_86 hw) (nfSel (ow_88 hw)) (ow_88 hw) (ow_87 hw) (by decide) opd_24 E258 (Ctr.pay (c_fv0 hw E258 f264 F261 F260 f265 f266 w255.old) (own_ew hw) (ow_89 hw) (ow_32 hw) (kf := 3) (kl := 3086) (by decide) (by decide)) mN od_0_479 (pc' := 482) rfl rfl rfl (rest := []) rfl (Wd := 0) rfl (by decide) (by decide) (by decide) (by decide) fun v269 T267 h268 M270 w271 q272 => ?_
      obtain ⟨rfl, rfl, K273⟩ := q272
      show Go Z _ _ _ κ _ (T267.setTop (mkF (km κ) 482 #[.val (.int p0), .val (.int p1), .val (.int p2), .val (.int p3), .val (.int z0), .val (.int z1), .val (.int z2), .val (.int z3), .val (.int z4), .val (.int z5), .val (.int y68), .val (.int y81), .val (.int y94), .val (.int y107), .val (.ref a3), .val (.ref a73), .val (.ref a123), .val (.ref a155), .unset, .unset, .unset] [(.ref a123)]))
      refine W.aload w271 od_0_482 (pc' := 484) rfl rfl rfl ?_
      have f280 := (f265.keep K273)
      refine W.callV w271 (ow_294 hw) (ow_295 hw) (nfSel (ow_297 hw)) (ow_297 hw) (ow_296 hw) (by decide) opd_31 f280 (Ctr.pay (c_eqs hw w271.old) (own_ew hw) (ow_298 hw) (ow_3 hw) (kf := 1) (kl := 14) (by decide) (by decide)) mN od_0_484 (pc' := 487) rfl rfl rfl (rest := []) rfl (Wd := 0) rfl (by decide) (by decide) (by decide) (by decide) fun v276 T274 h275 M277 w278 q279 => ?_
      obtain ⟨rfl, rfl, e281⟩ := q279
      obtain rfl := e281.symm
      show Go Z _ _ _ κ _ (T274.setTop (mkF (km κ) 487 #[.val (.int p0), .val (.int p1), .val (.int p2), .val (.int p3), .val (.int z0), .val (.int z1), .val (.int z2), .val (.int z3), .val (.int z4), .val (.int z5), .val (.int y68), .val (.int y81), .val (.int y94), .val (.int y107), .val (.ref a3), .val (.ref a73), .val (.ref a123), .val (.ref a155), .unset, .unset, .unset] [(.int (1 : Int32))]))
      exact W.retN w278 (t := .boolean) (z' := (1 : Int32)) rfl rfl (by simp) od_0_487 (M' := []) mN (by decide) (by decide) rfl
    · refine W.ifNo w115 od_0_431 (pc' := 434) rfl ((if0 _ _).trans (feq hc120).1) ?_
      have f290 := (((((((f79.keep K76).keep K86).keep K92).keep K98).keep K104).keep K110).keep K116)
      have f291 := (((((((V70.keep K76 nin0).keep K86 (ninS ne81 nin0)).keep K92 (ninS ne81 nin0)).keep K98 (ninS ne81 nin0)).keep K104 (ninS ne81 nin0)).keep K110 (ninS ne81 nin0)).keep K116 (ninS ne81 nin0))
      refine W.newO w115 (ow_1 hw) (ow_2 hw) (ow_3 hw) od_0_434 (pc' := 437) rfl (by decide) (by decide) fun T282 h283 a284 w285 K286 B287 E288 D289 => ?_
      have ne292 : OE ≠ a284 := neL f290.lt B287
      have ne293 : a3 ≠ a284 := neL f291.lt B287
      have ne294 : a73 ≠ a284 := neL V118.lt B287
      have F295 : Fld Z h283 a284 "java/lang/String" "coder" "B" (.int (0 : Int32)) := D289 (Or.inr (ow_27 hw)) (ty := .byte) (by decide)
      have F296 : Fld Z h283 a284 "java/lang/String" "value" "[B" .null := D289 (Or.inr (ow_29 hw)) (ty := (.array .byte)) (by decide)
      refine Jvm.Own.W.dup w285 od_0_437 rfl rfl ?_
      refine W.aload w285 od_0_438 (pc' := 440) rfl rfl rfl ?_
      have f297 := (f291.keep K286 nin0)
      have f298 := (f290.keep K286)
      have f299 := (V118.keep K286 nin0)
      refine W.callI w285 (ow_4 hw) (ow_5 hw) (ow_6 hw) rfl (by decide) opd_29 (own_init hw w285.old (w285.mut mem0).1 E288 F296 F295 (cs := [z0, z1, z6, z7, z8, z9, z10, z11, z12, z13]) f297 (n := 10) rfl rfl (by decide) (by decide) (faS hz0 (faS hz1 (faS hz6 (faS hz7 (faS hz8 (faS hz9 (faS hz10 (faS hz11 (faS hz12 (faS hz13 fa0))))))))))) (mC mem0 mN) od_0_440 (pc' := 443) rfl rfl rfl (rest := [(.ref a284)]) rfl (Wd := 1) rfl (by decide) (by decide) (by decide) (by decide) fun v302 T300 h301 M303 w304 q305 => ?_
      obtain ⟨rfl, rfl, K306, t307, B308, F309⟩ := q305
      have ne310 : OE ≠ t307 := neL f298.lt B308
      have ne311 : a3 ≠ t307 := neL f297.lt B308
      have ne312 : a73 ≠ t307 := neL f299.lt B308
      have ne313 : a284 ≠ t307 := neL E288.lt B308
      show Go Z _ _ _ κ _ (T300.setTop (mkF (km κ) 443 #[.val (.int p0), .val (.int p1), .val (.int p2), .val (.int p3), .val (.int z0), .val (.int z1), .val (.int z2), .val (.int z3), .val (.int z4), .val (.int z5), .val (.int y68), .val (.int y81), .val (.int y94), .val (.int y107), .val (.ref a3), .val (.ref a73), .unset, .unset, .unset, .unset, .unset] [(.ref a284)]))
      refine W.goto w304 od_0_443 (pc' := 455) (by decide) (by decide) ?_
      refine W.astore w304 od_0_455 (pc' := 457) rfl (Ls' := #[.val (.int p0), .val (.int p1), .val (.int p2), .val (.int p3), .val (.int z0), .val (.int z1), .val (.int z2), .val (.int z3), .val (.int z4), .val (.int z5), .val (.int y68), .val (.int y81), .val (.int y94), .val (.int y107), .val (.ref a3), .val (.ref a73), .val (.ref a284), .unset, .unset, .unset, .unset]) rfl rfl ?_
      have f322 := (f298.keep K306)
      have f323 := (f297.keep K306 (ninS ne293 nin0))
      have f324 := (f299.keep K306 (ninS ne294 nin0))
      have f325 := (E288.keep K306)
      refine W.newO w304 (ow_30 hw) (ow_31 hw) (ow_32 hw) od_0_457 (pc' := 460) rfl (by decide) (by decide) fun T314 h315 a316 w317 K318 B319 E320 D321 => ?_
      have ne326 : OE ≠ a316 := neL f322.lt B319
      have ne327 : a3 ≠ a316 := neL f323.lt B319
      have ne328 : a73 ≠ a316 := neL f324.lt B319
      have ne329 : a284 ≠ a316 := neL f325.lt B319
      have ne330 : t307 ≠ a316 := neL F309.lt2 B319
      have F331 : Fld Z h315 a316 "com/example/sedgeholt/sedgeholt/layout/VersionFile" "artifactId" "Ljava/lang/String;" .null := D321 (Or.inr (ow_76 hw)) (ty := (.object "java/lang/String")) (by decide)
      have F332 : Fld Z h315 a316 "com/example/sedgeholt/sedgeholt/layout/VersionFile" "version" "Ljava/lang/String;" .null := D321 (Or.inr (ow_78 hw)) (ty := (.object "java/lang/String")) (by decide)
      have F333 : Fld Z h315 a316 "com/example/sedgeholt/sedgeholt/layout/VersionFile" "build" "Ljava/util/Optional;" .null := D321 (Or.inr (ow_80 hw)) (ty := (.object "java/util/Optional")) (by decide)
      have F334 : Fld Z h315 a316 "com/example/sedgeholt/sedgeholt/layout/VersionFile" "classifier" "Ljava/lang/String;" .null := D321 (Or.inr (ow_82 hw)) (ty := (.object "java/lang/String")) (by decide)
      have F335 : Fld Z h315 a316 "com/example/sedgeholt/sedgeholt/layout/VersionFile" "extension" "Ljava/lang/String;" .null := D321 (Or.inr (ow_84 hw)) (ty := (.object "java/lang/String")) (by decide)
      refine Jvm.Own.W.dup w317 od_0_460 rfl rfl ?_
      refine W.ldcS w317 rfl (ow_33 hw) (own_sA hw) (List.mem_of_getElem? (i := 2) rfl) (vs := [(.int (97 : Int32))]) (z := (1 : Int32)) ⟨by decide, by decide⟩ (by decide) (by decide) od_0_461 (pc' := 463) rfl (n := 4) (by decide) (by decide) (by decide) (by decide) fun T336 h337 a338 a339 k340 w341 K342 E343 F344 F345 V346 Q347 => ?_
      have ne348 : a3 ≠ a338 := (Q347 a3 (memS (memA (memS (memS mem0))))).1
      have ne349 : a3 ≠ a339 := (Q347 a3 (memS (memA (memS (memS mem0))))).2
      have ne350 : a73 ≠ a338 := (Q347 a73 (memS (memA (memS mem0)))).1
      have ne351 : a73 ≠ a339 := (Q347 a73 (memS (memA (memS mem0)))).2
      have ne352 : a284 ≠ a338 := (Q347 a284 (memS (memA mem0))).1
      have ne353 : a284 ≠ a339 := (Q347 a284 (memS (memA mem0))).2
      have ne354 : a316 ≠ a338 := (Q347 a316 mem0).1
      have ne355 : a316 ≠ a339 := (Q347 a316 mem0).2
      have F356 : Str8 Z h337 a338 a339 [(97 : Int32)] := ⟨E343, F344, F345, ⟨_, V346⟩, by decide, by decide⟩
      refine W.aload w341 od_0_463 (pc' := 465) rfl rfl rfl ?_
      refine W.callS w341 (ow_289 hw) (ow_290 hw) (ow_54 hw) (ow_291 hw) (by decide) opd_27 (Ctr.pay (c_opempty hw S_e w341.old) (own_ew hw) (ow_291 hw) (ow_54 hw) (kf := 1) (kl := 12) (by decide) (by decide)) mN od_0_465 (pc' := 468) rfl rfl rfl (rest := [(.ref a284), (.ref a338), (.ref a316), (.ref a316)]) rfl (Wd := 4) rfl (by decide) (by decide) (by decide) (by decide) fun v359 T357 h358 M360 w361 q362 => ?_
      obtain ⟨rfl, rfl, e363⟩ := q362
      obtain rfl := e363.symm
      show Go Z _ _ _ κ _ (T357.setTop (mkF (km κ) 468 #[.val (.int p0), .val (.int p1), .val (.int p2), .val (.int p3), .val (.int z0), .val (.int z1), .val (.int z2), .val (.int z3), .val (.int z4), .val (.int z5), .val (.int y68), .val (.int y81), .val (.int y94), .val (.int y107), .val (.ref a3), .val (.ref a73), .val (.ref a284), .unset, .unset, .unset, .unset] [(.ref OE), (.ref a284), (.ref a338), (.ref a316), (.ref a316)]))
      refine W.ldcS w361 rfl (ow_69 hw) (own_sA hw) (List.mem_of_getElem? (i := 3) rfl) (vs := []) (z := (0 : Int32)) ⟨by decide, by decide⟩ (by decide) (by decide) od_0_468 (pc' := 470) rfl (n := 0) (by decide) (by decide) (by decide) (by decide) fun T364 h365 a366 a367 k368 w369 K370 E371 F372 F373 V374 Q375 => ?_
      have ne376 : a3 ≠ a366 := (Q375 a3 (memA (memS (memA (memS (memS mem0)))))).1
      have ne377 : a3 ≠ a367 := (Q375 a3 (memA (memS (memA (memS (memS mem0)))))).2
      have ne378 : a73 ≠ a366 := (Q375 a73 (memA (memS (memA (memS mem0))))).1
      have ne379 : a73 ≠ a367 := (Q375 a73 (memA (memS (memA (memS mem0))))).2
      have ne380 : a284 ≠ a366 := (Q375 a284 (memA (memS (memA mem0)))).1
      have ne381 : a284 ≠ a367 := (Q375 a284 (memA (memS (memA mem0)))).2
      have ne382 : a316 ≠ a366 := (Q375 a316 (memA mem0)).1
      have ne383 : a316 ≠ a367 := (Q375 a316 (memA mem0)).2
      have F384 : Str8 Z h365 a366 a367 [] := ⟨E371, F372, F373, ⟨_, V374⟩, by decide, by decide⟩
      refine W.ldcS w369 rfl (ow_70 hw) (own_sA hw) (List.mem_of_getElem? (i := 4) rfl) (vs := [(.int (106 : Int32)), (.int (97 : Int32)), (.int (114 : Int32))]) (z := (3 : Int32)) ⟨by decide, by decide⟩ (by decide) (by decide) od_0_470 (pc' := 472) rfl (n := 12) (by decide) (by decide) (by decide) (by decide) fun T385 h386 a387 a388 k389 w390 K391 E392 F393 F394 V395 Q396 => ?_
      have ne397 : a3 ≠ a387 := (Q396 a3 (memA (memS (memA (memS (memS mem0)))))).1
      have ne398 : a3 ≠ a388 := (Q396 a3 (memA (memS (memA (memS (memS mem0)))))).2
      have ne399 : a73 ≠ a387 := (Q396 a73 (memA (memS (memA (memS mem0))))).1
      have ne400 : a73 ≠ a388 := (Q396 a73 (memA (memS (memA (memS mem0))))).2
      have ne401 : a284 ≠ a387 := (Q396 a284 (memA (memS (memA mem0)))).1
      have ne402 : a284 ≠ a388 := (Q396 a284 (memA (memS (memA mem0)))).2
      have ne403 : a316 ≠ a387 := (Q396 a316 (memA mem0)).1
      have ne404 : a316 ≠ a388 := (Q396 a316 (memA mem0)).2
      have F405 : Str8 Z h386 a387 a388 [(106 : Int32), (97 : Int32), (114 : Int32)] := ⟨E392, F393, F394, ⟨_, V395⟩, by decide, by decide⟩
      have f406 := (((E320.keep K342).keep K370).keep K391)
      have f407 := (((F331.keep K342 nin0).keep K370 nin0).keep K391 nin0)
      have f408 := (((F332.keep K342 nin0).keep K370 nin0).keep K391 nin0)
      have f409 := (((F333.keep K342 nin0).keep K370 nin0).keep K391 nin0)
      have f410 := (((F334.keep K342 nin0).keep K370 nin0).keep K391 nin0)
      have f411 := (((F335.keep K342 nin0).keep K370 nin0).keep K391 nin0)
      refine W.callI w390 (ow_71 hw) (ow_72 hw) (ow_73 hw) rfl (by decide) opd_30 (Ctr.pay (c_vinit hw f406 f407 f408 f409 f410 f411 w390.old) (own_ew hw) (ow_73 hw) (ow_32 hw) (kf := 3) (kl := 41) (by decide) (by decide)) (mC (memA mem0) mN) od_0_472 (pc' := 475) rfl rfl rfl (rest := [(.ref a316)]) rfl (Wd := 1) rfl (by decide) (by decide) (by decide) (by decide) fun v414 T412 h413 M415 w416 q417 => ?_
      obtain ⟨rfl, rfl, K418, E419, F420, F421, F422, F423, F424⟩ := q417
      show Go Z _ _ _ κ _ (T412.setTop (mkF (km κ) 475 #[.val (.int p0), .val (.int p1), .val (.int p2), .val (.int p3), .val (.int z0), .val (.int z1), .val (.int z2), .val (.int z3), .val (.int z4), .val (.int z5), .val (.int y68), .val (.int y81), .val (.int y94), .val (.int y107), .val (.ref a3), .val (.ref a73), .val (.ref a284), .unset, .unset, .unset, .unset] [(.ref a316)]))
      refine W.astore w416 od_0_475 (pc' := 477) rfl (Ls' := #[.val (.int p0), .val (.int p1), .val (.int p2), .val (.int p3), .val (.int z0), .val (.int z1), .val (.int z2), .val (.int z3), .val (.int z4), .val (.int z5), .val (.int y68), .val (.int y81), .val (.int y94), .val (.int y107), .val (.ref a3), .val (.ref a73), .val (.ref a284), .val (.ref a316), .unset, .unset, .unset]) rfl rfl ?_
      refine W.aload w416 od_0_477 (pc' := 479) rfl rfl rfl ?_
      have f425 := (((((f322.keep K318).keep K342).keep K370).keep K391).keep K418)
      have f426 := (((((f325.keep K318).keep K342).keep K370).keep K391).keep K418)
      have f427 := (((((((((((((((((((((((((F_e0.keep K6 nin0).keep K14 (ninS ne9 nin0)).keep K20 (ninS ne9 nin0)).keep K26 (ninS ne9 nin0)).keep K32 (ninS ne9 nin0)).keep K38 (ninS ne9 nin0)).keep K44 (ninS ne9 nin0)).keep K50 (ninS ne9 nin0)).keep K56 (ninS ne9 nin0)).keep K62 (ninS ne9 nin0)).keep K68 (ninS ne9 nin0)).keep K76 nin0).keep K86 (ninS ne80 nin0)).keep K92 (ninS ne80 nin0)).keep K98 (ninS ne80 nin0)).keep K104 (ninS ne80 nin0)).keep K110 (ninS ne80 nin0)).keep K116 (ninS ne80 nin0)).keep K286 nin0).keep K306 (ninS ne292 nin0)).keep K318 nin0).keep K342 nin0).keep K370 nin0).keep K391 nin0).keep K418 (ninS ne326 nin0))
      refine W.callV w416 (ow_85 hw) (ow_86 hw) (nfSel (ow_88 hw)) (ow_88 hw) (ow_87 hw) (by decide) opd_24 E419 (Ctr.pay (c_fv0 hw E419 f425 F422 F421 f426 f427 w416.old) (own_ew hw) (ow_89 hw) (ow_32 hw) (kf := 3) (kl := 3086) (by decide) (by decide)) mN od_0_479 (pc' := 482) rfl rfl rfl (rest := []) rfl (Wd := 0) rfl (by decide) (by decide) (by decide) (by decide) fun v430 T428 h429 M431 w432 q433 => ?_
      obtain ⟨rfl, rfl, K434⟩ := q433
      show Go Z _ _ _ κ _ (T428.setTop (mkF (km κ) 482 #[.val (.int p0), .val (.int p1), .val (.int p2), .val (.int p3), .val (.int z0), .val (.int z1), .val (.int z2), .val (.int z3), .val (.int z4), .val (.int z5), .val (.int y68), .val (.int y81), .val (.int y94), .val (.int y107), .val (.ref a3), .val (.ref a73), .val (.ref a284), .val (.ref a316), .unset, .unset, .unset] [(.ref a284)]))
      refine W.aload w432 od_0_482 (pc' := 484) rfl rfl rfl ?_
      have f441 := (f426.keep K434)
      refine W.callV w432 (ow_294 hw) (ow_295 hw) (nfSel (ow_297 hw)) (ow_297 hw) (ow_296 hw) (by decide) opd_31 f441 (Ctr.pay (c_eqs hw w432.old) (own_ew hw) (ow_298 hw) (ow_3 hw) (kf := 1) (kl := 14) (by decide) (by decide)) mN od_0_484 (pc' := 487) rfl rfl rfl (rest := []) rfl (Wd := 0) rfl (by decide) (by decide) (by decide) (by decide) fun v437 T435 h436 M438 w439 q440 => ?_
      obtain ⟨rfl, rfl, e442⟩ := q440
      obtain rfl := e442.symm
      show Go Z _ _ _ κ _ (T435.setTop (mkF (km κ) 487 #[.val (.int p0), .val (.int p1), .val (.int p2), .val (.int p3), .val (.int z0), .val (.int z1), .val (.int z2), .val (.int z3), .val (.int z4), .val (.int z5), .val (.int y68), .val (.int y81), .val (.int y94), .val (.int y107), .val (.ref a3), .val (.ref a73), .val (.ref a284), .val (.ref a316), .unset, .unset, .unset] [(.int (1 : Int32))]))
      exact W.retN w439 (t := .boolean) (z' := (1 : Int32)) rfl rfl (by simp) od_0_487 (M' := []) mN (by decide) (by decide) rfl
  · refine W.ifNo w115 od_0_239 (pc' := 242) rfl ((if0 _ _).trans (feq hc119).1) ?_
    have f451 := (((((((f79.keep K76).keep K86).keep K92).keep K98).keep K104).keep K110).keep K116)
    have f452 := (((((((V70.keep K76 nin0).keep K86 (ninS ne81 nin0)).keep K92 (ninS ne81 nin0)).keep K98 (ninS ne81 nin0)).keep K104 (ninS ne81 nin0)).keep K110 (ninS ne81 nin0)).keep K116 (ninS ne81 nin0))
    refine W.newO w115 (ow_1 hw) (ow_2 hw) (ow_3 hw) od_0_242 (pc' := 245) rfl (by decide) (by decide) fun T443 h444 a445 w446 K447 B448 E449 D450 => ?_
    have ne453 : OE ≠ a445 := neL f451.lt B448
    have ne454 : a3 ≠ a445 := neL f452.lt B448
    have ne455 : a73 ≠ a445 := neL V118.lt B448
    have F456 : Fld Z h444 a445 "java/lang/String" "coder" "B" (.int (0 : Int32)) := D450 (Or.inr (ow_27 hw)) (ty := .byte) (by decide)
    have F457 : Fld Z h444 a445 "java/lang/String" "value" "[B" .null := D450 (Or.inr (ow_29 hw)) (ty := (.array .byte)) (by decide)
    refine Jvm.Own.W.dup w446 od_0_245 rfl rfl ?_
    refine W.aload w446 od_0_246 (pc' := 248) rfl rfl rfl ?_
    have f458 := (f452.keep K447 nin0)
    have f459 := (f451.keep K447)
    have f460 := (V118.keep K447 nin0)
    refine W.callI w446 (ow_4 hw) (ow_5 hw) (ow_6 hw) rfl (by decide) opd_29 (own_init hw w446.old (w446.mut mem0).1 E449 F457 F456 (cs := [z0, z1, z6, z7, z8, z9, z10, z11, z12, z13]) f458 (n := 10) rfl rfl (by decide) (by decide) (faS hz0 (faS hz1 (faS hz6 (faS hz7 (faS hz8 (faS hz9 (faS hz10 (faS hz11 (faS hz12 (faS hz13 fa0))))))))))) (mC mem0 mN) od_0_248 (pc' := 251) rfl rfl rfl (rest := [(.ref a445)]) rfl (Wd := 1) rfl (by decide) (by decide) (by decide) (by decide) fun v463 T461 h462 M464 w465 q466 => ?_
    obtain ⟨rfl, rfl, K467, t468, B469, F470⟩ := q466
    have ne471 : OE ≠ t468 := neL f459.lt B469
    have ne472 : a3 ≠ t468 := neL f458.lt B469
    have ne473 : a73 ≠ t468 := neL f460.lt B469
    have ne474 : a445 ≠ t468 := neL E449.lt B469
    show Go Z _ _ _ κ _ (T461.setTop (mkF (km κ) 251 #[.val (.int p0), .val (.int p1), .val (.int p2), .val (.int p3), .val (.int z0), .val (.int z1), .val (.int z2), .val (.int z3), .val (.int z4), .val (.int z5), .val (.int y68), .val (.int y81), .val (.int y94), .val (.int y107), .val (.ref a3), .val (.ref a73), .unset, .unset, .unset, .unset, .unset] [(.ref a445)]))
    refine W.astore w465 od_0_251 (pc' := 253) rfl (Ls' := #[.val (.int p0), .val (.int p1), .val (.int p2), .val (.int p3), .val (.int z0), .val (.int z1), .val (.int z2), .val (.int z3), .val (.int z4), .val (.int z5), .val (.int y68), .val (.int y81), .val (.int y94), .val (.int y107), .val (.ref a3), .val (.ref a73), .val (.ref a445), .unset, .unset, .unset, .unset]) rfl rfl ?_
    have f483 := (f459.keep K467)
    have f484 := (f458.keep K467 (ninS ne454 nin0))
    have f485 := (f460.keep K467 (ninS ne455 nin0))
    have f486 := (E449.keep K467)
    refine W.newO w465 (ow_1 hw) (ow_2 hw) (ow_3 hw) od_0_253 (pc' := 256) rfl (by decide) (by decide) fun T475 h476 a477 w478 K479 B480 E481 D482 => ?_
    have ne487 : OE ≠ a477 := neL f483.lt B480
    have ne488 : a3 ≠ a477 := neL f484.lt B480
    have ne489 : a73 ≠ a477 := neL f485.lt B480
    have ne490 : a445 ≠ a477 := neL f486.lt B480
    have ne491 : t468 ≠ a477 := neL F470.lt2 B480
    have F492 : Fld Z h476 a477 "java/lang/String" "coder" "B" (.int (0 : Int32)) := D482 (Or.inr (ow_27 hw)) (ty := .byte) (by decide)
    have F493 : Fld Z h476 a477 "java/lang/String" "value" "[B" .null := D482 (Or.inr (ow_29 hw)) (ty := (.array .byte)) (by decide)
    refine Jvm.Own.W.dup w478 od_0_256 rfl rfl ?_
    refine W.iconst w478 od_0_257 (pc' := 258) rfl (z := (2 : Int32)) rfl ?_
    have f502 := (f483.keep K479)
    have f503 := (f484.keep K479 nin0)
    have f504 := (f485.keep K479 nin0)
    have f505 := (f486.keep K479)
    have f506 := (F470.keep K479 nin0 nin0)
    refine W.newP w478 (ty := .char) rfl (ow_0 hw) od_0_258 (pc' := 260) rfl (by decide) (cap := 2) (by decide) (by decide) (by decide) (by decide) fun T494 h495 a496 k497 w498 K499 B500 V501 => ?_
    have ne507 : OE ≠ a496 := neL f502.lt B500
    have ne508 : a3 ≠ a496 := neL f503.lt B500
    have ne509 : a73 ≠ a496 := neL f504.lt B500
    have ne510 : a445 ≠ a496 := neL f505.lt B500
    have ne511 : t468 ≠ a496 := neL f506.lt2 B500
    have ne512 : a477 ≠ a496 := neL E481.lt B500
    have V513 : Arv Z h495 a496 k497 .char (2 : Int32) [(.int (0 : Int32)), (.int (0 : Int32))] (.int (0 : Int32)) := V501
    refine Jvm.Own.W.dup w498 od_0_260 rfl rfl ?_
    refine W.iconst w498 od_0_261 (pc' := 262) rfl (z := (0 : Int32)) rfl ?_
    refine W.iload w498 od_0_262 (pc' := 264) rfl rfl ?_
    refine W.stC w498 (x' := z2) (nar_lat hz2) V513 (i := 0) (by decide) ⟨by decide, by decide⟩ (Nat.le_of_ble_eq_true rfl) mem0 od_0_264 (pc' := 265) rfl fun T514 h515 w516 K517 V518 => ?_
    have V519 : Arv Z h515 a496 k497 .char (2 : Int32) [(.int z2), (.int (0 : Int32))] (.int (0 : Int32)) := V518
    refine Jvm.Own.W.dup w516 od_0_265 rfl rfl ?_
    refine W.iconst w516 od_0_266 (pc' := 267) rfl (z := (1 : Int32)) rfl ?_
    refine W.iload w516 od_0_267 (pc' := 269) rfl rfl ?_
    refine W.stC w516 (x' := z3) (nar_lat hz3) V519 (i := 1) (by decide) ⟨by decide, by decide⟩ (Nat.le_of_ble_eq_true rfl) mem0 od_0_269 (pc' := 270) rfl fun T520 h521 w522 K523 V524 => ?_
    have V525 : Arv Z h521 a496 k497 .char (2 : Int32) [(.int z2), (.int z3)] (.int (0 : Int32)) := V524
    have f526 := (((E481.keep K499).keep K517).keep K523)
    have f527 := (((F493.keep K499 nin0).keep K517 (ninS ne512 nin0)).keep K523 (ninS ne512 nin0))
    have f528 := (((F492.keep K499 nin0).keep K517 (ninS ne512 nin0)).keep K523 (ninS ne512 nin0))
    have f529 := (((f502.keep K499).keep K517).keep K523)
    have f530 := (((f503.keep K499 nin0).keep K517 (ninS ne508 nin0)).keep K523 (ninS ne508 nin0))
    have f531 := (((f504.keep K499 nin0).keep K517 (ninS ne509 nin0)).keep K523 (ninS ne509 nin0))
    have f532 := (((f505.keep K499).keep K517).keep K523)
    have f533 := (((f506.keep K499 nin0 nin0).keep K517 (ninS ne510 nin0) (ninS ne511 nin0)).keep K523 (ninS ne510 nin0) (ninS ne511 nin0))
    refine W.callI w522 (ow_4 hw) (ow_5 hw) (ow_6 hw) rfl (by decide) opd_29 (own_init hw w522.old (w522.mut (memS mem0)).1 f526 f527 f528 (cs := [z2, z3]) V525 (n := 2) rfl rfl (by decide) (by decide) (faS hz2 (faS hz3 fa0))) (mC (memS mem0) mN) od_0_270 (pc' := 273) rfl rfl rfl (rest := [(.ref a477)]) rfl (Wd := 1) rfl (by decide) (by decide) (by decide) (by decide) fun v536 T534 h535 M537 w538 q539 => ?_
    obtain ⟨rfl, rfl, K540, t541, B542, F543⟩ := q539
    have ne544 : OE ≠ t541 := neL f529.lt B542
    have ne545 : a3 ≠ t541 := neL f530.lt B542
    have ne546 : a73 ≠ t541 := neL f531.lt B542
    have ne547 : a445 ≠ t541 := neL f532.lt B542
    have ne548 : t468 ≠ t541 := neL f533.lt2 B542
    have ne549 : a477 ≠ t541 := neL f526.lt B542
    have ne550 : a496 ≠ t541 := neL V525.lt B542
    show Go Z _ _ _ κ _ (T534.setTop (mkF (km κ) 273 #[.val (.int p0), .val (.int p1), .val (.int p2), .val (.int p3), .val (.int z0), .val (.int z1), .val (.int z2), .val (.int z3), .val (.int z4), .val (.int z5), .val (.int y68), .val (.int y81), .val (.int y94), .val (.int y107), .val (.ref a3), .val (.ref a73), .val (.ref a445), .unset, .unset, .unset, .unset] [(.ref a477)]))
    refine W.astore w538 od_0_273 (pc' := 275) rfl (Ls' := #[.val (.int p0), .val (.int p1), .val (.int p2), .val (.int p3), .val (.int z0), .val (.int z1), .val (.int z2), .val (.int z3), .val (.int z4), .val (.int z5), .val (.int y68), .val (.int y81), .val (.int y94), .val (.int y107), .val (.ref a3), .val (.ref a73), .val (.ref a445), .val (.ref a477), .unset, .unset, .unset]) rfl rfl ?_
    have f559 := (f529.keep K540)
    have f560 := (f530.keep K540 (ninS ne488 nin0))
    have f561 := (f531.keep K540 (ninS ne489 nin0))
    have f562 := (f532.keep K540)
    have f563 := (f533.keep K540 (ninS ne490 nin0) (ninS ne491 nin0))
    have f564 := (f526.keep K540)
    have f565 := (V525.keep K540 (ninS (Ne.symm ne512) nin0))
    refine W.newO w538 (ow_1 hw) (ow_2 hw) (ow_3 hw) od_0_275 (pc' := 278) rfl (by decide) (by decide) fun T551 h552 a553 w554 K555 B556 E557 D558 => ?_
    have ne566 : OE ≠ a553 := neL f559.lt B556
    have ne567 : a3 ≠ a553 := neL f560.lt B556
    have ne568 : a73 ≠ a553 := neL f561.lt B556
    have ne569 : a445 ≠ a553 := neL f562.lt B556
    have ne570 : t468 ≠ a553 := neL f563.lt2 B556
    have ne571 : a477 ≠ a553 := neL f564.lt B556
    have ne572 : a496 ≠ a553 := neL f565.lt B556
    have ne573 : t541 ≠ a553 := neL F543.lt2 B556
    have F574 : Fld Z h552 a553 "java/lang/String" "coder" "B" (.int (0 : Int32)) := D558 (Or.inr (ow_27 hw)) (ty := .byte) (by decide)
    have F575 : Fld Z h552 a553 "java/lang/String" "value" "[B" .null := D558 (Or.inr (ow_29 hw)) (ty := (.array .byte)) (by decide)
    refine Jvm.Own.W.dup w554 od_0_278 rfl rfl ?_
    refine W.iconst w554 od_0_279 (pc' := 280) rfl (z := (2 : Int32)) rfl ?_
    have f584 := (f559.keep K555)
    have f585 := (f560.keep K555 nin0)
    have f586 := (f561.keep K555 nin0)
    have f587 := (f562.keep K555)
    have f588 := (f563.keep K555 nin0 nin0)
    have f589 := (f564.keep K555)
    have f590 := (f565.keep K555 nin0)
    have f591 := (F543.keep K555 nin0 nin0)
    refine W.newP w554 (ty := .char) rfl (ow_0 hw) od_0_280 (pc' := 282) rfl (by decide) (cap := 2) (by decide) (by decide) (by decide) (by decide) fun T576 h577 a578 k579 w580 K581 B582 V583 => ?_
    have ne592 : OE ≠ a578 := neL f584.lt B582
    have ne593 : a3 ≠ a578 := neL f585.lt B582
    have ne594 : a73 ≠ a578 := neL f586.lt B582
    have ne595 : a445 ≠ a578 := neL f587.lt B582
    have ne596 : t468 ≠ a578 := neL f588.lt2 B582
    have ne597 : a477 ≠ a578 := neL f589.lt B582
    have ne598 : a496 ≠ a578 := neL f590.lt B582
    have ne599 : t541 ≠ a578 := neL f591.lt2 B582
    have ne600 : a553 ≠ a578 := neL E557.lt B582
    have V601 : Arv Z h577 a578 k579 .char (2 : Int32) [(.int (0 : Int32)), (.int (0 : Int32))] (.int (0 : Int32)) := V583
    refine Jvm.Own.W.dup w580 od_0_282 rfl rfl ?_
    refine W.iconst w580 od_0_283 (pc' := 284) rfl (z := (0 : Int32)) rfl ?_
    refine W.iload w580 od_0_284 (pc' := 286) rfl rfl ?_
    refine W.stC w580 (x' := z4) (nar_lat hz4) V601 (i := 0) (by decide) ⟨by decide, by decide⟩ (Nat.le_of_ble_eq_true rfl) mem0 od_0_286 (pc' := 287) rfl fun T602 h603 w604 K605 V606 => ?_
    have V607 : Arv Z h603 a578 k579 .char (2 : Int32) [(.int z4), (.int (0 : Int32))] (.int (0 : Int32)) := V606
    refine Jvm.Own.W.dup w604 od_0_287 rfl rfl ?_
    refine W.iconst w604 od_0_288 (pc' := 289) rfl (z := (1 : Int32)) rfl ?_
    refine W.iload w604 od_0_289 (pc' := 291) rfl rfl ?_
    refine W.stC w604 (x' := z5) (nar_lat hz5) V607 (i := 1) (by decide) ⟨by decide, by decide⟩ (Nat.le_of_ble_eq_true rfl) mem0 od_0_291 (pc' := 292) rfl fun T608 h609 w610 K611 V612 => ?_
    have V613 : Arv Z h609 a578 k579 .char (2 : Int32) [(.int z4), (.int z5)] (.int (0 : Int32)) := V612
    have f614 := (((E557.keep K581).keep K605).keep K611)
    have f615 := (((F575.keep K581 nin0).keep K605 (ninS ne600 nin0)).keep K611 (ninS ne600 nin0))
    have f616 := (((F574.keep K581 nin0).keep K605 (ninS ne600 nin0)).keep K611 (ninS ne600 nin0))
    have f617 := (((f584.keep K581).keep K605).keep K611)
    have f618 := (((f585.keep K581 nin0).keep K605 (ninS ne593 nin0)).keep K611 (ninS ne593 nin0))
    have f619 := (((f586.keep K581 nin0).keep K605 (ninS ne594 nin0)).keep K611 (ninS ne594 nin0))
    have f620 := (((f587.keep K581).keep K605).keep K611)
    have f621 := (((f588.keep K581 nin0 nin0).keep K605 (ninS ne595 nin0) (ninS ne596 nin0)).keep K611 (ninS ne595 nin0) (ninS ne596 nin0))
    have f622 := (((f589.keep K581).keep K605).keep K611)
    have f623 := (((f590.keep K581 nin0).keep K605 (ninS ne598 nin0)).keep K611 (ninS ne598 nin0))
    have f624 := (((f591.keep K581 nin0 nin0).keep K605 (ninS ne597 nin0) (ninS ne599 nin0)).keep K611 (ninS ne597 nin0) (ninS ne599 nin0))
    refine W.callI w610 (ow_4 hw) (ow_5 hw) (ow_6 hw) rfl (by decide) opd_29 (own_init hw w610.old (w610.mut (memS mem0)).1 f614 f615 f616 (cs := [z4, z5]) V613 (n := 2) rfl rfl (by decide) (by decide) (faS hz4 (faS hz5 fa0))) (mC (memS mem0) mN) od_0_292 (pc' := 295) rfl rfl rfl (rest := [(.ref a553)]) rfl (Wd := 1) rfl (by decide) (by decide) (by decide) (by decide) fun v627 T625 h626 M628 w629 q630 => ?_
    obtain ⟨rfl, rfl, K631, t632, B633, F634⟩ := q630
    have ne635 : OE ≠ t632 := neL f617.lt B633
    have ne636 : a3 ≠ t632 := neL f618.lt B633
    have ne637 : a73 ≠ t632 := neL f619.lt B633
    have ne638 : a445 ≠ t632 := neL f620.lt B633
    have ne639 : t468 ≠ t632 := neL f621.lt2 B633
    have ne640 : a477 ≠ t632 := neL f622.lt B633
    have ne641 : a496 ≠ t632 := neL f623.lt B633
    have ne642 : t541 ≠ t632 := neL f624.lt2 B633
    have ne643 : a553 ≠ t632 := neL f614.lt B633
    have ne644 : a578 ≠ t632 := neL V613.lt B633
    show Go Z _ _ _ κ _ (T625.setTop (mkF (km κ) 295 #[.val (.int p0), .val (.int p1), .val (.int p2), .val (.int p3), .val (.int z0), .val (.int z1), .val (.int z2), .val (.int z3), .val (.int z4), .val (.int z5), .val (.int y68), .val (.int y81), .val (.int y94), .val (.int y107), .val (.ref a3), .val (.ref a73), .val (.ref a445), .val (.ref a477), .unset, .unset, .unset] [(.ref a553)]))
    refine W.astore w629 od_0_295 (pc' := 297) rfl (Ls' := #[.val (.int p0), .val (.int p1), .val (.int p2), .val (.int p3), .val (.int z0), .val (.int z1), .val (.int z2), .val (.int z3), .val (.int z4), .val (.int z5), .val (.int y68), .val (.int y81), .val (.int y94), .val (.int y107), .val (.ref a3), .val (.ref a73), .val (.ref a445), .val (.ref a477), .val (.ref a553), .unset, .unset]) rfl rfl ?_
    have f653 := (f617.keep K631)
    have f654 := (f618.keep K631 (ninS ne567 nin0))
    have f655 := (f619.keep K631 (ninS ne568 nin0))
    have f656 := (f620.keep K631)
    have f657 := (f621.keep K631 (ninS ne569 nin0) (ninS ne570 nin0))
    have f658 := (f622.keep K631)
    have f659 := (f623.keep K631 (ninS ne572 nin0))
    have f660 := (f624.keep K631 (ninS ne571 nin0) (ninS ne573 nin0))
    have f661 := (f614.keep K631)
    have f662 := (V613.keep K631 (ninS (Ne.symm ne600) nin0))
    refine W.newO w629 (ow_30 hw) (ow_31 hw) (ow_32 hw) od_0_297 (pc' := 300) rfl (by decide) (by decide) fun T645 h646 a647 w648 K649 B650 E651 D652 => ?_
    have ne663 : OE ≠ a647 := neL f653.lt B650
    have ne664 : a3 ≠ a647 := neL f654.lt B650
    have ne665 : a73 ≠ a647 := neL f655.lt B650
    have ne666 : a445 ≠ a647 := neL f656.lt B650
    have ne667 : t468 ≠ a647 := neL f657.lt2 B650
    have ne668 : a477 ≠ a647 := neL f658.lt B650
    have ne669 : a496 ≠ a647 := neL f659.lt B650
    have ne670 : t541 ≠ a647 := neL f660.lt2 B650
    have ne671 : a553 ≠ a647 := neL f661.lt B650
    have ne672 : a578 ≠ a647 := neL f662.lt B650
    have ne673 : t632 ≠ a647 := neL F634.lt2 B650
    have F674 : Fld Z h646 a647 "com/example/sedgeholt/sedgeholt/layout/VersionFile" "artifactId" "Ljava/lang/String;" .null := D652 (Or.inr (ow_76 hw)) (ty := (.object "java/lang/String")) (by decide)
    have F675 : Fld Z h646 a647 "com/example/sedgeholt/sedgeholt/layout/VersionFile" "version" "Ljava/lang/String;" .null := D652 (Or.inr (ow_78 hw)) (ty := (.object "java/lang/String")) (by decide)
    have F676 : Fld Z h646 a647 "com/example/sedgeholt/sedgeholt/layout/VersionFile" "build" "Ljava/util/Optional;" .null := D652 (Or.inr (ow_80 hw)) (ty := (.object "java/util/Optional")) (by decide)
    have F677 : Fld Z h646 a647 "com/example/sedgeholt/sedgeholt/layout/VersionFile" "classifier" "Ljava/lang/String;" .null := D652 (Or.inr (ow_82 hw)) (ty := (.object "java/lang/String")) (by decide)
    have F678 : Fld Z h646 a647 "com/example/sedgeholt/sedgeholt/layout/VersionFile" "extension" "Ljava/lang/String;" .null := D652 (Or.inr (ow_84 hw)) (ty := (.object "java/lang/String")) (by decide)
    refine Jvm.Own.W.dup w648 od_0_300 rfl rfl ?_
    refine W.ldcS w648 rfl (ow_33 hw) (own_sA hw) (List.mem_of_getElem? (i := 2) rfl) (vs := [(.int (97 : Int32))]) (z := (1 : Int32)) ⟨by decide, by decide⟩ (by decide) (by decide) od_0_301 (pc' := 303) rfl (n := 4) (by decide) (by decide) (by decide) (by decide) fun T679 h680 a681 a682 k683 w684 K685 E686 F687 F688 V689 Q690 => ?_
    have ne691 : a3 ≠ a681 := (Q690 a3 (memS (memA (memS (memS (memA (memS (memS (memA (memS (memS mem0))))))))))).1
    have ne692 : a3 ≠ a682 := (Q690 a3 (memS (memA (memS (memS (memA (memS (memS (memA (memS (memS mem0))))))))))).2
    have ne693 : a73 ≠ a681 := (Q690 a73 (memS (memA (memS (memS (memA (memS (memS (memA (memS mem0)))))))))).1
    have ne694 : a73 ≠ a682 := (Q690 a73 (memS (memA (memS (memS (memA (memS (memS (memA (memS mem0)))))))))).2
    have ne695 : a445 ≠ a681 := (Q690 a445 (memS (memA (memS (memS (memA (memS (memS (memA mem0))))))))).1
    have ne696 : a445 ≠ a682 := (Q690 a445 (memS (memA (memS (memS (memA (memS (memS (memA mem0))))))))).2
    have ne697 : a477 ≠ a681 := (Q690 a477 (memS (memA (memS (memS (memA (memS mem0))))))).1
    have ne698 : a477 ≠ a682 := (Q690 a477 (memS (memA (memS (memS (memA (memS mem0))))))).2
    have ne699 : a496 ≠ a681 := (Q690 a496 (memS (memA (memS (memS (memA mem0)))))).1
    have ne700 : a496 ≠ a682 := (Q690 a496 (memS (memA (memS (memS (memA mem0)))))).2
    have ne701 : a553 ≠ a681 := (Q690 a553 (memS (memA (memS mem0)))).1
    have ne702 : a553 ≠ a682 := (Q690 a553 (memS (memA (memS mem0)))).2
    have ne703 : a578 ≠ a681 := (Q690 a578 (memS (memA mem0))).1
    have ne704 : a578 ≠ a682 := (Q690 a578 (memS (memA mem0))).2
    have ne705 : a647 ≠ a681 := (Q690 a647 mem0).1
    have ne706 : a647 ≠ a682 := (Q690 a647 mem0).2
    have F707 : Str8 Z h680 a681 a682 [(97 : Int32)] := ⟨E686, F687, F688, ⟨_, V689⟩, by decide, by decide⟩
    refine W.aload w684 od_0_303 (pc' := 305) rfl rfl rfl ?_
    have f716 := ((f653.keep K649).keep K685)
    have f717 := ((f654.keep K649 nin0).keep K685 nin0)
    have f718 := ((f655.keep K649 nin0).keep K685 nin0)
    have f719 := ((f656.keep K649).keep K685)
    have f720 := ((f657.keep K649 nin0 nin0).keep K685 nin0 nin0)
    have f721 := ((f658.keep K649).keep K685)
    have f722 := ((f659.keep K649 nin0).keep K685 nin0)
    have f723 := ((f660.keep K649 nin0 nin0).keep K685 nin0 nin0)
    have f724 := ((f661.keep K649).keep K685)
    have f725 := ((f662.keep K649 nin0).keep K685 nin0)
    have f726 := ((F634.keep K649 nin0 nin0).keep K685 nin0 nin0)
    have f727 := (E651.keep K685)
    refine W.newO w684 (ow_36 hw) (ow_37 hw) (ow_38 hw) od_0_305 (pc' := 308) rfl (by decide) (by decide) fun T708 h709 a710 w711 K712 B713 E714 D715 => ?_
    have ne728 : OE ≠ a710 := neL f716.lt B713
    have ne729 : a3 ≠ a710 := neL f717.lt B713
    have ne730 : a73 ≠ a710 := neL f718.lt B713
    have ne731 : a445 ≠ a710 := neL f719.lt B713
    have ne732 : t468 ≠ a710 := neL f720.lt2 B713
    have ne733 : a477 ≠ a710 := neL f721.lt B713
    have ne734 : a496 ≠ a710 := neL f722.lt B713
    have ne735 : t541 ≠ a710 := neL f723.lt2 B713
    have ne736 : a553 ≠ a710 := neL f724.lt B713
    have ne737 : a578 ≠ a710 := neL f725.lt B713
    have ne738 : t632 ≠ a710 := neL f726.lt2 B713
    have ne739 : a647 ≠ a710 := neL f727.lt B713
    have ne740 : a681 ≠ a710 := neL E686.lt B713
    have ne741 : a682 ≠ a710 := neL V689.lt B713
    have F742 : Fld Z h709 a710 "com/example/sedgeholt/sedgeholt/layout/VersionFile$Build" "timestamp" "Ljava/lang/String;" .null := D715 (Or.inr (ow_49 hw)) (ty := (.object "java/lang/String")) (by decide)
    have F743 : Fld Z h709 a710 "com/example/sedgeholt/sedgeholt/layout/VersionFile$Build" "number" "Ljava/lang/String;" .null := D715 (Or.inr (ow_51 hw)) (ty := (.object "java/lang/String")) (by decide)
    refine Jvm.Own.W.dup w711 od_0_308 rfl rfl ?_
    refine W.aload w711 od_0_309 (pc' := 311) rfl rfl rfl ?_
    refine W.aload w711 od_0_311 (pc' := 313) rfl rfl rfl ?_
    refine W.callI w711 (ow_39 hw) (ow_40 hw) (ow_41 hw) rfl (by decide) opd_32 (Ctr.pay (c_binit hw E714 F742 F743 w711.old) (own_ew hw) (ow_41 hw) (ow_38 hw) (kf := 3) (kl := 38) (by decide) (by decide)) (mC mem0 mN) od_0_313 (pc' := 316) rfl rfl rfl (rest := [(.ref a710), (.ref a445), (.ref a681), (.ref a647), (.ref a647)]) rfl (Wd := 5) rfl (by decide) (by decide) (by decide) (by decide) fun v746 T744 h745 M747 w748 q749 => ?_
    obtain ⟨rfl, rfl, K750, E751, F752, F753⟩ := q749
    show Go Z _ _ _ κ _ (T744.setTop (mkF (km κ) 316 #[.val (.int p0), .val (.int p1), .val (.int p2), .val (.int p3), .val (.int z0), .val (.int z1), .val (.int z2), .val (.int z3), .val (.int z4), .val (.int z5), .val (.int y68), .val (.int y81), .val (.int y94), .val (.int y107), .val (.ref a3), .val (.ref a73), .val (.ref a445), .val (.ref a477), .val (.ref a553), .unset, .unset] [(.ref a710), (.ref a445), (.ref a681), (.ref a647), (.ref a647)]))
    have f754 := ((f716.keep K712).keep K750)
    have f755 := ((f717.keep K712 nin0).keep K750 (ninS ne729 nin0))
    have f756 := ((f718.keep K712 nin0).keep K750 (ninS ne730 nin0))
    have f757 := ((f719.keep K712).keep K750)
    have f758 := ((f720.keep K712 nin0 nin0).keep K750 (ninS ne731 nin0) (ninS ne732 nin0))
    have f759 := ((f721.keep K712).keep K750)
    have f760 := ((f722.keep K712 nin0).keep K750 (ninS ne734 nin0))
    have f761 := ((f723.keep K712 nin0 nin0).keep K750 (ninS ne733 nin0) (ninS ne735 nin0))
    have f762 := ((f724.keep K712).keep K750)
    have f763 := ((f725.keep K712 nin0).keep K750 (ninS ne737 nin0))
    have f764 := ((f726.keep K712 nin0 nin0).keep K750 (ninS ne736 nin0) (ninS ne738 nin0))
    have f765 := ((f727.keep K712).keep K750)
    have f766 := ((E686.keep K712).keep K750)
    have f767 := ((V689.keep K712 nin0).keep K750 (ninS ne741 nin0))
    refine W.callS w748 (ow_52 hw) (ow_53 hw) (ow_54 hw) (ow_55 hw) (by decide) opd_26 (Ctr.pay (c_opof hw w748.old) (own_ew hw) (ow_55 hw) (ow_54 hw) (kf := 3) (kl := 38) (by decide) (by decide)) mN od_0_316 (pc' := 319) rfl rfl rfl (rest := [(.ref a445), (.ref a681), (.ref a647), (.ref a647)]) rfl (Wd := 4) rfl (by decide) (by decide) (by decide) (by decide) fun v770 T768 h769 M771 w772 q773 => ?_
    obtain ⟨a774, rfl, rfl, K775, B776, E777, F778⟩ := q773
    have ne779 : OE ≠ a774 := neL f754.lt B776
    have ne780 : a3 ≠ a774 := neL f755.lt B776
    have ne781 : a73 ≠ a774 := neL f756.lt B776
    have ne782 : a445 ≠ a774 := neL f757.lt B776
    have ne783 : t468 ≠ a774 := neL f758.lt2 B776
    have ne784 : a477 ≠ a774 := neL f759.lt B776
    have ne785 : a496 ≠ a774 := neL f760.lt B776
    have ne786 : t541 ≠ a774 := neL f761.lt2 B776
    have ne787 : a553 ≠ a774 := neL f762.lt B776
    have ne788 : a578 ≠ a774 := neL f763.lt B776
    have ne789 : t632 ≠ a774 := neL f764.lt2 B776
    have ne790 : a647 ≠ a774 := neL f765.lt B776
    have ne791 : a681 ≠ a774 := neL f766.lt B776
    have ne792 : a682 ≠ a774 := neL f767.lt B776
    have ne793 : a710 ≠ a774 := neL E751.lt B776
    show Go Z _ _ _ κ _ (T768.setTop (mkF (km κ) 319 #[.val (.int p0), .val (.int p1), .val (.int p2), .val (.int p3), .val (.int z0), .val (.int z1), .val (.int z2), .val (.int z3), .val (.int z4), .val (.int z5), .val (.int y68), .val (.int y81), .val (.int y94), .val (.int y107), .val (.ref a3), .val (.ref a73), .val (.ref a445), .val (.ref a477), .val (.ref a553), .unset, .unset] [(.ref a774), (.ref a445), (.ref a681), (.ref a647), (.ref a647)]))
    refine W.ldcS w772 rfl (ow_69 hw) (own_sA hw) (List.mem_of_getElem? (i := 3) rfl) (vs := []) (z := (0 : Int32)) ⟨by decide, by decide⟩ (by decide) (by decide) od_0_319 (pc' := 321) rfl (n := 0) (by decide) (by decide) (by decide) (by decide) fun T794 h795 a796 a797 k798 w799 K800 E801 F802 F803 V804 Q805 => ?_
    have ne806 : a3 ≠ a796 := (Q805 a3 (memA (memA (memS (memS (memA (memS (memS (memA (memS (memS (memA (memS (memS mem0)))))))))))))).1
    have ne807 : a3 ≠ a797 := (Q805 a3 (memA (memA (memS (memS (memA (memS (memS (memA (memS (memS (memA (memS (memS mem0)))))))))))))).2
    have ne808 : a73 ≠ a796 := (Q805 a73 (memA (memA (memS (memS (memA (memS (memS (memA (memS (memS (memA (memS mem0))))))))))))).1
    have ne809 : a73 ≠ a797 := (Q805 a73 (memA (memA (memS (memS (memA (memS (memS (memA (memS (memS (memA (memS mem0))))))))))))).2
    have ne810 : a445 ≠ a796 := (Q805 a445 (memA (memA (memS (memS (memA (memS (memS (memA (memS (memS (memA mem0)))))))))))).1
    have ne811 : a445 ≠ a797 := (Q805 a445 (memA (memA (memS (memS (memA (memS (memS (memA (memS (memS (memA mem0)))))))))))).2
    have ne812 : a477 ≠ a796 := (Q805 a477 (memA (memA (memS (memS (memA (memS (memS (memA (memS mem0)))))))))).1
    have ne813 : a477 ≠ a797 := (Q805 a477 (memA (memA (memS (memS (memA (memS (memS (memA (memS mem0)))))))))).2
    have ne814 : a496 ≠ a796 := (Q805 a496 (memA (memA (memS (memS (memA (memS (memS (memA mem0))))))))).1
    have ne815 : a496 ≠ a797 := (Q805 a496 (memA (memA (memS (memS (memA (memS (memS (memA mem0))))))))).2
    have ne816 : a553 ≠ a796 := (Q805 a553 (memA (memA (memS (memS (memA (memS mem0))))))).1
    have ne817 : a553 ≠ a797 := (Q805 a553 (memA (memA (memS (memS (memA (memS mem0))))))).2
    have ne818 : a578 ≠ a796 := (Q805 a578 (memA (memA (memS (memS (memA mem0)))))).1
    have ne819 : a578 ≠ a797 := (Q805 a578 (memA (memA (memS (memS (memA mem0)))))).2
    have ne820 : a647 ≠ a796 := (Q805 a647 (memA (memA (memS mem0)))).1
    have ne821 : a647 ≠ a797 := (Q805 a647 (memA (memA (memS mem0)))).2
    have ne822 : a710 ≠ a796 := (Q805 a710 (memA (memA mem0))).1
    have ne823 : a710 ≠ a797 := (Q805 a710 (memA (memA mem0))).2
    have F824 : Str8 Z h795 a796 a797 [] := ⟨E801, F802, F803, ⟨_, V804⟩, by decide, by decide⟩
    refine W.ldcS w799 rfl (ow_70 hw) (own_sA hw) (List.mem_of_getElem? (i := 4) rfl) (vs := [(.int (106 : Int32)), (.int (97 : Int32)), (.int (114 : Int32))]) (z := (3 : Int32)) ⟨by decide, by decide⟩ (by decide) (by decide) od_0_321 (pc' := 323) rfl (n := 12) (by decide) (by decide) (by decide) (by decide) fun T825 h826 a827 a828 k829 w830 K831 E832 F833 F834 V835 Q836 => ?_
    have ne837 : a3 ≠ a827 := (Q836 a3 (memA (memA (memS (memS (memA (memS (memS (memA (memS (memS (memA (memS (memS mem0)))))))))))))).1
    have ne838 : a3 ≠ a828 := (Q836 a3 (memA (memA (memS (memS (memA (memS (memS (memA (memS (memS (memA (memS (memS mem0)))))))))))))).2
    have ne839 : a73 ≠ a827 := (Q836 a73 (memA (memA (memS (memS (memA (memS (memS (memA (memS (memS (memA (memS mem0))))))))))))).1
    have ne840 : a73 ≠ a828 := (Q836 a73 (memA (memA (memS (memS (memA (memS (memS (memA (memS (memS (memA (memS mem0))))))))))))).2
    have ne841 : a445 ≠ a827 := (Q836 a445 (memA (memA (memS (memS (memA (memS (memS (memA (memS (memS (memA mem0)))))))))))).1
    have ne842 : a445 ≠ a828 := (Q836 a445 (memA (memA (memS (memS (memA (memS (memS (memA (memS (memS (memA mem0)))))))))))).2
    have ne843 : a477 ≠ a827 := (Q836 a477 (memA (memA (memS (memS (memA (memS (memS (memA (memS mem0)))))))))).1
    have ne844 : a477 ≠ a828 := (Q836 a477 (memA (memA (memS (memS (memA (memS (memS (memA (memS mem0)))))))))).2
    have ne845 : a496 ≠ a827 := (Q836 a496 (memA (memA (memS (memS (memA (memS (memS (memA mem0))))))))).1
    have ne846 : a496 ≠ a828 := (Q836 a496 (memA (memA (memS (memS (memA (memS (memS (memA mem0))))))))).2
    have ne847 : a553 ≠ a827 := (Q836 a553 (memA (memA (memS (memS (memA (memS mem0))))))).1
    have ne848 : a553 ≠ a828 := (Q836 a553 (memA (memA (memS (memS (memA (memS mem0))))))).2
    have ne849 : a578 ≠ a827 := (Q836 a578 (memA (memA (memS (memS (memA mem0)))))).1
    have ne850 : a578 ≠ a828 := (Q836 a578 (memA (memA (memS (memS (memA mem0)))))).2
    have ne851 : a647 ≠ a827 := (Q836 a647 (memA (memA (memS mem0)))).1
    have ne852 : a647 ≠ a828 := (Q836 a647 (memA (memA (memS mem0)))).2
    have ne853 : a710 ≠ a827 := (Q836 a710 (memA (memA mem0))).1
    have ne854 : a710 ≠ a828 := (Q836 a710 (memA (memA mem0))).2
    have F855 : Str8 Z h826 a827 a828 [(106 : Int32), (97 : Int32), (114 : Int32)] := ⟨E832, F833, F834, ⟨_, V835⟩, by decide, by decide⟩
    have f856 := (((f765.keep K775).keep K800).keep K831)
    have f857 := ((((((F674.keep K685 nin0).keep K712 nin0).keep K750 (ninS ne739 nin0)).keep K775 nin0).keep K800 nin0).keep K831 nin0)
    have f858 := ((((((F675.keep K685 nin0).keep K712 nin0).keep K750 (ninS ne739 nin0)).keep K775 nin0).keep K800 nin0).keep K831 nin0)
    have f859 := ((((((F676.keep K685 nin0).keep K712 nin0).keep K750 (ninS ne739 nin0)).keep K775 nin0).keep K800 nin0).keep K831 nin0)
    have f860 := ((((((F677.keep K685 nin0).keep K712 nin0).keep K750 (ninS ne739 nin0)).keep K775 nin0).keep K800 nin0).keep K831 nin0)
    have f861 := ((((((F678.keep K685 nin0).keep K712 nin0).keep K750 (ninS ne739 nin0)).keep K775 nin0).keep K800 nin0).keep K831 nin0)
    refine W.callI w830 (ow_71 hw) (ow_72 hw) (ow_73 hw) rfl (by decide) opd_30 (Ctr.pay (c_vinit hw f856 f857 f858 f859 f860 f861 w830.old) (own_ew hw) (ow_73 hw) (ow_32 hw) (kf := 3) (kl := 41) (by decide) (by decide)) (mC (memA (memA (memS mem0))) mN) od_0_323 (pc' := 326) rfl rfl rfl (rest := [(.ref a647)]) rfl (Wd := 1) rfl (by decide) (by decide) (by decide) (by decide) fun v864 T862 h863 M865 w866 q867 => ?_
    obtain ⟨rfl, rfl, K868, E869, F870, F871, F872, F873, F874⟩ := q867
    show Go Z _ _ _ κ _ (T862.setTop (mkF (km κ) 326 #[.val (.int p0), .val (.int p1), .val (.int p2), .val (.int p3), .val (.int z0), .val (.int z1), .val (.int z2), .val (.int z3), .val (.int z4), .val (.int z5), .val (.int y68), .val (.int y81), .val (.int y94), .val (.int y107), .val (.ref a3), .val (.ref a73), .val (.ref a445), .val (.ref a477), .val (.ref a553), .unset, .unset] [(.ref a647)]))
    refine W.astore w866 od_0_326 (pc' := 328) rfl (Ls' := #[.val (.int p0), .val (.int p1), .val (.int p2), .val (.int p3), .val (.int z0), .val (.int z1), .val (.int z2), .val (.int z3), .val (.int z4), .val (.int z5), .val (.int y68), .val (.int y81), .val (.int y94), .val (.int y107), .val (.ref a3), .val (.ref a73), .val (.ref a445), .val (.ref a477), .val (.ref a553), .val (.ref a647), .unset]) rfl rfl ?_
    refine W.aload w866 od_0_328 (pc' := 330) rfl rfl rfl ?_
    have f875 := ((((E751.keep K775).keep K800).keep K831).keep K868)
    have f876 := ((((F752.keep K775 nin0).keep K800 nin0).keep K831 nin0).keep K868 (ninS (Ne.symm ne739) nin0))
    have f877 := ((((F753.keep K775 nin0).keep K800 nin0).keep K831 nin0).keep K868 (ninS (Ne.symm ne739) nin0))
    have f878 := ((((f758.keep K775 nin0 nin0).keep K800 nin0 nin0).keep K831 nin0 nin0).keep K868 (ninS ne666 nin0) (ninS ne667 nin0))
    have f879 := ((((f761.keep K775 nin0 nin0).keep K800 nin0 nin0).keep K831 nin0 nin0).keep K868 (ninS ne668 nin0) (ninS ne670 nin0))
    have f880 := ((((f764.keep K775 nin0 nin0).keep K800 nin0 nin0).keep K831 nin0 nin0).keep K868 (ninS ne671 nin0) (ninS ne673 nin0))
    have f881 := (((E777.keep K800).keep K831).keep K868)
    have f882 := (((F778.keep K800 nin0).keep K831 nin0).keep K868 (ninS (Ne.symm ne790) nin0))
    refine W.callV w866 (ow_85 hw) (ow_86 hw) (nfSel (ow_88 hw)) (ow_88 hw) (ow_87 hw) (by decide) opd_24 E869 (Ctr.pay (c_fv1 hw f875 F871 f876 f877 f878 f879 f880 E869 f881 F872 f882 w866.old) (own_ew hw) (ow_89 hw) (ow_32 hw) (kf := 10) (kl := 3086) (by decide) (by decide)) mN od_0_330 (pc' := 333) rfl rfl rfl (rest := []) rfl (Wd := 0) rfl (by decide) (by decide) (by decide) (by decide) fun v885 T883 h884 M886 w887 q888 => ?_
    obtain ⟨a889, t890, rfl, rfl, K891, F892⟩ := q888
    show Go Z _ _ _ κ _ (T883.setTop (mkF (km κ) 333 #[.val (.int p0), .val (.int p1), .val (.int p2), .val (.int p3), .val (.int z0), .val (.int z1), .val (.int z2), .val (.int z3), .val (.int z4), .val (.int z5), .val (.int y68), .val (.int y81), .val (.int y94), .val (.int y107), .val (.ref a3), .val (.ref a73), .val (.ref a445), .val (.ref a477), .val (.ref a553), .val (.ref a647), .unset] [(.ref a889)]))
    refine W.astore w887 od_0_333 (pc' := 335) rfl (Ls' := #[.val (.int p0), .val (.int p1), .val (.int p2), .val (.int p3), .val (.int z0), .val (.int z1), .val (.int z2), .val (.int z3), .val (.int z4), .val (.int z5), .val (.int y68), .val (.int y81), .val (.int y94), .val (.int y107), .val (.ref a3), .val (.ref a73), .val (.ref a445), .val (.ref a477), .val (.ref a553), .val (.ref a647), .val (.ref a889)]) rfl rfl ?_
    refine W.aload w887 od_0_335 (pc' := 337) rfl rfl rfl ?_
    refine W.callV w887 (ow_274 hw) (ow_133 hw) (nfSel (ow_135 hw)) (ow_135 hw) (ow_134 hw) (by decide) opd_3 F892.1 (own_len hw w887.old F892) mN od_0_337 (pc' := 340) rfl rfl rfl (rest := []) rfl (Wd := 0) rfl (by decide) (by decide) (by decide) (by decide) fun v895 T893 h894 M896 w897 q898 => ?_
    obtain ⟨rfl, rfl, e899⟩ := q898
    obtain rfl := e899.symm
    show Go Z _ _ _ κ _ (T893.setTop (mkF (km κ) 340 #[.val (.int p0), .val (.int p1), .val (.int p2), .val (.int p3), .val (.int z0), .val (.int z1), .val (.int z2), .val (.int z3), .val (.int z4), .val (.int z5), .val (.int y68), .val (.int y81), .val (.int y94), .val (.int y107), .val (.ref a3), .val (.ref a73), .val (.ref a445), .val (.ref a477), .val (.ref a553), .val (.ref a647), .val (.ref a889)] [(.int (7 : Int32))]))
    refine W.bipush w897 od_0_340 (pc' := 342) rfl (z := (7 : Int32)) rfl ?_
    refine W.icmpNo w897 od_0_342 (pc' := 345) rfl (teq (by decide : (7 : Int32) = (7 : Int32))).2 ?_
    refine W.aload w897 od_0_345 (pc' := 347) rfl rfl rfl ?_
    refine W.iconst w897 od_0_347 (pc' := 348) rfl (z := (0 : Int32)) rfl ?_
    refine W.callV w897 (ow_275 hw) (ow_276 hw) (nfSel (ow_278 hw)) (ow_278 hw) (ow_277 hw) (by decide) opd_33 F892.1 (own_chr hw w897.old F892 (i := 0) (Nat.le_of_ble_eq_true rfl) rfl) mN od_0_348 (pc' := 351) rfl rfl rfl (rest := []) rfl (Wd := 0) rfl (by decide) (by decide) (by decide) (by decide) fun v902 T900 h901 M903 w904 q905 => ?_
    obtain ⟨rfl, rfl, e906⟩ := q905
    obtain rfl := e906.symm
    show Go Z _ _ _ κ _ (T900.setTop (mkF (km κ) 351 #[.val (.int p0), .val (.int p1), .val (.int p2), .val (.int p3), .val (.int z0), .val (.int z1), .val (.int z2), .val (.int z3), .val (.int z4), .val (.int z5), .val (.int y68), .val (.int y81), .val (.int y94), .val (.int y107), .val (.ref a3), .val (.ref a73), .val (.ref a445), .val (.ref a477), .val (.ref a553), .val (.ref a647), .val (.ref a889)] [(.int z0)]))
    refine W.iload w904 od_0_351 (pc' := 353) rfl rfl ?_
    refine W.icmpNo w904 od_0_353 (pc' := 356) rfl (teq rfl).2 ?_
    refine W.aload w904 od_0_356 (pc' := 358) rfl rfl rfl ?_
    refine W.iconst w904 od_0_358 (pc' := 359) rfl (z := (1 : Int32)) rfl ?_
    refine W.callV w904 (ow_275 hw) (ow_276 hw) (nfSel (ow_278 hw)) (ow_278 hw) (ow_277 hw) (by decide) opd_33 F892.1 (own_chr hw w904.old F892 (i := 1) (Nat.le_of_ble_eq_true rfl) rfl) mN od_0_359 (pc' := 362) rfl rfl rfl (rest := []) rfl (Wd := 0) rfl (by decide) (by decide) (by decide) (by decide) fun v909 T907 h908 M910 w911 q912 => ?_
    obtain ⟨rfl, rfl, e913⟩ := q912
    obtain rfl := e913.symm
    show Go Z _ _ _ κ _ (T907.setTop (mkF (km κ) 362 #[.val (.int p0), .val (.int p1), .val (.int p2), .val (.int p3), .val (.int z0), .val (.int z1), .val (.int z2), .val (.int z3), .val (.int z4), .val (.int z5), .val (.int y68), .val (.int y81), .val (.int y94), .val (.int y107), .val (.ref a3), .val (.ref a73), .val (.ref a445), .val (.ref a477), .val (.ref a553), .val (.ref a647), .val (.ref a889)] [(.int z1)]))
    refine W.iload w911 od_0_362 (pc' := 364) rfl rfl ?_
    refine W.icmpNo w911 od_0_364 (pc' := 367) rfl (teq rfl).2 ?_
    refine W.aload w911 od_0_367 (pc' := 369) rfl rfl rfl ?_
    refine W.iconst w911 od_0_369 (pc' := 370) rfl (z := (2 : Int32)) rfl ?_
    refine W.callV w911 (ow_275 hw) (ow_276 hw) (nfSel (ow_278 hw)) (ow_278 hw) (ow_277 hw) (by decide) opd_33 F892.1 (own_chr hw w911.old F892 (i := 2) (Nat.le_of_ble_eq_true rfl) rfl) mN od_0_370 (pc' := 373) rfl rfl rfl (rest := []) rfl (Wd := 0) rfl (by decide) (by decide) (by decide) (by decide) fun v916 T914 h915 M917 w918 q919 => ?_
    obtain ⟨rfl, rfl, e920⟩ := q919
    obtain rfl := e920.symm
    show Go Z _ _ _ κ _ (T914.setTop (mkF (km κ) 373 #[.val (.int p0), .val (.int p1), .val (.int p2), .val (.int p3), .val (.int z0), .val (.int z1), .val (.int z2), .val (.int z3), .val (.int z4), .val (.int z5), .val (.int y68), .val (.int y81), .val (.int y94), .val (.int y107), .val (.ref a3), .val (.ref a73), .val (.ref a445), .val (.ref a477), .val (.ref a553), .val (.ref a647), .val (.ref a889)] [(.int z2)]))
    refine W.iload w918 od_0_373 (pc' := 375) rfl rfl ?_
    refine W.icmpNo w918 od_0_375 (pc' := 378) rfl (teq rfl).2 ?_
    refine W.aload w918 od_0_378 (pc' := 380) rfl rfl rfl ?_
    refine W.iconst w918 od_0_380 (pc' := 381) rfl (z := (3 : Int32)) rfl ?_
    refine W.callV w918 (ow_275 hw) (ow_276 hw) (nfSel (ow_278 hw)) (ow_278 hw) (ow_277 hw) (by decide) opd_33 F892.1 (own_chr hw w918.old F892 (i := 3) (Nat.le_of_ble_eq_true rfl) rfl) mN od_0_381 (pc' := 384) rfl rfl rfl (rest := []) rfl (Wd := 0) rfl (by decide) (by decide) (by decide) (by decide) fun v923 T921 h922 M924 w925 q926 => ?_
    obtain ⟨rfl, rfl, e927⟩ := q926
    obtain rfl := e927.symm
    show Go Z _ _ _ κ _ (T921.setTop (mkF (km κ) 384 #[.val (.int p0), .val (.int p1), .val (.int p2), .val (.int p3), .val (.int z0), .val (.int z1), .val (.int z2), .val (.int z3), .val (.int z4), .val (.int z5), .val (.int y68), .val (.int y81), .val (.int y94), .val (.int y107), .val (.ref a3), .val (.ref a73), .val (.ref a445), .val (.ref a477), .val (.ref a553), .val (.ref a647), .val (.ref a889)] [(.int z3)]))
    refine W.iload w925 od_0_384 (pc' := 386) rfl rfl ?_
    refine W.icmpNo w925 od_0_386 (pc' := 389) rfl (teq rfl).2 ?_
    refine W.aload w925 od_0_389 (pc' := 391) rfl rfl rfl ?_
    refine W.iconst w925 od_0_391 (pc' := 392) rfl (z := (4 : Int32)) rfl ?_
    refine W.callV w925 (ow_275 hw) (ow_276 hw) (nfSel (ow_278 hw)) (ow_278 hw) (ow_277 hw) (by decide) opd_33 F892.1 (own_chr hw w925.old F892 (i := 4) (Nat.le_of_ble_eq_true rfl) rfl) mN od_0_392 (pc' := 395) rfl rfl rfl (rest := []) rfl (Wd := 0) rfl (by decide) (by decide) (by decide) (by decide) fun v930 T928 h929 M931 w932 q933 => ?_
    obtain ⟨rfl, rfl, e934⟩ := q933
    obtain rfl := e934.symm
    show Go Z _ _ _ κ _ (T928.setTop (mkF (km κ) 395 #[.val (.int p0), .val (.int p1), .val (.int p2), .val (.int p3), .val (.int z0), .val (.int z1), .val (.int z2), .val (.int z3), .val (.int z4), .val (.int z5), .val (.int y68), .val (.int y81), .val (.int y94), .val (.int y107), .val (.ref a3), .val (.ref a73), .val (.ref a445), .val (.ref a477), .val (.ref a553), .val (.ref a647), .val (.ref a889)] [(.int (45 : Int32))]))
    refine W.bipush w932 od_0_395 (pc' := 397) rfl (z := (45 : Int32)) rfl ?_
    refine W.icmpNo w932 od_0_397 (pc' := 400) rfl (teq (by decide : (45 : Int32) = (45 : Int32))).2 ?_
    refine W.aload w932 od_0_400 (pc' := 402) rfl rfl rfl ?_
    refine W.iconst w932 od_0_402 (pc' := 403) rfl (z := (5 : Int32)) rfl ?_
    refine W.callV w932 (ow_275 hw) (ow_276 hw) (nfSel (ow_278 hw)) (ow_278 hw) (ow_277 hw) (by decide) opd_33 F892.1 (own_chr hw w932.old F892 (i := 5) (Nat.le_of_ble_eq_true rfl) rfl) mN od_0_403 (pc' := 406) rfl rfl rfl (rest := []) rfl (Wd := 0) rfl (by decide) (by decide) (by decide) (by decide) fun v937 T935 h936 M938 w939 q940 => ?_
    obtain ⟨rfl, rfl, e941⟩ := q940
    obtain rfl := e941.symm
    show Go Z _ _ _ κ _ (T935.setTop (mkF (km κ) 406 #[.val (.int p0), .val (.int p1), .val (.int p2), .val (.int p3), .val (.int z0), .val (.int z1), .val (.int z2), .val (.int z3), .val (.int z4), .val (.int z5), .val (.int y68), .val (.int y81), .val (.int y94), .val (.int y107), .val (.ref a3), .val (.ref a73), .val (.ref a445), .val (.ref a477), .val (.ref a553), .val (.ref a647), .val (.ref a889)] [(.int z4)]))
    refine W.iload w939 od_0_406 (pc' := 408) rfl rfl ?_
    refine W.icmpNo w939 od_0_408 (pc' := 411) rfl (teq rfl).2 ?_
    refine W.aload w939 od_0_411 (pc' := 413) rfl rfl rfl ?_
    refine W.bipush w939 od_0_413 (pc' := 415) rfl (z := (6 : Int32)) rfl ?_
    refine W.callV w939 (ow_275 hw) (ow_276 hw) (nfSel (ow_278 hw)) (ow_278 hw) (ow_277 hw) (by decide) opd_33 F892.1 (own_chr hw w939.old F892 (i := 6) (Nat.le_of_ble_eq_true rfl) rfl) mN od_0_415 (pc' := 418) rfl rfl rfl (rest := []) rfl (Wd := 0) rfl (by decide) (by decide) (by decide) (by decide) fun v944 T942 h943 M945 w946 q947 => ?_
    obtain ⟨rfl, rfl, e948⟩ := q947
    obtain rfl := e948.symm
    show Go Z _ _ _ κ _ (T942.setTop (mkF (km κ) 418 #[.val (.int p0), .val (.int p1), .val (.int p2), .val (.int p3), .val (.int z0), .val (.int z1), .val (.int z2), .val (.int z3), .val (.int z4), .val (.int z5), .val (.int y68), .val (.int y81), .val (.int y94), .val (.int y107), .val (.ref a3), .val (.ref a73), .val (.ref a445), .val (.ref a477), .val (.ref a553), .val (.ref a647), .val (.ref a889)] [(.int z5)]))
    refine W.iload w946 od_0_418 (pc' := 420) rfl rfl ?_
    refine W.icmpNo w946 od_0_420 (pc' := 423) rfl (teq rfl).2 ?_
    refine W.iconst w946 od_0_423 (pc' := 424) rfl (z := (1 : Int32)) rfl ?_
    refine W.goto w946 od_0_424 (pc' := 428) (by decide) (by decide) ?_
    exact W.retN w946 (t := .boolean) (z' := (1 : Int32)) rfl rfl (by simp) od_0_428 (M' := []) mN (by decide) (by decide) rfl
set_option maxRecDepth 65536 in
set_option maxHeartbeats 40000000 in
theorem comes_1 {Post : Tables → Env → Array Value → State → Outcome → State → Prop} (hpost : ∀ tb e args s v u, (limb_1_1.after args s (.returned v) u = true ∧ limb_1_2.after args s (.returned v) u = true ∧ True) → ReturnedEndW s (.returned v) u (Jvm.fieldLocs frame_1_writes args s ++ Jvm.arrayLocs frame_1_arrays args s ++ Jvm.staticLocs frame_1_statics s) 64 5440 → Post tb e args s (.returned v) u) :
    ArmFor flags0 classFile x code maxLocals ret World_1 tables_1 room_1 Calls_1 rest_1 Pre_1 Post := by
  intro l hfl _ _ p e ha hc hk s m args below hf hA hF happ hP
  obtain ⟨hcalls, hrest, hpre⟩ := hP
  obtain ⟨-, -, -, hnamed, -, -, -, hat⟩ := (Spec.applies_iff hf).mp happ
  obtain ⟨hg, hn⟩ := and_e (Cond.before_iff.mp (show (Jvm.Cond.and given_1 narrow_1).before args s = true from hpre))
  obtain ⟨hcnt, hg0⟩ := and_e hg
  obtain ⟨hv0, hg1⟩ := and_e hg0
  obtain ⟨hv1, hg2⟩ := and_e hg1
  obtain ⟨hv2, hg3⟩ := and_e hg2
  obtain ⟨w0, w1, w2, w3, rfl⟩ : ∃ w0 w1 w2 w3 : Value, args = #[w0, w1, w2, w3] := by
    have hs : args.size = 4 := by simpa [Cond.value, given_1] using hcnt
    obtain ⟨L⟩ := args
    match L, hs with
    | [w0, w1, w2, w3], _ => exact ⟨w0, w1, w2, w3, rfl⟩
  have hw0 := fun d (hd : d ∈ tables_1) => atoms_spec (ws := Jvm.Cond.code x code maxLocals ret :: tables_1) hat d (List.mem_cons_of_mem _ hd)
  have hw1 := atoms_spec (ws := Jvm.Cond.code x code maxLocals ret :: tables_1) hat _ (List.mem_cons_self ..)
  have hfit : Fit s := fun {y c} hc i hi => by
    obtain ⟨ha, rfl⟩ := Array.getElem?_eq_some_iff.mp hc
    have q := List.all_eq_true.mp ((Array.all_eq_true_iff_forall_mem.mp hF) _ (Array.getElem_mem ha)) i (List.mem_range.mpr hi)
    simpa [Array.getElem?_eq_getElem hi] using q
  obtain ⟨hsets, hown0⟩ := atoms_of _ (rest_1_c_eq ▸ (show rest_1_c.before _ s = true from hrest))
  have hr0 := Cond.before_iff.mp hown0
  obtain ⟨i0, ei0⟩ := is_v hv0
  obtain rfl : w0 = (.int i0) := Option.some.inj ei0
  obtain ⟨i1, ei1⟩ := is_v hv1
  obtain rfl : w1 = (.int i1) := Option.some.inj ei1
  obtain ⟨i2, ei2⟩ := is_v hv2
  obtain rfl : w2 = (.int i2) := Option.some.inj ei2
  obtain ⟨i3, ei3⟩ := is_v hg3
  obtain rfl : w3 = (.int i3) := Option.some.inj ei3
  have cst : Cst s := by
    obtain ⟨z, ez⟩ := is_v (Cond.before_iff.mp (hsets _ (List.mem_of_getElem? (i := 1) rfl)))
    obtain ⟨f, ef, rf⟩ := isR_v (Cond.before_iff.mp (hsets _ (List.mem_of_getElem? (i := 8) rfl)))
    exact ⟨⟨z, Sta.start ez (Or.inl (hsets _ (List.mem_of_getElem? (i := 0) rfl))), gotF (Cond.eq_ints ez (Term.int_eval (0))) (not_v (Cond.before_iff.mp (hsets _ (List.mem_of_getElem? (i := 2) rfl))))⟩, f, Sta.start ef (Or.inl (hsets _ (List.mem_of_getElem? (i := 7) rfl))), rf⟩
  have xs0 : XS0 s := by
    obtain ⟨OE, eOE⟩ := exa_v (Cond.before_iff.mp (hsets _ (List.mem_of_getElem? (i := 11) rfl)))
    obtain ⟨cK, one, hat⟩ := Cond.lambdaSite_spec (show (Jvm.Cond.lambdaSite _ _ _ _).holds _ s none s [] = true from hw0 _ (List.mem_of_getElem? (i := 90) rfl))
    exact ⟨OE, cK, one, Sta.start eOE (Or.inl (hsets _ (List.mem_of_getElem? (i := 10) rfl))), Exa.start eOE (Cond.before_iff.mp (hsets _ (List.mem_of_getElem? (i := 11) rfl))), Fld.start ((fld_at eOE).symm.trans (null_v (Cond.before_iff.mp (hsets _ (List.mem_of_getElem? (i := 12) rfl))))), hat⟩
  have hw : HW s _ := ⟨hw0, cst, xs0⟩
  have hch : CHv s EL0 s.vm s.heap := CHv.start (own_ew hw) (fun p hp => hcalls.1 p hp) (by have q := (hsets _ (List.mem_of_getElem? (i := 2) rfl)); exact q) (ow_19 hw) (own_wS hw)
  obtain ⟨a1, a2, a3, a4, a5, a6, a7, -⟩ := (Spec.appliesLoose_iff hf).mp ((Spec.applies_iff_loose hf).mp happ).1
  obtain ⟨n, o, h1, h2, h3, v, L, M', rfl, hq, N, -, -, -, hE⟩ := c_law (l := l) hw (h0 := s.heap) (p0 := i0) (p1 := i1) (p2 := i2) (p3 := i3) (Old.start s) p e ha hc hk s m _ below hf ((Spec.appliesLoose_iff hf).mpr ⟨a1, a2, a3, a4, a5, a6, a7, by show (Cond.and _ .tt).before _ s = true; rw [Cond.before_and, hw1]; rfl⟩) ⟨rfl, State.Warmed39.refl s, rfl, hch, fun x hx => nomatch hx⟩ trivial
  subst hq
  obtain ⟨e1, e2, e2', e3⟩ := hE.1
  refine ⟨n, _, h1, h2, h3, hpost _ _ _ _ _ _ ⟨Cond.after_iff.mpr rfl, Cond.after_iff.mpr (eq_i res_at (Term.int_eval (1)) rfl), trivial⟩ ⟨e1, e2, e2', (e3.sift fun y hy => Or.inr (N y hy)).mono (by decide) (by decide)⟩⟩
theorem main_1_1 : Claimed_1_1 := comes_1 fun _ _ _ _ _ _ h hF => ⟨h.1, hF⟩
theorem main_1_2 : Claimed_1_2 := comes_1 fun _ _ _ _ _ _ h hF => ⟨h.2.1, hF⟩
end Jvm.Pilot.@@N@@
namespace Jvm.Pilot.@@N@@
open Jvm Jvm.ClassFile Sem Op Lib Jvm.Free Jvm.Stand Jvm.Pilot.@@N@@.Jvm.D
/-! MADE BY PROGRAM (witnessworld.py) out of the Statement's table words and the real class files: 32 classes; the members and pool entries that the words name. The judged class is class 1, her method 1. -/
namespace start1
open Jvm.ClassFile
def u (s : String) : CpInfo := .utf8 (stringToUtf16 s)
/-- a pool by its gaps: so many unusable entries, then the entry; so many at the end -/
def gap : Nat → List CpInfo → List CpInfo
  | 0, r => r
  | n + 1, r => .unusable :: gap n r
def poolList (es : List (Nat × CpInfo)) (last : Nat) : List CpInfo := es.foldr (fun e r => gap e.1 (e.2 :: r)) (gap last [])
def pool (es : List (Nat × CpInfo)) (last : Nat) : Array CpInfo := ⟨poolList es last⟩
def fileOf (pool : Array CpInfo) (this : Nat) (attrs : Array Attribute := #[]) (ms : Array MethodInfo := #[]) (fl : Nat := 33) (sup : Nat := 0) (ifs : Array Nat := #[]) (fds : Array FieldInfo := #[]) : ClassFile where
  minorVersion := 0
  majorVersion := 65
  constantPool := pool
  accessFlags := fl
  thisClass := this
  superClass := sup
  interfaces := ifs
  fields := fds
  methods := ms
  attributes := attrs
def plain (name : String) (sup : Option ClassId) : Class where
  name := name
  kind := .ordinary
  loader := none
  accessFlags := 33
  super := sup
  interfaces := #[]
  cf := none
  fields := #[]
  methods := #[]
  instanceTypes := #[]
  staticTypes := #[]
  resolved := #[]
  callSites := []
  init := .initialized
  statics := none
  mirror := none

def pool0 : Array CpInfo := pool [(5, u "<init>"), (0, u "()V"), (1, .class_ 10), (1, u "java/lang/Object")] 113

def k0c0 : Code := { maxStack := 0, maxLocals := 1, code := object_method_1_code, exceptionTable := #[], attributes := #[] }
def k0m0 : Method := { name := "<init>", desc := "()V", sig := { parameters := [], returnType := none }, accessFlags := 1, code := some k0c0 }
/-- java/lang/Object -/
def k0 : Class := { plain "java/lang/Object" none with
  accessFlags := 33
  interfaces := #[]
  cf := some (fileOf pool0 8 #[] #[{ accessFlags := 1, nameIndex := 5, descriptorIndex := 6, attributes := #[] }] 33 0 #[] #[])
  fields := #[]
  methods := #[k0m0]
  instanceTypes := #[]
  staticTypes := #[]
  resolved := Array.replicate 124 none
  statics := none }

def pool1 : Array CpInfo := pool [(2, .class_ 4), (1, u "java/lang/Object"), (0, u "<init>"), (0, u "()V"), (0, .class_ 8), (0, u "java/lang/String"), (0, .methodref 7 10), (0, .nameAndType 5 11), (0, u "([C)V"), (0, .class_ 13), (0, u "com/example/sedgeholt/sedgeholt/layout/VersionFile"), (0, .string 15), (0, u "a"), (0, .class_ 17), (0, u "com/example/sedgeholt/sedgeholt/layout/VersionFile$Build"), (0, .methodref 16 19), (0, .nameAndType 5 20), (0, u "(Ljava/lang/String;Ljava/lang/String;)V"), (0, .methodref 22 23), (0, .class_ 24), (0, .nameAndType 25 26), (0, u "java/util/Optional"), (0, u "of"), (0, u "(Ljava/lang/Object;)Ljava/util/Optional;"), (0, .string 28), (0, u ""), (0, .string 30), (0, u "jar"), (0, .methodref 12 32), (0, .nameAndType 5 33), (0, u "(Ljava/lang/String;Ljava/lang/String;Ljava/util/Optional;Ljava/lang/String;Ljava/lang/String;)V"), (0, .methodref 12 35), (0, .nameAndType 36 37), (0, u "fileVersion"), (0, u "()Ljava/lang/String;"), (0, .methodref 7 39), (0, .nameAndType 40 41), (0, u "length"), (0, u "()I"), (0, .methodref 7 43), (0, .nameAndType 44 45), (0, u "charAt"), (0, u "(I)C"), (0, .methodref 22 47), (0, .nameAndType 48 49), (0, u "empty"), (0, u "()Ljava/util/Optional;"), (0, .methodref 7 51), (0, .nameAndType 52 53), (0, u "equals"), (0, u "(Ljava/lang/Object;)Z"), (0, .class_ 55), (0, u "com/example/sedgeholt/sedgeholt/layout/VersionFileFileVersionPinLaw"), (2, u "law"), (0, u "(IIII)Z")] 7

def k1m0 : Method := { name := "<init>", desc := "()V", sig := { parameters := [], returnType := none }, accessFlags := 1, code := none }
def k1c1 : Code := { maxStack := 8, maxLocals := 21, code := code, exceptionTable := #[], attributes := #[] }
def k1m1 : Method := { name := "law", desc := "(IIII)Z", sig := { parameters := [.int, .int, .int, .int], returnType := some .boolean }, accessFlags := 9, code := some k1c1 }
/-- com/example/sedgeholt/sedgeholt/layout/VersionFileFileVersionPinLaw -/
def k1 : Class := { plain "com/example/sedgeholt/sedgeholt/layout/VersionFileFileVersionPinLaw" (some 0) with
  accessFlags := 49
  interfaces := #[]
  cf := some (fileOf pool1 54 #[] #[{ accessFlags := 1, nameIndex := 5, descriptorIndex := 6, attributes := #[] }, { accessFlags := 9, nameIndex := 58, descriptorIndex := 59, attributes := #[] }] 49 2 #[] #[])
  fields := #[]
  methods := #[k1m0, k1m1]
  instanceTypes := #[]
  staticTypes := #[]
  resolved := Array.replicate 67 none
  statics := none }

def pool2 : Array CpInfo := pool [(1, .class_ 2), (0, u "java/io/Serializable"), (0, .class_ 4), (0, u "java/lang/Object")] 2

/-- java/io/Serializable -/
def k2 : Class := { plain "java/io/Serializable" (some 0) with
  accessFlags := 1537
  interfaces := #[]
  cf := some (fileOf pool2 1 #[] #[] 1537 3 #[] #[])
  fields := #[]
  methods := #[]
  instanceTypes := #[]
  staticTypes := #[]
  resolved := Array.replicate 7 none
  statics := none }

def pool3 : Array CpInfo := pool [(1, .class_ 2), (0, u "java/lang/Comparable"), (0, .class_ 4), (0, u "java/lang/Object")] 7

/-- java/lang/Comparable -/
def k3 : Class := { plain "java/lang/Comparable" (some 0) with
  accessFlags := 1537
  interfaces := #[]
  cf := some (fileOf pool3 1 #[] #[] 1537 3 #[] #[])
  fields := #[]
  methods := #[]
  instanceTypes := #[]
  staticTypes := #[]
  resolved := Array.replicate 12 none
  statics := none }

def pool4 : Array CpInfo := pool [(2, .class_ 4), (1, u "java/lang/CharSequence"), (42, .class_ 48), (0, u "java/lang/CharSequence$1CodePointIterator"), (10, .class_ 60), (0, u "java/lang/CharSequence$1CharIterator"), (5, .class_ 67), (0, u "java/lang/Object")] 63

/-- java/lang/CharSequence -/
def k4 : Class := { plain "java/lang/CharSequence" (some 0) with
  accessFlags := 1537
  interfaces := #[]
  cf := some (fileOf pool4 2 #[.nestMembers #[47, 59]] #[] 1537 66 #[] #[])
  fields := #[]
  methods := #[]
  instanceTypes := #[]
  staticTypes := #[]
  resolved := Array.replicate 131 none
  statics := none }

def pool5 : Array CpInfo := pool [(1, .class_ 2), (0, u "java/lang/constant/Constable"), (0, .class_ 4), (0, u "java/lang/Object")] 6

/-- java/lang/constant/Constable -/
def k5 : Class := { plain "java/lang/constant/Constable" (some 0) with
  accessFlags := 1537
  interfaces := #[]
  cf := some (fileOf pool5 1 #[] #[] 1537 3 #[] #[])
  fields := #[]
  methods := #[]
  instanceTypes := #[]
  staticTypes := #[]
  resolved := Array.replicate 11 none
  statics := none }

def pool6 : Array CpInfo := pool [(1, .class_ 2), (0, u "java/lang/constant/ConstantDesc"), (0, .class_ 4), (0, u "java/lang/Object")] 32

/-- java/lang/constant/ConstantDesc -/
def k6 : Class := { plain "java/lang/constant/ConstantDesc" (some 0) with
  accessFlags := 1537
  interfaces := #[]
  cf := some (fileOf pool6 1 #[] #[] 1537 3 #[] #[])
  fields := #[]
  methods := #[]
  instanceTypes := #[]
  staticTypes := #[]
  resolved := Array.replicate 37 none
  statics := none }

def pool7 : Array CpInfo := pool [(1, .methodref 2 3), (0, .class_ 4), (0, .nameAndType 5 6), (0, u "java/lang/Object"), (0, u "<init>"), (0, u "()V"), (2, .fieldref 10 11), (0, .class_ 12), (0, .nameAndType 13 14), (0, u "java/lang/String"), (0, u "value"), (0, u "[B"), (0, .fieldref 10 16), (0, .nameAndType 17 18), (0, u "coder"), (0, u "B"), (2, u "hash"), (0, u "I"), (2, u "hashIsZero"), (0, u "Z"), (0, .methodref 10 28), (0, .nameAndType 5 29), (0, u "([CIILjava/lang/Void;)V"), (8, .fieldref 10 39), (0, .nameAndType 40 26), (0, u "COMPACT_STRINGS"), (1, .class_ 44), (1, u "java/lang/StringUTF16"), (0, u "compress"), (1, .methodref 42 48), (0, .nameAndType 49 50), (0, u "coderFromArrayLen"), (0, u "([BI)B"), (3, .methodref 55 56), (0, .class_ 57), (0, .nameAndType 58 59), (0, u "java/util/Arrays"), (0, u "copyOfRange"), (0, u "([BII)[B"), (47, .class_ 109), (1, u "java/lang/StringLatin1"), (32, u "()Z"), (34, .methodref 42 178), (0, .nameAndType 45 179), (0, u "([CII)[B"), (13, .class_ 195), (1, u "java/lang/System"), (15, u "([BB)V"), (0, .methodref 193 213), (0, .nameAndType 214 215), (0, u "arraycopy"), (0, u "(Ljava/lang/Object;ILjava/lang/Object;II)V"), (118, u "()I"), (0, .methodref 10 336), (0, .nameAndType 17 337), (0, u "()B"), (2, u "()[B"), (22, u "([BI)C"), (27, u "(II)V"), (35, u "(I)C"), (61, .methodref 10 490), (0, .nameAndType 5 491), (0, u "(Ljava/lang/AbstractStringBuilder;Ljava/lang/Void;)V"), (0, .methodref 10 493), (0, .nameAndType 494 142), (0, u "isLatin1"), (0, .methodref 107 496), (0, .nameAndType 497 363), (0, u "charAt"), (3, u "checkIndex"), (3, .methodref 10 506), (0, .nameAndType 507 334), (0, u "length"), (5, u "checkFromToIndex"), (7, .methodref 10 522), (0, .nameAndType 523 524), (0, u "checkBoundsBeginEnd"), (0, u "(III)V"), (7, u "getBytes"), (10, u "equals"), (5, .methodref 550 506), (0, .class_ 551), (0, u "java/lang/AbstractStringBuilder"), (0, .methodref 550 553), (0, .nameAndType 554 340), (0, u "getValue"), (18, u "(Ljava/lang/Object;)Z"), (1, .class_ 576), (0, u "java/lang/CharSequence"), (22, u "CASE_INSENSITIVE_ORDER"), (0, u "Ljava/util/Comparator;"), (82, u "substring"), (0, u "(II)Ljava/lang/String;"), (0, .methodref 107 686), (0, .nameAndType 687 688), (0, u "newString"), (0, u "([BII)Ljava/lang/String;"), (132, u "([BIB)V"), (188, u "([C)V"), (36, .methodref 550 493), (5, .fieldref 1054 1055), (0, .class_ 1056), (0, .nameAndType 1057 1058), (0, u "jdk/internal/util/Preconditions"), (0, u "SIOOBE_FORMATTER"), (0, u "Ljava/util/function/BiFunction;"), (0, .methodref 1054 1060), (0, .nameAndType 501 1061), (0, u "(IILjava/util/function/BiFunction;)I"), (0, .methodref 1054 1063), (0, .nameAndType 513 1064), (0, u "(IIILjava/util/function/BiFunction;)I"), (36, u "serialPersistentFields"), (0, u "[Ljava/io/ObjectStreamField;"), (0, .class_ 1104), (0, u "java/lang/String$CaseInsensitiveComparator"), (1, .class_ 1107), (0, u "java/io/Serializable"), (0, .class_ 1109), (0, u "java/lang/Comparable"), (0, .class_ 1111), (0, u "java/lang/constant/Constable"), (0, .class_ 1113), (0, u "java/lang/constant/ConstantDesc"), (2, u "serialVersionUID"), (0, u "J"), (3, u "REPL"), (0, u "C"), (2, u "LATIN1"), (1, u "UTF16"), (105, u "(Ljava/lang/StringBuilder;)V")] 217

def k7m0 : Method := { name := "<init>", desc := "()V", sig := { parameters := [], returnType := none }, accessFlags := 1, code := none }
def k7c1 : Code := { maxStack := 5, maxLocals := 2, code := jdk_42_method_3_code, exceptionTable := #[], attributes := #[] }
def k7m1 : Method := { name := "<init>", desc := "([C)V", sig := { parameters := [(.array .char)], returnType := none }, accessFlags := 1, code := some k7c1 }
def k7c2 : Code := { maxStack := 3, maxLocals := 2, code := jdk_42_method_53_code, exceptionTable := #[], attributes := #[] }
def k7m2 : Method := { name := "<init>", desc := "(Ljava/lang/StringBuilder;)V", sig := { parameters := [(.object "java/lang/StringBuilder")], returnType := none }, accessFlags := 1, code := some k7c2 }
def k7c3 : Code := { maxStack := 2, maxLocals := 1, code := jdk_42_method_54_code, exceptionTable := #[], attributes := #[] }
def k7m3 : Method := { name := "length", desc := "()I", sig := { parameters := [], returnType := some .int }, accessFlags := 1, code := some k7c3 }
def k7c4 : Code := { maxStack := 2, maxLocals := 2, code := jdk_42_method_56_code, exceptionTable := #[], attributes := #[] }
def k7m4 : Method := { name := "charAt", desc := "(I)C", sig := { parameters := [.int], returnType := some .char }, accessFlags := 1, code := some k7c4 }
def k7c5 : Code := { maxStack := 2, maxLocals := 3, code := jdk_42_method_66_code, exceptionTable := #[], attributes := #[] }
def k7m5 : Method := { name := "equals", desc := "(Ljava/lang/Object;)Z", sig := { parameters := [(.object "java/lang/Object")], returnType := some .boolean }, accessFlags := 1, code := some k7c5 }
def k7c6 : Code := { maxStack := 3, maxLocals := 5, code := jdk_42_method_92_code, exceptionTable := #[], attributes := #[] }
def k7m6 : Method := { name := "substring", desc := "(II)Ljava/lang/String;", sig := { parameters := [.int, .int], returnType := some (.object "java/lang/String") }, accessFlags := 1, code := some k7c6 }
def k7c7 : Code := { maxStack := 5, maxLocals := 4, code := jdk_42_method_147_code, exceptionTable := #[], attributes := #[] }
def k7m7 : Method := { name := "getBytes", desc := "([BIB)V", sig := { parameters := [(.array .byte), .int, .byte], returnType := none }, accessFlags := 0, code := some k7c7 }
def k7c8 : Code := { maxStack := 4, maxLocals := 6, code := jdk_42_method_149_code, exceptionTable := #[], attributes := #[] }
def k7m8 : Method := { name := "<init>", desc := "([CIILjava/lang/Void;)V", sig := { parameters := [(.array .char), .int, .int, (.object "java/lang/Void")], returnType := none }, accessFlags := 2, code := some k7c8 }
def k7c9 : Code := { maxStack := 5, maxLocals := 5, code := jdk_42_method_150_code, exceptionTable := #[], attributes := #[] }
def k7m9 : Method := { name := "<init>", desc := "(Ljava/lang/AbstractStringBuilder;Ljava/lang/Void;)V", sig := { parameters := [(.object "java/lang/AbstractStringBuilder"), (.object "java/lang/Void")], returnType := none }, accessFlags := 0, code := some k7c9 }
def k7c10 : Code := { maxStack := 2, maxLocals := 3, code := jdk_42_method_151_code, exceptionTable := #[], attributes := #[] }
def k7m10 : Method := { name := "<init>", desc := "([BB)V", sig := { parameters := [(.array .byte), .byte], returnType := none }, accessFlags := 0, code := some k7c10 }
def k7c11 : Code := { maxStack := 1, maxLocals := 1, code := jdk_42_method_152_code, exceptionTable := #[], attributes := #[] }
def k7m11 : Method := { name := "coder", desc := "()B", sig := { parameters := [], returnType := some .byte }, accessFlags := 0, code := some k7c11 }
def k7c12 : Code := { maxStack := 1, maxLocals := 1, code := jdk_42_method_154_code, exceptionTable := #[], attributes := #[] }
def k7m12 : Method := { name := "isLatin1", desc := "()Z", sig := { parameters := [], returnType := some .boolean }, accessFlags := 0, code := some k7c12 }
def k7c13 : Code := { maxStack := 3, maxLocals := 2, code := jdk_42_method_155_code, exceptionTable := #[], attributes := #[] }
def k7m13 : Method := { name := "checkIndex", desc := "(II)V", sig := { parameters := [.int, .int], returnType := none }, accessFlags := 8, code := some k7c13 }
def k7c14 : Code := { maxStack := 4, maxLocals := 3, code := jdk_42_method_158_code, exceptionTable := #[], attributes := #[] }
def k7m14 : Method := { name := "checkBoundsBeginEnd", desc := "(III)V", sig := { parameters := [.int, .int, .int], returnType := none }, accessFlags := 8, code := some k7c14 }
/-- java/lang/String -/
def k7 : Class := { plain "java/lang/String" (some 0) with
  accessFlags := 49
  interfaces := #[2, 3, 4, 5, 6]
  cf := some (fileOf pool7 10 #[.nestMembers #[1103]] #[{ accessFlags := 1, nameIndex := 5, descriptorIndex := 6, attributes := #[] }, { accessFlags := 1, nameIndex := 5, descriptorIndex := 1010, attributes := #[] }, { accessFlags := 1, nameIndex := 5, descriptorIndex := 1233, attributes := #[] }, { accessFlags := 1, nameIndex := 507, descriptorIndex := 334, attributes := #[] }, { accessFlags := 1, nameIndex := 497, descriptorIndex := 427, attributes := #[] }, { accessFlags := 1, nameIndex := 543, descriptorIndex := 573, attributes := #[] }, { accessFlags := 1, nameIndex := 683, descriptorIndex := 684, attributes := #[] }, { accessFlags := 0, nameIndex := 532, descriptorIndex := 821, attributes := #[] }, { accessFlags := 2, nameIndex := 5, descriptorIndex := 29, attributes := #[] }, { accessFlags := 0, nameIndex := 5, descriptorIndex := 491, attributes := #[] }, { accessFlags := 0, nameIndex := 5, descriptorIndex := 211, attributes := #[] }, { accessFlags := 0, nameIndex := 17, descriptorIndex := 337, attributes := #[] }, { accessFlags := 0, nameIndex := 494, descriptorIndex := 142, attributes := #[] }, { accessFlags := 8, nameIndex := 501, descriptorIndex := 391, attributes := #[] }, { accessFlags := 8, nameIndex := 523, descriptorIndex := 524, attributes := #[] }] 49 2 #[1106, 1108, 575, 1110, 1112] #[{ accessFlags := 18, nameIndex := 13, descriptorIndex := 14, attributes := #[] }, { accessFlags := 18, nameIndex := 17, descriptorIndex := 18, attributes := #[] }, { accessFlags := 2, nameIndex := 21, descriptorIndex := 22, attributes := #[] }, { accessFlags := 2, nameIndex := 25, descriptorIndex := 26, attributes := #[] }, { accessFlags := 26, nameIndex := 1116, descriptorIndex := 1117, attributes := #[] }, { accessFlags := 24, nameIndex := 40, descriptorIndex := 26, attributes := #[] }, { accessFlags := 26, nameIndex := 1101, descriptorIndex := 1102, attributes := #[] }, { accessFlags := 26, nameIndex := 1121, descriptorIndex := 1122, attributes := #[] }, { accessFlags := 25, nameIndex := 599, descriptorIndex := 600, attributes := #[] }, { accessFlags := 24, nameIndex := 1125, descriptorIndex := 18, attributes := #[] }, { accessFlags := 24, nameIndex := 1127, descriptorIndex := 18, attributes := #[] }])
  fields := #[{ name := "value", type := (.array .byte), accessFlags := 18, slot := 0, constantValue := 0 }, { name := "coder", type := .byte, accessFlags := 18, slot := 1, constantValue := 0 }, { name := "hash", type := .int, accessFlags := 2, slot := 2, constantValue := 0 }, { name := "hashIsZero", type := .boolean, accessFlags := 2, slot := 3, constantValue := 0 }, { name := "serialVersionUID", type := .long, accessFlags := 26, slot := 0, constantValue := 0 }, { name := "COMPACT_STRINGS", type := .boolean, accessFlags := 24, slot := 1, constantValue := 0 }, { name := "serialPersistentFields", type := (.array (.object "java/io/ObjectStreamField")), accessFlags := 26, slot := 2, constantValue := 0 }, { name := "REPL", type := .char, accessFlags := 26, slot := 3, constantValue := 0 }, { name := "CASE_INSENSITIVE_ORDER", type := (.object "java/util/Comparator"), accessFlags := 25, slot := 4, constantValue := 0 }, { name := "LATIN1", type := .byte, accessFlags := 24, slot := 5, constantValue := 0 }, { name := "UTF16", type := .byte, accessFlags := 24, slot := 6, constantValue := 0 }]
  methods := #[k7m0, k7m1, k7m2, k7m3, k7m4, k7m5, k7m6, k7m7, k7m8, k7m9, k7m10, k7m11, k7m12, k7m13, k7m14]
  instanceTypes := #[(.array .byte), .byte, .int, .boolean]
  staticTypes := #[.long, .boolean, (.array (.object "java/io/ObjectStreamField")), .char, (.object "java/util/Comparator"), .byte, .byte]
  resolved := Array.replicate 1451 none
  statics := some 0 }

def pool8 : Array CpInfo := pool [(6, .class_ 8), (1, u "java/lang/Object"), (0, u "<init>"), (0, u "()V"), (1, .class_ 14), (1, u "java/lang/StringUTF16"), (31, u "$assertionsDisabled"), (0, u "Z"), (13, u "HI_BYTE_SHIFT"), (0, u "I"), (2, u "LO_BYTE_SHIFT"), (49, .methodref 12 116), (0, .nameAndType 117 118), (0, u "compress"), (0, u "([CI[BII)I"), (3, u "([CII)[B"), (138, u "coderFromArrayLen"), (0, u "([BI)B"), (106, .class_ 371), (1, u "java/lang/StringUTF16$LinesSpliterator"), (58, u "MAX_LENGTH"), (196, .class_ 628), (0, u "java/lang/StringUTF16$CodePointsSpliterator"), (0, .class_ 630), (0, u "java/lang/StringUTF16$CharsSpliterator")] 4

def k8m0 : Method := { name := "<init>", desc := "()V", sig := { parameters := [], returnType := none }, accessFlags := 0, code := none }
def k8c1 : Code := { maxStack := 2, maxLocals := 2, code := jdk_52_method_15_code, exceptionTable := #[], attributes := #[] }
def k8m1 : Method := { name := "coderFromArrayLen", desc := "([BI)B", sig := { parameters := [(.array .byte), .int], returnType := some .byte }, accessFlags := 8, code := some k8c1 }
def k8c2 : Code := { maxStack := 5, maxLocals := 6, code := jdk_52_method_16_code, exceptionTable := #[], attributes := #[] }
def k8m2 : Method := { name := "compress", desc := "([CII)[B", sig := { parameters := [(.array .char), .int, .int], returnType := some (.array .byte) }, accessFlags := 9, code := some k8c2 }
def k8c3 : Code := { maxStack := 3, maxLocals := 7, code := jdk_52_method_21_code, exceptionTable := #[], attributes := #[] }
def k8m3 : Method := { name := "compress", desc := "([CI[BII)I", sig := { parameters := [(.array .char), .int, (.array .byte), .int, .int], returnType := some .int }, accessFlags := 9, code := some k8c3 }
/-- java/lang/StringUTF16 -/
def k8 : Class := { plain "java/lang/StringUTF16" (some 0) with
  accessFlags := 48
  interfaces := #[]
  cf := some (fileOf pool8 12 #[.nestMembers #[627, 629, 369]] #[{ accessFlags := 0, nameIndex := 9, descriptorIndex := 10, attributes := #[] }, { accessFlags := 8, nameIndex := 261, descriptorIndex := 262, attributes := #[] }, { accessFlags := 9, nameIndex := 117, descriptorIndex := 122, attributes := #[] }, { accessFlags := 9, nameIndex := 117, descriptorIndex := 118, attributes := #[] }] 48 6 #[] #[{ accessFlags := 26, nameIndex := 61, descriptorIndex := 62, attributes := #[] }, { accessFlags := 26, nameIndex := 65, descriptorIndex := 62, attributes := #[] }, { accessFlags := 24, nameIndex := 430, descriptorIndex := 62, attributes := #[] }, { accessFlags := 4120, nameIndex := 46, descriptorIndex := 47, attributes := #[] }])
  fields := #[{ name := "HI_BYTE_SHIFT", type := .int, accessFlags := 26, slot := 0, constantValue := 0 }, { name := "LO_BYTE_SHIFT", type := .int, accessFlags := 26, slot := 1, constantValue := 0 }, { name := "MAX_LENGTH", type := .int, accessFlags := 24, slot := 2, constantValue := 0 }, { name := "$assertionsDisabled", type := .boolean, accessFlags := 4120, slot := 3, constantValue := 0 }]
  methods := #[k8m0, k8m1, k8m2, k8m3]
  instanceTypes := #[]
  staticTypes := #[.int, .int, .int, .boolean]
  resolved := Array.replicate 635 none
  statics := none }

def pool9 : Array CpInfo := pool [(1, .methodref 2 3), (0, .class_ 4), (0, .nameAndType 5 6), (0, u "java/lang/Object"), (0, u "<init>"), (0, u "()V"), (0, .class_ 8), (0, u "java/lang/Record")] 13

def k9c0 : Code := { maxStack := 1, maxLocals := 1, code := jdk_30_method_1_code, exceptionTable := #[], attributes := #[] }
def k9m0 : Method := { name := "<init>", desc := "()V", sig := { parameters := [], returnType := none }, accessFlags := 4, code := some k9c0 }
/-- java/lang/Record -/
def k9 : Class := { plain "java/lang/Record" (some 0) with
  accessFlags := 1057
  interfaces := #[]
  cf := some (fileOf pool9 7 #[] #[{ accessFlags := 4, nameIndex := 5, descriptorIndex := 6, attributes := #[] }] 1057 2 #[] #[])
  fields := #[]
  methods := #[k9m0]
  instanceTypes := #[]
  staticTypes := #[]
  resolved := Array.replicate 22 none
  statics := none }

def pool10 : Array CpInfo := pool [(1, .methodref 2 3), (0, .class_ 4), (0, .nameAndType 5 6), (0, u "java/lang/Record"), (0, u "<init>"), (0, u "()V"), (0, .fieldref 8 9), (0, .class_ 10), (0, .nameAndType 11 12), (0, u "com/example/sedgeholt/sedgeholt/layout/VersionFile"), (0, u "artifactId"), (0, u "Ljava/lang/String;"), (0, .fieldref 8 14), (0, .nameAndType 15 12), (0, u "version"), (0, .fieldref 8 17), (0, .nameAndType 18 19), (0, u "build"), (0, u "Ljava/util/Optional;"), (0, .fieldref 8 21), (0, .nameAndType 22 12), (0, u "classifier"), (0, .fieldref 8 24), (0, .nameAndType 25 12), (0, u "extension"), (0, .methodref 27 28), (0, .class_ 29), (0, .nameAndType 30 31), (0, u "java/lang/String"), (0, u "length"), (0, u "()I"), (0, .string 33), (0, u "SNAPSHOT"), (4, .class_ 39), (0, u "java/lang/StringBuilder"), (0, .methodref 38 3), (0, .methodref 38 42), (0, .nameAndType 43 44), (0, u "append"), (0, u "(Ljava/lang/String;)Ljava/lang/StringBuilder;"), (0, .string 46), (0, u "-"), (0, .methodref 38 48), (0, .nameAndType 49 50), (0, u "toString"), (0, u "()Ljava/lang/String;"), (6, u "REST"), (0, u "Ljava/util/regex/Pattern;"), (6, u "apply"), (1, .methodref 68 69), (0, .class_ 70), (0, .nameAndType 71 72), (0, u "java/util/Optional"), (0, u "map"), (0, u "(Ljava/util/function/Function;)Ljava/util/Optional;"), (3, .methodref 8 77), (0, .nameAndType 78 79), (0, u "withoutSnapshot"), (0, u "(Ljava/lang/String;)Ljava/lang/String;"), (2, u "BUILD_REST"), (35, .invokeDynamic 5 119), (0, .nameAndType 65 120), (0, u "(Lcom/example/sedgeholt/sedgeholt/layout/VersionFile;)Ljava/util/function/Function;"), (0, .methodref 68 122), (0, .nameAndType 123 124), (0, u "orElse"), (0, u "(Ljava/lang/Object;)Ljava/lang/Object;"), (2, u "fileVersion"), (29, .methodref 27 158), (0, .nameAndType 159 160), (0, u "substring"), (0, u "(II)Ljava/lang/String;"), (0, .methodref 162 163), (0, .class_ 164), (0, .nameAndType 165 50), (0, u "com/example/sedgeholt/sedgeholt/layout/VersionFile$Build"), (0, u "timestamp"), (0, .methodref 162 167), (0, .nameAndType 168 50), (0, u "number"), (28, u "(Ljava/lang/String;Ljava/lang/String;Ljava/util/Optional;Ljava/lang/String;Ljava/lang/String;)V"), (38, u "lambda$fileVersion$3"), (0, u "(Lcom/example/sedgeholt/sedgeholt/layout/VersionFile$Build;)Ljava/lang/String;"), (11, .methodType 124), (19, .methodHandle 5 270), (0, .methodref 8 271), (0, .nameAndType 236 237), (0, .methodType 237), (7, .methodHandle 6 281), (0, .methodref 282 283), (0, .class_ 284), (0, .nameAndType 285 286), (0, u "java/lang/invoke/LambdaMetafactory"), (0, u "metafactory"), (0, u "(Ljava/lang/invoke/MethodHandles$Lookup;Ljava/lang/String;Ljava/lang/invoke/MethodType;Ljava/lang/invoke/MethodType;Ljava/lang/invoke/MethodHandle;Ljava/lang/invoke/MethodType;)Ljava/lang/invoke/CallSite;")] 14

def k10c0 : Code := { maxStack := 2, maxLocals := 6, code := prog_9_method_1_code, exceptionTable := #[], attributes := #[] }
def k10m0 : Method := { name := "<init>", desc := "(Ljava/lang/String;Ljava/lang/String;Ljava/util/Optional;Ljava/lang/String;Ljava/lang/String;)V", sig := { parameters := [(.object "java/lang/String"), (.object "java/lang/String"), (.object "java/util/Optional"), (.object "java/lang/String"), (.object "java/lang/String")], returnType := none }, accessFlags := 1, code := some k10c0 }
def k10c1 : Code := { maxStack := 2, maxLocals := 1, code := prog_9_method_6_code, exceptionTable := #[], attributes := #[] }
def k10m1 : Method := { name := "fileVersion", desc := "()Ljava/lang/String;", sig := { parameters := [], returnType := some (.object "java/lang/String") }, accessFlags := 1, code := some k10c1 }
def k10c2 : Code := { maxStack := 4, maxLocals := 1, code := prog_9_method_10_code, exceptionTable := #[], attributes := #[] }
def k10m2 : Method := { name := "withoutSnapshot", desc := "(Ljava/lang/String;)Ljava/lang/String;", sig := { parameters := [(.object "java/lang/String")], returnType := some (.object "java/lang/String") }, accessFlags := 10, code := some k10c2 }
def k10c3 : Code := { maxStack := 2, maxLocals := 2, code := prog_9_method_19_code, exceptionTable := #[], attributes := #[] }
def k10m3 : Method := { name := "lambda$fileVersion$3", desc := "(Lcom/example/sedgeholt/sedgeholt/layout/VersionFile$Build;)Ljava/lang/String;", sig := { parameters := [(.object "com/example/sedgeholt/sedgeholt/layout/VersionFile$Build")], returnType := some (.object "java/lang/String") }, accessFlags := 4098, code := some k10c3 }
/-- com/example/sedgeholt/sedgeholt/layout/VersionFile -/
def k10 : Class := { plain "com/example/sedgeholt/sedgeholt/layout/VersionFile" (some 9) with
  accessFlags := 49
  interfaces := #[]
  cf := some (fileOf pool10 8 #[.nestMembers #[162], .bootstrapMethods #[⟨0, #[]⟩, ⟨0, #[]⟩, ⟨0, #[]⟩, ⟨0, #[]⟩, ⟨0, #[]⟩, ⟨280, #[249, 269, 272]⟩, ⟨0, #[]⟩]] #[{ accessFlags := 1, nameIndex := 5, descriptorIndex := 197, attributes := #[] }, { accessFlags := 1, nameIndex := 127, descriptorIndex := 50, attributes := #[] }, { accessFlags := 10, nameIndex := 78, descriptorIndex := 79, attributes := #[] }, { accessFlags := 4098, nameIndex := 236, descriptorIndex := 237, attributes := #[] }] 49 2 #[] #[{ accessFlags := 18, nameIndex := 11, descriptorIndex := 12, attributes := #[] }, { accessFlags := 18, nameIndex := 15, descriptorIndex := 12, attributes := #[] }, { accessFlags := 18, nameIndex := 18, descriptorIndex := 19, attributes := #[] }, { accessFlags := 18, nameIndex := 22, descriptorIndex := 12, attributes := #[] }, { accessFlags := 18, nameIndex := 25, descriptorIndex := 12, attributes := #[] }, { accessFlags := 25, nameIndex := 33, descriptorIndex := 12, attributes := #[] }, { accessFlags := 26, nameIndex := 57, descriptorIndex := 58, attributes := #[] }, { accessFlags := 26, nameIndex := 82, descriptorIndex := 58, attributes := #[] }])
  fields := #[{ name := "artifactId", type := (.object "java/lang/String"), accessFlags := 18, slot := 0, constantValue := 0 }, { name := "version", type := (.object "java/lang/String"), accessFlags := 18, slot := 1, constantValue := 0 }, { name := "build", type := (.object "java/util/Optional"), accessFlags := 18, slot := 2, constantValue := 0 }, { name := "classifier", type := (.object "java/lang/String"), accessFlags := 18, slot := 3, constantValue := 0 }, { name := "extension", type := (.object "java/lang/String"), accessFlags := 18, slot := 4, constantValue := 0 }, { name := "SNAPSHOT", type := (.object "java/lang/String"), accessFlags := 25, slot := 0, constantValue := 0 }, { name := "REST", type := (.object "java/util/regex/Pattern"), accessFlags := 26, slot := 1, constantValue := 0 }, { name := "BUILD_REST", type := (.object "java/util/regex/Pattern"), accessFlags := 26, slot := 2, constantValue := 0 }]
  methods := #[k10m0, k10m1, k10m2, k10m3]
  instanceTypes := #[(.object "java/lang/String"), (.object "java/lang/String"), (.object "java/util/Optional"), (.object "java/lang/String"), (.object "java/lang/String")]
  staticTypes := #[(.object "java/lang/String"), (.object "java/util/regex/Pattern"), (.object "java/util/regex/Pattern")]
  resolved := Array.replicate 301 none
  callSites := [(1, 5, .makes 31)]
  statics := none }

def pool11 : Array CpInfo := pool [(1, .methodref 2 3), (0, .class_ 4), (0, .nameAndType 5 6), (0, u "java/lang/Record"), (0, u "<init>"), (0, u "()V"), (0, .fieldref 8 9), (0, .class_ 10), (0, .nameAndType 11 12), (0, u "com/example/sedgeholt/sedgeholt/layout/VersionFile$Build"), (0, u "timestamp"), (0, u "Ljava/lang/String;"), (0, .fieldref 8 14), (0, .nameAndType 15 12), (0, u "number"), (30, .class_ 47), (0, u "java/lang/Comparable"), (0, u "(Ljava/lang/String;Ljava/lang/String;)V"), (4, u "()Ljava/lang/String;"), (7, .class_ 62), (0, u "com/example/sedgeholt/sedgeholt/layout/VersionFile")] 20

def k11c0 : Code := { maxStack := 2, maxLocals := 3, code := prog_10_method_1_code, exceptionTable := #[], attributes := #[] }
def k11m0 : Method := { name := "<init>", desc := "(Ljava/lang/String;Ljava/lang/String;)V", sig := { parameters := [(.object "java/lang/String"), (.object "java/lang/String")], returnType := none }, accessFlags := 1, code := some k11c0 }
def k11c1 : Code := { maxStack := 1, maxLocals := 1, code := prog_10_method_6_code, exceptionTable := #[], attributes := #[] }
def k11m1 : Method := { name := "timestamp", desc := "()Ljava/lang/String;", sig := { parameters := [], returnType := some (.object "java/lang/String") }, accessFlags := 1, code := some k11c1 }
def k11c2 : Code := { maxStack := 1, maxLocals := 1, code := prog_10_method_7_code, exceptionTable := #[], attributes := #[] }
def k11m2 : Method := { name := "number", desc := "()Ljava/lang/String;", sig := { parameters := [], returnType := some (.object "java/lang/String") }, accessFlags := 1, code := some k11c2 }
/-- com/example/sedgeholt/sedgeholt/layout/VersionFile$Build -/
def k11 : Class := { plain "com/example/sedgeholt/sedgeholt/layout/VersionFile$Build" (some 9) with
  accessFlags := 49
  interfaces := #[3]
  cf := some (fileOf pool11 8 #[.nestHost 61] #[{ accessFlags := 1, nameIndex := 5, descriptorIndex := 48, attributes := #[] }, { accessFlags := 1, nameIndex := 11, descriptorIndex := 53, attributes := #[] }, { accessFlags := 1, nameIndex := 15, descriptorIndex := 53, attributes := #[] }] 49 2 #[46] #[{ accessFlags := 18, nameIndex := 11, descriptorIndex := 12, attributes := #[] }, { accessFlags := 18, nameIndex := 15, descriptorIndex := 12, attributes := #[] }])
  fields := #[{ name := "timestamp", type := (.object "java/lang/String"), accessFlags := 18, slot := 0, constantValue := 0 }, { name := "number", type := (.object "java/lang/String"), accessFlags := 18, slot := 1, constantValue := 0 }]
  methods := #[k11m0, k11m1, k11m2]
  instanceTypes := #[(.object "java/lang/String"), (.object "java/lang/String")]
  staticTypes := #[]
  resolved := Array.replicate 83 none
  statics := none }

def pool12 : Array CpInfo := pool [(1, .fieldref 2 3), (0, .class_ 4), (0, .nameAndType 5 6), (0, u "java/util/Optional"), (0, u "EMPTY"), (0, u "Ljava/util/Optional;"), (0, .methodref 8 9), (0, .class_ 10), (0, .nameAndType 11 12), (0, u "java/lang/Object"), (0, u "<init>"), (0, u "()V"), (0, .fieldref 2 14), (0, .nameAndType 15 16), (0, u "value"), (0, u "Ljava/lang/Object;"), (0, .methodref 18 19), (0, .class_ 20), (0, .nameAndType 21 22), (0, u "java/util/Objects"), (0, u "requireNonNull"), (0, u "(Ljava/lang/Object;)Ljava/lang/Object;"), (0, .methodref 2 24), (0, .nameAndType 11 25), (0, u "(Ljava/lang/Object;)V"), (17, .methodref 2 44), (0, .nameAndType 45 46), (0, u "isEmpty"), (0, u "()Z"), (6, .methodref 2 54), (0, .nameAndType 55 56), (0, u "empty"), (0, u "()Ljava/util/Optional;"), (0, .interfaceMethodref 58 59), (0, .class_ 60), (0, .nameAndType 61 22), (0, u "java/util/function/Function"), (0, u "apply"), (0, .methodref 2 63), (0, .nameAndType 64 65), (0, u "ofNullable"), (0, u "(Ljava/lang/Object;)Ljava/util/Optional;"), (16, u "of"), (63, u "map"), (0, u "(Ljava/util/function/Function;)Ljava/util/Optional;"), (17, u "orElse")] 21

def k12c0 : Code := { maxStack := 1, maxLocals := 1, code := jdk_32_method_1_code, exceptionTable := #[], attributes := #[] }
def k12m0 : Method := { name := "empty", desc := "()Ljava/util/Optional;", sig := { parameters := [], returnType := some (.object "java/util/Optional") }, accessFlags := 9, code := some k12c0 }
def k12c1 : Code := { maxStack := 2, maxLocals := 2, code := jdk_32_method_2_code, exceptionTable := #[], attributes := #[] }
def k12m1 : Method := { name := "<init>", desc := "(Ljava/lang/Object;)V", sig := { parameters := [(.object "java/lang/Object")], returnType := none }, accessFlags := 2, code := some k12c1 }
def k12c2 : Code := { maxStack := 3, maxLocals := 1, code := jdk_32_method_3_code, exceptionTable := #[], attributes := #[] }
def k12m2 : Method := { name := "of", desc := "(Ljava/lang/Object;)Ljava/util/Optional;", sig := { parameters := [(.object "java/lang/Object")], returnType := some (.object "java/util/Optional") }, accessFlags := 9, code := some k12c2 }
def k12c3 : Code := { maxStack := 3, maxLocals := 1, code := jdk_32_method_4_code, exceptionTable := #[], attributes := #[] }
def k12m3 : Method := { name := "ofNullable", desc := "(Ljava/lang/Object;)Ljava/util/Optional;", sig := { parameters := [(.object "java/lang/Object")], returnType := some (.object "java/util/Optional") }, accessFlags := 9, code := some k12c3 }
def k12c4 : Code := { maxStack := 1, maxLocals := 1, code := jdk_32_method_7_code, exceptionTable := #[], attributes := #[] }
def k12m4 : Method := { name := "isEmpty", desc := "()Z", sig := { parameters := [], returnType := some .boolean }, accessFlags := 1, code := some k12c4 }
def k12c5 : Code := { maxStack := 2, maxLocals := 2, code := jdk_32_method_11_code, exceptionTable := #[], attributes := #[] }
def k12m5 : Method := { name := "map", desc := "(Ljava/util/function/Function;)Ljava/util/Optional;", sig := { parameters := [(.object "java/util/function/Function")], returnType := some (.object "java/util/Optional") }, accessFlags := 1, code := some k12c5 }
def k12c6 : Code := { maxStack := 1, maxLocals := 2, code := jdk_32_method_15_code, exceptionTable := #[], attributes := #[] }
def k12m6 : Method := { name := "orElse", desc := "(Ljava/lang/Object;)Ljava/lang/Object;", sig := { parameters := [(.object "java/lang/Object")], returnType := some (.object "java/lang/Object") }, accessFlags := 1, code := some k12c6 }
/-- java/util/Optional -/
def k12 : Class := { plain "java/util/Optional" (some 0) with
  accessFlags := 49
  interfaces := #[]
  cf := some (fileOf pool12 2 #[] #[{ accessFlags := 9, nameIndex := 55, descriptorIndex := 56, attributes := #[] }, { accessFlags := 2, nameIndex := 11, descriptorIndex := 25, attributes := #[] }, { accessFlags := 9, nameIndex := 82, descriptorIndex := 65, attributes := #[] }, { accessFlags := 9, nameIndex := 64, descriptorIndex := 65, attributes := #[] }, { accessFlags := 1, nameIndex := 45, descriptorIndex := 46, attributes := #[] }, { accessFlags := 1, nameIndex := 146, descriptorIndex := 147, attributes := #[] }, { accessFlags := 1, nameIndex := 165, descriptorIndex := 22, attributes := #[] }] 49 8 #[] #[{ accessFlags := 26, nameIndex := 5, descriptorIndex := 6, attributes := #[] }, { accessFlags := 18, nameIndex := 15, descriptorIndex := 16, attributes := #[] }])
  fields := #[{ name := "EMPTY", type := (.object "java/util/Optional"), accessFlags := 26, slot := 0, constantValue := 0 }, { name := "value", type := (.object "java/lang/Object"), accessFlags := 18, slot := 0, constantValue := 0 }]
  methods := #[k12m0, k12m1, k12m2, k12m3, k12m4, k12m5, k12m6]
  instanceTypes := #[(.object "java/lang/Object")]
  staticTypes := #[(.object "java/util/Optional")]
  resolved := Array.replicate 187 none
  statics := some 1 }

def pool13 : Array CpInfo := pool [(2, .class_ 4), (1, u "java/lang/Object"), (0, u "<init>"), (0, u "()V"), (35, .class_ 44), (1, u "java/util/Objects"), (0, u "requireNonNull"), (0, u "(Ljava/lang/Object;)Ljava/lang/Object;")] 137

def k13m0 : Method := { name := "<init>", desc := "()V", sig := { parameters := [], returnType := none }, accessFlags := 2, code := none }
def k13c1 : Code := { maxStack := 2, maxLocals := 1, code := jdk_31_method_10_code, exceptionTable := #[], attributes := #[] }
def k13m1 : Method := { name := "requireNonNull", desc := "(Ljava/lang/Object;)Ljava/lang/Object;", sig := { parameters := [(.object "java/lang/Object")], returnType := some (.object "java/lang/Object") }, accessFlags := 9, code := some k13c1 }
/-- java/util/Objects -/
def k13 : Class := { plain "java/util/Objects" (some 0) with
  accessFlags := 49
  interfaces := #[]
  cf := some (fileOf pool13 42 #[] #[{ accessFlags := 2, nameIndex := 5, descriptorIndex := 6, attributes := #[] }, { accessFlags := 9, nameIndex := 45, descriptorIndex := 46, attributes := #[] }] 49 2 #[] #[])
  fields := #[]
  methods := #[k13m0, k13m1]
  instanceTypes := #[]
  staticTypes := #[]
  resolved := Array.replicate 184 none
  statics := none }

def pool14 : Array CpInfo := pool [(6, u "(Ljava/lang/Object;)Ljava/lang/Object;"), (2, u "apply"), (6, .class_ 18), (1, u "java/util/function/Function"), (0, .class_ 20), (0, u "java/lang/Object")] 56

def k14m0 : Method := { name := "apply", desc := "(Ljava/lang/Object;)Ljava/lang/Object;", sig := { parameters := [(.object "java/lang/Object")], returnType := some (.object "java/lang/Object") }, accessFlags := 1025, code := none }
/-- java/util/function/Function -/
def k14 : Class := { plain "java/util/function/Function" (some 0) with
  accessFlags := 1537
  interfaces := #[]
  cf := some (fileOf pool14 16 #[] #[{ accessFlags := 1025, nameIndex := 9, descriptorIndex := 6, attributes := #[] }] 1537 19 #[] #[])
  fields := #[]
  methods := #[k14m0]
  instanceTypes := #[]
  staticTypes := #[]
  resolved := Array.replicate 77 none
  statics := none }

def pool15 : Array CpInfo := pool [(1, .class_ 2), (0, u "java/lang/Appendable"), (0, .class_ 4), (0, u "java/lang/Object")] 9

/-- java/lang/Appendable -/
def k15 : Class := { plain "java/lang/Appendable" (some 0) with
  accessFlags := 1537
  interfaces := #[]
  cf := some (fileOf pool15 1 #[] #[] 1537 3 #[] #[])
  fields := #[]
  methods := #[]
  instanceTypes := #[]
  staticTypes := #[]
  resolved := Array.replicate 14 none
  statics := none }

def pool16 : Array CpInfo := pool [(1, .class_ 2), (0, u "java/lang/String"), (0, .methodref 4 5), (0, .class_ 6), (0, .nameAndType 7 8), (0, u "java/lang/Object"), (0, u "<init>"), (0, u "()V"), (1, .class_ 12), (1, u "java/lang/AbstractStringBuilder"), (0, u "EMPTYVALUE"), (0, u "[B"), (0, .fieldref 10 16), (0, .nameAndType 17 14), (0, u "value"), (0, .fieldref 1 19), (0, .nameAndType 20 21), (0, u "COMPACT_STRINGS"), (0, u "Z"), (0, .fieldref 10 23), (0, .nameAndType 24 25), (0, u "coder"), (0, u "B"), (6, .methodref 1 33), (0, .nameAndType 34 35), (0, u "length"), (0, u "()I"), (4, .methodref 1 41), (0, .nameAndType 24 42), (0, u "()B"), (2, u "append"), (0, u "(Ljava/lang/String;)Ljava/lang/AbstractStringBuilder;"), (1, .class_ 49), (0, u "java/lang/CharSequence"), (19, u "(Ljava/lang/String;)V"), (5, u "maybeLatin1"), (3, .fieldref 10 80), (0, .nameAndType 81 82), (0, u "count"), (0, u "I"), (2, u "isLatin1"), (0, u "()Z"), (13, .methodref 10 101), (0, .nameAndType 102 103), (0, u "ensureCapacityInternal"), (0, u "(I)V"), (104, .methodref 10 209), (0, .nameAndType 210 211), (0, u "putStringAt"), (0, u "(ILjava/lang/String;)V"), (5, u "inflateIfNeededFor"), (2, .nameAndType 221 222), (0, u "getBytes"), (0, u "([BIB)V"), (174, .methodref 10 398), (0, .nameAndType 217 69), (0, .methodref 1 220), (3, u "()[B"), (40, .class_ 445), (0, u "java/lang/Appendable"), (106, u "getValue")] 56

def k16m0 : Method := { name := "<init>", desc := "()V", sig := { parameters := [], returnType := none }, accessFlags := 0, code := none }
def k16c1 : Code := { maxStack := 2, maxLocals := 2, code := jdk_68_method_2_code, exceptionTable := #[], attributes := #[] }
def k16m1 : Method := { name := "<init>", desc := "(I)V", sig := { parameters := [.int], returnType := none }, accessFlags := 0, code := some k16c1 }
def k16c2 : Code := { maxStack := 1, maxLocals := 1, code := jdk_68_method_6_code, exceptionTable := #[], attributes := #[] }
def k16m2 : Method := { name := "length", desc := "()I", sig := { parameters := [], returnType := some .int }, accessFlags := 1, code := some k16c2 }
def k16c3 : Code := { maxStack := 4, maxLocals := 3, code := jdk_68_method_9_code, exceptionTable := #[], attributes := #[] }
def k16m3 : Method := { name := "ensureCapacityInternal", desc := "(I)V", sig := { parameters := [.int], returnType := none }, accessFlags := 2, code := some k16c3 }
def k16c4 : Code := { maxStack := 3, maxLocals := 3, code := jdk_68_method_22_code, exceptionTable := #[], attributes := #[] }
def k16m4 : Method := { name := "append", desc := "(Ljava/lang/String;)Ljava/lang/AbstractStringBuilder;", sig := { parameters := [(.object "java/lang/String")], returnType := some (.object "java/lang/AbstractStringBuilder") }, accessFlags := 1, code := some k16c4 }
def k16c5 : Code := { maxStack := 1, maxLocals := 1, code := jdk_68_method_64_code, exceptionTable := #[], attributes := #[] }
def k16m5 : Method := { name := "getValue", desc := "()[B", sig := { parameters := [], returnType := some (.array .byte) }, accessFlags := 16, code := some k16c5 }
def k16c6 : Code := { maxStack := 1, maxLocals := 1, code := jdk_68_method_68_code, exceptionTable := #[], attributes := #[] }
def k16m6 : Method := { name := "isLatin1", desc := "()Z", sig := { parameters := [], returnType := some .boolean }, accessFlags := 16, code := some k16c6 }
def k16c7 : Code := { maxStack := 2, maxLocals := 2, code := jdk_68_method_71_code, exceptionTable := #[], attributes := #[] }
def k16m7 : Method := { name := "inflateIfNeededFor", desc := "(Ljava/lang/String;)V", sig := { parameters := [(.object "java/lang/String")], returnType := none }, accessFlags := 2, code := some k16c7 }
def k16c8 : Code := { maxStack := 4, maxLocals := 3, code := jdk_68_method_73_code, exceptionTable := #[], attributes := #[] }
def k16m8 : Method := { name := "putStringAt", desc := "(ILjava/lang/String;)V", sig := { parameters := [.int, (.object "java/lang/String")], returnType := none }, accessFlags := 2, code := some k16c8 }
/-- java/lang/AbstractStringBuilder -/
def k16 : Class := { plain "java/lang/AbstractStringBuilder" (some 0) with
  accessFlags := 1056
  interfaces := #[15, 4]
  cf := some (fileOf pool16 10 #[] #[{ accessFlags := 0, nameIndex := 7, descriptorIndex := 8, attributes := #[] }, { accessFlags := 0, nameIndex := 7, descriptorIndex := 103, attributes := #[] }, { accessFlags := 1, nameIndex := 34, descriptorIndex := 35, attributes := #[] }, { accessFlags := 2, nameIndex := 102, descriptorIndex := 103, attributes := #[] }, { accessFlags := 1, nameIndex := 45, descriptorIndex := 46, attributes := #[] }, { accessFlags := 16, nameIndex := 552, descriptorIndex := 403, attributes := #[] }, { accessFlags := 16, nameIndex := 85, descriptorIndex := 86, attributes := #[] }, { accessFlags := 2, nameIndex := 217, descriptorIndex := 69, attributes := #[] }, { accessFlags := 2, nameIndex := 210, descriptorIndex := 211, attributes := #[] }] 1056 4 #[444, 48] #[{ accessFlags := 0, nameIndex := 17, descriptorIndex := 14, attributes := #[] }, { accessFlags := 0, nameIndex := 24, descriptorIndex := 25, attributes := #[] }, { accessFlags := 0, nameIndex := 75, descriptorIndex := 21, attributes := #[] }, { accessFlags := 0, nameIndex := 81, descriptorIndex := 82, attributes := #[] }, { accessFlags := 26, nameIndex := 13, descriptorIndex := 14, attributes := #[] }])
  fields := #[{ name := "value", type := (.array .byte), accessFlags := 0, slot := 0, constantValue := 0 }, { name := "coder", type := .byte, accessFlags := 0, slot := 1, constantValue := 0 }, { name := "maybeLatin1", type := .boolean, accessFlags := 0, slot := 2, constantValue := 0 }, { name := "count", type := .int, accessFlags := 0, slot := 3, constantValue := 0 }, { name := "EMPTYVALUE", type := (.array .byte), accessFlags := 26, slot := 0, constantValue := 0 }]
  methods := #[k16m0, k16m1, k16m2, k16m3, k16m4, k16m5, k16m6, k16m7, k16m8]
  instanceTypes := #[(.array .byte), .byte, .boolean, .int]
  staticTypes := #[(.array .byte)]
  resolved := Array.replicate 609 none
  statics := none }

def pool17 : Array CpInfo := pool [(1, .methodref 2 3), (0, .class_ 4), (0, .nameAndType 5 6), (0, u "java/lang/AbstractStringBuilder"), (0, u "<init>"), (0, u "(I)V"), (11, .class_ 20), (1, u "java/lang/String"), (3, .class_ 26), (1, u "java/lang/StringBuilder"), (0, u "append"), (0, u "(Ljava/lang/String;)Ljava/lang/StringBuilder;"), (0, .methodref 2 30), (0, .nameAndType 27 31), (0, u "(Ljava/lang/String;)Ljava/lang/AbstractStringBuilder;"), (105, .methodref 18 138), (0, .nameAndType 5 139), (0, u "(Ljava/lang/StringBuilder;)V"), (5, u "()V"), (10, u "()I"), (186, .methodref 2 344), (0, .nameAndType 345 156), (0, u "length"), (3, .class_ 350), (0, u "java/lang/Appendable"), (0, .class_ 352), (0, u "java/io/Serializable"), (0, .class_ 354), (0, u "java/lang/Comparable"), (0, .class_ 356), (0, u "java/lang/CharSequence"), (0, u "serialVersionUID"), (0, u "J"), (40, u "toString"), (0, u "()Ljava/lang/String;")] 21

def k17c0 : Code := { maxStack := 2, maxLocals := 1, code := jdk_67_method_1_code, exceptionTable := #[], attributes := #[] }
def k17m0 : Method := { name := "<init>", desc := "()V", sig := { parameters := [], returnType := none }, accessFlags := 1, code := some k17c0 }
def k17c1 : Code := { maxStack := 2, maxLocals := 2, code := jdk_67_method_7_code, exceptionTable := #[], attributes := #[] }
def k17m1 : Method := { name := "append", desc := "(Ljava/lang/String;)Ljava/lang/StringBuilder;", sig := { parameters := [(.object "java/lang/String")], returnType := some (.object "java/lang/StringBuilder") }, accessFlags := 1, code := some k17c1 }
def k17c2 : Code := { maxStack := 3, maxLocals := 1, code := jdk_67_method_42_code, exceptionTable := #[], attributes := #[] }
def k17m2 : Method := { name := "toString", desc := "()Ljava/lang/String;", sig := { parameters := [], returnType := some (.object "java/lang/String") }, accessFlags := 1, code := some k17c2 }
def k17c3 : Code := { maxStack := 1, maxLocals := 1, code := jdk_67_method_93_code, exceptionTable := #[], attributes := #[] }
def k17m3 : Method := { name := "length", desc := "()I", sig := { parameters := [], returnType := some .int }, accessFlags := 4161, code := some k17c3 }
/-- java/lang/StringBuilder -/
def k17 : Class := { plain "java/lang/StringBuilder" (some 16) with
  accessFlags := 49
  interfaces := #[15, 2, 3, 4]
  cf := some (fileOf pool17 24 #[] #[{ accessFlags := 1, nameIndex := 5, descriptorIndex := 145, attributes := #[] }, { accessFlags := 1, nameIndex := 27, descriptorIndex := 28, attributes := #[] }, { accessFlags := 1, nameIndex := 399, descriptorIndex := 400, attributes := #[] }, { accessFlags := 4161, nameIndex := 345, descriptorIndex := 156, attributes := #[] }] 49 2 #[349, 351, 353, 355] #[{ accessFlags := 24, nameIndex := 357, descriptorIndex := 358, attributes := #[] }])
  fields := #[{ name := "serialVersionUID", type := .long, accessFlags := 24, slot := 0, constantValue := 0 }]
  methods := #[k17m0, k17m1, k17m2, k17m3]
  instanceTypes := #[(.array .byte), .byte, .boolean, .int]
  staticTypes := #[.long]
  resolved := Array.replicate 422 none
  statics := none }

def pool18 : Array CpInfo := pool [(2, .class_ 4), (1, u "java/lang/Object"), (0, u "<init>"), (0, u "()V"), (17, .class_ 26), (1, u "jdk/internal/util/Preconditions"), (6, u "checkIndex"), (13, u "checkFromToIndex"), (7, .class_ 56), (0, u "jdk/internal/util/Preconditions$4"), (57, .class_ 115), (0, u "jdk/internal/util/Preconditions$1"), (7, u "SIOOBE_FORMATTER"), (0, u "Ljava/util/function/BiFunction;"), (0, .class_ 126), (0, u "jdk/internal/util/Preconditions$2"), (3, u "AIOOBE_FORMATTER"), (0, .class_ 132), (0, u "jdk/internal/util/Preconditions$3"), (3, u "IOOBE_FORMATTER"), (41, u "(IILjava/util/function/BiFunction;)I"), (4, u "(IIILjava/util/function/BiFunction;)I")] 10

def k18m0 : Method := { name := "<init>", desc := "()V", sig := { parameters := [], returnType := none }, accessFlags := 1, code := none }
def k18c1 : Code := { maxStack := 3, maxLocals := 3, code := jdk_41_method_11_code, exceptionTable := #[], attributes := #[] }
def k18m1 : Method := { name := "checkIndex", desc := "(IILjava/util/function/BiFunction;)I", sig := { parameters := [.int, .int, (.object "java/util/function/BiFunction")], returnType := some .int }, accessFlags := 9, code := some k18c1 }
def k18c2 : Code := { maxStack := 4, maxLocals := 4, code := jdk_41_method_12_code, exceptionTable := #[], attributes := #[] }
def k18m2 : Method := { name := "checkFromToIndex", desc := "(IIILjava/util/function/BiFunction;)I", sig := { parameters := [.int, .int, .int, (.object "java/util/function/BiFunction")], returnType := some .int }, accessFlags := 9, code := some k18c2 }
/-- jdk/internal/util/Preconditions -/
def k18 : Class := { plain "jdk/internal/util/Preconditions" (some 0) with
  accessFlags := 33
  interfaces := #[]
  cf := some (fileOf pool18 24 #[.nestMembers #[55, 131, 125, 114]] #[{ accessFlags := 1, nameIndex := 5, descriptorIndex := 6, attributes := #[] }, { accessFlags := 9, nameIndex := 33, descriptorIndex := 178, attributes := #[] }, { accessFlags := 9, nameIndex := 47, descriptorIndex := 183, attributes := #[] }] 33 2 #[] #[{ accessFlags := 25, nameIndex := 123, descriptorIndex := 124, attributes := #[] }, { accessFlags := 25, nameIndex := 130, descriptorIndex := 124, attributes := #[] }, { accessFlags := 25, nameIndex := 136, descriptorIndex := 124, attributes := #[] }])
  fields := #[{ name := "SIOOBE_FORMATTER", type := (.object "java/util/function/BiFunction"), accessFlags := 25, slot := 0, constantValue := 0 }, { name := "AIOOBE_FORMATTER", type := (.object "java/util/function/BiFunction"), accessFlags := 25, slot := 1, constantValue := 0 }, { name := "IOOBE_FORMATTER", type := (.object "java/util/function/BiFunction"), accessFlags := 25, slot := 2, constantValue := 0 }]
  methods := #[k18m0, k18m1, k18m2]
  instanceTypes := #[]
  staticTypes := #[(.object "java/util/function/BiFunction"), (.object "java/util/function/BiFunction"), (.object "java/util/function/BiFunction")]
  resolved := Array.replicate 194 none
  statics := some 2 }

def pool19 : Array CpInfo := pool [(1, .class_ 2), (0, u "java/lang/String"), (1, .class_ 6), (1, u "java/lang/Object"), (0, u "<init>"), (0, u "()V"), (0, .methodref 1 10), (0, .nameAndType 11 12), (0, u "checkIndex"), (0, u "(II)V"), (1, .class_ 16), (1, u "java/lang/StringLatin1"), (36, u "([BI)C"), (58, .methodref 1 113), (0, .nameAndType 7 114), (0, u "([BB)V"), (6, u "$assertionsDisabled"), (0, u "Z"), (8, .class_ 133), (1, u "java/util/Arrays"), (62, u "newString"), (0, u "([BII)Ljava/lang/String;"), (23, .class_ 223), (1, u "java/lang/StringLatin1$LinesSpliterator"), (8, .methodref 131 233), (0, .nameAndType 234 235), (0, u "copyOfRange"), (0, u "([BII)[B"), (16, u "charAt"), (137, .class_ 391), (0, u "java/lang/StringLatin1$CharsSpliterator")] 3

def k19m0 : Method := { name := "<init>", desc := "()V", sig := { parameters := [], returnType := none }, accessFlags := 0, code := none }
def k19c1 : Code := { maxStack := 2, maxLocals := 2, code := jdk_43_method_2_code, exceptionTable := #[], attributes := #[] }
def k19m1 : Method := { name := "charAt", desc := "([BI)C", sig := { parameters := [(.array .byte), .int], returnType := some .char }, accessFlags := 9, code := some k19c1 }
def k19c2 : Code := { maxStack := 6, maxLocals := 3, code := jdk_43_method_47_code, exceptionTable := #[], attributes := #[] }
def k19m2 : Method := { name := "newString", desc := "([BII)Ljava/lang/String;", sig := { parameters := [(.array .byte), .int, .int], returnType := some (.object "java/lang/String") }, accessFlags := 9, code := some k19c2 }
/-- java/lang/StringLatin1 -/
def k19 : Class := { plain "java/lang/StringLatin1" (some 0) with
  accessFlags := 48
  interfaces := #[]
  cf := some (fileOf pool19 14 #[.nestMembers #[390, 221]] #[{ accessFlags := 0, nameIndex := 7, descriptorIndex := 8, attributes := #[] }, { accessFlags := 9, nameIndex := 252, descriptorIndex := 53, attributes := #[] }, { accessFlags := 9, nameIndex := 196, descriptorIndex := 197, attributes := #[] }] 48 4 #[] #[{ accessFlags := 4120, nameIndex := 121, descriptorIndex := 122, attributes := #[] }])
  fields := #[{ name := "$assertionsDisabled", type := .boolean, accessFlags := 4120, slot := 0, constantValue := 0 }]
  methods := #[k19m0, k19m1, k19m2]
  instanceTypes := #[]
  staticTypes := #[.boolean]
  resolved := Array.replicate 395 none
  statics := none }

def pool20 : Array CpInfo := pool [(2, .class_ 4), (1, u "java/lang/Object"), (0, u "<init>"), (0, u "()V"), (7, .class_ 16), (1, u "java/util/Arrays"), (57, .class_ 76), (1, u "java/util/Arrays$NaturalOrder"), (36, .class_ 115), (1, u "java/util/Arrays$LegacyMergeSort"), (1, u "Z"), (21, u "copyOfRange"), (10, .methodref 151 152), (0, .class_ 153), (0, .nameAndType 154 155), (0, u "java/lang/System"), (0, u "arraycopy"), (0, u "(Ljava/lang/Object;ILjava/lang/Object;II)V"), (148, .methodref 305 306), (0, .class_ 307), (0, .nameAndType 308 309), (0, u "java/lang/Math"), (0, u "min"), (0, u "(II)I"), (29, .methodref 14 340), (0, .nameAndType 341 342), (0, u "copyOfRangeByte"), (0, u "([BII)[B"), (0, .methodref 14 344), (0, .nameAndType 345 346), (0, u "checkLength"), (0, u "(II)V"), (28, .class_ 376), (0, u "java/util/Arrays$ArrayList"), (68, u "$assertionsDisabled"), (269, u "MIN_ARRAY_SORT_GRAN"), (0, u "I"), (2, u "INSERTIONSORT_THRESHOLD"), (255, .class_ 976), (0, u "java/util/Arrays$ArrayItr")] 52

def k20m0 : Method := { name := "<init>", desc := "()V", sig := { parameters := [], returnType := none }, accessFlags := 2, code := none }
def k20c1 : Code := { maxStack := 4, maxLocals := 2, code := jdk_65_method_131_code, exceptionTable := #[], attributes := #[] }
def k20m1 : Method := { name := "checkLength", desc := "(II)V", sig := { parameters := [.int, .int], returnType := none }, accessFlags := 10, code := some k20c1 }
def k20c2 : Code := { maxStack := 3, maxLocals := 3, code := jdk_65_method_132_code, exceptionTable := #[], attributes := #[] }
def k20m2 : Method := { name := "copyOfRange", desc := "([BII)[B", sig := { parameters := [(.array .byte), .int, .int], returnType := some (.array .byte) }, accessFlags := 9, code := some k20c2 }
def k20c3 : Code := { maxStack := 6, maxLocals := 5, code := jdk_65_method_133_code, exceptionTable := #[], attributes := #[] }
def k20m3 : Method := { name := "copyOfRangeByte", desc := "([BII)[B", sig := { parameters := [(.array .byte), .int, .int], returnType := some (.array .byte) }, accessFlags := 10, code := some k20c3 }
/-- java/util/Arrays -/
def k20 : Class := { plain "java/util/Arrays" (some 0) with
  accessFlags := 49
  interfaces := #[]
  cf := some (fileOf pool20 14 #[.nestMembers #[975, 375, 113, 74]] #[{ accessFlags := 2, nameIndex := 5, descriptorIndex := 6, attributes := #[] }, { accessFlags := 10, nameIndex := 345, descriptorIndex := 346, attributes := #[] }, { accessFlags := 9, nameIndex := 139, descriptorIndex := 342, attributes := #[] }, { accessFlags := 10, nameIndex := 341, descriptorIndex := 342, attributes := #[] }] 49 2 #[] #[{ accessFlags := 26, nameIndex := 715, descriptorIndex := 716, attributes := #[] }, { accessFlags := 26, nameIndex := 719, descriptorIndex := 716, attributes := #[] }, { accessFlags := 4120, nameIndex := 445, descriptorIndex := 117, attributes := #[] }])
  fields := #[{ name := "MIN_ARRAY_SORT_GRAN", type := .int, accessFlags := 26, slot := 0, constantValue := 0 }, { name := "INSERTIONSORT_THRESHOLD", type := .int, accessFlags := 26, slot := 1, constantValue := 0 }, { name := "$assertionsDisabled", type := .boolean, accessFlags := 4120, slot := 2, constantValue := 0 }]
  methods := #[k20m0, k20m1, k20m2, k20m3]
  instanceTypes := #[]
  staticTypes := #[.int, .int, .boolean]
  resolved := Array.replicate 1029 none
  statics := none }

def pool21 : Array CpInfo := pool [(1, .class_ 2), (0, u "java/lang/Math"), (1, .class_ 6), (1, u "java/lang/Object"), (0, u "<init>"), (0, u "()V"), (89, .class_ 100), (1, u "java/lang/Math$RandomNumberGeneratorHolder"), (71, u "negativeZeroFloatBits"), (0, u "J"), (2, u "negativeZeroDoubleBits"), (24, u "min"), (43, u "$assertionsDisabled"), (0, u "Z"), (88, u "(II)I"), (2, u "twoToTheDoubleScaleDown"), (0, u "D"), (4, u "twoToTheDoubleScaleUp"), (9, u "E"), (3, u "PI"), (2, u "TAU"), (2, u "DEGREES_TO_RADIANS"), (0, u "RADIANS_TO_DEGREES")] 94

def k21m0 : Method := { name := "<init>", desc := "()V", sig := { parameters := [], returnType := none }, accessFlags := 2, code := none }
def k21c1 : Code := { maxStack := 2, maxLocals := 2, code := jdk_29_method_69_code, exceptionTable := #[], attributes := #[] }
def k21m1 : Method := { name := "min", desc := "(II)I", sig := { parameters := [.int, .int], returnType := some .int }, accessFlags := 9, code := some k21c1 }
/-- java/lang/Math -/
def k21 : Class := { plain "java/lang/Math" (some 0) with
  accessFlags := 49
  interfaces := #[]
  cf := some (fileOf pool21 1 #[.nestMembers #[98]] #[{ accessFlags := 2, nameIndex := 7, descriptorIndex := 8, attributes := #[] }, { accessFlags := 9, nameIndex := 201, descriptorIndex := 335, attributes := #[] }] 49 4 #[] #[{ accessFlags := 25, nameIndex := 354, descriptorIndex := 339, attributes := #[] }, { accessFlags := 25, nameIndex := 358, descriptorIndex := 339, attributes := #[] }, { accessFlags := 25, nameIndex := 361, descriptorIndex := 339, attributes := #[] }, { accessFlags := 26, nameIndex := 364, descriptorIndex := 339, attributes := #[] }, { accessFlags := 26, nameIndex := 365, descriptorIndex := 339, attributes := #[] }, { accessFlags := 26, nameIndex := 172, descriptorIndex := 173, attributes := #[] }, { accessFlags := 26, nameIndex := 176, descriptorIndex := 173, attributes := #[] }, { accessFlags := 8, nameIndex := 344, descriptorIndex := 339, attributes := #[] }, { accessFlags := 8, nameIndex := 338, descriptorIndex := 339, attributes := #[] }, { accessFlags := 4120, nameIndex := 245, descriptorIndex := 246, attributes := #[] }])
  fields := #[{ name := "E", type := .double, accessFlags := 25, slot := 0, constantValue := 0 }, { name := "PI", type := .double, accessFlags := 25, slot := 1, constantValue := 0 }, { name := "TAU", type := .double, accessFlags := 25, slot := 2, constantValue := 0 }, { name := "DEGREES_TO_RADIANS", type := .double, accessFlags := 26, slot := 3, constantValue := 0 }, { name := "RADIANS_TO_DEGREES", type := .double, accessFlags := 26, slot := 4, constantValue := 0 }, { name := "negativeZeroFloatBits", type := .long, accessFlags := 26, slot := 5, constantValue := 0 }, { name := "negativeZeroDoubleBits", type := .long, accessFlags := 26, slot := 6, constantValue := 0 }, { name := "twoToTheDoubleScaleUp", type := .double, accessFlags := 8, slot := 7, constantValue := 0 }, { name := "twoToTheDoubleScaleDown", type := .double, accessFlags := 8, slot := 8, constantValue := 0 }, { name := "$assertionsDisabled", type := .boolean, accessFlags := 4120, slot := 9, constantValue := 0 }]
  methods := #[k21m0, k21m1]
  instanceTypes := #[]
  staticTypes := #[.double, .double, .double, .double, .double, .long, .long, .double, .double, .boolean]
  resolved := Array.replicate 460 none
  statics := none }

def pool22 : Array CpInfo := pool [(2, .class_ 4), (1, u "java/lang/Object"), (0, u "<init>"), (0, u "()V"), (1, .class_ 10), (1, u "java/lang/System"), (0, u "allowSecurityManager"), (0, u "I"), (16, u "cons"), (0, u "Ljava/io/Console;"), (77, .class_ 110), (1, u "java/lang/System$CallersHolder"), (43, u "initialErrStream"), (0, u "Ljava/io/PrintStream;"), (19, u "security"), (0, u "Ljava/lang/SecurityManager;"), (31, .class_ 209), (0, u "java/lang/System$1"), (7, u "props"), (0, u "Ljava/util/Properties;"), (2, u "lineSeparator"), (0, u "Ljava/lang/String;"), (96, .class_ 321), (1, u "java/lang/System$LoggerFinder"), (5, .class_ 328), (0, u "java/lang/System$Logger"), (67, u "err"), (2, u "out"), (91, u "notSupportedJnuEncoding"), (15, u "in"), (17, u "initialIn"), (0, u "Ljava/io/InputStream;"), (35, u "bootLayer"), (0, u "Ljava/lang/ModuleLayer;"), (99, .class_ 664), (0, u "java/lang/System$2"), (9, u "NEVER"), (2, u "MAYBE"), (49, u "arraycopy"), (0, u "(Ljava/lang/Object;ILjava/lang/Object;II)V"), (72, .class_ 802), (0, u "java/lang/System$Logger$Level")] 31

def k22m0 : Method := { name := "<init>", desc := "()V", sig := { parameters := [], returnType := none }, accessFlags := 2, code := none }
def k22m1 : Method := { name := "arraycopy", desc := "(Ljava/lang/Object;ILjava/lang/Object;II)V", sig := { parameters := [(.object "java/lang/Object"), .int, (.object "java/lang/Object"), .int, .int], returnType := none }, accessFlags := 265, code := none }
/-- java/lang/System -/
def k22 : Class := { plain "java/lang/System" (some 0) with
  accessFlags := 49
  interfaces := #[]
  cf := some (fileOf pool22 8 #[.nestMembers #[319, 327, 801, 108, 663, 208]] #[{ accessFlags := 2, nameIndex := 5, descriptorIndex := 6, attributes := #[] }, { accessFlags := 265, nameIndex := 727, descriptorIndex := 728, attributes := #[] }] 49 2 #[] #[{ accessFlags := 25, nameIndex := 507, descriptorIndex := 526, attributes := #[] }, { accessFlags := 25, nameIndex := 399, descriptorIndex := 155, attributes := #[] }, { accessFlags := 25, nameIndex := 396, descriptorIndex := 155, attributes := #[] }, { accessFlags := 10, nameIndex := 525, descriptorIndex := 526, attributes := #[] }, { accessFlags := 26, nameIndex := 674, descriptorIndex := 12, attributes := #[] }, { accessFlags := 26, nameIndex := 677, descriptorIndex := 12, attributes := #[] }, { accessFlags := 10, nameIndex := 11, descriptorIndex := 12, attributes := #[] }, { accessFlags := 74, nameIndex := 175, descriptorIndex := 176, attributes := #[] }, { accessFlags := 10, nameIndex := 491, descriptorIndex := 222, attributes := #[] }, { accessFlags := 74, nameIndex := 29, descriptorIndex := 30, attributes := #[] }, { accessFlags := 74, nameIndex := 154, descriptorIndex := 155, attributes := #[] }, { accessFlags := 10, nameIndex := 217, descriptorIndex := 218, attributes := #[] }, { accessFlags := 10, nameIndex := 221, descriptorIndex := 222, attributes := #[] }, { accessFlags := 8, nameIndex := 562, descriptorIndex := 563, attributes := #[] }])
  fields := #[{ name := "in", type := (.object "java/io/InputStream"), accessFlags := 25, slot := 0, constantValue := 0 }, { name := "out", type := (.object "java/io/PrintStream"), accessFlags := 25, slot := 1, constantValue := 0 }, { name := "err", type := (.object "java/io/PrintStream"), accessFlags := 25, slot := 2, constantValue := 0 }, { name := "initialIn", type := (.object "java/io/InputStream"), accessFlags := 10, slot := 3, constantValue := 0 }, { name := "NEVER", type := .int, accessFlags := 26, slot := 4, constantValue := 0 }, { name := "MAYBE", type := .int, accessFlags := 26, slot := 5, constantValue := 0 }, { name := "allowSecurityManager", type := .int, accessFlags := 10, slot := 6, constantValue := 0 }, { name := "security", type := (.object "java/lang/SecurityManager"), accessFlags := 74, slot := 7, constantValue := 0 }, { name := "notSupportedJnuEncoding", type := (.object "java/lang/String"), accessFlags := 10, slot := 8, constantValue := 0 }, { name := "cons", type := (.object "java/io/Console"), accessFlags := 74, slot := 9, constantValue := 0 }, { name := "initialErrStream", type := (.object "java/io/PrintStream"), accessFlags := 74, slot := 10, constantValue := 0 }, { name := "props", type := (.object "java/util/Properties"), accessFlags := 10, slot := 11, constantValue := 0 }, { name := "lineSeparator", type := (.object "java/lang/String"), accessFlags := 10, slot := 12, constantValue := 0 }, { name := "bootLayer", type := (.object "java/lang/ModuleLayer"), accessFlags := 8, slot := 13, constantValue := 0 }]
  methods := #[k22m0, k22m1]
  instanceTypes := #[]
  staticTypes := #[(.object "java/io/InputStream"), (.object "java/io/PrintStream"), (.object "java/io/PrintStream"), (.object "java/io/InputStream"), .int, .int, .int, (.object "java/lang/SecurityManager"), (.object "java/lang/String"), (.object "java/io/Console"), (.object "java/io/PrintStream"), (.object "java/util/Properties"), (.object "java/lang/String"), (.object "java/lang/ModuleLayer")]
  resolved := Array.replicate 834 none
  statics := none }

def pool23 : Array CpInfo := pool [(9, u "<init>"), (6, .class_ 18), (1, u "java/lang/Object"), (0, u "()V"), (1, .class_ 23), (1, u "jdk/internal/util/ArraysSupport"), (0, u "LOG2_ARRAY_LONG_INDEX_SCALE"), (0, u "I"), (2, u "U"), (0, u "Ljdk/internal/misc/Unsafe;"), (8, u "BIG_ENDIAN"), (0, u "Z"), (8, u "LOG2_BYTE_BIT_SIZE"), (4, u "LOG2_ARRAY_INT_INDEX_SCALE"), (54, u "JLA"), (0, u "Ljdk/internal/access/JavaLangAccess;"), (11, u "LOG2_ARRAY_BOOLEAN_INDEX_SCALE"), (9, u "LOG2_ARRAY_BYTE_INDEX_SCALE"), (5, u "LOG2_ARRAY_CHAR_INDEX_SCALE"), (5, u "LOG2_ARRAY_SHORT_INDEX_SCALE"), (18, u "LOG2_ARRAY_FLOAT_INDEX_SCALE"), (24, u "LOG2_ARRAY_DOUBLE_INDEX_SCALE"), (89, u "T_BOOLEAN"), (2, u "T_CHAR"), (1, u "T_FLOAT"), (1, u "T_DOUBLE"), (1, u "T_BYTE"), (1, u "T_SHORT"), (1, u "T_INT"), (1, u "T_LONG"), (1, u "SOFT_MAX_ARRAY_LENGTH")] 83

def k23m0 : Method := { name := "<init>", desc := "()V", sig := { parameters := [], returnType := none }, accessFlags := 2, code := none }
/-- jdk/internal/util/ArraysSupport -/
def k23 : Class := { plain "jdk/internal/util/ArraysSupport" (some 0) with
  accessFlags := 33
  interfaces := #[]
  cf := some (fileOf pool23 21 #[] #[{ accessFlags := 2, nameIndex := 9, descriptorIndex := 19, attributes := #[] }] 33 16 #[] #[{ accessFlags := 24, nameIndex := 28, descriptorIndex := 29, attributes := #[] }, { accessFlags := 26, nameIndex := 38, descriptorIndex := 39, attributes := #[] }, { accessFlags := 25, nameIndex := 121, descriptorIndex := 25, attributes := #[] }, { accessFlags := 25, nameIndex := 131, descriptorIndex := 25, attributes := #[] }, { accessFlags := 25, nameIndex := 137, descriptorIndex := 25, attributes := #[] }, { accessFlags := 25, nameIndex := 143, descriptorIndex := 25, attributes := #[] }, { accessFlags := 25, nameIndex := 53, descriptorIndex := 25, attributes := #[] }, { accessFlags := 25, nameIndex := 24, descriptorIndex := 25, attributes := #[] }, { accessFlags := 25, nameIndex := 162, descriptorIndex := 25, attributes := #[] }, { accessFlags := 25, nameIndex := 187, descriptorIndex := 25, attributes := #[] }, { accessFlags := 26, nameIndex := 48, descriptorIndex := 25, attributes := #[] }, { accessFlags := 25, nameIndex := 277, descriptorIndex := 25, attributes := #[] }, { accessFlags := 25, nameIndex := 280, descriptorIndex := 25, attributes := #[] }, { accessFlags := 25, nameIndex := 282, descriptorIndex := 25, attributes := #[] }, { accessFlags := 25, nameIndex := 284, descriptorIndex := 25, attributes := #[] }, { accessFlags := 25, nameIndex := 286, descriptorIndex := 25, attributes := #[] }, { accessFlags := 25, nameIndex := 288, descriptorIndex := 25, attributes := #[] }, { accessFlags := 25, nameIndex := 290, descriptorIndex := 25, attributes := #[] }, { accessFlags := 25, nameIndex := 292, descriptorIndex := 25, attributes := #[] }, { accessFlags := 26, nameIndex := 108, descriptorIndex := 109, attributes := #[] }, { accessFlags := 25, nameIndex := 294, descriptorIndex := 25, attributes := #[] }])
  fields := #[{ name := "U", type := (.object "jdk/internal/misc/Unsafe"), accessFlags := 24, slot := 0, constantValue := 0 }, { name := "BIG_ENDIAN", type := .boolean, accessFlags := 26, slot := 1, constantValue := 0 }, { name := "LOG2_ARRAY_BOOLEAN_INDEX_SCALE", type := .int, accessFlags := 25, slot := 2, constantValue := 0 }, { name := "LOG2_ARRAY_BYTE_INDEX_SCALE", type := .int, accessFlags := 25, slot := 3, constantValue := 0 }, { name := "LOG2_ARRAY_CHAR_INDEX_SCALE", type := .int, accessFlags := 25, slot := 4, constantValue := 0 }, { name := "LOG2_ARRAY_SHORT_INDEX_SCALE", type := .int, accessFlags := 25, slot := 5, constantValue := 0 }, { name := "LOG2_ARRAY_INT_INDEX_SCALE", type := .int, accessFlags := 25, slot := 6, constantValue := 0 }, { name := "LOG2_ARRAY_LONG_INDEX_SCALE", type := .int, accessFlags := 25, slot := 7, constantValue := 0 }, { name := "LOG2_ARRAY_FLOAT_INDEX_SCALE", type := .int, accessFlags := 25, slot := 8, constantValue := 0 }, { name := "LOG2_ARRAY_DOUBLE_INDEX_SCALE", type := .int, accessFlags := 25, slot := 9, constantValue := 0 }, { name := "LOG2_BYTE_BIT_SIZE", type := .int, accessFlags := 26, slot := 10, constantValue := 0 }, { name := "T_BOOLEAN", type := .int, accessFlags := 25, slot := 11, constantValue := 0 }, { name := "T_CHAR", type := .int, accessFlags := 25, slot := 12, constantValue := 0 }, { name := "T_FLOAT", type := .int, accessFlags := 25, slot := 13, constantValue := 0 }, { name := "T_DOUBLE", type := .int, accessFlags := 25, slot := 14, constantValue := 0 }, { name := "T_BYTE", type := .int, accessFlags := 25, slot := 15, constantValue := 0 }, { name := "T_SHORT", type := .int, accessFlags := 25, slot := 16, constantValue := 0 }, { name := "T_INT", type := .int, accessFlags := 25, slot := 17, constantValue := 0 }, { name := "T_LONG", type := .int, accessFlags := 25, slot := 18, constantValue := 0 }, { name := "JLA", type := (.object "jdk/internal/access/JavaLangAccess"), accessFlags := 26, slot := 19, constantValue := 0 }, { name := "SOFT_MAX_ARRAY_LENGTH", type := .int, accessFlags := 25, slot := 20, constantValue := 0 }]
  methods := #[k23m0]
  instanceTypes := #[]
  staticTypes := #[(.object "jdk/internal/misc/Unsafe"), .boolean, .int, .int, .int, .int, .int, .int, .int, .int, .int, .int, .int, .int, .int, .int, .int, .int, .int, (.object "jdk/internal/access/JavaLangAccess"), .int]
  resolved := Array.replicate 378 none
  statics := none }

def pool24 : Array CpInfo := pool [(1, u "java/lang/Cloneable"), (0, .class_ 1), (0, u "java/lang/Object"), (0, .class_ 3)] 3

/-- java/lang/Cloneable -/
def k24 : Class := { plain "java/lang/Cloneable" (some 0) with
  accessFlags := 1537
  interfaces := #[]
  cf := some (fileOf pool24 2 #[] #[] 1537 4 #[] #[])
  fields := #[]
  methods := #[]
  instanceTypes := #[]
  staticTypes := #[]
  resolved := Array.replicate 8 none
  statics := none }

/-- the primitive byte -/
def k25 : Class := { plain "byte" none with kind := .primitive 'B', accessFlags := 0x411 }
/-- [B -/
def k26 : Class := { plain "[B" (some 0) with kind := .array 25 .byte, interfaces := #[24, 2], accessFlags := 1041 }

/-- the primitive char -/
def k27 : Class := { plain "char" none with kind := .primitive 'C', accessFlags := 0x411 }
/-- [C -/
def k28 : Class := { plain "[C" (some 0) with kind := .array 27 .char, interfaces := #[24, 2], accessFlags := 1041 }

/-- the primitive int -/
def k29 : Class := { plain "int" none with kind := .primitive 'I', accessFlags := 0x411 }
/-- [I -/
def k30 : Class := { plain "[I" (some 0) with kind := .array 29 .int, interfaces := #[24, 2], accessFlags := 1041 }

def classes0 : Array Class := #[k0, k1, k2, k3, k4, k5, k6, k7, k8, k9, k10, k11, k12, k13, k14, k15, k16, k17, k18, k19, k20, k21, k22, k23, k24, k25, k26, k27, k28, k29, k30]
/-- the class that the rule has made for the site at 5 of com/example/sedgeholt/sedgeholt/layout/VersionFile.fileVersion -/
def k31 : Class := Jvm.LamKit.madeRec { classes := classes0 } "com/example/sedgeholt/sedgeholt/layout/VersionFile" (Jvm.Lambda.Shape.mk "java/util/function/Function" "apply" (Jvm.ClassFile.MethodDescriptor.mk ([(Jvm.ClassFile.FieldType.object "java/lang/Object")] : List Jvm.ClassFile.FieldType) (Option.some (Jvm.ClassFile.FieldType.object "java/lang/Object"))) ([(Jvm.ClassFile.FieldType.object "com/example/sedgeholt/sedgeholt/layout/VersionFile")] : List Jvm.ClassFile.FieldType) (5 : Nat) "com/example/sedgeholt/sedgeholt/layout/VersionFile" "lambda$fileVersion$3" (Jvm.ClassFile.MethodDescriptor.mk ([(Jvm.ClassFile.FieldType.object "com/example/sedgeholt/sedgeholt/layout/VersionFile$Build")] : List Jvm.ClassFile.FieldType) (Option.some (Jvm.ClassFile.FieldType.object "java/lang/String"))) false (Jvm.ClassFile.MethodDescriptor.mk ([(Jvm.ClassFile.FieldType.object "com/example/sedgeholt/sedgeholt/layout/VersionFile$Build")] : List Jvm.ClassFile.FieldType) (Option.some (Jvm.ClassFile.FieldType.object "java/lang/String")))) 31

def heap : Heap := #[{ cls := 7, slots := #[.long 0, .int 1, .null, .int 0, .null, .int 0, .int 0], vm := .statics 7 },
  { cls := 12, slots := #[.ref 3], vm := .statics 12 },
  { cls := 18, slots := #[.null, .null, .null], vm := .statics 18 },
  { cls := 12, slots := #[.null], vm := .none }]
def classes : Array Class := #[k0, k1, k2, k3, k4, k5, k6, k7, k8, k9, k10, k11, k12, k13, k14, k15, k16, k17, k18, k19, k20, k21, k22, k23, k24, k25, k26, k27, k28, k29, k30, k31]
def interned : List (Array UInt16 × Addr) := []
def slotsUsed : Nat := 12
def theMethod : MethodId := ⟨1, 1⟩
def args0 : Array Value := #[.int 5, .int 6, .int 7, .int 1]
def aboutOver (below : List Frame) : State where
  vm := { classes := classes, interned := interned.toArray }
  heap := heap
  slotsUsed := slotsUsed
  threads := #[{ frames := .invoking theMethod args0 :: below }]
def below0 : List Frame := [.native { method := ⟨0, 0⟩, args := #[] }]
def about1 : State := aboutOver below0
def p0 : Program := .bare "" "" ""
def e0 : Env := launch0.env 0 0 0
theorem w_frames : about1.frames = Frame.invoking theMethod args0 :: below0 := rfl
set_option maxRecDepth 65536 in
theorem w_args : argsFit about1.vm theMethod args0 = true := by decide +kernel
set_option maxRecDepth 65536 in
theorem w_heap : heapFits about1 = true := by decide +kernel
set_option maxRecDepth 65536 in
theorem w_runnable : about1.curStatus? = some .runnable := by decide +kernel
set_option maxRecDepth 65536 in
theorem w_alone : about1.alone = true := by decide +kernel
set_option maxRecDepth 65536 in
theorem w_named : about1.methodNamed? x = some theMethod := by decide +kernel
set_option maxRecDepth 65536 in
theorem w_hears : about1.hears theMethod below0 = true := by decide +kernel
set_option maxRecDepth 65536 in
theorem w_ripe : about1.ripe theMethod args0 below0 = true := by decide +kernel
theorem w_running : about1.status = .running := rfl
set_option maxRecDepth 65536 in
theorem w_room : about1.hasRoom e0.platform room_1 = true :=
  launch0.hasRoom_least _ room_1 (by decide +kernel) (by decide +kernel) (by decide +kernel) (by decide +kernel) (by decide +kernel) (by decide +kernel)
theorem allAtoms_all (ts : List Jvm.Cond) (a : Array Jvm.Value) (st : Jvm.State) : (allAtoms ts).before a st = ts.all (fun c => c.before a st) := by
  induction ts with
  | nil => rfl
  | cons c t ih =>
    show (Jvm.Cond.and c (allAtoms t)).before a st = _
    rw [Jvm.Cond.before_and, ih, List.all_cons]
def words1 : List Jvm.Cond := Jvm.Cond.code x code maxLocals ret :: tables_1
/-- a 'code' word, met by the world's own term for the bytes: nothing is compared byte by byte -/
theorem code_word {y : MethodName} {bytes : ByteArray} {mx : Nat} {rt : Option FieldType} {a : Array Value} {s : State} {m : MethodId} {meth : Method} {c : Code} (h1 : s.methodNamed? y = some m) (h2 : s.vm.method? m = some meth) (h3 : meth.code = some c) (h4 : c.code = bytes)
    (h5 : (c.maxLocals == mx && c.exceptionTable.isEmpty && decide (c.maxStack ≤ mostOperands) && decide (meth.sig.returnType = rt) && !meth.locks && decide (parseMethodDescriptor y.desc = some meth.sig)) = true) : (Jvm.Cond.code y bytes mx rt).before a s = true := by
  simp only [Bool.and_eq_true, beq_iff_eq, Bool.not_eq_true', decide_eq_true_eq] at h5
  obtain ⟨⟨⟨⟨⟨g1, g2⟩, g3⟩, g4⟩, g5⟩, g6⟩ := h5
  simp [Cond.before, Cond.holds, Cond.value, h1, h2, h3, h4, g1, g2, g3, g4, g5, g6]
def isCode : Jvm.Cond → Bool
  | .code _ _ _ _ => true
  | _ => false
theorem all_split {L : List Jvm.Cond} {P : Jvm.Cond → Bool} (h1 : L.all (fun c => isCode c || P c) = true) (h2 : ∀ c ∈ L.filter isCode, P c = true) : L.all P = true := by
  refine List.all_eq_true.mpr fun c hc => ?_
  have h := List.all_eq_true.mp h1 c hc
  rcases Bool.eq_false_or_eq_true (isCode c) with hi | hi
  · exact h2 c (List.mem_filter.mpr ⟨hc, hi⟩)
  · simpa [hi] using h
set_option maxRecDepth 65536 in
theorem w_c0 : (Jvm.Cond.code x code maxLocals ret).before args0 about1 = true := code_word (m := ⟨1, 1⟩) (meth := k1m1) (c := k1c1) (by decide +kernel) rfl rfl rfl (by decide +kernel)
set_option maxRecDepth 65536 in
theorem w_c1 : (Jvm.Cond.code ({ cls := "java/lang/String", name := "<init>", desc := "([C)V" } : Jvm.MethodName) jdk_42_method_3_code (2 : Nat) (Option.none : Option Jvm.ClassFile.FieldType)).before args0 about1 = true := code_word (m := ⟨7, 1⟩) (meth := k7m1) (c := k7c1) (by decide +kernel) rfl rfl rfl (by decide +kernel)
set_option maxRecDepth 65536 in
theorem w_c2 : (Jvm.Cond.code ({ cls := "java/lang/String", name := "<init>", desc := "([CIILjava/lang/Void;)V" } : Jvm.MethodName) jdk_42_method_149_code (6 : Nat) (Option.none : Option Jvm.ClassFile.FieldType)).before args0 about1 = true := code_word (m := ⟨7, 8⟩) (meth := k7m8) (c := k7c8) (by decide +kernel) rfl rfl rfl (by decide +kernel)
set_option maxRecDepth 65536 in
theorem w_c3 : (Jvm.Cond.code ({ cls := "java/lang/Object", name := "<init>", desc := "()V" } : Jvm.MethodName) object_method_1_code (1 : Nat) (Option.none : Option Jvm.ClassFile.FieldType)).before args0 about1 = true := code_word (m := ⟨0, 0⟩) (meth := k0m0) (c := k0c0) (by decide +kernel) rfl rfl rfl (by decide +kernel)
set_option maxRecDepth 65536 in
theorem w_c4 : (Jvm.Cond.code ({ cls := "java/lang/StringUTF16", name := "compress", desc := "([CII)[B" } : Jvm.MethodName) jdk_52_method_16_code (6 : Nat) (Option.some (Jvm.ClassFile.FieldType.array Jvm.ClassFile.FieldType.byte))).before args0 about1 = true := code_word (m := ⟨8, 2⟩) (meth := k8m2) (c := k8c2) (by decide +kernel) rfl rfl rfl (by decide +kernel)
set_option maxRecDepth 65536 in
theorem w_c5 : (Jvm.Cond.code ({ cls := "java/lang/StringUTF16", name := "compress", desc := "([CI[BII)I" } : Jvm.MethodName) jdk_52_method_21_code (7 : Nat) (Option.some Jvm.ClassFile.FieldType.int)).before args0 about1 = true := code_word (m := ⟨8, 3⟩) (meth := k8m3) (c := k8c3) (by decide +kernel) rfl rfl rfl (by decide +kernel)
set_option maxRecDepth 65536 in
theorem w_c6 : (Jvm.Cond.code ({ cls := "java/lang/StringUTF16", name := "coderFromArrayLen", desc := "([BI)B" } : Jvm.MethodName) jdk_52_method_15_code (2 : Nat) (Option.some Jvm.ClassFile.FieldType.byte)).before args0 about1 = true := code_word (m := ⟨8, 1⟩) (meth := k8m1) (c := k8c1) (by decide +kernel) rfl rfl rfl (by decide +kernel)
set_option maxRecDepth 65536 in
theorem w_c7 : (Jvm.Cond.code ({ cls := "com/example/sedgeholt/sedgeholt/layout/VersionFile$Build", name := "<init>", desc := "(Ljava/lang/String;Ljava/lang/String;)V" } : Jvm.MethodName) prog_10_method_1_code (3 : Nat) (Option.none : Option Jvm.ClassFile.FieldType)).before args0 about1 = true := code_word (m := ⟨11, 0⟩) (meth := k11m0) (c := k11c0) (by decide +kernel) rfl rfl rfl (by decide +kernel)
set_option maxRecDepth 65536 in
theorem w_c8 : (Jvm.Cond.code ({ cls := "java/lang/Record", name := "<init>", desc := "()V" } : Jvm.MethodName) jdk_30_method_1_code (1 : Nat) (Option.none : Option Jvm.ClassFile.FieldType)).before args0 about1 = true := code_word (m := ⟨9, 0⟩) (meth := k9m0) (c := k9c0) (by decide +kernel) rfl rfl rfl (by decide +kernel)
set_option maxRecDepth 65536 in
theorem w_c9 : (Jvm.Cond.code ({ cls := "java/util/Optional", name := "of", desc := "(Ljava/lang/Object;)Ljava/util/Optional;" } : Jvm.MethodName) jdk_32_method_3_code (1 : Nat) (Option.some (Jvm.ClassFile.FieldType.object "java/util/Optional"))).before args0 about1 = true := code_word (m := ⟨12, 2⟩) (meth := k12m2) (c := k12c2) (by decide +kernel) rfl rfl rfl (by decide +kernel)
set_option maxRecDepth 65536 in
theorem w_c10 : (Jvm.Cond.code ({ cls := "java/util/Objects", name := "requireNonNull", desc := "(Ljava/lang/Object;)Ljava/lang/Object;" } : Jvm.MethodName) jdk_31_method_10_code (1 : Nat) (Option.some (Jvm.ClassFile.FieldType.object "java/lang/Object"))).before args0 about1 = true := code_word (m := ⟨13, 1⟩) (meth := k13m1) (c := k13c1) (by decide +kernel) rfl rfl rfl (by decide +kernel)
set_option maxRecDepth 65536 in
theorem w_c11 : (Jvm.Cond.code ({ cls := "java/util/Optional", name := "<init>", desc := "(Ljava/lang/Object;)V" } : Jvm.MethodName) jdk_32_method_2_code (2 : Nat) (Option.none : Option Jvm.ClassFile.FieldType)).before args0 about1 = true := code_word (m := ⟨12, 1⟩) (meth := k12m1) (c := k12c1) (by decide +kernel) rfl rfl rfl (by decide +kernel)
set_option maxRecDepth 65536 in
theorem w_c12 : (Jvm.Cond.code ({ cls := "com/example/sedgeholt/sedgeholt/layout/VersionFile", name := "<init>", desc := "(Ljava/lang/String;Ljava/lang/String;Ljava/util/Optional;Ljava/lang/String;Ljava/lang/String;)V" } : Jvm.MethodName) prog_9_method_1_code (6 : Nat) (Option.none : Option Jvm.ClassFile.FieldType)).before args0 about1 = true := code_word (m := ⟨10, 0⟩) (meth := k10m0) (c := k10c0) (by decide +kernel) rfl rfl rfl (by decide +kernel)
set_option maxRecDepth 65536 in
theorem w_c13 : (Jvm.Cond.code ({ cls := "com/example/sedgeholt/sedgeholt/layout/VersionFile", name := "fileVersion", desc := "()Ljava/lang/String;" } : Jvm.MethodName) prog_9_method_6_code (1 : Nat) (Option.some (Jvm.ClassFile.FieldType.object "java/lang/String"))).before args0 about1 = true := code_word (m := ⟨10, 1⟩) (meth := k10m1) (c := k10c1) (by decide +kernel) rfl rfl rfl (by decide +kernel)
set_option maxRecDepth 65536 in
theorem w_c14 : (Jvm.Cond.code ({ cls := "java/util/Optional", name := "map", desc := "(Ljava/util/function/Function;)Ljava/util/Optional;" } : Jvm.MethodName) jdk_32_method_11_code (2 : Nat) (Option.some (Jvm.ClassFile.FieldType.object "java/util/Optional"))).before args0 about1 = true := code_word (m := ⟨12, 5⟩) (meth := k12m5) (c := k12c5) (by decide +kernel) rfl rfl rfl (by decide +kernel)
set_option maxRecDepth 65536 in
theorem w_c15 : (Jvm.Cond.code ({ cls := "java/util/Optional", name := "isEmpty", desc := "()Z" } : Jvm.MethodName) jdk_32_method_7_code (1 : Nat) (Option.some Jvm.ClassFile.FieldType.boolean)).before args0 about1 = true := code_word (m := ⟨12, 4⟩) (meth := k12m4) (c := k12c4) (by decide +kernel) rfl rfl rfl (by decide +kernel)
set_option maxRecDepth 65536 in
theorem w_c16 : (Jvm.Cond.code ({ cls := "com/example/sedgeholt/sedgeholt/layout/VersionFile", name := "lambda$fileVersion$3", desc := "(Lcom/example/sedgeholt/sedgeholt/layout/VersionFile$Build;)Ljava/lang/String;" } : Jvm.MethodName) prog_9_method_19_code (2 : Nat) (Option.some (Jvm.ClassFile.FieldType.object "java/lang/String"))).before args0 about1 = true := code_word (m := ⟨10, 3⟩) (meth := k10m3) (c := k10c3) (by decide +kernel) rfl rfl rfl (by decide +kernel)
set_option maxRecDepth 65536 in
theorem w_c17 : (Jvm.Cond.code ({ cls := "java/lang/StringBuilder", name := "<init>", desc := "()V" } : Jvm.MethodName) jdk_67_method_1_code (1 : Nat) (Option.none : Option Jvm.ClassFile.FieldType)).before args0 about1 = true := code_word (m := ⟨17, 0⟩) (meth := k17m0) (c := k17c0) (by decide +kernel) rfl rfl rfl (by decide +kernel)
set_option maxRecDepth 65536 in
theorem w_c18 : (Jvm.Cond.code ({ cls := "java/lang/AbstractStringBuilder", name := "<init>", desc := "(I)V" } : Jvm.MethodName) jdk_68_method_2_code (2 : Nat) (Option.none : Option Jvm.ClassFile.FieldType)).before args0 about1 = true := code_word (m := ⟨16, 1⟩) (meth := k16m1) (c := k16c1) (by decide +kernel) rfl rfl rfl (by decide +kernel)
set_option maxRecDepth 65536 in
theorem w_c19 : (Jvm.Cond.code ({ cls := "com/example/sedgeholt/sedgeholt/layout/VersionFile", name := "withoutSnapshot", desc := "(Ljava/lang/String;)Ljava/lang/String;" } : Jvm.MethodName) prog_9_method_10_code (1 : Nat) (Option.some (Jvm.ClassFile.FieldType.object "java/lang/String"))).before args0 about1 = true := code_word (m := ⟨10, 2⟩) (meth := k10m2) (c := k10c2) (by decide +kernel) rfl rfl rfl (by decide +kernel)
set_option maxRecDepth 65536 in
theorem w_c20 : (Jvm.Cond.code ({ cls := "java/lang/String", name := "length", desc := "()I" } : Jvm.MethodName) jdk_42_method_54_code (1 : Nat) (Option.some Jvm.ClassFile.FieldType.int)).before args0 about1 = true := code_word (m := ⟨7, 3⟩) (meth := k7m3) (c := k7c3) (by decide +kernel) rfl rfl rfl (by decide +kernel)
set_option maxRecDepth 65536 in
theorem w_c21 : (Jvm.Cond.code ({ cls := "java/lang/String", name := "coder", desc := "()B" } : Jvm.MethodName) jdk_42_method_152_code (1 : Nat) (Option.some Jvm.ClassFile.FieldType.byte)).before args0 about1 = true := code_word (m := ⟨7, 11⟩) (meth := k7m11) (c := k7c11) (by decide +kernel) rfl rfl rfl (by decide +kernel)
set_option maxRecDepth 65536 in
theorem w_c22 : (Jvm.Cond.code ({ cls := "java/lang/String", name := "substring", desc := "(II)Ljava/lang/String;" } : Jvm.MethodName) jdk_42_method_92_code (5 : Nat) (Option.some (Jvm.ClassFile.FieldType.object "java/lang/String"))).before args0 about1 = true := code_word (m := ⟨7, 6⟩) (meth := k7m6) (c := k7c6) (by decide +kernel) rfl rfl rfl (by decide +kernel)
set_option maxRecDepth 65536 in
theorem w_c23 : (Jvm.Cond.code ({ cls := "java/lang/String", name := "checkBoundsBeginEnd", desc := "(III)V" } : Jvm.MethodName) jdk_42_method_158_code (3 : Nat) (Option.none : Option Jvm.ClassFile.FieldType)).before args0 about1 = true := code_word (m := ⟨7, 14⟩) (meth := k7m14) (c := k7c14) (by decide +kernel) rfl rfl rfl (by decide +kernel)
set_option maxRecDepth 65536 in
theorem w_c24 : (Jvm.Cond.code ({ cls := "jdk/internal/util/Preconditions", name := "checkFromToIndex", desc := "(IIILjava/util/function/BiFunction;)I" } : Jvm.MethodName) jdk_41_method_12_code (4 : Nat) (Option.some Jvm.ClassFile.FieldType.int)).before args0 about1 = true := code_word (m := ⟨18, 2⟩) (meth := k18m2) (c := k18c2) (by decide +kernel) rfl rfl rfl (by decide +kernel)
set_option maxRecDepth 65536 in
theorem w_c25 : (Jvm.Cond.code ({ cls := "java/lang/String", name := "isLatin1", desc := "()Z" } : Jvm.MethodName) jdk_42_method_154_code (1 : Nat) (Option.some Jvm.ClassFile.FieldType.boolean)).before args0 about1 = true := code_word (m := ⟨7, 12⟩) (meth := k7m12) (c := k7c12) (by decide +kernel) rfl rfl rfl (by decide +kernel)
set_option maxRecDepth 65536 in
theorem w_c26 : (Jvm.Cond.code ({ cls := "java/lang/StringLatin1", name := "newString", desc := "([BII)Ljava/lang/String;" } : Jvm.MethodName) jdk_43_method_47_code (3 : Nat) (Option.some (Jvm.ClassFile.FieldType.object "java/lang/String"))).before args0 about1 = true := code_word (m := ⟨19, 2⟩) (meth := k19m2) (c := k19c2) (by decide +kernel) rfl rfl rfl (by decide +kernel)
set_option maxRecDepth 65536 in
theorem w_c27 : (Jvm.Cond.code ({ cls := "java/util/Arrays", name := "copyOfRange", desc := "([BII)[B" } : Jvm.MethodName) jdk_65_method_132_code (3 : Nat) (Option.some (Jvm.ClassFile.FieldType.array Jvm.ClassFile.FieldType.byte))).before args0 about1 = true := code_word (m := ⟨20, 2⟩) (meth := k20m2) (c := k20c2) (by decide +kernel) rfl rfl rfl (by decide +kernel)
set_option maxRecDepth 65536 in
theorem w_c28 : (Jvm.Cond.code ({ cls := "java/util/Arrays", name := "copyOfRangeByte", desc := "([BII)[B" } : Jvm.MethodName) jdk_65_method_133_code (5 : Nat) (Option.some (Jvm.ClassFile.FieldType.array Jvm.ClassFile.FieldType.byte))).before args0 about1 = true := code_word (m := ⟨20, 3⟩) (meth := k20m3) (c := k20c3) (by decide +kernel) rfl rfl rfl (by decide +kernel)
set_option maxRecDepth 65536 in
theorem w_c29 : (Jvm.Cond.code ({ cls := "java/util/Arrays", name := "checkLength", desc := "(II)V" } : Jvm.MethodName) jdk_65_method_131_code (2 : Nat) (Option.none : Option Jvm.ClassFile.FieldType)).before args0 about1 = true := code_word (m := ⟨20, 1⟩) (meth := k20m1) (c := k20c1) (by decide +kernel) rfl rfl rfl (by decide +kernel)
set_option maxRecDepth 65536 in
theorem w_c30 : (Jvm.Cond.code ({ cls := "java/lang/Math", name := "min", desc := "(II)I" } : Jvm.MethodName) jdk_29_method_69_code (2 : Nat) (Option.some Jvm.ClassFile.FieldType.int)).before args0 about1 = true := code_word (m := ⟨21, 1⟩) (meth := k21m1) (c := k21c1) (by decide +kernel) rfl rfl rfl (by decide +kernel)
set_option maxRecDepth 65536 in
theorem w_c31 : (Jvm.Cond.code ({ cls := "java/lang/String", name := "<init>", desc := "([BB)V" } : Jvm.MethodName) jdk_42_method_151_code (3 : Nat) (Option.none : Option Jvm.ClassFile.FieldType)).before args0 about1 = true := code_word (m := ⟨7, 10⟩) (meth := k7m10) (c := k7c10) (by decide +kernel) rfl rfl rfl (by decide +kernel)
set_option maxRecDepth 65536 in
theorem w_c32 : (Jvm.Cond.code ({ cls := "java/lang/StringBuilder", name := "append", desc := "(Ljava/lang/String;)Ljava/lang/StringBuilder;" } : Jvm.MethodName) jdk_67_method_7_code (2 : Nat) (Option.some (Jvm.ClassFile.FieldType.object "java/lang/StringBuilder"))).before args0 about1 = true := code_word (m := ⟨17, 1⟩) (meth := k17m1) (c := k17c1) (by decide +kernel) rfl rfl rfl (by decide +kernel)
set_option maxRecDepth 65536 in
theorem w_c33 : (Jvm.Cond.code ({ cls := "java/lang/AbstractStringBuilder", name := "append", desc := "(Ljava/lang/String;)Ljava/lang/AbstractStringBuilder;" } : Jvm.MethodName) jdk_68_method_22_code (3 : Nat) (Option.some (Jvm.ClassFile.FieldType.object "java/lang/AbstractStringBuilder"))).before args0 about1 = true := code_word (m := ⟨16, 4⟩) (meth := k16m4) (c := k16c4) (by decide +kernel) rfl rfl rfl (by decide +kernel)
set_option maxRecDepth 65536 in
theorem w_c34 : (Jvm.Cond.code ({ cls := "java/lang/AbstractStringBuilder", name := "ensureCapacityInternal", desc := "(I)V" } : Jvm.MethodName) jdk_68_method_9_code (3 : Nat) (Option.none : Option Jvm.ClassFile.FieldType)).before args0 about1 = true := code_word (m := ⟨16, 3⟩) (meth := k16m3) (c := k16c3) (by decide +kernel) rfl rfl rfl (by decide +kernel)
set_option maxRecDepth 65536 in
theorem w_c35 : (Jvm.Cond.code ({ cls := "java/lang/AbstractStringBuilder", name := "putStringAt", desc := "(ILjava/lang/String;)V" } : Jvm.MethodName) jdk_68_method_73_code (3 : Nat) (Option.none : Option Jvm.ClassFile.FieldType)).before args0 about1 = true := code_word (m := ⟨16, 8⟩) (meth := k16m8) (c := k16c8) (by decide +kernel) rfl rfl rfl (by decide +kernel)
set_option maxRecDepth 65536 in
theorem w_c36 : (Jvm.Cond.code ({ cls := "java/lang/AbstractStringBuilder", name := "inflateIfNeededFor", desc := "(Ljava/lang/String;)V" } : Jvm.MethodName) jdk_68_method_71_code (2 : Nat) (Option.none : Option Jvm.ClassFile.FieldType)).before args0 about1 = true := code_word (m := ⟨16, 7⟩) (meth := k16m7) (c := k16c7) (by decide +kernel) rfl rfl rfl (by decide +kernel)
set_option maxRecDepth 65536 in
theorem w_c37 : (Jvm.Cond.code ({ cls := "java/lang/String", name := "getBytes", desc := "([BIB)V" } : Jvm.MethodName) jdk_42_method_147_code (4 : Nat) (Option.none : Option Jvm.ClassFile.FieldType)).before args0 about1 = true := code_word (m := ⟨7, 7⟩) (meth := k7m7) (c := k7c7) (by decide +kernel) rfl rfl rfl (by decide +kernel)
set_option maxRecDepth 65536 in
theorem w_c38 : (Jvm.Cond.code ({ cls := "com/example/sedgeholt/sedgeholt/layout/VersionFile$Build", name := "timestamp", desc := "()Ljava/lang/String;" } : Jvm.MethodName) prog_10_method_6_code (1 : Nat) (Option.some (Jvm.ClassFile.FieldType.object "java/lang/String"))).before args0 about1 = true := code_word (m := ⟨11, 1⟩) (meth := k11m1) (c := k11c1) (by decide +kernel) rfl rfl rfl (by decide +kernel)
set_option maxRecDepth 65536 in
theorem w_c39 : (Jvm.Cond.code ({ cls := "com/example/sedgeholt/sedgeholt/layout/VersionFile$Build", name := "number", desc := "()Ljava/lang/String;" } : Jvm.MethodName) prog_10_method_7_code (1 : Nat) (Option.some (Jvm.ClassFile.FieldType.object "java/lang/String"))).before args0 about1 = true := code_word (m := ⟨11, 2⟩) (meth := k11m2) (c := k11c2) (by decide +kernel) rfl rfl rfl (by decide +kernel)
set_option maxRecDepth 65536 in
theorem w_c40 : (Jvm.Cond.code ({ cls := "java/lang/StringBuilder", name := "toString", desc := "()Ljava/lang/String;" } : Jvm.MethodName) jdk_67_method_42_code (1 : Nat) (Option.some (Jvm.ClassFile.FieldType.object "java/lang/String"))).before args0 about1 = true := code_word (m := ⟨17, 2⟩) (meth := k17m2) (c := k17c2) (by decide +kernel) rfl rfl rfl (by decide +kernel)
set_option maxRecDepth 65536 in
theorem w_c41 : (Jvm.Cond.code ({ cls := "java/lang/String", name := "<init>", desc := "(Ljava/lang/StringBuilder;)V" } : Jvm.MethodName) jdk_42_method_53_code (2 : Nat) (Option.none : Option Jvm.ClassFile.FieldType)).before args0 about1 = true := code_word (m := ⟨7, 2⟩) (meth := k7m2) (c := k7c2) (by decide +kernel) rfl rfl rfl (by decide +kernel)
set_option maxRecDepth 65536 in
theorem w_c42 : (Jvm.Cond.code ({ cls := "java/lang/String", name := "<init>", desc := "(Ljava/lang/AbstractStringBuilder;Ljava/lang/Void;)V" } : Jvm.MethodName) jdk_42_method_150_code (5 : Nat) (Option.none : Option Jvm.ClassFile.FieldType)).before args0 about1 = true := code_word (m := ⟨7, 9⟩) (meth := k7m9) (c := k7c9) (by decide +kernel) rfl rfl rfl (by decide +kernel)
set_option maxRecDepth 65536 in
theorem w_c43 : (Jvm.Cond.code ({ cls := "java/lang/AbstractStringBuilder", name := "getValue", desc := "()[B" } : Jvm.MethodName) jdk_68_method_64_code (1 : Nat) (Option.some (Jvm.ClassFile.FieldType.array Jvm.ClassFile.FieldType.byte))).before args0 about1 = true := code_word (m := ⟨16, 5⟩) (meth := k16m5) (c := k16c5) (by decide +kernel) rfl rfl rfl (by decide +kernel)
set_option maxRecDepth 65536 in
theorem w_c44 : (Jvm.Cond.code ({ cls := "java/lang/StringBuilder", name := "length", desc := "()I" } : Jvm.MethodName) jdk_67_method_93_code (1 : Nat) (Option.some Jvm.ClassFile.FieldType.int)).before args0 about1 = true := code_word (m := ⟨17, 3⟩) (meth := k17m3) (c := k17c3) (by decide +kernel) rfl rfl rfl (by decide +kernel)
set_option maxRecDepth 65536 in
theorem w_c45 : (Jvm.Cond.code ({ cls := "java/lang/AbstractStringBuilder", name := "length", desc := "()I" } : Jvm.MethodName) jdk_68_method_6_code (1 : Nat) (Option.some Jvm.ClassFile.FieldType.int)).before args0 about1 = true := code_word (m := ⟨16, 2⟩) (meth := k16m2) (c := k16c2) (by decide +kernel) rfl rfl rfl (by decide +kernel)
set_option maxRecDepth 65536 in
theorem w_c46 : (Jvm.Cond.code ({ cls := "java/lang/AbstractStringBuilder", name := "isLatin1", desc := "()Z" } : Jvm.MethodName) jdk_68_method_68_code (1 : Nat) (Option.some Jvm.ClassFile.FieldType.boolean)).before args0 about1 = true := code_word (m := ⟨16, 6⟩) (meth := k16m6) (c := k16c6) (by decide +kernel) rfl rfl rfl (by decide +kernel)
set_option maxRecDepth 65536 in
theorem w_c47 : (Jvm.Cond.code ({ cls := "java/util/Optional", name := "ofNullable", desc := "(Ljava/lang/Object;)Ljava/util/Optional;" } : Jvm.MethodName) jdk_32_method_4_code (1 : Nat) (Option.some (Jvm.ClassFile.FieldType.object "java/util/Optional"))).before args0 about1 = true := code_word (m := ⟨12, 3⟩) (meth := k12m3) (c := k12c3) (by decide +kernel) rfl rfl rfl (by decide +kernel)
set_option maxRecDepth 65536 in
theorem w_c48 : (Jvm.Cond.code ({ cls := "java/util/Optional", name := "orElse", desc := "(Ljava/lang/Object;)Ljava/lang/Object;" } : Jvm.MethodName) jdk_32_method_15_code (2 : Nat) (Option.some (Jvm.ClassFile.FieldType.object "java/lang/Object"))).before args0 about1 = true := code_word (m := ⟨12, 6⟩) (meth := k12m6) (c := k12c6) (by decide +kernel) rfl rfl rfl (by decide +kernel)
set_option maxRecDepth 65536 in
theorem w_c49 : (Jvm.Cond.code ({ cls := "java/lang/String", name := "charAt", desc := "(I)C" } : Jvm.MethodName) jdk_42_method_56_code (2 : Nat) (Option.some Jvm.ClassFile.FieldType.char)).before args0 about1 = true := code_word (m := ⟨7, 4⟩) (meth := k7m4) (c := k7c4) (by decide +kernel) rfl rfl rfl (by decide +kernel)
set_option maxRecDepth 65536 in
theorem w_c50 : (Jvm.Cond.code ({ cls := "java/lang/StringLatin1", name := "charAt", desc := "([BI)C" } : Jvm.MethodName) jdk_43_method_2_code (2 : Nat) (Option.some Jvm.ClassFile.FieldType.char)).before args0 about1 = true := code_word (m := ⟨19, 1⟩) (meth := k19m1) (c := k19c1) (by decide +kernel) rfl rfl rfl (by decide +kernel)
set_option maxRecDepth 65536 in
theorem w_c51 : (Jvm.Cond.code ({ cls := "java/lang/String", name := "checkIndex", desc := "(II)V" } : Jvm.MethodName) jdk_42_method_155_code (2 : Nat) (Option.none : Option Jvm.ClassFile.FieldType)).before args0 about1 = true := code_word (m := ⟨7, 13⟩) (meth := k7m13) (c := k7c13) (by decide +kernel) rfl rfl rfl (by decide +kernel)
set_option maxRecDepth 65536 in
theorem w_c52 : (Jvm.Cond.code ({ cls := "jdk/internal/util/Preconditions", name := "checkIndex", desc := "(IILjava/util/function/BiFunction;)I" } : Jvm.MethodName) jdk_41_method_11_code (3 : Nat) (Option.some Jvm.ClassFile.FieldType.int)).before args0 about1 = true := code_word (m := ⟨18, 1⟩) (meth := k18m1) (c := k18c1) (by decide +kernel) rfl rfl rfl (by decide +kernel)
set_option maxRecDepth 65536 in
theorem w_c53 : (Jvm.Cond.code ({ cls := "java/util/Optional", name := "empty", desc := "()Ljava/util/Optional;" } : Jvm.MethodName) jdk_32_method_1_code (1 : Nat) (Option.some (Jvm.ClassFile.FieldType.object "java/util/Optional"))).before args0 about1 = true := code_word (m := ⟨12, 0⟩) (meth := k12m0) (c := k12c0) (by decide +kernel) rfl rfl rfl (by decide +kernel)
set_option maxRecDepth 65536 in
theorem w_c54 : (Jvm.Cond.code ({ cls := "java/lang/String", name := "equals", desc := "(Ljava/lang/Object;)Z" } : Jvm.MethodName) jdk_42_method_66_code (3 : Nat) (Option.some Jvm.ClassFile.FieldType.boolean)).before args0 about1 = true := code_word (m := ⟨7, 5⟩) (meth := k7m5) (c := k7c5) (by decide +kernel) rfl rfl rfl (by decide +kernel)
def codes1 : List Jvm.Cond := [Jvm.Cond.code x code maxLocals ret, Jvm.Cond.code ({ cls := "java/lang/String", name := "<init>", desc := "([C)V" } : Jvm.MethodName) jdk_42_method_3_code (2 : Nat) (Option.none : Option Jvm.ClassFile.FieldType), Jvm.Cond.code ({ cls := "java/lang/String", name := "<init>", desc := "([CIILjava/lang/Void;)V" } : Jvm.MethodName) jdk_42_method_149_code (6 : Nat) (Option.none : Option Jvm.ClassFile.FieldType), Jvm.Cond.code ({ cls := "java/lang/Object", name := "<init>", desc := "()V" } : Jvm.MethodName) object_method_1_code (1 : Nat) (Option.none : Option Jvm.ClassFile.FieldType), Jvm.Cond.code ({ cls := "java/lang/StringUTF16", name := "compress", desc := "([CII)[B" } : Jvm.MethodName) jdk_52_method_16_code (6 : Nat) (Option.some (Jvm.ClassFile.FieldType.array Jvm.ClassFile.FieldType.byte)), Jvm.Cond.code ({ cls := "java/lang/StringUTF16", name := "compress", desc := "([CI[BII)I" } : Jvm.MethodName) jdk_52_method_21_code (7 : Nat) (Option.some Jvm.ClassFile.FieldType.int), Jvm.Cond.code ({ cls := "java/lang/StringUTF16", name := "coderFromArrayLen", desc := "([BI)B" } : Jvm.MethodName) jdk_52_method_15_code (2 : Nat) (Option.some Jvm.ClassFile.FieldType.byte), Jvm.Cond.code ({ cls := "com/example/sedgeholt/sedgeholt/layout/VersionFile$Build", name := "<init>", desc := "(Ljava/lang/String;Ljava/lang/String;)V" } : Jvm.MethodName) prog_10_method_1_code (3 : Nat) (Option.none : Option Jvm.ClassFile.FieldType), Jvm.Cond.code ({ cls := "java/lang/Record", name := "<init>", desc := "()V" } : Jvm.MethodName) jdk_30_method_1_code (1 : Nat) (Option.none : Option Jvm.ClassFile.FieldType), Jvm.Cond.code ({ cls := "java/util/Optional", name := "of", desc := "(Ljava/lang/Object;)Ljava/util/Optional;" } : Jvm.MethodName) jdk_32_method_3_code (1 : Nat) (Option.some (Jvm.ClassFile.FieldType.object "java/util/Optional")), Jvm.Cond.code ({ cls := "java/util/Objects", name := "requireNonNull", desc := "(Ljava/lang/Object;)Ljava/lang/Object;" } : Jvm.MethodName) jdk_31_method_10_code (1 : Nat) (Option.some (Jvm.ClassFile.FieldType.object "java/lang/Object")), Jvm.Cond.code ({ cls := "java/util/Optional", name := "<init>", desc := "(Ljava/lang/Object;)V" } : Jvm.MethodName) jdk_32_method_2_code (2 : Nat) (Option.none : Option Jvm.ClassFile.FieldType), Jvm.Cond.code ({ cls := "com/example/sedgeholt/sedgeholt/layout/VersionFile", name := "<init>", desc := "(Ljava/lang/String;Ljava/lang/String;Ljava/util/Optional;Ljava/lang/String;Ljava/lang/String;)V" } : Jvm.MethodName) prog_9_method_1_code (6 : Nat) (Option.none : Option Jvm.ClassFile.FieldType), Jvm.Cond.code ({ cls := "com/example/sedgeholt/sedgeholt/layout/VersionFile", name := "fileVersion", desc := "()Ljava/lang/String;" } : Jvm.MethodName) prog_9_method_6_code (1 : Nat) (Option.some (Jvm.ClassFile.FieldType.object "java/lang/String")), Jvm.Cond.code ({ cls := "java/util/Optional", name := "map", desc := "(Ljava/util/function/Function;)Ljava/util/Optional;" } : Jvm.MethodName) jdk_32_method_11_code (2 : Nat) (Option.some (Jvm.ClassFile.FieldType.object "java/util/Optional")), Jvm.Cond.code ({ cls := "java/util/Optional", name := "isEmpty", desc := "()Z" } : Jvm.MethodName) jdk_32_method_7_code (1 : Nat) (Option.some Jvm.ClassFile.FieldType.boolean), Jvm.Cond.code ({ cls := "com/example/sedgeholt/sedgeholt/layout/VersionFile", name := "lambda$fileVersion$3", desc := "(Lcom/example/sedgeholt/sedgeholt/layout/VersionFile$Build;)Ljava/lang/String;" } : Jvm.MethodName) prog_9_method_19_code (2 : Nat) (Option.some (Jvm.ClassFile.FieldType.object "java/lang/String")), Jvm.Cond.code ({ cls := "java/lang/StringBuilder", name := "<init>", desc := "()V" } : Jvm.MethodName) jdk_67_method_1_code (1 : Nat) (Option.none : Option Jvm.ClassFile.FieldType), Jvm.Cond.code ({ cls := "java/lang/AbstractStringBuilder", name := "<init>", desc := "(I)V" } : Jvm.MethodName) jdk_68_method_2_code (2 : Nat) (Option.none : Option Jvm.ClassFile.FieldType), Jvm.Cond.code ({ cls := "com/example/sedgeholt/sedgeholt/layout/VersionFile", name := "withoutSnapshot", desc := "(Ljava/lang/String;)Ljava/lang/String;" } : Jvm.MethodName) prog_9_method_10_code (1 : Nat) (Option.some (Jvm.ClassFile.FieldType.object "java/lang/String")), Jvm.Cond.code ({ cls := "java/lang/String", name := "length", desc := "()I" } : Jvm.MethodName) jdk_42_method_54_code (1 : Nat) (Option.some Jvm.ClassFile.FieldType.int), Jvm.Cond.code ({ cls := "java/lang/String", name := "coder", desc := "()B" } : Jvm.MethodName) jdk_42_method_152_code (1 : Nat) (Option.some Jvm.ClassFile.FieldType.byte), Jvm.Cond.code ({ cls := "java/lang/String", name := "substring", desc := "(II)Ljava/lang/String;" } : Jvm.MethodName) jdk_42_method_92_code (5 : Nat) (Option.some (Jvm.ClassFile.FieldType.object "java/lang/String")), Jvm.Cond.code ({ cls := "java/lang/String", name := "checkBoundsBeginEnd", desc := "(III)V" } : Jvm.MethodName) jdk_42_method_158_code (3 : Nat) (Option.none : Option Jvm.ClassFile.FieldType), Jvm.Cond.code ({ cls := "jdk/internal/util/Preconditions", name := "checkFromToIndex", desc := "(IIILjava/util/function/BiFunction;)I" } : Jvm.MethodName) jdk_41_method_12_code (4 : Nat) (Option.some Jvm.ClassFile.FieldType.int), Jvm.Cond.code ({ cls := "java/lang/String", name := "isLatin1", desc := "()Z" } : Jvm.MethodName) jdk_42_method_154_code (1 : Nat) (Option.some Jvm.ClassFile.FieldType.boolean), Jvm.Cond.code ({ cls := "java/lang/StringLatin1", name := "newString", desc := "([BII)Ljava/lang/String;" } : Jvm.MethodName) jdk_43_method_47_code (3 : Nat) (Option.some (Jvm.ClassFile.FieldType.object "java/lang/String")), Jvm.Cond.code ({ cls := "java/util/Arrays", name := "copyOfRange", desc := "([BII)[B" } : Jvm.MethodName) jdk_65_method_132_code (3 : Nat) (Option.some (Jvm.ClassFile.FieldType.array Jvm.ClassFile.FieldType.byte)), Jvm.Cond.code ({ cls := "java/util/Arrays", name := "copyOfRangeByte", desc := "([BII)[B" } : Jvm.MethodName) jdk_65_method_133_code (5 : Nat) (Option.some (Jvm.ClassFile.FieldType.array Jvm.ClassFile.FieldType.byte)), Jvm.Cond.code ({ cls := "java/util/Arrays", name := "checkLength", desc := "(II)V" } : Jvm.MethodName) jdk_65_method_131_code (2 : Nat) (Option.none : Option Jvm.ClassFile.FieldType), Jvm.Cond.code ({ cls := "java/lang/Math", name := "min", desc := "(II)I" } : Jvm.MethodName) jdk_29_method_69_code (2 : Nat) (Option.some Jvm.ClassFile.FieldType.int), Jvm.Cond.code ({ cls := "java/lang/String", name := "<init>", desc := "([BB)V" } : Jvm.MethodName) jdk_42_method_151_code (3 : Nat) (Option.none : Option Jvm.ClassFile.FieldType), Jvm.Cond.code ({ cls := "java/lang/StringBuilder", name := "append", desc := "(Ljava/lang/String;)Ljava/lang/StringBuilder;" } : Jvm.MethodName) jdk_67_method_7_code (2 : Nat) (Option.some (Jvm.ClassFile.FieldType.object "java/lang/StringBuilder")), Jvm.Cond.code ({ cls := "java/lang/AbstractStringBuilder", name := "append", desc := "(Ljava/lang/String;)Ljava/lang/AbstractStringBuilder;" } : Jvm.MethodName) jdk_68_method_22_code (3 : Nat) (Option.some (Jvm.ClassFile.FieldType.object "java/lang/AbstractStringBuilder")), Jvm.Cond.code ({ cls := "java/lang/AbstractStringBuilder", name := "ensureCapacityInternal", desc := "(I)V" } : Jvm.MethodName) jdk_68_method_9_code (3 : Nat) (Option.none : Option Jvm.ClassFile.FieldType), Jvm.Cond.code ({ cls := "java/lang/AbstractStringBuilder", name := "putStringAt", desc := "(ILjava/lang/String;)V" } : Jvm.MethodName) jdk_68_method_73_code (3 : Nat) (Option.none : Option Jvm.ClassFile.FieldType), Jvm.Cond.code ({ cls := "java/lang/AbstractStringBuilder", name := "inflateIfNeededFor", desc := "(Ljava/lang/String;)V" } : Jvm.MethodName) jdk_68_method_71_code (2 : Nat) (Option.none : Option Jvm.ClassFile.FieldType), Jvm.Cond.code ({ cls := "java/lang/String", name := "getBytes", desc := "([BIB)V" } : Jvm.MethodName) jdk_42_method_147_code (4 : Nat) (Option.none : Option Jvm.ClassFile.FieldType), Jvm.Cond.code ({ cls := "com/example/sedgeholt/sedgeholt/layout/VersionFile$Build", name := "timestamp", desc := "()Ljava/lang/String;" } : Jvm.MethodName) prog_10_method_6_code (1 : Nat) (Option.some (Jvm.ClassFile.FieldType.object "java/lang/String")), Jvm.Cond.code ({ cls := "com/example/sedgeholt/sedgeholt/layout/VersionFile$Build", name := "number", desc := "()Ljava/lang/String;" } : Jvm.MethodName) prog_10_method_7_code (1 : Nat) (Option.some (Jvm.ClassFile.FieldType.object "java/lang/String")), Jvm.Cond.code ({ cls := "java/lang/StringBuilder", name := "toString", desc := "()Ljava/lang/String;" } : Jvm.MethodName) jdk_67_method_42_code (1 : Nat) (Option.some (Jvm.ClassFile.FieldType.object "java/lang/String")), Jvm.Cond.code ({ cls := "java/lang/String", name := "<init>", desc := "(Ljava/lang/StringBuilder;)V" } : Jvm.MethodName) jdk_42_method_53_code (2 : Nat) (Option.none : Option Jvm.ClassFile.FieldType), Jvm.Cond.code ({ cls := "java/lang/String", name := "<init>", desc := "(Ljava/lang/AbstractStringBuilder;Ljava/lang/Void;)V" } : Jvm.MethodName) jdk_42_method_150_code (5 : Nat) (Option.none : Option Jvm.ClassFile.FieldType), Jvm.Cond.code ({ cls := "java/lang/AbstractStringBuilder", name := "getValue", desc := "()[B" } : Jvm.MethodName) jdk_68_method_64_code (1 : Nat) (Option.some (Jvm.ClassFile.FieldType.array Jvm.ClassFile.FieldType.byte)), Jvm.Cond.code ({ cls := "java/lang/StringBuilder", name := "length", desc := "()I" } : Jvm.MethodName) jdk_67_method_93_code (1 : Nat) (Option.some Jvm.ClassFile.FieldType.int), Jvm.Cond.code ({ cls := "java/lang/AbstractStringBuilder", name := "length", desc := "()I" } : Jvm.MethodName) jdk_68_method_6_code (1 : Nat) (Option.some Jvm.ClassFile.FieldType.int), Jvm.Cond.code ({ cls := "java/lang/AbstractStringBuilder", name := "isLatin1", desc := "()Z" } : Jvm.MethodName) jdk_68_method_68_code (1 : Nat) (Option.some Jvm.ClassFile.FieldType.boolean), Jvm.Cond.code ({ cls := "java/util/Optional", name := "ofNullable", desc := "(Ljava/lang/Object;)Ljava/util/Optional;" } : Jvm.MethodName) jdk_32_method_4_code (1 : Nat) (Option.some (Jvm.ClassFile.FieldType.object "java/util/Optional")), Jvm.Cond.code ({ cls := "java/util/Optional", name := "orElse", desc := "(Ljava/lang/Object;)Ljava/lang/Object;" } : Jvm.MethodName) jdk_32_method_15_code (2 : Nat) (Option.some (Jvm.ClassFile.FieldType.object "java/lang/Object")), Jvm.Cond.code ({ cls := "java/lang/String", name := "charAt", desc := "(I)C" } : Jvm.MethodName) jdk_42_method_56_code (2 : Nat) (Option.some Jvm.ClassFile.FieldType.char), Jvm.Cond.code ({ cls := "java/lang/StringLatin1", name := "charAt", desc := "([BI)C" } : Jvm.MethodName) jdk_43_method_2_code (2 : Nat) (Option.some Jvm.ClassFile.FieldType.char), Jvm.Cond.code ({ cls := "java/lang/String", name := "checkIndex", desc := "(II)V" } : Jvm.MethodName) jdk_42_method_155_code (2 : Nat) (Option.none : Option Jvm.ClassFile.FieldType), Jvm.Cond.code ({ cls := "jdk/internal/util/Preconditions", name := "checkIndex", desc := "(IILjava/util/function/BiFunction;)I" } : Jvm.MethodName) jdk_41_method_11_code (3 : Nat) (Option.some Jvm.ClassFile.FieldType.int), Jvm.Cond.code ({ cls := "java/util/Optional", name := "empty", desc := "()Ljava/util/Optional;" } : Jvm.MethodName) jdk_32_method_1_code (1 : Nat) (Option.some (Jvm.ClassFile.FieldType.object "java/util/Optional")), Jvm.Cond.code ({ cls := "java/lang/String", name := "equals", desc := "(Ljava/lang/Object;)Z" } : Jvm.MethodName) jdk_42_method_66_code (3 : Nat) (Option.some Jvm.ClassFile.FieldType.boolean)]
set_option maxRecDepth 65536 in
theorem codes_eq : words1.filter isCode = codes1 := rfl
theorem w_codes : ∀ c ∈ words1.filter isCode, c.before args0 about1 = true := by
  rw [codes_eq]
  intro c hc
  simp only [codes1, List.mem_cons, List.not_mem_nil, or_false] at hc
  rcases hc with rfl | rfl | rfl | rfl | rfl | rfl | rfl | rfl | rfl | rfl | rfl | rfl | rfl | rfl | rfl | rfl | rfl | rfl | rfl | rfl | rfl | rfl | rfl | rfl | rfl | rfl | rfl | rfl | rfl | rfl | rfl | rfl | rfl | rfl | rfl | rfl | rfl | rfl | rfl | rfl | rfl | rfl | rfl | rfl | rfl | rfl | rfl | rfl | rfl | rfl | rfl | rfl | rfl | rfl | rfl
  · exact w_c0
  · exact w_c1
  · exact w_c2
  · exact w_c3
  · exact w_c4
  · exact w_c5
  · exact w_c6
  · exact w_c7
  · exact w_c8
  · exact w_c9
  · exact w_c10
  · exact w_c11
  · exact w_c12
  · exact w_c13
  · exact w_c14
  · exact w_c15
  · exact w_c16
  · exact w_c17
  · exact w_c18
  · exact w_c19
  · exact w_c20
  · exact w_c21
  · exact w_c22
  · exact w_c23
  · exact w_c24
  · exact w_c25
  · exact w_c26
  · exact w_c27
  · exact w_c28
  · exact w_c29
  · exact w_c30
  · exact w_c31
  · exact w_c32
  · exact w_c33
  · exact w_c34
  · exact w_c35
  · exact w_c36
  · exact w_c37
  · exact w_c38
  · exact w_c39
  · exact w_c40
  · exact w_c41
  · exact w_c42
  · exact w_c43
  · exact w_c44
  · exact w_c45
  · exact w_c46
  · exact w_c47
  · exact w_c48
  · exact w_c49
  · exact w_c50
  · exact w_c51
  · exact w_c52
  · exact w_c53
  · exact w_c54
set_option maxRecDepth 65536 in
theorem w_t1 : (words1.take 24).all (fun c => isCode c || c.before args0 about1) = true := by decide +kernel
set_option maxRecDepth 65536 in
theorem w_t2 : ((words1.drop 24).take 24).all (fun c => isCode c || c.before args0 about1) = true := by decide +kernel
set_option maxRecDepth 65536 in
theorem w_t3 : (((words1.drop 24).drop 24).take 24).all (fun c => isCode c || c.before args0 about1) = true := by decide +kernel
set_option maxRecDepth 65536 in
theorem w_t4 : ((((words1.drop 24).drop 24).drop 24).take 24).all (fun c => isCode c || c.before args0 about1) = true := by decide +kernel
set_option maxRecDepth 65536 in
theorem w_t5 : (((((words1.drop 24).drop 24).drop 24).drop 24).take 24).all (fun c => isCode c || c.before args0 about1) = true := by decide +kernel
set_option maxRecDepth 65536 in
theorem w_t6 : ((((((words1.drop 24).drop 24).drop 24).drop 24).drop 24).take 24).all (fun c => isCode c || c.before args0 about1) = true := by decide +kernel
set_option maxRecDepth 65536 in
theorem w_t7 : (((((((words1.drop 24).drop 24).drop 24).drop 24).drop 24).drop 24).take 24).all (fun c => isCode c || c.before args0 about1) = true := by decide +kernel
set_option maxRecDepth 65536 in
theorem w_t8 : ((((((((words1.drop 24).drop 24).drop 24).drop 24).drop 24).drop 24).drop 24).take 24).all (fun c => isCode c || c.before args0 about1) = true := by decide +kernel
set_option maxRecDepth 65536 in
theorem w_t9 : (((((((((words1.drop 24).drop 24).drop 24).drop 24).drop 24).drop 24).drop 24).drop 24).take 24).all (fun c => isCode c || c.before args0 about1) = true := by decide +kernel
set_option maxRecDepth 65536 in
theorem w_t10 : ((((((((((words1.drop 24).drop 24).drop 24).drop 24).drop 24).drop 24).drop 24).drop 24).drop 24).take 24).all (fun c => isCode c || c.before args0 about1) = true := by decide +kernel
set_option maxRecDepth 65536 in
theorem w_t11 : (((((((((((words1.drop 24).drop 24).drop 24).drop 24).drop 24).drop 24).drop 24).drop 24).drop 24).drop 24).take 24).all (fun c => isCode c || c.before args0 about1) = true := by decide +kernel
set_option maxRecDepth 65536 in
theorem w_t12 : ((((((((((((words1.drop 24).drop 24).drop 24).drop 24).drop 24).drop 24).drop 24).drop 24).drop 24).drop 24).drop 24).take 24).all (fun c => isCode c || c.before args0 about1) = true := by decide +kernel
set_option maxRecDepth 65536 in
theorem w_t13 : ((((((((((((words1.drop 24).drop 24).drop 24).drop 24).drop 24).drop 24).drop 24).drop 24).drop 24).drop 24).drop 24).drop 24).all (fun c => isCode c || c.before args0 about1) = true := by decide +kernel
theorem w_tables : (allAtoms (Jvm.Cond.code x code maxLocals ret :: tables_1)).before args0 about1 = true := by
  rw [allAtoms_all]
  show words1.all (fun c => c.before args0 about1) = true
  refine all_split ?_ w_codes
  rw [← List.take_append_drop 24 words1, List.all_append, w_t1, ← List.take_append_drop 24 (words1.drop 24), List.all_append, w_t2, ← List.take_append_drop 24 ((words1.drop 24).drop 24), List.all_append, w_t3, ← List.take_append_drop 24 (((words1.drop 24).drop 24).drop 24), List.all_append, w_t4, ← List.take_append_drop 24 ((((words1.drop 24).drop 24).drop 24).drop 24), List.all_append, w_t5, ← List.take_append_drop 24 (((((words1.drop 24).drop 24).drop 24).drop 24).drop 24), List.all_append, w_t6, ← List.take_append_drop 24 ((((((words1.drop 24).drop 24).drop 24).drop 24).drop 24).drop 24), List.all_append, w_t7, ← List.take_append_drop 24 (((((((words1.drop 24).drop 24).drop 24).drop 24).drop 24).drop 24).drop 24), List.all_append, w_t8, ← List.take_append_drop 24 ((((((((words1.drop 24).drop 24).drop 24).drop 24).drop 24).drop 24).drop 24).drop 24), List.all_append, w_t9, ← List.take_append_drop 24 (((((((((words1.drop 24).drop 24).drop 24).drop 24).drop 24).drop 24).drop 24).drop 24).drop 24), List.all_append, w_t10, ← List.take_append_drop 24 ((((((((((words1.drop 24).drop 24).drop 24).drop 24).drop 24).drop 24).drop 24).drop 24).drop 24).drop 24), List.all_append, w_t11, ← List.take_append_drop 24 (((((((((((words1.drop 24).drop 24).drop 24).drop 24).drop 24).drop 24).drop 24).drop 24).drop 24).drop 24).drop 24), List.all_append, w_t12, w_t13]
  rfl
set_option maxRecDepth 65536 in
theorem w_rest : rest_1_c.before args0 about1 = true := by decide +kernel
set_option maxRecDepth 65536 in
theorem w_case : (Jvm.Cond.and given_1 narrow_1).before args0 about1 = true := by decide +kernel
set_option maxRecDepth 65536 in
theorem w_consts : constsHeld consts_1 about1 := Jvm.Lit.constsHeldB_iff.mp (by decide +kernel)
theorem w_applies : (headSpec (Jvm.Cond.code x code maxLocals ret :: tables_1) room_1).applies x e0.platform about1 = true :=
  (Spec.applies_iff w_frames).mpr ⟨w_running, w_runnable, w_alone, w_named, w_hears, w_ripe, w_room, w_tables⟩
theorem atStart : AtStart classFile x code maxLocals ret World_1 tables_1 room_1 Calls_1 rest_1 Pre_1 launch0 p0 e0 about1 theMethod args0 below0 :=
  ⟨lists_1, trivial, launch0.admits_env _ _ _, launch0.least_env, fairChoices_fair.cas, fairChoices_fair.clock, w_frames, w_args, w_heap, w_applies, ⟨w_consts, trivial⟩, w_rest, w_case⟩
end start1
theorem witness_1 : WitnessClaimed_1 := ⟨start1.p0, start1.e0, start1.about1, start1.theMethod, start1.args0, start1.below0, start1.atStart⟩
end Jvm.Pilot.@@N@@
