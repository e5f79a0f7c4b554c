import JvmDerived
import JvmDerived.Pilot.@@N@@Statement
import JvmDerived.Pilot.@@N@@Code
set_option linter.unusedVariables false
set_option linter.unusedSimpArgs false
namespace Jvm.OwnKit
open Sem ClassFile Op Lib Jvm.Stand Jvm.Free Jvm.LawKit Jvm.RoadKit
/-! A WALK THAT IS DIRECTED BY ITS GOAL. Cx: what one invocation holds fixed. Go κ h cells slots pc Ls st: from the place pc, with these variables and this operand stack, over the heap h, the invocation returns as κ promises. -/
abbrev Cx : Type := (Program × Launch × Env × Room × State × MethodId × Array Value × List Frame × Method × Code) × (Bool × State × Nat × (Option Value → Heap → Prop) × (Vm → Prop))
abbrev Cx.p (κ : Cx) : Program := κ.1.1
abbrev Cx.l (κ : Cx) : Launch := κ.1.2.1
abbrev Cx.e (κ : Cx) : Env := κ.1.2.2.1
abbrev Cx.R (κ : Cx) : Room := κ.1.2.2.2.1
abbrev Cx.s (κ : Cx) : State := κ.1.2.2.2.2.1
abbrev Cx.m (κ : Cx) : MethodId := κ.1.2.2.2.2.2.1
abbrev Cx.args (κ : Cx) : Array Value := κ.1.2.2.2.2.2.2.1
abbrev Cx.below (κ : Cx) : List Frame := κ.1.2.2.2.2.2.2.2.1
abbrev Cx.meth (κ : Cx) : Method := κ.1.2.2.2.2.2.2.2.2.1
abbrev Cx.c (κ : Cx) : Code := κ.1.2.2.2.2.2.2.2.2.2
/-- may string constants be resolved on the way? -/
abbrev Cx.wide (κ : Cx) : Bool := κ.2.1
abbrev Cx.Z (κ : Cx) : State := κ.2.2.1
abbrev Cx.n0 (κ : Cx) : Nat := κ.2.2.2.1
abbrev Cx.Q (κ : Cx) : Option Value → Heap → Prop := κ.2.2.2.2.1
abbrev Cx.J (κ : Cx) : Vm → Prop := κ.2.2.2.2.2
def Cx.setJ (κ : Cx) (J : Vm → Prop) : Cx := (κ.1, (κ.2.1, κ.2.2.1, κ.2.2.2.1, κ.2.2.2.2.1, J))
/-- the tables over which the walk stands now -/
def Cx.adm (κ : Cx) (vm0 : Vm) (n : Nat) : Prop := (∃ k0, κ.s.Since vm0 k0 ∧ k0 ≤ n) ∧ (κ.wide = false → vm0 = κ.s.vm) ∧ κ.J vm0
/-- how an invocation ends -/
def Ends (wide : Bool) (s : State) (o : Outcome) (t : State) (L : List Loc) (k n : Nat) : Prop := (wide = false → FrameEnd s o t L k n) ∧ ReturnedEndW s o t L k n
def Go (κ : Cx) (h : Heap) (cells slots pc : Nat) (Ls : Array Slot) (st : List Value) : Prop :=
  ∀ (T : State) (locs : List Loc) (vm0 : Vm), Stand κ.p κ.l κ.e κ.R (κ.s.setVm vm0) κ.m κ.args κ.below κ.meth κ.c T locs cells slots → κ.adm vm0 h.size → κ.Z.Warmed39 vm0 → Fr κ.n0 locs → Old κ.Z κ.n0 h → T.heap = h →
    ∃ s₂ o, Steps κ.p.tables κ.e κ.below (T.setTop (mkF κ.m pc Ls st)) s₂ ∧ s₂.status = .running ∧ Ended s₂ κ.below o ∧ ∃ v L, o = .returned v ∧ (κ.Q v s₂.heap ∧ Fr κ.n0 L ∧ κ.s.heap.size ≤ s₂.heap.size ∧ Old κ.Z κ.n0 s₂.heap) ∧ Ends κ.wide κ.s o s₂ L κ.R.cells κ.R.slots
def Ok (κ : Cx) (l : Launch) (Z : State) (n0 : Nat) (own nm : String) (bytes : ByteArray) (maxL : Nat) (ret : Option FieldType) (rm : Room) (Q : Option Value → Heap → Prop) : Prop :=
  κ.l = l ∧ κ.Z = Z ∧ κ.n0 = n0 ∧ κ.R = rm ∧ κ.p.tables.exec = Jvm.exec ∧ κ.s.vm.findClass own = some κ.m.cls ∧ κ.c.code = bytes ∧ κ.c.maxLocals = maxL ∧ κ.meth.sig.returnType = ret ∧ κ.meth.name = nm ∧ κ.meth.locks = false ∧ κ.Q = Q
/-- a callee's contract: called with these arguments over the heap h0 it returns, and Q holds of what it returns and of the heap that it leaves; what it wrote lies at or above n0 -/
def ConX (J : Vm → Prop) (wide : Bool) (l : Launch) (Z : State) (n0 : Nat) (y : MethodName) (bytes : ByteArray) (maxL : Nat) (ret : Option FieldType) (rm : Room) (as' : Array Value) (h0 : Heap) (Q : Option Value → Heap → Prop) : Prop :=
  Old Z n0 h0 → ∀ ws : List Cond, MetFree l y (head1 (Cond.code y bytes maxL ret :: ws) rm) (fun a U => a = as' ∧ Z.Warmed39 U.vm ∧ U.heap = h0 ∧ J U.vm) (fun _ _ _ _ _ => True)
    (fun _ U o U' => ∃ v L, o = .returned v ∧ (Q v U'.heap ∧ Fr n0 L ∧ U.heap.size ≤ U'.heap.size ∧ Old Z n0 U'.heap) ∧ Ends wide U o U' L rm.cells rm.slots)
abbrev Con := ConX (fun _ => True)
section Laws
variable {κ : Cx} {t : FieldType} {l : Launch} {Z : State} {n0 : Nat} {own nm : String} {bytes : ByteArray} {maxL : Nat} {ret : Option FieldType} {rm : Room} {Q : Option Value → Heap → Prop} {h : Heap} {cells slots pc : Nat} {Ls : Array Slot} {st : List Value}
theorem Ok.exec (K : Ok κ l Z n0 own nm bytes maxL ret rm Q) : κ.p.tables.exec = Jvm.exec := K.2.2.2.2.1
theorem Ok.kb (K : Ok κ l Z n0 own nm bytes maxL ret rm Q) : κ.c.code = bytes := K.2.2.2.2.2.2.1
theorem Ok.kl (K : Ok κ l Z n0 own nm bytes maxL ret rm Q) : κ.c.maxLocals = maxL := K.2.2.2.2.2.2.2.1
theorem Ok.kr (K : Ok κ l Z n0 own nm bytes maxL ret rm Q) : κ.meth.sig.returnType = ret := K.2.2.2.2.2.2.2.2.1
theorem Ok.name (K : Ok κ l Z n0 own nm bytes maxL ret rm Q) : κ.meth.name = nm := K.2.2.2.2.2.2.2.2.2.1
theorem Ok.locks (K : Ok κ l Z n0 own nm bytes maxL ret rm Q) : κ.meth.locks = false := K.2.2.2.2.2.2.2.2.2.2.1
theorem Ok.eQ (K : Ok κ l Z n0 own nm bytes maxL ret rm Q) : κ.Q = Q := K.2.2.2.2.2.2.2.2.2.2.2
theorem Ok.eZ (K : Ok κ l Z n0 own nm bytes maxL ret rm Q) : κ.Z = Z := K.2.1
theorem Ok.en (K : Ok κ l Z n0 own nm bytes maxL ret rm Q) : κ.n0 = n0 := K.2.2.1
theorem Ok.eR (K : Ok κ l Z n0 own nm bytes maxL ret rm Q) : κ.R = rm := K.2.2.2.1
theorem Ok.el (K : Ok κ l Z n0 own nm bytes maxL ret rm Q) : κ.l = l := K.1
theorem Ok.ko (K : Ok κ l Z n0 own nm bytes maxL ret rm Q) {vm0 : Vm} {n : Nat} (A : κ.adm vm0 n) : (κ.s.setVm vm0).vm.findClass own = some κ.m.cls := by
  obtain ⟨⟨k0, hS, -⟩, -⟩ := A
  show vm0.findClass own = _
  rw [hS.1.alike.findClass]; exact K.2.2.2.2.2.1
theorem Ok.warm (K : Ok κ l Z n0 own nm bytes maxL ret rm Q) {vm0 : Vm} (hZ : κ.Z.Warmed39 vm0) : Z.Warmed39 (κ.s.setVm vm0).vm := by rw [← K.eZ]; exact hZ
theorem Cx.adm.mono {vm0 : Vm} {n n' : Nat} (A : κ.adm vm0 n) (q : n ≤ n') : κ.adm vm0 n' := by
  obtain ⟨⟨k0, hS, hk⟩, w⟩ := A
  exact ⟨⟨k0, hS, Nat.le_trans hk q⟩, w⟩
theorem Ok.old (K : Ok κ l Z n0 own nm bytes maxL ret rm Q) (B : Old κ.Z κ.n0 h) : Old Z n0 h := by rw [← K.eZ, ← K.en]; exact B
theorem Ok.oldS (K : Ok κ l Z n0 own nm bytes maxL ret rm Q) (B : Old Z n0 h) : Old κ.Z κ.n0 h := by rw [K.eZ, K.en]; exact B
theorem low_of (B : Old Z n0 h) : n0 ≤ h.size := B.1 ▸ B.2.1
/-- what was there at the law's start is there still -/
theorem old (K : Ok κ l Z n0 own nm bytes maxL ret rm Q) (hr : Old Z n0 h → Go κ h cells slots pc Ls st) : Go κ h cells slots pc Ls st := fun T locs vm0 X A hZ N B eT =>
  hr (K.old B) T locs vm0 X A hZ N B eT
theorem more {cells' slots' : Nat} (hc : cells ≤ cells') (hs : slots ≤ slots') (hr : Go κ h cells' slots' pc Ls st) : Go κ h cells slots pc Ls st := fun T locs vm0 X A hZ N B eT =>
  hr T locs vm0 (X.mono hc hs) A hZ N B eT
theorem Ends.mono {wide : Bool} {s t : State} {o : Outcome} {L : List Loc} {k n k' n' : Nat} (E : Ends wide s o t L k n) (hk : k ≤ k') (hn : n ≤ n') : Ends wide s o t L k' n' :=
  ⟨fun w => ⟨(E.1 w).1, (E.1 w).2.1, (E.1 w).2.2.mono hk hn⟩, E.2.1, E.2.2.1, E.2.2.2.1, E.2.2.2.2.mono hk hn⟩
/-! ## the end of a walk -/
theorem out (K : Ok κ l Z n0 own nm bytes maxL ret rm Q) {v : Option Value} (hv : ret = none → v = none) (hq : Q v h) (hc : cells ≤ rm.cells) (hs : slots ≤ rm.slots)
    (st1 : ∀ (T : State) (locs : List Loc) (vm0 : Vm) (fs : List Frame), Stand κ.p κ.l κ.e κ.R (κ.s.setVm vm0) κ.m κ.args κ.below κ.meth κ.c T locs cells slots → (∀ (f : JFrame) (acts : List Action), f.method = κ.m → f.locked = none → f.entered = [] → (doReturn κ.e (T.setTop f) acts v).1 = T.setFrames fs) →
      Steps κ.p.tables κ.e κ.below (T.setTop (mkF κ.m pc Ls st)) (T.setFrames fs)) : Go κ h cells slots pc Ls st := fun T locs vm0 X A hZ N B eT => by
  obtain ⟨⟨k0, hS, hk⟩, hw, -⟩ := A
  have hlk := K.locks
  obtain ⟨fs, hr, hrun, hended, hW, hsame⟩ := X.leave (v := v) (fun q => hv (K.kr ▸ q))
  have hR : ReturnedEndW κ.s (.returned v) (T.setFrames fs) locs cells slots := by
    obtain ⟨a, b, c'⟩ := hS.ended (U := T.setFrames fs) hW (by show k0 ≤ T.heap.size; rw [eT]; exact hk) hsame
    exact ⟨⟨v, rfl⟩, a, b, c'⟩
  refine ⟨_, _, st1 T locs vm0 fs X hr, hrun, hended, v, locs, rfl, ⟨?_, N, hR.2.2.2.2.1, by show Old κ.Z κ.n0 T.heap; rw [eT]; exact B⟩, Ends.mono ⟨fun w => ?_, hR⟩ (by rw [K.eR]; exact hc) (by rw [K.eR]; exact hs)⟩
  · show κ.Q v T.heap
    rw [K.eQ, eT]; exact hq
  · have e0 := hw w
    subst e0
    exact ⟨⟨v, rfl⟩, hW, hsame⟩
theorem retOf (K : Ok κ l Z n0 own nm bytes maxL (some t) rm Q) {w : Value} {i : Instr} (hd : decode bytes pc = .ok (i, 1)) (hn : narrow t w = w)
    (hi : (i = .ireturn ∧ (t = .int ∨ t = .boolean ∨ t = .byte ∨ t = .char ∨ t = .short) ∧ ∃ z, w = .int z) ∨ (i = .lreturn ∧ t = .long ∧ ∃ z, w = .long z) ∨ (i = .dreturn ∧ t = .double ∧ ∃ z, w = .double z) ∨ (i = .freturn ∧ t = .float ∧ ∃ z, w = .float z) ∨ (i = .areturn ∧ t.isReference = true ∧ w.isRef = true))
    (hq : Q (some w) h) (hc : cells ≤ rm.cells) (hs : slots ≤ rm.slots) : Go κ h cells slots pc Ls (w :: st) :=
  out K (fun q => nomatch q) hq hc hs fun T locs vm0 fs X hr => retOut X K.exec K.kr hn hi (hb K.kb hd) hr
theorem ireturn (K : Ok κ l Z n0 own nm bytes maxL (some t) rm Q) {z : Int32} (hd : decode bytes pc = .ok (.ireturn, 1)) (ht : t = .int ∨ t = .boolean ∨ t = .byte ∨ t = .char ∨ t = .short) (hn : narrow t (.int z) = .int z)
    (hq : Q (some (.int z)) h) (hc : cells ≤ rm.cells) (hs : slots ≤ rm.slots) : Go κ h cells slots pc Ls (.int z :: st) := retOf K hd hn (Or.inl ⟨rfl, ht, z, rfl⟩) hq hc hs
theorem lreturn (K : Ok κ l Z n0 own nm bytes maxL (some .long) rm Q) {z : Int64} (hd : decode bytes pc = .ok (.lreturn, 1)) (hq : Q (some (.long z)) h) (hc : cells ≤ rm.cells) (hs : slots ≤ rm.slots) : Go κ h cells slots pc Ls (.long z :: st) :=
  retOf K hd rfl (Or.inr (Or.inl ⟨rfl, rfl, z, rfl⟩)) hq hc hs
theorem areturn (K : Ok κ l Z n0 own nm bytes maxL (some t) rm Q) {w : Value} (hd : decode bytes pc = .ok (.areturn, 1)) (ht : t.isReference = true) (hw : w.isRef = true) (hq : Q (some w) h) (hc : cells ≤ rm.cells) (hs : slots ≤ rm.slots) : Go κ h cells slots pc Ls (w :: st) := by
  refine retOf K hd ?_ (Or.inr (Or.inr (Or.inr (Or.inr ⟨rfl, ht, hw⟩)))) hq hc hs
  cases t <;> first | (exact Bool.noConfusion ht; done) | (rcases ref_cases hw with rfl | ⟨a, rfl⟩ <;> rfl)
theorem return0 (K : Ok κ l Z n0 own nm bytes maxL none rm Q) (hd : decode bytes pc = .ok (.return_, 1)) (hq : Q none h) (hc : cells ≤ rm.cells) (hs : slots ≤ rm.slots) : Go κ h cells slots pc Ls [] :=
  out K (fun _ => rfl) hq hc hs fun T locs vm0 fs X hr => X.returnOut K.exec K.kr (hb K.kb hd) hr

theorem iloadN {k : Fin 4} {v : Int32} (K : Ok κ l Z n0 own nm bytes maxL ret rm Q) (hd : decode bytes pc = .ok (.iload_n k, 1)) (hl : Ls[k.val]? = some (.val (.int v))) (hr : Go κ h cells slots (pc + 1) Ls ((.int v) :: st)) : Go κ h cells slots pc Ls (st) := fun T locs vm0 X A hZ N B eT => by
  obtain ⟨s₂, o, hs, r⟩ := hr T locs vm0 X A hZ N B eT
  exact ⟨s₂, o, XS.iloadN X.here K.exec rfl (hb K.kb hd) hl hs, r⟩
theorem iload {k : Nat} {v : Int32} (K : Ok κ l Z n0 own nm bytes maxL ret rm Q) (hd : decode bytes pc = .ok (.iload k, 2)) (hl : Ls[k]? = some (.val (.int v))) (hr : Go κ h cells slots (pc + 2) Ls ((.int v) :: st)) : Go κ h cells slots pc Ls (st) := fun T locs vm0 X A hZ N B eT => by
  obtain ⟨s₂, o, hs, r⟩ := hr T locs vm0 X A hZ N B eT
  exact ⟨s₂, o, XS.iload X.here K.exec rfl (hb K.kb hd) hl hs, r⟩
theorem lloadN {k : Fin 4} {v : Int64} (K : Ok κ l Z n0 own nm bytes maxL ret rm Q) (hd : decode bytes pc = .ok (.lload_n k, 1)) (hl : Ls[k.val]? = some (.val (.long v))) (hr : Go κ h cells slots (pc + 1) Ls ((.long v) :: st)) : Go κ h cells slots pc Ls (st) := fun T locs vm0 X A hZ N B eT => by
  obtain ⟨s₂, o, hs, r⟩ := hr T locs vm0 X A hZ N B eT
  exact ⟨s₂, o, XT.lloadN X.here K.exec rfl (hb K.kb hd) hl hs, r⟩
theorem lload {k : Nat} {v : Int64} (K : Ok κ l Z n0 own nm bytes maxL ret rm Q) (hd : decode bytes pc = .ok (.lload k, 2)) (hl : Ls[k]? = some (.val (.long v))) (hr : Go κ h cells slots (pc + 2) Ls ((.long v) :: st)) : Go κ h cells slots pc Ls (st) := fun T locs vm0 X A hZ N B eT => by
  obtain ⟨s₂, o, hs, r⟩ := hr T locs vm0 X A hZ N B eT
  exact ⟨s₂, o, XT.lload X.here K.exec rfl (hb K.kb hd) hl hs, r⟩
theorem aloadN {k : Fin 4} {v : Value} (K : Ok κ l Z n0 own nm bytes maxL ret rm Q) (hd : decode bytes pc = .ok (.aload_n k, 1)) (hl : Ls[k.val]? = some (.val v)) (hv : v.isRef = true) (hr : Go κ h cells slots (pc + 1) Ls (v :: st)) : Go κ h cells slots pc Ls (st) := fun T locs vm0 X A hZ N B eT => by
  obtain ⟨s₂, o, hs, r⟩ := hr T locs vm0 X A hZ N B eT
  exact ⟨s₂, o, XS.aloadN X.here K.exec rfl (hb K.kb hd) hl hv hs, r⟩
theorem aload {k : Nat} {v : Value} (K : Ok κ l Z n0 own nm bytes maxL ret rm Q) (hd : decode bytes pc = .ok (.aload k, 2)) (hl : Ls[k]? = some (.val v)) (hv : v.isRef = true) (hr : Go κ h cells slots (pc + 2) Ls (v :: st)) : Go κ h cells slots pc Ls (st) := fun T locs vm0 X A hZ N B eT => by
  obtain ⟨s₂, o, hs, r⟩ := hr T locs vm0 X A hZ N B eT
  exact ⟨s₂, o, XS.aload X.here K.exec rfl (hb K.kb hd) hl hv hs, r⟩
theorem istoreN {k : Fin 4} {x : Int32} {l' : Array Slot} (K : Ok κ l Z n0 own nm bytes maxL ret rm Q) (hd : decode bytes pc = .ok (.istore_n k, 1)) (hl : storeLocals Ls k.val (.int x) = some l') (hr : Go κ h cells slots (pc + 1) l' (st)) : Go κ h cells slots pc Ls ((.int x) :: st) := fun T locs vm0 X A hZ N B eT => by
  obtain ⟨s₂, o, hs, r⟩ := hr T locs vm0 X A hZ N B eT
  exact ⟨s₂, o, XS.istoreN X.here K.exec rfl (hb K.kb hd) rfl hl hs, r⟩
theorem istore {k : Nat} {x : Int32} {l' : Array Slot} (K : Ok κ l Z n0 own nm bytes maxL ret rm Q) (hd : decode bytes pc = .ok (.istore k, 2)) (hl : storeLocals Ls k (.int x) = some l') (hr : Go κ h cells slots (pc + 2) l' (st)) : Go κ h cells slots pc Ls ((.int x) :: st) := fun T locs vm0 X A hZ N B eT => by
  obtain ⟨s₂, o, hs, r⟩ := hr T locs vm0 X A hZ N B eT
  exact ⟨s₂, o, XS.istore X.here K.exec rfl (hb K.kb hd) rfl hl hs, r⟩
theorem lstoreN {k : Fin 4} {x : Int64} {l' : Array Slot} (K : Ok κ l Z n0 own nm bytes maxL ret rm Q) (hd : decode bytes pc = .ok (.lstore_n k, 1)) (hl : storeLocals Ls k.val (.long x) = some l') (hr : Go κ h cells slots (pc + 1) l' (st)) : Go κ h cells slots pc Ls ((.long x) :: st) := fun T locs vm0 X A hZ N B eT => by
  obtain ⟨s₂, o, hs, r⟩ := hr T locs vm0 X A hZ N B eT
  exact ⟨s₂, o, XT.lstoreN X.here K.exec rfl (hb K.kb hd) rfl hl hs, r⟩
theorem lstore {k : Nat} {x : Int64} {l' : Array Slot} (K : Ok κ l Z n0 own nm bytes maxL ret rm Q) (hd : decode bytes pc = .ok (.lstore k, 2)) (hl : storeLocals Ls k (.long x) = some l') (hr : Go κ h cells slots (pc + 2) l' (st)) : Go κ h cells slots pc Ls ((.long x) :: st) := fun T locs vm0 X A hZ N B eT => by
  obtain ⟨s₂, o, hs, r⟩ := hr T locs vm0 X A hZ N B eT
  exact ⟨s₂, o, XT.lstore X.here K.exec rfl (hb K.kb hd) rfl hl hs, r⟩
theorem astoreN {k : Fin 4} {x : Value} {l' : Array Slot} (K : Ok κ l Z n0 own nm bytes maxL ret rm Q) (hd : decode bytes pc = .ok (.astore_n k, 1)) (hv : x.isRef = true) (hl : storeLocals Ls k.val x = some l') (hr : Go κ h cells slots (pc + 1) l' (st)) : Go κ h cells slots pc Ls (x :: st) := fun T locs vm0 X A hZ N B eT => by
  obtain ⟨s₂, o, hs, r⟩ := hr T locs vm0 X A hZ N B eT
  exact ⟨s₂, o, XS.astoreN X.here K.exec rfl (hb K.kb hd) rfl hv hl hs, r⟩
theorem astore {k : Nat} {x : Value} {l' : Array Slot} (K : Ok κ l Z n0 own nm bytes maxL ret rm Q) (hd : decode bytes pc = .ok (.astore k, 2)) (hv : x.isRef = true) (hl : storeLocals Ls k x = some l') (hr : Go κ h cells slots (pc + 2) l' (st)) : Go κ h cells slots pc Ls (x :: st) := fun T locs vm0 X A hZ N B eT => by
  obtain ⟨s₂, o, hs, r⟩ := hr T locs vm0 X A hZ N B eT
  exact ⟨s₂, o, XS.astore X.here K.exec rfl (hb K.kb hd) rfl hv hl hs, r⟩
theorem iconst {i : Int} (K : Ok κ l Z n0 own nm bytes maxL ret rm Q) (hd : decode bytes pc = .ok (.iconst i, 1))  (hr : Go κ h cells slots (pc + 1) Ls (.int (Int32.ofInt i) :: st)) : Go κ h cells slots pc Ls (st) := fun T locs vm0 X A hZ N B eT => by
  obtain ⟨s₂, o, hs, r⟩ := hr T locs vm0 X A hZ N B eT
  exact ⟨s₂, o, XS.iconst X.here K.exec rfl (hb K.kb hd)  hs, r⟩
theorem bipush {i : Int} (K : Ok κ l Z n0 own nm bytes maxL ret rm Q) (hd : decode bytes pc = .ok (.bipush i, 2))  (hr : Go κ h cells slots (pc + 2) Ls (.int (Int8.ofInt i).toInt32 :: st)) : Go κ h cells slots pc Ls (st) := fun T locs vm0 X A hZ N B eT => by
  obtain ⟨s₂, o, hs, r⟩ := hr T locs vm0 X A hZ N B eT
  exact ⟨s₂, o, XS.bipush X.here K.exec rfl (hb K.kb hd)  hs, r⟩
theorem sipush {i : Int} (K : Ok κ l Z n0 own nm bytes maxL ret rm Q) (hd : decode bytes pc = .ok (.sipush i, 3))  (hr : Go κ h cells slots (pc + 3) Ls (.int (Int16.ofInt i).toInt32 :: st)) : Go κ h cells slots pc Ls (st) := fun T locs vm0 X A hZ N B eT => by
  obtain ⟨s₂, o, hs, r⟩ := hr T locs vm0 X A hZ N B eT
  exact ⟨s₂, o, XS.sipush X.here K.exec rfl (hb K.kb hd)  hs, r⟩
theorem lconst {k : Fin 2} (K : Ok κ l Z n0 own nm bytes maxL ret rm Q) (hd : decode bytes pc = .ok (.lconst k, 1))  (hr : Go κ h cells slots (pc + 1) Ls (.long (Int64.ofNat k) :: st)) : Go κ h cells slots pc Ls (st) := fun T locs vm0 X A hZ N B eT => by
  obtain ⟨s₂, o, hs, r⟩ := hr T locs vm0 X A hZ N B eT
  exact ⟨s₂, o, XT.lconst X.here K.exec rfl (hb K.kb hd)  hs, r⟩
theorem aconstNull  (K : Ok κ l Z n0 own nm bytes maxL ret rm Q) (hd : decode bytes pc = .ok (.aconst_null, 1))  (hr : Go κ h cells slots (pc + 1) Ls (.null :: st)) : Go κ h cells slots pc Ls (st) := fun T locs vm0 X A hZ N B eT => by
  obtain ⟨s₂, o, hs, r⟩ := hr T locs vm0 X A hZ N B eT
  exact ⟨s₂, o, XS.aconstNull X.here K.exec rfl (hb K.kb hd)  hs, r⟩
theorem iadd {x y : Int32} (K : Ok κ l Z n0 own nm bytes maxL ret rm Q) (hd : decode bytes pc = .ok (.iadd, 1))  (hr : Go κ h cells slots (pc + 1) Ls (.int (x + y) :: st)) : Go κ h cells slots pc Ls (.int y :: .int x :: st) := fun T locs vm0 X A hZ N B eT => by
  obtain ⟨s₂, o, hs, r⟩ := hr T locs vm0 X A hZ N B eT
  exact ⟨s₂, o, XS.iadd X.here K.exec rfl (hb K.kb hd) rfl hs, r⟩
theorem isub {x y : Int32} (K : Ok κ l Z n0 own nm bytes maxL ret rm Q) (hd : decode bytes pc = .ok (.isub, 1))  (hr : Go κ h cells slots (pc + 1) Ls (.int (x - y) :: st)) : Go κ h cells slots pc Ls (.int y :: .int x :: st) := fun T locs vm0 X A hZ N B eT => by
  obtain ⟨s₂, o, hs, r⟩ := hr T locs vm0 X A hZ N B eT
  exact ⟨s₂, o, XS.isub X.here K.exec rfl (hb K.kb hd) rfl hs, r⟩
theorem imul {x y : Int32} (K : Ok κ l Z n0 own nm bytes maxL ret rm Q) (hd : decode bytes pc = .ok (.imul, 1))  (hr : Go κ h cells slots (pc + 1) Ls (.int (x * y) :: st)) : Go κ h cells slots pc Ls (.int y :: .int x :: st) := fun T locs vm0 X A hZ N B eT => by
  obtain ⟨s₂, o, hs, r⟩ := hr T locs vm0 X A hZ N B eT
  exact ⟨s₂, o, XS.imul X.here K.exec rfl (hb K.kb hd) rfl hs, r⟩
theorem iand {x y : Int32} (K : Ok κ l Z n0 own nm bytes maxL ret rm Q) (hd : decode bytes pc = .ok (.iand, 1))  (hr : Go κ h cells slots (pc + 1) Ls (.int (x &&& y) :: st)) : Go κ h cells slots pc Ls (.int y :: .int x :: st) := fun T locs vm0 X A hZ N B eT => by
  obtain ⟨s₂, o, hs, r⟩ := hr T locs vm0 X A hZ N B eT
  exact ⟨s₂, o, XS.iand X.here K.exec rfl (hb K.kb hd) rfl hs, r⟩
theorem ior {x y : Int32} (K : Ok κ l Z n0 own nm bytes maxL ret rm Q) (hd : decode bytes pc = .ok (.ior, 1))  (hr : Go κ h cells slots (pc + 1) Ls (.int (x ||| y) :: st)) : Go κ h cells slots pc Ls (.int y :: .int x :: st) := fun T locs vm0 X A hZ N B eT => by
  obtain ⟨s₂, o, hs, r⟩ := hr T locs vm0 X A hZ N B eT
  exact ⟨s₂, o, XT.ior X.here K.exec rfl (hb K.kb hd) rfl hs, r⟩
theorem ixor {x y : Int32} (K : Ok κ l Z n0 own nm bytes maxL ret rm Q) (hd : decode bytes pc = .ok (.ixor, 1))  (hr : Go κ h cells slots (pc + 1) Ls (.int (x ^^^ y) :: st)) : Go κ h cells slots pc Ls (.int y :: .int x :: st) := fun T locs vm0 X A hZ N B eT => by
  obtain ⟨s₂, o, hs, r⟩ := hr T locs vm0 X A hZ N B eT
  exact ⟨s₂, o, XT.ixor X.here K.exec rfl (hb K.kb hd) rfl hs, r⟩
theorem ishl {x y : Int32} (K : Ok κ l Z n0 own nm bytes maxL ret rm Q) (hd : decode bytes pc = .ok (.ishl, 1))  (hr : Go κ h cells slots (pc + 1) Ls (.int (x <<< (y &&& 31)) :: st)) : Go κ h cells slots pc Ls (.int y :: .int x :: st) := fun T locs vm0 X A hZ N B eT => by
  obtain ⟨s₂, o, hs, r⟩ := hr T locs vm0 X A hZ N B eT
  exact ⟨s₂, o, XT.ishl X.here K.exec rfl (hb K.kb hd) rfl hs, r⟩
theorem ishr {x y : Int32} (K : Ok κ l Z n0 own nm bytes maxL ret rm Q) (hd : decode bytes pc = .ok (.ishr, 1))  (hr : Go κ h cells slots (pc + 1) Ls (.int (x >>> (y &&& 31)) :: st)) : Go κ h cells slots pc Ls (.int y :: .int x :: st) := fun T locs vm0 X A hZ N B eT => by
  obtain ⟨s₂, o, hs, r⟩ := hr T locs vm0 X A hZ N B eT
  exact ⟨s₂, o, XT.ishr X.here K.exec rfl (hb K.kb hd) rfl hs, r⟩
theorem iushr {x y : Int32} (K : Ok κ l Z n0 own nm bytes maxL ret rm Q) (hd : decode bytes pc = .ok (.iushr, 1))  (hr : Go κ h cells slots (pc + 1) Ls (.int (XT.ushr x y) :: st)) : Go κ h cells slots pc Ls (.int y :: .int x :: st) := fun T locs vm0 X A hZ N B eT => by
  obtain ⟨s₂, o, hs, r⟩ := hr T locs vm0 X A hZ N B eT
  exact ⟨s₂, o, XT.iushr X.here K.exec rfl (hb K.kb hd) rfl hs, r⟩
theorem idiv {x y : Int32} (K : Ok κ l Z n0 own nm bytes maxL ret rm Q) (hd : decode bytes pc = .ok (.idiv, 1)) (hy : y ≠ 0) (hr : Go κ h cells slots (pc + 1) Ls (.int (x / y) :: st)) : Go κ h cells slots pc Ls (.int y :: .int x :: st) := fun T locs vm0 X A hZ N B eT => by
  obtain ⟨s₂, o, hs, r⟩ := hr T locs vm0 X A hZ N B eT
  exact ⟨s₂, o, XS.idiv X.here K.exec rfl (hb K.kb hd) rfl hy hs, r⟩
theorem ineg {x : Int32} (K : Ok κ l Z n0 own nm bytes maxL ret rm Q) (hd : decode bytes pc = .ok (.ineg, 1))  (hr : Go κ h cells slots (pc + 1) Ls (.int (-x) :: st)) : Go κ h cells slots pc Ls (.int x :: st) := fun T locs vm0 X A hZ N B eT => by
  obtain ⟨s₂, o, hs, r⟩ := hr T locs vm0 X A hZ N B eT
  exact ⟨s₂, o, XS.ineg X.here K.exec rfl (hb K.kb hd) rfl hs, r⟩
theorem ladd {x y : Int64} (K : Ok κ l Z n0 own nm bytes maxL ret rm Q) (hd : decode bytes pc = .ok (.ladd, 1))  (hr : Go κ h cells slots (pc + 1) Ls (.long (x + y) :: st)) : Go κ h cells slots pc Ls (.long y :: .long x :: st) := fun T locs vm0 X A hZ N B eT => by
  obtain ⟨s₂, o, hs, r⟩ := hr T locs vm0 X A hZ N B eT
  exact ⟨s₂, o, XT.ladd X.here K.exec rfl (hb K.kb hd) rfl hs, r⟩
theorem lsub {x y : Int64} (K : Ok κ l Z n0 own nm bytes maxL ret rm Q) (hd : decode bytes pc = .ok (.lsub, 1))  (hr : Go κ h cells slots (pc + 1) Ls (.long (x - y) :: st)) : Go κ h cells slots pc Ls (.long y :: .long x :: st) := fun T locs vm0 X A hZ N B eT => by
  obtain ⟨s₂, o, hs, r⟩ := hr T locs vm0 X A hZ N B eT
  exact ⟨s₂, o, XT.lsub X.here K.exec rfl (hb K.kb hd) rfl hs, r⟩
theorem lmul {x y : Int64} (K : Ok κ l Z n0 own nm bytes maxL ret rm Q) (hd : decode bytes pc = .ok (.lmul, 1))  (hr : Go κ h cells slots (pc + 1) Ls (.long (x * y) :: st)) : Go κ h cells slots pc Ls (.long y :: .long x :: st) := fun T locs vm0 X A hZ N B eT => by
  obtain ⟨s₂, o, hs, r⟩ := hr T locs vm0 X A hZ N B eT
  exact ⟨s₂, o, XT.lmul X.here K.exec rfl (hb K.kb hd) rfl hs, r⟩
theorem land {x y : Int64} (K : Ok κ l Z n0 own nm bytes maxL ret rm Q) (hd : decode bytes pc = .ok (.land, 1))  (hr : Go κ h cells slots (pc + 1) Ls (.long (x &&& y) :: st)) : Go κ h cells slots pc Ls (.long y :: .long x :: st) := fun T locs vm0 X A hZ N B eT => by
  obtain ⟨s₂, o, hs, r⟩ := hr T locs vm0 X A hZ N B eT
  exact ⟨s₂, o, XT.land X.here K.exec rfl (hb K.kb hd) rfl hs, r⟩
theorem lor {x y : Int64} (K : Ok κ l Z n0 own nm bytes maxL ret rm Q) (hd : decode bytes pc = .ok (.lor, 1))  (hr : Go κ h cells slots (pc + 1) Ls (.long (x ||| y) :: st)) : Go κ h cells slots pc Ls (.long y :: .long x :: st) := fun T locs vm0 X A hZ N B eT => by
  obtain ⟨s₂, o, hs, r⟩ := hr T locs vm0 X A hZ N B eT
  exact ⟨s₂, o, XT.lor X.here K.exec rfl (hb K.kb hd) rfl hs, r⟩
theorem lxor {x y : Int64} (K : Ok κ l Z n0 own nm bytes maxL ret rm Q) (hd : decode bytes pc = .ok (.lxor, 1))  (hr : Go κ h cells slots (pc + 1) Ls (.long (x ^^^ y) :: st)) : Go κ h cells slots pc Ls (.long y :: .long x :: st) := fun T locs vm0 X A hZ N B eT => by
  obtain ⟨s₂, o, hs, r⟩ := hr T locs vm0 X A hZ N B eT
  exact ⟨s₂, o, XT.lxor X.here K.exec rfl (hb K.kb hd) rfl hs, r⟩
theorem ldiv {x y : Int64} (K : Ok κ l Z n0 own nm bytes maxL ret rm Q) (hd : decode bytes pc = .ok (.ldiv, 1)) (hy : y ≠ 0) (hr : Go κ h cells slots (pc + 1) Ls (.long (x / y) :: st)) : Go κ h cells slots pc Ls (.long y :: .long x :: st) := fun T locs vm0 X A hZ N B eT => by
  obtain ⟨s₂, o, hs, r⟩ := hr T locs vm0 X A hZ N B eT
  exact ⟨s₂, o, XT.ldiv X.here K.exec rfl (hb K.kb hd) rfl hy hs, r⟩
theorem lshl {x : Int64} {y : Int32} (K : Ok κ l Z n0 own nm bytes maxL ret rm Q) (hd : decode bytes pc = .ok (.lshl, 1))  (hr : Go κ h cells slots (pc + 1) Ls (.long (x <<< (y.toInt64 &&& 63)) :: st)) : Go κ h cells slots pc Ls (.int y :: .long x :: st) := fun T locs vm0 X A hZ N B eT => by
  obtain ⟨s₂, o, hs, r⟩ := hr T locs vm0 X A hZ N B eT
  exact ⟨s₂, o, XT.lshl X.here K.exec rfl (hb K.kb hd) rfl hs, r⟩
theorem lshr {x : Int64} {y : Int32} (K : Ok κ l Z n0 own nm bytes maxL ret rm Q) (hd : decode bytes pc = .ok (.lshr, 1))  (hr : Go κ h cells slots (pc + 1) Ls (.long (x >>> (y.toInt64 &&& 63)) :: st)) : Go κ h cells slots pc Ls (.int y :: .long x :: st) := fun T locs vm0 X A hZ N B eT => by
  obtain ⟨s₂, o, hs, r⟩ := hr T locs vm0 X A hZ N B eT
  exact ⟨s₂, o, XT.lshr X.here K.exec rfl (hb K.kb hd) rfl hs, r⟩
theorem lushr {x : Int64} {y : Int32} (K : Ok κ l Z n0 own nm bytes maxL ret rm Q) (hd : decode bytes pc = .ok (.lushr, 1))  (hr : Go κ h cells slots (pc + 1) Ls (.long (XT.ushrL x y) :: st)) : Go κ h cells slots pc Ls (.int y :: .long x :: st) := fun T locs vm0 X A hZ N B eT => by
  obtain ⟨s₂, o, hs, r⟩ := hr T locs vm0 X A hZ N B eT
  exact ⟨s₂, o, XT.lushr X.here K.exec rfl (hb K.kb hd) rfl hs, r⟩
theorem lneg {x : Int64} (K : Ok κ l Z n0 own nm bytes maxL ret rm Q) (hd : decode bytes pc = .ok (.lneg, 1))  (hr : Go κ h cells slots (pc + 1) Ls (.long (-x) :: st)) : Go κ h cells slots pc Ls (.long x :: st) := fun T locs vm0 X A hZ N B eT => by
  obtain ⟨s₂, o, hs, r⟩ := hr T locs vm0 X A hZ N B eT
  exact ⟨s₂, o, XT.lneg X.here K.exec rfl (hb K.kb hd) rfl hs, r⟩
theorem i2l {x : Int32} (K : Ok κ l Z n0 own nm bytes maxL ret rm Q) (hd : decode bytes pc = .ok (.i2l, 1))  (hr : Go κ h cells slots (pc + 1) Ls (.long x.toInt64 :: st)) : Go κ h cells slots pc Ls (.int x :: st) := fun T locs vm0 X A hZ N B eT => by
  obtain ⟨s₂, o, hs, r⟩ := hr T locs vm0 X A hZ N B eT
  exact ⟨s₂, o, XT.i2l X.here K.exec rfl (hb K.kb hd) rfl hs, r⟩
theorem l2i {x : Int64} (K : Ok κ l Z n0 own nm bytes maxL ret rm Q) (hd : decode bytes pc = .ok (.l2i, 1))  (hr : Go κ h cells slots (pc + 1) Ls (.int x.toInt32 :: st)) : Go κ h cells slots pc Ls (.long x :: st) := fun T locs vm0 X A hZ N B eT => by
  obtain ⟨s₂, o, hs, r⟩ := hr T locs vm0 X A hZ N B eT
  exact ⟨s₂, o, XT.l2i X.here K.exec rfl (hb K.kb hd) rfl hs, r⟩
theorem i2b {x : Int32} (K : Ok κ l Z n0 own nm bytes maxL ret rm Q) (hd : decode bytes pc = .ok (.i2b, 1))  (hr : Go κ h cells slots (pc + 1) Ls (.int x.toInt8.toInt32 :: st)) : Go κ h cells slots pc Ls (.int x :: st) := fun T locs vm0 X A hZ N B eT => by
  obtain ⟨s₂, o, hs, r⟩ := hr T locs vm0 X A hZ N B eT
  exact ⟨s₂, o, XT.i2b X.here K.exec rfl (hb K.kb hd) rfl hs, r⟩
theorem i2c {x : Int32} (K : Ok κ l Z n0 own nm bytes maxL ret rm Q) (hd : decode bytes pc = .ok (.i2c, 1))  (hr : Go κ h cells slots (pc + 1) Ls (.int x.toUInt32.toUInt16.toUInt32.toInt32 :: st)) : Go κ h cells slots pc Ls (.int x :: st) := fun T locs vm0 X A hZ N B eT => by
  obtain ⟨s₂, o, hs, r⟩ := hr T locs vm0 X A hZ N B eT
  exact ⟨s₂, o, XT.i2c X.here K.exec rfl (hb K.kb hd) rfl hs, r⟩
theorem i2s {x : Int32} (K : Ok κ l Z n0 own nm bytes maxL ret rm Q) (hd : decode bytes pc = .ok (.i2s, 1))  (hr : Go κ h cells slots (pc + 1) Ls (.int x.toInt16.toInt32 :: st)) : Go κ h cells slots pc Ls (.int x :: st) := fun T locs vm0 X A hZ N B eT => by
  obtain ⟨s₂, o, hs, r⟩ := hr T locs vm0 X A hZ N B eT
  exact ⟨s₂, o, XT.i2s X.here K.exec rfl (hb K.kb hd) rfl hs, r⟩
theorem lcmp {x y : Int64} (K : Ok κ l Z n0 own nm bytes maxL ret rm Q) (hd : decode bytes pc = .ok (.lcmp, 1))  (hr : Go κ h cells slots (pc + 1) Ls (.int (XT.cmpL x y) :: st)) : Go κ h cells slots pc Ls (.long y :: .long x :: st) := fun T locs vm0 X A hZ N B eT => by
  obtain ⟨s₂, o, hs, r⟩ := hr T locs vm0 X A hZ N B eT
  exact ⟨s₂, o, XT.lcmp X.here K.exec rfl (hb K.kb hd) rfl hs, r⟩
theorem dup {x : Value} (K : Ok κ l Z n0 own nm bytes maxL ret rm Q) (hd : decode bytes pc = .ok (.dup, 1)) (hc : x.category = 1) (hr : Go κ h cells slots (pc + 1) Ls (x :: x :: st)) : Go κ h cells slots pc Ls (x :: st) := fun T locs vm0 X A hZ N B eT => by
  obtain ⟨s₂, o, hs, r⟩ := hr T locs vm0 X A hZ N B eT
  exact ⟨s₂, o, XS.dup X.here K.exec rfl (hb K.kb hd) rfl hc hs, r⟩
theorem pop {x : Value} (K : Ok κ l Z n0 own nm bytes maxL ret rm Q) (hd : decode bytes pc = .ok (.pop, 1)) (hc : x.category = 1) (hr : Go κ h cells slots (pc + 1) Ls (st)) : Go κ h cells slots pc Ls (x :: st) := fun T locs vm0 X A hZ N B eT => by
  obtain ⟨s₂, o, hs, r⟩ := hr T locs vm0 X A hZ N B eT
  exact ⟨s₂, o, XT.pop X.here K.exec rfl (hb K.kb hd) rfl hc hs, r⟩
theorem dupX1 {x y : Value} (K : Ok κ l Z n0 own nm bytes maxL ret rm Q) (hd : decode bytes pc = .ok (.dup_x1, 1)) (hc : x.category = 1) (hc' : y.category = 1) (hr : Go κ h cells slots (pc + 1) Ls (x :: y :: x :: st)) : Go κ h cells slots pc Ls (x :: y :: st) := fun T locs vm0 X A hZ N B eT => by
  obtain ⟨s₂, o, hs, r⟩ := hr T locs vm0 X A hZ N B eT
  exact ⟨s₂, o, XT.dupX1 X.here K.exec rfl (hb K.kb hd) rfl hc hc' hs, r⟩
theorem dup2 {x y : Value} (K : Ok κ l Z n0 own nm bytes maxL ret rm Q) (hd : decode bytes pc = .ok (.dup2, 1)) (hc : x.category = 1) (hc' : y.category = 1) (hr : Go κ h cells slots (pc + 1) Ls (x :: y :: x :: y :: st)) : Go κ h cells slots pc Ls (x :: y :: st) := fun T locs vm0 X A hZ N B eT => by
  obtain ⟨s₂, o, hs, r⟩ := hr T locs vm0 X A hZ N B eT
  exact ⟨s₂, o, XT.dup2 X.here K.exec rfl (hb K.kb hd) rfl hc hc' hs, r⟩
theorem dup2L {x : Int64} (K : Ok κ l Z n0 own nm bytes maxL ret rm Q) (hd : decode bytes pc = .ok (.dup2, 1))  (hr : Go κ h cells slots (pc + 1) Ls (.long x :: .long x :: st)) : Go κ h cells slots pc Ls (.long x :: st) := fun T locs vm0 X A hZ N B eT => by
  obtain ⟨s₂, o, hs, r⟩ := hr T locs vm0 X A hZ N B eT
  exact ⟨s₂, o, XT.dup2L X.here K.exec rfl (hb K.kb hd) rfl hs, r⟩
theorem iinc {k : Nat} {cst : Int} {x : Int32} {l' : Array Slot} (K : Ok κ l Z n0 own nm bytes maxL ret rm Q) (hd : decode bytes pc = .ok (.iinc k cst, 3)) (hl : Ls[k]? = some (.val (.int x))) (hl' : storeLocals Ls k (.int (x + Int32.ofInt cst)) = some l') (hr : Go κ h cells slots (pc + 3) l' (st)) : Go κ h cells slots pc Ls (st) := fun T locs vm0 X A hZ N B eT => by
  obtain ⟨s₂, o, hs, r⟩ := hr T locs vm0 X A hZ N B eT
  exact ⟨s₂, o, XS.iinc X.here K.exec rfl (hb K.kb hd) hl hl' hs, r⟩
theorem irem {x y : Int32} (K : Ok κ l Z n0 own nm bytes maxL ret rm Q) (hd : decode bytes pc = .ok (.irem, 1)) (hy : y ≠ 0) (hr : Go κ h cells slots (pc + 1) Ls (.int (x % y) :: st)) : Go κ h cells slots pc Ls (.int y :: .int x :: st) := fun T locs vm0 X A hZ N B eT => by
  obtain ⟨s₂, o, hs, r⟩ := hr T locs vm0 X A hZ N B eT
  exact ⟨s₂, o, iremM X K.exec rfl (hb K.kb hd) rfl hy hs, r⟩
theorem lrem {x y : Int64} (K : Ok κ l Z n0 own nm bytes maxL ret rm Q) (hd : decode bytes pc = .ok (.lrem, 1)) (hy : y ≠ 0) (hr : Go κ h cells slots (pc + 1) Ls (.long (x % y) :: st)) : Go κ h cells slots pc Ls (.long y :: .long x :: st) := fun T locs vm0 X A hZ N B eT => by
  obtain ⟨s₂, o, hs, r⟩ := hr T locs vm0 X A hZ N B eT
  exact ⟨s₂, o, XT.lrem X.here K.exec rfl (hb K.kb hd) rfl hy (by rw [lrem_mod]; exact hs), r⟩
theorem goto {o' : Int} {pc' : Nat} (K : Ok κ l Z n0 own nm bytes maxL ret rm Q) (hd : decode bytes pc = .ok (.goto o', 3)) (ho : 0 ≤ (pc : Int) + o') (hp : ((pc : Int) + o').toNat = pc') (hr : Go κ h cells slots pc' Ls st) : Go κ h cells slots pc Ls st := fun T locs vm0 X A hZ N B eT => by
  obtain ⟨s₂, o, hs, r⟩ := hr T locs vm0 X A hZ N B eT
  exact ⟨s₂, o, XS.goto X.here K.exec rfl rfl (hb K.kb hd) ho hp hs, r⟩
/-! ## branches: both roads, each with what is known on it -/
theorem ifB {cd : ClassFile.Cond} {x : Int32} {o' : Int} {pc' : Nat} (K : Ok κ l Z n0 own nm bytes maxL ret rm Q) (hd : decode bytes pc = .ok (.ifCond cd o', 3)) (ho : 0 ≤ (pc : Int) + o') (hp : ((pc : Int) + o').toNat = pc')
    (hy : if_icmp.holds cd x 0 = true → Go κ h cells slots pc' Ls st) (hn : if_icmp.holds cd x 0 = false → Go κ h cells slots (pc + 3) Ls st) : Go κ h cells slots pc Ls (.int x :: st) := fun T locs vm0 X A hZ N B eT => by
  cases hc : if_icmp.holds cd x 0 with
  | true => obtain ⟨s₂, o, hs, r⟩ := hy hc T locs vm0 X A hZ N B eT; exact ⟨s₂, o, XS.ifYes X.here K.exec rfl rfl (hb K.kb hd) rfl ((if0 _ _).trans hc) ho hp hs, r⟩
  | false => obtain ⟨s₂, o, hs, r⟩ := hn hc T locs vm0 X A hZ N B eT; exact ⟨s₂, o, XS.ifNo X.here K.exec rfl (hb K.kb hd) rfl ((if0 _ _).trans hc) hs, r⟩
theorem icB {cd : ClassFile.Cond} {x y : Int32} {o' : Int} {pc' : Nat} (K : Ok κ l Z n0 own nm bytes maxL ret rm Q) (hd : decode bytes pc = .ok (.if_icmp cd o', 3)) (ho : 0 ≤ (pc : Int) + o') (hp : ((pc : Int) + o').toNat = pc')
    (hy : if_icmp.holds cd x y = true → Go κ h cells slots pc' Ls st) (hn : if_icmp.holds cd x y = false → Go κ h cells slots (pc + 3) Ls st) : Go κ h cells slots pc Ls (.int y :: .int x :: st) := fun T locs vm0 X A hZ N B eT => by
  cases hc : if_icmp.holds cd x y with
  | true => obtain ⟨s₂, o, hs, r⟩ := hy hc T locs vm0 X A hZ N B eT; exact ⟨s₂, o, XS.icmpYes X.here K.exec rfl rfl (hb K.kb hd) rfl hc ho hp hs, r⟩
  | false => obtain ⟨s₂, o, hs, r⟩ := hn hc T locs vm0 X A hZ N B eT; exact ⟨s₂, o, XS.icmpNo X.here K.exec rfl (hb K.kb hd) rfl hc hs, r⟩
theorem h_eq (x y : Int32) : (if_icmp.holds .eq x y = true ↔ x = y) ∧ (if_icmp.holds .eq x y = false ↔ ¬ x = y) := by simp [if_icmp.holds]
theorem h_ne (x y : Int32) : (if_icmp.holds .ne x y = true ↔ ¬ x = y) ∧ (if_icmp.holds .ne x y = false ↔ x = y) := by simp [if_icmp.holds]
theorem h_lt (x y : Int32) : (if_icmp.holds .lt x y = true ↔ x.toInt < y.toInt) ∧ (if_icmp.holds .lt x y = false ↔ y.toInt ≤ x.toInt) := by simp [if_icmp.holds, Int32.lt_iff_toInt_lt]
theorem h_ge (x y : Int32) : (if_icmp.holds .ge x y = true ↔ y.toInt ≤ x.toInt) ∧ (if_icmp.holds .ge x y = false ↔ x.toInt < y.toInt) := by simp [if_icmp.holds, Int32.le_iff_toInt_le]
theorem h_gt (x y : Int32) : (if_icmp.holds .gt x y = true ↔ y.toInt < x.toInt) ∧ (if_icmp.holds .gt x y = false ↔ x.toInt ≤ y.toInt) := by simp [if_icmp.holds, Int32.lt_iff_toInt_lt]
theorem h_le (x y : Int32) : (if_icmp.holds .le x y = true ↔ x.toInt ≤ y.toInt) ∧ (if_icmp.holds .le x y = false ↔ y.toInt < x.toInt) := by simp [if_icmp.holds, Int32.le_iff_toInt_le]
theorem ifeq {x : Int32} {o' : Int} {pc' : Nat} (K : Ok κ l Z n0 own nm bytes maxL ret rm Q) (hd : decode bytes pc = .ok (.ifCond .eq o', 3)) (ho : 0 ≤ (pc : Int) + o') (hp : ((pc : Int) + o').toNat = pc')
    (hy : x = (0 : Int32) → Go κ h cells slots pc' Ls st) (hn : ¬ x = (0 : Int32) → Go κ h cells slots (pc + 3) Ls st) : Go κ h cells slots pc Ls (.int x :: st) :=
  ifB K hd ho hp (fun q => hy ((h_eq _ _).1.mp q)) (fun q => hn ((h_eq _ _).2.mp q))
theorem icmpeq {x y : Int32} {o' : Int} {pc' : Nat} (K : Ok κ l Z n0 own nm bytes maxL ret rm Q) (hd : decode bytes pc = .ok (.if_icmp .eq o', 3)) (ho : 0 ≤ (pc : Int) + o') (hp : ((pc : Int) + o').toNat = pc')
    (hy : x = y → Go κ h cells slots pc' Ls st) (hn : ¬ x = y → Go κ h cells slots (pc + 3) Ls st) : Go κ h cells slots pc Ls (.int y :: .int x :: st) :=
  icB K hd ho hp (fun q => hy ((h_eq _ _).1.mp q)) (fun q => hn ((h_eq _ _).2.mp q))
theorem ifne {x : Int32} {o' : Int} {pc' : Nat} (K : Ok κ l Z n0 own nm bytes maxL ret rm Q) (hd : decode bytes pc = .ok (.ifCond .ne o', 3)) (ho : 0 ≤ (pc : Int) + o') (hp : ((pc : Int) + o').toNat = pc')
    (hy : ¬ x = (0 : Int32) → Go κ h cells slots pc' Ls st) (hn : x = (0 : Int32) → Go κ h cells slots (pc + 3) Ls st) : Go κ h cells slots pc Ls (.int x :: st) :=
  ifB K hd ho hp (fun q => hy ((h_ne _ _).1.mp q)) (fun q => hn ((h_ne _ _).2.mp q))
theorem icmpne {x y : Int32} {o' : Int} {pc' : Nat} (K : Ok κ l Z n0 own nm bytes maxL ret rm Q) (hd : decode bytes pc = .ok (.if_icmp .ne o', 3)) (ho : 0 ≤ (pc : Int) + o') (hp : ((pc : Int) + o').toNat = pc')
    (hy : ¬ x = y → Go κ h cells slots pc' Ls st) (hn : x = y → Go κ h cells slots (pc + 3) Ls st) : Go κ h cells slots pc Ls (.int y :: .int x :: st) :=
  icB K hd ho hp (fun q => hy ((h_ne _ _).1.mp q)) (fun q => hn ((h_ne _ _).2.mp q))
theorem iflt {x : Int32} {o' : Int} {pc' : Nat} (K : Ok κ l Z n0 own nm bytes maxL ret rm Q) (hd : decode bytes pc = .ok (.ifCond .lt o', 3)) (ho : 0 ≤ (pc : Int) + o') (hp : ((pc : Int) + o').toNat = pc')
    (hy : x.toInt < (0 : Int) → Go κ h cells slots pc' Ls st) (hn : (0 : Int) ≤ x.toInt → Go κ h cells slots (pc + 3) Ls st) : Go κ h cells slots pc Ls (.int x :: st) :=
  ifB K hd ho hp (fun q => hy ((h_lt _ _).1.mp q)) (fun q => hn ((h_lt _ _).2.mp q))
theorem icmplt {x y : Int32} {o' : Int} {pc' : Nat} (K : Ok κ l Z n0 own nm bytes maxL ret rm Q) (hd : decode bytes pc = .ok (.if_icmp .lt o', 3)) (ho : 0 ≤ (pc : Int) + o') (hp : ((pc : Int) + o').toNat = pc')
    (hy : x.toInt < y.toInt → Go κ h cells slots pc' Ls st) (hn : y.toInt ≤ x.toInt → Go κ h cells slots (pc + 3) Ls st) : Go κ h cells slots pc Ls (.int y :: .int x :: st) :=
  icB K hd ho hp (fun q => hy ((h_lt _ _).1.mp q)) (fun q => hn ((h_lt _ _).2.mp q))
theorem ifge {x : Int32} {o' : Int} {pc' : Nat} (K : Ok κ l Z n0 own nm bytes maxL ret rm Q) (hd : decode bytes pc = .ok (.ifCond .ge o', 3)) (ho : 0 ≤ (pc : Int) + o') (hp : ((pc : Int) + o').toNat = pc')
    (hy : (0 : Int) ≤ x.toInt → Go κ h cells slots pc' Ls st) (hn : x.toInt < (0 : Int) → Go κ h cells slots (pc + 3) Ls st) : Go κ h cells slots pc Ls (.int x :: st) :=
  ifB K hd ho hp (fun q => hy ((h_ge _ _).1.mp q)) (fun q => hn ((h_ge _ _).2.mp q))
theorem icmpge {x y : Int32} {o' : Int} {pc' : Nat} (K : Ok κ l Z n0 own nm bytes maxL ret rm Q) (hd : decode bytes pc = .ok (.if_icmp .ge o', 3)) (ho : 0 ≤ (pc : Int) + o') (hp : ((pc : Int) + o').toNat = pc')
    (hy : y.toInt ≤ x.toInt → Go κ h cells slots pc' Ls st) (hn : x.toInt < y.toInt → Go κ h cells slots (pc + 3) Ls st) : Go κ h cells slots pc Ls (.int y :: .int x :: st) :=
  icB K hd ho hp (fun q => hy ((h_ge _ _).1.mp q)) (fun q => hn ((h_ge _ _).2.mp q))
theorem ifgt {x : Int32} {o' : Int} {pc' : Nat} (K : Ok κ l Z n0 own nm bytes maxL ret rm Q) (hd : decode bytes pc = .ok (.ifCond .gt o', 3)) (ho : 0 ≤ (pc : Int) + o') (hp : ((pc : Int) + o').toNat = pc')
    (hy : (0 : Int) < x.toInt → Go κ h cells slots pc' Ls st) (hn : x.toInt ≤ (0 : Int) → Go κ h cells slots (pc + 3) Ls st) : Go κ h cells slots pc Ls (.int x :: st) :=
  ifB K hd ho hp (fun q => hy ((h_gt _ _).1.mp q)) (fun q => hn ((h_gt _ _).2.mp q))
theorem icmpgt {x y : Int32} {o' : Int} {pc' : Nat} (K : Ok κ l Z n0 own nm bytes maxL ret rm Q) (hd : decode bytes pc = .ok (.if_icmp .gt o', 3)) (ho : 0 ≤ (pc : Int) + o') (hp : ((pc : Int) + o').toNat = pc')
    (hy : y.toInt < x.toInt → Go κ h cells slots pc' Ls st) (hn : x.toInt ≤ y.toInt → Go κ h cells slots (pc + 3) Ls st) : Go κ h cells slots pc Ls (.int y :: .int x :: st) :=
  icB K hd ho hp (fun q => hy ((h_gt _ _).1.mp q)) (fun q => hn ((h_gt _ _).2.mp q))
theorem ifle {x : Int32} {o' : Int} {pc' : Nat} (K : Ok κ l Z n0 own nm bytes maxL ret rm Q) (hd : decode bytes pc = .ok (.ifCond .le o', 3)) (ho : 0 ≤ (pc : Int) + o') (hp : ((pc : Int) + o').toNat = pc')
    (hy : x.toInt ≤ (0 : Int) → Go κ h cells slots pc' Ls st) (hn : (0 : Int) < x.toInt → Go κ h cells slots (pc + 3) Ls st) : Go κ h cells slots pc Ls (.int x :: st) :=
  ifB K hd ho hp (fun q => hy ((h_le _ _).1.mp q)) (fun q => hn ((h_le _ _).2.mp q))
theorem icmple {x y : Int32} {o' : Int} {pc' : Nat} (K : Ok κ l Z n0 own nm bytes maxL ret rm Q) (hd : decode bytes pc = .ok (.if_icmp .le o', 3)) (ho : 0 ≤ (pc : Int) + o') (hp : ((pc : Int) + o').toNat = pc')
    (hy : x.toInt ≤ y.toInt → Go κ h cells slots pc' Ls st) (hn : y.toInt < x.toInt → Go κ h cells slots (pc + 3) Ls st) : Go κ h cells slots pc Ls (.int y :: .int x :: st) :=
  icB K hd ho hp (fun q => hy ((h_le _ _).1.mp q)) (fun q => hn ((h_le _ _).2.mp q))
theorem ifnull {x : Value} {o' : Int} {pc' : Nat} (K : Ok κ l Z n0 own nm bytes maxL ret rm Q) (hd : decode bytes pc = .ok (.ifnull o', 3)) (ho : 0 ≤ (pc : Int) + o') (hp : ((pc : Int) + o').toNat = pc') (hx : x.isRef = true)
    (hy : x = .null → Go κ h cells slots pc' Ls st) (hn : ∀ a, x = .ref a → Go κ h cells slots (pc + 3) Ls st) : Go κ h cells slots pc Ls (x :: st) := fun T locs vm0 X A hZ N B eT => by
  rcases ref_cases hx with rfl | ⟨a, rfl⟩
  · obtain ⟨s₂, o, hs, r⟩ := hy rfl T locs vm0 X A hZ N B eT; exact ⟨s₂, o, XS.ifnullYes X.here K.exec rfl rfl (hb K.kb hd) rfl ho hp hs, r⟩
  · obtain ⟨s₂, o, hs, r⟩ := hn a rfl T locs vm0 X A hZ N B eT; exact ⟨s₂, o, XS.ifnullNo X.here K.exec rfl (hb K.kb hd) rfl hs, r⟩
theorem ifnonnull {x : Value} {o' : Int} {pc' : Nat} (K : Ok κ l Z n0 own nm bytes maxL ret rm Q) (hd : decode bytes pc = .ok (.ifnonnull o', 3)) (ho : 0 ≤ (pc : Int) + o') (hp : ((pc : Int) + o').toNat = pc') (hx : x.isRef = true)
    (hy : ∀ a, x = .ref a → Go κ h cells slots pc' Ls st) (hn : x = .null → Go κ h cells slots (pc + 3) Ls st) : Go κ h cells slots pc Ls (x :: st) := fun T locs vm0 X A hZ N B eT => by
  rcases ref_cases hx with rfl | ⟨a, rfl⟩
  · obtain ⟨s₂, o, hs, r⟩ := hn rfl T locs vm0 X A hZ N B eT; exact ⟨s₂, o, XT.ifnonnullNo X.here K.exec rfl (hb K.kb hd) rfl hs, r⟩
  · obtain ⟨s₂, o, hs, r⟩ := hy a rfl T locs vm0 X A hZ N B eT; exact ⟨s₂, o, XT.ifnonnullYes X.here K.exec rfl rfl (hb K.kb hd) rfl ho hp hs, r⟩
theorem acB {cd : ACond} {x y : Value} {o' : Int} {pc' : Nat} (K : Ok κ l Z n0 own nm bytes maxL ret rm Q) (hd : decode bytes pc = .ok (.if_acmp cd o', 3)) (ho : 0 ≤ (pc : Int) + o') (hp : ((pc : Int) + o').toNat = pc') (hx : x.isRef = true) (hy : y.isRef = true)
    (ht : acV cd (decide (x = y)) = true → Go κ h cells slots pc' Ls st) (hn : acV cd (decide (x = y)) = false → Go κ h cells slots (pc + 3) Ls st) : Go κ h cells slots pc Ls (y :: x :: st) := fun T locs vm0 X A hZ N B eT => by
  cases hc : acV cd (decide (x = y)) with
  | true => obtain ⟨s₂, o, hs, r⟩ := ht hc T locs vm0 X A hZ N B eT; exact ⟨s₂, o, acmp X K.exec rfl hx hy rfl (hb K.kb hd) rfl rfl ho (by rw [hc, if_pos rfl, hp]) hs, r⟩
  | false => obtain ⟨s₂, o, hs, r⟩ := hn hc T locs vm0 X A hZ N B eT; exact ⟨s₂, o, acmp X K.exec rfl hx hy rfl (hb K.kb hd) rfl rfl ho (by rw [hc]; simp) hs, r⟩
theorem acmpeq {x y : Value} {o' : Int} {pc' : Nat} (K : Ok κ l Z n0 own nm bytes maxL ret rm Q) (hd : decode bytes pc = .ok (.if_acmp .eq o', 3)) (ho : 0 ≤ (pc : Int) + o') (hp : ((pc : Int) + o').toNat = pc') (hx : x.isRef = true) (hy : y.isRef = true)
    (ht : x = y → Go κ h cells slots pc' Ls st) (hn : ¬ x = y → Go κ h cells slots (pc + 3) Ls st) : Go κ h cells slots pc Ls (y :: x :: st) :=
  acB K hd ho hp hx hy (fun q => ht (by simpa [acV] using q)) (fun q => hn (by simpa [acV] using q))
theorem acmpne {x y : Value} {o' : Int} {pc' : Nat} (K : Ok κ l Z n0 own nm bytes maxL ret rm Q) (hd : decode bytes pc = .ok (.if_acmp .ne o', 3)) (ho : 0 ≤ (pc : Int) + o') (hp : ((pc : Int) + o').toNat = pc') (hx : x.isRef = true) (hy : y.isRef = true)
    (ht : ¬ x = y → Go κ h cells slots pc' Ls st) (hn : x = y → Go κ h cells slots (pc + 3) Ls st) : Go κ h cells slots pc Ls (y :: x :: st) :=
  acB K hd ho hp hx hy (fun q => ht (by simpa [acV] using q)) (fun q => hn (by simpa [acV] using q))
/-! ## constants of the pool -/
variable {a0 : Array Value}
theorem ldcI {index : Nat} {v : Int32} (K : Ok κ l Z n0 own nm bytes maxL ret rm Q) (hd : decode bytes pc = .ok (.ldc index, 2)) (w : (Cond.constant own index v).before a0 Z = true) (hr : Go κ h cells slots (pc + 2) Ls (.int v :: st)) : Go κ h cells slots pc Ls st := fun T locs vm0 X A hZ N B eT => by
  obtain ⟨s₂, o, hs, r⟩ := hr T locs vm0 X A hZ N B eT
  exact ⟨s₂, o, Jvm.Stand.ldcI X K.exec (K.ko A) (mvT (K.warm hZ) w) rfl (hb K.kb hd) hs, r⟩
theorem ldc2J {index : Nat} {v : Int64} (K : Ok κ l Z n0 own nm bytes maxL ret rm Q) (hd : decode bytes pc = .ok (.ldc2_w index, 3)) (w : (Cond.constantLong own index v).before a0 Z = true) (hr : Go κ h cells slots (pc + 3) Ls (.long v :: st)) : Go κ h cells slots pc Ls st := fun T locs vm0 X A hZ N B eT => by
  obtain ⟨s₂, o, hs, r⟩ := hr T locs vm0 X A hZ N B eT
  exact ⟨s₂, o, Jvm.Stand.ldc2J X K.exec (K.ko A) (mvT (K.warm hZ) w) rfl (hb K.kb hd) hs, r⟩
/-! ## the heap -/
theorem getfield {R0 O n d host : String} {index : Nat} {a : Addr} {v : Value} (K : Ok κ l Z n0 own nm bytes maxL ret rm Q) (hd : decode bytes pc = .ok (.getfield index, 3))
    (w : (Cond.fieldLink own index R0 n d).before a0 Z = true ∨ (Cond.fieldLinkNest own index R0 n d host).before a0 Z = true) (via : Via Z R0 O n d) (F : Fld Z h a O n d v) (hr : Go κ h cells slots (pc + 3) Ls (v :: st)) : Go κ h cells slots pc Ls (.ref a :: st) := fun T locs vm0 X A hZ N B eT => by
  obtain ⟨T', X', e', st1⟩ := getF X K.exec (K.warm hZ) (K.ko A) w via eT F (g := mkF κ.m pc Ls (.ref a :: st)) rfl rfl (hb K.kb hd)
  obtain ⟨s₂, o, hs, r⟩ := hr T' locs vm0 X' A hZ N B e'
  exact ⟨s₂, o, st1 _ hs, r⟩
theorem getstatic {R0 O n d host : String} {index : Nat} {v : Value} (K : Ok κ l Z n0 own nm bytes maxL ret rm Q) (hd : decode bytes pc = .ok (.getstatic index, 3))
    (w : (Cond.fieldLink own index R0 n d).before a0 Z = true ∨ (Cond.fieldLinkNest own index R0 n d host).before a0 Z = true) (via : Via Z R0 O n d) (F : Sta Z h O n d v) (hr : Go κ h cells slots (pc + 3) Ls (v :: st)) : Go κ h cells slots pc Ls st := fun T locs vm0 X A hZ N B eT => by
  obtain ⟨T', X', e', st1⟩ := getS2 X K.exec (K.warm hZ) (K.ko A) w via eT F (g := mkF κ.m pc Ls st) rfl (hb K.kb hd)
  obtain ⟨s₂, o, hs, r⟩ := hr T' locs vm0 X' A hZ N B e'
  exact ⟨s₂, o, st1 _ hs, r⟩
theorem putfield {R0 O n d host C : String} {index kk : Nat} {ty : FieldType} {a : Addr} {v old : Value} (K : Ok κ l Z n0 own nm bytes maxL ret rm Q) (hd : decode bytes pc = .ok (.putfield index, 3))
    (w : (Cond.fieldLink own index R0 n d).before a0 Z = true ∨ (Cond.fieldLinkNest own index R0 n d host).before a0 Z = true) (via : Via Z R0 O n d) (F : Fld Z h a O n d old) (E : Exa Z h a C) (L : (Cond.lays C O n d).before a0 Z = true ∨ ((Cond.laysFinal C O n d).before a0 Z = true ∧ own = O ∧ nm = "<init>")) (wi : (Cond.instantiable C kk).before a0 Z = true)
    (hty : parseFieldDescriptor d = some ty) (hn : narrow ty v = v) (hf : fits ty v = true) (ge : n0 ≤ a) (hr : ∀ h', Wr h h' a (Jvm.RoadKit.slotOf Z O n d) v → Go κ h' cells slots (pc + 3) Ls st) : Go κ h cells slots pc Ls (v :: .ref a :: st) := fun T locs vm0 X A hZ N B eT => by
  obtain ⟨T', h', X', e', W, st1⟩ := putF X K.exec (K.warm hZ) (K.ko A) w via eT F E (L.imp id fun q => ⟨q.1, q.2.1, K.name.trans q.2.2⟩) wi hty hn hf (g := mkF κ.m pc Ls (v :: .ref a :: st)) rfl rfl (hb K.kb hd)
  obtain ⟨s₂, o, hs, r⟩ := hr h' W T' _ vm0 X' (A.mono (Nat.le_of_eq W.size.symm)) hZ (Fr.snoc X' N (by rw [K.en]; exact ge)) (B.wr W (by rw [K.en]; exact ge)) e'
  exact ⟨s₂, o, st1 _ hs, r⟩
theorem newObj {C : String} {index n : Nat} (K : Ok κ l Z n0 own nm bytes maxL ret rm Q) (hd : decode bytes pc = .ok (.new index, 3)) (w : (Cond.classLink own index C).before a0 Z = true) (wi : (Cond.instantiable C n).before a0 Z = true) (wz : (Cond.initialized C).before a0 Z = true)
    (hc : cells + 1 ≤ rm.cells) (hl : slots + n ≤ rm.slots)
    (hr : ∀ h' a, a = h.size → n0 ≤ a → Ext h h' → Exa Z h' a C → (∀ {O nm d : String} {ty : FieldType}, Laid Z a0 C O nm d → parseFieldDescriptor d = some ty → Fld Z h' a O nm d (defaultValue ty)) → Unt h' a → Go κ h' (cells + 1) (slots + n) (pc + 3) Ls (.ref a :: st)) : Go κ h cells slots pc Ls st := fun T locs vm0 X A hZ N B eT => by
  obtain ⟨T', h', X', e', E, EX, D, U, st1⟩ := newO X K.exec (K.warm hZ) (K.ko A) w wi wz eT (g := mkF κ.m pc Ls st) rfl (hb K.kb hd) (by rw [K.eR]; exact hc) (by rw [K.eR]; exact hl)
  obtain ⟨s₂, o, hs, r⟩ := hr h' h.size rfl (low_of (K.old B)) E EX D U T' _ vm0 X' (A.mono E.1) hZ N (B.ext E) e'
  exact ⟨s₂, o, st1 _ hs, r⟩
theorem newArr {aty : ArrayType} {n : Int32} {cap : Nat} {ad : String} (K : Ok κ l Z n0 own nm bytes maxL ret rm Q) (hd : decode bytes pc = .ok (.newarray aty, 2)) (w : (Cond.arrayClass (newarray.typeOf aty)).before a0 Z = true) (hn : ¬ n < 0) (hcap : n.toNatClampNeg ≤ cap) (hb8 : cap * 8 ≤ 536870912) (had : "[" ++ (newarray.typeOf aty).toString = ad)
    (hc : cells + 1 ≤ rm.cells) (hl : slots + cap ≤ rm.slots)
    (hr : ∀ h' a cA, a = h.size → n0 ≤ a → Ext h h' → Arr Z h' a (newA cA (newarray.typeOf aty) n) (newarray.typeOf aty) → Exa Z h' a ad → Go κ h' (cells + 1) (slots + cap) (pc + 2) Ls (.ref a :: st)) : Go κ h cells slots pc Ls (.int n :: st) := fun T locs vm0 X A hZ N B eT => by
  obtain ⟨T', h', cA, X', e', E, AR, EX, st1⟩ := newPE X K.exec (K.warm hZ) w eT (g := mkF κ.m pc Ls (.int n :: st)) rfl (hb K.kb hd) rfl hn hcap hb8 (by rw [K.eR]; exact hc) (by rw [K.eR]; exact hl) had
  obtain ⟨s₂, o, hs, r⟩ := hr h' h.size cA rfl (low_of (K.old B)) E AR EX T' _ vm0 X' (A.mono E.1) hZ N (B.ext E) e'
  exact ⟨s₂, o, st1 _ hs, r⟩
theorem anewArr {C : String} {index : Nat} {n : Int32} {cap : Nat} (K : Ok κ l Z n0 own nm bytes maxL ret rm Q) (hd : decode bytes pc = .ok (.anewarray index, 3)) (w1 : (Cond.classLink own index C).before a0 Z = true) (w2 : (Cond.arrayOver (.object C)).before a0 Z = true) (hn : ¬ n < 0) (hcap : n.toNatClampNeg ≤ cap) (hb8 : cap * 8 ≤ 536870912)
    (hc : cells + 1 ≤ rm.cells) (hl : slots + cap ≤ rm.slots)
    (hr : ∀ h' a cA, a = h.size → n0 ≤ a → Ext h h' → Arr Z h' a (newA cA (.object C) n) (.object C) → Ovr Z cA C → Go κ h' (cells + 1) (slots + cap) (pc + 3) Ls (.ref a :: st)) : Go κ h cells slots pc Ls (.int n :: st) := fun T locs vm0 X A hZ N B eT => by
  obtain ⟨T', h', cA, X', e', E, AR, OV, st1⟩ := newR X K.exec (K.warm hZ) (K.ko A) w1 w2 eT (g := mkF κ.m pc Ls (.int n :: st)) rfl (hb K.kb hd) rfl hn hcap hb8 (by rw [K.eR]; exact hc) (by rw [K.eR]; exact hl)
  obtain ⟨s₂, o, hs, r⟩ := hr h' h.size cA rfl (low_of (K.old B)) E AR OV T' _ vm0 X' (A.mono E.1) hZ N (B.ext E) e'
  exact ⟨s₂, o, st1 _ hs, r⟩
theorem arrLen {ty : FieldType} {a : Addr} {cl : Cell} {z : Int32} (K : Ok κ l Z n0 own nm bytes maxL ret rm Q) (hd : decode bytes pc = .ok (.arraylength, 1)) (A1 : Arr Z h a cl ty) (hz : cl.slots.size.toInt32 = z) (hr : Go κ h cells slots (pc + 1) Ls (.int z :: st)) : Go κ h cells slots pc Ls (.ref a :: st) := fun T locs vm0 X A hZ N B eT => by
  obtain ⟨s₂, o, hs, r⟩ := hr T locs vm0 X A hZ N B eT
  exact ⟨s₂, o, X.arraylength K.exec (by rw [eT]; exact A1.1) (State.isArrayOf_alike (K.warm hZ).alike A1.2.1) (g := mkF κ.m pc Ls (.ref a :: st)) rfl rfl (hb K.kb hd) _ (by rw [hz]; exact hs), r⟩
theorem iaload {a : Addr} {cl : Cell} {j : Int32} {v : Value} (K : Ok κ l Z n0 own nm bytes maxL ret rm Q) (hd : decode bytes pc = .ok (.iaload, 1)) (A1 : Arr Z h a cl .int) (hin : ¬ (j < 0 ∨ cl.slots.size ≤ j.toNatClampNeg)) (hv : cl.slots[j.toNatClampNeg]? = some v)
    (hr : Go κ h cells slots (pc + 1) Ls (v :: st)) : Go κ h cells slots pc Ls (.int j :: .ref a :: st) := fun T locs vm0 X A hZ N B eT => by
  obtain ⟨s₂, o, hs, r⟩ := hr T locs vm0 X A hZ N B eT
  exact ⟨s₂, o, X.iaload K.exec (by rw [eT]; exact A1.1) (State.isArrayOf_alike (K.warm hZ).alike A1.2.1) A1.2.2 hin hv (g := mkF κ.m pc Ls (.int j :: .ref a :: st)) rfl rfl (hb K.kb hd) _ hs, r⟩
theorem laload {a : Addr} {cl : Cell} {j : Int32} {v : Value} (K : Ok κ l Z n0 own nm bytes maxL ret rm Q) (hd : decode bytes pc = .ok (.laload, 1)) (A1 : Arr Z h a cl .long) (hin : ¬ (j < 0 ∨ cl.slots.size ≤ j.toNatClampNeg)) (hv : cl.slots[j.toNatClampNeg]? = some v)
    (hr : Go κ h cells slots (pc + 1) Ls (v :: st)) : Go κ h cells slots pc Ls (.int j :: .ref a :: st) := fun T locs vm0 X A hZ N B eT => by
  obtain ⟨s₂, o, hs, r⟩ := hr T locs vm0 X A hZ N B eT
  exact ⟨s₂, o, X.laload K.exec (by rw [eT]; exact A1.1) (State.isArrayOf_alike (K.warm hZ).alike A1.2.1) A1.2.2 hin hv (g := mkF κ.m pc Ls (.int j :: .ref a :: st)) rfl rfl (hb K.kb hd) _ hs, r⟩
theorem caload {a : Addr} {cl : Cell} {j : Int32} {v : Value} (K : Ok κ l Z n0 own nm bytes maxL ret rm Q) (hd : decode bytes pc = .ok (.caload, 1)) (A1 : Arr Z h a cl .char) (hin : ¬ (j < 0 ∨ cl.slots.size ≤ j.toNatClampNeg)) (hv : cl.slots[j.toNatClampNeg]? = some v)
    (hr : Go κ h cells slots (pc + 1) Ls (v :: st)) : Go κ h cells slots pc Ls (.int j :: .ref a :: st) := fun T locs vm0 X A hZ N B eT => by
  obtain ⟨s₂, o, hs, r⟩ := hr T locs vm0 X A hZ N B eT
  exact ⟨s₂, o, X.caload K.exec (by rw [eT]; exact A1.1) (State.isArrayOf_alike (K.warm hZ).alike A1.2.1) A1.2.2 hin hv (g := mkF κ.m pc Ls (.int j :: .ref a :: st)) rfl rfl (hb K.kb hd) _ hs, r⟩
theorem baload {a : Addr} {cl : Cell} {j : Int32} {v : Value} (K : Ok κ l Z n0 own nm bytes maxL ret rm Q) (hd : decode bytes pc = .ok (.baload, 1)) (A1 : Arr Z h a cl .byte) (hin : ¬ (j < 0 ∨ cl.slots.size ≤ j.toNatClampNeg)) (hv : cl.slots[j.toNatClampNeg]? = some v)
    (hr : Go κ h cells slots (pc + 1) Ls (v :: st)) : Go κ h cells slots pc Ls (.int j :: .ref a :: st) := fun T locs vm0 X A hZ N B eT => by
  obtain ⟨s₂, o, hs, r⟩ := hr T locs vm0 X A hZ N B eT
  exact ⟨s₂, o, X.baloadBytes K.exec (by rw [eT]; exact A1.1) (State.isArrayOf_alike (K.warm hZ).alike A1.2.1) A1.2.2 hin hv (g := mkF κ.m pc Ls (.int j :: .ref a :: st)) rfl rfl (hb K.kb hd) _ hs, r⟩
theorem iastore {a : Addr} {cl : Cell} {j : Int32} {x : Int32} (K : Ok κ l Z n0 own nm bytes maxL ret rm Q) (hd : decode bytes pc = .ok (.iastore, 1)) (A1 : Arr Z h a cl .int) (hj : ¬ (j < 0 ∨ cl.slots.size ≤ j.toNatClampNeg)) (ge : n0 ≤ a)
    (hr : ∀ h', Wr h h' a j.toNatClampNeg (.int x) → Go κ h' cells slots (pc + 1) Ls st) : Go κ h cells slots pc Ls (.int x :: .int j :: .ref a :: st) := fun T locs vm0 X A hZ N B eT => by
  obtain ⟨T', h', X', e', W, st1⟩ := stI X K.exec (K.warm hZ) eT A1 hj (g := mkF κ.m pc Ls (.int x :: .int j :: .ref a :: st)) rfl rfl (hb K.kb hd)
  obtain ⟨s₂, o, hs, r⟩ := hr h' W T' _ vm0 X' (A.mono (Nat.le_of_eq W.size.symm)) hZ (Fr.snoc X' N (by rw [K.en]; exact ge)) (B.wr W (by rw [K.en]; exact ge)) e'
  exact ⟨s₂, o, st1 _ hs, r⟩
theorem lastore {a : Addr} {cl : Cell} {j : Int32} {x : Int64} (K : Ok κ l Z n0 own nm bytes maxL ret rm Q) (hd : decode bytes pc = .ok (.lastore, 1)) (A1 : Arr Z h a cl .long) (hj : ¬ (j < 0 ∨ cl.slots.size ≤ j.toNatClampNeg)) (ge : n0 ≤ a)
    (hr : ∀ h', Wr h h' a j.toNatClampNeg (.long x) → Go κ h' cells slots (pc + 1) Ls st) : Go κ h cells slots pc Ls (.long x :: .int j :: .ref a :: st) := fun T locs vm0 X A hZ N B eT => by
  obtain ⟨T', h', X', e', W, st1⟩ := stJ X K.exec (K.warm hZ) eT A1 hj (g := mkF κ.m pc Ls (.long x :: .int j :: .ref a :: st)) rfl rfl (hb K.kb hd)
  obtain ⟨s₂, o, hs, r⟩ := hr h' W T' _ vm0 X' (A.mono (Nat.le_of_eq W.size.symm)) hZ (Fr.snoc X' N (by rw [K.en]; exact ge)) (B.wr W (by rw [K.en]; exact ge)) e'
  exact ⟨s₂, o, st1 _ hs, r⟩
theorem castore {a : Addr} {cl : Cell} {j : Int32} {x : Int32} (K : Ok κ l Z n0 own nm bytes maxL ret rm Q) (hd : decode bytes pc = .ok (.castore, 1)) (A1 : Arr Z h a cl .char) (hj : ¬ (j < 0 ∨ cl.slots.size ≤ j.toNatClampNeg)) (ge : n0 ≤ a)
    (hr : ∀ h', Wr h h' a j.toNatClampNeg (.int (nar .char x)) → Go κ h' cells slots (pc + 1) Ls st) : Go κ h cells slots pc Ls (.int x :: .int j :: .ref a :: st) := fun T locs vm0 X A hZ N B eT => by
  obtain ⟨T', h', X', e', W, st1⟩ := stC X K.exec (K.warm hZ) eT A1 hj (g := mkF κ.m pc Ls (.int x :: .int j :: .ref a :: st)) rfl rfl (hb K.kb hd)
  obtain ⟨s₂, o, hs, r⟩ := hr h' W T' _ vm0 X' (A.mono (Nat.le_of_eq W.size.symm)) hZ (Fr.snoc X' N (by rw [K.en]; exact ge)) (B.wr W (by rw [K.en]; exact ge)) e'
  exact ⟨s₂, o, st1 _ hs, r⟩
theorem bastore {a : Addr} {cl : Cell} {j : Int32} {x : Int32} (K : Ok κ l Z n0 own nm bytes maxL ret rm Q) (hd : decode bytes pc = .ok (.bastore, 1)) (A1 : Arr Z h a cl .byte) (hj : ¬ (j < 0 ∨ cl.slots.size ≤ j.toNatClampNeg)) (ge : n0 ≤ a)
    (hr : ∀ h', Wr h h' a j.toNatClampNeg (.int x.toInt8.toInt32) → Go κ h' cells slots (pc + 1) Ls st) : Go κ h cells slots pc Ls (.int x :: .int j :: .ref a :: st) := fun T locs vm0 X A hZ N B eT => by
  obtain ⟨T', h', X', e', W, st1⟩ := stB X K.exec (K.warm hZ) eT A1 hj (g := mkF κ.m pc Ls (.int x :: .int j :: .ref a :: st)) rfl rfl (hb K.kb hd)
  obtain ⟨s₂, o, hs, r⟩ := hr h' W T' _ vm0 X' (A.mono (Nat.le_of_eq W.size.symm)) hZ (Fr.snoc X' N (by rw [K.en]; exact ge)) (B.wr W (by rw [K.en]; exact ge)) e'
  exact ⟨s₂, o, st1 _ hs, r⟩
theorem aaload {ty : FieldType} {a : Addr} {cl : Cell} {j : Int32} {v : Value} (K : Ok κ l Z n0 own nm bytes maxL ret rm Q) (hd : decode bytes pc = .ok (.aaload, 1)) (A1 : Arr Z h a cl ty) (hty : ty.isReference = true) (hin : ¬ (j < 0 ∨ cl.slots.size ≤ j.toNatClampNeg)) (hv : cl.slots[j.toNatClampNeg]? = some v)
    (hr : Go κ h cells slots (pc + 1) Ls (v :: st)) : Go κ h cells slots pc Ls (.int j :: .ref a :: st) := fun T locs vm0 X A hZ N B eT => by
  obtain ⟨s₂, o, hs, r⟩ := hr T locs vm0 X A hZ N B eT
  exact ⟨s₂, o, X.aaload K.exec (by rw [eT]; exact A1.1) (State.isArrayOf_alike (K.warm hZ).alike A1.2.1) hty A1.2.2 hin hv (g := mkF κ.m pc Ls (.int j :: .ref a :: st)) rfl rfl (hb K.kb hd) _ hs, r⟩
theorem aastore {ty : FieldType} {a : Addr} {cl : Cell} {j : Int32} {v : Value} (K : Ok κ l Z n0 own nm bytes maxL ret rm Q) (hd : decode bytes pc = .ok (.aastore, 1)) (A1 : Arr Z h a cl ty) (hj : ¬ (j < 0 ∨ cl.slots.size ≤ j.toNatClampNeg)) (hty : ty.isReference = true) (F : Sto Z h a v) (ge : n0 ≤ a)
    (hr : ∀ h', Wr h h' a j.toNatClampNeg v → Go κ h' cells slots (pc + 1) Ls st) : Go κ h cells slots pc Ls (v :: .int j :: .ref a :: st) := fun T locs vm0 X A hZ N B eT => by
  obtain ⟨T', h', X', e', W, st1⟩ := stR X K.exec (K.warm hZ) eT A1 hj hty F (g := mkF κ.m pc Ls (v :: .int j :: .ref a :: st)) rfl rfl (hb K.kb hd)
  obtain ⟨s₂, o, hs, r⟩ := hr h' W T' _ vm0 X' (A.mono (Nat.le_of_eq W.size.symm)) hZ (Fr.snoc X' N (by rw [K.en]; exact ge)) (B.wr W (by rw [K.en]; exact ge)) e'
  exact ⟨s₂, o, st1 _ hs, r⟩
theorem castOk {C : String} {index : Nat} {a : Addr} (K : Ok κ l Z n0 own nm bytes maxL ret rm Q) (hd : decode bytes pc = .ok (.checkcast index, 3)) (w : (Cond.classLink own index C).before a0 Z = true) (F : Ins Z h a C true) (hr : Go κ h cells slots (pc + 3) Ls (.ref a :: st)) : Go κ h cells slots pc Ls (.ref a :: st) := fun T locs vm0 X A hZ N B eT => by
  obtain ⟨T', X', e', st1⟩ := castY X K.exec (K.warm hZ) (K.ko A) w eT F (g := mkF κ.m pc Ls (.ref a :: st)) rfl rfl (hb K.kb hd)
  obtain ⟨s₂, o, hs, r⟩ := hr T' locs vm0 X' A hZ N B e'
  exact ⟨s₂, o, st1 _ hs, r⟩
theorem instYes {C : String} {index : Nat} {a : Addr} (K : Ok κ l Z n0 own nm bytes maxL ret rm Q) (hd : decode bytes pc = .ok (.instanceof index, 3)) (w : (Cond.classLink own index C).before a0 Z = true) (F : Ins Z h a C true) (hr : Go κ h cells slots (pc + 3) Ls (.int 1 :: st)) : Go κ h cells slots pc Ls (.ref a :: st) := fun T locs vm0 X A hZ N B eT => by
  obtain ⟨T', X', e', st1⟩ := instY X K.exec (K.warm hZ) (K.ko A) w eT F (g := mkF κ.m pc Ls (.ref a :: st)) rfl rfl (hb K.kb hd)
  obtain ⟨s₂, o, hs, r⟩ := hr T' locs vm0 X' A hZ N B e'
  exact ⟨s₂, o, st1 _ hs, r⟩
theorem instNot {C C' : String} {index : Nat} {a : Addr} (K : Ok κ l Z n0 own nm bytes maxL ret rm Q) (hd : decode bytes pc = .ok (.instanceof index, 3)) (w : (Cond.classLink own index C).before a0 Z = true) (E : Exa Z h a C') (F : ∃ c t, Z.vm.findClass C' = some c ∧ Z.vm.findClass C = some t ∧ Z.vm.assignable c t = false)
    (hr : Go κ h cells slots (pc + 3) Ls (.int 0 :: st)) : Go κ h cells slots pc Ls (.ref a :: st) := fun T locs vm0 X A hZ N B eT => by
  obtain ⟨T', X', e', st1⟩ := instNo X K.exec (K.warm hZ) (K.ko A) w eT E F (g := mkF κ.m pc Ls (.ref a :: st)) rfl rfl (hb K.kb hd)
  obtain ⟨s₂, o, hs, r⟩ := hr T' locs vm0 X' A hZ N B e'
  exact ⟨s₂, o, st1 _ hs, r⟩
theorem getfieldZ {R0 O n d host : String} {index : Nat} {a : Addr} {v : Value} (K : Ok κ l Z n0 own nm bytes maxL ret rm Q) (hd : decode bytes pc = .ok (.getfield index, 3))
    (w : (Cond.fieldLink own index R0 n d).before a0 Z = true ∨ (Cond.fieldLinkNest own index R0 n d host).before a0 Z = true) (via : Via Z R0 O n d) (F : Fld Z Z.heap a O n d v) (hr : Go κ h cells slots (pc + 3) Ls (v :: st)) : Go κ h cells slots pc Ls (.ref a :: st) :=
  old K fun B => getfield K hd w via (F.ext B.2) hr
theorem getstaticZ {R0 O n d host : String} {index : Nat} {v : Value} (K : Ok κ l Z n0 own nm bytes maxL ret rm Q) (hd : decode bytes pc = .ok (.getstatic index, 3))
    (w : (Cond.fieldLink own index R0 n d).before a0 Z = true ∨ (Cond.fieldLinkNest own index R0 n d host).before a0 Z = true) (via : Via Z R0 O n d) (F : Sta Z Z.heap O n d v) (hr : Go κ h cells slots (pc + 3) Ls (v :: st)) : Go κ h cells slots pc Ls st :=
  old K fun B => getstatic K hd w via (F.ext B.2) hr
/-! ## calls -/
section Calls
variable {y z : MethodName} {bytes' : ByteArray} {maxL' W index : Nat} {ret' : Option FieldType} {rm' : Room} {Q' : Option Value → Heap → Prop} {argsL rest : List Value} {as' : Array Value}
theorem Con.narrow (C : Con false l Z n0 y bytes' maxL' ret' rm' as' h Q') (g : Old Z n0 h) : MetFree l y (head1 [Cond.code y bytes' maxL' ret'] rm') (fun a U => a = as' ∧ Z.Warmed39 U.vm ∧ U.heap = h) (fun _ _ _ _ _ => True)
    (fun _ U o U' => ∃ v L, o = .returned v ∧ (Q' v U'.heap ∧ Fr n0 L ∧ h.size ≤ U'.heap.size ∧ Old Z n0 U'.heap) ∧ FrameEnd U o U' L rm'.cells rm'.slots) := fun p e ha hc hk s m args below hf happ hP hK => by
  obtain ⟨n, o, a1, a2, a3, v, L, e1, ⟨q1, q2, q3⟩, E⟩ := C g [] p e ha hc hk s m args below hf happ ⟨hP.1, hP.2.1, hP.2.2, trivial⟩ hK
  exact ⟨n, o, a1, a2, a3, v, L, e1, ⟨q1, q2, hP.2.2 ▸ q3.1, q3.2⟩, E.1 rfl⟩
theorem Con.mono {J : Vm → Prop} {wide : Bool} {Q2 : Option Value → Heap → Prop} (C : ConX J wide l Z n0 y bytes' maxL' ret' rm' as' h Q') (hq : ∀ v h', Q' v h' → Q2 v h') : ConX J wide l Z n0 y bytes' maxL' ret' rm' as' h Q2 := fun g ws p e ha hc hk s m args below hf happ hP hK => by
  obtain ⟨n, o, a1, a2, a3, v, L, e1, ⟨q1, q2, q3⟩, E⟩ := C g ws p e ha hc hk s m args below hf happ hP hK
  exact ⟨n, o, a1, a2, a3, v, L, e1, ⟨hq _ _ q1, q2, q3⟩, E⟩
theorem finish (K : Ok κ l Z n0 own nm bytes maxL ret rm Q) {T U0 : State} {locs : List Loc} {vm0 : Vm} {pc' : Nat} (A : κ.adm vm0 h.size) (hZ : κ.Z.Warmed39 vm0) (N : Fr κ.n0 locs)
    (hr : ∀ v h', Q' v h' → h.size ≤ h'.size → Go κ h' (cells + rm'.cells) (slots + rm'.slots) pc' Ls (v.toList ++ rest)) {v : Option Value} {B : Pt} (X' : Stand κ.p κ.l κ.e κ.R (κ.s.setVm vm0) κ.m κ.args κ.below κ.meth κ.c B.U B.locs B.cells B.slots)
    (P : ∃ L, (Q' v B.U.heap ∧ Fr n0 L ∧ h.size ≤ B.U.heap.size ∧ Old Z n0 B.U.heap) ∧ B.locs = locs ++ L ∧ B.cells = cells + rm'.cells ∧ B.slots = slots + rm'.slots) (st1 : ∀ target, Steps κ.p.tables κ.e κ.below (B.U.setTop (mkF κ.m pc' Ls (v.toList ++ rest))) target → Steps κ.p.tables κ.e κ.below U0 target) :
    ∃ s₂ o, Steps κ.p.tables κ.e κ.below U0 s₂ ∧ s₂.status = .running ∧ Ended s₂ κ.below o ∧ ∃ v L, o = .returned v ∧ (κ.Q v s₂.heap ∧ Fr κ.n0 L ∧ κ.s.heap.size ≤ s₂.heap.size ∧ Old κ.Z κ.n0 s₂.heap) ∧ Ends κ.wide κ.s o s₂ L κ.R.cells κ.R.slots := by
  obtain ⟨L, ⟨q1, q2, q3, q4⟩, e1, e2, e3⟩ := P
  rw [e1, e2, e3] at X'
  obtain ⟨s₂, o, hs, r⟩ := hr v _ q1 q3 B.U _ vm0 X' (A.mono q3) hZ (N.app (by rw [K.en]; exact q2)) (K.oldS q4) rfl
  exact ⟨s₂, o, st1 _ hs, r⟩
theorem W0 {m : MethodId} {g : List Value} (hW : (rest.map fun v => v.category).sum ≤ W) : 2 * (mkF m pc Ls g).monitorRoom + (rest.map fun v => v.category).sum ≤ W := by
  show 2 * 0 + _ ≤ _; omega
theorem invS (K : Ok κ l Z n0 own nm bytes maxL ret rm Q) (C : Con false l Z n0 y bytes' maxL' ret' rm' argsL.toArray h Q') (hd : decode bytes pc = .ok (.invokestatic index, 3))
    (w1 : (Cond.methodLink own index y).before a0 Z = true) (w2 : (Cond.static y).before a0 Z = true) (w3 : (Cond.initialized y.cls).before a0 Z = true) (w4 : (Cond.code y bytes' maxL' ret').before a0 Z = true) (hy : y.cls ≠ "java/lang/invoke/MethodHandle" ∧ y.cls ≠ "java/lang/invoke/VarHandle")
    (hlen : ∀ sig, parseMethodDescriptor y.desc = some sig → argsL.length = sig.parameters.length) (hst : st = argsL.reverse ++ rest) (hsz : Ls.size = maxL) (hW : (rest.map fun v => v.category).sum ≤ W) (hf : rm'.frames + 1 ≤ rm.frames) (hl : W + (maxL' + 11) + rm'.locals ≤ rm.locals) (hc : cells + rm'.cells ≤ rm.cells) (hs : slots + rm'.slots ≤ rm.slots)
    (hr : ∀ v h', Q' v h' → h.size ≤ h'.size → Go κ h' (cells + rm'.cells) (slots + rm'.slots) (pc + 3) Ls (v.toList ++ rest)) : Go κ h cells slots pc Ls st := fun T locs vm0 X A hZ N OB eT => by
  have hZ' := K.warm hZ
  have eR := K.eR
  obtain ⟨v, vm₁, B, -, X', P, st1⟩ := Jvm.LawKit.callS X K.exec (K.ko A) (mvT hZ' w1) (mvT hZ' w2) (mvT hZ' w3) (mvT hZ' w4) hy (backOf (W := W) (R := κ.R) (rm := rm') (Q := fun v h' L => Q' v h' ∧ Fr n0 L ∧ h.size ≤ h'.size ∧ Old Z n0 h') (by rw [K.el]; exact C.narrow (K.old OB)) hZ' w4 w3 (by rw [eR]; exact hf) (by rw [eR]; exact hl)) (g := mkF κ.m pc Ls st) rfl (by rw [K.kl]; exact hsz) hlen hst (W0 hW) (hb K.kb hd)
    (fun _ _ => ⟨rfl, eT, by rw [eR]; exact hc, by rw [eR]; exact hs⟩)
  exact finish K (T := T) A hZ N hr X' P st1
theorem invV {CC : String} {b : Addr} (K : Ok κ l Z n0 own nm bytes maxL ret rm Q) (C : Con false l Z n0 z bytes' maxL' ret' rm' (.ref b :: argsL).toArray h Q') (hd : decode bytes pc = .ok (.invokevirtual index, 3)) (E : Exa Z h b CC)
    (w1 : (Cond.methodLink own index y).before a0 Z = true) (w2 : (Cond.declares y).before a0 Z = true) (hnf : ∀ s : State, Z.Warmed39 s.vm → NotFace s y) (w3 : (Cond.selects CC y z).before a0 Z = true) (w4 : (Cond.instanceMethod z).before a0 Z = true) (w5 : (Cond.code z bytes' maxL' ret').before a0 Z = true) (w6 : (Cond.initialized z.cls).before a0 Z = true)
    (hy : y.cls ≠ "java/lang/invoke/MethodHandle" ∧ y.cls ≠ "java/lang/invoke/VarHandle")
    (hlen : ∀ sig, parseMethodDescriptor y.desc = some sig → argsL.length = sig.parameters.length) (hst : st = argsL.reverse ++ .ref b :: rest) (hsz : Ls.size = maxL) (hW : (rest.map fun v => v.category).sum ≤ W) (hf : rm'.frames + 1 ≤ rm.frames) (hl : W + (maxL' + 11) + rm'.locals ≤ rm.locals) (hc : cells + rm'.cells ≤ rm.cells) (hs : slots + rm'.slots ≤ rm.slots)
    (hr : ∀ v h', Q' v h' → h.size ≤ h'.size → Go κ h' (cells + rm'.cells) (slots + rm'.slots) (pc + 3) Ls (v.toList ++ rest)) : Go κ h cells slots pc Ls st := fun T locs vm0 X A hZ N OB eT => by
  have hZ' := K.warm hZ
  have eR := K.eR
  obtain ⟨cB, kB, q1, -, q3⟩ := isOf hZ' eT E
  obtain ⟨v, vm₁, B, -, X', P, st1⟩ := X.virtualBack K.exec (y := y) (z := z) (K.ko A) (mvT hZ' w1) (mvT hZ' w2) (hnf _ hZ') (mvT hZ' w3) (mvT hZ' w4) hy (backOf (W := W) (R := κ.R) (rm := rm') (Q := fun v h' L => Q' v h' ∧ Fr n0 L ∧ h.size ≤ h'.size ∧ Old Z n0 h') (by rw [K.el]; exact C.narrow (K.old OB)) hZ' w5 w6 (by rw [eR]; exact hf) (by rw [eR]; exact hl)) q1 q3 (g := mkF κ.m pc Ls st) rfl (by rw [K.kl]; exact hsz) (Steps.refl _) hlen hst (W0 hW) (hb K.kb hd)
    (fun _ _ => ⟨rfl, eT, by rw [eR]; exact hc, by rw [eR]; exact hs⟩)
  exact finish K (T := T) A hZ N hr X' P (fun _ k => st1.trans k)
theorem nfS {CC : String} (w : (Cond.selects CC y y).before a0 Z = true) : ∀ s : State, Z.Warmed39 s.vm → NotFace s y := fun s hZ => notFace_of_selects (args := #[]) (mvT hZ w)
theorem nfU {S : String} (w : (Cond.superclass y.cls S).before a0 Z = true) : ∀ s : State, Z.Warmed39 s.vm → NotFace s y := fun s hZ => nf_super (args := #[]) (mvT hZ w)
theorem invVU {CC owner : String} {b : Addr} (K : Ok κ l Z n0 own nm bytes maxL ret rm Q) (C : Con false l Z n0 z bytes' maxL' ret' rm' (.ref b :: argsL).toArray h Q') (hd : decode bytes pc = .ok (.invokevirtual index, 3)) (E : Exa Z h b CC)
    (w1 : (Cond.methodLink own index y).before a0 Z = true) (w2 : (Cond.sameMethod y.cls owner y.name y.desc).before a0 Z = true) (w2' : (Cond.declares ⟨owner, y.name, y.desc⟩).before a0 Z = true) (hy : owner ≠ "java/lang/invoke/MethodHandle" ∧ owner ≠ "java/lang/invoke/VarHandle")
    (w3 : (Cond.selects CC y z).before a0 Z = true) (w4 : (Cond.instanceMethod z).before a0 Z = true) (w5 : (Cond.code z bytes' maxL' ret').before a0 Z = true) (w6 : (Cond.initialized z.cls).before a0 Z = true)
    (hlen : ∀ sig, parseMethodDescriptor y.desc = some sig → argsL.length = sig.parameters.length) (hst : st = argsL.reverse ++ .ref b :: rest) (hsz : Ls.size = maxL) (hW : (rest.map fun v => v.category).sum ≤ W) (hf : rm'.frames + 1 ≤ rm.frames) (hl : W + (maxL' + 11) + rm'.locals ≤ rm.locals) (hc : cells + rm'.cells ≤ rm.cells) (hs : slots + rm'.slots ≤ rm.slots)
    (hr : ∀ v h', Q' v h' → h.size ≤ h'.size → Go κ h' (cells + rm'.cells) (slots + rm'.slots) (pc + 3) Ls (v.toList ++ rest)) : Go κ h cells slots pc Ls st := fun T locs vm0 X A hZ N OB eT => by
  have hZ' := K.warm hZ
  have eR := K.eR
  obtain ⟨cB, kB, q1, -, q3⟩ := isOf hZ' eT E
  obtain ⟨v, vm₁, B, -, X', P, st1⟩ := X.virtualBackUp K.exec (x := y) (y := z) (K.ko A) (mvT hZ' w1) (mvT hZ' w2) (mvT hZ' w2') hy (mvT hZ' w3) (mvT hZ' w4) (backOf (W := W) (R := κ.R) (rm := rm') (Q := fun v h' L => Q' v h' ∧ Fr n0 L ∧ h.size ≤ h'.size ∧ Old Z n0 h') (by rw [K.el]; exact C.narrow (K.old OB)) hZ' w5 w6 (by rw [eR]; exact hf) (by rw [eR]; exact hl)) q1 q3 (g := mkF κ.m pc Ls st) rfl (by rw [K.kl]; exact hsz) (Steps.refl _) hlen hst (W0 hW) (hb K.kb hd)
    (fun _ _ => ⟨rfl, eT, by rw [eR]; exact hc, by rw [eR]; exact hs⟩)
  exact finish K (T := T) A hZ N hr X' P (fun _ k => st1.trans k)
theorem invP {CC : String} {b : Addr} (K : Ok κ l Z n0 own nm bytes maxL ret rm Q) (C : Con false l Z n0 y bytes' maxL' ret' rm' (.ref b :: argsL).toArray h Q') (hd : decode bytes pc = .ok (.invokevirtual index, 3)) (E : Exa Z h b CC)
    (w1 : (Cond.methodLink own index y).before a0 Z = true) (w2 : (Cond.instanceMethod y).before a0 Z = true) (w3 : (Cond.selects y.cls y y).before a0 Z = true) (w4 : (Cond.privateMethod y).before a0 Z = true) (w5 : (Cond.code y bytes' maxL' ret').before a0 Z = true) (w6 : (Cond.initialized y.cls).before a0 Z = true)
    (hy : y.cls ≠ "java/lang/invoke/MethodHandle" ∧ y.cls ≠ "java/lang/invoke/VarHandle")
    (hlen : ∀ sig, parseMethodDescriptor y.desc = some sig → argsL.length = sig.parameters.length) (hst : st = argsL.reverse ++ .ref b :: rest) (hsz : Ls.size = maxL) (hW : (rest.map fun v => v.category).sum ≤ W) (hf : rm'.frames + 1 ≤ rm.frames) (hl : W + (maxL' + 11) + rm'.locals ≤ rm.locals) (hc : cells + rm'.cells ≤ rm.cells) (hs : slots + rm'.slots ≤ rm.slots)
    (hr : ∀ v h', Q' v h' → h.size ≤ h'.size → Go κ h' (cells + rm'.cells) (slots + rm'.slots) (pc + 3) Ls (v.toList ++ rest)) : Go κ h cells slots pc Ls st := fun T locs vm0 X A hZ N OB eT => by
  have hZ' := K.warm hZ
  have eR := K.eR
  obtain ⟨cell, hcell, hobj⟩ := E.cell
  obtain ⟨v, vm₁, B, -, X', P, st1⟩ := X.privateBack K.exec (y := y) (K.ko A) (mvT hZ' w1) (mvT hZ' w2) (mvT hZ' w3) (Cond.privateMethod_at (mvP (args := #[]) hZ' w4)) (mvT hZ' w5) hy (backOf (W := W) (R := κ.R) (rm := rm') (Q := fun v h' L => Q' v h' ∧ Fr n0 L ∧ h.size ≤ h'.size ∧ Old Z n0 h') (by rw [K.el]; exact C.narrow (K.old OB)) hZ' w5 w6 (by rw [eR]; exact hf) (by rw [eR]; exact hl)) (g := mkF κ.m pc Ls st) rfl (by rw [K.kl]; exact hsz) (Steps.refl _) (a := b) (cell := cell) (by rw [eT]; exact hcell) hobj hlen hst (W0 hW) (hb K.kb hd)
    (fun _ _ => ⟨rfl, eT, by rw [eR]; exact hc, by rw [eR]; exact hs⟩)
  exact finish K (T := T) A hZ N hr X' P (fun _ k => st1.trans k)
theorem invI {CC : String} {b : Addr} {count : Nat} (K : Ok κ l Z n0 own nm bytes maxL ret rm Q) (C : Con false l Z n0 z bytes' maxL' ret' rm' (.ref b :: argsL).toArray h Q') (hd : decode bytes pc = .ok (.invokeinterface index count, 5)) (E : Exa Z h b CC)
    (w1 : (Cond.methodLink own index y).before a0 Z = true) (w2 : (Cond.declares y).before a0 Z = true) (w2' : (Cond.interfaceMethod y.cls y.cls y.name y.desc).before a0 Z = true) (w3 : (Cond.selects CC y z).before a0 Z = true) (w4 : (Cond.instanceMethod z).before a0 Z = true) (w4' : (Cond.publicMethod z).before a0 Z = true) (w4'' : (Cond.unhidden CC y.name y.desc).before a0 Z = true) (w7 : (Cond.castable CC y.cls).before a0 Z = true)
    (w5 : (Cond.code z bytes' maxL' ret').before a0 Z = true) (w6 : (Cond.initialized z.cls).before a0 Z = true)
    (hy : y.cls ≠ "java/lang/invoke/MethodHandle" ∧ y.cls ≠ "java/lang/invoke/VarHandle")
    (hlen : ∀ sig, parseMethodDescriptor y.desc = some sig → argsL.length = sig.parameters.length) (hst : st = argsL.reverse ++ .ref b :: rest) (hsz : Ls.size = maxL) (hW : (rest.map fun v => v.category).sum ≤ W) (hf : rm'.frames + 1 ≤ rm.frames) (hl : W + (maxL' + 11) + rm'.locals ≤ rm.locals) (hc : cells + rm'.cells ≤ rm.cells) (hs : slots + rm'.slots ≤ rm.slots)
    (hr : ∀ v h', Q' v h' → h.size ≤ h'.size → Go κ h' (cells + rm'.cells) (slots + rm'.slots) (pc + 5) Ls (v.toList ++ rest)) : Go κ h cells slots pc Ls st := fun T locs vm0 X A hZ N OB eT => by
  have hZ' := K.warm hZ
  have eR := K.eR
  obtain ⟨cB, kB, q1, q2, q3⟩ := isOf hZ' eT E
  obtain ⟨v, vm₁, B, -, X', P, st1⟩ := X.interfaceBack K.exec (xi := y) (y := z) (K.ko A) (mvT hZ' w1) (mvT hZ' w2) (Jvm.Free.ULB.iface_rides hZ'.alike w2') (mvT hZ' w3) (mvT hZ' w4) (mvT hZ' w4') (mvT hZ' w4'') (mvT hZ' w7) hy (backOf (W := W) (R := κ.R) (rm := rm') (Q := fun v h' L => Q' v h' ∧ Fr n0 L ∧ h.size ≤ h'.size ∧ Old Z n0 h') (by rw [K.el]; exact C.narrow (K.old OB)) hZ' w5 w6 (by rw [eR]; exact hf) (by rw [eR]; exact hl)) q1 q2 q3 (g := mkF κ.m pc Ls st) rfl (by rw [K.kl]; exact hsz) (Steps.refl _) hlen hst (W0 hW) (hb K.kb hd)
    (fun _ _ => ⟨rfl, eT, by rw [eR]; exact hc, by rw [eR]; exact hs⟩)
  exact finish K (T := T) A hZ N hr X' P (fun _ k => st1.trans k)
theorem invC {b : Addr} (K : Ok κ l Z n0 own nm bytes maxL ret rm Q) (C : Con false l Z n0 y bytes' maxL' none rm' (.ref b :: argsL).toArray h Q') (hd : decode bytes pc = .ok (.invokespecial index, 3)) (hy1 : y.name = "<init>")
    (w1 : (Cond.methodLink own index y).before a0 Z = true) (w2 : (Cond.instanceMethod y).before a0 Z = true) (w5 : (Cond.code y bytes' maxL' none).before a0 Z = true) (w6 : (Cond.initialized y.cls).before a0 Z = true)
    (hy : y.cls ≠ "java/lang/invoke/MethodHandle" ∧ y.cls ≠ "java/lang/invoke/VarHandle")
    (hlen : ∀ sig, parseMethodDescriptor y.desc = some sig → argsL.length = sig.parameters.length) (hst : st = argsL.reverse ++ .ref b :: rest) (hsz : Ls.size = maxL) (hW : (rest.map fun v => v.category).sum ≤ W) (hf : rm'.frames + 1 ≤ rm.frames) (hl : W + (maxL' + 11) + rm'.locals ≤ rm.locals) (hc : cells + rm'.cells ≤ rm.cells) (hs : slots + rm'.slots ≤ rm.slots)
    (hr : ∀ v h', Q' v h' → h.size ≤ h'.size → Go κ h' (cells + rm'.cells) (slots + rm'.slots) (pc + 3) Ls (v.toList ++ rest)) : Go κ h cells slots pc Ls st := fun T locs vm0 X A hZ N OB eT => by
  have hZ' := K.warm hZ
  have eR := K.eR
  obtain ⟨v, vm₁, B, -, X', P, st1⟩ := X.specialBack K.exec (y := y) hy1 (K.ko A) (mvT hZ' w1) (mvT hZ' w2) (mvT hZ' w5) hy (backOf (W := W) (R := κ.R) (rm := rm') (Q := fun v h' L => Q' v h' ∧ Fr n0 L ∧ h.size ≤ h'.size ∧ Old Z n0 h') (by rw [K.el]; exact C.narrow (K.old OB)) hZ' w5 w6 (by rw [eR]; exact hf) (by rw [eR]; exact hl)) (g := mkF κ.m pc Ls st) rfl (by rw [K.kl]; exact hsz) (Steps.refl _) (a := b) hlen hst (W0 hW) (hb K.kb hd)
    (fun _ _ => ⟨rfl, eT, by rw [eR]; exact hc, by rw [eR]; exact hs⟩)
  exact finish K (T := T) A hZ N hr X' P (fun _ k => st1.trans k)
theorem mvMN {s : State} {args : Array Value} {own' host : String} {i : Nat} (hZ : Z.Warmed39 s.vm) (w : (Cond.methodLinkNest own' i y host).before a0 Z = true) : (Cond.methodLinkNest own' i y host).before args s = true := (Cond.methodLinkNest_wide hZ w :)
theorem invCN {host : String} {b : Addr} (K : Ok κ l Z n0 own nm bytes maxL ret rm Q) (C : Con false l Z n0 y bytes' maxL' none rm' (.ref b :: argsL).toArray h Q') (hd : decode bytes pc = .ok (.invokespecial index, 3)) (hy1 : y.name = "<init>")
    (w1 : (Cond.methodLinkNest own index y host).before a0 Z = true) (w2 : (Cond.instanceMethod y).before a0 Z = true) (w5 : (Cond.code y bytes' maxL' none).before a0 Z = true) (w6 : (Cond.initialized y.cls).before a0 Z = true)
    (hy : y.cls ≠ "java/lang/invoke/MethodHandle" ∧ y.cls ≠ "java/lang/invoke/VarHandle")
    (hlen : ∀ sig, parseMethodDescriptor y.desc = some sig → argsL.length = sig.parameters.length) (hst : st = argsL.reverse ++ .ref b :: rest) (hsz : Ls.size = maxL) (hW : (rest.map fun v => v.category).sum ≤ W) (hf : rm'.frames + 1 ≤ rm.frames) (hl : W + (maxL' + 11) + rm'.locals ≤ rm.locals) (hc : cells + rm'.cells ≤ rm.cells) (hs : slots + rm'.slots ≤ rm.slots)
    (hr : ∀ v h', Q' v h' → h.size ≤ h'.size → Go κ h' (cells + rm'.cells) (slots + rm'.slots) (pc + 3) Ls (v.toList ++ rest)) : Go κ h cells slots pc Ls st := fun T locs vm0 X A hZ N OB eT => by
  have hZ' := K.warm hZ
  have eR := K.eR
  obtain ⟨v, vm₁, B, -, X', P, st1⟩ := X.specialBackNest K.exec (y := y) hy1 (K.ko A) (mvMN hZ' w1) (mvT hZ' w2) (mvT hZ' w5) hy (backOf (W := W) (R := κ.R) (rm := rm') (Q := fun v h' L => Q' v h' ∧ Fr n0 L ∧ h.size ≤ h'.size ∧ Old Z n0 h') (by rw [K.el]; exact C.narrow (K.old OB)) hZ' w5 w6 (by rw [eR]; exact hf) (by rw [eR]; exact hl)) (g := mkF κ.m pc Ls st) rfl (by rw [K.kl]; exact hsz) (Steps.refl _) (a := b) hlen hst (W0 hW) (hb K.kb hd)
    (fun _ _ => ⟨rfl, eT, by rw [eR]; exact hc, by rw [eR]; exact hs⟩)
  exact finish K (T := T) A hZ N hr X' P (fun _ k => st1.trans k)
theorem invO {a : Addr} (K : Ok κ l Z n0 own nm bytes maxL ret rm Q) (hd : decode bytes pc = .ok (.invokespecial index, 3)) (w1 : (Cond.methodLink own index Lib.objectInit).before a0 Z = true) (w2 : (Cond.instanceMethod Lib.objectInit).before a0 Z = true) (w3 : (Cond.code Lib.objectInit ⟨#[0xb1]⟩ 1 none).before a0 Z = true)
    (hsz : Ls.size = maxL) (hf : 1 ≤ rm.frames) (hW : (st.map fun v => v.category).sum ≤ W) (hl : W + 12 ≤ rm.locals) (hr : Go κ h cells slots (pc + 3) Ls st) : Go κ h cells slots pc Ls (.ref a :: st) := fun T locs vm0 X A hZ N B eT => by
  obtain ⟨T', X', e', st1⟩ := initO X K.exec (K.warm hZ) (K.ko A) w1 w2 w3 eT (g := mkF κ.m pc Ls (.ref a :: st)) rfl (by rw [K.kl]; exact hsz) rfl (hb K.kb hd) (by rw [K.eR]; exact hf) (W := W) (W0 hW) (by rw [K.eR]; exact hl)
  obtain ⟨s₂, o, hs, r⟩ := hr T' locs vm0 X' A hZ N B e'
  exact ⟨s₂, o, st1 _ hs, r⟩
/-- a body's walk makes the contract -/
theorem Con.of {J : Vm → Prop} {wide : Bool} (hpn : plainFor y = true)
    (H : ∀ κ : Cx, κ.wide = wide → κ.J = J → Ok κ l Z n0 y.cls y.name bytes' maxL' ret' rm' Q' → Go κ h 0 0 0 (entryFrame κ.m as' maxL').locals []) (hfr : ∀ m : MethodId, entryFrame m as' maxL' = mkF m 0 (entryFrame m as' maxL').locals [] := by intro m; rfl) : ConX J wide l Z n0 y bytes' maxL' ret' rm' as' h Q' := by
  intro hn ws
  refine MetFree.of_bodySF hpn hisR ?_
  intro p e s m args below meth c s₁ Bd hml0 hP hK
  obtain ⟨rfl, hZ, hh, hJ⟩ := hP
  have X0 : Stand p l e rm' s m args below meth c s₁ [] 0 0 := Stand.of_body Bd
  have e0 : s₁.heap = h := by rw [← hh, Bd.state]; rfl
  let κ : Cx := ((p, l, e, rm', s, m, args, below, meth, c), (wide, Z, n0, Q', J))
  have K : Ok κ l Z n0 y.cls y.name bytes' maxL' ret' rm' Q' := ⟨rfl, rfl, rfl, rfl, Bd.exec, findClass_of_methodNamed Bd.named, Bd.bytes, hml0, Bd.returns, (name_of_methodNamed Bd.named Bd.method).1, Bd.notSynchronized, rfl⟩
  obtain ⟨s₂, o, hs, r1, r2, v, L, e1, q, E⟩ := H κ rfl rfl K s₁ [] s.vm X0 ⟨⟨s.heap.size, (State.WarmedH.refl s).since _, by rw [← hh]; exact Nat.le_refl _⟩, fun _ => rfl, hJ⟩ hZ (Fr.nil _) hn e0
  exact ⟨s₂, o, castTop (hfr m) hs, r1, r2, v, L, e1, q, E⟩
end Calls
theorem catR {v : Value} (h : v.isRef = true) : v.category = 1 := by rcases ref_cases h with rfl | ⟨a, rfl⟩ <;> rfl
/-! ## lcmp -/
theorem cmp_lt (x y : Int64) : (XT.cmpL x y).toInt < 0 ↔ x.toInt < y.toInt := by
  unfold XT.cmpL; rw [← Int64.lt_iff_toInt_lt]
  by_cases h1 : y < x
  · simp only [h1, if_true]; constructor
    · intro h; exact absurd h (by decide)
    · intro h; rw [Int64.lt_iff_toInt_lt] at h h1; omega
  · by_cases h2 : x = y
    · subst h2; simp only [h1, if_true, if_false]; simp
    · simp only [h1, h2, if_false]
      have h3 : x < y := by rw [Int64.lt_iff_toInt_lt] at h1 ⊢; rw [← Int64.toInt_inj] at h2; omega
      exact ⟨fun _ => h3, fun _ => by decide⟩
theorem cmp_gt (x y : Int64) : 0 < (XT.cmpL x y).toInt ↔ y.toInt < x.toInt := by
  unfold XT.cmpL; rw [← Int64.lt_iff_toInt_lt]
  by_cases h1 : y < x
  · simp only [h1, if_true]; exact ⟨fun _ => trivial, fun _ => by decide⟩
  · by_cases h2 : x = y
    · subst h2; simp only [h1, if_true, if_false]; simp
    · simp only [h1, h2, if_false]; simp
theorem cmp_eq (x y : Int64) : XT.cmpL x y = 0 ↔ x = y := by
  unfold XT.cmpL
  by_cases h1 : y < x
  · simp only [h1, if_true]; constructor
    · intro h; exact absurd h (by decide)
    · intro h; subst h; rw [Int64.lt_iff_toInt_lt] at h1; omega
  · by_cases h2 : x = y
    · subst h2; simp only [h1, if_true, if_false]
    · simp only [h1, h2, if_false]; exact ⟨fun h => absurd h (by decide), fun h => h.elim⟩
/-! ## what a case's words say at the start -/
theorem stZ {s : State} {args : Array Value} {C n d : String} {v : Value} (ev : (Term.static C n d).eval args s none [] s = some v) (wi : (Cond.initialized C).before args s = true) (wl : (Cond.laysStatic C n d).before args s = true) : Sta s s.heap C n d v := Sta.start ev (Or.inr ⟨wi, wl⟩)
theorem fldI {s : State} {args : Array Value} {t : Term} {a : Addr} {O f d : String} {k : Int32} (ev : t.eval args s none [] s = some (.ref a)) (hq : (Cond.eq (.field t O f d) (.int k)).value args s none s [] = some true) : Fld s s.heap a O f d (.int k) := by
  obtain ⟨x, y, e1, e2, k1, k2⟩ := cmp_v (Or.inl hq)
  rw [fld_at ev] at e1
  cases (e2.symm.trans (Term.int_eval k) : some y = some (.int k))
  obtain ⟨z, rfl⟩ := k2
  refine Fld.start ?_
  have e3 : (Term.field t O f d).eval args s none [] s = some (.int z) := (fld_at ev).trans e1
  have := gotT (Cond.eq_ints e3 (Term.int_eval k)) hq
  rw [e1, this]
theorem fldJ {s : State} {args : Array Value} {t : Term} {a : Addr} {O f d : String} {k : Int64} (ev : t.eval args s none [] s = some (.ref a)) (hq : (Cond.eq (.field t O f d) (.long k)).value args s none s [] = some true) : Fld s s.heap a O f d (.long k) := by
  obtain ⟨x, y, e1, e2, k1, k2⟩ := cmp_v (Or.inl hq)
  rw [fld_at ev] at e1
  cases (e2.symm.trans (long_at k) : some y = some (.long k))
  obtain ⟨z, rfl⟩ := k2
  refine Fld.start ?_
  have e3 : (Term.field t O f d).eval args s none [] s = some (.long z) := (fld_at ev).trans e1
  have := gotT (eq_L e3 (long_at k)) hq
  rw [e1, this]
theorem staI {s : State} {args : Array Value} {C n d : String} {k : Int32} (hq : (Cond.eq (.static C n d) (.int k)).value args s none s [] = some true) : (Term.static C n d).eval args s none [] s = some (.int k) := by
  obtain ⟨x, y, e1, e2, k1, k2⟩ := cmp_v (Or.inl hq)
  cases (e2.symm.trans (Term.int_eval k) : some y = some (.int k))
  obtain ⟨z, rfl⟩ := k2
  have := gotT (Cond.eq_ints e1 (Term.int_eval k)) hq
  rw [e1, this]
theorem staJ {s : State} {args : Array Value} {C n d : String} {k : Int64} (hq : (Cond.eq (.static C n d) (.long k)).value args s none s [] = some true) : (Term.static C n d).eval args s none [] s = some (.long k) := by
  obtain ⟨x, y, e1, e2, k1, k2⟩ := cmp_v (Or.inl hq)
  cases (e2.symm.trans (long_at k) : some y = some (.long k))
  obtain ⟨z, rfl⟩ := k2
  have := gotT (eq_L e1 (long_at k)) hq
  rw [e1, this]
theorem ordNe {Z : State} {h : Heap} {a b : Addr} {C n d : String} {v w : Value} (F : Fld Z h a C n d v) (G : Fld Z h b C n d w) (q : v ≠ w) : (Value.ref a) ≠ .ref b := fun e => F.ne G q (by cases e; rfl)
end Laws
end Jvm.OwnKit

namespace Jvm.OwnKit
open Sem ClassFile Op Lib Jvm.Stand Jvm.Free Jvm.LawKit Jvm.RoadKit
/-! ## arrays, by the list of what they hold -/
def Av (Z : State) (h : Heap) (a : Addr) (k : ClassId) (ty : FieldType) (vs : List Value) : Prop := ∃ c : Cell, Arr Z h a c ty ∧ c.cls = k ∧ c.slots.toList = vs ∧ vs.length < 2 ^ 31 ∧ ∀ v ∈ vs, fits ty v = true
section Av
variable {Z : State} {h h' : Heap} {a b : Addr} {k : ClassId} {ty : FieldType} {vs : List Value} {sl : Nat} {v : Value} {ws : List Addr}
theorem Av.lt (F : Av Z h a k ty vs) : a < h.size := by obtain ⟨c, A, -⟩ := F; exact A.lt
theorem Av.ext (F : Av Z h a k ty vs) (E : Ext h h') : Av Z h' a k ty vs := by obtain ⟨c, A, r⟩ := F; exact ⟨c, A.ext E, r⟩
theorem Av.other (F : Av Z h b k ty vs) (W : Wr h h' a sl v) (q : b ≠ a) : Av Z h' b k ty vs := by obtain ⟨c, A, r⟩ := F; exact ⟨c, A.other W q, r⟩
theorem Av.keep (F : Av Z h a k ty vs) (K : Keep h h' ws) (q : a ∉ ws) : Av Z h' a k ty vs := by obtain ⟨c, A, r⟩ := F; exact ⟨c, ⟨K.2.1 a c A.1 q, A.2⟩, r⟩
theorem Av.len (F : Av Z h a k ty vs) : vs.length < 2 ^ 31 := by obtain ⟨c, -, -, -, q, -⟩ := F; exact q
theorem Av.set (F : Av Z h a k ty vs) (W : Wr h h' a sl v) (hv : fits ty v = true) : Av Z h' a k ty (vs.set sl v) := by
  obtain ⟨c, A, e1, e2, e3, e4⟩ := F
  refine ⟨_, A.same W, e1, by simp [Cell.setSlot, e2], by simpa using e3, fun w hw => ?_⟩
  rcases List.mem_or_eq_of_mem_set hw with q | q
  · exact e4 w q
  · exact q ▸ hv
theorem Av.new {cA : ClassId} {n : Int32} (A : Arr Z h a (newA cA ty n) ty) (q : 0 ≤ n.toInt) : Av Z h a cA ty (List.replicate n.toInt.toNat (defaultValue ty)) := by
  have e : n.toNatClampNeg = n.toInt.toNat := rfl
  refine ⟨_, A, rfl, by show (Array.replicate n.toNatClampNeg (defaultValue ty)).toList = _; rw [Array.toList_replicate]; rfl, by have := n.toInt_lt; rw [List.length_replicate]; omega, fun v hv => ?_⟩
  rw [List.mem_replicate] at hv
  rw [hv.2]; cases ty <;> rfl
theorem Av.arv (F : Av Z h a k ty vs) (d : Value) : Arv Z h a k ty (Int32.ofNat vs.length) vs d := by
  obtain ⟨c, A, e1, e2, e3, e4⟩ := F
  have e5 : c.slots.size = vs.length := by rw [← e2]; simp
  have e6 : (Int32.ofNat vs.length).toInt = vs.length := len_toInt e3
  refine ⟨c, A, e1, ?_, ?_, fun i hi => ?_, fun i hi => ?_⟩
  · rw [e5]; show _ = (Int32.ofNat vs.length).toInt.toNat; omega
  · rw [Int32.lt_iff_toInt_lt, e6]; have : (0 : Int32).toInt = 0 := rfl; omega
  · rw [e5] at hi; rw [← e2]; simp [List.getD, ← Array.getElem?_toList]; rw [e2]; simp [hi]
  · rw [e5] at hi; rw [List.getD_eq_getElem?_getD, List.getElem?_eq_getElem hi]; exact e4 _ (List.getElem_mem hi)
theorem Av.of_arv {n : Int32} {d : Value} (F : Arv Z h a k ty n vs d) (hl : n.toInt = vs.length) : Av Z h a k ty vs := by
  obtain ⟨c, A, e1, e2, e3, e4, e5⟩ := F
  have e6 : c.slots.size = vs.length := by rw [e2]; show n.toInt.toNat = _; omega
  have e7 : c.slots.toList = vs := by
    refine List.ext_getElem? fun i => ?_
    rcases Nat.lt_or_ge i vs.length with hi | hi
    · have q := e4 i (by omega)
      rw [Array.getElem?_toList, q, List.getD_eq_getElem?_getD, List.getElem?_eq_getElem hi]; rfl
    · rw [List.getElem?_eq_none hi, List.getElem?_eq_none (by simp; omega)]
  refine ⟨c, A, e1, e7, by have := n.toInt_lt; omega, fun v hv => ?_⟩
  obtain ⟨i, hi, rfl⟩ := List.getElem_of_mem hv
  have q := e5 i (by omega)
  rwa [List.getD_eq_getElem?_getD, List.getElem?_eq_getElem hi] at q
end Av
section ALaws
variable {κ : Cx} {t : FieldType} {l : Launch} {Z : State} {n0 : Nat} {own nm : String} {bytes : ByteArray} {maxL : Nat} {ret : Option FieldType} {rm : Room} {Q : Option Value → Heap → Prop} {h : Heap} {cells slots pc : Nat} {Ls : Array Slot} {st : List Value} {a0 : Array Value}
variable {a : Addr} {k : ClassId} {ty : FieldType} {vs : List Value} {j : Int32} {v : Value}
theorem inV {c : Cell} (e : c.slots.toList = vs) (h0 : 0 ≤ j.toInt) (hj : vs[j.toInt.toNat]? = some v) : ¬ (j < 0 ∨ c.slots.size ≤ j.toNatClampNeg) ∧ c.slots[j.toNatClampNeg]? = some v := by
  have q := (List.getElem?_eq_some_iff.mp hj).1
  have s : c.slots.size = vs.length := by rw [← e]; simp
  have e0 : (0 : Int32).toInt = 0 := rfl
  have e1 : j.toNatClampNeg = j.toInt.toNat := rfl
  refine ⟨?_, ?_⟩
  · rw [Int32.lt_iff_toInt_lt, e0, e1]; omega
  · rw [e1, ← Array.getElem?_toList, e]; exact hj
theorem lenV (K : Ok κ l Z n0 own nm bytes maxL ret rm Q) (hd : decode bytes pc = .ok (.arraylength, 1)) (A : Av Z h a k ty vs) (hr : Go κ h cells slots (pc + 1) Ls (.int (Int32.ofNat vs.length) :: st)) : Go κ h cells slots pc Ls (.ref a :: st) := by
  obtain ⟨c, A1, e1, e2, e3, e4⟩ := A
  exact arrLen K hd A1 (by rw [← e2]; simp) hr
theorem ialoadV (K : Ok κ l Z n0 own nm bytes maxL ret rm Q) (hd : decode bytes pc = .ok (.iaload, 1)) (A : Av Z h a k .int vs) (h0 : 0 ≤ j.toInt) (hj : vs[j.toInt.toNat]? = some v) (hr : Go κ h cells slots (pc + 1) Ls (v :: st)) : Go κ h cells slots pc Ls (.int j :: .ref a :: st) := by
  obtain ⟨c, A1, e1, e2, e3, e4⟩ := A
  obtain ⟨q1, q2⟩ := inV e2 h0 hj
  exact iaload K hd A1 q1 q2 hr
theorem laloadV (K : Ok κ l Z n0 own nm bytes maxL ret rm Q) (hd : decode bytes pc = .ok (.laload, 1)) (A : Av Z h a k .long vs) (h0 : 0 ≤ j.toInt) (hj : vs[j.toInt.toNat]? = some v) (hr : Go κ h cells slots (pc + 1) Ls (v :: st)) : Go κ h cells slots pc Ls (.int j :: .ref a :: st) := by
  obtain ⟨c, A1, e1, e2, e3, e4⟩ := A
  obtain ⟨q1, q2⟩ := inV e2 h0 hj
  exact laload K hd A1 q1 q2 hr
theorem caloadV (K : Ok κ l Z n0 own nm bytes maxL ret rm Q) (hd : decode bytes pc = .ok (.caload, 1)) (A : Av Z h a k .char vs) (h0 : 0 ≤ j.toInt) (hj : vs[j.toInt.toNat]? = some v) (hr : Go κ h cells slots (pc + 1) Ls (v :: st)) : Go κ h cells slots pc Ls (.int j :: .ref a :: st) := by
  obtain ⟨c, A1, e1, e2, e3, e4⟩ := A
  obtain ⟨q1, q2⟩ := inV e2 h0 hj
  exact caload K hd A1 q1 q2 hr
theorem baloadV (K : Ok κ l Z n0 own nm bytes maxL ret rm Q) (hd : decode bytes pc = .ok (.baload, 1)) (A : Av Z h a k .byte vs) (h0 : 0 ≤ j.toInt) (hj : vs[j.toInt.toNat]? = some v) (hr : Go κ h cells slots (pc + 1) Ls (v :: st)) : Go κ h cells slots pc Ls (.int j :: .ref a :: st) := by
  obtain ⟨c, A1, e1, e2, e3, e4⟩ := A
  obtain ⟨q1, q2⟩ := inV e2 h0 hj
  exact baload K hd A1 q1 q2 hr
theorem iastoreV {x : Int32} (K : Ok κ l Z n0 own nm bytes maxL ret rm Q) (hd : decode bytes pc = .ok (.iastore, 1)) (A : Av Z h a k .int vs) (h0 : 0 ≤ j.toInt) (hj : j.toInt < vs.length) (ge : n0 ≤ a)
    (hr : ∀ h', Wr h h' a j.toInt.toNat (.int x) → Av Z h' a k .int (vs.set j.toInt.toNat (.int x)) → Go κ h' cells slots (pc + 1) Ls st) : Go κ h cells slots pc Ls (.int x :: .int j :: .ref a :: st) := by
  obtain ⟨c, A1, e1, e2, e3, e4⟩ := A
  obtain ⟨w, hw⟩ : ∃ w, vs[j.toInt.toNat]? = some w := ⟨_, List.getElem?_eq_getElem (by omega)⟩
  obtain ⟨q1, q2⟩ := inV e2 h0 hw
  exact iastore K hd A1 q1 ge fun h' W => hr h' W (Av.set ⟨c, A1, e1, e2, e3, e4⟩ W rfl)
theorem lastoreV {x : Int64} (K : Ok κ l Z n0 own nm bytes maxL ret rm Q) (hd : decode bytes pc = .ok (.lastore, 1)) (A : Av Z h a k .long vs) (h0 : 0 ≤ j.toInt) (hj : j.toInt < vs.length) (ge : n0 ≤ a)
    (hr : ∀ h', Wr h h' a j.toInt.toNat (.long x) → Av Z h' a k .long (vs.set j.toInt.toNat (.long x)) → Go κ h' cells slots (pc + 1) Ls st) : Go κ h cells slots pc Ls (.long x :: .int j :: .ref a :: st) := by
  obtain ⟨c, A1, e1, e2, e3, e4⟩ := A
  obtain ⟨w, hw⟩ : ∃ w, vs[j.toInt.toNat]? = some w := ⟨_, List.getElem?_eq_getElem (by omega)⟩
  obtain ⟨q1, q2⟩ := inV e2 h0 hw
  exact lastore K hd A1 q1 ge fun h' W => hr h' W (Av.set ⟨c, A1, e1, e2, e3, e4⟩ W rfl)
theorem castoreV {x : Int32} (K : Ok κ l Z n0 own nm bytes maxL ret rm Q) (hd : decode bytes pc = .ok (.castore, 1)) (A : Av Z h a k .char vs) (h0 : 0 ≤ j.toInt) (hj : j.toInt < vs.length) (ge : n0 ≤ a)
    (hr : ∀ h', Wr h h' a j.toInt.toNat (.int (nar .char x)) → Av Z h' a k .char (vs.set j.toInt.toNat (.int (nar .char x))) → Go κ h' cells slots (pc + 1) Ls st) : Go κ h cells slots pc Ls (.int x :: .int j :: .ref a :: st) := by
  obtain ⟨c, A1, e1, e2, e3, e4⟩ := A
  obtain ⟨w, hw⟩ : ∃ w, vs[j.toInt.toNat]? = some w := ⟨_, List.getElem?_eq_getElem (by omega)⟩
  obtain ⟨q1, q2⟩ := inV e2 h0 hw
  exact castore K hd A1 q1 ge fun h' W => hr h' W (Av.set ⟨c, A1, e1, e2, e3, e4⟩ W (fits_nar_char x))
theorem bastoreV {x : Int32} (K : Ok κ l Z n0 own nm bytes maxL ret rm Q) (hd : decode bytes pc = .ok (.bastore, 1)) (A : Av Z h a k .byte vs) (h0 : 0 ≤ j.toInt) (hj : j.toInt < vs.length) (ge : n0 ≤ a)
    (hr : ∀ h', Wr h h' a j.toInt.toNat (.int x.toInt8.toInt32) → Av Z h' a k .byte (vs.set j.toInt.toNat (.int x.toInt8.toInt32)) → Go κ h' cells slots (pc + 1) Ls st) : Go κ h cells slots pc Ls (.int x :: .int j :: .ref a :: st) := by
  obtain ⟨c, A1, e1, e2, e3, e4⟩ := A
  obtain ⟨w, hw⟩ : ∃ w, vs[j.toInt.toNat]? = some w := ⟨_, List.getElem?_eq_getElem (by omega)⟩
  obtain ⟨q1, q2⟩ := inV e2 h0 hw
  exact bastore K hd A1 q1 ge fun h' W => hr h' W (Av.set ⟨c, A1, e1, e2, e3, e4⟩ W (fits_nar_byte x))
theorem aaloadV (K : Ok κ l Z n0 own nm bytes maxL ret rm Q) (hd : decode bytes pc = .ok (.aaload, 1)) (A : Av Z h a k ty vs) (hty : ty.isReference = true) (h0 : 0 ≤ j.toInt) (hj : vs[j.toInt.toNat]? = some v) (hr : Go κ h cells slots (pc + 1) Ls (v :: st)) : Go κ h cells slots pc Ls (.int j :: .ref a :: st) := by
  obtain ⟨c, A1, e1, e2, e3, e4⟩ := A
  obtain ⟨q1, q2⟩ := inV e2 h0 hj
  exact aaload K hd A1 hty q1 q2 hr
theorem aastoreV {C : String} {y : Addr} (K : Ok κ l Z n0 own nm bytes maxL ret rm Q) (hd : decode bytes pc = .ok (.aastore, 1)) (A : Av Z h a k ty vs) (O : Ovr Z k C) (I : Ins Z h y C true) (hty : ty.isReference = true) (h0 : 0 ≤ j.toInt) (hj : j.toInt < vs.length) (ge : n0 ≤ a)
    (hr : ∀ h', Wr h h' a j.toInt.toNat (.ref y) → Av Z h' a k ty (vs.set j.toInt.toNat (.ref y)) → Go κ h' cells slots (pc + 1) Ls st) : Go κ h cells slots pc Ls (.ref y :: .int j :: .ref a :: st) := by
  obtain ⟨c, A1, e1, e2, e3, e4⟩ := A
  obtain ⟨w, hw⟩ : ∃ w, vs[j.toInt.toNat]? = some w := ⟨_, List.getElem?_eq_getElem (by omega)⟩
  obtain ⟨q1, q2⟩ := inV e2 h0 hw
  refine aastore K hd A1 q1 hty (Sto.ofV A1 e1 O I) ge fun h' W => ?_
  exact hr h' W (Av.set ⟨c, A1, e1, e2, e3, e4⟩ W (by cases ty <;> first | (exact Bool.noConfusion hty) | rfl))
theorem newArrV {aty : ArrayType} {n : Int32} {cap : Nat} (K : Ok κ l Z n0 own nm bytes maxL ret rm Q) (hd : decode bytes pc = .ok (.newarray aty, 2)) (w : (Cond.arrayClass (newarray.typeOf aty)).before a0 Z = true) (hn : 0 ≤ n.toInt) (hcap : n.toInt ≤ cap) (hb8 : cap * 8 ≤ 536870912)
    (hc : cells + 1 ≤ rm.cells) (hl : slots + cap ≤ rm.slots)
    (hr : ∀ h' a k, a = h.size → n0 ≤ a → Ext h h' → Av Z h' a k (newarray.typeOf aty) (List.replicate n.toInt.toNat (defaultValue (newarray.typeOf aty))) → Exa Z h' a ("[" ++ (newarray.typeOf aty).toString) → Go κ h' (cells + 1) (slots + cap) (pc + 2) Ls (.ref a :: st)) : Go κ h cells slots pc Ls (.int n :: st) := by
  have e0 : (0 : Int32).toInt = 0 := rfl
  have e1 : n.toNatClampNeg = n.toInt.toNat := rfl
  refine newArr K hd w (by rw [Int32.lt_iff_toInt_lt, e0]; omega) (by rw [e1]; omega) hb8 rfl hc hl fun h' a cA q1 q2 q3 q4 q5 => ?_
  exact hr h' a cA q1 q2 q3 (Av.new q4 hn) q5
theorem anewArrV {C : String} {index : Nat} {n : Int32} {cap : Nat} (K : Ok κ l Z n0 own nm bytes maxL ret rm Q) (hd : decode bytes pc = .ok (.anewarray index, 3)) (w1 : (Cond.classLink own index C).before a0 Z = true) (w2 : (Cond.arrayOver (.object C)).before a0 Z = true) (hn : 0 ≤ n.toInt) (hcap : n.toInt ≤ cap) (hb8 : cap * 8 ≤ 536870912)
    (hc : cells + 1 ≤ rm.cells) (hl : slots + cap ≤ rm.slots)
    (hr : ∀ h' a k, a = h.size → n0 ≤ a → Ext h h' → Av Z h' a k (.object C) (List.replicate n.toInt.toNat .null) → Ovr Z k C → Go κ h' (cells + 1) (slots + cap) (pc + 3) Ls (.ref a :: st)) : Go κ h cells slots pc Ls (.int n :: st) := by
  have e0 : (0 : Int32).toInt = 0 := rfl
  have e1 : n.toNatClampNeg = n.toInt.toNat := rfl
  refine anewArr K hd w1 w2 (by rw [Int32.lt_iff_toInt_lt, e0]; omega) (by rw [e1]; omega) hb8 hc hl fun h' a cA q1 q2 q3 q4 q5 => ?_
  exact hr h' a cA q1 q2 q3 (Av.new q4 hn) q5
/-- System.arraycopy between two arrays of one primitive kind -/
theorem copyV {index : Nat} {b : Addr} {k' : ClassId} {us : List Value} {sp dp nn : Int32} {W : Nat} (K : Ok κ l Z n0 own nm bytes maxL ret rm Q) (hd : decode bytes pc = .ok (.invokestatic index, 3))
    (w1 : (Cond.methodLink own index Jvm.Stand.acN).before a0 Z = true) (w2 : (Cond.native Jvm.Stand.acN).before a0 Z = true) (w3 : (Cond.static Jvm.Stand.acN).before a0 Z = true) (w4 : (Cond.initialized "java/lang/System").before a0 Z = true)
    (A : Av Z h a k ty vs) (B : Av Z h b k' ty us) (hty : refKind ty = false) (h1 : 0 ≤ sp.toInt) (h2 : 0 ≤ dp.toInt) (h3 : 0 ≤ nn.toInt) (h4 : sp.toInt + nn.toInt ≤ vs.length) (h5 : dp.toInt + nn.toInt ≤ us.length) (ge : n0 ≤ b)
    (hsz : Ls.size = maxL) (hW : (st.map fun v => v.category).sum ≤ W) (hf : 1 ≤ rm.frames) (hlo : W + (nativeFrameWords "java/lang/System" "arraycopy" 5 + 11) ≤ rm.locals)
    (hr : ∀ h', Keep h h' [b] → Av Z h' b k' ty (us.take dp.toInt.toNat ++ (vs.drop sp.toInt.toNat).take nn.toInt.toNat ++ us.drop (dp.toInt.toNat + nn.toInt.toNat)) → Go κ h' cells slots (pc + 3) Ls st) :
    Go κ h cells slots pc Ls (.int nn :: .int dp :: .ref b :: .int sp :: .ref a :: st) := fun T locs vm0 X AD hZ N OB eT => by
  have e0 : (0 : Int32).toInt = 0 := rfl
  have eR := K.eR
  have lA := A.len
  have lB := B.len
  have sA : (Int32.ofNat vs.length).toInt = vs.length := len_toInt lA
  have sB : (Int32.ofNat us.length).toInt = us.length := len_toInt lB
  have hus : (vs.drop sp.toInt.toNat).take nn.toInt.toNat = (List.range nn.toNatClampNeg).map fun i => vs.getD (sp.toNatClampNeg + i) .null := by
    refine List.ext_getElem? fun i => ?_
    show _ = ((List.range nn.toInt.toNat).map fun i => vs.getD (sp.toInt.toNat + i) .null)[i]?
    rcases Nat.lt_or_ge i nn.toInt.toNat with hi | hi
    · rw [List.getElem?_take_of_lt hi, List.getElem?_drop, List.getElem?_map, List.getElem?_range hi, Option.map_some, List.getD_eq_getElem?_getD, List.getElem?_eq_getElem (by omega)]; rfl
    · rw [List.getElem?_eq_none (by rw [List.length_take, List.length_drop]; omega), List.getElem?_eq_none (by rw [List.length_map, List.length_range]; omega)]
  obtain ⟨T', h', L, X', e', N', KP, AV, st1⟩ := cpA X K.exec (K.warm hZ) (K.ko AD) w1 w2 w3 w4 eT (A.arv .null) (B.arv .null) (Or.inl ⟨rfl, hty⟩) (sp := sp) (dp := dp) (nn := nn) (by rw [Int32.lt_iff_toInt_lt, e0]; omega) (by rw [Int32.lt_iff_toInt_lt, e0]; omega) (by rw [Int32.lt_iff_toInt_lt, e0]; omega)
    (by show sp.toInt.toNat + nn.toInt.toNat ≤ (Int32.ofNat vs.length).toInt.toNat; omega) (by show dp.toInt.toNat + nn.toInt.toNat ≤ (Int32.ofNat us.length).toInt.toNat; omega) hus (by show dp.toInt.toNat + nn.toInt.toNat ≤ us.length; omega) N (by rw [K.en]; exact ge)
    (g := mkF κ.m pc Ls (.int nn :: .int dp :: .ref b :: .int sp :: .ref a :: st)) rfl (by rw [K.kl]; exact hsz) rfl (hb K.kb hd) (by rw [eR]; exact hf) (W0 hW) (by rw [eR]; exact hlo)
  have AV' : Av Z h' b k' ty (us.take dp.toInt.toNat ++ (vs.drop sp.toInt.toNat).take nn.toInt.toNat ++ us.drop (dp.toInt.toNat + nn.toInt.toNat)) := Av.of_arv AV (by simp only [List.length_append, List.length_take, List.length_drop]; omega)
  obtain ⟨s₂, o, hs, r⟩ := hr h' KP AV' T' L vm0 X' (AD.mono KP.1) hZ N' (OB.keep KP (allS (by rw [K.en]; exact ge) all0)) e'
  exact ⟨s₂, o, st1 _ hs, r⟩
end ALaws
end Jvm.OwnKit

namespace Jvm.OwnKit
open Sem ClassFile Op Lib Jvm.Stand Jvm.Free Jvm.LawKit Jvm.RoadKit
/-! ## a walk that may resolve String constants (κ.wide = true), and callees that do -/
section Wide
variable {κ : Cx} {t : FieldType} {l : Launch} {Z : State} {n0 : Nat} {own nm : String} {bytes : ByteArray} {maxL : Nat} {ret : Option FieldType} {rm : Room} {Q : Option Value → Heap → Prop} {h : Heap} {cells slots pc : Nat} {Ls : Array Slot} {st : List Value} {a0 : Array Value}
variable {y z : MethodName} {bytes' : ByteArray} {maxL' W index : Nat} {ret' : Option FieldType} {rm' : Room} {Q' : Option Value → Heap → Prop} {argsL rest : List Value} {as' : Array Value}
theorem Con.wide {w : Bool} (C : Con w l Z n0 y bytes' maxL' ret' rm' as' h Q') (g : Old Z n0 h) : MetFree l y (head1 [Cond.code y bytes' maxL' ret'] rm') (fun a U => a = as' ∧ Z.Warmed39 U.vm ∧ U.heap = h) (fun _ _ _ _ _ => True)
    (fun _ U o U' => ∃ v L, o = .returned v ∧ (Q' v U'.heap ∧ Fr n0 L ∧ h.size ≤ U'.heap.size ∧ Old Z n0 U'.heap) ∧ ReturnedEndW U o U' L rm'.cells rm'.slots) := fun p e ha hc hk s m args below hf happ hP hK => by
  obtain ⟨n, o, a1, a2, a3, v, L, e1, ⟨q1, q2, q3⟩, E⟩ := C g [] p e ha hc hk s m args below hf happ ⟨hP.1, hP.2.1, hP.2.2, trivial⟩ hK
  exact ⟨n, o, a1, a2, a3, v, L, e1, ⟨q1, q2, hP.2.2 ▸ q3.1, q3.2⟩, E.2⟩
theorem Con.up {J : Vm → Prop} (C : ConX J false l Z n0 y bytes' maxL' ret' rm' as' h Q') : ConX J true l Z n0 y bytes' maxL' ret' rm' as' h Q' := fun g ws p e ha hc hk s m args below hf happ hP hK => by
  obtain ⟨n, o, a1, a2, a3, v, L, e1, q, E⟩ := C g ws p e ha hc hk s m args below hf happ hP hK
  exact ⟨n, o, a1, a2, a3, v, L, e1, q, fun w => Bool.noConfusion w, E.2⟩
theorem finishW (K : Ok κ l Z n0 own nm bytes maxL ret rm Q) (hwd : κ.wide = true) (hJ : κ.J = fun _ => True) {T U0 : State} {locs : List Loc} {vm0 : Vm} {pc' : Nat} (A : κ.adm vm0 h.size) (hZ : κ.Z.Warmed39 vm0) (N : Fr κ.n0 locs)
    (hr : ∀ v h', Q' v h' → h.size ≤ h'.size → Go κ h' (cells + rm'.cells) (slots + rm'.slots) pc' Ls (v.toList ++ rest)) {v : Option Value} {B : Pt} (X' : Stand κ.p κ.l κ.e κ.R ((κ.s.setVm vm0).setVm B.U.vm) κ.m κ.args κ.below κ.meth κ.c B.U B.locs B.cells B.slots) (hS : (κ.s.setVm vm0).Since B.U.vm B.U.heap.size)
    (P : ∃ L, (Q' v B.U.heap ∧ Fr n0 L ∧ h.size ≤ B.U.heap.size ∧ Old Z n0 B.U.heap) ∧ B.locs = locs ++ L ∧ B.cells = cells + rm'.cells ∧ B.slots = slots + rm'.slots) (st1 : ∀ target, Steps κ.p.tables κ.e κ.below (B.U.setTop (mkF κ.m pc' Ls (v.toList ++ rest))) target → Steps κ.p.tables κ.e κ.below U0 target) :
    ∃ s₂ o, Steps κ.p.tables κ.e κ.below U0 s₂ ∧ s₂.status = .running ∧ Ended s₂ κ.below o ∧ ∃ v L, o = .returned v ∧ (κ.Q v s₂.heap ∧ Fr κ.n0 L ∧ κ.s.heap.size ≤ s₂.heap.size ∧ Old κ.Z κ.n0 s₂.heap) ∧ Ends κ.wide κ.s o s₂ L κ.R.cells κ.R.slots := by
  obtain ⟨L, ⟨q1, q2, q3, q4⟩, e1, e2, e3⟩ := P
  rw [e1, e2, e3] at X'
  obtain ⟨⟨k0, hS0, hk0⟩, -⟩ := A
  have hA : κ.adm B.U.vm B.U.heap.size := ⟨⟨_, hS0.trans hS (Nat.le_trans hk0 q3), Nat.le_refl _⟩, (fun w => by rw [hwd] at w; cases w), by rw [hJ]; trivial⟩
  obtain ⟨s₂, o, hs, r⟩ := hr v _ q1 q3 B.U _ B.U.vm X' hA (State.Warmed39.trans (t := κ.s.setVm vm0) hZ hS.1) (N.app (by rw [K.en]; exact q2)) (K.oldS q4) rfl
  exact ⟨s₂, o, st1 _ hs, r⟩
theorem ldcStr {text : String} {n : Nat} (K : Ok κ l Z n0 own nm bytes maxL ret rm Q) (hwd : κ.wide = true) (hJ : κ.J = fun _ => True) (hd : decode bytes pc = .ok (.ldc index, 2)) (w : (Cond.stringLink own index text).before a0 Z = true) (wS : ∀ a ∈ Bundle.stringAtoms, a.before a0 Z = true) (hn : 4 * text.toList.length ≤ n) (hbig : n ≤ 536870912) (hc : cells + 2 ≤ rm.cells) (hl : slots + (n + 4) ≤ rm.slots)
    (hr : ∀ a h', Ext h h' → Go κ h' (cells + 2) (slots + (n + 4)) (pc + 2) Ls (.ref a :: st)) : Go κ h cells slots pc Ls st := fun T locs vm0 X A hZ N B eT => by
  obtain ⟨⟨k0, hS0, hk0⟩, -⟩ := id A
  obtain ⟨a, T', h', k1, X', e', E, hS', hk1, hZ', -, st1⟩ := ldcS X K.exec (K.warm hZ) (K.ko A) w wS eT hS0 hk0 (g := mkF κ.m pc Ls st) rfl (hb K.kb hd) hn hbig (by rw [K.eR]; exact hc) (by rw [K.eR]; exact hl)
  obtain ⟨s₂, o, hs, r⟩ := hr a h' E T' locs T'.vm X' ⟨⟨k1, hS', hk1⟩, (fun w => by rw [hwd] at w; cases w), by rw [hJ]; trivial⟩ (by rw [K.eZ]; exact hZ') N (B.ext E) e'
  exact ⟨s₂, o, st1 _ hs, r⟩

theorem invSW (K : Ok κ l Z n0 own nm bytes maxL ret rm Q) (hwd : κ.wide = true) (hJ : κ.J = fun _ => True) (C : Con true l Z n0 y bytes' maxL' ret' rm' argsL.toArray h Q') (hd : decode bytes pc = .ok (.invokestatic index, 3))
    (w1 : (Cond.methodLink own index y).before a0 Z = true) (w2 : (Cond.static y).before a0 Z = true) (w3 : (Cond.initialized y.cls).before a0 Z = true) (w4 : (Cond.code y bytes' maxL' ret').before a0 Z = true) (hy : y.cls ≠ "java/lang/invoke/MethodHandle" ∧ y.cls ≠ "java/lang/invoke/VarHandle")
    (hlen : ∀ sig, parseMethodDescriptor y.desc = some sig → argsL.length = sig.parameters.length) (hst : st = argsL.reverse ++ rest) (hsz : Ls.size = maxL) (hW : (rest.map fun v => v.category).sum ≤ W) (hf : rm'.frames + 1 ≤ rm.frames) (hl : W + (maxL' + 11) + rm'.locals ≤ rm.locals) (hc : cells + rm'.cells ≤ rm.cells) (hs : slots + rm'.slots ≤ rm.slots)
    (hr : ∀ v h', Q' v h' → h.size ≤ h'.size → Go κ h' (cells + rm'.cells) (slots + rm'.slots) (pc + 3) Ls (v.toList ++ rest)) : Go κ h cells slots pc Ls st := fun T locs vm0 X A hZ N OB eT => by
  have hZ' := K.warm hZ
  have eR := K.eR
  obtain ⟨v, vm₁, B, -, X', hS, -, P, st1⟩ := callSS X K.exec (K.ko A) (mvT hZ' w1) (mvT hZ' w2) (mvT hZ' w3) (mvT hZ' w4) hy (backOfS (W := W) (R := κ.R) (rm := rm') (Q := fun v h' L => Q' v h' ∧ Fr n0 L ∧ h.size ≤ h'.size ∧ Old Z n0 h') (by rw [K.el]; exact C.wide (K.old OB)) hZ' w4 w3 (by rw [eR]; exact hf) (by rw [eR]; exact hl)) (g := mkF κ.m pc Ls st) rfl (by rw [K.kl]; exact hsz) hlen hst (W0 hW) (hb K.kb hd)
    (fun _ _ => ⟨rfl, eT, by rw [eR]; exact hc, by rw [eR]; exact hs⟩)
  exact finishW K hwd hJ (T := T) A hZ N hr X' hS P (fun _ k => st1.trans k)
theorem invVW {CC : String} {b : Addr} (K : Ok κ l Z n0 own nm bytes maxL ret rm Q) (hwd : κ.wide = true) (hJ : κ.J = fun _ => True) (C : Con true l Z n0 z bytes' maxL' ret' rm' (.ref b :: argsL).toArray h Q') (hd : decode bytes pc = .ok (.invokevirtual index, 3)) (E : Exa Z h b CC)
    (w1 : (Cond.methodLink own index y).before a0 Z = true) (w2 : (Cond.declares y).before a0 Z = true) (hnf : ∀ s : State, Z.Warmed39 s.vm → NotFace s y) (w3 : (Cond.selects CC y z).before a0 Z = true) (w4 : (Cond.instanceMethod z).before a0 Z = true) (w5 : (Cond.code z bytes' maxL' ret').before a0 Z = true) (w6 : (Cond.initialized z.cls).before a0 Z = true)
    (hy : y.cls ≠ "java/lang/invoke/MethodHandle" ∧ y.cls ≠ "java/lang/invoke/VarHandle")
    (hlen : ∀ sig, parseMethodDescriptor y.desc = some sig → argsL.length = sig.parameters.length) (hst : st = argsL.reverse ++ .ref b :: rest) (hsz : Ls.size = maxL) (hW : (rest.map fun v => v.category).sum ≤ W) (hf : rm'.frames + 1 ≤ rm.frames) (hl : W + (maxL' + 11) + rm'.locals ≤ rm.locals) (hc : cells + rm'.cells ≤ rm.cells) (hs : slots + rm'.slots ≤ rm.slots)
    (hr : ∀ v h', Q' v h' → h.size ≤ h'.size → Go κ h' (cells + rm'.cells) (slots + rm'.slots) (pc + 3) Ls (v.toList ++ rest)) : Go κ h cells slots pc Ls st := fun T locs vm0 X A hZ N OB eT => by
  have hZ' := K.warm hZ
  have eR := K.eR
  obtain ⟨cB, kB, q1, -, q3⟩ := isOf hZ' eT E
  obtain ⟨v, vm₁, B, -, X', hS, -, P, st1⟩ := X.virtualBackS K.exec (y := y) (z := z) (K.ko A) (mvT hZ' w1) (mvT hZ' w2) (hnf _ hZ') (mvT hZ' w3) (mvT hZ' w4) hy (backOfS (W := W) (R := κ.R) (rm := rm') (Q := fun v h' L => Q' v h' ∧ Fr n0 L ∧ h.size ≤ h'.size ∧ Old Z n0 h') (by rw [K.el]; exact C.wide (K.old OB)) hZ' w5 w6 (by rw [eR]; exact hf) (by rw [eR]; exact hl)) q1 q3 (g := mkF κ.m pc Ls st) rfl (by rw [K.kl]; exact hsz) (Steps.refl _) hlen hst (W0 hW) (hb K.kb hd)
    (fun _ _ => ⟨rfl, eT, by rw [eR]; exact hc, by rw [eR]; exact hs⟩)
  exact finishW K hwd hJ (T := T) A hZ N hr X' hS P (fun _ k => st1.trans k)
theorem invVUW {CC owner : String} {b : Addr} (K : Ok κ l Z n0 own nm bytes maxL ret rm Q) (hwd : κ.wide = true) (hJ : κ.J = fun _ => True) (C : Con true l Z n0 z bytes' maxL' ret' rm' (.ref b :: argsL).toArray h Q') (hd : decode bytes pc = .ok (.invokevirtual index, 3)) (E : Exa Z h b CC)
    (w1 : (Cond.methodLink own index y).before a0 Z = true) (w2 : (Cond.sameMethod y.cls owner y.name y.desc).before a0 Z = true) (w2' : (Cond.declares ⟨owner, y.name, y.desc⟩).before a0 Z = true) (hy : owner ≠ "java/lang/invoke/MethodHandle" ∧ owner ≠ "java/lang/invoke/VarHandle")
    (w3 : (Cond.selects CC y z).before a0 Z = true) (w4 : (Cond.instanceMethod z).before a0 Z = true) (w5 : (Cond.code z bytes' maxL' ret').before a0 Z = true) (w6 : (Cond.initialized z.cls).before a0 Z = true)
    (hlen : ∀ sig, parseMethodDescriptor y.desc = some sig → argsL.length = sig.parameters.length) (hst : st = argsL.reverse ++ .ref b :: rest) (hsz : Ls.size = maxL) (hW : (rest.map fun v => v.category).sum ≤ W) (hf : rm'.frames + 1 ≤ rm.frames) (hl : W + (maxL' + 11) + rm'.locals ≤ rm.locals) (hc : cells + rm'.cells ≤ rm.cells) (hs : slots + rm'.slots ≤ rm.slots)
    (hr : ∀ v h', Q' v h' → h.size ≤ h'.size → Go κ h' (cells + rm'.cells) (slots + rm'.slots) (pc + 3) Ls (v.toList ++ rest)) : Go κ h cells slots pc Ls st := fun T locs vm0 X A hZ N OB eT => by
  have hZ' := K.warm hZ
  have eR := K.eR
  obtain ⟨cB, kB, q1, -, q3⟩ := isOf hZ' eT E
  obtain ⟨v, vm₁, B, -, X', hS, -, P, st1⟩ := X.virtualBackUpS K.exec (x := y) (y := z) (K.ko A) (mvT hZ' w1) (mvT hZ' w2) (mvT hZ' w2') hy (mvT hZ' w3) (mvT hZ' w4) (backOfS (W := W) (R := κ.R) (rm := rm') (Q := fun v h' L => Q' v h' ∧ Fr n0 L ∧ h.size ≤ h'.size ∧ Old Z n0 h') (by rw [K.el]; exact C.wide (K.old OB)) hZ' w5 w6 (by rw [eR]; exact hf) (by rw [eR]; exact hl)) q1 q3 (g := mkF κ.m pc Ls st) rfl (by rw [K.kl]; exact hsz) (Steps.refl _) hlen hst (W0 hW) (hb K.kb hd)
    (fun _ _ => ⟨rfl, eT, by rw [eR]; exact hc, by rw [eR]; exact hs⟩)
  exact finishW K hwd hJ (T := T) A hZ N hr X' hS P (fun _ k => st1.trans k)
theorem invPW {CC : String} {b : Addr} (K : Ok κ l Z n0 own nm bytes maxL ret rm Q) (hwd : κ.wide = true) (hJ : κ.J = fun _ => True) (C : Con true l Z n0 y bytes' maxL' ret' rm' (.ref b :: argsL).toArray h Q') (hd : decode bytes pc = .ok (.invokevirtual index, 3)) (E : Exa Z h b CC)
    (w1 : (Cond.methodLink own index y).before a0 Z = true) (w2 : (Cond.instanceMethod y).before a0 Z = true) (w3 : (Cond.selects y.cls y y).before a0 Z = true) (w4 : (Cond.privateMethod y).before a0 Z = true) (w5 : (Cond.code y bytes' maxL' ret').before a0 Z = true) (w6 : (Cond.initialized y.cls).before a0 Z = true)
    (hy : y.cls ≠ "java/lang/invoke/MethodHandle" ∧ y.cls ≠ "java/lang/invoke/VarHandle")
    (hlen : ∀ sig, parseMethodDescriptor y.desc = some sig → argsL.length = sig.parameters.length) (hst : st = argsL.reverse ++ .ref b :: rest) (hsz : Ls.size = maxL) (hW : (rest.map fun v => v.category).sum ≤ W) (hf : rm'.frames + 1 ≤ rm.frames) (hl : W + (maxL' + 11) + rm'.locals ≤ rm.locals) (hc : cells + rm'.cells ≤ rm.cells) (hs : slots + rm'.slots ≤ rm.slots)
    (hr : ∀ v h', Q' v h' → h.size ≤ h'.size → Go κ h' (cells + rm'.cells) (slots + rm'.slots) (pc + 3) Ls (v.toList ++ rest)) : Go κ h cells slots pc Ls st := fun T locs vm0 X A hZ N OB eT => by
  have hZ' := K.warm hZ
  have eR := K.eR
  obtain ⟨cell, hcell, hobj⟩ := E.cell
  obtain ⟨v, vm₁, B, -, X', hS, -, P, st1⟩ := X.privateBackS K.exec (y := y) (K.ko A) (mvT hZ' w1) (mvT hZ' w2) (mvT hZ' w3) (Cond.privateMethod_at (mvP (args := #[]) hZ' w4)) (mvT hZ' w5) hy (backOfS (W := W) (R := κ.R) (rm := rm') (Q := fun v h' L => Q' v h' ∧ Fr n0 L ∧ h.size ≤ h'.size ∧ Old Z n0 h') (by rw [K.el]; exact C.wide (K.old OB)) hZ' w5 w6 (by rw [eR]; exact hf) (by rw [eR]; exact hl)) (g := mkF κ.m pc Ls st) rfl (by rw [K.kl]; exact hsz) (Steps.refl _) (a := b) (cell := cell) (by rw [eT]; exact hcell) hobj hlen hst (W0 hW) (hb K.kb hd)
    (fun _ _ => ⟨rfl, eT, by rw [eR]; exact hc, by rw [eR]; exact hs⟩)
  exact finishW K hwd hJ (T := T) A hZ N hr X' hS P (fun _ k => st1.trans k)
theorem invIW {CC : String} {b : Addr} {count : Nat} (K : Ok κ l Z n0 own nm bytes maxL ret rm Q) (hwd : κ.wide = true) (hJ : κ.J = fun _ => True) (C : Con true l Z n0 z bytes' maxL' ret' rm' (.ref b :: argsL).toArray h Q') (hd : decode bytes pc = .ok (.invokeinterface index count, 5)) (E : Exa Z h b CC)
    (w1 : (Cond.methodLink own index y).before a0 Z = true) (w2 : (Cond.declares y).before a0 Z = true) (w2' : (Cond.interfaceMethod y.cls y.cls y.name y.desc).before a0 Z = true) (w3 : (Cond.selects CC y z).before a0 Z = true) (w4 : (Cond.instanceMethod z).before a0 Z = true) (w4' : (Cond.publicMethod z).before a0 Z = true) (w4'' : (Cond.unhidden CC y.name y.desc).before a0 Z = true) (w7 : (Cond.castable CC y.cls).before a0 Z = true)
    (w5 : (Cond.code z bytes' maxL' ret').before a0 Z = true) (w6 : (Cond.initialized z.cls).before a0 Z = true)
    (hy : y.cls ≠ "java/lang/invoke/MethodHandle" ∧ y.cls ≠ "java/lang/invoke/VarHandle")
    (hlen : ∀ sig, parseMethodDescriptor y.desc = some sig → argsL.length = sig.parameters.length) (hst : st = argsL.reverse ++ .ref b :: rest) (hsz : Ls.size = maxL) (hW : (rest.map fun v => v.category).sum ≤ W) (hf : rm'.frames + 1 ≤ rm.frames) (hl : W + (maxL' + 11) + rm'.locals ≤ rm.locals) (hc : cells + rm'.cells ≤ rm.cells) (hs : slots + rm'.slots ≤ rm.slots)
    (hr : ∀ v h', Q' v h' → h.size ≤ h'.size → Go κ h' (cells + rm'.cells) (slots + rm'.slots) (pc + 5) Ls (v.toList ++ rest)) : Go κ h cells slots pc Ls st := fun T locs vm0 X A hZ N OB eT => by
  have hZ' := K.warm hZ
  have eR := K.eR
  obtain ⟨cB, kB, q1, q2, q3⟩ := isOf hZ' eT E
  obtain ⟨v, vm₁, B, -, X', hS, -, P, st1⟩ := X.interfaceBackS K.exec (xi := y) (y := z) (K.ko A) (mvT hZ' w1) (mvT hZ' w2) (Jvm.Free.ULB.iface_rides hZ'.alike w2') (mvT hZ' w3) (mvT hZ' w4) (mvT hZ' w4') (mvT hZ' w4'') (mvT hZ' w7) hy (backOfS (W := W) (R := κ.R) (rm := rm') (Q := fun v h' L => Q' v h' ∧ Fr n0 L ∧ h.size ≤ h'.size ∧ Old Z n0 h') (by rw [K.el]; exact C.wide (K.old OB)) hZ' w5 w6 (by rw [eR]; exact hf) (by rw [eR]; exact hl)) q1 q2 q3 (g := mkF κ.m pc Ls st) rfl (by rw [K.kl]; exact hsz) (Steps.refl _) hlen hst (W0 hW) (hb K.kb hd)
    (fun _ _ => ⟨rfl, eT, by rw [eR]; exact hc, by rw [eR]; exact hs⟩)
  exact finishW K hwd hJ (T := T) A hZ N hr X' hS P (fun _ k => st1.trans k)
theorem invCW {b : Addr} (K : Ok κ l Z n0 own nm bytes maxL ret rm Q) (hwd : κ.wide = true) (hJ : κ.J = fun _ => True) (C : Con true l Z n0 y bytes' maxL' none rm' (.ref b :: argsL).toArray h Q') (hd : decode bytes pc = .ok (.invokespecial index, 3)) (hy1 : y.name = "<init>")
    (w1 : (Cond.methodLink own index y).before a0 Z = true) (w2 : (Cond.instanceMethod y).before a0 Z = true) (w5 : (Cond.code y bytes' maxL' none).before a0 Z = true) (w6 : (Cond.initialized y.cls).before a0 Z = true)
    (hy : y.cls ≠ "java/lang/invoke/MethodHandle" ∧ y.cls ≠ "java/lang/invoke/VarHandle")
    (hlen : ∀ sig, parseMethodDescriptor y.desc = some sig → argsL.length = sig.parameters.length) (hst : st = argsL.reverse ++ .ref b :: rest) (hsz : Ls.size = maxL) (hW : (rest.map fun v => v.category).sum ≤ W) (hf : rm'.frames + 1 ≤ rm.frames) (hl : W + (maxL' + 11) + rm'.locals ≤ rm.locals) (hc : cells + rm'.cells ≤ rm.cells) (hs : slots + rm'.slots ≤ rm.slots)
    (hr : ∀ v h', Q' v h' → h.size ≤ h'.size → Go κ h' (cells + rm'.cells) (slots + rm'.slots) (pc + 3) Ls (v.toList ++ rest)) : Go κ h cells slots pc Ls st := fun T locs vm0 X A hZ N OB eT => by
  have hZ' := K.warm hZ
  have eR := K.eR
  obtain ⟨v, vm₁, B, -, X', hS, -, P, st1⟩ := X.specialBackS K.exec (y := y) hy1 (K.ko A) (mvT hZ' w1) (mvT hZ' w2) (mvT hZ' w5) hy (backOfS (W := W) (R := κ.R) (rm := rm') (Q := fun v h' L => Q' v h' ∧ Fr n0 L ∧ h.size ≤ h'.size ∧ Old Z n0 h') (by rw [K.el]; exact C.wide (K.old OB)) hZ' w5 w6 (by rw [eR]; exact hf) (by rw [eR]; exact hl)) (g := mkF κ.m pc Ls st) rfl (by rw [K.kl]; exact hsz) (Steps.refl _) (a := b) hlen hst (W0 hW) (hb K.kb hd)
    (fun _ _ => ⟨rfl, eT, by rw [eR]; exact hc, by rw [eR]; exact hs⟩)
  exact finishW K hwd hJ (T := T) A hZ N hr X' hS P (fun _ k => st1.trans k)
theorem invCNW {host : String} {b : Addr} (K : Ok κ l Z n0 own nm bytes maxL ret rm Q) (hwd : κ.wide = true) (hJ : κ.J = fun _ => True) (C : Con true l Z n0 y bytes' maxL' none rm' (.ref b :: argsL).toArray h Q') (hd : decode bytes pc = .ok (.invokespecial index, 3)) (hy1 : y.name = "<init>")
    (w1 : (Cond.methodLinkNest own index y host).before a0 Z = true) (w2 : (Cond.instanceMethod y).before a0 Z = true) (w5 : (Cond.code y bytes' maxL' none).before a0 Z = true) (w6 : (Cond.initialized y.cls).before a0 Z = true)
    (hy : y.cls ≠ "java/lang/invoke/MethodHandle" ∧ y.cls ≠ "java/lang/invoke/VarHandle")
    (hlen : ∀ sig, parseMethodDescriptor y.desc = some sig → argsL.length = sig.parameters.length) (hst : st = argsL.reverse ++ .ref b :: rest) (hsz : Ls.size = maxL) (hW : (rest.map fun v => v.category).sum ≤ W) (hf : rm'.frames + 1 ≤ rm.frames) (hl : W + (maxL' + 11) + rm'.locals ≤ rm.locals) (hc : cells + rm'.cells ≤ rm.cells) (hs : slots + rm'.slots ≤ rm.slots)
    (hr : ∀ v h', Q' v h' → h.size ≤ h'.size → Go κ h' (cells + rm'.cells) (slots + rm'.slots) (pc + 3) Ls (v.toList ++ rest)) : Go κ h cells slots pc Ls st := fun T locs vm0 X A hZ N OB eT => by
  have hZ' := K.warm hZ
  have eR := K.eR
  obtain ⟨v, vm₁, B, -, X', hS, -, P, st1⟩ := X.specialBackNestS K.exec (y := y) hy1 (K.ko A) (mvMN hZ' w1) (mvT hZ' w2) (mvT hZ' w5) hy (backOfS (W := W) (R := κ.R) (rm := rm') (Q := fun v h' L => Q' v h' ∧ Fr n0 L ∧ h.size ≤ h'.size ∧ Old Z n0 h') (by rw [K.el]; exact C.wide (K.old OB)) hZ' w5 w6 (by rw [eR]; exact hf) (by rw [eR]; exact hl)) (g := mkF κ.m pc Ls st) rfl (by rw [K.kl]; exact hsz) (Steps.refl _) (a := b) hlen hst (W0 hW) (hb K.kb hd)
    (fun _ _ => ⟨rfl, eT, by rw [eR]; exact hc, by rw [eR]; exact hs⟩)
  exact finishW K hwd hJ (T := T) A hZ N hr X' hS P (fun _ k => st1.trans k)
end Wide
end Jvm.OwnKit
namespace Jvm.OwnKit
open Sem ClassFile Op Lib Jvm.Stand Jvm.Free Jvm.LawKit Jvm.RoadKit
section Exact
variable {κ : Cx} {t : FieldType} {l : Launch} {Z : State} {n0 : Nat} {own nm : String} {bytes : ByteArray} {maxL : Nat} {ret : Option FieldType} {rm : Room} {Q : Option Value → Heap → Prop} {h : Heap} {cells slots pc : Nat} {Ls : Array Slot} {st : List Value} {a0 : Array Value}
variable {y z : MethodName} {bytes' : ByteArray} {maxL' W index : Nat} {ret' : Option FieldType} {rm' : Room} {Q' : Option Value → Heap → Prop} {argsL rest : List Value} {as' : Array Value}
theorem Ok.setJ {J : Vm → Prop} (K : Ok κ l Z n0 own nm bytes maxL ret rm Q) : Ok (κ.setJ J) l Z n0 own nm bytes maxL ret rm Q := K
/-- nothing has been interned since Z -/
def Exact (Z : State) (vm : Vm) : Prop := vm.interned = Z.vm.interned
theorem backOfSE {p : Program} {l : Launch} {e : Env} {R : Room} {s : State} {args : Array Value} {below : List Frame} {y : MethodName} {bytes : ByteArray} {maxL : Nat} {ret : Option FieldType} {rm : Room} {len W : Nat} {as' : Array Value} {Q : Option Value → Heap → List Loc → Prop}
    (hM : MetFree l y (head1 [Cond.code y bytes maxL ret] rm) (fun a U => a = as' ∧ Z.Warmed39 U.vm ∧ U.heap = h ∧ Exact Z U.vm) (fun _ _ _ _ _ => True) (fun _ U o U' => ∃ v L, o = .returned v ∧ Q v U'.heap L ∧ ReturnedEndW U o U' L rm.cells rm.slots))
    (hZ : Z.Warmed39 s.vm) (hi : Exact Z s.vm) (wc : (Cond.code y bytes maxL ret).before a0 Z = true) (wz : (Cond.initialized y.cls).before a0 Z = true) (hf : rm.frames + 1 ≤ R.frames) (hl : W + (maxL + 11) + rm.locals ≤ R.locals) :
    BackS l R p e below s args y len W (fun A a => a = as' ∧ A.U.heap = h ∧ A.cells + rm.cells ≤ R.cells ∧ A.slots + rm.slots ≤ R.slots)
      (fun A _ v B => ∃ L, Q v B.U.heap L ∧ B.locs = A.locs ++ L ∧ B.cells = A.cells + rm.cells ∧ B.slots = A.slots + rm.slots) := by
  exact BackS.of_freeW (bytes := bytes) (maxL := maxL) (ret := ret) (E := fun _ _ o t L k n => k = rm.cells ∧ n = rm.slots ∧ ∃ v, o = .returned v ∧ Q v t.heap L) hM hf hl
    (fun m meth c A a Y hp => have hU : Z.Warmed39 A.U.vm := wtrans hZ Y.warmed
      ⟨by show (Cond.and _ .tt).before a A.U = true; rw [Cond.before_and, mv hU wc]; rfl, mv hU wc, mv hU wz, hp.2.2.1, hp.2.2.2⟩)
    (fun m meth c A a g mk Y hp => ⟨hp.1, wtrans hZ Y.warmed, hp.2.1, Y.warmed.interned_eq.trans hi⟩) (fun _ _ _ _ _ _ _ _ _ => trivial)
    (fun _ _ _ _ ⟨v, L, h1, h2, h3⟩ => ⟨L, _, _, h3, rfl, rfl, v, h1, h2⟩)
    (fun m meth c A a g mk v t L k n Y hp _ _ ⟨e1, e2, v', e3, e4⟩ => by cases e3; subst e1 e2; exact ⟨L, e4, rfl, rfl, rfl⟩)
theorem Con.exact {w : Bool} (C : ConX (Exact Z) w l Z n0 y bytes' maxL' ret' rm' as' h Q') (g : Old Z n0 h) : MetFree l y (head1 [Cond.code y bytes' maxL' ret'] rm') (fun a U => a = as' ∧ Z.Warmed39 U.vm ∧ U.heap = h ∧ Exact Z U.vm) (fun _ _ _ _ _ => True)
    (fun _ U o U' => ∃ v L, o = .returned v ∧ (Q' v U'.heap ∧ Fr n0 L ∧ h.size ≤ U'.heap.size ∧ Old Z n0 U'.heap) ∧ ReturnedEndW U o U' L rm'.cells rm'.slots) := fun p e ha hc hk s m args below hf happ hP hK => by
  obtain ⟨n, o, a1, a2, a3, v, L, e1, ⟨q1, q2, q3⟩, E⟩ := C g [] p e ha hc hk s m args below hf happ hP hK
  exact ⟨n, o, a1, a2, a3, v, L, e1, ⟨q1, q2, hP.2.2.1 ▸ q3.1, q3.2⟩, E.2⟩
theorem finishE (K : Ok κ l Z n0 own nm bytes maxL ret rm Q) (hwd : κ.wide = true) {T U0 : State} {locs : List Loc} {vm0 : Vm} {pc' : Nat} (A : κ.adm vm0 h.size) (hZ : κ.Z.Warmed39 vm0) (N : Fr κ.n0 locs)
    (hr : ∀ v h', Q' v h' → h.size ≤ h'.size → Go (κ.setJ fun _ => True) h' (cells + rm'.cells) (slots + rm'.slots) pc' Ls (v.toList ++ rest)) {v : Option Value} {B : Pt} (X' : Stand κ.p κ.l κ.e κ.R ((κ.s.setVm vm0).setVm B.U.vm) κ.m κ.args κ.below κ.meth κ.c B.U B.locs B.cells B.slots) (hS : (κ.s.setVm vm0).Since B.U.vm B.U.heap.size)
    (P : ∃ L, (Q' v B.U.heap ∧ Fr n0 L ∧ h.size ≤ B.U.heap.size ∧ Old Z n0 B.U.heap) ∧ B.locs = locs ++ L ∧ B.cells = cells + rm'.cells ∧ B.slots = slots + rm'.slots) (st1 : ∀ target, Steps κ.p.tables κ.e κ.below (B.U.setTop (mkF κ.m pc' Ls (v.toList ++ rest))) target → Steps κ.p.tables κ.e κ.below U0 target) :
    ∃ s₂ o, Steps κ.p.tables κ.e κ.below U0 s₂ ∧ s₂.status = .running ∧ Ended s₂ κ.below o ∧ ∃ v L, o = .returned v ∧ (κ.Q v s₂.heap ∧ Fr κ.n0 L ∧ κ.s.heap.size ≤ s₂.heap.size ∧ Old κ.Z κ.n0 s₂.heap) ∧ Ends κ.wide κ.s o s₂ L κ.R.cells κ.R.slots := by
  obtain ⟨L, ⟨q1, q2, q3, q4⟩, e1, e2, e3⟩ := P
  rw [e1, e2, e3] at X'
  obtain ⟨⟨k0, hS0, hk0⟩, -⟩ := A
  have hA : (κ.setJ fun _ => True).adm B.U.vm B.U.heap.size := ⟨⟨_, hS0.trans hS (Nat.le_trans hk0 q3), Nat.le_refl _⟩, (fun w => by rw [show (κ.setJ fun _ => True).wide = κ.wide from rfl, hwd] at w; cases w), trivial⟩
  obtain ⟨s₂, o, hs, r⟩ := hr v _ q1 q3 B.U _ B.U.vm X' hA (State.Warmed39.trans (t := κ.s.setVm vm0) hZ hS.1) (N.app (by rw [K.en]; exact q2)) (K.oldS q4) rfl
  exact ⟨s₂, o, st1 _ hs, r⟩
theorem invSE (K : Ok κ l Z n0 own nm bytes maxL ret rm Q) (hwd : κ.wide = true) (hE : ∀ vm, κ.J vm → Exact Z vm) (C : ConX (Exact Z) true l Z n0 y bytes' maxL' ret' rm' argsL.toArray h Q') (hd : decode bytes pc = .ok (.invokestatic index, 3))
    (w1 : (Cond.methodLink own index y).before a0 Z = true) (w2 : (Cond.static y).before a0 Z = true) (w3 : (Cond.initialized y.cls).before a0 Z = true) (w4 : (Cond.code y bytes' maxL' ret').before a0 Z = true) (hy : y.cls ≠ "java/lang/invoke/MethodHandle" ∧ y.cls ≠ "java/lang/invoke/VarHandle")
    (hlen : ∀ sig, parseMethodDescriptor y.desc = some sig → argsL.length = sig.parameters.length) (hst : st = argsL.reverse ++ rest) (hsz : Ls.size = maxL) (hW : (rest.map fun v => v.category).sum ≤ W) (hf : rm'.frames + 1 ≤ rm.frames) (hl : W + (maxL' + 11) + rm'.locals ≤ rm.locals) (hc : cells + rm'.cells ≤ rm.cells) (hs : slots + rm'.slots ≤ rm.slots)
    (hr : ∀ v h', Q' v h' → h.size ≤ h'.size → Go (κ.setJ fun _ => True) h' (cells + rm'.cells) (slots + rm'.slots) (pc + 3) Ls (v.toList ++ rest)) : Go κ h cells slots pc Ls st := fun T locs vm0 X A hZ N OB eT => by
  have hZ' := K.warm hZ
  have eR := K.eR
  obtain ⟨v, vm₁, B, -, X', hS, -, P, st1⟩ := callSS X K.exec (K.ko A) (mvT hZ' w1) (mvT hZ' w2) (mvT hZ' w3) (mvT hZ' w4) hy (backOfSE (W := W) (R := κ.R) (rm := rm') (Q := fun v h' L => Q' v h' ∧ Fr n0 L ∧ h.size ≤ h'.size ∧ Old Z n0 h') (by rw [K.el]; exact Con.exact C (K.old OB)) hZ' (hE _ A.2.2) w4 w3 (by rw [eR]; exact hf) (by rw [eR]; exact hl)) (g := mkF κ.m pc Ls st) rfl (by rw [K.kl]; exact hsz) hlen hst (W0 hW) (hb K.kb hd)
    (fun _ _ => ⟨rfl, eT, by rw [eR]; exact hc, by rw [eR]; exact hs⟩)
  exact finishE K hwd (T := T) A hZ N hr X' hS P (fun _ k => st1.trans k)
theorem invCE {b : Addr} (K : Ok κ l Z n0 own nm bytes maxL ret rm Q) (hwd : κ.wide = true) (hE : ∀ vm, κ.J vm → Exact Z vm) (C : ConX (Exact Z) true l Z n0 y bytes' maxL' none rm' (.ref b :: argsL).toArray h Q') (hd : decode bytes pc = .ok (.invokespecial index, 3)) (hy1 : y.name = "<init>")
    (w1 : (Cond.methodLink own index y).before a0 Z = true) (w2 : (Cond.instanceMethod y).before a0 Z = true) (w5 : (Cond.code y bytes' maxL' none).before a0 Z = true) (w6 : (Cond.initialized y.cls).before a0 Z = true)
    (hy : y.cls ≠ "java/lang/invoke/MethodHandle" ∧ y.cls ≠ "java/lang/invoke/VarHandle")
    (hlen : ∀ sig, parseMethodDescriptor y.desc = some sig → argsL.length = sig.parameters.length) (hst : st = argsL.reverse ++ .ref b :: rest) (hsz : Ls.size = maxL) (hW : (rest.map fun v => v.category).sum ≤ W) (hf : rm'.frames + 1 ≤ rm.frames) (hl : W + (maxL' + 11) + rm'.locals ≤ rm.locals) (hc : cells + rm'.cells ≤ rm.cells) (hs : slots + rm'.slots ≤ rm.slots)
    (hr : ∀ v h', Q' v h' → h.size ≤ h'.size → Go (κ.setJ fun _ => True) h' (cells + rm'.cells) (slots + rm'.slots) (pc + 3) Ls (v.toList ++ rest)) : Go κ h cells slots pc Ls st := fun T locs vm0 X A hZ N OB eT => by
  have hZ' := K.warm hZ
  have eR := K.eR
  obtain ⟨v, vm₁, B, -, X', hS, -, P, st1⟩ := X.specialBackS K.exec (y := y) hy1 (K.ko A) (mvT hZ' w1) (mvT hZ' w2) (mvT hZ' w5) hy (backOfSE (W := W) (R := κ.R) (rm := rm') (Q := fun v h' L => Q' v h' ∧ Fr n0 L ∧ h.size ≤ h'.size ∧ Old Z n0 h') (by rw [K.el]; exact Con.exact C (K.old OB)) hZ' (hE _ A.2.2) w5 w6 (by rw [eR]; exact hf) (by rw [eR]; exact hl)) (g := mkF κ.m pc Ls st) rfl (by rw [K.kl]; exact hsz) (Steps.refl _) (a := b) hlen hst (W0 hW) (hb K.kb hd)
    (fun _ _ => ⟨rfl, eT, by rw [eR]; exact hc, by rw [eR]; exact hs⟩)
  exact finishE K hwd (T := T) A hZ N hr X' hS P (fun _ k => st1.trans k)
/-- ldc of a constant whose text the law's words know, read, where nothing has been interned yet -/
theorem ldcLit {EL : List (String × Nat)} {text : String} {vs : List Value} {z : Int32} {n : Nat} (K : Ok κ l Z n0 own nm bytes maxL ret rm Q) (hwd : κ.wide = true) (hE : ∀ vm, κ.J vm → Exact Z vm) (hd : decode bytes pc = .ok (.ldc index, 2)) (w : (Cond.stringLink own index text).before a0 Z = true) (wS : ∀ a ∈ Bundle.stringAtoms, a.before a0 Z = true)
    (hEL : EW Z a0 EL) (hmem : (own, index) ∈ EL) (hCH : CHv Z EL Z.vm Z.heap) (ht : (∀ c ∈ text.toList, c.toNat < 256) ∧ text.toList.map (fun c => Value.int (Jvm.Lit.byteI c.toNat.toUInt16)) = vs) (hz : z.toInt = vs.length) (hn : 4 * text.toList.length ≤ n) (hbig : n ≤ 536870912) (hc : cells + 2 ≤ rm.cells) (hl : slots + (n + 4) ≤ rm.slots)
    (hr : ∀ a b k h', Ext h h' → Exa Z h' a "java/lang/String" → Fld Z h' a "java/lang/String" "coder" "B" (.int 0) → Fld Z h' a "java/lang/String" "value" "[B" (.ref b) → Av Z h' b k .byte vs → Go (κ.setJ fun vm => Lit (κ.s.setVm vm) own index a) h' (cells + 2) (slots + (n + 4)) (pc + 2) Ls (.ref a :: st)) : Go κ h cells slots pc Ls st := fun T locs vm0 X A hZ N B eT => by
  obtain ⟨⟨k0, hS0, hk0⟩, -, hj⟩ := id A
  have B' := K.old B
  have hZ' : Z.Warmed39 vm0 := K.warm hZ
  have e0 : (0 : Int32).toInt = 0 := rfl
  have H : CHv Z EL vm0 h := (CHv.later (vm := Z.vm) (h := Z.heap) (State.Warmed39.refl Z) (hW := hZ') hEL B'.2 (Or.inl (hE _ hj)) hCH).1
  obtain ⟨a, T', h', k1, b, k, X', e', E, hS', hk1, hW', -, EX, FC, FV, AV, -, -, -, LT, -, st1⟩ := ldcCH X K.exec hZ' (K.ko A) w wS eT hS0 hk0 hEL hmem H (z := z) ht (by rw [Int32.lt_iff_toInt_lt, e0]; omega) (by show z.toInt.toNat = _; omega) (g := mkF κ.m pc Ls st) rfl (hb K.kb hd) hn hbig (by rw [K.eR]; exact hc) (by rw [K.eR]; exact hl)
  obtain ⟨s₂, o, hs, r⟩ := hr a b k h' E EX FC FV (Av.of_arv AV hz) T' locs T'.vm X' ⟨⟨k1, hS', hk1⟩, (fun w => by have w' : κ.wide = false := w; rw [hwd] at w'; cases w'), LT⟩ (by show κ.Z.Warmed39 _; rw [K.eZ]; exact hW') N (B.ext E) e'
  exact ⟨s₂, o, st1 _ hs, r⟩
theorem litRef {S : State} {args : Array Value} {a : Addr} {text : String} (r : Lit S own index a) (w2 : (Cond.stringLink own index text).before args S = true) : (Cond.stringRef own index text).before args S = true ∧ (Term.string own index).eval args S none [] S = some (.ref a) := by
  unfold Lit at r
  have r0 := r
  constructor
  · cases hc : S.vm.findClass own with
    | none => simp [Cond.before, Cond.holds, Cond.value, hc] at w2
    | some c =>
      simp [Cond.before, Cond.holds, Cond.value, hc, r] at w2 ⊢
      exact w2.1
  · simp only [State.resolvedAt?, Option.bind_eq_bind] at r
    simp only [Term.eval, Option.bind_eq_bind]
    cases h1 : S.vm.findClass own with
    | none => simp [h1] at r
    | some cc =>
      cases h2 : S.vm.classes[cc]? with
      | none => simp [h1, h2] at r
      | some kk => simp only [h1, h2, Option.bind_some] at r ⊢; rw [r]; rfl
theorem ldcLit2 {a : Addr} {text : String} (K : Ok κ l Z n0 own nm bytes maxL ret rm Q) (hJ : ∀ vm, κ.J vm → Lit (κ.s.setVm vm) own index a) (hd : decode bytes pc = .ok (.ldc index, 2)) (w : (Cond.stringLink own index text).before a0 Z = true) (hr : Go κ h cells slots (pc + 2) Ls (.ref a :: st)) : Go κ h cells slots pc Ls st := fun T locs vm0 X A hZ N B eT => by
  have hZ' := K.warm hZ
  have r := hJ _ A.2.2
  have w2 : (Cond.stringLink own index text).before κ.args (κ.s.setVm vm0) = true := mvS hZ' w
  obtain ⟨w3, hev⟩ := litRef r w2
  obtain ⟨s₂, o, hs, rr⟩ := hr T locs vm0 X A hZ N B eT
  exact ⟨s₂, o, X.ldcString K.exec (K.ko A) w3 hev (g := mkF κ.m pc Ls st) rfl (hb K.kb hd) _ hs, rr⟩
/-- an array is no String -/
theorem av_ne {a b : Addr} {k : ClassId} {ty : FieldType} {vs : List Value} {n : Nat} {C : String} (A : Av Z h b k ty vs) (E : Exa Z h a C) (wi : (Cond.instantiable C n).before a0 Z = true) : b ≠ a := fun e => by
  subst e
  obtain ⟨c, A1, e1, -⟩ := A
  obtain ⟨cell, kk, h1, h2, h3, -⟩ := E
  cases A1.1.symm.trans h1
  obtain ⟨-, k2, q1, comp, q2⟩ := A1.2.1
  obtain ⟨cc, kc, g1, g2, g3, -⟩ := Cond.instantiable_spec wi
  cases g1.symm.trans h2
  cases q1.symm.trans g2
  rw [g3] at q2; cases q2
end Exact
end Jvm.OwnKit
namespace Jvm.Pilot.@@N@@
open Jvm Jvm.ClassFile Sem Op Lib Jvm.Free Jvm.Stand Jvm.LawKit Jvm.RoadKit Bundle Jvm.Pilot.@@N@@.Jvm.D
/-- the byte that stands for a char of a Latin-1 String -/
def own_B (c : Int32) : Value := .int c.toInt8.toInt32
def own_mix (cs : List Int32) (j : Nat) : List Value := (cs.take j).map own_B ++ List.replicate (cs.length - j) (.int 0)
theorem own_mix0 (cs : List Int32) : own_mix cs 0 = List.replicate cs.length (.int 0) := by simp [own_mix]
theorem own_mixN (cs : List Int32) : own_mix cs cs.length = cs.map own_B := by simp [own_mix]
theorem own_mixLen {cs : List Int32} {j : Nat} (h : j ≤ cs.length) : (own_mix cs j).length = cs.length := by simp [own_mix]; omega
theorem own_mixS {cs : List Int32} {j : Nat} {c : Int32} (h : cs[j]? = some c) : (own_mix cs j).set j (own_B c) = own_mix cs (j + 1) := by
  obtain ⟨hj, rfl⟩ := List.getElem?_eq_some_iff.mp h
  refine List.ext_getElem? fun i => ?_
  rw [List.getElem?_set]
  unfold own_mix
  by_cases h1 : j = i
  · subst h1
    rw [if_pos rfl, if_pos (by simp; omega), List.getElem?_append_left (by simp; omega)]
    simp [List.getElem?_take, hj]
  · rw [if_neg h1]
    rcases Nat.lt_or_ge i j with h2 | h2
    · rw [List.getElem?_append_left (by simp; omega), List.getElem?_append_left (by simp; omega)]
      simp [List.getElem?_take, show i < j by omega, show i < j + 1 by omega]
    · rw [List.getElem?_append_right (by simp; omega), List.getElem?_append_right (by simp; omega)]
      simp only [List.length_map, List.length_take, List.getElem?_replicate]
      rw [Nat.min_eq_left (by omega), Nat.min_eq_left (by omega)]
      by_cases h3 : i < cs.length
      · rw [if_pos (by omega), if_pos (by omega)]
      · rw [if_neg (by omega), if_neg (by omega)]
def own_lat (cs : List Int32) : Prop := ∀ c ∈ cs, 0 ≤ c.toInt ∧ c.toInt ≤ 255
theorem own_latAt {cs : List Int32} (h : own_lat cs) {i : Nat} {c : Int32} (q : cs[i]? = some c) : 0 ≤ c.toInt ∧ c.toInt ≤ 255 := h c (List.mem_of_getElem? q)
def QComp (Z : State) (b : Addr) (kb : ClassId) (cs : List Int32) (h0 : Heap) (v : Option Value) (h : Heap) : Prop := ∃ r : Int32, v = some (.int r) ∧ Keep h0 h [b] ∧ 0 ≤ r.toInt ∧ ((r.toInt = cs.length ∧ OwnKit.Av Z h b kb .byte (cs.map own_B)) ∨ (r.toInt < cs.length ∧ ∃ c, cs[r.toInt.toNat]? = some c ∧ 255 < c.toInt))
def QCompL (Z : State) (cs : List Int32) (h0 : Heap) (v : Option Value) (h : Heap) : Prop := ∃ b k, v = some (.ref b) ∧ Keep h0 h [] ∧ h0.size ≤ b ∧ OwnKit.Av Z h b k .byte (cs.map own_B)
def QInt (z : Int32) (h0 : Heap) (v : Option Value) (h : Heap) : Prop := v = some (.int z) ∧ h0 = h
/-- a String made of Latin-1 chars -/
def QStrL (Z : State) (a : Addr) (cs : List Int32) (h0 : Heap) (v : Option Value) (h : Heap) : Prop := ∃ b k, v = none ∧ Keep h0 h [a] ∧ h0.size ≤ b ∧ Fld Z h a "java/lang/String" "value" "[B" (.ref b) ∧ Fld Z h a "java/lang/String" "coder" "B" (.int 0) ∧ OwnKit.Av Z h b k .byte (cs.map own_B)
theorem own_ushr0 : XT.ushr (0 : Int32) (31 : Int32) = 0 := by decide
theorem own_i8 (c : Int32) : c.toInt8.toInt32.toInt8.toInt32 = c.toInt8.toInt32 := by simp
theorem own_ofLen {n : Int32} {k : Nat} (h : n.toInt = k) : Int32.ofNat k = n := by
  have q := n.toInt_lt
  refine Int32.toInt_inj.mp ?_
  rw [show (Int32.ofNat k).toInt = (k : Int) from len_toInt (by omega), h]

def own_L (c : Int32) : Value := .int (c >>> ((0:Int32) &&& 31)).toInt8.toInt32
def own_H (c : Int32) : Value := .int (c >>> ((8:Int32) &&& 31)).toInt8.toInt32
/-- the bytes of a UTF16 String -/
def own_utf : List Int32 → List Value
  | [] => []
  | c :: r => own_L c :: own_H c :: own_utf r
theorem own_utfLen : ∀ cs : List Int32, (own_utf cs).length = 2 * cs.length
  | [] => rfl
  | c :: r => by simp only [own_utf, List.length_cons, own_utfLen r]; omega
theorem own_utfApp : ∀ (xs ys : List Int32), own_utf (xs ++ ys) = own_utf xs ++ own_utf ys
  | [], ys => rfl
  | x :: r, ys => by simp only [own_utf, List.cons_append, own_utfApp r ys]
theorem own_utfAt : ∀ {cs : List Int32} {j : Nat} {c : Int32}, cs[j]? = some c → (own_utf cs)[2 * j]? = some (own_L c) ∧ (own_utf cs)[2 * j + 1]? = some (own_H c)
  | [], j, c, h => by simp at h
  | x :: r, 0, c, h => by cases h; exact ⟨rfl, rfl⟩
  | x :: r, j + 1, c, h => by
    have q := own_utfAt (cs := r) (j := j) (c := c) (by simpa using h)
    have e : 2 * (j + 1) = 2 * j + 2 := by omega
    rw [e]
    exact ⟨q.1, q.2⟩
def own_umix (cs : List Int32) (j : Nat) : List Value := own_utf (cs.take j) ++ List.replicate (2 * (cs.length - j)) (.int 0)
theorem own_umix0 (cs : List Int32) : own_umix cs 0 = List.replicate (2 * cs.length) (.int 0) := by simp [own_umix, own_utf]
theorem own_umixN (cs : List Int32) : own_umix cs cs.length = own_utf cs := by simp [own_umix]
theorem own_umixLen {cs : List Int32} {j : Nat} (h : j ≤ cs.length) : (own_umix cs j).length = 2 * cs.length := by
  rw [own_umix, List.length_append, own_utfLen, List.length_take, List.length_replicate]; omega
theorem own_umixS {cs : List Int32} {j : Nat} {c : Int32} (h : cs[j]? = some c) : ((own_umix cs j).set (2 * j) (own_L c)).set (2 * j + 1) (own_H c) = own_umix cs (j + 1) := by
  obtain ⟨hj, hc⟩ := List.getElem?_eq_some_iff.mp h
  have e1 : 2 * (cs.length - j) = 2 * (cs.length - (j + 1)) + 1 + 1 := by omega
  have e2 : cs.take (j + 1) = cs.take j ++ [c] := by rw [List.take_add_one, h]; rfl
  have e3 : (own_utf (cs.take j)).length = 2 * j := by rw [own_utfLen, List.length_take]; omega
  rw [own_umix, own_umix, e1, e2, own_utfApp, List.replicate_succ, List.replicate_succ]
  rw [List.set_append_right _ _ (by omega), e3, List.set_append_right _ _ (by omega), e3]
  simp [own_utf]
theorem own_get16 {c : Int32} (h0 : 0 ≤ c.toInt) (h1 : c.toInt ≤ 65535) :
   (((((c >>> ((0:Int32) &&& 31)).toInt8.toInt32) &&& 255) <<< ((0:Int32) &&& 31)) ||| ((((c >>> ((8:Int32) &&& 31)).toInt8.toInt32) &&& 255) <<< ((8:Int32) &&& 31))).toUInt32.toUInt16.toUInt32.toInt32 = c := by
  refine Int32.toBitVec_inj.mp ?_
  have e0 : ((0:Int32) &&& 31) = 0 := by decide
  have e8 : ((8:Int32) &&& 31) = 8 := by decide
  have hc : c.toBitVec.toNat < 65536 := by
    have q : c.toInt = c.toBitVec.toInt := rfl
    rw [BitVec.toInt_eq_toNat_cond] at q
    have := c.toBitVec.isLt
    split at q <;> omega
  rw [e0, e8]
  generalize hC : c.toBitVec = C at *
  have s1 : (c >>> (0:Int32)).toBitVec = C.sshiftRight 0 := by rw [Int32.toBitVec_shiftRight, hC]; rfl
  have s2 : (c >>> (8:Int32)).toBitVec = C.sshiftRight 8 := by rw [Int32.toBitVec_shiftRight, hC]; rfl
  generalize c >>> (0:Int32) = c0 at *
  generalize c >>> (8:Int32) = c8 at *
  have t1 : ∀ x : Int32, (x <<< (0:Int32)).toBitVec = x.toBitVec <<< 0 := fun x => by rw [Int32.toBitVec_shiftLeft]; rfl
  have t2 : ∀ x : Int32, (x <<< (8:Int32)).toBitVec = x.toBitVec <<< 8 := fun x => by rw [Int32.toBitVec_shiftLeft]; rfl
  show (BitVec.setWidth 32 (BitVec.setWidth 16 (((c0.toInt8.toInt32 &&& 255) <<< (0 : Int32)) ||| ((c8.toInt8.toInt32 &&& 255) <<< (8 : Int32))).toBitVec)) = C
  refine BitVec.eq_of_getLsbD_eq fun i hi => ?_
  have hm : (255 : Int32).toBitVec = BitVec.ofNat 32 255 := rfl
  simp only [Int32.toBitVec_or, t1, t2, Int32.toBitVec_and, Int8.toBitVec_toInt32, Int32.toBitVec_toInt8, s1, s2, hm, BitVec.getLsbD_setWidth, BitVec.getLsbD_or, BitVec.getLsbD_shiftLeft, BitVec.getLsbD_and, BitVec.getLsbD_signExtend, BitVec.getLsbD_sshiftRight]
  have hbit : ∀ j, 16 ≤ j → C.getLsbD j = false := fun j hj => by
    rw [BitVec.getLsbD, Nat.testBit_lt_two_pow (Nat.lt_of_lt_of_le hc (Nat.pow_le_pow_right (n := 2) (by decide) hj))]
  have h255 : ∀ j, (BitVec.ofNat 32 255).getLsbD j = decide (j < 8) := fun j => by
    rcases Nat.lt_or_ge j 8 with q | q
    · have : ∀ j : Fin 8, (BitVec.ofNat 32 255).getLsbD j.val = true := by decide
      rw [this ⟨j, q⟩, decide_eq_true q]
    · rw [decide_eq_false (by omega), BitVec.getLsbD, Nat.testBit_lt_two_pow]
      exact Nat.lt_of_lt_of_le (by decide : (BitVec.ofNat 32 255).toNat < 2 ^ 8) (Nat.pow_le_pow_right (by decide) q)
  simp only [h255]
  rcases Nat.lt_or_ge i 8 with q | q
  · simp [q, show i < 32 by omega, show i < 16 by omega]
  · rcases Nat.lt_or_ge i 16 with q2 | q2
    · have e : 8 + (i - 8) = i := by omega
      simp [show ¬ i < 8 by omega, q2, show i < 32 by omega, show i - 8 < 8 by omega, show i - 8 < 32 by omega, e]
    · rw [hbit i q2]; simp [show ¬ i < 16 by omega]
theorem own_nat {c : Int32} (h0 : 0 ≤ c.toInt) : c.toInt = (c.toBitVec.toNat : Int) := by
  have q : c.toInt = c.toBitVec.toInt := rfl
  rw [BitVec.toInt_eq_toNat_cond] at q
  have := c.toBitVec.isLt
  split at q <;> omega
theorem own_i16 {c : Int32} (h0 : 0 ≤ c.toInt) (h1 : c.toInt ≤ 65535) : c.toUInt32.toUInt16.toUInt32.toInt32 = c := by
  have q := own_nat h0
  refine Int32.toBitVec_inj.mp ?_
  show (BitVec.setWidth 32 (BitVec.setWidth 16 c.toBitVec)) = c.toBitVec
  refine BitVec.eq_of_toNat_eq ?_
  rw [BitVec.toNat_setWidth, BitVec.toNat_setWidth]
  omega
theorem own_i16R (x : Int32) : 0 ≤ (x.toUInt32.toUInt16.toUInt32.toInt32).toInt ∧ (x.toUInt32.toUInt16.toUInt32.toInt32).toInt ≤ 65535 := by
  show 0 ≤ (BitVec.setWidth 32 (BitVec.setWidth 16 x.toBitVec)).toInt ∧ (BitVec.setWidth 32 (BitVec.setWidth 16 x.toBitVec)).toInt ≤ 65535
  rw [BitVec.toInt_eq_toNat_cond, BitVec.toNat_setWidth, BitVec.toNat_setWidth]
  split <;> omega
/-- a character of an id -/
def own_idP (c : Int32) : Prop := (65 ≤ c.toInt ∧ c.toInt ≤ 90) ∨ (97 ≤ c.toInt ∧ c.toInt ≤ 122) ∨ (48 ≤ c.toInt ∧ c.toInt ≤ 57) ∨ c.toInt = 95 ∨ c.toInt = 46 ∨ c.toInt = 45
theorem own_ofN {c : Int32} {n : Nat} (h : c.toInt = n) (hn : n < 2147483648) : c = Int32.ofNat n := by
  refine Int32.toInt_inj.mp ?_
  rw [h, Int32.toInt_ofNat_of_lt (by simpa using hn)]
theorem own_or32 {c : Int32} (h0 : 0 ≤ c.toInt) : c.toInt ≤ (c ||| 32).toInt := by
  have q := own_nat h0
  have e : (c ||| 32).toBitVec.toNat = c.toBitVec.toNat ||| 32 := by
    rw [Int32.toBitVec_or, BitVec.toNat_or]; rfl
  have l := Nat.left_le_or (n := c.toBitVec.toNat) (m := 32)
  have b : c.toBitVec.toNat ||| 32 < 2 ^ 31 := Nat.or_lt_two_pow (by have := c.toInt_lt; omega) (by decide)
  have q2 : (c ||| 32).toInt = (c ||| 32).toBitVec.toInt := rfl
  rw [BitVec.toInt_eq_toNat_cond, e] at q2
  split at q2 <;> omega
theorem own_low {c : Int32} (h0 : 0 ≤ c.toInt) : (97 ≤ (c ||| 32).toInt ∧ (c ||| 32).toInt ≤ 122) ↔ ((65 ≤ c.toInt ∧ c.toInt ≤ 90) ∨ (97 ≤ c.toInt ∧ c.toInt ≤ 122)) := by
  rcases Int.lt_or_le c.toInt 128 with h | h
  · have D : ∀ n : Fin 128, (97 ≤ (Int32.ofNat n.val ||| 32).toInt ∧ (Int32.ofNat n.val ||| 32).toInt ≤ 122) ↔ ((65 ≤ (Int32.ofNat n.val).toInt ∧ (Int32.ofNat n.val).toInt ≤ 90) ∨ (97 ≤ (Int32.ofNat n.val).toInt ∧ (Int32.ofNat n.val).toInt ≤ 122)) := by decide +kernel
    have e := own_ofN (c := c) (n := c.toInt.toNat) (by omega) (by omega)
    have d := D ⟨c.toInt.toNat, by omega⟩
    rw [← e] at d
    exact d
  · have := own_or32 h0
    omega
theorem own_lat1 {c : Int32} (h0 : 0 ≤ c.toInt) (h1 : c.toInt ≤ 255) : (c.toInt8.toInt32 &&& 255).toUInt32.toUInt16.toUInt32.toInt32 = c := by
  have D : ∀ n : Fin 256, ((Int32.ofNat n.val).toInt8.toInt32 &&& 255).toUInt32.toUInt16.toUInt32.toInt32 = Int32.ofNat n.val := by decide +kernel
  have e := own_ofN (c := c) (n := c.toInt.toNat) (by omega) (by omega)
  have d := D ⟨c.toInt.toNat, by omega⟩
  rw [← e] at d
  exact d
theorem own_shr0 (x : Int32) : x >>> ((0 : Int32) &&& 31) = x := by
  refine Int32.toInt_inj.mp ?_
  rw [c_ishr x 0 0 (by decide)]; simp
theorem own_half {k : Nat} (h : k ≤ 65536) : Int32.ofNat (2 * k) >>> ((1 : Int32) &&& 31) = Int32.ofNat k := by
  refine Int32.toInt_inj.mp ?_
  rw [c_ishr _ 1 1 (by decide), Int32.toInt_ofNat_of_lt (by simp; omega), Int32.toInt_ofNat_of_lt (by simp; omega)]
  simp only [Nat.reducePow]
  omega
theorem own_neg31 {x : Int32} (h : x.toInt < 0) : XT.ushr x 31 = 1 := by
  have q : (XT.ushr x 31).toInt = _ := c_iushr x 31 31 (by decide) (by decide)
  have r := rng32 x
  have e1 : (1 : Int32).toInt = 1 := rfl
  refine Int32.toInt_inj.mp ?_
  rw [q, e1]
  simp only [Nat.reducePow]
  omega
/-- the coder of an array of bytes, by its length -/
theorem own_cfl {n cd : Int32} {L : Nat} (hL : L < 2147483648) (h : (n.toInt = L ∧ cd = 0) ∨ (2 * n.toInt = L ∧ 0 < n.toInt ∧ cd = 1)) : (XT.ushr (n - Int32.ofNat L) 31).toInt8.toInt32 = cd := by
  have eL : (Int32.ofNat L).toInt = L := Int32.toInt_ofNat_of_lt (by simpa using hL)
  rcases h with ⟨h1, rfl⟩ | ⟨h1, h2, rfl⟩
  · have e : Int32.ofNat L = n := Int32.toInt_inj.mp (by rw [eL, h1])
    rw [e, Int32.sub_self]; decide
  · have q := c_isub n (Int32.ofNat L)
    have r := rng32 (n - Int32.ofNat L)
    rw [own_neg31 (by omega)]; decide
/-- r says whether P -/
def own_bit (P : Prop) (r : Int32) : Prop := (P ∧ r = 1) ∨ (¬ P ∧ r = 0)
theorem own_bitEq {P R : Prop} {r s : Int32} (h : own_bit P r) (g : own_bit R s) (e : P ↔ R) : r = s := by
  rcases h with ⟨h1, rfl⟩ | ⟨h1, rfl⟩ <;> rcases g with ⟨g1, rfl⟩ | ⟨g1, rfl⟩
  · rfl
  · exact absurd (e.mp h1) g1
  · exact absurd (e.mpr g1) h1
  · rfl
theorem own_bitMono {P R : Prop} {r : Int32} (h : own_bit P r) (e : P ↔ R) : own_bit R r := h.imp (fun q => ⟨e.mp q.1, q.2⟩) (fun q => ⟨fun x => q.1 (e.mpr x), q.2⟩)
theorem own_bitNar {P : Prop} {r : Int32} (h : own_bit P r) : r &&& 1 = r := by rcases h with ⟨-, rfl⟩ | ⟨-, rfl⟩ <;> decide
theorem own_bit1 {P : Prop} {r : Int32} (h : own_bit P r) : r = 0 ↔ ¬ P := by rcases h with ⟨h1, rfl⟩ | ⟨h1, rfl⟩ <;> simp [h1]
theorem own_mod5 (x : Int32) : 0 ≤ ((x &&& 2147483647) % 5).toInt ∧ ((x &&& 2147483647) % 5).toInt ≤ 4 := by
  have h := (c_irem (x &&& 2147483647) 5 5 rfl).1
  have m : 0 ≤ (x &&& 2147483647).toInt := by
    have e : (x &&& 2147483647).toBitVec.toNat = x.toBitVec.toNat &&& 2147483647 := by rw [Int32.toBitVec_and, BitVec.toNat_and]; rfl
    have q2 : (x &&& 2147483647).toInt = (x &&& 2147483647).toBitVec.toInt := rfl
    have b : x.toBitVec.toNat &&& 2147483647 ≤ 2147483647 := Nat.and_le_right
    rw [BitVec.toInt_eq_toNat_cond, e] at q2
    split at q2 <;> omega
  have := h m
  omega
/-- the law's word against the method's -/
theorem own_final {n c0 c1 c2 c3 : Int32} (h0 : 0 ≤ n.toInt) (h4 : n.toInt ≤ 4) (P : Int32 → Prop) :
    (0 < n.toInt ∧ (n.toInt < 1 ∨ P c0) ∧ (n.toInt < 2 ∨ P c1) ∧ (n.toInt < 3 ∨ P c2) ∧ (n.toInt < 4 ∨ P c3)) ↔ (([c0, c1, c2, c3].take n.toInt.toNat ≠ []) ∧ ∀ c ∈ [c0, c1, c2, c3].take n.toInt.toNat, P c) := by
  generalize n.toInt = z at *
  obtain ⟨k, rfl⟩ := Int.eq_ofNat_of_zero_le h0
  have hk : k = 0 ∨ k = 1 ∨ k = 2 ∨ k = 3 ∨ k = 4 := by omega
  rcases hk with rfl | rfl | rfl | rfl | rfl <;> simp
theorem own_incS {i : Int32} (h : i.toInt < 2147483647) : (i + 1).toInt = i.toInt + 1 := by
  have q := c_iadd i 1
  have r := rng32 (i + 1)
  have r2 := rng32 i
  have e1 : (1 : Int32).toInt = 1 := rfl
  omega
theorem own_dbl {i : Int32} {j : Nat} (h : i.toInt = j) (hj : j ≤ 65536) : (i <<< ((1 : Int32) &&& 31)).toInt = 2 * (j : Int) := by
  have q := c_ishl i 1 1 (by decide)
  have r := rng32 (i <<< ((1 : Int32) &&& 31))
  simp only [Nat.reducePow] at q
  omega
theorem own_chN {c : Int32} (h0 : 0 ≤ c.toInt) (h1 : c.toInt ≤ 65535) : narrow .char (.int c) = .int c := by
  show Value.int (c.toUInt32.toUInt16.toUInt32.toInt32) = .int c
  rw [own_i16 h0 h1]
theorem own_nar {c : Int32} (h : 0 ≤ c.toInt ∧ c.toInt ≤ 65535) : nar .char c = c := own_i16 h.1 h.2
theorem own_len0 {n : Nat} (h : n < 2 ^ 31) : Int32.ofNat n = 0 ↔ n = 0 := by
  constructor
  · intro q
    have r := congrArg Int32.toInt q
    rw [show (Int32.ofNat n).toInt = (n : Int) from len_toInt h] at r
    have e : (0 : Int32).toInt = 0 := rfl
    omega
  · rintro rfl; rfl
def own_chs (cs : List Int32) : Prop := ∀ c ∈ cs, 0 ≤ c.toInt ∧ c.toInt ≤ 65535
/-- b holds cs's chars; cd says how -/
def StrB (Z : State) (h : Heap) (b : Addr) (k : ClassId) (cs : List Int32) (cd : Int32) : Prop := (own_lat cs ∧ cd = 0 ∧ OwnKit.Av Z h b k .byte (cs.map own_B)) ∨ (¬ own_lat cs ∧ cd = 1 ∧ OwnKit.Av Z h b k .byte (own_utf cs))
theorem StrB.ext {Z : State} {h h' : Heap} {b : Addr} {k : ClassId} {cs : List Int32} {cd : Int32} (F : StrB Z h b k cs cd) (E : Ext h h') : StrB Z h' b k cs cd := F.imp (fun q => ⟨q.1, q.2.1, q.2.2.ext E⟩) (fun q => ⟨q.1, q.2.1, q.2.2.ext E⟩)
theorem StrB.keep {Z : State} {h h' : Heap} {b : Addr} {k : ClassId} {cs : List Int32} {cd : Int32} {ws : List Addr} (F : StrB Z h b k cs cd) (K : Keep h h' ws) (q : b ∉ ws) : StrB Z h' b k cs cd := F.imp (fun r => ⟨r.1, r.2.1, r.2.2.keep K q⟩) (fun r => ⟨r.1, r.2.1, r.2.2.keep K q⟩)
theorem StrB.other {Z : State} {h h' : Heap} {a b : Addr} {k : ClassId} {cs : List Int32} {cd : Int32} {sl : Nat} {v : Value} (F : StrB Z h b k cs cd) (W : Wr h h' a sl v) (q : b ≠ a) : StrB Z h' b k cs cd := F.imp (fun r => ⟨r.1, r.2.1, r.2.2.other W q⟩) (fun r => ⟨r.1, r.2.1, r.2.2.other W q⟩)
theorem StrB.lt {Z : State} {h : Heap} {b : Addr} {k : ClassId} {cs : List Int32} {cd : Int32} (F : StrB Z h b k cs cd) : b < h.size := F.elim (fun q => q.2.2.lt) (fun q => q.2.2.lt)
/-- a is a String of the chars cs -/
def Str (Z : State) (h : Heap) (a : Addr) (cs : List Int32) : Prop := ∃ b k cd, Exa Z h a "java/lang/String" ∧ Fld Z h a "java/lang/String" "value" "[B" (.ref b) ∧ Fld Z h a "java/lang/String" "coder" "B" (.int cd) ∧ StrB Z h b k cs cd
def QDbl (n : Int32) (h0 : Heap) (v : Option Value) (h : Heap) : Prop := ∃ z : Int32, v = some (.int z) ∧ z.toInt = 2 * n.toInt ∧ h0 = h
def QBytes (Z : State) (n0 : Nat) (vs : List Value) (h0 : Heap) (v : Option Value) (h : Heap) : Prop := ∃ b k, v = some (.ref b) ∧ Keep h0 h [] ∧ h0.size ≤ b ∧ n0 ≤ b ∧ OwnKit.Av Z h b k .byte vs
theorem StrB.cd {Z : State} {h : Heap} {b : Addr} {k : ClassId} {cs : List Int32} {cd : Int32} (F : StrB Z h b k cs cd) : cd = 0 ∨ cd = 1 := F.imp (fun q => q.2.1) (fun q => q.2.1)
theorem Str.exa {Z : State} {h : Heap} {a : Addr} {cs : List Int32} (S : Str Z h a cs) : Exa Z h a "java/lang/String" := by obtain ⟨b, k, cd, E, -⟩ := S; exact E
def own_le (cs : List Int32) (j : Nat) : Prop := ∀ c ∈ cs.take j, c.toInt ≤ 255
theorem own_leS {cs : List Int32} {j : Nat} {c : Int32} (h : own_le cs j) (q : cs[j]? = some c) (r : c.toInt ≤ 255) : own_le cs (j + 1) := by
  unfold own_le
  rw [List.take_add_one, q]
  intro x hx
  rcases List.mem_append.mp hx with y | y
  · exact h x y
  · have e : x = c := by simpa using y
    rw [e]; exact r
theorem own_leN {cs : List Int32} (hc : own_chs cs) (h : own_le cs cs.length) : own_lat cs := fun c q => ⟨(hc c q).1, h c (by rw [List.take_length]; exact q)⟩
def QComp16 (Z : State) (b : Addr) (kb : ClassId) (cs : List Int32) (h0 : Heap) (v : Option Value) (h : Heap) : Prop := ∃ r : Int32, v = some (.int r) ∧ Keep h0 h [b] ∧ 0 ≤ r.toInt ∧ ((r.toInt = cs.length ∧ own_lat cs ∧ OwnKit.Av Z h b kb .byte (cs.map own_B)) ∨ (r.toInt < cs.length ∧ ∃ c, cs[r.toInt.toNat]? = some c ∧ 255 < c.toInt))
def QCompG (Z : State) (cs : List Int32) (h0 : Heap) (v : Option Value) (h : Heap) : Prop := ∃ b k cd, v = some (.ref b) ∧ Keep h0 h [] ∧ h0.size ≤ b ∧ StrB Z h b k cs cd
/-- the String a has been made of cs -/
def QStr (Z : State) (a : Addr) (cs : List Int32) (h0 : Heap) (v : Option Value) (h : Heap) : Prop := v = none ∧ Str Z h a cs
def QNone (h0 : Heap) (v : Option Value) (h : Heap) : Prop := v = none ∧ h0 = h
def QBit (p : Prop) (h0 : Heap) (v : Option Value) (h : Heap) : Prop := ∃ r : Int32, v = some (.int r) ∧ own_bit p r ∧ h0 = h
def QPut (Z : State) (b : Addr) (k : ClassId) (vs : List Value) (h0 : Heap) (v : Option Value) (h : Heap) : Prop := v = none ∧ Keep h0 h [b] ∧ OwnKit.Av Z h b k .byte vs

theorem d_jdk_52m21_0 : decode jdk_52_method_21_code 0 = .ok (.iconst 0, 1) := by decide +kernel
theorem d_jdk_52m21_1 : decode jdk_52_method_21_code 1 = .ok (.istore 5, 2) := by decide +kernel
theorem d_jdk_52m21_3 : decode jdk_52_method_21_code 3 = .ok (.iload 5, 2) := by decide +kernel
theorem d_jdk_52m21_5 : decode jdk_52_method_21_code 5 = .ok (.iload 4, 2) := by decide +kernel
theorem d_jdk_52m21_7 : decode jdk_52_method_21_code 7 = .ok (.if_icmp .ge 37, 3) := by decide +kernel
theorem d_jdk_52m21_10 : decode jdk_52_method_21_code 10 = .ok (.aload_n 0, 1) := by decide +kernel
theorem d_jdk_52m21_11 : decode jdk_52_method_21_code 11 = .ok (.iload_n 1, 1) := by decide +kernel
theorem d_jdk_52m21_12 : decode jdk_52_method_21_code 12 = .ok (.caload, 1) := by decide +kernel
theorem d_jdk_52m21_13 : decode jdk_52_method_21_code 13 = .ok (.istore 6, 2) := by decide +kernel
theorem d_jdk_52m21_15 : decode jdk_52_method_21_code 15 = .ok (.iload 6, 2) := by decide +kernel
theorem d_jdk_52m21_17 : decode jdk_52_method_21_code 17 = .ok (.sipush 255, 3) := by decide +kernel
theorem d_jdk_52m21_20 : decode jdk_52_method_21_code 20 = .ok (.if_icmp .le 6, 3) := by decide +kernel
theorem d_jdk_52m21_23 : decode jdk_52_method_21_code 23 = .ok (.iload 5, 2) := by decide +kernel
theorem d_jdk_52m21_25 : decode jdk_52_method_21_code 25 = .ok (.ireturn, 1) := by decide +kernel
theorem d_jdk_52m21_26 : decode jdk_52_method_21_code 26 = .ok (.aload_n 2, 1) := by decide +kernel
theorem d_jdk_52m21_27 : decode jdk_52_method_21_code 27 = .ok (.iload_n 3, 1) := by decide +kernel
theorem d_jdk_52m21_28 : decode jdk_52_method_21_code 28 = .ok (.iload 6, 2) := by decide +kernel
theorem d_jdk_52m21_30 : decode jdk_52_method_21_code 30 = .ok (.i2b, 1) := by decide +kernel
theorem d_jdk_52m21_31 : decode jdk_52_method_21_code 31 = .ok (.bastore, 1) := by decide +kernel
theorem d_jdk_52m21_32 : decode jdk_52_method_21_code 32 = .ok (.iinc 1 1, 3) := by decide +kernel
theorem d_jdk_52m21_35 : decode jdk_52_method_21_code 35 = .ok (.iinc 3 1, 3) := by decide +kernel
theorem d_jdk_52m21_38 : decode jdk_52_method_21_code 38 = .ok (.iinc 5 1, 3) := by decide +kernel
theorem d_jdk_52m21_41 : decode jdk_52_method_21_code 41 = .ok (.goto (-38), 3) := by decide +kernel
theorem d_jdk_52m21_44 : decode jdk_52_method_21_code 44 = .ok (.iload 4, 2) := by decide +kernel
theorem d_jdk_52m21_46 : decode jdk_52_method_21_code 46 = .ok (.ireturn, 1) := by decide +kernel
set_option maxRecDepth 65536 in
set_option maxHeartbeats 40000000 in
theorem c_comp (l : Launch) (Z : State) (a0 : Array Value) (hw : ∀ d ∈ tables_1, d.before a0 Z = true) (n0 : Nat) (h0 : Heap) (v b : Addr) (kv kb : ClassId) (cs : List Int32) (n : Int32) (hn : n.toInt = cs.length) (hch : own_chs cs) (G_b : n0 ≤ b) (nvb : v ≠ b) (Av0 : OwnKit.Av Z h0 v kv .char (cs.map Value.int)) (Ab0 : OwnKit.Av Z h0 b kb .byte (List.replicate cs.length (.int 0))) :
    OwnKit.Con false l Z n0 (⟨"java/lang/StringUTF16", "compress", "([CI[BII)I"⟩ : MethodName) jdk_52_method_21_code 7 (some .int) ({ frames := 0, cells := 0, slots := 0, locals := 0 } : Room) #[.ref v, .int (0 : Int32), .ref b, .int (0 : Int32), .int n] h0 (QComp16 Z b kb cs h0) := by
  refine OwnKit.Con.of (by first | (refine plainFor_of_name ?_; simp [plainName, overriddenIn]; done) | decide +kernel) ?_ ?_
  · intro κ hwd hJ K0
    have K : OwnKit.Ok κ l Z n0 "java/lang/StringUTF16" "compress" jdk_52_method_21_code 7 (some .int) ({ frames := 0, cells := 0, slots := 0, locals := 0 } : Room) (QComp16 Z b kb cs h0) := K0
    have ef : (entryFrame κ.m #[.ref v, .int (0 : Int32), .ref b, .int (0 : Int32), .int n] 7).locals = #[.val (.ref v), .val (.int (0 : Int32)), .val (.ref b), .val (.int (0 : Int32)), .val (.int n), .unset, .unset] := by first | (simp [entryFrame, argsToLocals, Value.category]; done) | rfl
    rw [ef]; clear ef K0
    have e0 : (0 : Int32).toInt = 0 := rfl
    have e1 : (1 : Int32).toInt = 1 := rfl
    have e255 : (255 : Int32).toInt = 255 := rfl
    have loop : ∀ (k j : Nat) (i : Int32) (s6 : Slot) (h : Heap), i.toInt = (j : Int) → j + k = cs.length → One s6 → Keep h0 h [b] → own_le cs j → OwnKit.Av Z h v kv .char (cs.map Value.int) → OwnKit.Av Z h b kb .byte (own_mix cs j) → OwnKit.Go κ h 0 0 3 #[.val (.ref v), .val (.int i), .val (.ref b), .val (.int i), .val (.int n), .val (.int i), s6] [] := by
      intro k
      induction k with
      | zero =>
        intro j i s6 h hi hjk o_s6 Kp hle Av Ab
        show OwnKit.Go κ h 0 0 3 #[.val (.ref v), .val (.int i), .val (.ref b), .val (.int i), .val (.int n), .val (.int i), s6] []
        refine OwnKit.iload K d_jdk_52m21_3 rfl ?_
        show OwnKit.Go κ h 0 0 5 #[.val (.ref v), .val (.int i), .val (.ref b), .val (.int i), .val (.int n), .val (.int i), s6] [.int i]
        refine OwnKit.iload K d_jdk_52m21_5 rfl ?_
        show OwnKit.Go κ h 0 0 7 #[.val (.ref v), .val (.int i), .val (.ref b), .val (.int i), .val (.int n), .val (.int i), s6] [.int n, .int i]
        refine OwnKit.icmpge K d_jdk_52m21_7 (by decide) (pc' := 44) rfl  (fun b1 => ?_) (fun b1 => ?_)
        · show OwnKit.Go κ h 0 0 44 #[.val (.ref v), .val (.int i), .val (.ref b), .val (.int i), .val (.int n), .val (.int i), s6] []
          refine OwnKit.iload K d_jdk_52m21_44 rfl ?_
          show OwnKit.Go κ h 0 0 46 #[.val (.ref v), .val (.int i), .val (.ref b), .val (.int i), .val (.int n), .val (.int i), s6] [.int n]
          refine OwnKit.ireturn K d_jdk_52m21_46 (Or.inl rfl) rfl ?_ (Nat.le_of_ble_eq_true rfl) (Nat.le_of_ble_eq_true rfl)
          · obtain rfl : j = cs.length := by omega
            rw [own_mixN] at Ab
            exact ⟨_, rfl, Kp, by omega, Or.inl ⟨hn, own_leN hch hle, Ab⟩⟩
        · exfalso; omega
      | succ k ih =>
        intro j i s6 h hi hjk o_s6 Kp hle Av Ab
        obtain ⟨c, hcj⟩ : ∃ c, cs[j]? = some c := ⟨_, List.getElem?_eq_getElem (by omega)⟩
        show OwnKit.Go κ h 0 0 3 #[.val (.ref v), .val (.int i), .val (.ref b), .val (.int i), .val (.int n), .val (.int i), s6] []
        refine OwnKit.iload K d_jdk_52m21_3 rfl ?_
        show OwnKit.Go κ h 0 0 5 #[.val (.ref v), .val (.int i), .val (.ref b), .val (.int i), .val (.int n), .val (.int i), s6] [.int i]
        refine OwnKit.iload K d_jdk_52m21_5 rfl ?_
        show OwnKit.Go κ h 0 0 7 #[.val (.ref v), .val (.int i), .val (.ref b), .val (.int i), .val (.int n), .val (.int i), s6] [.int n, .int i]
        refine OwnKit.icmpge K d_jdk_52m21_7 (by decide) (pc' := 44) rfl  (fun b2 => ?_) (fun b2 => ?_)
        · exfalso; omega
        · show OwnKit.Go κ h 0 0 10 #[.val (.ref v), .val (.int i), .val (.ref b), .val (.int i), .val (.int n), .val (.int i), s6] []
          refine OwnKit.aloadN K d_jdk_52m21_10 rfl rfl ?_
          show OwnKit.Go κ h 0 0 11 #[.val (.ref v), .val (.int i), .val (.ref b), .val (.int i), .val (.int n), .val (.int i), s6] [.ref v]
          refine OwnKit.iloadN K d_jdk_52m21_11 rfl ?_
          show OwnKit.Go κ h 0 0 12 #[.val (.ref v), .val (.int i), .val (.ref b), .val (.int i), .val (.int n), .val (.int i), s6] [.int i, .ref v]
          refine OwnKit.caloadV K d_jdk_52m21_12 (v := .int c) Av (by omega) (by rw [hi]; simp [hcj]) ?_
          show OwnKit.Go κ h 0 0 13 #[.val (.ref v), .val (.int i), .val (.ref b), .val (.int i), .val (.int n), .val (.int i), s6] [.int c]
          refine OwnKit.istore K d_jdk_52m21_13 (l' := #[.val (.ref v), .val (.int i), .val (.ref b), .val (.int i), .val (.int n), .val (.int i), .val (.int c)]) (XS.store1 rfl o_s6 rfl) ?_
          show OwnKit.Go κ h 0 0 15 #[.val (.ref v), .val (.int i), .val (.ref b), .val (.int i), .val (.int n), .val (.int i), .val (.int c)] []
          refine OwnKit.iload K d_jdk_52m21_15 rfl ?_
          show OwnKit.Go κ h 0 0 17 #[.val (.ref v), .val (.int i), .val (.ref b), .val (.int i), .val (.int n), .val (.int i), .val (.int c)] [.int c]
          refine OwnKit.sipush K d_jdk_52m21_17 ?_
          show OwnKit.Go κ h 0 0 20 #[.val (.ref v), .val (.int i), .val (.ref b), .val (.int i), .val (.int n), .val (.int i), .val (.int c)] [.int (255 : Int32), .int c]
          refine OwnKit.icmple K d_jdk_52m21_20 (by decide) (pc' := 26) rfl  (fun b3 => ?_) (fun b3 => ?_)
          · show OwnKit.Go κ h 0 0 26 #[.val (.ref v), .val (.int i), .val (.ref b), .val (.int i), .val (.int n), .val (.int i), .val (.int c)] []
            refine OwnKit.aloadN K d_jdk_52m21_26 rfl rfl ?_
            show OwnKit.Go κ h 0 0 27 #[.val (.ref v), .val (.int i), .val (.ref b), .val (.int i), .val (.int n), .val (.int i), .val (.int c)] [.ref b]
            refine OwnKit.iloadN K d_jdk_52m21_27 rfl ?_
            show OwnKit.Go κ h 0 0 28 #[.val (.ref v), .val (.int i), .val (.ref b), .val (.int i), .val (.int n), .val (.int i), .val (.int c)] [.int i, .ref b]
            refine OwnKit.iload K d_jdk_52m21_28 rfl ?_
            show OwnKit.Go κ h 0 0 30 #[.val (.ref v), .val (.int i), .val (.ref b), .val (.int i), .val (.int n), .val (.int i), .val (.int c)] [.int c, .int i, .ref b]
            refine OwnKit.i2b K d_jdk_52m21_30 ?_
            show OwnKit.Go κ h 0 0 31 #[.val (.ref v), .val (.int i), .val (.ref b), .val (.int i), .val (.int n), .val (.int i), .val (.int c)] [.int c.toInt8.toInt32, .int i, .ref b]
            refine OwnKit.bastoreV K d_jdk_52m21_31 Ab (by omega) (by rw [own_mixLen (by omega)]; omega) G_b ?_
            intro h2 W2 A2
            have A3 : OwnKit.Av Z h2 b kb .byte (own_mix cs (j + 1)) := by rw [hi, own_i8] at A2; rw [← own_mixS hcj]; exact A2
            have Av2 := Av.other W2 nvb
            have Kp2 := Kp.wr W2 (Or.inl (by simp))
            show OwnKit.Go κ h2 0 0 32 #[.val (.ref v), .val (.int i), .val (.ref b), .val (.int i), .val (.int n), .val (.int i), .val (.int c)] []
            refine OwnKit.iinc K d_jdk_52m21_32 rfl (l' := #[.val (.ref v), .val (.int (i + (1 : Int32))), .val (.ref b), .val (.int i), .val (.int n), .val (.int i), .val (.int c)]) rfl ?_
            show OwnKit.Go κ h2 0 0 35 #[.val (.ref v), .val (.int (i + (1 : Int32))), .val (.ref b), .val (.int i), .val (.int n), .val (.int i), .val (.int c)] []
            refine OwnKit.iinc K d_jdk_52m21_35 rfl (l' := #[.val (.ref v), .val (.int (i + (1 : Int32))), .val (.ref b), .val (.int (i + (1 : Int32))), .val (.int n), .val (.int i), .val (.int c)]) rfl ?_
            show OwnKit.Go κ h2 0 0 38 #[.val (.ref v), .val (.int (i + (1 : Int32))), .val (.ref b), .val (.int (i + (1 : Int32))), .val (.int n), .val (.int i), .val (.int c)] []
            refine OwnKit.iinc K d_jdk_52m21_38 rfl (l' := #[.val (.ref v), .val (.int (i + (1 : Int32))), .val (.ref b), .val (.int (i + (1 : Int32))), .val (.int n), .val (.int (i + (1 : Int32))), .val (.int c)]) rfl ?_
            show OwnKit.Go κ h2 0 0 41 #[.val (.ref v), .val (.int (i + (1 : Int32))), .val (.ref b), .val (.int (i + (1 : Int32))), .val (.int n), .val (.int (i + (1 : Int32))), .val (.int c)] []
            refine OwnKit.goto K d_jdk_52m21_41 (by decide) (pc' := 3) rfl ?_
            show OwnKit.Go κ h2 0 0 3 #[.val (.ref v), .val (.int (i + (1 : Int32))), .val (.ref b), .val (.int (i + (1 : Int32))), .val (.int n), .val (.int (i + (1 : Int32))), .val (.int c)] []
            exact ih (j + 1) _ _ h2 (by rw [own_incS (by have := n.toInt_lt; omega)]; omega) (by omega) (One.val rfl) Kp2 (own_leS hle hcj (by omega)) Av2 A3
          · show OwnKit.Go κ h 0 0 23 #[.val (.ref v), .val (.int i), .val (.ref b), .val (.int i), .val (.int n), .val (.int i), .val (.int c)] []
            refine OwnKit.iload K d_jdk_52m21_23 rfl ?_
            show OwnKit.Go κ h 0 0 25 #[.val (.ref v), .val (.int i), .val (.ref b), .val (.int i), .val (.int n), .val (.int i), .val (.int c)] [.int i]
            refine OwnKit.ireturn K d_jdk_52m21_25 (Or.inl rfl) rfl ?_ (Nat.le_of_ble_eq_true rfl) (Nat.le_of_ble_eq_true rfl)
            exact ⟨_, rfl, Kp, by omega, Or.inr ⟨by omega, c, by rw [hi]; simpa using hcj, by omega⟩⟩
    show OwnKit.Go κ h0 0 0 0 #[.val (.ref v), .val (.int (0 : Int32)), .val (.ref b), .val (.int (0 : Int32)), .val (.int n), .unset, .unset] []
    refine OwnKit.iconst K d_jdk_52m21_0 ?_
    show OwnKit.Go κ h0 0 0 1 #[.val (.ref v), .val (.int (0 : Int32)), .val (.ref b), .val (.int (0 : Int32)), .val (.int n), .unset, .unset] [.int (0 : Int32)]
    refine OwnKit.istore K d_jdk_52m21_1 (l' := #[.val (.ref v), .val (.int (0 : Int32)), .val (.ref b), .val (.int (0 : Int32)), .val (.int n), .val (.int (0 : Int32)), .unset]) rfl ?_
    show OwnKit.Go κ h0 0 0 3 #[.val (.ref v), .val (.int (0 : Int32)), .val (.ref b), .val (.int (0 : Int32)), .val (.int n), .val (.int (0 : Int32)), .unset] []
    exact loop cs.length 0 _ _ h0 rfl (by omega) One.u (Keep.refl _ _) (by intro x hx; simp at hx) Av0 (by rw [own_mix0]; exact Ab0)
  · intro m; first | rfl | (simp [entryFrame, mkF, argsToLocals, Value.category]; done)

theorem d_jdk_52m3_0 : decode jdk_52_method_3_code 0 = .ok (.iload_n 0, 1) := by decide +kernel
theorem d_jdk_52m3_1 : decode jdk_52_method_3_code 1 = .ok (.ifCond .ge 11, 3) := by decide +kernel
theorem d_jdk_52m3_12 : decode jdk_52_method_3_code 12 = .ok (.iload_n 0, 1) := by decide +kernel
theorem d_jdk_52m3_13 : decode jdk_52_method_3_code 13 = .ok (.ldc 20, 2) := by decide +kernel
theorem d_jdk_52m3_15 : decode jdk_52_method_3_code 15 = .ok (.if_icmp .lt 40, 3) := by decide +kernel
theorem d_jdk_52m3_55 : decode jdk_52_method_3_code 55 = .ok (.iload_n 0, 1) := by decide +kernel
theorem d_jdk_52m3_56 : decode jdk_52_method_3_code 56 = .ok (.iconst 1, 1) := by decide +kernel
theorem d_jdk_52m3_57 : decode jdk_52_method_3_code 57 = .ok (.ishl, 1) := by decide +kernel
theorem d_jdk_52m3_58 : decode jdk_52_method_3_code 58 = .ok (.ireturn, 1) := by decide +kernel
set_option maxRecDepth 65536 in
set_option maxHeartbeats 40000000 in
theorem c_nbl (l : Launch) (Z : State) (a0 : Array Value) (hw : ∀ d ∈ tables_1, d.before a0 Z = true) (n0 : Nat) (h0 : Heap) (n : Int32) (k : Nat) (hn : n.toInt = k) (hk : k ≤ 4) :
    OwnKit.Con false l Z n0 (⟨"java/lang/StringUTF16", "newBytesLength", "(I)I"⟩ : MethodName) jdk_52_method_3_code 1 (some .int) ({ frames := 0, cells := 0, slots := 0, locals := 0 } : Room) #[.int n] h0 (QDbl n h0) := by
  refine OwnKit.Con.of (by first | (refine plainFor_of_name ?_; simp [plainName, overriddenIn]; done) | decide +kernel) ?_ ?_
  · intro κ hwd hJ K0
    have K : OwnKit.Ok κ l Z n0 "java/lang/StringUTF16" "newBytesLength" jdk_52_method_3_code 1 (some .int) ({ frames := 0, cells := 0, slots := 0, locals := 0 } : Room) (QDbl n h0) := K0
    have ef : (entryFrame κ.m #[.int n] 1).locals = #[.val (.int n)] := by first | (simp [entryFrame, argsToLocals, Value.category]; done) | rfl
    rw [ef]; clear ef K0
    show OwnKit.Go κ h0 0 0 0 #[.val (.int n)] []
    refine OwnKit.iloadN K d_jdk_52m3_0 rfl ?_
    show OwnKit.Go κ h0 0 0 1 #[.val (.int n)] [.int n]
    refine OwnKit.ifge K d_jdk_52m3_1 (by decide) (pc' := 12) rfl  (fun b1 => ?_) (fun b1 => ?_)
    · show OwnKit.Go κ h0 0 0 12 #[.val (.int n)] []
      refine OwnKit.iloadN K d_jdk_52m3_12 rfl ?_
      show OwnKit.Go κ h0 0 0 13 #[.val (.int n)] [.int n]
      refine OwnKit.ldcI K d_jdk_52m3_13 (hw _ (List.mem_of_getElem? (i := 98) rfl)) ?_
      show OwnKit.Go κ h0 0 0 15 #[.val (.int n)] [.int (1073741823 : Int32), .int n]
      refine OwnKit.icmplt K d_jdk_52m3_15 (by decide) (pc' := 55) rfl  (fun b2 => ?_) (fun b2 => ?_)
      · show OwnKit.Go κ h0 0 0 55 #[.val (.int n)] []
        refine OwnKit.iloadN K d_jdk_52m3_55 rfl ?_
        show OwnKit.Go κ h0 0 0 56 #[.val (.int n)] [.int n]
        refine OwnKit.iconst K d_jdk_52m3_56 ?_
        show OwnKit.Go κ h0 0 0 57 #[.val (.int n)] [.int (1 : Int32), .int n]
        refine OwnKit.ishl K d_jdk_52m3_57 ?_
        show OwnKit.Go κ h0 0 0 58 #[.val (.int n)] [.int (n <<< ((1 : Int32) &&& 31))]
        refine OwnKit.ireturn K d_jdk_52m3_58 (Or.inl rfl) rfl ?_ (Nat.le_of_ble_eq_true rfl) (Nat.le_of_ble_eq_true rfl)
        exact ⟨_, rfl, by rw [own_dbl hn (by omega), hn], rfl⟩
      · exfalso
        have e9 : ((1073741823 : Int32)).toInt = 1073741823 := by decide
        omega
    · exfalso; omega
  · intro m; first | rfl | (simp [entryFrame, mkF, argsToLocals, Value.category]; done)

theorem d_jdk_52m2_0 : decode jdk_52_method_2_code 0 = .ok (.iload_n 0, 1) := by decide +kernel
theorem d_jdk_52m2_1 : decode jdk_52_method_2_code 1 = .ok (.invokestatic 11, 3) := by decide +kernel
theorem d_jdk_52m2_4 : decode jdk_52_method_2_code 4 = .ok (.newarray .byte, 2) := by decide +kernel
theorem d_jdk_52m2_6 : decode jdk_52_method_2_code 6 = .ok (.areturn, 1) := by decide +kernel
set_option maxRecDepth 65536 in
set_option maxHeartbeats 40000000 in
theorem c_nbf (l : Launch) (Z : State) (a0 : Array Value) (hw : ∀ d ∈ tables_1, d.before a0 Z = true) (n0 : Nat) (h0 : Heap) (n : Int32) (k : Nat) (hn : n.toInt = k) (hk : k ≤ 4) :
    OwnKit.Con false l Z n0 (⟨"java/lang/StringUTF16", "newBytesFor", "(I)[B"⟩ : MethodName) jdk_52_method_2_code 1 (some (.array .byte)) ({ frames := 1, cells := 1, slots := 8, locals := 12 } : Room) #[.int n] h0 (QBytes Z n0 (List.replicate (2 * k) (.int 0)) h0) := by
  refine OwnKit.Con.of (by first | (refine plainFor_of_name ?_; simp [plainName, overriddenIn]; done) | decide +kernel) ?_ ?_
  · intro κ hwd hJ K0
    have K : OwnKit.Ok κ l Z n0 "java/lang/StringUTF16" "newBytesFor" jdk_52_method_2_code 1 (some (.array .byte)) ({ frames := 1, cells := 1, slots := 8, locals := 12 } : Room) (QBytes Z n0 (List.replicate (2 * k) (.int 0)) h0) := K0
    have ef : (entryFrame κ.m #[.int n] 1).locals = #[.val (.int n)] := by first | (simp [entryFrame, argsToLocals, Value.category]; done) | rfl
    rw [ef]; clear ef K0
    have K0 := Keep.refl h0 []
    show OwnKit.Go κ h0 0 0 0 #[.val (.int n)] []
    refine OwnKit.iloadN K d_jdk_52m2_0 rfl ?_
    show OwnKit.Go κ h0 0 0 1 #[.val (.int n)] [.int n]
    refine OwnKit.invS (y := (⟨"java/lang/StringUTF16", "newBytesLength", "(I)I"⟩ : MethodName)) (argsL := [.int n]) (rest := []) K (c_nbl l Z a0 hw n0 h0 n k hn hk) d_jdk_52m2_1 (hw _ (List.mem_of_getElem? (i := 95) rfl)) (hw _ (List.mem_of_getElem? (i := 96) rfl)) (hw _ (List.mem_of_getElem? (i := 52) rfl)) (hw _ (List.mem_of_getElem? (i := 97) rfl)) (by decide) (lenOf (by decide +kernel : parseMethodDescriptor "(I)I" = some ⟨[.int], some .int⟩) rfl) rfl rfl (W := 0) (Nat.le_of_ble_eq_true rfl) (Nat.le_of_ble_eq_true rfl) (Nat.le_of_ble_eq_true rfl) (Nat.le_of_ble_eq_true rfl) (Nat.le_of_ble_eq_true rfl) ?_
    rintro _ h1 ⟨z, rfl, hz, rfl⟩ g2
    show OwnKit.Go κ h0 0 0 4 #[.val (.int n)] [.int z]
    refine OwnKit.newArrV (cap := 8) K d_jdk_52m2_4 (hw _ (List.mem_of_getElem? (i := 23) rfl)) (by omega) (by omega) (by decide) (by decide) (by decide) ?_
    intro h3 a4 k5 g6 G7 Ex8 A9 E10
    have L11 : h0.size ≤ a4 := g6 ▸ K0.1
    have K12 := K0.ext Ex8
    have A13 : OwnKit.Av Z h3 a4 k5 .byte (List.replicate (2 * k) (.int 0)) := by rw [show z.toInt.toNat = 2 * k by omega] at A9; exact A9
    show OwnKit.Go κ h3 1 8 6 #[.val (.int n)] [.ref a4]
    refine OwnKit.areturn K d_jdk_52m2_6 rfl rfl ?_ (Nat.le_of_ble_eq_true rfl) (Nat.le_of_ble_eq_true rfl)
    exact ⟨_, _, rfl, K12, L11, G7, A13⟩
  · intro m; first | rfl | (simp [entryFrame, mkF, argsToLocals, Value.category]; done)

theorem d_jdk_52m4_0 : decode jdk_52_method_4_code 0 = .ok (.getstatic 44, 3) := by decide +kernel
theorem d_jdk_52m4_3 : decode jdk_52_method_4_code 3 = .ok (.ifCond .ne 25, 3) := by decide +kernel
theorem d_jdk_52m4_28 : decode jdk_52_method_4_code 28 = .ok (.iload_n 1, 1) := by decide +kernel
theorem d_jdk_52m4_29 : decode jdk_52_method_4_code 29 = .ok (.iconst 1, 1) := by decide +kernel
theorem d_jdk_52m4_30 : decode jdk_52_method_4_code 30 = .ok (.ishl, 1) := by decide +kernel
theorem d_jdk_52m4_31 : decode jdk_52_method_4_code 31 = .ok (.istore_n 1, 1) := by decide +kernel
theorem d_jdk_52m4_32 : decode jdk_52_method_4_code 32 = .ok (.aload_n 0, 1) := by decide +kernel
theorem d_jdk_52m4_33 : decode jdk_52_method_4_code 33 = .ok (.iload_n 1, 1) := by decide +kernel
theorem d_jdk_52m4_34 : decode jdk_52_method_4_code 34 = .ok (.iinc 1 1, 3) := by decide +kernel
theorem d_jdk_52m4_37 : decode jdk_52_method_4_code 37 = .ok (.iload_n 2, 1) := by decide +kernel
theorem d_jdk_52m4_38 : decode jdk_52_method_4_code 38 = .ok (.getstatic 59, 3) := by decide +kernel
theorem d_jdk_52m4_41 : decode jdk_52_method_4_code 41 = .ok (.ishr, 1) := by decide +kernel
theorem d_jdk_52m4_42 : decode jdk_52_method_4_code 42 = .ok (.i2b, 1) := by decide +kernel
theorem d_jdk_52m4_43 : decode jdk_52_method_4_code 43 = .ok (.bastore, 1) := by decide +kernel
theorem d_jdk_52m4_44 : decode jdk_52_method_4_code 44 = .ok (.aload_n 0, 1) := by decide +kernel
theorem d_jdk_52m4_45 : decode jdk_52_method_4_code 45 = .ok (.iload_n 1, 1) := by decide +kernel
theorem d_jdk_52m4_46 : decode jdk_52_method_4_code 46 = .ok (.iload_n 2, 1) := by decide +kernel
theorem d_jdk_52m4_47 : decode jdk_52_method_4_code 47 = .ok (.getstatic 63, 3) := by decide +kernel
theorem d_jdk_52m4_50 : decode jdk_52_method_4_code 50 = .ok (.ishr, 1) := by decide +kernel
theorem d_jdk_52m4_51 : decode jdk_52_method_4_code 51 = .ok (.i2b, 1) := by decide +kernel
theorem d_jdk_52m4_52 : decode jdk_52_method_4_code 52 = .ok (.bastore, 1) := by decide +kernel
theorem d_jdk_52m4_53 : decode jdk_52_method_4_code 53 = .ok (.return_, 1) := by decide +kernel
set_option maxRecDepth 65536 in
set_option maxHeartbeats 40000000 in
theorem c_put (l : Launch) (Z : State) (a0 : Array Value) (hw : ∀ d ∈ tables_1, d.before a0 Z = true) (n0 : Nat) (h0 : Heap) (b : Addr) (kb : ClassId) (vs : List Value) (i c : Int32) (j : Nat) (i_COMPACT_STRINGS : Int32) (v_SIOOBE_FORMATTER : Value) (hi : i.toInt = j) (hj : j ≤ 4) (hv : 2 * j + 1 < vs.length) (G_b : n0 ≤ b) (Ab0 : OwnKit.Av Z h0 b kb .byte vs) (S_COMPACT_STRINGS : Sta Z Z.heap "java/lang/String" "COMPACT_STRINGS" "Z" (.int i_COMPACT_STRINGS)) (nz_COMPACT_STRINGS : ¬ i_COMPACT_STRINGS = (0 : Int32)) (S_SIOOBE_FORMATTER : Sta Z Z.heap "jdk/internal/util/Preconditions" "SIOOBE_FORMATTER" "Ljava/util/function/BiFunction;" (v_SIOOBE_FORMATTER)) (hr_v_SIOOBE_FORMATTER : v_SIOOBE_FORMATTER.isRef = true) (S__assertionsDisabled : Sta Z Z.heap "java/lang/StringUTF16" "$assertionsDisabled" "Z" (.int (1 : Int32))) (S_HI_BYTE_SHIFT : Sta Z Z.heap "java/lang/StringUTF16" "HI_BYTE_SHIFT" "I" (.int (0 : Int32))) (S_LO_BYTE_SHIFT : Sta Z Z.heap "java/lang/StringUTF16" "LO_BYTE_SHIFT" "I" (.int (8 : Int32))) :
    OwnKit.Con false l Z n0 (⟨"java/lang/StringUTF16", "putChar", "([BII)V"⟩ : MethodName) jdk_52_method_4_code 3 none ({ frames := 0, cells := 0, slots := 0, locals := 0 } : Room) #[.ref b, .int i, .int c] h0 (QPut Z b kb ((vs.set (2 * j) (own_L c)).set (2 * j + 1) (own_H c)) h0) := by
  refine OwnKit.Con.of (by first | (refine plainFor_of_name ?_; simp [plainName, overriddenIn]; done) | decide +kernel) ?_ ?_
  · intro κ hwd hJ K0
    have K : OwnKit.Ok κ l Z n0 "java/lang/StringUTF16" "putChar" jdk_52_method_4_code 3 none ({ frames := 0, cells := 0, slots := 0, locals := 0 } : Room) (QPut Z b kb ((vs.set (2 * j) (own_L c)).set (2 * j + 1) (own_H c)) h0) := K0
    have ef : (entryFrame κ.m #[.ref b, .int i, .int c] 3).locals = #[.val (.ref b), .val (.int i), .val (.int c)] := by first | (simp [entryFrame, argsToLocals, Value.category]; done) | rfl
    rw [ef]; clear ef K0
    have hc_v_SIOOBE_FORMATTER := OwnKit.catR hr_v_SIOOBE_FORMATTER
    have K0 := Keep.refl h0 [b]
    show OwnKit.Go κ h0 0 0 0 #[.val (.ref b), .val (.int i), .val (.int c)] []
    refine OwnKit.getstaticZ K d_jdk_52m4_0 (host := "") (Or.inl (hw _ (List.mem_of_getElem? (i := 102) rfl))) Via.refl S__assertionsDisabled ?_
    show OwnKit.Go κ h0 0 0 3 #[.val (.ref b), .val (.int i), .val (.int c)] [.int (1 : Int32)]
    refine OwnKit.ifne K d_jdk_52m4_3 (by decide) (pc' := 28) rfl  (fun b1 => ?_) (fun b1 => ?_)
    · show OwnKit.Go κ h0 0 0 28 #[.val (.ref b), .val (.int i), .val (.int c)] []
      refine OwnKit.iloadN K d_jdk_52m4_28 rfl ?_
      show OwnKit.Go κ h0 0 0 29 #[.val (.ref b), .val (.int i), .val (.int c)] [.int i]
      refine OwnKit.iconst K d_jdk_52m4_29 ?_
      show OwnKit.Go κ h0 0 0 30 #[.val (.ref b), .val (.int i), .val (.int c)] [.int (1 : Int32), .int i]
      refine OwnKit.ishl K d_jdk_52m4_30 ?_
      show OwnKit.Go κ h0 0 0 31 #[.val (.ref b), .val (.int i), .val (.int c)] [.int (i <<< ((1 : Int32) &&& 31))]
      have hx2 := own_dbl hi (by omega)
      generalize i <<< ((1 : Int32) &&& 31) = x at hx2 ⊢
      have hx3 := own_incS (i := x) (by omega)
      show OwnKit.Go κ h0 0 0 31 #[.val (.ref b), .val (.int i), .val (.int c)] [.int x]
      refine OwnKit.istoreN K d_jdk_52m4_31 (l' := #[.val (.ref b), .val (.int x), .val (.int c)]) rfl ?_
      show OwnKit.Go κ h0 0 0 32 #[.val (.ref b), .val (.int x), .val (.int c)] []
      refine OwnKit.aloadN K d_jdk_52m4_32 rfl rfl ?_
      show OwnKit.Go κ h0 0 0 33 #[.val (.ref b), .val (.int x), .val (.int c)] [.ref b]
      refine OwnKit.iloadN K d_jdk_52m4_33 rfl ?_
      show OwnKit.Go κ h0 0 0 34 #[.val (.ref b), .val (.int x), .val (.int c)] [.int x, .ref b]
      refine OwnKit.iinc K d_jdk_52m4_34 rfl (l' := #[.val (.ref b), .val (.int (x + (1 : Int32))), .val (.int c)]) rfl ?_
      show OwnKit.Go κ h0 0 0 37 #[.val (.ref b), .val (.int (x + (1 : Int32))), .val (.int c)] [.int x, .ref b]
      refine OwnKit.iloadN K d_jdk_52m4_37 rfl ?_
      show OwnKit.Go κ h0 0 0 38 #[.val (.ref b), .val (.int (x + (1 : Int32))), .val (.int c)] [.int c, .int x, .ref b]
      refine OwnKit.getstaticZ K d_jdk_52m4_38 (host := "") (Or.inl (hw _ (List.mem_of_getElem? (i := 103) rfl))) Via.refl S_HI_BYTE_SHIFT ?_
      show OwnKit.Go κ h0 0 0 41 #[.val (.ref b), .val (.int (x + (1 : Int32))), .val (.int c)] [.int (0 : Int32), .int c, .int x, .ref b]
      refine OwnKit.ishr K d_jdk_52m4_41 ?_
      show OwnKit.Go κ h0 0 0 42 #[.val (.ref b), .val (.int (x + (1 : Int32))), .val (.int c)] [.int (c >>> ((0 : Int32) &&& 31)), .int x, .ref b]
      refine OwnKit.i2b K d_jdk_52m4_42 ?_
      show OwnKit.Go κ h0 0 0 43 #[.val (.ref b), .val (.int (x + (1 : Int32))), .val (.int c)] [.int ((c >>> ((0 : Int32) &&& 31)).toInt8.toInt32), .int x, .ref b]
      refine OwnKit.bastoreV K d_jdk_52m4_43 Ab0 (by omega) (by first | omega | (simp only [List.length_set]; omega)) G_b ?_
      intro h2 W3 A4
      have A5 : OwnKit.Av Z h2 b kb .byte (vs.set (2 * j) (own_L c)) := by
        rw [own_i8, show (x).toInt.toNat = 2 * j by omega] at A4; exact A4
      have K6 := K0.wr W3 (Or.inl (by simp))
      show OwnKit.Go κ h2 0 0 44 #[.val (.ref b), .val (.int (x + (1 : Int32))), .val (.int c)] []
      refine OwnKit.aloadN K d_jdk_52m4_44 rfl rfl ?_
      show OwnKit.Go κ h2 0 0 45 #[.val (.ref b), .val (.int (x + (1 : Int32))), .val (.int c)] [.ref b]
      refine OwnKit.iloadN K d_jdk_52m4_45 rfl ?_
      show OwnKit.Go κ h2 0 0 46 #[.val (.ref b), .val (.int (x + (1 : Int32))), .val (.int c)] [.int (x + (1 : Int32)), .ref b]
      refine OwnKit.iloadN K d_jdk_52m4_46 rfl ?_
      show OwnKit.Go κ h2 0 0 47 #[.val (.ref b), .val (.int (x + (1 : Int32))), .val (.int c)] [.int c, .int (x + (1 : Int32)), .ref b]
      refine OwnKit.getstaticZ K d_jdk_52m4_47 (host := "") (Or.inl (hw _ (List.mem_of_getElem? (i := 104) rfl))) Via.refl S_LO_BYTE_SHIFT ?_
      show OwnKit.Go κ h2 0 0 50 #[.val (.ref b), .val (.int (x + (1 : Int32))), .val (.int c)] [.int (8 : Int32), .int c, .int (x + (1 : Int32)), .ref b]
      refine OwnKit.ishr K d_jdk_52m4_50 ?_
      show OwnKit.Go κ h2 0 0 51 #[.val (.ref b), .val (.int (x + (1 : Int32))), .val (.int c)] [.int (c >>> ((8 : Int32) &&& 31)), .int (x + (1 : Int32)), .ref b]
      refine OwnKit.i2b K d_jdk_52m4_51 ?_
      show OwnKit.Go κ h2 0 0 52 #[.val (.ref b), .val (.int (x + (1 : Int32))), .val (.int c)] [.int ((c >>> ((8 : Int32) &&& 31)).toInt8.toInt32), .int (x + (1 : Int32)), .ref b]
      refine OwnKit.bastoreV K d_jdk_52m4_52 A5 (by omega) (by first | omega | (simp only [List.length_set]; omega)) G_b ?_
      intro h7 W8 A9
      have A10 : OwnKit.Av Z h7 b kb .byte ((vs.set (2 * j) (own_L c)).set (2 * j + 1) (own_H c)) := by
        rw [own_i8, show (x + (1 : Int32)).toInt.toNat = 2 * j + 1 by omega] at A9; exact A9
      have K11 := K6.wr W8 (Or.inl (by simp))
      show OwnKit.Go κ h7 0 0 53 #[.val (.ref b), .val (.int (x + (1 : Int32))), .val (.int c)] []
      refine OwnKit.return0 K d_jdk_52m4_53  ?_ (Nat.le_of_ble_eq_true rfl) (Nat.le_of_ble_eq_true rfl)
      exact ⟨rfl, K11, A10⟩
    · exact absurd b1 (by decide)
  · intro m; first | rfl | (simp [entryFrame, mkF, argsToLocals, Value.category]; done)

theorem d_jdk_52m14_0 : decode jdk_52_method_14_code 0 = .ok (.iload_n 2, 1) := by decide +kernel
theorem d_jdk_52m14_1 : decode jdk_52_method_14_code 1 = .ok (.invokestatic 107, 3) := by decide +kernel
theorem d_jdk_52m14_4 : decode jdk_52_method_14_code 4 = .ok (.astore_n 3, 1) := by decide +kernel
theorem d_jdk_52m14_5 : decode jdk_52_method_14_code 5 = .ok (.iconst 0, 1) := by decide +kernel
theorem d_jdk_52m14_6 : decode jdk_52_method_14_code 6 = .ok (.istore 4, 2) := by decide +kernel
theorem d_jdk_52m14_8 : decode jdk_52_method_14_code 8 = .ok (.iload 4, 2) := by decide +kernel
theorem d_jdk_52m14_10 : decode jdk_52_method_14_code 10 = .ok (.iload_n 2, 1) := by decide +kernel
theorem d_jdk_52m14_11 : decode jdk_52_method_14_code 11 = .ok (.if_icmp .ge 21, 3) := by decide +kernel
theorem d_jdk_52m14_14 : decode jdk_52_method_14_code 14 = .ok (.aload_n 3, 1) := by decide +kernel
theorem d_jdk_52m14_15 : decode jdk_52_method_14_code 15 = .ok (.iload 4, 2) := by decide +kernel
theorem d_jdk_52m14_17 : decode jdk_52_method_14_code 17 = .ok (.aload_n 0, 1) := by decide +kernel
theorem d_jdk_52m14_18 : decode jdk_52_method_14_code 18 = .ok (.iload_n 1, 1) := by decide +kernel
theorem d_jdk_52m14_19 : decode jdk_52_method_14_code 19 = .ok (.caload, 1) := by decide +kernel
theorem d_jdk_52m14_20 : decode jdk_52_method_14_code 20 = .ok (.invokestatic 111, 3) := by decide +kernel
theorem d_jdk_52m14_23 : decode jdk_52_method_14_code 23 = .ok (.iinc 1 1, 3) := by decide +kernel
theorem d_jdk_52m14_26 : decode jdk_52_method_14_code 26 = .ok (.iinc 4 1, 3) := by decide +kernel
theorem d_jdk_52m14_29 : decode jdk_52_method_14_code 29 = .ok (.goto (-21), 3) := by decide +kernel
theorem d_jdk_52m14_32 : decode jdk_52_method_14_code 32 = .ok (.aload_n 3, 1) := by decide +kernel
theorem d_jdk_52m14_33 : decode jdk_52_method_14_code 33 = .ok (.areturn, 1) := by decide +kernel
set_option maxRecDepth 65536 in
set_option maxHeartbeats 40000000 in
theorem c_tob16 (l : Launch) (Z : State) (a0 : Array Value) (hw : ∀ d ∈ tables_1, d.before a0 Z = true) (n0 : Nat) (h0 : Heap) (v : Addr) (kv : ClassId) (cs : List Int32) (n : Int32) (i_COMPACT_STRINGS : Int32) (v_SIOOBE_FORMATTER : Value) (hn : n.toInt = cs.length) (hcap : cs.length ≤ 4) (Av0 : OwnKit.Av Z h0 v kv .char (cs.map Value.int)) (S_COMPACT_STRINGS : Sta Z Z.heap "java/lang/String" "COMPACT_STRINGS" "Z" (.int i_COMPACT_STRINGS)) (nz_COMPACT_STRINGS : ¬ i_COMPACT_STRINGS = (0 : Int32)) (S_SIOOBE_FORMATTER : Sta Z Z.heap "jdk/internal/util/Preconditions" "SIOOBE_FORMATTER" "Ljava/util/function/BiFunction;" (v_SIOOBE_FORMATTER)) (hr_v_SIOOBE_FORMATTER : v_SIOOBE_FORMATTER.isRef = true) (S__assertionsDisabled : Sta Z Z.heap "java/lang/StringUTF16" "$assertionsDisabled" "Z" (.int (1 : Int32))) (S_HI_BYTE_SHIFT : Sta Z Z.heap "java/lang/StringUTF16" "HI_BYTE_SHIFT" "I" (.int (0 : Int32))) (S_LO_BYTE_SHIFT : Sta Z Z.heap "java/lang/StringUTF16" "LO_BYTE_SHIFT" "I" (.int (8 : Int32))) :
    OwnKit.Con false l Z n0 (⟨"java/lang/StringUTF16", "toBytes", "([CII)[B"⟩ : MethodName) jdk_52_method_14_code 5 (some (.array .byte)) ({ frames := 2, cells := 1, slots := 8, locals := 24 } : Room) #[.ref v, .int (0 : Int32), .int n] h0 (QBytes Z n0 (own_utf cs) h0) := by
  refine OwnKit.Con.of (by first | (refine plainFor_of_name ?_; simp [plainName, overriddenIn]; done) | decide +kernel) ?_ ?_
  · intro κ hwd hJ K0
    have K : OwnKit.Ok κ l Z n0 "java/lang/StringUTF16" "toBytes" jdk_52_method_14_code 5 (some (.array .byte)) ({ frames := 2, cells := 1, slots := 8, locals := 24 } : Room) (QBytes Z n0 (own_utf cs) h0) := K0
    have ef : (entryFrame κ.m #[.ref v, .int (0 : Int32), .int n] 5).locals = #[.val (.ref v), .val (.int (0 : Int32)), .val (.int n), .unset, .unset] := by first | (simp [entryFrame, argsToLocals, Value.category]; done) | rfl
    rw [ef]; clear ef K0
    have e0 : (0 : Int32).toInt = 0 := rfl
    have e1 : (1 : Int32).toInt = 1 := rfl
    have loop : ∀ (b : Addr) (kb : ClassId), v ≠ b → n0 ≤ b → h0.size ≤ b → ∀ (k j : Nat) (i : Int32) (h : Heap), i.toInt = (j : Int) → j + k = cs.length → Keep h0 h [] → OwnKit.Av Z h v kv .char (cs.map Value.int) → OwnKit.Av Z h b kb .byte (own_umix cs j) → OwnKit.Go κ h 1 8 8 #[.val (.ref v), .val (.int i), .val (.int n), .val (.ref b), .val (.int i)] [] := by
      intro b kb nvb Gb Lb k
      induction k with
      | zero =>
        intro j i h hi hjk Kp Av Ab
        show OwnKit.Go κ h 1 8 8 #[.val (.ref v), .val (.int i), .val (.int n), .val (.ref b), .val (.int i)] []
        refine OwnKit.iload K d_jdk_52m14_8 rfl ?_
        show OwnKit.Go κ h 1 8 10 #[.val (.ref v), .val (.int i), .val (.int n), .val (.ref b), .val (.int i)] [.int i]
        refine OwnKit.iloadN K d_jdk_52m14_10 rfl ?_
        show OwnKit.Go κ h 1 8 11 #[.val (.ref v), .val (.int i), .val (.int n), .val (.ref b), .val (.int i)] [.int n, .int i]
        refine OwnKit.icmpge K d_jdk_52m14_11 (by decide) (pc' := 32) rfl  (fun b1 => ?_) (fun b1 => ?_)
        · show OwnKit.Go κ h 1 8 32 #[.val (.ref v), .val (.int i), .val (.int n), .val (.ref b), .val (.int i)] []
          refine OwnKit.aloadN K d_jdk_52m14_32 rfl rfl ?_
          show OwnKit.Go κ h 1 8 33 #[.val (.ref v), .val (.int i), .val (.int n), .val (.ref b), .val (.int i)] [.ref b]
          refine OwnKit.areturn K d_jdk_52m14_33 rfl rfl ?_ (Nat.le_of_ble_eq_true rfl) (Nat.le_of_ble_eq_true rfl)
          · obtain rfl : j = cs.length := by omega
            rw [own_umixN] at Ab
            exact ⟨_, _, rfl, Kp, Lb, Gb, Ab⟩
        · exfalso; omega
      | succ k ih =>
        intro j i h hi hjk Kp Av Ab
        obtain ⟨c, hcj⟩ : ∃ c, cs[j]? = some c := ⟨_, List.getElem?_eq_getElem (by omega)⟩
        show OwnKit.Go κ h 1 8 8 #[.val (.ref v), .val (.int i), .val (.int n), .val (.ref b), .val (.int i)] []
        refine OwnKit.iload K d_jdk_52m14_8 rfl ?_
        show OwnKit.Go κ h 1 8 10 #[.val (.ref v), .val (.int i), .val (.int n), .val (.ref b), .val (.int i)] [.int i]
        refine OwnKit.iloadN K d_jdk_52m14_10 rfl ?_
        show OwnKit.Go κ h 1 8 11 #[.val (.ref v), .val (.int i), .val (.int n), .val (.ref b), .val (.int i)] [.int n, .int i]
        refine OwnKit.icmpge K d_jdk_52m14_11 (by decide) (pc' := 32) rfl  (fun b2 => ?_) (fun b2 => ?_)
        · exfalso; omega
        · show OwnKit.Go κ h 1 8 14 #[.val (.ref v), .val (.int i), .val (.int n), .val (.ref b), .val (.int i)] []
          refine OwnKit.aloadN K d_jdk_52m14_14 rfl rfl ?_
          show OwnKit.Go κ h 1 8 15 #[.val (.ref v), .val (.int i), .val (.int n), .val (.ref b), .val (.int i)] [.ref b]
          refine OwnKit.iload K d_jdk_52m14_15 rfl ?_
          show OwnKit.Go κ h 1 8 17 #[.val (.ref v), .val (.int i), .val (.int n), .val (.ref b), .val (.int i)] [.int i, .ref b]
          refine OwnKit.aloadN K d_jdk_52m14_17 rfl rfl ?_
          show OwnKit.Go κ h 1 8 18 #[.val (.ref v), .val (.int i), .val (.int n), .val (.ref b), .val (.int i)] [.ref v, .int i, .ref b]
          refine OwnKit.iloadN K d_jdk_52m14_18 rfl ?_
          show OwnKit.Go κ h 1 8 19 #[.val (.ref v), .val (.int i), .val (.int n), .val (.ref b), .val (.int i)] [.int i, .ref v, .int i, .ref b]
          refine OwnKit.caloadV K d_jdk_52m14_19 (v := .int c) Av (by omega) (by rw [show i.toInt.toNat = j by omega, List.getElem?_map, hcj]; rfl) ?_
          show OwnKit.Go κ h 1 8 20 #[.val (.ref v), .val (.int i), .val (.int n), .val (.ref b), .val (.int i)] [.int c, .int i, .ref b]
          refine OwnKit.invS (y := (⟨"java/lang/StringUTF16", "putChar", "([BII)V"⟩ : MethodName)) (argsL := [.ref b, .int i, .int c]) (rest := []) K (c_put l Z a0 hw n0 h b kb _ i c j i_COMPACT_STRINGS v_SIOOBE_FORMATTER hi (by omega) (by rw [own_umixLen (by omega)]; omega) Gb Ab S_COMPACT_STRINGS nz_COMPACT_STRINGS S_SIOOBE_FORMATTER hr_v_SIOOBE_FORMATTER S__assertionsDisabled S_HI_BYTE_SHIFT S_LO_BYTE_SHIFT) d_jdk_52m14_20 (hw _ (List.mem_of_getElem? (i := 99) rfl)) (hw _ (List.mem_of_getElem? (i := 100) rfl)) (hw _ (List.mem_of_getElem? (i := 52) rfl)) (hw _ (List.mem_of_getElem? (i := 101) rfl)) (by decide) (lenOf (by decide +kernel : parseMethodDescriptor "([BII)V" = some ⟨[(.array .byte), .int, .int], none⟩) rfl) rfl rfl (W := 0) (Nat.le_of_ble_eq_true rfl) (Nat.le_of_ble_eq_true rfl) (Nat.le_of_ble_eq_true rfl) (Nat.le_of_ble_eq_true rfl) (Nat.le_of_ble_eq_true rfl) ?_
          rintro _ h3 ⟨rfl, Kq, Aq⟩ g4
          rw [own_umixS hcj] at Aq
          have Av2 := Av.keep Kq (ninS nvb nin0)
          have Kp2 := Kp.trans Kq (allS (Or.inr Lb) all0)
          show OwnKit.Go κ h3 1 8 23 #[.val (.ref v), .val (.int i), .val (.int n), .val (.ref b), .val (.int i)] []
          refine OwnKit.iinc K d_jdk_52m14_23 rfl (l' := #[.val (.ref v), .val (.int (i + (1 : Int32))), .val (.int n), .val (.ref b), .val (.int i)]) rfl ?_
          show OwnKit.Go κ h3 1 8 26 #[.val (.ref v), .val (.int (i + (1 : Int32))), .val (.int n), .val (.ref b), .val (.int i)] []
          refine OwnKit.iinc K d_jdk_52m14_26 rfl (l' := #[.val (.ref v), .val (.int (i + (1 : Int32))), .val (.int n), .val (.ref b), .val (.int (i + (1 : Int32)))]) rfl ?_
          show OwnKit.Go κ h3 1 8 29 #[.val (.ref v), .val (.int (i + (1 : Int32))), .val (.int n), .val (.ref b), .val (.int (i + (1 : Int32)))] []
          refine OwnKit.goto K d_jdk_52m14_29 (by decide) (pc' := 8) rfl ?_
          show OwnKit.Go κ h3 1 8 8 #[.val (.ref v), .val (.int (i + (1 : Int32))), .val (.int n), .val (.ref b), .val (.int (i + (1 : Int32)))] []
          exact ih (j + 1) _ h3 (by rw [own_incS (by omega)]; omega) (by omega) Kp2 Av2 Aq
    show OwnKit.Go κ h0 0 0 0 #[.val (.ref v), .val (.int (0 : Int32)), .val (.int n), .unset, .unset] []
    refine OwnKit.iloadN K d_jdk_52m14_0 rfl ?_
    show OwnKit.Go κ h0 0 0 1 #[.val (.ref v), .val (.int (0 : Int32)), .val (.int n), .unset, .unset] [.int n]
    refine OwnKit.invS (y := (⟨"java/lang/StringUTF16", "newBytesFor", "(I)[B"⟩ : MethodName)) (argsL := [.int n]) (rest := []) K (c_nbf l Z a0 hw n0 h0 n cs.length hn hcap) d_jdk_52m14_1 (hw _ (List.mem_of_getElem? (i := 92) rfl)) (hw _ (List.mem_of_getElem? (i := 93) rfl)) (hw _ (List.mem_of_getElem? (i := 52) rfl)) (hw _ (List.mem_of_getElem? (i := 94) rfl)) (by decide) (lenOf (by decide +kernel : parseMethodDescriptor "(I)[B" = some ⟨[.int], some (.array .byte)⟩) rfl) rfl rfl (W := 0) (Nat.le_of_ble_eq_true rfl) (Nat.le_of_ble_eq_true rfl) (Nat.le_of_ble_eq_true rfl) (Nat.le_of_ble_eq_true rfl) (Nat.le_of_ble_eq_true rfl) ?_
    rintro _ h5 ⟨b, kb, rfl, Kb, gb, Gb, Ab⟩ g6
    have nvb : v ≠ b := fun e => absurd Av0.lt (by rw [e]; exact Nat.not_lt.mpr gb)
    have Av1 := Av0.keep Kb nin0
    show OwnKit.Go κ h5 1 8 4 #[.val (.ref v), .val (.int (0 : Int32)), .val (.int n), .unset, .unset] [.ref b]
    refine OwnKit.astoreN K d_jdk_52m14_4 rfl (l' := #[.val (.ref v), .val (.int (0 : Int32)), .val (.int n), .val (.ref b), .unset]) rfl ?_
    show OwnKit.Go κ h5 1 8 5 #[.val (.ref v), .val (.int (0 : Int32)), .val (.int n), .val (.ref b), .unset] []
    refine OwnKit.iconst K d_jdk_52m14_5 ?_
    show OwnKit.Go κ h5 1 8 6 #[.val (.ref v), .val (.int (0 : Int32)), .val (.int n), .val (.ref b), .unset] [.int (0 : Int32)]
    refine OwnKit.istore K d_jdk_52m14_6 (l' := #[.val (.ref v), .val (.int (0 : Int32)), .val (.int n), .val (.ref b), .val (.int (0 : Int32))]) rfl ?_
    show OwnKit.Go κ h5 1 8 8 #[.val (.ref v), .val (.int (0 : Int32)), .val (.int n), .val (.ref b), .val (.int (0 : Int32))] []
    exact loop b kb nvb Gb gb cs.length 0 _ h5 rfl (by omega) Kb Av1 (by rw [own_umix0]; exact Ab)
  · intro m; first | rfl | (simp [entryFrame, mkF, argsToLocals, Value.category]; done)

theorem d_jdk_52m5_0 : decode jdk_52_method_5_code 0 = .ok (.getstatic 44, 3) := by decide +kernel
theorem d_jdk_52m5_3 : decode jdk_52_method_5_code 3 = .ok (.ifCond .ne 25, 3) := by decide +kernel
theorem d_jdk_52m5_28 : decode jdk_52_method_5_code 28 = .ok (.iload_n 1, 1) := by decide +kernel
theorem d_jdk_52m5_29 : decode jdk_52_method_5_code 29 = .ok (.iconst 1, 1) := by decide +kernel
theorem d_jdk_52m5_30 : decode jdk_52_method_5_code 30 = .ok (.ishl, 1) := by decide +kernel
theorem d_jdk_52m5_31 : decode jdk_52_method_5_code 31 = .ok (.istore_n 1, 1) := by decide +kernel
theorem d_jdk_52m5_32 : decode jdk_52_method_5_code 32 = .ok (.aload_n 0, 1) := by decide +kernel
theorem d_jdk_52m5_33 : decode jdk_52_method_5_code 33 = .ok (.iload_n 1, 1) := by decide +kernel
theorem d_jdk_52m5_34 : decode jdk_52_method_5_code 34 = .ok (.iinc 1 1, 3) := by decide +kernel
theorem d_jdk_52m5_37 : decode jdk_52_method_5_code 37 = .ok (.baload, 1) := by decide +kernel
theorem d_jdk_52m5_38 : decode jdk_52_method_5_code 38 = .ok (.sipush 255, 3) := by decide +kernel
theorem d_jdk_52m5_41 : decode jdk_52_method_5_code 41 = .ok (.iand, 1) := by decide +kernel
theorem d_jdk_52m5_42 : decode jdk_52_method_5_code 42 = .ok (.getstatic 59, 3) := by decide +kernel
theorem d_jdk_52m5_45 : decode jdk_52_method_5_code 45 = .ok (.ishl, 1) := by decide +kernel
theorem d_jdk_52m5_46 : decode jdk_52_method_5_code 46 = .ok (.aload_n 0, 1) := by decide +kernel
theorem d_jdk_52m5_47 : decode jdk_52_method_5_code 47 = .ok (.iload_n 1, 1) := by decide +kernel
theorem d_jdk_52m5_48 : decode jdk_52_method_5_code 48 = .ok (.baload, 1) := by decide +kernel
theorem d_jdk_52m5_49 : decode jdk_52_method_5_code 49 = .ok (.sipush 255, 3) := by decide +kernel
theorem d_jdk_52m5_52 : decode jdk_52_method_5_code 52 = .ok (.iand, 1) := by decide +kernel
theorem d_jdk_52m5_53 : decode jdk_52_method_5_code 53 = .ok (.getstatic 63, 3) := by decide +kernel
theorem d_jdk_52m5_56 : decode jdk_52_method_5_code 56 = .ok (.ishl, 1) := by decide +kernel
theorem d_jdk_52m5_57 : decode jdk_52_method_5_code 57 = .ok (.ior, 1) := by decide +kernel
theorem d_jdk_52m5_58 : decode jdk_52_method_5_code 58 = .ok (.i2c, 1) := by decide +kernel
theorem d_jdk_52m5_59 : decode jdk_52_method_5_code 59 = .ok (.ireturn, 1) := by decide +kernel
set_option maxRecDepth 65536 in
set_option maxHeartbeats 40000000 in
theorem c_gch (l : Launch) (Z : State) (a0 : Array Value) (hw : ∀ d ∈ tables_1, d.before a0 Z = true) (n0 : Nat) (h0 : Heap) (b : Addr) (kb : ClassId) (cs : List Int32) (i c : Int32) (j : Nat) (i_COMPACT_STRINGS : Int32) (v_SIOOBE_FORMATTER : Value) (hi : i.toInt = j) (hj : j ≤ 4) (hcj : cs[j]? = some c) (hc : 0 ≤ c.toInt ∧ c.toInt ≤ 65535) (Ab0 : OwnKit.Av Z h0 b kb .byte (own_utf cs)) (S_COMPACT_STRINGS : Sta Z Z.heap "java/lang/String" "COMPACT_STRINGS" "Z" (.int i_COMPACT_STRINGS)) (nz_COMPACT_STRINGS : ¬ i_COMPACT_STRINGS = (0 : Int32)) (S_SIOOBE_FORMATTER : Sta Z Z.heap "jdk/internal/util/Preconditions" "SIOOBE_FORMATTER" "Ljava/util/function/BiFunction;" (v_SIOOBE_FORMATTER)) (hr_v_SIOOBE_FORMATTER : v_SIOOBE_FORMATTER.isRef = true) (S__assertionsDisabled : Sta Z Z.heap "java/lang/StringUTF16" "$assertionsDisabled" "Z" (.int (1 : Int32))) (S_HI_BYTE_SHIFT : Sta Z Z.heap "java/lang/StringUTF16" "HI_BYTE_SHIFT" "I" (.int (0 : Int32))) (S_LO_BYTE_SHIFT : Sta Z Z.heap "java/lang/StringUTF16" "LO_BYTE_SHIFT" "I" (.int (8 : Int32))) :
    OwnKit.Con false l Z n0 (⟨"java/lang/StringUTF16", "getChar", "([BI)C"⟩ : MethodName) jdk_52_method_5_code 2 (some .char) ({ frames := 0, cells := 0, slots := 0, locals := 0 } : Room) #[.ref b, .int i] h0 (QInt c h0) := by
  refine OwnKit.Con.of (by first | (refine plainFor_of_name ?_; simp [plainName, overriddenIn]; done) | decide +kernel) ?_ ?_
  · intro κ hwd hJ K0
    have K : OwnKit.Ok κ l Z n0 "java/lang/StringUTF16" "getChar" jdk_52_method_5_code 2 (some .char) ({ frames := 0, cells := 0, slots := 0, locals := 0 } : Room) (QInt c h0) := K0
    have ef : (entryFrame κ.m #[.ref b, .int i] 2).locals = #[.val (.ref b), .val (.int i)] := by first | (simp [entryFrame, argsToLocals, Value.category]; done) | rfl
    rw [ef]; clear ef K0
    have hc_v_SIOOBE_FORMATTER := OwnKit.catR hr_v_SIOOBE_FORMATTER
    show OwnKit.Go κ h0 0 0 0 #[.val (.ref b), .val (.int i)] []
    refine OwnKit.getstaticZ K d_jdk_52m5_0 (host := "") (Or.inl (hw _ (List.mem_of_getElem? (i := 102) rfl))) Via.refl S__assertionsDisabled ?_
    show OwnKit.Go κ h0 0 0 3 #[.val (.ref b), .val (.int i)] [.int (1 : Int32)]
    refine OwnKit.ifne K d_jdk_52m5_3 (by decide) (pc' := 28) rfl  (fun b1 => ?_) (fun b1 => ?_)
    · show OwnKit.Go κ h0 0 0 28 #[.val (.ref b), .val (.int i)] []
      refine OwnKit.iloadN K d_jdk_52m5_28 rfl ?_
      show OwnKit.Go κ h0 0 0 29 #[.val (.ref b), .val (.int i)] [.int i]
      refine OwnKit.iconst K d_jdk_52m5_29 ?_
      show OwnKit.Go κ h0 0 0 30 #[.val (.ref b), .val (.int i)] [.int (1 : Int32), .int i]
      refine OwnKit.ishl K d_jdk_52m5_30 ?_
      show OwnKit.Go κ h0 0 0 31 #[.val (.ref b), .val (.int i)] [.int (i <<< ((1 : Int32) &&& 31))]
      have hx2 := own_dbl hi (by omega)
      generalize i <<< ((1 : Int32) &&& 31) = x at hx2 ⊢
      have hx3 := own_incS (i := x) (by omega)
      show OwnKit.Go κ h0 0 0 31 #[.val (.ref b), .val (.int i)] [.int x]
      refine OwnKit.istoreN K d_jdk_52m5_31 (l' := #[.val (.ref b), .val (.int x)]) rfl ?_
      show OwnKit.Go κ h0 0 0 32 #[.val (.ref b), .val (.int x)] []
      refine OwnKit.aloadN K d_jdk_52m5_32 rfl rfl ?_
      show OwnKit.Go κ h0 0 0 33 #[.val (.ref b), .val (.int x)] [.ref b]
      refine OwnKit.iloadN K d_jdk_52m5_33 rfl ?_
      show OwnKit.Go κ h0 0 0 34 #[.val (.ref b), .val (.int x)] [.int x, .ref b]
      refine OwnKit.iinc K d_jdk_52m5_34 rfl (l' := #[.val (.ref b), .val (.int (x + (1 : Int32)))]) rfl ?_
      show OwnKit.Go κ h0 0 0 37 #[.val (.ref b), .val (.int (x + (1 : Int32)))] [.int x, .ref b]
      refine OwnKit.baloadV K d_jdk_52m5_37 (v := .int (c >>> ((0 : Int32) &&& 31)).toInt8.toInt32) Ab0 (by omega) (by rw [show (x).toInt.toNat = 2 * j by omega]; exact (own_utfAt hcj).1) ?_
      show OwnKit.Go κ h0 0 0 38 #[.val (.ref b), .val (.int (x + (1 : Int32)))] [.int ((c >>> ((0 : Int32) &&& 31)).toInt8.toInt32)]
      refine OwnKit.sipush K d_jdk_52m5_38 ?_
      show OwnKit.Go κ h0 0 0 41 #[.val (.ref b), .val (.int (x + (1 : Int32)))] [.int (255 : Int32), .int ((c >>> ((0 : Int32) &&& 31)).toInt8.toInt32)]
      refine OwnKit.iand K d_jdk_52m5_41 ?_
      show OwnKit.Go κ h0 0 0 42 #[.val (.ref b), .val (.int (x + (1 : Int32)))] [.int (((c >>> ((0 : Int32) &&& 31)).toInt8.toInt32) &&& (255 : Int32))]
      refine OwnKit.getstaticZ K d_jdk_52m5_42 (host := "") (Or.inl (hw _ (List.mem_of_getElem? (i := 103) rfl))) Via.refl S_HI_BYTE_SHIFT ?_
      show OwnKit.Go κ h0 0 0 45 #[.val (.ref b), .val (.int (x + (1 : Int32)))] [.int (0 : Int32), .int (((c >>> ((0 : Int32) &&& 31)).toInt8.toInt32) &&& (255 : Int32))]
      refine OwnKit.ishl K d_jdk_52m5_45 ?_
      show OwnKit.Go κ h0 0 0 46 #[.val (.ref b), .val (.int (x + (1 : Int32)))] [.int ((((c >>> ((0 : Int32) &&& 31)).toInt8.toInt32) &&& (255 : Int32)) <<< ((0 : Int32) &&& 31))]
      refine OwnKit.aloadN K d_jdk_52m5_46 rfl rfl ?_
      show OwnKit.Go κ h0 0 0 47 #[.val (.ref b), .val (.int (x + (1 : Int32)))] [.ref b, .int ((((c >>> ((0 : Int32) &&& 31)).toInt8.toInt32) &&& (255 : Int32)) <<< ((0 : Int32) &&& 31))]
      refine OwnKit.iloadN K d_jdk_52m5_47 rfl ?_
      show OwnKit.Go κ h0 0 0 48 #[.val (.ref b), .val (.int (x + (1 : Int32)))] [.int (x + (1 : Int32)), .ref b, .int ((((c >>> ((0 : Int32) &&& 31)).toInt8.toInt32) &&& (255 : Int32)) <<< ((0 : Int32) &&& 31))]
      refine OwnKit.baloadV K d_jdk_52m5_48 (v := .int (c >>> ((8 : Int32) &&& 31)).toInt8.toInt32) Ab0 (by omega) (by rw [show (x + (1 : Int32)).toInt.toNat = 2 * j + 1 by omega]; exact (own_utfAt hcj).2) ?_
      show OwnKit.Go κ h0 0 0 49 #[.val (.ref b), .val (.int (x + (1 : Int32)))] [.int ((c >>> ((8 : Int32) &&& 31)).toInt8.toInt32), .int ((((c >>> ((0 : Int32) &&& 31)).toInt8.toInt32) &&& (255 : Int32)) <<< ((0 : Int32) &&& 31))]
      refine OwnKit.sipush K d_jdk_52m5_49 ?_
      show OwnKit.Go κ h0 0 0 52 #[.val (.ref b), .val (.int (x + (1 : Int32)))] [.int (255 : Int32), .int ((c >>> ((8 : Int32) &&& 31)).toInt8.toInt32), .int ((((c >>> ((0 : Int32) &&& 31)).toInt8.toInt32) &&& (255 : Int32)) <<< ((0 : Int32) &&& 31))]
      refine OwnKit.iand K d_jdk_52m5_52 ?_
      show OwnKit.Go κ h0 0 0 53 #[.val (.ref b), .val (.int (x + (1 : Int32)))] [.int (((c >>> ((8 : Int32) &&& 31)).toInt8.toInt32) &&& (255 : Int32)), .int ((((c >>> ((0 : Int32) &&& 31)).toInt8.toInt32) &&& (255 : Int32)) <<< ((0 : Int32) &&& 31))]
      refine OwnKit.getstaticZ K d_jdk_52m5_53 (host := "") (Or.inl (hw _ (List.mem_of_getElem? (i := 104) rfl))) Via.refl S_LO_BYTE_SHIFT ?_
      show OwnKit.Go κ h0 0 0 56 #[.val (.ref b), .val (.int (x + (1 : Int32)))] [.int (8 : Int32), .int (((c >>> ((8 : Int32) &&& 31)).toInt8.toInt32) &&& (255 : Int32)), .int ((((c >>> ((0 : Int32) &&& 31)).toInt8.toInt32) &&& (255 : Int32)) <<< ((0 : Int32) &&& 31))]
      refine OwnKit.ishl K d_jdk_52m5_56 ?_
      show OwnKit.Go κ h0 0 0 57 #[.val (.ref b), .val (.int (x + (1 : Int32)))] [.int ((((c >>> ((8 : Int32) &&& 31)).toInt8.toInt32) &&& (255 : Int32)) <<< ((8 : Int32) &&& 31)), .int ((((c >>> ((0 : Int32) &&& 31)).toInt8.toInt32) &&& (255 : Int32)) <<< ((0 : Int32) &&& 31))]
      refine OwnKit.ior K d_jdk_52m5_57 ?_
      show OwnKit.Go κ h0 0 0 58 #[.val (.ref b), .val (.int (x + (1 : Int32)))] [.int (((((c >>> ((0 : Int32) &&& 31)).toInt8.toInt32) &&& (255 : Int32)) <<< ((0 : Int32) &&& 31)) ||| ((((c >>> ((8 : Int32) &&& 31)).toInt8.toInt32) &&& (255 : Int32)) <<< ((8 : Int32) &&& 31)))]
      refine OwnKit.i2c K d_jdk_52m5_58 ?_
      show OwnKit.Go κ h0 0 0 59 #[.val (.ref b), .val (.int (x + (1 : Int32)))] [.int ((((((c >>> ((0 : Int32) &&& 31)).toInt8.toInt32) &&& (255 : Int32)) <<< ((0 : Int32) &&& 31)) ||| ((((c >>> ((8 : Int32) &&& 31)).toInt8.toInt32) &&& (255 : Int32)) <<< ((8 : Int32) &&& 31))).toUInt32.toUInt16.toUInt32.toInt32)]
      refine OwnKit.ireturn K d_jdk_52m5_59 (Or.inr (Or.inr (Or.inr (Or.inl rfl)))) (by rw [own_get16 hc.1 hc.2]; exact own_chN hc.1 hc.2) ?_ (Nat.le_of_ble_eq_true rfl) (Nat.le_of_ble_eq_true rfl)
      · rw [own_get16 hc.1 hc.2]
        exact ⟨rfl, rfl⟩
    · exact absurd b1 (by decide)
  · intro m; first | rfl | (simp [entryFrame, mkF, argsToLocals, Value.category]; done)

theorem d_jdk_52m16_0 : decode jdk_52_method_16_code 0 = .ok (.iload_n 2, 1) := by decide +kernel
theorem d_jdk_52m16_1 : decode jdk_52_method_16_code 1 = .ok (.newarray .byte, 2) := by decide +kernel
theorem d_jdk_52m16_3 : decode jdk_52_method_16_code 3 = .ok (.astore_n 3, 1) := by decide +kernel
theorem d_jdk_52m16_4 : decode jdk_52_method_16_code 4 = .ok (.aload_n 0, 1) := by decide +kernel
theorem d_jdk_52m16_5 : decode jdk_52_method_16_code 5 = .ok (.iload_n 1, 1) := by decide +kernel
theorem d_jdk_52m16_6 : decode jdk_52_method_16_code 6 = .ok (.aload_n 3, 1) := by decide +kernel
theorem d_jdk_52m16_7 : decode jdk_52_method_16_code 7 = .ok (.iconst 0, 1) := by decide +kernel
theorem d_jdk_52m16_8 : decode jdk_52_method_16_code 8 = .ok (.iload_n 2, 1) := by decide +kernel
theorem d_jdk_52m16_9 : decode jdk_52_method_16_code 9 = .ok (.invokestatic 115, 3) := by decide +kernel
theorem d_jdk_52m16_12 : decode jdk_52_method_16_code 12 = .ok (.istore 4, 2) := by decide +kernel
theorem d_jdk_52m16_14 : decode jdk_52_method_16_code 14 = .ok (.iload 4, 2) := by decide +kernel
theorem d_jdk_52m16_16 : decode jdk_52_method_16_code 16 = .ok (.iload_n 2, 1) := by decide +kernel
theorem d_jdk_52m16_17 : decode jdk_52_method_16_code 17 = .ok (.if_icmp .eq 40, 3) := by decide +kernel
theorem d_jdk_52m16_20 : decode jdk_52_method_16_code 20 = .ok (.aload_n 0, 1) := by decide +kernel
theorem d_jdk_52m16_21 : decode jdk_52_method_16_code 21 = .ok (.iload_n 1, 1) := by decide +kernel
theorem d_jdk_52m16_22 : decode jdk_52_method_16_code 22 = .ok (.iload_n 2, 1) := by decide +kernel
theorem d_jdk_52m16_23 : decode jdk_52_method_16_code 23 = .ok (.invokestatic 119, 3) := by decide +kernel
theorem d_jdk_52m16_26 : decode jdk_52_method_16_code 26 = .ok (.astore 5, 2) := by decide +kernel
theorem d_jdk_52m16_28 : decode jdk_52_method_16_code 28 = .ok (.aload 5, 2) := by decide +kernel
theorem d_jdk_52m16_30 : decode jdk_52_method_16_code 30 = .ok (.iload 4, 2) := by decide +kernel
theorem d_jdk_52m16_32 : decode jdk_52_method_16_code 32 = .ok (.invokestatic 71, 3) := by decide +kernel
theorem d_jdk_52m16_35 : decode jdk_52_method_16_code 35 = .ok (.sipush 255, 3) := by decide +kernel
theorem d_jdk_52m16_38 : decode jdk_52_method_16_code 38 = .ok (.if_icmp .gt 16, 3) := by decide +kernel
theorem d_jdk_52m16_54 : decode jdk_52_method_16_code 54 = .ok (.aload 5, 2) := by decide +kernel
theorem d_jdk_52m16_56 : decode jdk_52_method_16_code 56 = .ok (.areturn, 1) := by decide +kernel
theorem d_jdk_52m16_57 : decode jdk_52_method_16_code 57 = .ok (.aload_n 3, 1) := by decide +kernel
theorem d_jdk_52m16_58 : decode jdk_52_method_16_code 58 = .ok (.areturn, 1) := by decide +kernel
set_option maxRecDepth 65536 in
set_option maxHeartbeats 40000000 in
theorem c_compG (l : Launch) (Z : State) (a0 : Array Value) (hw : ∀ d ∈ tables_1, d.before a0 Z = true) (n0 : Nat) (h0 : Heap) (v : Addr) (kv : ClassId) (cs : List Int32) (n : Int32) (i_COMPACT_STRINGS : Int32) (v_SIOOBE_FORMATTER : Value) (hn : n.toInt = cs.length) (hcap : cs.length ≤ 4) (hch : own_chs cs) (Av0 : OwnKit.Av Z h0 v kv .char (cs.map Value.int)) (S_COMPACT_STRINGS : Sta Z Z.heap "java/lang/String" "COMPACT_STRINGS" "Z" (.int i_COMPACT_STRINGS)) (nz_COMPACT_STRINGS : ¬ i_COMPACT_STRINGS = (0 : Int32)) (S_SIOOBE_FORMATTER : Sta Z Z.heap "jdk/internal/util/Preconditions" "SIOOBE_FORMATTER" "Ljava/util/function/BiFunction;" (v_SIOOBE_FORMATTER)) (hr_v_SIOOBE_FORMATTER : v_SIOOBE_FORMATTER.isRef = true) (S__assertionsDisabled : Sta Z Z.heap "java/lang/StringUTF16" "$assertionsDisabled" "Z" (.int (1 : Int32))) (S_HI_BYTE_SHIFT : Sta Z Z.heap "java/lang/StringUTF16" "HI_BYTE_SHIFT" "I" (.int (0 : Int32))) (S_LO_BYTE_SHIFT : Sta Z Z.heap "java/lang/StringUTF16" "LO_BYTE_SHIFT" "I" (.int (8 : Int32))) :
    OwnKit.Con false l Z n0 (⟨"java/lang/StringUTF16", "compress", "([CII)[B"⟩ : MethodName) jdk_52_method_16_code 6 (some (.array .byte)) ({ frames := 3, cells := 2, slots := 12, locals := 40 } : Room) #[.ref v, .int (0 : Int32), .int n] h0 (QCompG Z cs h0) := by
  refine OwnKit.Con.of (by first | (refine plainFor_of_name ?_; simp [plainName, overriddenIn]; done) | decide +kernel) ?_ ?_
  · intro κ hwd hJ K0
    have K : OwnKit.Ok κ l Z n0 "java/lang/StringUTF16" "compress" jdk_52_method_16_code 6 (some (.array .byte)) ({ frames := 3, cells := 2, slots := 12, locals := 40 } : Room) (QCompG Z cs h0) := K0
    have ef : (entryFrame κ.m #[.ref v, .int (0 : Int32), .int n] 6).locals = #[.val (.ref v), .val (.int (0 : Int32)), .val (.int n), .unset, .unset, .unset] := by first | (simp [entryFrame, argsToLocals, Value.category]; done) | rfl
    rw [ef]; clear ef K0
    have hc_v_SIOOBE_FORMATTER := OwnKit.catR hr_v_SIOOBE_FORMATTER
    have K0 := Keep.refl h0 []
    have e255 : (255 : Int32).toInt = 255 := rfl
    show OwnKit.Go κ h0 0 0 0 #[.val (.ref v), .val (.int (0 : Int32)), .val (.int n), .unset, .unset, .unset] []
    refine OwnKit.iloadN K d_jdk_52m16_0 rfl ?_
    show OwnKit.Go κ h0 0 0 1 #[.val (.ref v), .val (.int (0 : Int32)), .val (.int n), .unset, .unset, .unset] [.int n]
    refine OwnKit.newArrV (cap := 4) K d_jdk_52m16_1 (hw _ (List.mem_of_getElem? (i := 23) rfl)) (by omega) (by omega) (by decide) (by decide) (by decide) ?_
    intro h1 a2 k3 g4 G5 Ex6 A7 E8
    have ne9 : v ≠ a2 := by rw [g4]; exact Nat.ne_of_lt Av0.lt
    have L10 : h0.size ≤ a2 := g4 ▸ K0.1
    have A11 := Av0.ext Ex6
    have K12 := K0.ext Ex6
    have A13 : OwnKit.Av Z h1 a2 k3 .byte (List.replicate cs.length (.int 0)) := by rw [hn] at A7; exact A7
    show OwnKit.Go κ h1 1 4 3 #[.val (.ref v), .val (.int (0 : Int32)), .val (.int n), .unset, .unset, .unset] [.ref a2]
    refine OwnKit.astoreN K d_jdk_52m16_3 rfl (l' := #[.val (.ref v), .val (.int (0 : Int32)), .val (.int n), .val (.ref a2), .unset, .unset]) rfl ?_
    show OwnKit.Go κ h1 1 4 4 #[.val (.ref v), .val (.int (0 : Int32)), .val (.int n), .val (.ref a2), .unset, .unset] []
    refine OwnKit.aloadN K d_jdk_52m16_4 rfl rfl ?_
    show OwnKit.Go κ h1 1 4 5 #[.val (.ref v), .val (.int (0 : Int32)), .val (.int n), .val (.ref a2), .unset, .unset] [.ref v]
    refine OwnKit.iloadN K d_jdk_52m16_5 rfl ?_
    show OwnKit.Go κ h1 1 4 6 #[.val (.ref v), .val (.int (0 : Int32)), .val (.int n), .val (.ref a2), .unset, .unset] [.int (0 : Int32), .ref v]
    refine OwnKit.aloadN K d_jdk_52m16_6 rfl rfl ?_
    show OwnKit.Go κ h1 1 4 7 #[.val (.ref v), .val (.int (0 : Int32)), .val (.int n), .val (.ref a2), .unset, .unset] [.ref a2, .int (0 : Int32), .ref v]
    refine OwnKit.iconst K d_jdk_52m16_7 ?_
    show OwnKit.Go κ h1 1 4 8 #[.val (.ref v), .val (.int (0 : Int32)), .val (.int n), .val (.ref a2), .unset, .unset] [.int (0 : Int32), .ref a2, .int (0 : Int32), .ref v]
    refine OwnKit.iloadN K d_jdk_52m16_8 rfl ?_
    show OwnKit.Go κ h1 1 4 9 #[.val (.ref v), .val (.int (0 : Int32)), .val (.int n), .val (.ref a2), .unset, .unset] [.int n, .int (0 : Int32), .ref a2, .int (0 : Int32), .ref v]
    refine OwnKit.invS (y := (⟨"java/lang/StringUTF16", "compress", "([CI[BII)I"⟩ : MethodName)) (argsL := [.ref v, .int (0 : Int32), .ref a2, .int (0 : Int32), .int n]) (rest := []) K (c_comp l Z a0 hw n0 h1 v a2 kv k3 cs n hn hch G5 ne9 A11 A13) d_jdk_52m16_9 (hw _ (List.mem_of_getElem? (i := 54) rfl)) (hw _ (List.mem_of_getElem? (i := 55) rfl)) (hw _ (List.mem_of_getElem? (i := 52) rfl)) (hw _ (List.mem_of_getElem? (i := 56) rfl)) (by decide) (lenOf (by decide +kernel : parseMethodDescriptor "([CI[BII)I" = some ⟨[(.array .char), .int, (.array .byte), .int, .int], some .int⟩) rfl) rfl rfl (W := 0) (Nat.le_of_ble_eq_true rfl) (Nat.le_of_ble_eq_true rfl) (Nat.le_of_ble_eq_true rfl) (Nat.le_of_ble_eq_true rfl) (Nat.le_of_ble_eq_true rfl) ?_
    rintro _ h14 ⟨r, rfl, Kx, hr0, hr⟩ g15
    have A16 := A11.keep Kx (ninS ne9 nin0)
    have K17 := K12.trans Kx (allS (Or.inr L10) all0)
    show OwnKit.Go κ h14 1 4 12 #[.val (.ref v), .val (.int (0 : Int32)), .val (.int n), .val (.ref a2), .unset, .unset] [.int r]
    refine OwnKit.istore K d_jdk_52m16_12 (l' := #[.val (.ref v), .val (.int (0 : Int32)), .val (.int n), .val (.ref a2), .val (.int r), .unset]) rfl ?_
    show OwnKit.Go κ h14 1 4 14 #[.val (.ref v), .val (.int (0 : Int32)), .val (.int n), .val (.ref a2), .val (.int r), .unset] []
    refine OwnKit.iload K d_jdk_52m16_14 rfl ?_
    show OwnKit.Go κ h14 1 4 16 #[.val (.ref v), .val (.int (0 : Int32)), .val (.int n), .val (.ref a2), .val (.int r), .unset] [.int r]
    refine OwnKit.iloadN K d_jdk_52m16_16 rfl ?_
    show OwnKit.Go κ h14 1 4 17 #[.val (.ref v), .val (.int (0 : Int32)), .val (.int n), .val (.ref a2), .val (.int r), .unset] [.int n, .int r]
    refine OwnKit.icmpeq K d_jdk_52m16_17 (by decide) (pc' := 57) rfl  (fun b18 => ?_) (fun b18 => ?_)
    · show OwnKit.Go κ h14 1 4 57 #[.val (.ref v), .val (.int (0 : Int32)), .val (.int n), .val (.ref a2), .val (.int r), .unset] []
      refine OwnKit.aloadN K d_jdk_52m16_57 rfl rfl ?_
      show OwnKit.Go κ h14 1 4 58 #[.val (.ref v), .val (.int (0 : Int32)), .val (.int n), .val (.ref a2), .val (.int r), .unset] [.ref a2]
      refine OwnKit.areturn K d_jdk_52m16_58 rfl rfl ?_ (Nat.le_of_ble_eq_true rfl) (Nat.le_of_ble_eq_true rfl)
      · have hrn := congrArg Int32.toInt b18
        rcases hr with ⟨q, hl, A⟩ | ⟨q, -⟩
        · exact ⟨_, _, 0, rfl, K17, L10, Or.inl ⟨hl, rfl, A⟩⟩
        · omega
    · show OwnKit.Go κ h14 1 4 20 #[.val (.ref v), .val (.int (0 : Int32)), .val (.int n), .val (.ref a2), .val (.int r), .unset] []
      refine OwnKit.aloadN K d_jdk_52m16_20 rfl rfl ?_
      show OwnKit.Go κ h14 1 4 21 #[.val (.ref v), .val (.int (0 : Int32)), .val (.int n), .val (.ref a2), .val (.int r), .unset] [.ref v]
      refine OwnKit.iloadN K d_jdk_52m16_21 rfl ?_
      show OwnKit.Go κ h14 1 4 22 #[.val (.ref v), .val (.int (0 : Int32)), .val (.int n), .val (.ref a2), .val (.int r), .unset] [.int (0 : Int32), .ref v]
      refine OwnKit.iloadN K d_jdk_52m16_22 rfl ?_
      show OwnKit.Go κ h14 1 4 23 #[.val (.ref v), .val (.int (0 : Int32)), .val (.int n), .val (.ref a2), .val (.int r), .unset] [.int n, .int (0 : Int32), .ref v]
      obtain ⟨hr1, c, hcj, hc2⟩ := hr.resolve_left (fun q => b18 (Int32.toInt_inj.mp (q.1.trans hn.symm)))
      refine OwnKit.invS (y := (⟨"java/lang/StringUTF16", "toBytes", "([CII)[B"⟩ : MethodName)) (argsL := [.ref v, .int (0 : Int32), .int n]) (rest := []) K (c_tob16 l Z a0 hw n0 h14 v kv cs n i_COMPACT_STRINGS v_SIOOBE_FORMATTER hn hcap A16 S_COMPACT_STRINGS nz_COMPACT_STRINGS S_SIOOBE_FORMATTER hr_v_SIOOBE_FORMATTER S__assertionsDisabled S_HI_BYTE_SHIFT S_LO_BYTE_SHIFT) d_jdk_52m16_23 (hw _ (List.mem_of_getElem? (i := 89) rfl)) (hw _ (List.mem_of_getElem? (i := 90) rfl)) (hw _ (List.mem_of_getElem? (i := 52) rfl)) (hw _ (List.mem_of_getElem? (i := 91) rfl)) (by decide) (lenOf (by decide +kernel : parseMethodDescriptor "([CII)[B" = some ⟨[(.array .char), .int, .int], some (.array .byte)⟩) rfl) rfl rfl (W := 0) (Nat.le_of_ble_eq_true rfl) (Nat.le_of_ble_eq_true rfl) (Nat.le_of_ble_eq_true rfl) (Nat.le_of_ble_eq_true rfl) (Nat.le_of_ble_eq_true rfl) ?_
      rintro _ h19 ⟨b2, k2, rfl, Kb, gb, Gb, Ab⟩ g20
      have L21 : h0.size ≤ b2 := Nat.le_trans K17.1 gb
      have A22 := A16.keep Kb nin0
      have K23 := K17.trans Kb all0
      show OwnKit.Go κ h19 2 12 26 #[.val (.ref v), .val (.int (0 : Int32)), .val (.int n), .val (.ref a2), .val (.int r), .unset] [.ref b2]
      refine OwnKit.astore K d_jdk_52m16_26 rfl (l' := #[.val (.ref v), .val (.int (0 : Int32)), .val (.int n), .val (.ref a2), .val (.int r), .val (.ref b2)]) rfl ?_
      show OwnKit.Go κ h19 2 12 28 #[.val (.ref v), .val (.int (0 : Int32)), .val (.int n), .val (.ref a2), .val (.int r), .val (.ref b2)] []
      refine OwnKit.aload K d_jdk_52m16_28 rfl rfl ?_
      show OwnKit.Go κ h19 2 12 30 #[.val (.ref v), .val (.int (0 : Int32)), .val (.int n), .val (.ref a2), .val (.int r), .val (.ref b2)] [.ref b2]
      refine OwnKit.iload K d_jdk_52m16_30 rfl ?_
      show OwnKit.Go κ h19 2 12 32 #[.val (.ref v), .val (.int (0 : Int32)), .val (.int n), .val (.ref a2), .val (.int r), .val (.ref b2)] [.int r, .ref b2]
      refine OwnKit.invS (y := (⟨"java/lang/StringUTF16", "getChar", "([BI)C"⟩ : MethodName)) (argsL := [.ref b2, .int r]) (rest := []) K (c_gch l Z a0 hw n0 h19 b2 k2 cs r c r.toInt.toNat i_COMPACT_STRINGS v_SIOOBE_FORMATTER (by omega) (by omega) hcj (hch c (List.mem_of_getElem? hcj)) Ab S_COMPACT_STRINGS nz_COMPACT_STRINGS S_SIOOBE_FORMATTER hr_v_SIOOBE_FORMATTER S__assertionsDisabled S_HI_BYTE_SHIFT S_LO_BYTE_SHIFT) d_jdk_52m16_32 (hw _ (List.mem_of_getElem? (i := 105) rfl)) (hw _ (List.mem_of_getElem? (i := 106) rfl)) (hw _ (List.mem_of_getElem? (i := 52) rfl)) (hw _ (List.mem_of_getElem? (i := 107) rfl)) (by decide) (lenOf (by decide +kernel : parseMethodDescriptor "([BI)C" = some ⟨[(.array .byte), .int], some .char⟩) rfl) rfl rfl (W := 0) (Nat.le_of_ble_eq_true rfl) (Nat.le_of_ble_eq_true rfl) (Nat.le_of_ble_eq_true rfl) (Nat.le_of_ble_eq_true rfl) (Nat.le_of_ble_eq_true rfl) ?_
      rintro _ h24 ⟨rfl, rfl⟩ g25
      show OwnKit.Go κ h19 2 12 35 #[.val (.ref v), .val (.int (0 : Int32)), .val (.int n), .val (.ref a2), .val (.int r), .val (.ref b2)] [.int c]
      refine OwnKit.sipush K d_jdk_52m16_35 ?_
      show OwnKit.Go κ h19 2 12 38 #[.val (.ref v), .val (.int (0 : Int32)), .val (.int n), .val (.ref a2), .val (.int r), .val (.ref b2)] [.int (255 : Int32), .int c]
      refine OwnKit.icmpgt K d_jdk_52m16_38 (by decide) (pc' := 54) rfl  (fun b26 => ?_) (fun b26 => ?_)
      · show OwnKit.Go κ h19 2 12 54 #[.val (.ref v), .val (.int (0 : Int32)), .val (.int n), .val (.ref a2), .val (.int r), .val (.ref b2)] []
        refine OwnKit.aload K d_jdk_52m16_54 rfl rfl ?_
        show OwnKit.Go κ h19 2 12 56 #[.val (.ref v), .val (.int (0 : Int32)), .val (.int n), .val (.ref a2), .val (.int r), .val (.ref b2)] [.ref b2]
        refine OwnKit.areturn K d_jdk_52m16_56 rfl rfl ?_ (Nat.le_of_ble_eq_true rfl) (Nat.le_of_ble_eq_true rfl)
        exact ⟨b2, k2, 1, rfl, K23, L21, Or.inr ⟨fun hl => absurd (own_latAt hl hcj) (by omega), rfl, Ab⟩⟩
      · exfalso; omega
  · intro m; first | rfl | (simp [entryFrame, mkF, argsToLocals, Value.category]; done)

theorem d_jdk_52m15_0 : decode jdk_52_method_15_code 0 = .ok (.iload_n 1, 1) := by decide +kernel
theorem d_jdk_52m15_1 : decode jdk_52_method_15_code 1 = .ok (.aload_n 0, 1) := by decide +kernel
theorem d_jdk_52m15_2 : decode jdk_52_method_15_code 2 = .ok (.arraylength, 1) := by decide +kernel
theorem d_jdk_52m15_3 : decode jdk_52_method_15_code 3 = .ok (.isub, 1) := by decide +kernel
theorem d_jdk_52m15_4 : decode jdk_52_method_15_code 4 = .ok (.bipush 31, 2) := by decide +kernel
theorem d_jdk_52m15_6 : decode jdk_52_method_15_code 6 = .ok (.iushr, 1) := by decide +kernel
theorem d_jdk_52m15_7 : decode jdk_52_method_15_code 7 = .ok (.i2b, 1) := by decide +kernel
theorem d_jdk_52m15_8 : decode jdk_52_method_15_code 8 = .ok (.ireturn, 1) := by decide +kernel
set_option maxRecDepth 65536 in
set_option maxHeartbeats 40000000 in
theorem c_cfl (l : Launch) (Z : State) (a0 : Array Value) (hw : ∀ d ∈ tables_1, d.before a0 Z = true) (n0 : Nat) (h0 : Heap) (b : Addr) (kb : ClassId) (cs : List Int32) (n cd : Int32) (hn : n.toInt = cs.length) (h1 : 0 < cs.length) (SB : StrB Z h0 b kb cs cd) :
    OwnKit.Con false l Z n0 (⟨"java/lang/StringUTF16", "coderFromArrayLen", "([BI)B"⟩ : MethodName) jdk_52_method_15_code 2 (some .byte) ({ frames := 0, cells := 0, slots := 0, locals := 0 } : Room) #[.ref b, .int n] h0 (QInt cd h0) := by
  refine OwnKit.Con.of (by first | (refine plainFor_of_name ?_; simp [plainName, overriddenIn]; done) | decide +kernel) ?_ ?_
  · intro κ hwd hJ K0
    have K : OwnKit.Ok κ l Z n0 "java/lang/StringUTF16" "coderFromArrayLen" jdk_52_method_15_code 2 (some .byte) ({ frames := 0, cells := 0, slots := 0, locals := 0 } : Room) (QInt cd h0) := K0
    have ef : (entryFrame κ.m #[.ref b, .int n] 2).locals = #[.val (.ref b), .val (.int n)] := by first | (simp [entryFrame, argsToLocals, Value.category]; done) | rfl
    rw [ef]; clear ef K0
    obtain ⟨vs, hcd, Ab0⟩ : ∃ vs : List Value, ((n.toInt = vs.length ∧ cd = 0) ∨ (2 * n.toInt = vs.length ∧ 0 < n.toInt ∧ cd = 1)) ∧ OwnKit.Av Z h0 b kb .byte vs := by
      rcases SB with ⟨-, rfl, A⟩ | ⟨-, rfl, A⟩
      · exact ⟨_, Or.inl ⟨by simpa using hn, rfl⟩, A⟩
      · exact ⟨_, Or.inr ⟨by rw [own_utfLen]; omega, by omega, rfl⟩, A⟩
    show OwnKit.Go κ h0 0 0 0 #[.val (.ref b), .val (.int n)] []
    refine OwnKit.iloadN K d_jdk_52m15_0 rfl ?_
    show OwnKit.Go κ h0 0 0 1 #[.val (.ref b), .val (.int n)] [.int n]
    refine OwnKit.aloadN K d_jdk_52m15_1 rfl rfl ?_
    show OwnKit.Go κ h0 0 0 2 #[.val (.ref b), .val (.int n)] [.ref b, .int n]
    refine OwnKit.lenV K d_jdk_52m15_2 Ab0 ?_
    show OwnKit.Go κ h0 0 0 3 #[.val (.ref b), .val (.int n)] [.int (Int32.ofNat (vs).length), .int n]
    refine OwnKit.isub K d_jdk_52m15_3 ?_
    show OwnKit.Go κ h0 0 0 4 #[.val (.ref b), .val (.int n)] [.int (n - (Int32.ofNat (vs).length))]
    refine OwnKit.bipush K d_jdk_52m15_4 ?_
    show OwnKit.Go κ h0 0 0 6 #[.val (.ref b), .val (.int n)] [.int (31 : Int32), .int (n - (Int32.ofNat (vs).length))]
    refine OwnKit.iushr K d_jdk_52m15_6 ?_
    show OwnKit.Go κ h0 0 0 7 #[.val (.ref b), .val (.int n)] [.int (XT.ushr (n - (Int32.ofNat (vs).length)) (31 : Int32))]
    refine OwnKit.i2b K d_jdk_52m15_7 ?_
    show OwnKit.Go κ h0 0 0 8 #[.val (.ref b), .val (.int n)] [.int ((XT.ushr (n - (Int32.ofNat (vs).length)) (31 : Int32)).toInt8.toInt32)]
    refine OwnKit.ireturn K d_jdk_52m15_8 (Or.inr (Or.inr (Or.inl rfl))) (by rw [own_cfl Ab0.len hcd]; rcases hcd with ⟨-, rfl⟩ | ⟨-, -, rfl⟩ <;> rfl) ?_ (Nat.le_of_ble_eq_true rfl) (Nat.le_of_ble_eq_true rfl)
    · rw [own_cfl Ab0.len hcd]
      exact ⟨rfl, rfl⟩
  · intro m; first | rfl | (simp [entryFrame, mkF, argsToLocals, Value.category]; done)

theorem d_jdk_42m149_0 : decode jdk_42_method_149_code 0 = .ok (.aload_n 0, 1) := by decide +kernel
theorem d_jdk_42m149_1 : decode jdk_42_method_149_code 1 = .ok (.invokespecial 1, 3) := by decide +kernel
theorem d_jdk_42m149_4 : decode jdk_42_method_149_code 4 = .ok (.iload_n 3, 1) := by decide +kernel
theorem d_jdk_42m149_5 : decode jdk_42_method_149_code 5 = .ok (.ifCond .ne 22, 3) := by decide +kernel
theorem d_jdk_42m149_27 : decode jdk_42_method_149_code 27 = .ok (.getstatic 38, 3) := by decide +kernel
theorem d_jdk_42m149_30 : decode jdk_42_method_149_code 30 = .ok (.ifCond .eq 28, 3) := by decide +kernel
theorem d_jdk_42m149_33 : decode jdk_42_method_149_code 33 = .ok (.aload_n 1, 1) := by decide +kernel
theorem d_jdk_42m149_34 : decode jdk_42_method_149_code 34 = .ok (.iload_n 2, 1) := by decide +kernel
theorem d_jdk_42m149_35 : decode jdk_42_method_149_code 35 = .ok (.iload_n 3, 1) := by decide +kernel
theorem d_jdk_42m149_36 : decode jdk_42_method_149_code 36 = .ok (.invokestatic 177, 3) := by decide +kernel
theorem d_jdk_42m149_39 : decode jdk_42_method_149_code 39 = .ok (.astore 5, 2) := by decide +kernel
theorem d_jdk_42m149_41 : decode jdk_42_method_149_code 41 = .ok (.aload_n 0, 1) := by decide +kernel
theorem d_jdk_42m149_42 : decode jdk_42_method_149_code 42 = .ok (.aload 5, 2) := by decide +kernel
theorem d_jdk_42m149_44 : decode jdk_42_method_149_code 44 = .ok (.iload_n 3, 1) := by decide +kernel
theorem d_jdk_42m149_45 : decode jdk_42_method_149_code 45 = .ok (.invokestatic 47, 3) := by decide +kernel
theorem d_jdk_42m149_48 : decode jdk_42_method_149_code 48 = .ok (.putfield 15, 3) := by decide +kernel
theorem d_jdk_42m149_51 : decode jdk_42_method_149_code 51 = .ok (.aload_n 0, 1) := by decide +kernel
theorem d_jdk_42m149_52 : decode jdk_42_method_149_code 52 = .ok (.aload 5, 2) := by decide +kernel
theorem d_jdk_42m149_54 : decode jdk_42_method_149_code 54 = .ok (.putfield 9, 3) := by decide +kernel
theorem d_jdk_42m149_57 : decode jdk_42_method_149_code 57 = .ok (.return_, 1) := by decide +kernel
set_option maxRecDepth 65536 in
set_option maxHeartbeats 40000000 in
theorem c_init4G (l : Launch) (Z : State) (a0 : Array Value) (hw : ∀ d ∈ tables_1, d.before a0 Z = true) (n0 : Nat) (h0 : Heap) (a v : Addr) (kv : ClassId) (cs : List Int32) (n : Int32) (i_COMPACT_STRINGS : Int32) (v_SIOOBE_FORMATTER : Value) (hn : n.toInt = cs.length) (h1 : 0 < cs.length) (hcap : cs.length ≤ 4) (hch : own_chs cs) (nva : v ≠ a) (Av0 : OwnKit.Av Z h0 v kv .char (cs.map Value.int)) (E_a : Exa Z h0 a "java/lang/String") (G_a : n0 ≤ a) (F_a_value : Fld Z h0 a "java/lang/String" "value" "[B" (.null)) (F_a_coder : Fld Z h0 a "java/lang/String" "coder" "B" (.int (0 : Int32))) (S_COMPACT_STRINGS : Sta Z Z.heap "java/lang/String" "COMPACT_STRINGS" "Z" (.int i_COMPACT_STRINGS)) (nz_COMPACT_STRINGS : ¬ i_COMPACT_STRINGS = (0 : Int32)) (S_SIOOBE_FORMATTER : Sta Z Z.heap "jdk/internal/util/Preconditions" "SIOOBE_FORMATTER" "Ljava/util/function/BiFunction;" (v_SIOOBE_FORMATTER)) (hr_v_SIOOBE_FORMATTER : v_SIOOBE_FORMATTER.isRef = true) (S__assertionsDisabled : Sta Z Z.heap "java/lang/StringUTF16" "$assertionsDisabled" "Z" (.int (1 : Int32))) (S_HI_BYTE_SHIFT : Sta Z Z.heap "java/lang/StringUTF16" "HI_BYTE_SHIFT" "I" (.int (0 : Int32))) (S_LO_BYTE_SHIFT : Sta Z Z.heap "java/lang/StringUTF16" "LO_BYTE_SHIFT" "I" (.int (8 : Int32))) :
    OwnKit.Con false l Z n0 (⟨"java/lang/String", "<init>", "([CIILjava/lang/Void;)V"⟩ : MethodName) jdk_42_method_149_code 6 none ({ frames := 4, cells := 2, slots := 12, locals := 57 } : Room) #[.ref a, .ref v, .int (0 : Int32), .int n, .null] h0 (QStr Z a cs h0) := by
  refine OwnKit.Con.of (by first | (refine plainFor_of_name ?_; simp [plainName, overriddenIn]; done) | decide +kernel) ?_ ?_
  · intro κ hwd hJ K0
    have K : OwnKit.Ok κ l Z n0 "java/lang/String" "<init>" jdk_42_method_149_code 6 none ({ frames := 4, cells := 2, slots := 12, locals := 57 } : Room) (QStr Z a cs h0) := K0
    have ef : (entryFrame κ.m #[.ref a, .ref v, .int (0 : Int32), .int n, .null] 6).locals = #[.val (.ref a), .val (.ref v), .val (.int (0 : Int32)), .val (.int n), .val (.null), .unset] := by first | (simp [entryFrame, argsToLocals, Value.category]; done) | rfl
    rw [ef]; clear ef K0
    have hc_v_SIOOBE_FORMATTER := OwnKit.catR hr_v_SIOOBE_FORMATTER
    show OwnKit.Go κ h0 0 0 0 #[.val (.ref a), .val (.ref v), .val (.int (0 : Int32)), .val (.int n), .val (.null), .unset] []
    refine OwnKit.aloadN K d_jdk_42m149_0 rfl rfl ?_
    show OwnKit.Go κ h0 0 0 1 #[.val (.ref a), .val (.ref v), .val (.int (0 : Int32)), .val (.int n), .val (.null), .unset] [.ref a]
    refine OwnKit.invO (W := 0) K d_jdk_42m149_1 (hw _ (List.mem_of_getElem? (i := 19) rfl)) (hw _ (List.mem_of_getElem? (i := 20) rfl)) (hw _ (List.mem_of_getElem? (i := 21) rfl)) rfl (Nat.le_of_ble_eq_true rfl) (Nat.le_of_ble_eq_true rfl) (Nat.le_of_ble_eq_true rfl) ?_
    show OwnKit.Go κ h0 0 0 4 #[.val (.ref a), .val (.ref v), .val (.int (0 : Int32)), .val (.int n), .val (.null), .unset] []
    refine OwnKit.iloadN K d_jdk_42m149_4 rfl ?_
    show OwnKit.Go κ h0 0 0 5 #[.val (.ref a), .val (.ref v), .val (.int (0 : Int32)), .val (.int n), .val (.null), .unset] [.int n]
    refine OwnKit.ifne K d_jdk_42m149_5 (by decide) (pc' := 27) rfl  (fun b1 => ?_) (fun b1 => ?_)
    · show OwnKit.Go κ h0 0 0 27 #[.val (.ref a), .val (.ref v), .val (.int (0 : Int32)), .val (.int n), .val (.null), .unset] []
      refine OwnKit.getstaticZ K d_jdk_42m149_27 (host := "") (Or.inl (hw _ (List.mem_of_getElem? (i := 44) rfl))) Via.refl S_COMPACT_STRINGS ?_
      show OwnKit.Go κ h0 0 0 30 #[.val (.ref a), .val (.ref v), .val (.int (0 : Int32)), .val (.int n), .val (.null), .unset] [.int i_COMPACT_STRINGS]
      refine OwnKit.ifeq K d_jdk_42m149_30 (by decide) (pc' := 58) rfl  (fun b2 => ?_) (fun b2 => ?_)
      · exact absurd b2 nz_COMPACT_STRINGS
      · show OwnKit.Go κ h0 0 0 33 #[.val (.ref a), .val (.ref v), .val (.int (0 : Int32)), .val (.int n), .val (.null), .unset] []
        refine OwnKit.aloadN K d_jdk_42m149_33 rfl rfl ?_
        show OwnKit.Go κ h0 0 0 34 #[.val (.ref a), .val (.ref v), .val (.int (0 : Int32)), .val (.int n), .val (.null), .unset] [.ref v]
        refine OwnKit.iloadN K d_jdk_42m149_34 rfl ?_
        show OwnKit.Go κ h0 0 0 35 #[.val (.ref a), .val (.ref v), .val (.int (0 : Int32)), .val (.int n), .val (.null), .unset] [.int (0 : Int32), .ref v]
        refine OwnKit.iloadN K d_jdk_42m149_35 rfl ?_
        show OwnKit.Go κ h0 0 0 36 #[.val (.ref a), .val (.ref v), .val (.int (0 : Int32)), .val (.int n), .val (.null), .unset] [.int n, .int (0 : Int32), .ref v]
        refine OwnKit.invS (y := (⟨"java/lang/StringUTF16", "compress", "([CII)[B"⟩ : MethodName)) (argsL := [.ref v, .int (0 : Int32), .int n]) (rest := []) K (c_compG l Z a0 hw n0 h0 v kv cs n i_COMPACT_STRINGS v_SIOOBE_FORMATTER hn hcap hch Av0 S_COMPACT_STRINGS nz_COMPACT_STRINGS S_SIOOBE_FORMATTER hr_v_SIOOBE_FORMATTER S__assertionsDisabled S_HI_BYTE_SHIFT S_LO_BYTE_SHIFT) d_jdk_42m149_36 (hw _ (List.mem_of_getElem? (i := 50) rfl)) (hw _ (List.mem_of_getElem? (i := 51) rfl)) (hw _ (List.mem_of_getElem? (i := 52) rfl)) (hw _ (List.mem_of_getElem? (i := 53) rfl)) (by decide) (lenOf (by decide +kernel : parseMethodDescriptor "([CII)[B" = some ⟨[(.array .char), .int, .int], some (.array .byte)⟩) rfl) rfl rfl (W := 0) (Nat.le_of_ble_eq_true rfl) (Nat.le_of_ble_eq_true rfl) (Nat.le_of_ble_eq_true rfl) (Nat.le_of_ble_eq_true rfl) (Nat.le_of_ble_eq_true rfl) ?_
        rintro _ h3 ⟨b, kb, cd, rfl, Kx, gb, SB⟩ g4
        have ne5 : a ≠ b := fun e => absurd E_a.lt (by rw [e]; exact Nat.not_lt.mpr gb)
        have E6 := E_a.keep Kx
        have F7 := F_a_value.keep Kx nin0
        have F8 := F_a_coder.keep Kx nin0
        have A9 := Av0.keep Kx nin0
        have hcd := SB.cd
        show OwnKit.Go κ h3 2 12 39 #[.val (.ref a), .val (.ref v), .val (.int (0 : Int32)), .val (.int n), .val (.null), .unset] [.ref b]
        refine OwnKit.astore K d_jdk_42m149_39 rfl (l' := #[.val (.ref a), .val (.ref v), .val (.int (0 : Int32)), .val (.int n), .val (.null), .val (.ref b)]) rfl ?_
        show OwnKit.Go κ h3 2 12 41 #[.val (.ref a), .val (.ref v), .val (.int (0 : Int32)), .val (.int n), .val (.null), .val (.ref b)] []
        refine OwnKit.aloadN K d_jdk_42m149_41 rfl rfl ?_
        show OwnKit.Go κ h3 2 12 42 #[.val (.ref a), .val (.ref v), .val (.int (0 : Int32)), .val (.int n), .val (.null), .val (.ref b)] [.ref a]
        refine OwnKit.aload K d_jdk_42m149_42 rfl rfl ?_
        show OwnKit.Go κ h3 2 12 44 #[.val (.ref a), .val (.ref v), .val (.int (0 : Int32)), .val (.int n), .val (.null), .val (.ref b)] [.ref b, .ref a]
        refine OwnKit.iloadN K d_jdk_42m149_44 rfl ?_
        show OwnKit.Go κ h3 2 12 45 #[.val (.ref a), .val (.ref v), .val (.int (0 : Int32)), .val (.int n), .val (.null), .val (.ref b)] [.int n, .ref b, .ref a]
        refine OwnKit.invS (y := (⟨"java/lang/StringUTF16", "coderFromArrayLen", "([BI)B"⟩ : MethodName)) (argsL := [.ref b, .int n]) (rest := [.ref a]) K (c_cfl l Z a0 hw n0 h3 b kb cs n cd hn h1 SB) d_jdk_42m149_45 (hw _ (List.mem_of_getElem? (i := 57) rfl)) (hw _ (List.mem_of_getElem? (i := 58) rfl)) (hw _ (List.mem_of_getElem? (i := 52) rfl)) (hw _ (List.mem_of_getElem? (i := 59) rfl)) (by decide) (lenOf (by decide +kernel : parseMethodDescriptor "([BI)B" = some ⟨[(.array .byte), .int], some .byte⟩) rfl) rfl rfl (W := 1) (Nat.le_of_ble_eq_true rfl) (Nat.le_of_ble_eq_true rfl) (Nat.le_of_ble_eq_true rfl) (Nat.le_of_ble_eq_true rfl) (Nat.le_of_ble_eq_true rfl) ?_
        rintro _ h10 ⟨rfl, rfl⟩ g11
        show OwnKit.Go κ h3 2 12 48 #[.val (.ref a), .val (.ref v), .val (.int (0 : Int32)), .val (.int n), .val (.null), .val (.ref b)] [.int cd, .ref a]
        refine OwnKit.putfield K d_jdk_42m149_48 (host := "") (Or.inl (hw _ (List.mem_of_getElem? (i := 29) rfl))) Via.refl F8 E6 (Or.inr ⟨(hw _ (List.mem_of_getElem? (i := 25) rfl)), rfl, rfl⟩) (hw _ (List.mem_of_getElem? (i := 9) rfl)) (show parseFieldDescriptor "B" = some (.byte) from by decide +kernel) (by rcases hcd with rfl | rfl <;> rfl) (by rcases hcd with rfl | rfl <;> rfl) G_a ?_
        intro h12 W13
        have E14 := E6.wr W13
        have F15 := Fld.other W13 F7 (Or.inr (RoadKit.slot_ne (t := (.array .byte)) (t' := .byte) (Or.inr (hw _ (List.mem_of_getElem? (i := 24) rfl))) (Or.inr (hw _ (List.mem_of_getElem? (i := 25) rfl))) (by decide) (by decide +kernel) (by decide +kernel)))
        have F16 := Fld.same W13 F8
        have A17 := SB.other W13 (Ne.symm ne5)
        show OwnKit.Go κ h12 2 12 51 #[.val (.ref a), .val (.ref v), .val (.int (0 : Int32)), .val (.int n), .val (.null), .val (.ref b)] []
        refine OwnKit.aloadN K d_jdk_42m149_51 rfl rfl ?_
        show OwnKit.Go κ h12 2 12 52 #[.val (.ref a), .val (.ref v), .val (.int (0 : Int32)), .val (.int n), .val (.null), .val (.ref b)] [.ref a]
        refine OwnKit.aload K d_jdk_42m149_52 rfl rfl ?_
        show OwnKit.Go κ h12 2 12 54 #[.val (.ref a), .val (.ref v), .val (.int (0 : Int32)), .val (.int n), .val (.null), .val (.ref b)] [.ref b, .ref a]
        refine OwnKit.putfield K d_jdk_42m149_54 (host := "") (Or.inl (hw _ (List.mem_of_getElem? (i := 28) rfl))) Via.refl F15 E14 (Or.inr ⟨(hw _ (List.mem_of_getElem? (i := 24) rfl)), rfl, rfl⟩) (hw _ (List.mem_of_getElem? (i := 9) rfl)) (show parseFieldDescriptor "[B" = some ((.array .byte)) from by decide +kernel) rfl rfl G_a ?_
        intro h18 W19
        have E20 := E14.wr W19
        have F21 := Fld.same W19 F15
        have F22 := Fld.other W19 F16 (Or.inr (RoadKit.slot_ne (t := .byte) (t' := (.array .byte)) (Or.inr (hw _ (List.mem_of_getElem? (i := 25) rfl))) (Or.inr (hw _ (List.mem_of_getElem? (i := 24) rfl))) (by decide) (by decide +kernel) (by decide +kernel)))
        have A23 := A17.other W19 (Ne.symm ne5)
        show OwnKit.Go κ h18 2 12 57 #[.val (.ref a), .val (.ref v), .val (.int (0 : Int32)), .val (.int n), .val (.null), .val (.ref b)] []
        refine OwnKit.return0 K d_jdk_42m149_57  ?_ (Nat.le_of_ble_eq_true rfl) (Nat.le_of_ble_eq_true rfl)
        exact ⟨rfl, b, kb, cd, E20, F21, F22, A23⟩
    · exfalso
      rw [b1] at hn
      have e0 : (0 : Int32).toInt = 0 := rfl
      omega
  · intro m; first | rfl | (simp [entryFrame, mkF, argsToLocals, Value.category]; done)

theorem d_jdk_42m3_0 : decode jdk_42_method_3_code 0 = .ok (.aload_n 0, 1) := by decide +kernel
theorem d_jdk_42m3_1 : decode jdk_42_method_3_code 1 = .ok (.aload_n 1, 1) := by decide +kernel
theorem d_jdk_42m3_2 : decode jdk_42_method_3_code 2 = .ok (.iconst 0, 1) := by decide +kernel
theorem d_jdk_42m3_3 : decode jdk_42_method_3_code 3 = .ok (.aload_n 1, 1) := by decide +kernel
theorem d_jdk_42m3_4 : decode jdk_42_method_3_code 4 = .ok (.arraylength, 1) := by decide +kernel
theorem d_jdk_42m3_5 : decode jdk_42_method_3_code 5 = .ok (.aconst_null, 1) := by decide +kernel
theorem d_jdk_42m3_6 : decode jdk_42_method_3_code 6 = .ok (.invokespecial 27, 3) := by decide +kernel
theorem d_jdk_42m3_9 : decode jdk_42_method_3_code 9 = .ok (.return_, 1) := by decide +kernel
set_option maxRecDepth 65536 in
set_option maxHeartbeats 40000000 in
theorem c_initG (l : Launch) (Z : State) (a0 : Array Value) (hw : ∀ d ∈ tables_1, d.before a0 Z = true) (n0 : Nat) (h0 : Heap) (a v : Addr) (kv : ClassId) (cs : List Int32) (i_COMPACT_STRINGS : Int32) (v_SIOOBE_FORMATTER : Value) (h1 : 0 < cs.length) (hcap : cs.length ≤ 4) (hch : own_chs cs) (nva : v ≠ a) (Av0 : OwnKit.Av Z h0 v kv .char (cs.map Value.int)) (E_a : Exa Z h0 a "java/lang/String") (G_a : n0 ≤ a) (F_a_value : Fld Z h0 a "java/lang/String" "value" "[B" (.null)) (F_a_coder : Fld Z h0 a "java/lang/String" "coder" "B" (.int (0 : Int32))) (S_COMPACT_STRINGS : Sta Z Z.heap "java/lang/String" "COMPACT_STRINGS" "Z" (.int i_COMPACT_STRINGS)) (nz_COMPACT_STRINGS : ¬ i_COMPACT_STRINGS = (0 : Int32)) (S_SIOOBE_FORMATTER : Sta Z Z.heap "jdk/internal/util/Preconditions" "SIOOBE_FORMATTER" "Ljava/util/function/BiFunction;" (v_SIOOBE_FORMATTER)) (hr_v_SIOOBE_FORMATTER : v_SIOOBE_FORMATTER.isRef = true) (S__assertionsDisabled : Sta Z Z.heap "java/lang/StringUTF16" "$assertionsDisabled" "Z" (.int (1 : Int32))) (S_HI_BYTE_SHIFT : Sta Z Z.heap "java/lang/StringUTF16" "HI_BYTE_SHIFT" "I" (.int (0 : Int32))) (S_LO_BYTE_SHIFT : Sta Z Z.heap "java/lang/StringUTF16" "LO_BYTE_SHIFT" "I" (.int (8 : Int32))) :
    OwnKit.Con false l Z n0 (⟨"java/lang/String", "<init>", "([C)V"⟩ : MethodName) jdk_42_method_3_code 2 none ({ frames := 5, cells := 2, slots := 12, locals := 74 } : Room) #[.ref a, .ref v] h0 (QStr Z a cs h0) := by
  refine OwnKit.Con.of (by first | (refine plainFor_of_name ?_; simp [plainName, overriddenIn]; done) | decide +kernel) ?_ ?_
  · intro κ hwd hJ K0
    have K : OwnKit.Ok κ l Z n0 "java/lang/String" "<init>" jdk_42_method_3_code 2 none ({ frames := 5, cells := 2, slots := 12, locals := 74 } : Room) (QStr Z a cs h0) := K0
    have ef : (entryFrame κ.m #[.ref a, .ref v] 2).locals = #[.val (.ref a), .val (.ref v)] := by first | (simp [entryFrame, argsToLocals, Value.category]; done) | rfl
    rw [ef]; clear ef K0
    have hn : (Int32.ofNat (cs.map Value.int).length).toInt = cs.length := by have := Av0.len; rw [len_toInt this]; simp
    show OwnKit.Go κ h0 0 0 0 #[.val (.ref a), .val (.ref v)] []
    refine OwnKit.aloadN K d_jdk_42m3_0 rfl rfl ?_
    show OwnKit.Go κ h0 0 0 1 #[.val (.ref a), .val (.ref v)] [.ref a]
    refine OwnKit.aloadN K d_jdk_42m3_1 rfl rfl ?_
    show OwnKit.Go κ h0 0 0 2 #[.val (.ref a), .val (.ref v)] [.ref v, .ref a]
    refine OwnKit.iconst K d_jdk_42m3_2 ?_
    show OwnKit.Go κ h0 0 0 3 #[.val (.ref a), .val (.ref v)] [.int (0 : Int32), .ref v, .ref a]
    refine OwnKit.aloadN K d_jdk_42m3_3 rfl rfl ?_
    show OwnKit.Go κ h0 0 0 4 #[.val (.ref a), .val (.ref v)] [.ref v, .int (0 : Int32), .ref v, .ref a]
    refine OwnKit.lenV K d_jdk_42m3_4 Av0 ?_
    show OwnKit.Go κ h0 0 0 5 #[.val (.ref a), .val (.ref v)] [.int (Int32.ofNat (cs.map Value.int).length), .int (0 : Int32), .ref v, .ref a]
    refine OwnKit.aconstNull K d_jdk_42m3_5 ?_
    show OwnKit.Go κ h0 0 0 6 #[.val (.ref a), .val (.ref v)] [.null, .int (Int32.ofNat (cs.map Value.int).length), .int (0 : Int32), .ref v, .ref a]
    refine OwnKit.invC (y := (⟨"java/lang/String", "<init>", "([CIILjava/lang/Void;)V"⟩ : MethodName)) (argsL := [.ref v, .int (0 : Int32), .int (Int32.ofNat (cs.map Value.int).length), .null]) (rest := []) K (c_init4G l Z a0 hw n0 h0 a v kv cs _ i_COMPACT_STRINGS v_SIOOBE_FORMATTER hn h1 hcap hch nva Av0 E_a G_a F_a_value F_a_coder S_COMPACT_STRINGS nz_COMPACT_STRINGS S_SIOOBE_FORMATTER hr_v_SIOOBE_FORMATTER S__assertionsDisabled S_HI_BYTE_SHIFT S_LO_BYTE_SHIFT) d_jdk_42m3_6 rfl (hw _ (List.mem_of_getElem? (i := 15) rfl)) (hw _ (List.mem_of_getElem? (i := 16) rfl)) (hw _ (List.mem_of_getElem? (i := 18) rfl)) (hw _ (List.mem_of_getElem? (i := 10) rfl)) (by decide) (lenOf (by decide +kernel : parseMethodDescriptor "([CIILjava/lang/Void;)V" = some ⟨[(.array .char), .int, .int, (.object "java/lang/Void")], none⟩) rfl) rfl rfl (W := 0) (Nat.le_of_ble_eq_true rfl) (Nat.le_of_ble_eq_true rfl) (Nat.le_of_ble_eq_true rfl) (Nat.le_of_ble_eq_true rfl) (Nat.le_of_ble_eq_true rfl) ?_
    rintro _ h1 ⟨rfl, hq⟩ g2
    show OwnKit.Go κ h1 2 12 9 #[.val (.ref a), .val (.ref v)] []
    refine OwnKit.return0 K d_jdk_42m3_9  ?_ (Nat.le_of_ble_eq_true rfl) (Nat.le_of_ble_eq_true rfl)
    exact ⟨rfl, hq⟩
  · intro m; first | rfl | (simp [entryFrame, mkF, argsToLocals, Value.category]; done)

theorem own_wS {Z : State} {a0 : Array Value} (hw : ∀ d ∈ tables_1, d.before a0 Z = true) : ∀ a ∈ Bundle.stringAtoms, a.before a0 Z = true := by
  intro a ha
  simp only [Bundle.stringAtoms, List.mem_cons, List.not_mem_nil, or_false] at ha
  rcases ha with rfl | rfl | rfl | rfl | rfl | rfl | rfl
  · exact hw _ (List.mem_of_getElem? (i := 10) rfl)
  · exact hw _ (List.mem_of_getElem? (i := 9) rfl)
  · exact hw _ (List.mem_of_getElem? (i := 23) rfl)
  · exact hw _ (List.mem_of_getElem? (i := 24) rfl)
  · exact hw _ (List.mem_of_getElem? (i := 25) rfl)
  · exact hw _ (List.mem_of_getElem? (i := 26) rfl)
  · exact hw _ (List.mem_of_getElem? (i := 27) rfl)

theorem d_jdk_42m149_8 : decode jdk_42_method_149_code 8 = .ok (.aload_n 0, 1) := by decide +kernel
theorem d_jdk_42m149_9 : decode jdk_42_method_149_code 9 = .ok (.ldc 7, 2) := by decide +kernel
theorem d_jdk_42m149_11 : decode jdk_42_method_149_code 11 = .ok (.getfield 9, 3) := by decide +kernel
theorem d_jdk_42m149_14 : decode jdk_42_method_149_code 14 = .ok (.putfield 9, 3) := by decide +kernel
theorem d_jdk_42m149_17 : decode jdk_42_method_149_code 17 = .ok (.aload_n 0, 1) := by decide +kernel
theorem d_jdk_42m149_18 : decode jdk_42_method_149_code 18 = .ok (.ldc 7, 2) := by decide +kernel
theorem d_jdk_42m149_20 : decode jdk_42_method_149_code 20 = .ok (.getfield 15, 3) := by decide +kernel
theorem d_jdk_42m149_23 : decode jdk_42_method_149_code 23 = .ok (.putfield 15, 3) := by decide +kernel
theorem d_jdk_42m149_26 : decode jdk_42_method_149_code 26 = .ok (.return_, 1) := by decide +kernel
set_option maxRecDepth 65536 in
set_option maxHeartbeats 40000000 in
theorem c_init4E (l : Launch) (Z : State) (a0 : Array Value) (hw : ∀ d ∈ tables_1, d.before a0 Z = true) (n0 : Nat) (h0 : Heap) (a v : Addr) (i_COMPACT_STRINGS : Int32) (v_SIOOBE_FORMATTER : Value) (hEL : EW Z a0 [("java/lang/String", 7)]) (hCH : CHv Z [("java/lang/String", 7)] Z.vm Z.heap) (E_a : Exa Z h0 a "java/lang/String") (G_a : n0 ≤ a) (F_a_value : Fld Z h0 a "java/lang/String" "value" "[B" (.null)) (F_a_coder : Fld Z h0 a "java/lang/String" "coder" "B" (.int (0 : Int32))) (S_COMPACT_STRINGS : Sta Z Z.heap "java/lang/String" "COMPACT_STRINGS" "Z" (.int i_COMPACT_STRINGS)) (nz_COMPACT_STRINGS : ¬ i_COMPACT_STRINGS = (0 : Int32)) (S_SIOOBE_FORMATTER : Sta Z Z.heap "jdk/internal/util/Preconditions" "SIOOBE_FORMATTER" "Ljava/util/function/BiFunction;" (v_SIOOBE_FORMATTER)) (hr_v_SIOOBE_FORMATTER : v_SIOOBE_FORMATTER.isRef = true) (S__assertionsDisabled : Sta Z Z.heap "java/lang/StringUTF16" "$assertionsDisabled" "Z" (.int (1 : Int32))) (S_HI_BYTE_SHIFT : Sta Z Z.heap "java/lang/StringUTF16" "HI_BYTE_SHIFT" "I" (.int (0 : Int32))) (S_LO_BYTE_SHIFT : Sta Z Z.heap "java/lang/StringUTF16" "LO_BYTE_SHIFT" "I" (.int (8 : Int32))) :
    OwnKit.ConX (OwnKit.Exact Z) true l Z n0 (⟨"java/lang/String", "<init>", "([CIILjava/lang/Void;)V"⟩ : MethodName) jdk_42_method_149_code 6 none ({ frames := 1, cells := 2, slots := 4, locals := 12 } : Room) #[.ref a, .ref v, .int (0 : Int32), .int (0 : Int32), .null] h0 (QStr Z a [] h0) := by
  refine OwnKit.Con.of (by first | (refine plainFor_of_name ?_; simp [plainName, overriddenIn]; done) | decide +kernel) ?_ ?_
  · intro κ hwd hJ K0
    have K : OwnKit.Ok κ l Z n0 "java/lang/String" "<init>" jdk_42_method_149_code 6 none ({ frames := 1, cells := 2, slots := 4, locals := 12 } : Room) (QStr Z a [] h0) := K0
    have ef : (entryFrame κ.m #[.ref a, .ref v, .int (0 : Int32), .int (0 : Int32), .null] 6).locals = #[.val (.ref a), .val (.ref v), .val (.int (0 : Int32)), .val (.int (0 : Int32)), .val (.null), .unset] := by first | (simp [entryFrame, argsToLocals, Value.category]; done) | rfl
    rw [ef]; clear ef K0
    show OwnKit.Go κ h0 0 0 0 #[.val (.ref a), .val (.ref v), .val (.int (0 : Int32)), .val (.int (0 : Int32)), .val (.null), .unset] []
    refine OwnKit.aloadN K d_jdk_42m149_0 rfl rfl ?_
    show OwnKit.Go κ h0 0 0 1 #[.val (.ref a), .val (.ref v), .val (.int (0 : Int32)), .val (.int (0 : Int32)), .val (.null), .unset] [.ref a]
    refine OwnKit.invO (W := 0) K d_jdk_42m149_1 (hw _ (List.mem_of_getElem? (i := 19) rfl)) (hw _ (List.mem_of_getElem? (i := 20) rfl)) (hw _ (List.mem_of_getElem? (i := 21) rfl)) rfl (Nat.le_of_ble_eq_true rfl) (Nat.le_of_ble_eq_true rfl) (Nat.le_of_ble_eq_true rfl) ?_
    show OwnKit.Go κ h0 0 0 4 #[.val (.ref a), .val (.ref v), .val (.int (0 : Int32)), .val (.int (0 : Int32)), .val (.null), .unset] []
    refine OwnKit.iloadN K d_jdk_42m149_4 rfl ?_
    show OwnKit.Go κ h0 0 0 5 #[.val (.ref a), .val (.ref v), .val (.int (0 : Int32)), .val (.int (0 : Int32)), .val (.null), .unset] [.int (0 : Int32)]
    refine OwnKit.ifne K d_jdk_42m149_5 (by decide) (pc' := 27) rfl  (fun b1 => ?_) (fun b1 => ?_)
    · exact absurd b1 (by decide)
    · show OwnKit.Go κ h0 0 0 8 #[.val (.ref a), .val (.ref v), .val (.int (0 : Int32)), .val (.int (0 : Int32)), .val (.null), .unset] []
      refine OwnKit.aloadN K d_jdk_42m149_8 rfl rfl ?_
      show OwnKit.Go κ h0 0 0 9 #[.val (.ref a), .val (.ref v), .val (.int (0 : Int32)), .val (.int (0 : Int32)), .val (.null), .unset] [.ref a]
      refine OwnKit.ldcLit (EL := [("java/lang/String", 7)]) (text := "") (vs := []) (z := 0) (n := 0) K hwd (fun vm q => by rw [hJ] at q; exact q) d_jdk_42m149_9 (hw _ (List.mem_of_getElem? (i := 22) rfl)) (own_wS hw) hEL (by simp) hCH ⟨by simp, by simp⟩ rfl (by decide) (by decide) (Nat.le_of_ble_eq_true rfl) (Nat.le_of_ble_eq_true rfl) ?_
      intro a7 b7 k7 h7 Ex7 E7 FC7 FV7 A7
      have K2 := OwnKit.Ok.setJ (J := fun vm => Lit (κ.s.setVm vm) "java/lang/String" 7 a7) K
      have hj2 : ∀ vm, (κ.setJ fun vm => Lit (κ.s.setVm vm) "java/lang/String" 7 a7).J vm → Lit ((κ.setJ fun vm => Lit (κ.s.setVm vm) "java/lang/String" 7 a7).s.setVm vm) "java/lang/String" 7 a7 := fun _ q => q
      clear K hwd hJ
      generalize κ.setJ (fun vm => Lit (κ.s.setVm vm) "java/lang/String" 7 a7) = κ at *
      have K := K2
      clear K2
      have E2 := E_a.ext Ex7
      have F3 := F_a_value.ext Ex7
      have F4 := F_a_coder.ext Ex7
      have ne7 : a ≠ a7 := fun e => OwnKit.ordNe F3 FV7 (by simp) (congrArg Value.ref e)
      have ne8 : b7 ≠ a := OwnKit.av_ne A7 E2 (hw _ (List.mem_of_getElem? (i := 9) rfl))
      show OwnKit.Go κ h7 2 4 11 #[.val (.ref a), .val (.ref v), .val (.int (0 : Int32)), .val (.int (0 : Int32)), .val (.null), .unset] [.ref a7, .ref a]
      refine OwnKit.getfield K d_jdk_42m149_11 (host := "") (Or.inl (hw _ (List.mem_of_getElem? (i := 28) rfl))) Via.refl FV7 ?_
      show OwnKit.Go κ h7 2 4 14 #[.val (.ref a), .val (.ref v), .val (.int (0 : Int32)), .val (.int (0 : Int32)), .val (.null), .unset] [.ref b7, .ref a]
      refine OwnKit.putfield K d_jdk_42m149_14 (host := "") (Or.inl (hw _ (List.mem_of_getElem? (i := 28) rfl))) Via.refl F3 E2 (Or.inr ⟨(hw _ (List.mem_of_getElem? (i := 24) rfl)), rfl, rfl⟩) (hw _ (List.mem_of_getElem? (i := 9) rfl)) (show parseFieldDescriptor "[B" = some ((.array .byte)) from by decide +kernel) rfl rfl G_a ?_
      intro h5 W6
      have E7 := E2.wr W6
      have F8 := Fld.same W6 F3
      have F9 := Fld.other W6 F4 (Or.inr (RoadKit.slot_ne (t := .byte) (t' := (.array .byte)) (Or.inr (hw _ (List.mem_of_getElem? (i := 25) rfl))) (Or.inr (hw _ (List.mem_of_getElem? (i := 24) rfl))) (by decide) (by decide +kernel) (by decide +kernel)))
      have F10 := Fld.other W6 FV7 (Or.inl (Ne.symm ne7))
      have F11 := Fld.other W6 FC7 (Or.inl (Ne.symm ne7))
      have A12 := A7.other W6 ne8
      show OwnKit.Go κ h5 2 4 17 #[.val (.ref a), .val (.ref v), .val (.int (0 : Int32)), .val (.int (0 : Int32)), .val (.null), .unset] []
      refine OwnKit.aloadN K d_jdk_42m149_17 rfl rfl ?_
      show OwnKit.Go κ h5 2 4 18 #[.val (.ref a), .val (.ref v), .val (.int (0 : Int32)), .val (.int (0 : Int32)), .val (.null), .unset] [.ref a]
      refine OwnKit.ldcLit2 (a := a7) (text := "") K hj2 d_jdk_42m149_18 (hw _ (List.mem_of_getElem? (i := 22) rfl)) ?_
      show OwnKit.Go κ h5 2 4 20 #[.val (.ref a), .val (.ref v), .val (.int (0 : Int32)), .val (.int (0 : Int32)), .val (.null), .unset] [.ref a7, .ref a]
      refine OwnKit.getfield K d_jdk_42m149_20 (host := "") (Or.inl (hw _ (List.mem_of_getElem? (i := 29) rfl))) Via.refl F11 ?_
      show OwnKit.Go κ h5 2 4 23 #[.val (.ref a), .val (.ref v), .val (.int (0 : Int32)), .val (.int (0 : Int32)), .val (.null), .unset] [.int (0 : Int32), .ref a]
      refine OwnKit.putfield K d_jdk_42m149_23 (host := "") (Or.inl (hw _ (List.mem_of_getElem? (i := 29) rfl))) Via.refl F9 E7 (Or.inr ⟨(hw _ (List.mem_of_getElem? (i := 25) rfl)), rfl, rfl⟩) (hw _ (List.mem_of_getElem? (i := 9) rfl)) (show parseFieldDescriptor "B" = some (.byte) from by decide +kernel) rfl rfl G_a ?_
      intro h13 W14
      have E15 := E7.wr W14
      have F16 := Fld.other W14 F8 (Or.inr (RoadKit.slot_ne (t := (.array .byte)) (t' := .byte) (Or.inr (hw _ (List.mem_of_getElem? (i := 24) rfl))) (Or.inr (hw _ (List.mem_of_getElem? (i := 25) rfl))) (by decide) (by decide +kernel) (by decide +kernel)))
      have F17 := Fld.same W14 F9
      have F18 := Fld.other W14 F10 (Or.inl (Ne.symm ne7))
      have F19 := Fld.other W14 F11 (Or.inl (Ne.symm ne7))
      have A20 := A12.other W14 ne8
      show OwnKit.Go κ h13 2 4 26 #[.val (.ref a), .val (.ref v), .val (.int (0 : Int32)), .val (.int (0 : Int32)), .val (.null), .unset] []
      refine OwnKit.return0 K d_jdk_42m149_26  ?_ (Nat.le_of_ble_eq_true rfl) (Nat.le_of_ble_eq_true rfl)
      exact ⟨rfl, b7, k7, 0, E15, F16, F17, Or.inl ⟨(by intro c h; cases h), rfl, A20⟩⟩
  · intro m; first | rfl | (simp [entryFrame, mkF, argsToLocals, Value.category]; done)

set_option maxRecDepth 65536 in
set_option maxHeartbeats 40000000 in
theorem c_initE (l : Launch) (Z : State) (a0 : Array Value) (hw : ∀ d ∈ tables_1, d.before a0 Z = true) (n0 : Nat) (h0 : Heap) (a v : Addr) (kv : ClassId) (i_COMPACT_STRINGS : Int32) (v_SIOOBE_FORMATTER : Value) (hEL : EW Z a0 [("java/lang/String", 7)]) (hCH : CHv Z [("java/lang/String", 7)] Z.vm Z.heap) (Av0 : OwnKit.Av Z h0 v kv .char []) (E_a : Exa Z h0 a "java/lang/String") (G_a : n0 ≤ a) (F_a_value : Fld Z h0 a "java/lang/String" "value" "[B" (.null)) (F_a_coder : Fld Z h0 a "java/lang/String" "coder" "B" (.int (0 : Int32))) (S_COMPACT_STRINGS : Sta Z Z.heap "java/lang/String" "COMPACT_STRINGS" "Z" (.int i_COMPACT_STRINGS)) (nz_COMPACT_STRINGS : ¬ i_COMPACT_STRINGS = (0 : Int32)) (S_SIOOBE_FORMATTER : Sta Z Z.heap "jdk/internal/util/Preconditions" "SIOOBE_FORMATTER" "Ljava/util/function/BiFunction;" (v_SIOOBE_FORMATTER)) (hr_v_SIOOBE_FORMATTER : v_SIOOBE_FORMATTER.isRef = true) (S__assertionsDisabled : Sta Z Z.heap "java/lang/StringUTF16" "$assertionsDisabled" "Z" (.int (1 : Int32))) (S_HI_BYTE_SHIFT : Sta Z Z.heap "java/lang/StringUTF16" "HI_BYTE_SHIFT" "I" (.int (0 : Int32))) (S_LO_BYTE_SHIFT : Sta Z Z.heap "java/lang/StringUTF16" "LO_BYTE_SHIFT" "I" (.int (8 : Int32))) :
    OwnKit.ConX (OwnKit.Exact Z) true l Z n0 (⟨"java/lang/String", "<init>", "([C)V"⟩ : MethodName) jdk_42_method_3_code 2 none ({ frames := 2, cells := 2, slots := 4, locals := 29 } : Room) #[.ref a, .ref v] h0 (QStr Z a [] h0) := by
  refine OwnKit.Con.of (by first | (refine plainFor_of_name ?_; simp [plainName, overriddenIn]; done) | decide +kernel) ?_ ?_
  · intro κ hwd hJ K0
    have K : OwnKit.Ok κ l Z n0 "java/lang/String" "<init>" jdk_42_method_3_code 2 none ({ frames := 2, cells := 2, slots := 4, locals := 29 } : Room) (QStr Z a [] h0) := K0
    have ef : (entryFrame κ.m #[.ref a, .ref v] 2).locals = #[.val (.ref a), .val (.ref v)] := by first | (simp [entryFrame, argsToLocals, Value.category]; done) | rfl
    rw [ef]; clear ef K0
    show OwnKit.Go κ h0 0 0 0 #[.val (.ref a), .val (.ref v)] []
    refine OwnKit.aloadN K d_jdk_42m3_0 rfl rfl ?_
    show OwnKit.Go κ h0 0 0 1 #[.val (.ref a), .val (.ref v)] [.ref a]
    refine OwnKit.aloadN K d_jdk_42m3_1 rfl rfl ?_
    show OwnKit.Go κ h0 0 0 2 #[.val (.ref a), .val (.ref v)] [.ref v, .ref a]
    refine OwnKit.iconst K d_jdk_42m3_2 ?_
    show OwnKit.Go κ h0 0 0 3 #[.val (.ref a), .val (.ref v)] [.int (0 : Int32), .ref v, .ref a]
    refine OwnKit.aloadN K d_jdk_42m3_3 rfl rfl ?_
    show OwnKit.Go κ h0 0 0 4 #[.val (.ref a), .val (.ref v)] [.ref v, .int (0 : Int32), .ref v, .ref a]
    refine OwnKit.lenV K d_jdk_42m3_4 Av0 ?_
    show OwnKit.Go κ h0 0 0 5 #[.val (.ref a), .val (.ref v)] [.int (0 : Int32), .int (0 : Int32), .ref v, .ref a]
    refine OwnKit.aconstNull K d_jdk_42m3_5 ?_
    show OwnKit.Go κ h0 0 0 6 #[.val (.ref a), .val (.ref v)] [.null, .int (0 : Int32), .int (0 : Int32), .ref v, .ref a]
    refine OwnKit.invCE (y := (⟨"java/lang/String", "<init>", "([CIILjava/lang/Void;)V"⟩ : MethodName)) (argsL := [.ref v, .int (0 : Int32), .int (0 : Int32), .null]) (rest := []) K hwd (fun vm q => by rw [hJ] at q; exact q) (c_init4E l Z a0 hw n0 h0 a v i_COMPACT_STRINGS v_SIOOBE_FORMATTER hEL hCH E_a G_a F_a_value F_a_coder S_COMPACT_STRINGS nz_COMPACT_STRINGS S_SIOOBE_FORMATTER hr_v_SIOOBE_FORMATTER S__assertionsDisabled S_HI_BYTE_SHIFT S_LO_BYTE_SHIFT) d_jdk_42m3_6 rfl (hw _ (List.mem_of_getElem? (i := 15) rfl)) (hw _ (List.mem_of_getElem? (i := 16) rfl)) (hw _ (List.mem_of_getElem? (i := 18) rfl)) (hw _ (List.mem_of_getElem? (i := 10) rfl)) (by decide) (lenOf (by decide +kernel : parseMethodDescriptor "([CIILjava/lang/Void;)V" = some ⟨[(.array .char), .int, .int, (.object "java/lang/Void")], none⟩) rfl) rfl rfl (W := 0) (Nat.le_of_ble_eq_true rfl) (Nat.le_of_ble_eq_true rfl) (Nat.le_of_ble_eq_true rfl) (Nat.le_of_ble_eq_true rfl) (Nat.le_of_ble_eq_true rfl) ?_
    rintro _ h1 ⟨rfl, hq⟩ g2
    have K2 := OwnKit.Ok.setJ (J := fun _ => True) K
    have hw2 : (κ.setJ fun _ => True).wide = true := hwd
    have hj2 : (κ.setJ fun _ => True).J = fun _ => True := rfl
    clear K hwd hJ
    generalize κ.setJ (fun _ => True) = κ at *
    have K := K2
    have hwd := hw2
    have hJ := hj2
    clear K2 hw2 hj2
    show OwnKit.Go κ h1 2 4 9 #[.val (.ref a), .val (.ref v)] []
    refine OwnKit.return0 K d_jdk_42m3_9  ?_ (Nat.le_of_ble_eq_true rfl) (Nat.le_of_ble_eq_true rfl)
    exact ⟨rfl, hq⟩
  · intro m; first | rfl | (simp [entryFrame, mkF, argsToLocals, Value.category]; done)

theorem d_jdk_42m152_0 : decode jdk_42_method_152_code 0 = .ok (.getstatic 38, 3) := by decide +kernel
theorem d_jdk_42m152_3 : decode jdk_42_method_152_code 3 = .ok (.ifCond .eq 10, 3) := by decide +kernel
theorem d_jdk_42m152_6 : decode jdk_42_method_152_code 6 = .ok (.aload_n 0, 1) := by decide +kernel
theorem d_jdk_42m152_7 : decode jdk_42_method_152_code 7 = .ok (.getfield 15, 3) := by decide +kernel
theorem d_jdk_42m152_10 : decode jdk_42_method_152_code 10 = .ok (.goto 4, 3) := by decide +kernel
theorem d_jdk_42m152_14 : decode jdk_42_method_152_code 14 = .ok (.ireturn, 1) := by decide +kernel
set_option maxRecDepth 65536 in
set_option maxHeartbeats 40000000 in
theorem c_coder (l : Launch) (Z : State) (a0 : Array Value) (hw : ∀ d ∈ tables_1, d.before a0 Z = true) (n0 : Nat) (h0 : Heap) (a : Addr) (cd : Int32) (i_COMPACT_STRINGS : Int32) (v_SIOOBE_FORMATTER : Value) (hcd : cd = 0 ∨ cd = 1) (FC : Fld Z h0 a "java/lang/String" "coder" "B" (.int cd)) (S_COMPACT_STRINGS : Sta Z Z.heap "java/lang/String" "COMPACT_STRINGS" "Z" (.int i_COMPACT_STRINGS)) (nz_COMPACT_STRINGS : ¬ i_COMPACT_STRINGS = (0 : Int32)) (S_SIOOBE_FORMATTER : Sta Z Z.heap "jdk/internal/util/Preconditions" "SIOOBE_FORMATTER" "Ljava/util/function/BiFunction;" (v_SIOOBE_FORMATTER)) (hr_v_SIOOBE_FORMATTER : v_SIOOBE_FORMATTER.isRef = true) (S__assertionsDisabled : Sta Z Z.heap "java/lang/StringUTF16" "$assertionsDisabled" "Z" (.int (1 : Int32))) (S_HI_BYTE_SHIFT : Sta Z Z.heap "java/lang/StringUTF16" "HI_BYTE_SHIFT" "I" (.int (0 : Int32))) (S_LO_BYTE_SHIFT : Sta Z Z.heap "java/lang/StringUTF16" "LO_BYTE_SHIFT" "I" (.int (8 : Int32))) :
    OwnKit.Con false l Z n0 (⟨"java/lang/String", "coder", "()B"⟩ : MethodName) jdk_42_method_152_code 1 (some .byte) ({ frames := 0, cells := 0, slots := 0, locals := 0 } : Room) #[.ref a] h0 (QInt cd h0) := by
  refine OwnKit.Con.of (by first | (refine plainFor_of_name ?_; simp [plainName, overriddenIn]; done) | decide +kernel) ?_ ?_
  · intro κ hwd hJ K0
    have K : OwnKit.Ok κ l Z n0 "java/lang/String" "coder" jdk_42_method_152_code 1 (some .byte) ({ frames := 0, cells := 0, slots := 0, locals := 0 } : Room) (QInt cd h0) := K0
    have ef : (entryFrame κ.m #[.ref a] 1).locals = #[.val (.ref a)] := by first | (simp [entryFrame, argsToLocals, Value.category]; done) | rfl
    rw [ef]; clear ef K0
    have hc_v_SIOOBE_FORMATTER := OwnKit.catR hr_v_SIOOBE_FORMATTER
    show OwnKit.Go κ h0 0 0 0 #[.val (.ref a)] []
    refine OwnKit.getstaticZ K d_jdk_42m152_0 (host := "") (Or.inl (hw _ (List.mem_of_getElem? (i := 44) rfl))) Via.refl S_COMPACT_STRINGS ?_
    show OwnKit.Go κ h0 0 0 3 #[.val (.ref a)] [.int i_COMPACT_STRINGS]
    refine OwnKit.ifeq K d_jdk_42m152_3 (by decide) (pc' := 13) rfl  (fun b1 => ?_) (fun b1 => ?_)
    · exact absurd b1 nz_COMPACT_STRINGS
    · show OwnKit.Go κ h0 0 0 6 #[.val (.ref a)] []
      refine OwnKit.aloadN K d_jdk_42m152_6 rfl rfl ?_
      show OwnKit.Go κ h0 0 0 7 #[.val (.ref a)] [.ref a]
      refine OwnKit.getfield K d_jdk_42m152_7 (host := "") (Or.inl (hw _ (List.mem_of_getElem? (i := 29) rfl))) Via.refl FC ?_
      show OwnKit.Go κ h0 0 0 10 #[.val (.ref a)] [.int cd]
      refine OwnKit.goto K d_jdk_42m152_10 (by decide) (pc' := 14) rfl ?_
      show OwnKit.Go κ h0 0 0 14 #[.val (.ref a)] [.int cd]
      refine OwnKit.ireturn K d_jdk_42m152_14 (Or.inr (Or.inr (Or.inl rfl))) (by rcases hcd with rfl | rfl <;> rfl) ?_ (Nat.le_of_ble_eq_true rfl) (Nat.le_of_ble_eq_true rfl)
      exact ⟨rfl, rfl⟩
  · intro m; first | rfl | (simp [entryFrame, mkF, argsToLocals, Value.category]; done)

theorem d_jdk_42m154_0 : decode jdk_42_method_154_code 0 = .ok (.getstatic 38, 3) := by decide +kernel
theorem d_jdk_42m154_3 : decode jdk_42_method_154_code 3 = .ok (.ifCond .eq 14, 3) := by decide +kernel
theorem d_jdk_42m154_6 : decode jdk_42_method_154_code 6 = .ok (.aload_n 0, 1) := by decide +kernel
theorem d_jdk_42m154_7 : decode jdk_42_method_154_code 7 = .ok (.getfield 15, 3) := by decide +kernel
theorem d_jdk_42m154_10 : decode jdk_42_method_154_code 10 = .ok (.ifCond .ne 7, 3) := by decide +kernel
theorem d_jdk_42m154_13 : decode jdk_42_method_154_code 13 = .ok (.iconst 1, 1) := by decide +kernel
theorem d_jdk_42m154_14 : decode jdk_42_method_154_code 14 = .ok (.goto 4, 3) := by decide +kernel
theorem d_jdk_42m154_17 : decode jdk_42_method_154_code 17 = .ok (.iconst 0, 1) := by decide +kernel
theorem d_jdk_42m154_18 : decode jdk_42_method_154_code 18 = .ok (.ireturn, 1) := by decide +kernel
set_option maxRecDepth 65536 in
set_option maxHeartbeats 40000000 in
theorem c_isL (l : Launch) (Z : State) (a0 : Array Value) (hw : ∀ d ∈ tables_1, d.before a0 Z = true) (n0 : Nat) (h0 : Heap) (a : Addr) (cd r : Int32) (i_COMPACT_STRINGS : Int32) (v_SIOOBE_FORMATTER : Value) (hcd : (cd = 0 ∧ r = 1) ∨ (cd = 1 ∧ r = 0)) (FC : Fld Z h0 a "java/lang/String" "coder" "B" (.int cd)) (S_COMPACT_STRINGS : Sta Z Z.heap "java/lang/String" "COMPACT_STRINGS" "Z" (.int i_COMPACT_STRINGS)) (nz_COMPACT_STRINGS : ¬ i_COMPACT_STRINGS = (0 : Int32)) (S_SIOOBE_FORMATTER : Sta Z Z.heap "jdk/internal/util/Preconditions" "SIOOBE_FORMATTER" "Ljava/util/function/BiFunction;" (v_SIOOBE_FORMATTER)) (hr_v_SIOOBE_FORMATTER : v_SIOOBE_FORMATTER.isRef = true) (S__assertionsDisabled : Sta Z Z.heap "java/lang/StringUTF16" "$assertionsDisabled" "Z" (.int (1 : Int32))) (S_HI_BYTE_SHIFT : Sta Z Z.heap "java/lang/StringUTF16" "HI_BYTE_SHIFT" "I" (.int (0 : Int32))) (S_LO_BYTE_SHIFT : Sta Z Z.heap "java/lang/StringUTF16" "LO_BYTE_SHIFT" "I" (.int (8 : Int32))) :
    OwnKit.Con false l Z n0 (⟨"java/lang/String", "isLatin1", "()Z"⟩ : MethodName) jdk_42_method_154_code 1 (some .boolean) ({ frames := 0, cells := 0, slots := 0, locals := 0 } : Room) #[.ref a] h0 (QInt r h0) := by
  refine OwnKit.Con.of (by first | (refine plainFor_of_name ?_; simp [plainName, overriddenIn]; done) | decide +kernel) ?_ ?_
  · intro κ hwd hJ K0
    have K : OwnKit.Ok κ l Z n0 "java/lang/String" "isLatin1" jdk_42_method_154_code 1 (some .boolean) ({ frames := 0, cells := 0, slots := 0, locals := 0 } : Room) (QInt r h0) := K0
    have ef : (entryFrame κ.m #[.ref a] 1).locals = #[.val (.ref a)] := by first | (simp [entryFrame, argsToLocals, Value.category]; done) | rfl
    rw [ef]; clear ef K0
    have hc_v_SIOOBE_FORMATTER := OwnKit.catR hr_v_SIOOBE_FORMATTER
    show OwnKit.Go κ h0 0 0 0 #[.val (.ref a)] []
    refine OwnKit.getstaticZ K d_jdk_42m154_0 (host := "") (Or.inl (hw _ (List.mem_of_getElem? (i := 44) rfl))) Via.refl S_COMPACT_STRINGS ?_
    show OwnKit.Go κ h0 0 0 3 #[.val (.ref a)] [.int i_COMPACT_STRINGS]
    refine OwnKit.ifeq K d_jdk_42m154_3 (by decide) (pc' := 17) rfl  (fun b1 => ?_) (fun b1 => ?_)
    · exact absurd b1 nz_COMPACT_STRINGS
    · show OwnKit.Go κ h0 0 0 6 #[.val (.ref a)] []
      refine OwnKit.aloadN K d_jdk_42m154_6 rfl rfl ?_
      show OwnKit.Go κ h0 0 0 7 #[.val (.ref a)] [.ref a]
      refine OwnKit.getfield K d_jdk_42m154_7 (host := "") (Or.inl (hw _ (List.mem_of_getElem? (i := 29) rfl))) Via.refl FC ?_
      show OwnKit.Go κ h0 0 0 10 #[.val (.ref a)] [.int cd]
      refine OwnKit.ifne K d_jdk_42m154_10 (by decide) (pc' := 17) rfl  (fun b2 => ?_) (fun b2 => ?_)
      · show OwnKit.Go κ h0 0 0 17 #[.val (.ref a)] []
        refine OwnKit.iconst K d_jdk_42m154_17 ?_
        show OwnKit.Go κ h0 0 0 18 #[.val (.ref a)] [.int (0 : Int32)]
        refine OwnKit.ireturn K d_jdk_42m154_18 (Or.inr (Or.inl rfl)) rfl ?_ (Nat.le_of_ble_eq_true rfl) (Nat.le_of_ble_eq_true rfl)
        · rcases hcd with ⟨rfl, rfl⟩ | ⟨rfl, rfl⟩
          · exact absurd rfl b2
          · exact ⟨rfl, rfl⟩
      · show OwnKit.Go κ h0 0 0 13 #[.val (.ref a)] []
        refine OwnKit.iconst K d_jdk_42m154_13 ?_
        show OwnKit.Go κ h0 0 0 14 #[.val (.ref a)] [.int (1 : Int32)]
        refine OwnKit.goto K d_jdk_42m154_14 (by decide) (pc' := 18) rfl ?_
        show OwnKit.Go κ h0 0 0 18 #[.val (.ref a)] [.int (1 : Int32)]
        refine OwnKit.ireturn K d_jdk_42m154_18 (Or.inr (Or.inl rfl)) rfl ?_ (Nat.le_of_ble_eq_true rfl) (Nat.le_of_ble_eq_true rfl)
        · rcases hcd with ⟨rfl, rfl⟩ | ⟨rfl, rfl⟩
          · exact ⟨rfl, rfl⟩
          · exact absurd b2 (by decide)
  · intro m; first | rfl | (simp [entryFrame, mkF, argsToLocals, Value.category]; done)

theorem d_jdk_42m54_0 : decode jdk_42_method_54_code 0 = .ok (.aload_n 0, 1) := by decide +kernel
theorem d_jdk_42m54_1 : decode jdk_42_method_54_code 1 = .ok (.getfield 9, 3) := by decide +kernel
theorem d_jdk_42m54_4 : decode jdk_42_method_54_code 4 = .ok (.arraylength, 1) := by decide +kernel
theorem d_jdk_42m54_5 : decode jdk_42_method_54_code 5 = .ok (.aload_n 0, 1) := by decide +kernel
theorem d_jdk_42m54_6 : decode jdk_42_method_54_code 6 = .ok (.invokevirtual 335, 3) := by decide +kernel
theorem d_jdk_42m54_9 : decode jdk_42_method_54_code 9 = .ok (.ishr, 1) := by decide +kernel
theorem d_jdk_42m54_10 : decode jdk_42_method_54_code 10 = .ok (.ireturn, 1) := by decide +kernel
set_option maxRecDepth 65536 in
set_option maxHeartbeats 40000000 in
theorem c_len (l : Launch) (Z : State) (a0 : Array Value) (hw : ∀ d ∈ tables_1, d.before a0 Z = true) (n0 : Nat) (h0 : Heap) (a : Addr) (cs : List Int32) (i_COMPACT_STRINGS : Int32) (v_SIOOBE_FORMATTER : Value) (hcap : cs.length ≤ 4) (hS : Str Z h0 a cs) (S_COMPACT_STRINGS : Sta Z Z.heap "java/lang/String" "COMPACT_STRINGS" "Z" (.int i_COMPACT_STRINGS)) (nz_COMPACT_STRINGS : ¬ i_COMPACT_STRINGS = (0 : Int32)) (S_SIOOBE_FORMATTER : Sta Z Z.heap "jdk/internal/util/Preconditions" "SIOOBE_FORMATTER" "Ljava/util/function/BiFunction;" (v_SIOOBE_FORMATTER)) (hr_v_SIOOBE_FORMATTER : v_SIOOBE_FORMATTER.isRef = true) (S__assertionsDisabled : Sta Z Z.heap "java/lang/StringUTF16" "$assertionsDisabled" "Z" (.int (1 : Int32))) (S_HI_BYTE_SHIFT : Sta Z Z.heap "java/lang/StringUTF16" "HI_BYTE_SHIFT" "I" (.int (0 : Int32))) (S_LO_BYTE_SHIFT : Sta Z Z.heap "java/lang/StringUTF16" "LO_BYTE_SHIFT" "I" (.int (8 : Int32))) :
    OwnKit.Con false l Z n0 (⟨"java/lang/String", "length", "()I"⟩ : MethodName) jdk_42_method_54_code 1 (some .int) ({ frames := 1, cells := 0, slots := 0, locals := 13 } : Room) #[.ref a] h0 (QInt (Int32.ofNat cs.length) h0) := by
  refine OwnKit.Con.of (by first | (refine plainFor_of_name ?_; simp [plainName, overriddenIn]; done) | decide +kernel) ?_ ?_
  · intro κ hwd hJ K0
    have K : OwnKit.Ok κ l Z n0 "java/lang/String" "length" jdk_42_method_54_code 1 (some .int) ({ frames := 1, cells := 0, slots := 0, locals := 13 } : Room) (QInt (Int32.ofNat cs.length) h0) := K0
    have ef : (entryFrame κ.m #[.ref a] 1).locals = #[.val (.ref a)] := by first | (simp [entryFrame, argsToLocals, Value.category]; done) | rfl
    rw [ef]; clear ef K0
    have hc_v_SIOOBE_FORMATTER := OwnKit.catR hr_v_SIOOBE_FORMATTER
    obtain ⟨b, kb, cd, E_a, FV, FC, SB⟩ := hS
    rcases SB with ⟨hl, rfl, Ab⟩ | ⟨hl, rfl, Ab⟩
    · show OwnKit.Go κ h0 0 0 0 #[.val (.ref a)] []
      refine OwnKit.aloadN K d_jdk_42m54_0 rfl rfl ?_
      show OwnKit.Go κ h0 0 0 1 #[.val (.ref a)] [.ref a]
      refine OwnKit.getfield K d_jdk_42m54_1 (host := "") (Or.inl (hw _ (List.mem_of_getElem? (i := 28) rfl))) Via.refl FV ?_
      show OwnKit.Go κ h0 0 0 4 #[.val (.ref a)] [.ref b]
      refine OwnKit.lenV K d_jdk_42m54_4 Ab ?_
      show OwnKit.Go κ h0 0 0 5 #[.val (.ref a)] [.int (Int32.ofNat (cs.map own_B).length)]
      refine OwnKit.aloadN K d_jdk_42m54_5 rfl rfl ?_
      show OwnKit.Go κ h0 0 0 6 #[.val (.ref a)] [.ref a, .int (Int32.ofNat (cs.map own_B).length)]
      refine OwnKit.invV (y := (⟨"java/lang/String", "coder", "()B"⟩ : MethodName)) (z := (⟨"java/lang/String", "coder", "()B"⟩ : MethodName)) (argsL := []) (rest := [.int (Int32.ofNat (cs.map own_B).length)]) K (c_coder l Z a0 hw n0 h0 a (0 : Int32) i_COMPACT_STRINGS v_SIOOBE_FORMATTER (by decide) FC S_COMPACT_STRINGS nz_COMPACT_STRINGS S_SIOOBE_FORMATTER hr_v_SIOOBE_FORMATTER S__assertionsDisabled S_HI_BYTE_SHIFT S_LO_BYTE_SHIFT) d_jdk_42m54_6 E_a (hw _ (List.mem_of_getElem? (i := 39) rfl)) (hw _ (List.mem_of_getElem? (i := 40) rfl)) (OwnKit.nfS (hw _ (List.mem_of_getElem? (i := 42) rfl))) (hw _ (List.mem_of_getElem? (i := 42) rfl)) (hw _ (List.mem_of_getElem? (i := 41) rfl)) (hw _ (List.mem_of_getElem? (i := 43) rfl)) (hw _ (List.mem_of_getElem? (i := 10) rfl)) (by decide) (lenOf (by decide +kernel : parseMethodDescriptor "()B" = some ⟨[], some .byte⟩) rfl) rfl rfl (W := 1) (Nat.le_of_ble_eq_true rfl) (Nat.le_of_ble_eq_true rfl) (Nat.le_of_ble_eq_true rfl) (Nat.le_of_ble_eq_true rfl) (Nat.le_of_ble_eq_true rfl) ?_
      rintro _ h1 ⟨rfl, rfl⟩ g2
      show OwnKit.Go κ h0 0 0 9 #[.val (.ref a)] [.int (0 : Int32), .int (Int32.ofNat (cs.map own_B).length)]
      refine OwnKit.ishr K d_jdk_42m54_9 ?_
      show OwnKit.Go κ h0 0 0 10 #[.val (.ref a)] [.int ((Int32.ofNat (cs.map own_B).length) >>> ((0 : Int32) &&& 31))]
      refine OwnKit.ireturn K d_jdk_42m54_10 (Or.inl rfl) rfl ?_ (Nat.le_of_ble_eq_true rfl) (Nat.le_of_ble_eq_true rfl)
      · rw [own_shr0, List.length_map]
        exact ⟨rfl, rfl⟩
    · show OwnKit.Go κ h0 0 0 0 #[.val (.ref a)] []
      refine OwnKit.aloadN K d_jdk_42m54_0 rfl rfl ?_
      show OwnKit.Go κ h0 0 0 1 #[.val (.ref a)] [.ref a]
      refine OwnKit.getfield K d_jdk_42m54_1 (host := "") (Or.inl (hw _ (List.mem_of_getElem? (i := 28) rfl))) Via.refl FV ?_
      show OwnKit.Go κ h0 0 0 4 #[.val (.ref a)] [.ref b]
      refine OwnKit.lenV K d_jdk_42m54_4 Ab ?_
      show OwnKit.Go κ h0 0 0 5 #[.val (.ref a)] [.int (Int32.ofNat (own_utf cs).length)]
      refine OwnKit.aloadN K d_jdk_42m54_5 rfl rfl ?_
      show OwnKit.Go κ h0 0 0 6 #[.val (.ref a)] [.ref a, .int (Int32.ofNat (own_utf cs).length)]
      refine OwnKit.invV (y := (⟨"java/lang/String", "coder", "()B"⟩ : MethodName)) (z := (⟨"java/lang/String", "coder", "()B"⟩ : MethodName)) (argsL := []) (rest := [.int (Int32.ofNat (own_utf cs).length)]) K (c_coder l Z a0 hw n0 h0 a (1 : Int32) i_COMPACT_STRINGS v_SIOOBE_FORMATTER (by decide) FC S_COMPACT_STRINGS nz_COMPACT_STRINGS S_SIOOBE_FORMATTER hr_v_SIOOBE_FORMATTER S__assertionsDisabled S_HI_BYTE_SHIFT S_LO_BYTE_SHIFT) d_jdk_42m54_6 E_a (hw _ (List.mem_of_getElem? (i := 39) rfl)) (hw _ (List.mem_of_getElem? (i := 40) rfl)) (OwnKit.nfS (hw _ (List.mem_of_getElem? (i := 42) rfl))) (hw _ (List.mem_of_getElem? (i := 42) rfl)) (hw _ (List.mem_of_getElem? (i := 41) rfl)) (hw _ (List.mem_of_getElem? (i := 43) rfl)) (hw _ (List.mem_of_getElem? (i := 10) rfl)) (by decide) (lenOf (by decide +kernel : parseMethodDescriptor "()B" = some ⟨[], some .byte⟩) rfl) rfl rfl (W := 1) (Nat.le_of_ble_eq_true rfl) (Nat.le_of_ble_eq_true rfl) (Nat.le_of_ble_eq_true rfl) (Nat.le_of_ble_eq_true rfl) (Nat.le_of_ble_eq_true rfl) ?_
      rintro _ h3 ⟨rfl, rfl⟩ g4
      show OwnKit.Go κ h0 0 0 9 #[.val (.ref a)] [.int (1 : Int32), .int (Int32.ofNat (own_utf cs).length)]
      refine OwnKit.ishr K d_jdk_42m54_9 ?_
      show OwnKit.Go κ h0 0 0 10 #[.val (.ref a)] [.int ((Int32.ofNat (own_utf cs).length) >>> ((1 : Int32) &&& 31))]
      refine OwnKit.ireturn K d_jdk_42m54_10 (Or.inl rfl) rfl ?_ (Nat.le_of_ble_eq_true rfl) (Nat.le_of_ble_eq_true rfl)
      · rw [own_utfLen, own_half (by omega)]
        exact ⟨rfl, rfl⟩
  · intro m; first | rfl | (simp [entryFrame, mkF, argsToLocals, Value.category]; done)

theorem d_jdk_42m55_0 : decode jdk_42_method_55_code 0 = .ok (.aload_n 0, 1) := by decide +kernel
theorem d_jdk_42m55_1 : decode jdk_42_method_55_code 1 = .ok (.getfield 9, 3) := by decide +kernel
theorem d_jdk_42m55_4 : decode jdk_42_method_55_code 4 = .ok (.arraylength, 1) := by decide +kernel
theorem d_jdk_42m55_5 : decode jdk_42_method_55_code 5 = .ok (.ifCond .ne 7, 3) := by decide +kernel
theorem d_jdk_42m55_8 : decode jdk_42_method_55_code 8 = .ok (.iconst 1, 1) := by decide +kernel
theorem d_jdk_42m55_9 : decode jdk_42_method_55_code 9 = .ok (.goto 4, 3) := by decide +kernel
theorem d_jdk_42m55_12 : decode jdk_42_method_55_code 12 = .ok (.iconst 0, 1) := by decide +kernel
theorem d_jdk_42m55_13 : decode jdk_42_method_55_code 13 = .ok (.ireturn, 1) := by decide +kernel
set_option maxRecDepth 65536 in
set_option maxHeartbeats 40000000 in
theorem c_emp (l : Launch) (Z : State) (a0 : Array Value) (hw : ∀ d ∈ tables_1, d.before a0 Z = true) (n0 : Nat) (h0 : Heap) (a : Addr) (cs : List Int32) (i_COMPACT_STRINGS : Int32) (v_SIOOBE_FORMATTER : Value) (hS : Str Z h0 a cs) (S_COMPACT_STRINGS : Sta Z Z.heap "java/lang/String" "COMPACT_STRINGS" "Z" (.int i_COMPACT_STRINGS)) (nz_COMPACT_STRINGS : ¬ i_COMPACT_STRINGS = (0 : Int32)) (S_SIOOBE_FORMATTER : Sta Z Z.heap "jdk/internal/util/Preconditions" "SIOOBE_FORMATTER" "Ljava/util/function/BiFunction;" (v_SIOOBE_FORMATTER)) (hr_v_SIOOBE_FORMATTER : v_SIOOBE_FORMATTER.isRef = true) (S__assertionsDisabled : Sta Z Z.heap "java/lang/StringUTF16" "$assertionsDisabled" "Z" (.int (1 : Int32))) (S_HI_BYTE_SHIFT : Sta Z Z.heap "java/lang/StringUTF16" "HI_BYTE_SHIFT" "I" (.int (0 : Int32))) (S_LO_BYTE_SHIFT : Sta Z Z.heap "java/lang/StringUTF16" "LO_BYTE_SHIFT" "I" (.int (8 : Int32))) :
    OwnKit.Con false l Z n0 (⟨"java/lang/String", "isEmpty", "()Z"⟩ : MethodName) jdk_42_method_55_code 1 (some .boolean) ({ frames := 0, cells := 0, slots := 0, locals := 0 } : Room) #[.ref a] h0 (QBit (cs = []) h0) := by
  refine OwnKit.Con.of (by first | (refine plainFor_of_name ?_; simp [plainName, overriddenIn]; done) | decide +kernel) ?_ ?_
  · intro κ hwd hJ K0
    have K : OwnKit.Ok κ l Z n0 "java/lang/String" "isEmpty" jdk_42_method_55_code 1 (some .boolean) ({ frames := 0, cells := 0, slots := 0, locals := 0 } : Room) (QBit (cs = []) h0) := K0
    have ef : (entryFrame κ.m #[.ref a] 1).locals = #[.val (.ref a)] := by first | (simp [entryFrame, argsToLocals, Value.category]; done) | rfl
    rw [ef]; clear ef K0
    have hc_v_SIOOBE_FORMATTER := OwnKit.catR hr_v_SIOOBE_FORMATTER
    obtain ⟨b, kb, cd, E_a, FV, FC, SB⟩ := hS
    rcases SB with ⟨hl, rfl, Ab⟩ | ⟨hl, rfl, Ab⟩
    · show OwnKit.Go κ h0 0 0 0 #[.val (.ref a)] []
      refine OwnKit.aloadN K d_jdk_42m55_0 rfl rfl ?_
      show OwnKit.Go κ h0 0 0 1 #[.val (.ref a)] [.ref a]
      refine OwnKit.getfield K d_jdk_42m55_1 (host := "") (Or.inl (hw _ (List.mem_of_getElem? (i := 28) rfl))) Via.refl FV ?_
      show OwnKit.Go κ h0 0 0 4 #[.val (.ref a)] [.ref b]
      refine OwnKit.lenV K d_jdk_42m55_4 Ab ?_
      show OwnKit.Go κ h0 0 0 5 #[.val (.ref a)] [.int (Int32.ofNat (cs.map own_B).length)]
      refine OwnKit.ifne K d_jdk_42m55_5 (by decide) (pc' := 12) rfl  (fun b1 => ?_) (fun b1 => ?_)
      · show OwnKit.Go κ h0 0 0 12 #[.val (.ref a)] []
        refine OwnKit.iconst K d_jdk_42m55_12 ?_
        show OwnKit.Go κ h0 0 0 13 #[.val (.ref a)] [.int (0 : Int32)]
        refine OwnKit.ireturn K d_jdk_42m55_13 (Or.inr (Or.inl rfl)) rfl ?_ (Nat.le_of_ble_eq_true rfl) (Nat.le_of_ble_eq_true rfl)
        exact ⟨_, rfl, Or.inr ⟨fun e => b1 ((own_len0 Ab.len).mpr (by rw [e]; rfl)), rfl⟩, rfl⟩
      · show OwnKit.Go κ h0 0 0 8 #[.val (.ref a)] []
        refine OwnKit.iconst K d_jdk_42m55_8 ?_
        show OwnKit.Go κ h0 0 0 9 #[.val (.ref a)] [.int (1 : Int32)]
        refine OwnKit.goto K d_jdk_42m55_9 (by decide) (pc' := 13) rfl ?_
        show OwnKit.Go κ h0 0 0 13 #[.val (.ref a)] [.int (1 : Int32)]
        refine OwnKit.ireturn K d_jdk_42m55_13 (Or.inr (Or.inl rfl)) rfl ?_ (Nat.le_of_ble_eq_true rfl) (Nat.le_of_ble_eq_true rfl)
        exact ⟨_, rfl, Or.inl ⟨List.eq_nil_of_length_eq_zero (by have q := (own_len0 Ab.len).mp b1; first | (rw [own_utfLen] at q; omega) | (rw [List.length_map] at q; exact q)), rfl⟩, rfl⟩
    · show OwnKit.Go κ h0 0 0 0 #[.val (.ref a)] []
      refine OwnKit.aloadN K d_jdk_42m55_0 rfl rfl ?_
      show OwnKit.Go κ h0 0 0 1 #[.val (.ref a)] [.ref a]
      refine OwnKit.getfield K d_jdk_42m55_1 (host := "") (Or.inl (hw _ (List.mem_of_getElem? (i := 28) rfl))) Via.refl FV ?_
      show OwnKit.Go κ h0 0 0 4 #[.val (.ref a)] [.ref b]
      refine OwnKit.lenV K d_jdk_42m55_4 Ab ?_
      show OwnKit.Go κ h0 0 0 5 #[.val (.ref a)] [.int (Int32.ofNat (own_utf cs).length)]
      refine OwnKit.ifne K d_jdk_42m55_5 (by decide) (pc' := 12) rfl  (fun b2 => ?_) (fun b2 => ?_)
      · show OwnKit.Go κ h0 0 0 12 #[.val (.ref a)] []
        refine OwnKit.iconst K d_jdk_42m55_12 ?_
        show OwnKit.Go κ h0 0 0 13 #[.val (.ref a)] [.int (0 : Int32)]
        refine OwnKit.ireturn K d_jdk_42m55_13 (Or.inr (Or.inl rfl)) rfl ?_ (Nat.le_of_ble_eq_true rfl) (Nat.le_of_ble_eq_true rfl)
        exact ⟨_, rfl, Or.inr ⟨fun e => b2 ((own_len0 Ab.len).mpr (by rw [e]; rfl)), rfl⟩, rfl⟩
      · show OwnKit.Go κ h0 0 0 8 #[.val (.ref a)] []
        refine OwnKit.iconst K d_jdk_42m55_8 ?_
        show OwnKit.Go κ h0 0 0 9 #[.val (.ref a)] [.int (1 : Int32)]
        refine OwnKit.goto K d_jdk_42m55_9 (by decide) (pc' := 13) rfl ?_
        show OwnKit.Go κ h0 0 0 13 #[.val (.ref a)] [.int (1 : Int32)]
        refine OwnKit.ireturn K d_jdk_42m55_13 (Or.inr (Or.inl rfl)) rfl ?_ (Nat.le_of_ble_eq_true rfl) (Nat.le_of_ble_eq_true rfl)
        exact ⟨_, rfl, Or.inl ⟨List.eq_nil_of_length_eq_zero (by have q := (own_len0 Ab.len).mp b2; first | (rw [own_utfLen] at q; omega) | (rw [List.length_map] at q; exact q)), rfl⟩, rfl⟩
  · intro m; first | rfl | (simp [entryFrame, mkF, argsToLocals, Value.category]; done)

theorem d_jdk_41m11_0 : decode jdk_41_method_11_code 0 = .ok (.iload_n 0, 1) := by decide +kernel
theorem d_jdk_41m11_1 : decode jdk_41_method_11_code 1 = .ok (.ifCond .lt 8, 3) := by decide +kernel
theorem d_jdk_41m11_4 : decode jdk_41_method_11_code 4 = .ok (.iload_n 0, 1) := by decide +kernel
theorem d_jdk_41m11_5 : decode jdk_41_method_11_code 5 = .ok (.iload_n 1, 1) := by decide +kernel
theorem d_jdk_41m11_6 : decode jdk_41_method_11_code 6 = .ok (.if_icmp .lt 10, 3) := by decide +kernel
theorem d_jdk_41m11_16 : decode jdk_41_method_11_code 16 = .ok (.iload_n 0, 1) := by decide +kernel
theorem d_jdk_41m11_17 : decode jdk_41_method_11_code 17 = .ok (.ireturn, 1) := by decide +kernel
set_option maxRecDepth 65536 in
set_option maxHeartbeats 40000000 in
theorem c_chk (l : Launch) (Z : State) (a0 : Array Value) (hw : ∀ d ∈ tables_1, d.before a0 Z = true) (n0 : Nat) (h0 : Heap) (i n : Int32) (v : Value) (hr_v : v.isRef = true) (hi0 : 0 ≤ i.toInt) (hin : i.toInt < n.toInt) :
    OwnKit.Con false l Z n0 (⟨"jdk/internal/util/Preconditions", "checkIndex", "(IILjava/util/function/BiFunction;)I"⟩ : MethodName) jdk_41_method_11_code 3 (some .int) ({ frames := 0, cells := 0, slots := 0, locals := 0 } : Room) #[.int i, .int n, v] h0 (QInt i h0) := by
  refine OwnKit.Con.of (by first | (refine plainFor_of_name ?_; simp [plainName, overriddenIn]; done) | decide +kernel) ?_ ?_
  · intro κ hwd hJ K0
    have K : OwnKit.Ok κ l Z n0 "jdk/internal/util/Preconditions" "checkIndex" jdk_41_method_11_code 3 (some .int) ({ frames := 0, cells := 0, slots := 0, locals := 0 } : Room) (QInt i h0) := K0
    have hc_v := OwnKit.catR hr_v
    have ef : (entryFrame κ.m #[.int i, .int n, v] 3).locals = #[.val (.int i), .val (.int n), .val (v)] := by first | (simp [entryFrame, argsToLocals, Value.category, hc_v]; done) | rfl | ((rcases ref_cases hr_v with rfl | ⟨_, rfl⟩) <;> rfl)
    rw [ef]; clear ef K0
    have e0 : (0 : Int32).toInt = 0 := rfl
    show OwnKit.Go κ h0 0 0 0 #[.val (.int i), .val (.int n), .val (v)] []
    refine OwnKit.iloadN K d_jdk_41m11_0 rfl ?_
    show OwnKit.Go κ h0 0 0 1 #[.val (.int i), .val (.int n), .val (v)] [.int i]
    refine OwnKit.iflt K d_jdk_41m11_1 (by decide) (pc' := 9) rfl  (fun b1 => ?_) (fun b1 => ?_)
    · exfalso; omega
    · show OwnKit.Go κ h0 0 0 4 #[.val (.int i), .val (.int n), .val (v)] []
      refine OwnKit.iloadN K d_jdk_41m11_4 rfl ?_
      show OwnKit.Go κ h0 0 0 5 #[.val (.int i), .val (.int n), .val (v)] [.int i]
      refine OwnKit.iloadN K d_jdk_41m11_5 rfl ?_
      show OwnKit.Go κ h0 0 0 6 #[.val (.int i), .val (.int n), .val (v)] [.int n, .int i]
      refine OwnKit.icmplt K d_jdk_41m11_6 (by decide) (pc' := 16) rfl  (fun b2 => ?_) (fun b2 => ?_)
      · show OwnKit.Go κ h0 0 0 16 #[.val (.int i), .val (.int n), .val (v)] []
        refine OwnKit.iloadN K d_jdk_41m11_16 rfl ?_
        show OwnKit.Go κ h0 0 0 17 #[.val (.int i), .val (.int n), .val (v)] [.int i]
        refine OwnKit.ireturn K d_jdk_41m11_17 (Or.inl rfl) rfl ?_ (Nat.le_of_ble_eq_true rfl) (Nat.le_of_ble_eq_true rfl)
        exact ⟨rfl, rfl⟩
      · exfalso; omega
  · intro m; first | rfl | ((rcases ref_cases hr_v with rfl | ⟨_, rfl⟩) <;> rfl) | (simp [entryFrame, mkF, argsToLocals, Value.category]; done)

theorem d_jdk_42m155_0 : decode jdk_42_method_155_code 0 = .ok (.iload_n 0, 1) := by decide +kernel
theorem d_jdk_42m155_1 : decode jdk_42_method_155_code 1 = .ok (.iload_n 1, 1) := by decide +kernel
theorem d_jdk_42m155_2 : decode jdk_42_method_155_code 2 = .ok (.getstatic 1053, 3) := by decide +kernel
theorem d_jdk_42m155_5 : decode jdk_42_method_155_code 5 = .ok (.invokestatic 1059, 3) := by decide +kernel
theorem d_jdk_42m155_8 : decode jdk_42_method_155_code 8 = .ok (.pop, 1) := by decide +kernel
theorem d_jdk_42m155_9 : decode jdk_42_method_155_code 9 = .ok (.return_, 1) := by decide +kernel
set_option maxRecDepth 65536 in
set_option maxHeartbeats 40000000 in
theorem c_chk2 (l : Launch) (Z : State) (a0 : Array Value) (hw : ∀ d ∈ tables_1, d.before a0 Z = true) (n0 : Nat) (h0 : Heap) (i n : Int32) (i_COMPACT_STRINGS : Int32) (v_SIOOBE_FORMATTER : Value) (hi0 : 0 ≤ i.toInt) (hin : i.toInt < n.toInt) (S_COMPACT_STRINGS : Sta Z Z.heap "java/lang/String" "COMPACT_STRINGS" "Z" (.int i_COMPACT_STRINGS)) (nz_COMPACT_STRINGS : ¬ i_COMPACT_STRINGS = (0 : Int32)) (S_SIOOBE_FORMATTER : Sta Z Z.heap "jdk/internal/util/Preconditions" "SIOOBE_FORMATTER" "Ljava/util/function/BiFunction;" (v_SIOOBE_FORMATTER)) (hr_v_SIOOBE_FORMATTER : v_SIOOBE_FORMATTER.isRef = true) (S__assertionsDisabled : Sta Z Z.heap "java/lang/StringUTF16" "$assertionsDisabled" "Z" (.int (1 : Int32))) (S_HI_BYTE_SHIFT : Sta Z Z.heap "java/lang/StringUTF16" "HI_BYTE_SHIFT" "I" (.int (0 : Int32))) (S_LO_BYTE_SHIFT : Sta Z Z.heap "java/lang/StringUTF16" "LO_BYTE_SHIFT" "I" (.int (8 : Int32))) :
    OwnKit.Con false l Z n0 (⟨"java/lang/String", "checkIndex", "(II)V"⟩ : MethodName) jdk_42_method_155_code 2 none ({ frames := 1, cells := 0, slots := 0, locals := 14 } : Room) #[.int i, .int n] h0 (QNone h0) := by
  refine OwnKit.Con.of (by first | (refine plainFor_of_name ?_; simp [plainName, overriddenIn]; done) | decide +kernel) ?_ ?_
  · intro κ hwd hJ K0
    have K : OwnKit.Ok κ l Z n0 "java/lang/String" "checkIndex" jdk_42_method_155_code 2 none ({ frames := 1, cells := 0, slots := 0, locals := 14 } : Room) (QNone h0) := K0
    have ef : (entryFrame κ.m #[.int i, .int n] 2).locals = #[.val (.int i), .val (.int n)] := by first | (simp [entryFrame, argsToLocals, Value.category]; done) | rfl
    rw [ef]; clear ef K0
    have hc_v_SIOOBE_FORMATTER := OwnKit.catR hr_v_SIOOBE_FORMATTER
    show OwnKit.Go κ h0 0 0 0 #[.val (.int i), .val (.int n)] []
    refine OwnKit.iloadN K d_jdk_42m155_0 rfl ?_
    show OwnKit.Go κ h0 0 0 1 #[.val (.int i), .val (.int n)] [.int i]
    refine OwnKit.iloadN K d_jdk_42m155_1 rfl ?_
    show OwnKit.Go κ h0 0 0 2 #[.val (.int i), .val (.int n)] [.int n, .int i]
    refine OwnKit.getstaticZ K d_jdk_42m155_2 (host := "") (Or.inl (hw _ (List.mem_of_getElem? (i := 80) rfl))) Via.refl S_SIOOBE_FORMATTER ?_
    show OwnKit.Go κ h0 0 0 5 #[.val (.int i), .val (.int n)] [v_SIOOBE_FORMATTER, .int n, .int i]
    refine OwnKit.invS (y := (⟨"jdk/internal/util/Preconditions", "checkIndex", "(IILjava/util/function/BiFunction;)I"⟩ : MethodName)) (argsL := [.int i, .int n, v_SIOOBE_FORMATTER]) (rest := []) K (c_chk l Z a0 hw n0 h0 i n v_SIOOBE_FORMATTER hr_v_SIOOBE_FORMATTER hi0 hin) d_jdk_42m155_5 (hw _ (List.mem_of_getElem? (i := 82) rfl)) (hw _ (List.mem_of_getElem? (i := 83) rfl)) (hw _ (List.mem_of_getElem? (i := 81) rfl)) (hw _ (List.mem_of_getElem? (i := 84) rfl)) (by decide) (lenOf (by decide +kernel : parseMethodDescriptor "(IILjava/util/function/BiFunction;)I" = some ⟨[.int, .int, (.object "java/util/function/BiFunction")], some .int⟩) rfl) rfl rfl (W := 0) (Nat.le_of_ble_eq_true rfl) (Nat.le_of_ble_eq_true rfl) (Nat.le_of_ble_eq_true rfl) (Nat.le_of_ble_eq_true rfl) (Nat.le_of_ble_eq_true rfl) ?_
    rintro _ h1 ⟨rfl, rfl⟩ g2
    show OwnKit.Go κ h0 0 0 8 #[.val (.int i), .val (.int n)] [.int i]
    refine OwnKit.pop K d_jdk_42m155_8 rfl ?_
    show OwnKit.Go κ h0 0 0 9 #[.val (.int i), .val (.int n)] []
    refine OwnKit.return0 K d_jdk_42m155_9  ?_ (Nat.le_of_ble_eq_true rfl) (Nat.le_of_ble_eq_true rfl)
    exact ⟨rfl, rfl⟩
  · intro m; first | rfl | (simp [entryFrame, mkF, argsToLocals, Value.category]; done)

theorem d_jdk_43m2_0 : decode jdk_43_method_2_code 0 = .ok (.iload_n 1, 1) := by decide +kernel
theorem d_jdk_43m2_1 : decode jdk_43_method_2_code 1 = .ok (.aload_n 0, 1) := by decide +kernel
theorem d_jdk_43m2_2 : decode jdk_43_method_2_code 2 = .ok (.arraylength, 1) := by decide +kernel
theorem d_jdk_43m2_3 : decode jdk_43_method_2_code 3 = .ok (.invokestatic 9, 3) := by decide +kernel
theorem d_jdk_43m2_6 : decode jdk_43_method_2_code 6 = .ok (.aload_n 0, 1) := by decide +kernel
theorem d_jdk_43m2_7 : decode jdk_43_method_2_code 7 = .ok (.iload_n 1, 1) := by decide +kernel
theorem d_jdk_43m2_8 : decode jdk_43_method_2_code 8 = .ok (.baload, 1) := by decide +kernel
theorem d_jdk_43m2_9 : decode jdk_43_method_2_code 9 = .ok (.sipush 255, 3) := by decide +kernel
theorem d_jdk_43m2_12 : decode jdk_43_method_2_code 12 = .ok (.iand, 1) := by decide +kernel
theorem d_jdk_43m2_13 : decode jdk_43_method_2_code 13 = .ok (.i2c, 1) := by decide +kernel
theorem d_jdk_43m2_14 : decode jdk_43_method_2_code 14 = .ok (.ireturn, 1) := by decide +kernel
set_option maxRecDepth 65536 in
set_option maxHeartbeats 40000000 in
theorem c_lch (l : Launch) (Z : State) (a0 : Array Value) (hw : ∀ d ∈ tables_1, d.before a0 Z = true) (n0 : Nat) (h0 : Heap) (b : Addr) (kb : ClassId) (cs : List Int32) (i c : Int32) (j : Nat) (i_COMPACT_STRINGS : Int32) (v_SIOOBE_FORMATTER : Value) (hi : i.toInt = j) (hcj : cs[j]? = some c) (hc : 0 ≤ c.toInt ∧ c.toInt ≤ 255) (Ab0 : OwnKit.Av Z h0 b kb .byte (cs.map own_B)) (S_COMPACT_STRINGS : Sta Z Z.heap "java/lang/String" "COMPACT_STRINGS" "Z" (.int i_COMPACT_STRINGS)) (nz_COMPACT_STRINGS : ¬ i_COMPACT_STRINGS = (0 : Int32)) (S_SIOOBE_FORMATTER : Sta Z Z.heap "jdk/internal/util/Preconditions" "SIOOBE_FORMATTER" "Ljava/util/function/BiFunction;" (v_SIOOBE_FORMATTER)) (hr_v_SIOOBE_FORMATTER : v_SIOOBE_FORMATTER.isRef = true) (S__assertionsDisabled : Sta Z Z.heap "java/lang/StringUTF16" "$assertionsDisabled" "Z" (.int (1 : Int32))) (S_HI_BYTE_SHIFT : Sta Z Z.heap "java/lang/StringUTF16" "HI_BYTE_SHIFT" "I" (.int (0 : Int32))) (S_LO_BYTE_SHIFT : Sta Z Z.heap "java/lang/StringUTF16" "LO_BYTE_SHIFT" "I" (.int (8 : Int32))) :
    OwnKit.Con false l Z n0 (⟨"java/lang/StringLatin1", "charAt", "([BI)C"⟩ : MethodName) jdk_43_method_2_code 2 (some .char) ({ frames := 2, cells := 0, slots := 0, locals := 27 } : Room) #[.ref b, .int i] h0 (QInt c h0) := by
  refine OwnKit.Con.of (by first | (refine plainFor_of_name ?_; simp [plainName, overriddenIn]; done) | decide +kernel) ?_ ?_
  · intro κ hwd hJ K0
    have K : OwnKit.Ok κ l Z n0 "java/lang/StringLatin1" "charAt" jdk_43_method_2_code 2 (some .char) ({ frames := 2, cells := 0, slots := 0, locals := 27 } : Room) (QInt c h0) := K0
    have ef : (entryFrame κ.m #[.ref b, .int i] 2).locals = #[.val (.ref b), .val (.int i)] := by first | (simp [entryFrame, argsToLocals, Value.category]; done) | rfl
    rw [ef]; clear ef K0
    have hc_v_SIOOBE_FORMATTER := OwnKit.catR hr_v_SIOOBE_FORMATTER
    have hL : (Int32.ofNat (cs.map own_B).length).toInt = cs.length := by rw [len_toInt Ab0.len, List.length_map]
    have hj2 : j < cs.length := (List.getElem?_eq_some_iff.mp hcj).1
    show OwnKit.Go κ h0 0 0 0 #[.val (.ref b), .val (.int i)] []
    refine OwnKit.iloadN K d_jdk_43m2_0 rfl ?_
    show OwnKit.Go κ h0 0 0 1 #[.val (.ref b), .val (.int i)] [.int i]
    refine OwnKit.aloadN K d_jdk_43m2_1 rfl rfl ?_
    show OwnKit.Go κ h0 0 0 2 #[.val (.ref b), .val (.int i)] [.ref b, .int i]
    refine OwnKit.lenV K d_jdk_43m2_2 Ab0 ?_
    show OwnKit.Go κ h0 0 0 3 #[.val (.ref b), .val (.int i)] [.int (Int32.ofNat (cs.map own_B).length), .int i]
    refine OwnKit.invS (y := (⟨"java/lang/String", "checkIndex", "(II)V"⟩ : MethodName)) (argsL := [.int i, .int (Int32.ofNat (cs.map own_B).length)]) (rest := []) K (c_chk2 l Z a0 hw n0 h0 i _ i_COMPACT_STRINGS v_SIOOBE_FORMATTER (by omega) (by omega) S_COMPACT_STRINGS nz_COMPACT_STRINGS S_SIOOBE_FORMATTER hr_v_SIOOBE_FORMATTER S__assertionsDisabled S_HI_BYTE_SHIFT S_LO_BYTE_SHIFT) d_jdk_43m2_3 (hw _ (List.mem_of_getElem? (i := 77) rfl)) (hw _ (List.mem_of_getElem? (i := 78) rfl)) (hw _ (List.mem_of_getElem? (i := 10) rfl)) (hw _ (List.mem_of_getElem? (i := 79) rfl)) (by decide) (lenOf (by decide +kernel : parseMethodDescriptor "(II)V" = some ⟨[.int, .int], none⟩) rfl) rfl rfl (W := 0) (Nat.le_of_ble_eq_true rfl) (Nat.le_of_ble_eq_true rfl) (Nat.le_of_ble_eq_true rfl) (Nat.le_of_ble_eq_true rfl) (Nat.le_of_ble_eq_true rfl) ?_
    rintro _ h1 ⟨rfl, rfl⟩ g2
    show OwnKit.Go κ h0 0 0 6 #[.val (.ref b), .val (.int i)] []
    refine OwnKit.aloadN K d_jdk_43m2_6 rfl rfl ?_
    show OwnKit.Go κ h0 0 0 7 #[.val (.ref b), .val (.int i)] [.ref b]
    refine OwnKit.iloadN K d_jdk_43m2_7 rfl ?_
    show OwnKit.Go κ h0 0 0 8 #[.val (.ref b), .val (.int i)] [.int i, .ref b]
    refine OwnKit.baloadV K d_jdk_43m2_8 (v := .int c.toInt8.toInt32) Ab0 (by omega) (by rw [show i.toInt.toNat = j by omega, List.getElem?_map, hcj]; rfl) ?_
    show OwnKit.Go κ h0 0 0 9 #[.val (.ref b), .val (.int i)] [.int c.toInt8.toInt32]
    refine OwnKit.sipush K d_jdk_43m2_9 ?_
    show OwnKit.Go κ h0 0 0 12 #[.val (.ref b), .val (.int i)] [.int (255 : Int32), .int c.toInt8.toInt32]
    refine OwnKit.iand K d_jdk_43m2_12 ?_
    show OwnKit.Go κ h0 0 0 13 #[.val (.ref b), .val (.int i)] [.int (c.toInt8.toInt32 &&& (255 : Int32))]
    refine OwnKit.i2c K d_jdk_43m2_13 ?_
    show OwnKit.Go κ h0 0 0 14 #[.val (.ref b), .val (.int i)] [.int ((c.toInt8.toInt32 &&& (255 : Int32)).toUInt32.toUInt16.toUInt32.toInt32)]
    refine OwnKit.ireturn K d_jdk_43m2_14 (Or.inr (Or.inr (Or.inr (Or.inl rfl)))) (by rw [own_lat1 hc.1 hc.2]; exact own_chN hc.1 (by omega)) ?_ (Nat.le_of_ble_eq_true rfl) (Nat.le_of_ble_eq_true rfl)
    · rw [own_lat1 hc.1 hc.2]
      exact ⟨rfl, rfl⟩
  · intro m; first | rfl | (simp [entryFrame, mkF, argsToLocals, Value.category]; done)

theorem d_jdk_52m6_0 : decode jdk_52_method_6_code 0 = .ok (.aload_n 0, 1) := by decide +kernel
theorem d_jdk_52m6_1 : decode jdk_52_method_6_code 1 = .ok (.arraylength, 1) := by decide +kernel
theorem d_jdk_52m6_2 : decode jdk_52_method_6_code 2 = .ok (.iconst 1, 1) := by decide +kernel
theorem d_jdk_52m6_3 : decode jdk_52_method_6_code 3 = .ok (.ishr, 1) := by decide +kernel
theorem d_jdk_52m6_4 : decode jdk_52_method_6_code 4 = .ok (.ireturn, 1) := by decide +kernel
set_option maxRecDepth 65536 in
set_option maxHeartbeats 40000000 in
theorem c_ulen (l : Launch) (Z : State) (a0 : Array Value) (hw : ∀ d ∈ tables_1, d.before a0 Z = true) (n0 : Nat) (h0 : Heap) (b : Addr) (kb : ClassId) (cs : List Int32) (hcap : cs.length ≤ 4) (Ab0 : OwnKit.Av Z h0 b kb .byte (own_utf cs)) :
    OwnKit.Con false l Z n0 (⟨"java/lang/StringUTF16", "length", "([B)I"⟩ : MethodName) jdk_52_method_6_code 1 (some .int) ({ frames := 0, cells := 0, slots := 0, locals := 0 } : Room) #[.ref b] h0 (QInt (Int32.ofNat cs.length) h0) := by
  refine OwnKit.Con.of (by first | (refine plainFor_of_name ?_; simp [plainName, overriddenIn]; done) | decide +kernel) ?_ ?_
  · intro κ hwd hJ K0
    have K : OwnKit.Ok κ l Z n0 "java/lang/StringUTF16" "length" jdk_52_method_6_code 1 (some .int) ({ frames := 0, cells := 0, slots := 0, locals := 0 } : Room) (QInt (Int32.ofNat cs.length) h0) := K0
    have ef : (entryFrame κ.m #[.ref b] 1).locals = #[.val (.ref b)] := by first | (simp [entryFrame, argsToLocals, Value.category]; done) | rfl
    rw [ef]; clear ef K0
    show OwnKit.Go κ h0 0 0 0 #[.val (.ref b)] []
    refine OwnKit.aloadN K d_jdk_52m6_0 rfl rfl ?_
    show OwnKit.Go κ h0 0 0 1 #[.val (.ref b)] [.ref b]
    refine OwnKit.lenV K d_jdk_52m6_1 Ab0 ?_
    show OwnKit.Go κ h0 0 0 2 #[.val (.ref b)] [.int (Int32.ofNat (own_utf cs).length)]
    refine OwnKit.iconst K d_jdk_52m6_2 ?_
    show OwnKit.Go κ h0 0 0 3 #[.val (.ref b)] [.int (1 : Int32), .int (Int32.ofNat (own_utf cs).length)]
    refine OwnKit.ishr K d_jdk_52m6_3 ?_
    show OwnKit.Go κ h0 0 0 4 #[.val (.ref b)] [.int ((Int32.ofNat (own_utf cs).length) >>> ((1 : Int32) &&& 31))]
    refine OwnKit.ireturn K d_jdk_52m6_4 (Or.inl rfl) rfl ?_ (Nat.le_of_ble_eq_true rfl) (Nat.le_of_ble_eq_true rfl)
    · rw [own_utfLen, own_half (by omega)]
      exact ⟨rfl, rfl⟩
  · intro m; first | rfl | (simp [entryFrame, mkF, argsToLocals, Value.category]; done)

theorem d_jdk_52m91_0 : decode jdk_52_method_91_code 0 = .ok (.iload_n 0, 1) := by decide +kernel
theorem d_jdk_52m91_1 : decode jdk_52_method_91_code 1 = .ok (.aload_n 1, 1) := by decide +kernel
theorem d_jdk_52m91_2 : decode jdk_52_method_91_code 2 = .ok (.invokestatic 48, 3) := by decide +kernel
theorem d_jdk_52m91_5 : decode jdk_52_method_91_code 5 = .ok (.invokestatic 414, 3) := by decide +kernel
theorem d_jdk_52m91_8 : decode jdk_52_method_91_code 8 = .ok (.return_, 1) := by decide +kernel
set_option maxRecDepth 65536 in
set_option maxHeartbeats 40000000 in
theorem c_uchk (l : Launch) (Z : State) (a0 : Array Value) (hw : ∀ d ∈ tables_1, d.before a0 Z = true) (n0 : Nat) (h0 : Heap) (b : Addr) (kb : ClassId) (cs : List Int32) (i c : Int32) (j : Nat) (i_COMPACT_STRINGS : Int32) (v_SIOOBE_FORMATTER : Value) (hi : i.toInt = j) (hcap : cs.length ≤ 4) (hcj : cs[j]? = some c) (hc : 0 ≤ c.toInt ∧ c.toInt ≤ 65535) (Ab0 : OwnKit.Av Z h0 b kb .byte (own_utf cs)) (S_COMPACT_STRINGS : Sta Z Z.heap "java/lang/String" "COMPACT_STRINGS" "Z" (.int i_COMPACT_STRINGS)) (nz_COMPACT_STRINGS : ¬ i_COMPACT_STRINGS = (0 : Int32)) (S_SIOOBE_FORMATTER : Sta Z Z.heap "jdk/internal/util/Preconditions" "SIOOBE_FORMATTER" "Ljava/util/function/BiFunction;" (v_SIOOBE_FORMATTER)) (hr_v_SIOOBE_FORMATTER : v_SIOOBE_FORMATTER.isRef = true) (S__assertionsDisabled : Sta Z Z.heap "java/lang/StringUTF16" "$assertionsDisabled" "Z" (.int (1 : Int32))) (S_HI_BYTE_SHIFT : Sta Z Z.heap "java/lang/StringUTF16" "HI_BYTE_SHIFT" "I" (.int (0 : Int32))) (S_LO_BYTE_SHIFT : Sta Z Z.heap "java/lang/StringUTF16" "LO_BYTE_SHIFT" "I" (.int (8 : Int32))) :
    OwnKit.Con false l Z n0 (⟨"java/lang/StringUTF16", "checkIndex", "(I[B)V"⟩ : MethodName) jdk_52_method_91_code 2 none ({ frames := 2, cells := 0, slots := 0, locals := 27 } : Room) #[.int i, .ref b] h0 (QNone h0) := by
  refine OwnKit.Con.of (by first | (refine plainFor_of_name ?_; simp [plainName, overriddenIn]; done) | decide +kernel) ?_ ?_
  · intro κ hwd hJ K0
    have K : OwnKit.Ok κ l Z n0 "java/lang/StringUTF16" "checkIndex" jdk_52_method_91_code 2 none ({ frames := 2, cells := 0, slots := 0, locals := 27 } : Room) (QNone h0) := K0
    have ef : (entryFrame κ.m #[.int i, .ref b] 2).locals = #[.val (.int i), .val (.ref b)] := by first | (simp [entryFrame, argsToLocals, Value.category]; done) | rfl
    rw [ef]; clear ef K0
    have hc_v_SIOOBE_FORMATTER := OwnKit.catR hr_v_SIOOBE_FORMATTER
    have hL : (Int32.ofNat cs.length).toInt = cs.length := len_toInt (by omega)
    have hj2 : j < cs.length := (List.getElem?_eq_some_iff.mp hcj).1
    show OwnKit.Go κ h0 0 0 0 #[.val (.int i), .val (.ref b)] []
    refine OwnKit.iloadN K d_jdk_52m91_0 rfl ?_
    show OwnKit.Go κ h0 0 0 1 #[.val (.int i), .val (.ref b)] [.int i]
    refine OwnKit.aloadN K d_jdk_52m91_1 rfl rfl ?_
    show OwnKit.Go κ h0 0 0 2 #[.val (.int i), .val (.ref b)] [.ref b, .int i]
    refine OwnKit.invS (y := (⟨"java/lang/StringUTF16", "length", "([B)I"⟩ : MethodName)) (argsL := [.ref b]) (rest := [.int i]) K (c_ulen l Z a0 hw n0 h0 b kb cs hcap Ab0) d_jdk_52m91_2 (hw _ (List.mem_of_getElem? (i := 114) rfl)) (hw _ (List.mem_of_getElem? (i := 115) rfl)) (hw _ (List.mem_of_getElem? (i := 52) rfl)) (hw _ (List.mem_of_getElem? (i := 116) rfl)) (by decide) (lenOf (by decide +kernel : parseMethodDescriptor "([B)I" = some ⟨[(.array .byte)], some .int⟩) rfl) rfl rfl (W := 1) (Nat.le_of_ble_eq_true rfl) (Nat.le_of_ble_eq_true rfl) (Nat.le_of_ble_eq_true rfl) (Nat.le_of_ble_eq_true rfl) (Nat.le_of_ble_eq_true rfl) ?_
    rintro _ h1 ⟨rfl, rfl⟩ g2
    show OwnKit.Go κ h0 0 0 5 #[.val (.int i), .val (.ref b)] [.int (Int32.ofNat cs.length), .int i]
    refine OwnKit.invS (y := (⟨"java/lang/String", "checkIndex", "(II)V"⟩ : MethodName)) (argsL := [.int i, .int (Int32.ofNat cs.length)]) (rest := []) K (c_chk2 l Z a0 hw n0 h0 i _ i_COMPACT_STRINGS v_SIOOBE_FORMATTER (by omega) (by omega) S_COMPACT_STRINGS nz_COMPACT_STRINGS S_SIOOBE_FORMATTER hr_v_SIOOBE_FORMATTER S__assertionsDisabled S_HI_BYTE_SHIFT S_LO_BYTE_SHIFT) d_jdk_52m91_5 (hw _ (List.mem_of_getElem? (i := 117) rfl)) (hw _ (List.mem_of_getElem? (i := 78) rfl)) (hw _ (List.mem_of_getElem? (i := 10) rfl)) (hw _ (List.mem_of_getElem? (i := 79) rfl)) (by decide) (lenOf (by decide +kernel : parseMethodDescriptor "(II)V" = some ⟨[.int, .int], none⟩) rfl) rfl rfl (W := 0) (Nat.le_of_ble_eq_true rfl) (Nat.le_of_ble_eq_true rfl) (Nat.le_of_ble_eq_true rfl) (Nat.le_of_ble_eq_true rfl) (Nat.le_of_ble_eq_true rfl) ?_
    rintro _ h3 ⟨rfl, rfl⟩ g4
    show OwnKit.Go κ h0 0 0 8 #[.val (.int i), .val (.ref b)] []
    refine OwnKit.return0 K d_jdk_52m91_8  ?_ (Nat.le_of_ble_eq_true rfl) (Nat.le_of_ble_eq_true rfl)
    exact ⟨rfl, rfl⟩
  · intro m; first | rfl | (simp [entryFrame, mkF, argsToLocals, Value.category]; done)

theorem d_jdk_52m83_0 : decode jdk_52_method_83_code 0 = .ok (.iload_n 1, 1) := by decide +kernel
theorem d_jdk_52m83_1 : decode jdk_52_method_83_code 1 = .ok (.aload_n 0, 1) := by decide +kernel
theorem d_jdk_52m83_2 : decode jdk_52_method_83_code 2 = .ok (.invokestatic 67, 3) := by decide +kernel
theorem d_jdk_52m83_5 : decode jdk_52_method_83_code 5 = .ok (.aload_n 0, 1) := by decide +kernel
theorem d_jdk_52m83_6 : decode jdk_52_method_83_code 6 = .ok (.iload_n 1, 1) := by decide +kernel
theorem d_jdk_52m83_7 : decode jdk_52_method_83_code 7 = .ok (.invokestatic 71, 3) := by decide +kernel
theorem d_jdk_52m83_10 : decode jdk_52_method_83_code 10 = .ok (.ireturn, 1) := by decide +kernel
set_option maxRecDepth 65536 in
set_option maxHeartbeats 40000000 in
theorem c_uch (l : Launch) (Z : State) (a0 : Array Value) (hw : ∀ d ∈ tables_1, d.before a0 Z = true) (n0 : Nat) (h0 : Heap) (b : Addr) (kb : ClassId) (cs : List Int32) (i c : Int32) (j : Nat) (i_COMPACT_STRINGS : Int32) (v_SIOOBE_FORMATTER : Value) (hi : i.toInt = j) (hcap : cs.length ≤ 4) (hcj : cs[j]? = some c) (hc : 0 ≤ c.toInt ∧ c.toInt ≤ 65535) (Ab0 : OwnKit.Av Z h0 b kb .byte (own_utf cs)) (S_COMPACT_STRINGS : Sta Z Z.heap "java/lang/String" "COMPACT_STRINGS" "Z" (.int i_COMPACT_STRINGS)) (nz_COMPACT_STRINGS : ¬ i_COMPACT_STRINGS = (0 : Int32)) (S_SIOOBE_FORMATTER : Sta Z Z.heap "jdk/internal/util/Preconditions" "SIOOBE_FORMATTER" "Ljava/util/function/BiFunction;" (v_SIOOBE_FORMATTER)) (hr_v_SIOOBE_FORMATTER : v_SIOOBE_FORMATTER.isRef = true) (S__assertionsDisabled : Sta Z Z.heap "java/lang/StringUTF16" "$assertionsDisabled" "Z" (.int (1 : Int32))) (S_HI_BYTE_SHIFT : Sta Z Z.heap "java/lang/StringUTF16" "HI_BYTE_SHIFT" "I" (.int (0 : Int32))) (S_LO_BYTE_SHIFT : Sta Z Z.heap "java/lang/StringUTF16" "LO_BYTE_SHIFT" "I" (.int (8 : Int32))) :
    OwnKit.Con false l Z n0 (⟨"java/lang/StringUTF16", "charAt", "([BI)C"⟩ : MethodName) jdk_52_method_83_code 2 (some .char) ({ frames := 3, cells := 0, slots := 0, locals := 40 } : Room) #[.ref b, .int i] h0 (QInt c h0) := by
  refine OwnKit.Con.of (by first | (refine plainFor_of_name ?_; simp [plainName, overriddenIn]; done) | decide +kernel) ?_ ?_
  · intro κ hwd hJ K0
    have K : OwnKit.Ok κ l Z n0 "java/lang/StringUTF16" "charAt" jdk_52_method_83_code 2 (some .char) ({ frames := 3, cells := 0, slots := 0, locals := 40 } : Room) (QInt c h0) := K0
    have ef : (entryFrame κ.m #[.ref b, .int i] 2).locals = #[.val (.ref b), .val (.int i)] := by first | (simp [entryFrame, argsToLocals, Value.category]; done) | rfl
    rw [ef]; clear ef K0
    have hc_v_SIOOBE_FORMATTER := OwnKit.catR hr_v_SIOOBE_FORMATTER
    have hL : (Int32.ofNat cs.length).toInt = cs.length := len_toInt (by omega)
    have hj2 : j < cs.length := (List.getElem?_eq_some_iff.mp hcj).1
    show OwnKit.Go κ h0 0 0 0 #[.val (.ref b), .val (.int i)] []
    refine OwnKit.iloadN K d_jdk_52m83_0 rfl ?_
    show OwnKit.Go κ h0 0 0 1 #[.val (.ref b), .val (.int i)] [.int i]
    refine OwnKit.aloadN K d_jdk_52m83_1 rfl rfl ?_
    show OwnKit.Go κ h0 0 0 2 #[.val (.ref b), .val (.int i)] [.ref b, .int i]
    refine OwnKit.invS (y := (⟨"java/lang/StringUTF16", "checkIndex", "(I[B)V"⟩ : MethodName)) (argsL := [.int i, .ref b]) (rest := []) K (c_uchk l Z a0 hw n0 h0 b kb cs i c j i_COMPACT_STRINGS v_SIOOBE_FORMATTER hi hcap hcj hc Ab0 S_COMPACT_STRINGS nz_COMPACT_STRINGS S_SIOOBE_FORMATTER hr_v_SIOOBE_FORMATTER S__assertionsDisabled S_HI_BYTE_SHIFT S_LO_BYTE_SHIFT) d_jdk_52m83_2 (hw _ (List.mem_of_getElem? (i := 111) rfl)) (hw _ (List.mem_of_getElem? (i := 112) rfl)) (hw _ (List.mem_of_getElem? (i := 52) rfl)) (hw _ (List.mem_of_getElem? (i := 113) rfl)) (by decide) (lenOf (by decide +kernel : parseMethodDescriptor "(I[B)V" = some ⟨[.int, (.array .byte)], none⟩) rfl) rfl rfl (W := 0) (Nat.le_of_ble_eq_true rfl) (Nat.le_of_ble_eq_true rfl) (Nat.le_of_ble_eq_true rfl) (Nat.le_of_ble_eq_true rfl) (Nat.le_of_ble_eq_true rfl) ?_
    rintro _ h1 ⟨rfl, rfl⟩ g2
    show OwnKit.Go κ h0 0 0 5 #[.val (.ref b), .val (.int i)] []
    refine OwnKit.aloadN K d_jdk_52m83_5 rfl rfl ?_
    show OwnKit.Go κ h0 0 0 6 #[.val (.ref b), .val (.int i)] [.ref b]
    refine OwnKit.iloadN K d_jdk_52m83_6 rfl ?_
    show OwnKit.Go κ h0 0 0 7 #[.val (.ref b), .val (.int i)] [.int i, .ref b]
    refine OwnKit.invS (y := (⟨"java/lang/StringUTF16", "getChar", "([BI)C"⟩ : MethodName)) (argsL := [.ref b, .int i]) (rest := []) K (c_gch l Z a0 hw n0 h0 b kb cs i c j i_COMPACT_STRINGS v_SIOOBE_FORMATTER hi (by omega) hcj hc Ab0 S_COMPACT_STRINGS nz_COMPACT_STRINGS S_SIOOBE_FORMATTER hr_v_SIOOBE_FORMATTER S__assertionsDisabled S_HI_BYTE_SHIFT S_LO_BYTE_SHIFT) d_jdk_52m83_7 (hw _ (List.mem_of_getElem? (i := 105) rfl)) (hw _ (List.mem_of_getElem? (i := 106) rfl)) (hw _ (List.mem_of_getElem? (i := 52) rfl)) (hw _ (List.mem_of_getElem? (i := 107) rfl)) (by decide) (lenOf (by decide +kernel : parseMethodDescriptor "([BI)C" = some ⟨[(.array .byte), .int], some .char⟩) rfl) rfl rfl (W := 0) (Nat.le_of_ble_eq_true rfl) (Nat.le_of_ble_eq_true rfl) (Nat.le_of_ble_eq_true rfl) (Nat.le_of_ble_eq_true rfl) (Nat.le_of_ble_eq_true rfl) ?_
    rintro _ h3 ⟨rfl, rfl⟩ g4
    show OwnKit.Go κ h0 0 0 10 #[.val (.ref b), .val (.int i)] [.int c]
    refine OwnKit.ireturn K d_jdk_52m83_10 (Or.inr (Or.inr (Or.inr (Or.inl rfl)))) (own_chN hc.1 hc.2) ?_ (Nat.le_of_ble_eq_true rfl) (Nat.le_of_ble_eq_true rfl)
    exact ⟨rfl, rfl⟩
  · intro m; first | rfl | (simp [entryFrame, mkF, argsToLocals, Value.category]; done)

theorem d_jdk_42m56_0 : decode jdk_42_method_56_code 0 = .ok (.aload_n 0, 1) := by decide +kernel
theorem d_jdk_42m56_1 : decode jdk_42_method_56_code 1 = .ok (.invokevirtual 492, 3) := by decide +kernel
theorem d_jdk_42m56_4 : decode jdk_42_method_56_code 4 = .ok (.ifCond .eq 12, 3) := by decide +kernel
theorem d_jdk_42m56_7 : decode jdk_42_method_56_code 7 = .ok (.aload_n 0, 1) := by decide +kernel
theorem d_jdk_42m56_8 : decode jdk_42_method_56_code 8 = .ok (.getfield 9, 3) := by decide +kernel
theorem d_jdk_42m56_11 : decode jdk_42_method_56_code 11 = .ok (.iload_n 1, 1) := by decide +kernel
theorem d_jdk_42m56_12 : decode jdk_42_method_56_code 12 = .ok (.invokestatic 495, 3) := by decide +kernel
theorem d_jdk_42m56_15 : decode jdk_42_method_56_code 15 = .ok (.ireturn, 1) := by decide +kernel
theorem d_jdk_42m56_16 : decode jdk_42_method_56_code 16 = .ok (.aload_n 0, 1) := by decide +kernel
theorem d_jdk_42m56_17 : decode jdk_42_method_56_code 17 = .ok (.getfield 9, 3) := by decide +kernel
theorem d_jdk_42m56_20 : decode jdk_42_method_56_code 20 = .ok (.iload_n 1, 1) := by decide +kernel
theorem d_jdk_42m56_21 : decode jdk_42_method_56_code 21 = .ok (.invokestatic 498, 3) := by decide +kernel
theorem d_jdk_42m56_24 : decode jdk_42_method_56_code 24 = .ok (.ireturn, 1) := by decide +kernel
set_option maxRecDepth 65536 in
set_option maxHeartbeats 40000000 in
theorem c_chat (l : Launch) (Z : State) (a0 : Array Value) (hw : ∀ d ∈ tables_1, d.before a0 Z = true) (n0 : Nat) (h0 : Heap) (a : Addr) (cs : List Int32) (i c : Int32) (j : Nat) (i_COMPACT_STRINGS : Int32) (v_SIOOBE_FORMATTER : Value) (hi : i.toInt = j) (hcap : cs.length ≤ 4) (hcj : cs[j]? = some c) (hc : 0 ≤ c.toInt ∧ c.toInt ≤ 65535) (hS : Str Z h0 a cs) (S_COMPACT_STRINGS : Sta Z Z.heap "java/lang/String" "COMPACT_STRINGS" "Z" (.int i_COMPACT_STRINGS)) (nz_COMPACT_STRINGS : ¬ i_COMPACT_STRINGS = (0 : Int32)) (S_SIOOBE_FORMATTER : Sta Z Z.heap "jdk/internal/util/Preconditions" "SIOOBE_FORMATTER" "Ljava/util/function/BiFunction;" (v_SIOOBE_FORMATTER)) (hr_v_SIOOBE_FORMATTER : v_SIOOBE_FORMATTER.isRef = true) (S__assertionsDisabled : Sta Z Z.heap "java/lang/StringUTF16" "$assertionsDisabled" "Z" (.int (1 : Int32))) (S_HI_BYTE_SHIFT : Sta Z Z.heap "java/lang/StringUTF16" "HI_BYTE_SHIFT" "I" (.int (0 : Int32))) (S_LO_BYTE_SHIFT : Sta Z Z.heap "java/lang/StringUTF16" "LO_BYTE_SHIFT" "I" (.int (8 : Int32))) :
    OwnKit.Con false l Z n0 (⟨"java/lang/String", "charAt", "(I)C"⟩ : MethodName) jdk_42_method_56_code 2 (some .char) ({ frames := 4, cells := 0, slots := 0, locals := 53 } : Room) #[.ref a, .int i] h0 (QInt c h0) := by
  refine OwnKit.Con.of (by first | (refine plainFor_of_name ?_; simp [plainName, overriddenIn]; done) | decide +kernel) ?_ ?_
  · intro κ hwd hJ K0
    have K : OwnKit.Ok κ l Z n0 "java/lang/String" "charAt" jdk_42_method_56_code 2 (some .char) ({ frames := 4, cells := 0, slots := 0, locals := 53 } : Room) (QInt c h0) := K0
    have ef : (entryFrame κ.m #[.ref a, .int i] 2).locals = #[.val (.ref a), .val (.int i)] := by first | (simp [entryFrame, argsToLocals, Value.category]; done) | rfl
    rw [ef]; clear ef K0
    have hc_v_SIOOBE_FORMATTER := OwnKit.catR hr_v_SIOOBE_FORMATTER
    obtain ⟨b, kb, cd, E_a, FV, FC, SB⟩ := hS
    rcases SB with ⟨hl, rfl, Ab⟩ | ⟨hl, rfl, Ab⟩
    · show OwnKit.Go κ h0 0 0 0 #[.val (.ref a), .val (.int i)] []
      refine OwnKit.aloadN K d_jdk_42m56_0 rfl rfl ?_
      show OwnKit.Go κ h0 0 0 1 #[.val (.ref a), .val (.int i)] [.ref a]
      refine OwnKit.invV (y := (⟨"java/lang/String", "isLatin1", "()Z"⟩ : MethodName)) (z := (⟨"java/lang/String", "isLatin1", "()Z"⟩ : MethodName)) (argsL := []) (rest := []) K (c_isL l Z a0 hw n0 h0 a (0 : Int32) (1 : Int32) i_COMPACT_STRINGS v_SIOOBE_FORMATTER (by decide) FC S_COMPACT_STRINGS nz_COMPACT_STRINGS S_SIOOBE_FORMATTER hr_v_SIOOBE_FORMATTER S__assertionsDisabled S_HI_BYTE_SHIFT S_LO_BYTE_SHIFT) d_jdk_42m56_1 E_a (hw _ (List.mem_of_getElem? (i := 68) rfl)) (hw _ (List.mem_of_getElem? (i := 69) rfl)) (OwnKit.nfS (hw _ (List.mem_of_getElem? (i := 71) rfl))) (hw _ (List.mem_of_getElem? (i := 71) rfl)) (hw _ (List.mem_of_getElem? (i := 70) rfl)) (hw _ (List.mem_of_getElem? (i := 72) rfl)) (hw _ (List.mem_of_getElem? (i := 10) rfl)) (by decide) (lenOf (by decide +kernel : parseMethodDescriptor "()Z" = some ⟨[], some .boolean⟩) rfl) rfl rfl (W := 0) (Nat.le_of_ble_eq_true rfl) (Nat.le_of_ble_eq_true rfl) (Nat.le_of_ble_eq_true rfl) (Nat.le_of_ble_eq_true rfl) (Nat.le_of_ble_eq_true rfl) ?_
      rintro _ h1 ⟨rfl, rfl⟩ g2
      show OwnKit.Go κ h0 0 0 4 #[.val (.ref a), .val (.int i)] [.int (1 : Int32)]
      refine OwnKit.ifeq K d_jdk_42m56_4 (by decide) (pc' := 16) rfl  (fun b3 => ?_) (fun b3 => ?_)
      · exact absurd b3 (by decide)
      · show OwnKit.Go κ h0 0 0 7 #[.val (.ref a), .val (.int i)] []
        refine OwnKit.aloadN K d_jdk_42m56_7 rfl rfl ?_
        show OwnKit.Go κ h0 0 0 8 #[.val (.ref a), .val (.int i)] [.ref a]
        refine OwnKit.getfield K d_jdk_42m56_8 (host := "") (Or.inl (hw _ (List.mem_of_getElem? (i := 28) rfl))) Via.refl FV ?_
        show OwnKit.Go κ h0 0 0 11 #[.val (.ref a), .val (.int i)] [.ref b]
        refine OwnKit.iloadN K d_jdk_42m56_11 rfl ?_
        show OwnKit.Go κ h0 0 0 12 #[.val (.ref a), .val (.int i)] [.int i, .ref b]
        refine OwnKit.invS (y := (⟨"java/lang/StringLatin1", "charAt", "([BI)C"⟩ : MethodName)) (argsL := [.ref b, .int i]) (rest := []) K (c_lch l Z a0 hw n0 h0 b kb cs i c j i_COMPACT_STRINGS v_SIOOBE_FORMATTER hi hcj (own_latAt hl hcj) Ab S_COMPACT_STRINGS nz_COMPACT_STRINGS S_SIOOBE_FORMATTER hr_v_SIOOBE_FORMATTER S__assertionsDisabled S_HI_BYTE_SHIFT S_LO_BYTE_SHIFT) d_jdk_42m56_12 (hw _ (List.mem_of_getElem? (i := 73) rfl)) (hw _ (List.mem_of_getElem? (i := 74) rfl)) (hw _ (List.mem_of_getElem? (i := 75) rfl)) (hw _ (List.mem_of_getElem? (i := 76) rfl)) (by decide) (lenOf (by decide +kernel : parseMethodDescriptor "([BI)C" = some ⟨[(.array .byte), .int], some .char⟩) rfl) rfl rfl (W := 0) (Nat.le_of_ble_eq_true rfl) (Nat.le_of_ble_eq_true rfl) (Nat.le_of_ble_eq_true rfl) (Nat.le_of_ble_eq_true rfl) (Nat.le_of_ble_eq_true rfl) ?_
        rintro _ h4 ⟨rfl, rfl⟩ g5
        show OwnKit.Go κ h0 0 0 15 #[.val (.ref a), .val (.int i)] [.int c]
        refine OwnKit.ireturn K d_jdk_42m56_15 (Or.inr (Or.inr (Or.inr (Or.inl rfl)))) (own_chN hc.1 hc.2) ?_ (Nat.le_of_ble_eq_true rfl) (Nat.le_of_ble_eq_true rfl)
        exact ⟨rfl, rfl⟩
    · show OwnKit.Go κ h0 0 0 0 #[.val (.ref a), .val (.int i)] []
      refine OwnKit.aloadN K d_jdk_42m56_0 rfl rfl ?_
      show OwnKit.Go κ h0 0 0 1 #[.val (.ref a), .val (.int i)] [.ref a]
      refine OwnKit.invV (y := (⟨"java/lang/String", "isLatin1", "()Z"⟩ : MethodName)) (z := (⟨"java/lang/String", "isLatin1", "()Z"⟩ : MethodName)) (argsL := []) (rest := []) K (c_isL l Z a0 hw n0 h0 a (1 : Int32) (0 : Int32) i_COMPACT_STRINGS v_SIOOBE_FORMATTER (by decide) FC S_COMPACT_STRINGS nz_COMPACT_STRINGS S_SIOOBE_FORMATTER hr_v_SIOOBE_FORMATTER S__assertionsDisabled S_HI_BYTE_SHIFT S_LO_BYTE_SHIFT) d_jdk_42m56_1 E_a (hw _ (List.mem_of_getElem? (i := 68) rfl)) (hw _ (List.mem_of_getElem? (i := 69) rfl)) (OwnKit.nfS (hw _ (List.mem_of_getElem? (i := 71) rfl))) (hw _ (List.mem_of_getElem? (i := 71) rfl)) (hw _ (List.mem_of_getElem? (i := 70) rfl)) (hw _ (List.mem_of_getElem? (i := 72) rfl)) (hw _ (List.mem_of_getElem? (i := 10) rfl)) (by decide) (lenOf (by decide +kernel : parseMethodDescriptor "()Z" = some ⟨[], some .boolean⟩) rfl) rfl rfl (W := 0) (Nat.le_of_ble_eq_true rfl) (Nat.le_of_ble_eq_true rfl) (Nat.le_of_ble_eq_true rfl) (Nat.le_of_ble_eq_true rfl) (Nat.le_of_ble_eq_true rfl) ?_
      rintro _ h6 ⟨rfl, rfl⟩ g7
      show OwnKit.Go κ h0 0 0 4 #[.val (.ref a), .val (.int i)] [.int (0 : Int32)]
      refine OwnKit.ifeq K d_jdk_42m56_4 (by decide) (pc' := 16) rfl  (fun b8 => ?_) (fun b8 => ?_)
      · show OwnKit.Go κ h0 0 0 16 #[.val (.ref a), .val (.int i)] []
        refine OwnKit.aloadN K d_jdk_42m56_16 rfl rfl ?_
        show OwnKit.Go κ h0 0 0 17 #[.val (.ref a), .val (.int i)] [.ref a]
        refine OwnKit.getfield K d_jdk_42m56_17 (host := "") (Or.inl (hw _ (List.mem_of_getElem? (i := 28) rfl))) Via.refl FV ?_
        show OwnKit.Go κ h0 0 0 20 #[.val (.ref a), .val (.int i)] [.ref b]
        refine OwnKit.iloadN K d_jdk_42m56_20 rfl ?_
        show OwnKit.Go κ h0 0 0 21 #[.val (.ref a), .val (.int i)] [.int i, .ref b]
        refine OwnKit.invS (y := (⟨"java/lang/StringUTF16", "charAt", "([BI)C"⟩ : MethodName)) (argsL := [.ref b, .int i]) (rest := []) K (c_uch l Z a0 hw n0 h0 b kb cs i c j i_COMPACT_STRINGS v_SIOOBE_FORMATTER hi hcap hcj hc Ab S_COMPACT_STRINGS nz_COMPACT_STRINGS S_SIOOBE_FORMATTER hr_v_SIOOBE_FORMATTER S__assertionsDisabled S_HI_BYTE_SHIFT S_LO_BYTE_SHIFT) d_jdk_42m56_21 (hw _ (List.mem_of_getElem? (i := 108) rfl)) (hw _ (List.mem_of_getElem? (i := 109) rfl)) (hw _ (List.mem_of_getElem? (i := 52) rfl)) (hw _ (List.mem_of_getElem? (i := 110) rfl)) (by decide) (lenOf (by decide +kernel : parseMethodDescriptor "([BI)C" = some ⟨[(.array .byte), .int], some .char⟩) rfl) rfl rfl (W := 0) (Nat.le_of_ble_eq_true rfl) (Nat.le_of_ble_eq_true rfl) (Nat.le_of_ble_eq_true rfl) (Nat.le_of_ble_eq_true rfl) (Nat.le_of_ble_eq_true rfl) ?_
        rintro _ h9 ⟨rfl, rfl⟩ g10
        show OwnKit.Go κ h0 0 0 24 #[.val (.ref a), .val (.int i)] [.int c]
        refine OwnKit.ireturn K d_jdk_42m56_24 (Or.inr (Or.inr (Or.inr (Or.inl rfl)))) (own_chN hc.1 hc.2) ?_ (Nat.le_of_ble_eq_true rfl) (Nat.le_of_ble_eq_true rfl)
        exact ⟨rfl, rfl⟩
      · exact absurd b8 (by decide)
  · intro m; first | rfl | (simp [entryFrame, mkF, argsToLocals, Value.category]; done)

def QLaw (v : Option Value) (h : Heap) : Prop := v = some (.int 1)
def QChr (h0 : Heap) (v : Option Value) (h : Heap) : Prop := ∃ c : Int32, v = some (.int c) ∧ (0 ≤ c.toInt ∧ c.toInt ≤ 65535) ∧ h0 = h
def QBuild (Z : State) (cs : List Int32) (h0 : Heap) (v : Option Value) (h : Heap) : Prop := ∃ a, v = some (.ref a) ∧ Str Z h a cs
def own_ch (c : Int32) : Prop := 0 ≤ c.toInt ∧ c.toInt ≤ 65535
theorem own_ch0 : own_chs [] := fun _ h => by cases h
theorem own_chC {c : Int32} {cs : List Int32} (h : own_ch c) (q : own_chs cs) : own_chs (c :: cs) := fun x hx => by
  rcases List.mem_cons.mp hx with rfl | r
  · exact h
  · exact q x r
theorem own_sub48 {c : Int32} (h : 0 ≤ c.toInt) : (c - (48 : Int32)).toInt = c.toInt - 48 := by
  have q := c_isub c 48
  have r := rng32 (c - 48)
  have r2 := rng32 c
  have e : (48 : Int32).toInt = 48 := rfl
  omega
def own_all (cs : List Int32) (j : Nat) : Prop := ∀ c ∈ cs.take j, own_idP c
theorem own_allS {cs : List Int32} {j : Nat} {c : Int32} (h : own_all cs j) (q : cs[j]? = some c) (r : own_idP c) : own_all cs (j + 1) := by
  unfold own_all
  rw [List.take_add_one, q]
  intro x hx
  rcases List.mem_append.mp hx with y | y
  · exact h x y
  · have e : x = c := by simpa using y
    rw [e]; exact r
theorem own_allN {cs : List Int32} {j : Nat} (h : own_all cs j) (e : j = cs.length) : ∀ c ∈ cs, own_idP c := fun c q => h c (by rw [e, List.take_length]; exact q)

theorem d_method_3_0 : decode method_3_code 0 = .ok (.iload_n 0, 1) := by decide +kernel
theorem d_method_3_1 : decode method_3_code 1 = .ok (.bipush 16, 2) := by decide +kernel
theorem d_method_3_3 : decode method_3_code 3 = .ok (.iushr, 1) := by decide +kernel
theorem d_method_3_4 : decode method_3_code 4 = .ok (.iconst 1, 1) := by decide +kernel
theorem d_method_3_5 : decode method_3_code 5 = .ok (.iand, 1) := by decide +kernel
theorem d_method_3_6 : decode method_3_code 6 = .ok (.ifCond .ne 9, 3) := by decide +kernel
theorem d_method_3_9 : decode method_3_code 9 = .ok (.iload_n 0, 1) := by decide +kernel
theorem d_method_3_10 : decode method_3_code 10 = .ok (.bipush 127, 2) := by decide +kernel
theorem d_method_3_12 : decode method_3_code 12 = .ok (.iand, 1) := by decide +kernel
theorem d_method_3_13 : decode method_3_code 13 = .ok (.i2c, 1) := by decide +kernel
theorem d_method_3_14 : decode method_3_code 14 = .ok (.ireturn, 1) := by decide +kernel
theorem d_method_3_15 : decode method_3_code 15 = .ok (.iload_n 0, 1) := by decide +kernel
theorem d_method_3_16 : decode method_3_code 16 = .ok (.ldc 28, 2) := by decide +kernel
theorem d_method_3_18 : decode method_3_code 18 = .ok (.iand, 1) := by decide +kernel
theorem d_method_3_19 : decode method_3_code 19 = .ok (.i2c, 1) := by decide +kernel
theorem d_method_3_20 : decode method_3_code 20 = .ok (.ireturn, 1) := by decide +kernel
set_option maxRecDepth 65536 in
set_option maxHeartbeats 40000000 in
theorem c_draw (l : Launch) (Z : State) (a0 : Array Value) (hw : ∀ d ∈ tables_1, d.before a0 Z = true) (n0 : Nat) (h0 : Heap) (p : Int32)  :
    OwnKit.Con false l Z n0 (⟨"com/example/bale/bale/check/IdsIsWellFormedPinLaw", "draw", "(I)C"⟩ : MethodName) method_3_code 1 (some .char) ({ frames := 0, cells := 0, slots := 0, locals := 0 } : Room) #[.int p] h0 (QChr h0) := by
  refine OwnKit.Con.of (by first | (refine plainFor_of_name ?_; simp [plainName, overriddenIn]; done) | decide +kernel) ?_ ?_
  · intro κ hwd hJ K0
    have K : OwnKit.Ok κ l Z n0 "com/example/bale/bale/check/IdsIsWellFormedPinLaw" "draw" method_3_code 1 (some .char) ({ frames := 0, cells := 0, slots := 0, locals := 0 } : Room) (QChr h0) := K0
    have ef : (entryFrame κ.m #[.int p] 1).locals = #[.val (.int p)] := by first | (simp [entryFrame, argsToLocals, Value.category]; done) | rfl
    rw [ef]; clear ef K0
    show OwnKit.Go κ h0 0 0 0 #[.val (.int p)] []
    refine OwnKit.iloadN K d_method_3_0 rfl ?_
    show OwnKit.Go κ h0 0 0 1 #[.val (.int p)] [.int p]
    refine OwnKit.bipush K d_method_3_1 ?_
    show OwnKit.Go κ h0 0 0 3 #[.val (.int p)] [.int (16 : Int32), .int p]
    refine OwnKit.iushr K d_method_3_3 ?_
    show OwnKit.Go κ h0 0 0 4 #[.val (.int p)] [.int (XT.ushr p (16 : Int32))]
    refine OwnKit.iconst K d_method_3_4 ?_
    show OwnKit.Go κ h0 0 0 5 #[.val (.int p)] [.int (1 : Int32), .int (XT.ushr p (16 : Int32))]
    refine OwnKit.iand K d_method_3_5 ?_
    show OwnKit.Go κ h0 0 0 6 #[.val (.int p)] [.int ((XT.ushr p (16 : Int32)) &&& (1 : Int32))]
    refine OwnKit.ifne K d_method_3_6 (by decide) (pc' := 15) rfl  (fun b1 => ?_) (fun b1 => ?_)
    · show OwnKit.Go κ h0 0 0 15 #[.val (.int p)] []
      refine OwnKit.iloadN K d_method_3_15 rfl ?_
      show OwnKit.Go κ h0 0 0 16 #[.val (.int p)] [.int p]
      refine OwnKit.ldcI K d_method_3_16 (hw _ (List.mem_of_getElem? (i := 88) rfl)) ?_
      show OwnKit.Go κ h0 0 0 18 #[.val (.int p)] [.int (65535 : Int32), .int p]
      refine OwnKit.iand K d_method_3_18 ?_
      show OwnKit.Go κ h0 0 0 19 #[.val (.int p)] [.int (p &&& (65535 : Int32))]
      refine OwnKit.i2c K d_method_3_19 ?_
      show OwnKit.Go κ h0 0 0 20 #[.val (.int p)] [.int ((p &&& (65535 : Int32)).toUInt32.toUInt16.toUInt32.toInt32)]
      refine OwnKit.ireturn K d_method_3_20 (Or.inr (Or.inr (Or.inr (Or.inl rfl)))) (own_chN (own_i16R _).1 (own_i16R _).2) ?_ (Nat.le_of_ble_eq_true rfl) (Nat.le_of_ble_eq_true rfl)
      exact ⟨_, rfl, own_i16R _, rfl⟩
    · show OwnKit.Go κ h0 0 0 9 #[.val (.int p)] []
      refine OwnKit.iloadN K d_method_3_9 rfl ?_
      show OwnKit.Go κ h0 0 0 10 #[.val (.int p)] [.int p]
      refine OwnKit.bipush K d_method_3_10 ?_
      show OwnKit.Go κ h0 0 0 12 #[.val (.int p)] [.int (127 : Int32), .int p]
      refine OwnKit.iand K d_method_3_12 ?_
      show OwnKit.Go κ h0 0 0 13 #[.val (.int p)] [.int (p &&& (127 : Int32))]
      refine OwnKit.i2c K d_method_3_13 ?_
      show OwnKit.Go κ h0 0 0 14 #[.val (.int p)] [.int ((p &&& (127 : Int32)).toUInt32.toUInt16.toUInt32.toInt32)]
      refine OwnKit.ireturn K d_method_3_14 (Or.inr (Or.inr (Or.inr (Or.inl rfl)))) (own_chN (own_i16R _).1 (own_i16R _).2) ?_ (Nat.le_of_ble_eq_true rfl) (Nat.le_of_ble_eq_true rfl)
      exact ⟨_, rfl, own_i16R _, rfl⟩
  · intro m; first | rfl | (simp [entryFrame, mkF, argsToLocals, Value.category]; done)

theorem d_method_4_0 : decode method_4_code 0 = .ok (.iload_n 0, 1) := by decide +kernel
theorem d_method_4_1 : decode method_4_code 1 = .ok (.ifCond .ne 14, 3) := by decide +kernel
theorem d_method_4_4 : decode method_4_code 4 = .ok (.new 29, 3) := by decide +kernel
theorem d_method_4_7 : decode method_4_code 7 = .ok (.dup, 1) := by decide +kernel
theorem d_method_4_8 : decode method_4_code 8 = .ok (.iconst 0, 1) := by decide +kernel
theorem d_method_4_9 : decode method_4_code 9 = .ok (.newarray .char, 2) := by decide +kernel
theorem d_method_4_11 : decode method_4_code 11 = .ok (.invokespecial 31, 3) := by decide +kernel
theorem d_method_4_14 : decode method_4_code 14 = .ok (.areturn, 1) := by decide +kernel
theorem d_method_4_15 : decode method_4_code 15 = .ok (.iload_n 0, 1) := by decide +kernel
theorem d_method_4_16 : decode method_4_code 16 = .ok (.iconst 1, 1) := by decide +kernel
theorem d_method_4_17 : decode method_4_code 17 = .ok (.if_icmp .ne 18, 3) := by decide +kernel
theorem d_method_4_20 : decode method_4_code 20 = .ok (.new 29, 3) := by decide +kernel
theorem d_method_4_23 : decode method_4_code 23 = .ok (.dup, 1) := by decide +kernel
theorem d_method_4_24 : decode method_4_code 24 = .ok (.iconst 1, 1) := by decide +kernel
theorem d_method_4_25 : decode method_4_code 25 = .ok (.newarray .char, 2) := by decide +kernel
theorem d_method_4_27 : decode method_4_code 27 = .ok (.dup, 1) := by decide +kernel
theorem d_method_4_28 : decode method_4_code 28 = .ok (.iconst 0, 1) := by decide +kernel
theorem d_method_4_29 : decode method_4_code 29 = .ok (.iload_n 1, 1) := by decide +kernel
theorem d_method_4_30 : decode method_4_code 30 = .ok (.castore, 1) := by decide +kernel
theorem d_method_4_31 : decode method_4_code 31 = .ok (.invokespecial 31, 3) := by decide +kernel
theorem d_method_4_34 : decode method_4_code 34 = .ok (.areturn, 1) := by decide +kernel
theorem d_method_4_35 : decode method_4_code 35 = .ok (.iload_n 0, 1) := by decide +kernel
theorem d_method_4_36 : decode method_4_code 36 = .ok (.iconst 2, 1) := by decide +kernel
theorem d_method_4_37 : decode method_4_code 37 = .ok (.if_icmp .ne 22, 3) := by decide +kernel
theorem d_method_4_40 : decode method_4_code 40 = .ok (.new 29, 3) := by decide +kernel
theorem d_method_4_43 : decode method_4_code 43 = .ok (.dup, 1) := by decide +kernel
theorem d_method_4_44 : decode method_4_code 44 = .ok (.iconst 2, 1) := by decide +kernel
theorem d_method_4_45 : decode method_4_code 45 = .ok (.newarray .char, 2) := by decide +kernel
theorem d_method_4_47 : decode method_4_code 47 = .ok (.dup, 1) := by decide +kernel
theorem d_method_4_48 : decode method_4_code 48 = .ok (.iconst 0, 1) := by decide +kernel
theorem d_method_4_49 : decode method_4_code 49 = .ok (.iload_n 1, 1) := by decide +kernel
theorem d_method_4_50 : decode method_4_code 50 = .ok (.castore, 1) := by decide +kernel
theorem d_method_4_51 : decode method_4_code 51 = .ok (.dup, 1) := by decide +kernel
theorem d_method_4_52 : decode method_4_code 52 = .ok (.iconst 1, 1) := by decide +kernel
theorem d_method_4_53 : decode method_4_code 53 = .ok (.iload_n 2, 1) := by decide +kernel
theorem d_method_4_54 : decode method_4_code 54 = .ok (.castore, 1) := by decide +kernel
theorem d_method_4_55 : decode method_4_code 55 = .ok (.invokespecial 31, 3) := by decide +kernel
theorem d_method_4_58 : decode method_4_code 58 = .ok (.areturn, 1) := by decide +kernel
theorem d_method_4_59 : decode method_4_code 59 = .ok (.iload_n 0, 1) := by decide +kernel
theorem d_method_4_60 : decode method_4_code 60 = .ok (.iconst 3, 1) := by decide +kernel
theorem d_method_4_61 : decode method_4_code 61 = .ok (.if_icmp .ne 26, 3) := by decide +kernel
theorem d_method_4_64 : decode method_4_code 64 = .ok (.new 29, 3) := by decide +kernel
theorem d_method_4_67 : decode method_4_code 67 = .ok (.dup, 1) := by decide +kernel
theorem d_method_4_68 : decode method_4_code 68 = .ok (.iconst 3, 1) := by decide +kernel
theorem d_method_4_69 : decode method_4_code 69 = .ok (.newarray .char, 2) := by decide +kernel
theorem d_method_4_71 : decode method_4_code 71 = .ok (.dup, 1) := by decide +kernel
theorem d_method_4_72 : decode method_4_code 72 = .ok (.iconst 0, 1) := by decide +kernel
theorem d_method_4_73 : decode method_4_code 73 = .ok (.iload_n 1, 1) := by decide +kernel
theorem d_method_4_74 : decode method_4_code 74 = .ok (.castore, 1) := by decide +kernel
theorem d_method_4_75 : decode method_4_code 75 = .ok (.dup, 1) := by decide +kernel
theorem d_method_4_76 : decode method_4_code 76 = .ok (.iconst 1, 1) := by decide +kernel
theorem d_method_4_77 : decode method_4_code 77 = .ok (.iload_n 2, 1) := by decide +kernel
theorem d_method_4_78 : decode method_4_code 78 = .ok (.castore, 1) := by decide +kernel
theorem d_method_4_79 : decode method_4_code 79 = .ok (.dup, 1) := by decide +kernel
theorem d_method_4_80 : decode method_4_code 80 = .ok (.iconst 2, 1) := by decide +kernel
theorem d_method_4_81 : decode method_4_code 81 = .ok (.iload_n 3, 1) := by decide +kernel
theorem d_method_4_82 : decode method_4_code 82 = .ok (.castore, 1) := by decide +kernel
theorem d_method_4_83 : decode method_4_code 83 = .ok (.invokespecial 31, 3) := by decide +kernel
theorem d_method_4_86 : decode method_4_code 86 = .ok (.areturn, 1) := by decide +kernel
theorem d_method_4_87 : decode method_4_code 87 = .ok (.new 29, 3) := by decide +kernel
theorem d_method_4_90 : decode method_4_code 90 = .ok (.dup, 1) := by decide +kernel
theorem d_method_4_91 : decode method_4_code 91 = .ok (.iconst 4, 1) := by decide +kernel
theorem d_method_4_92 : decode method_4_code 92 = .ok (.newarray .char, 2) := by decide +kernel
theorem d_method_4_94 : decode method_4_code 94 = .ok (.dup, 1) := by decide +kernel
theorem d_method_4_95 : decode method_4_code 95 = .ok (.iconst 0, 1) := by decide +kernel
theorem d_method_4_96 : decode method_4_code 96 = .ok (.iload_n 1, 1) := by decide +kernel
theorem d_method_4_97 : decode method_4_code 97 = .ok (.castore, 1) := by decide +kernel
theorem d_method_4_98 : decode method_4_code 98 = .ok (.dup, 1) := by decide +kernel
theorem d_method_4_99 : decode method_4_code 99 = .ok (.iconst 1, 1) := by decide +kernel
theorem d_method_4_100 : decode method_4_code 100 = .ok (.iload_n 2, 1) := by decide +kernel
theorem d_method_4_101 : decode method_4_code 101 = .ok (.castore, 1) := by decide +kernel
theorem d_method_4_102 : decode method_4_code 102 = .ok (.dup, 1) := by decide +kernel
theorem d_method_4_103 : decode method_4_code 103 = .ok (.iconst 2, 1) := by decide +kernel
theorem d_method_4_104 : decode method_4_code 104 = .ok (.iload_n 3, 1) := by decide +kernel
theorem d_method_4_105 : decode method_4_code 105 = .ok (.castore, 1) := by decide +kernel
theorem d_method_4_106 : decode method_4_code 106 = .ok (.dup, 1) := by decide +kernel
theorem d_method_4_107 : decode method_4_code 107 = .ok (.iconst 3, 1) := by decide +kernel
theorem d_method_4_108 : decode method_4_code 108 = .ok (.iload 4, 2) := by decide +kernel
theorem d_method_4_110 : decode method_4_code 110 = .ok (.castore, 1) := by decide +kernel
theorem d_method_4_111 : decode method_4_code 111 = .ok (.invokespecial 31, 3) := by decide +kernel
theorem d_method_4_114 : decode method_4_code 114 = .ok (.areturn, 1) := by decide +kernel
set_option maxRecDepth 65536 in
set_option maxHeartbeats 40000000 in
theorem c_build (l : Launch) (Z : State) (a0 : Array Value) (hw : ∀ d ∈ tables_1, d.before a0 Z = true) (n0 : Nat) (h0 : Heap) (n c0 c1 c2 c3 : Int32) (i_COMPACT_STRINGS : Int32) (v_SIOOBE_FORMATTER : Value) (hn0 : 0 ≤ n.toInt) (hn4 : n.toInt ≤ 4) (hc0 : own_ch c0) (hc1 : own_ch c1) (hc2 : own_ch c2) (hc3 : own_ch c3) (hEL : EW Z a0 [("java/lang/String", 7)]) (hCH : CHv Z [("java/lang/String", 7)] Z.vm Z.heap) (S_COMPACT_STRINGS : Sta Z Z.heap "java/lang/String" "COMPACT_STRINGS" "Z" (.int i_COMPACT_STRINGS)) (nz_COMPACT_STRINGS : ¬ i_COMPACT_STRINGS = (0 : Int32)) (S_SIOOBE_FORMATTER : Sta Z Z.heap "jdk/internal/util/Preconditions" "SIOOBE_FORMATTER" "Ljava/util/function/BiFunction;" (v_SIOOBE_FORMATTER)) (hr_v_SIOOBE_FORMATTER : v_SIOOBE_FORMATTER.isRef = true) (S__assertionsDisabled : Sta Z Z.heap "java/lang/StringUTF16" "$assertionsDisabled" "Z" (.int (1 : Int32))) (S_HI_BYTE_SHIFT : Sta Z Z.heap "java/lang/StringUTF16" "HI_BYTE_SHIFT" "I" (.int (0 : Int32))) (S_LO_BYTE_SHIFT : Sta Z Z.heap "java/lang/StringUTF16" "LO_BYTE_SHIFT" "I" (.int (8 : Int32))) :
    OwnKit.ConX (OwnKit.Exact Z) true l Z n0 (⟨"com/example/bale/bale/check/IdsIsWellFormedPinLaw", "build", "(ICCCC)Ljava/lang/String;"⟩ : MethodName) method_4_code 5 (some (.object "java/lang/String")) ({ frames := 6, cells := 4, slots := 20, locals := 88 } : Room) #[.int n, .int c0, .int c1, .int c2, .int c3] h0 (QBuild Z ([c0, c1, c2, c3].take n.toInt.toNat) h0) := by
  refine OwnKit.Con.of (by first | (refine plainFor_of_name ?_; simp [plainName, overriddenIn]; done) | decide +kernel) ?_ ?_
  · intro κ hwd hJ K0
    have K : OwnKit.Ok κ l Z n0 "com/example/bale/bale/check/IdsIsWellFormedPinLaw" "build" method_4_code 5 (some (.object "java/lang/String")) ({ frames := 6, cells := 4, slots := 20, locals := 88 } : Room) (QBuild Z ([c0, c1, c2, c3].take n.toInt.toNat) h0) := K0
    have ef : (entryFrame κ.m #[.int n, .int c0, .int c1, .int c2, .int c3] 5).locals = #[.val (.int n), .val (.int c0), .val (.int c1), .val (.int c2), .val (.int c3)] := by first | (simp [entryFrame, argsToLocals, Value.category]; done) | rfl
    rw [ef]; clear ef K0
    have hc_v_SIOOBE_FORMATTER := OwnKit.catR hr_v_SIOOBE_FORMATTER
    show OwnKit.Go κ h0 0 0 0 #[.val (.int n), .val (.int c0), .val (.int c1), .val (.int c2), .val (.int c3)] []
    refine OwnKit.iloadN K d_method_4_0 rfl ?_
    show OwnKit.Go κ h0 0 0 1 #[.val (.int n), .val (.int c0), .val (.int c1), .val (.int c2), .val (.int c3)] [.int n]
    refine OwnKit.ifne K d_method_4_1 (by decide) (pc' := 15) rfl  (fun b1 => ?_) (fun b1 => ?_)
    · show OwnKit.Go κ h0 0 0 15 #[.val (.int n), .val (.int c0), .val (.int c1), .val (.int c2), .val (.int c3)] []
      refine OwnKit.iloadN K d_method_4_15 rfl ?_
      show OwnKit.Go κ h0 0 0 16 #[.val (.int n), .val (.int c0), .val (.int c1), .val (.int c2), .val (.int c3)] [.int n]
      refine OwnKit.iconst K d_method_4_16 ?_
      show OwnKit.Go κ h0 0 0 17 #[.val (.int n), .val (.int c0), .val (.int c1), .val (.int c2), .val (.int c3)] [.int (1 : Int32), .int n]
      refine OwnKit.icmpne K d_method_4_17 (by decide) (pc' := 35) rfl  (fun b2 => ?_) (fun b2 => ?_)
      · show OwnKit.Go κ h0 0 0 35 #[.val (.int n), .val (.int c0), .val (.int c1), .val (.int c2), .val (.int c3)] []
        refine OwnKit.iloadN K d_method_4_35 rfl ?_
        show OwnKit.Go κ h0 0 0 36 #[.val (.int n), .val (.int c0), .val (.int c1), .val (.int c2), .val (.int c3)] [.int n]
        refine OwnKit.iconst K d_method_4_36 ?_
        show OwnKit.Go κ h0 0 0 37 #[.val (.int n), .val (.int c0), .val (.int c1), .val (.int c2), .val (.int c3)] [.int (2 : Int32), .int n]
        refine OwnKit.icmpne K d_method_4_37 (by decide) (pc' := 59) rfl  (fun b3 => ?_) (fun b3 => ?_)
        · show OwnKit.Go κ h0 0 0 59 #[.val (.int n), .val (.int c0), .val (.int c1), .val (.int c2), .val (.int c3)] []
          refine OwnKit.iloadN K d_method_4_59 rfl ?_
          show OwnKit.Go κ h0 0 0 60 #[.val (.int n), .val (.int c0), .val (.int c1), .val (.int c2), .val (.int c3)] [.int n]
          refine OwnKit.iconst K d_method_4_60 ?_
          show OwnKit.Go κ h0 0 0 61 #[.val (.int n), .val (.int c0), .val (.int c1), .val (.int c2), .val (.int c3)] [.int (3 : Int32), .int n]
          refine OwnKit.icmpne K d_method_4_61 (by decide) (pc' := 87) rfl  (fun b4 => ?_) (fun b4 => ?_)
          · show OwnKit.Go κ h0 0 0 87 #[.val (.int n), .val (.int c0), .val (.int c1), .val (.int c2), .val (.int c3)] []
            refine OwnKit.newObj K d_method_4_87 (hw _ (List.mem_of_getElem? (i := 8) rfl)) (hw _ (List.mem_of_getElem? (i := 9) rfl)) (hw _ (List.mem_of_getElem? (i := 10) rfl)) (Nat.le_of_ble_eq_true rfl) (Nat.le_of_ble_eq_true rfl) ?_
            intro h5 a6 g7 G8 Ex9 E10 D11 U12
            have F13 : Fld Z h5 a6 "java/lang/String" "value" "[B" (.null) := D11 (Or.inr (hw _ (List.mem_of_getElem? (i := 24) rfl))) (show parseFieldDescriptor "[B" = some ((.array .byte)) from by decide +kernel)
            have F14 : Fld Z h5 a6 "java/lang/String" "coder" "B" (.int (0 : Int32)) := D11 (Or.inr (hw _ (List.mem_of_getElem? (i := 25) rfl))) (show parseFieldDescriptor "B" = some (.byte) from by decide +kernel)
            show OwnKit.Go κ h5 1 4 90 #[.val (.int n), .val (.int c0), .val (.int c1), .val (.int c2), .val (.int c3)] [.ref a6]
            refine OwnKit.dup K d_method_4_90 rfl ?_
            show OwnKit.Go κ h5 1 4 91 #[.val (.int n), .val (.int c0), .val (.int c1), .val (.int c2), .val (.int c3)] [.ref a6, .ref a6]
            refine OwnKit.iconst K d_method_4_91 ?_
            show OwnKit.Go κ h5 1 4 92 #[.val (.int n), .val (.int c0), .val (.int c1), .val (.int c2), .val (.int c3)] [.int (4 : Int32), .ref a6, .ref a6]
            refine OwnKit.newArrV (cap := 4) K d_method_4_92 (hw _ (List.mem_of_getElem? (i := 11) rfl)) (by decide) (by decide) (by decide) (Nat.le_of_ble_eq_true rfl) (Nat.le_of_ble_eq_true rfl) ?_
            intro h15 a16 k17 g18 G19 Ex20 A21 E22
            have ne23 : a6 ≠ a16 := by rw [g18]; exact Nat.ne_of_lt E10.lt
            have E24 := E10.ext Ex20
            have F25 := F13.ext Ex20
            have F26 := F14.ext Ex20
            have A27 : OwnKit.Av Z h15 a16 k17 .char [.int (0 : Int32), .int (0 : Int32), .int (0 : Int32), .int (0 : Int32)] := A21
            show OwnKit.Go κ h15 2 8 94 #[.val (.int n), .val (.int c0), .val (.int c1), .val (.int c2), .val (.int c3)] [.ref a16, .ref a6, .ref a6]
            refine OwnKit.dup K d_method_4_94 rfl ?_
            show OwnKit.Go κ h15 2 8 95 #[.val (.int n), .val (.int c0), .val (.int c1), .val (.int c2), .val (.int c3)] [.ref a16, .ref a16, .ref a6, .ref a6]
            refine OwnKit.iconst K d_method_4_95 ?_
            show OwnKit.Go κ h15 2 8 96 #[.val (.int n), .val (.int c0), .val (.int c1), .val (.int c2), .val (.int c3)] [.int (0 : Int32), .ref a16, .ref a16, .ref a6, .ref a6]
            refine OwnKit.iloadN K d_method_4_96 rfl ?_
            show OwnKit.Go κ h15 2 8 97 #[.val (.int n), .val (.int c0), .val (.int c1), .val (.int c2), .val (.int c3)] [.int c0, .int (0 : Int32), .ref a16, .ref a16, .ref a6, .ref a6]
            refine OwnKit.castoreV K d_method_4_97 A27 (by decide) (by show ((0 : Int32)).toInt < ((4 : Nat) : Int); decide) G19 ?_
            intro h28 W29 A30
            have E32 := E24.wr W29
            have F33 := Fld.other W29 F25 (Or.inl ne23)
            have F34 := Fld.other W29 F26 (Or.inl ne23)
            have E35 := E22.wr W29
            have A31 : OwnKit.Av Z h28 a16 k17 .char [.int (nar .char c0), .int (0 : Int32), .int (0 : Int32), .int (0 : Int32)] := A30
            show OwnKit.Go κ h28 2 8 98 #[.val (.int n), .val (.int c0), .val (.int c1), .val (.int c2), .val (.int c3)] [.ref a16, .ref a6, .ref a6]
            refine OwnKit.dup K d_method_4_98 rfl ?_
            show OwnKit.Go κ h28 2 8 99 #[.val (.int n), .val (.int c0), .val (.int c1), .val (.int c2), .val (.int c3)] [.ref a16, .ref a16, .ref a6, .ref a6]
            refine OwnKit.iconst K d_method_4_99 ?_
            show OwnKit.Go κ h28 2 8 100 #[.val (.int n), .val (.int c0), .val (.int c1), .val (.int c2), .val (.int c3)] [.int (1 : Int32), .ref a16, .ref a16, .ref a6, .ref a6]
            refine OwnKit.iloadN K d_method_4_100 rfl ?_
            show OwnKit.Go κ h28 2 8 101 #[.val (.int n), .val (.int c0), .val (.int c1), .val (.int c2), .val (.int c3)] [.int c1, .int (1 : Int32), .ref a16, .ref a16, .ref a6, .ref a6]
            refine OwnKit.castoreV K d_method_4_101 A31 (by decide) (by show ((1 : Int32)).toInt < ((4 : Nat) : Int); decide) G19 ?_
            intro h36 W37 A38
            have E40 := E32.wr W37
            have F41 := Fld.other W37 F33 (Or.inl ne23)
            have F42 := Fld.other W37 F34 (Or.inl ne23)
            have E43 := E35.wr W37
            have A39 : OwnKit.Av Z h36 a16 k17 .char [.int (nar .char c0), .int (nar .char c1), .int (0 : Int32), .int (0 : Int32)] := A38
            show OwnKit.Go κ h36 2 8 102 #[.val (.int n), .val (.int c0), .val (.int c1), .val (.int c2), .val (.int c3)] [.ref a16, .ref a6, .ref a6]
            refine OwnKit.dup K d_method_4_102 rfl ?_
            show OwnKit.Go κ h36 2 8 103 #[.val (.int n), .val (.int c0), .val (.int c1), .val (.int c2), .val (.int c3)] [.ref a16, .ref a16, .ref a6, .ref a6]
            refine OwnKit.iconst K d_method_4_103 ?_
            show OwnKit.Go κ h36 2 8 104 #[.val (.int n), .val (.int c0), .val (.int c1), .val (.int c2), .val (.int c3)] [.int (2 : Int32), .ref a16, .ref a16, .ref a6, .ref a6]
            refine OwnKit.iloadN K d_method_4_104 rfl ?_
            show OwnKit.Go κ h36 2 8 105 #[.val (.int n), .val (.int c0), .val (.int c1), .val (.int c2), .val (.int c3)] [.int c2, .int (2 : Int32), .ref a16, .ref a16, .ref a6, .ref a6]
            refine OwnKit.castoreV K d_method_4_105 A39 (by decide) (by show ((2 : Int32)).toInt < ((4 : Nat) : Int); decide) G19 ?_
            intro h44 W45 A46
            have E48 := E40.wr W45
            have F49 := Fld.other W45 F41 (Or.inl ne23)
            have F50 := Fld.other W45 F42 (Or.inl ne23)
            have E51 := E43.wr W45
            have A47 : OwnKit.Av Z h44 a16 k17 .char [.int (nar .char c0), .int (nar .char c1), .int (nar .char c2), .int (0 : Int32)] := A46
            show OwnKit.Go κ h44 2 8 106 #[.val (.int n), .val (.int c0), .val (.int c1), .val (.int c2), .val (.int c3)] [.ref a16, .ref a6, .ref a6]
            refine OwnKit.dup K d_method_4_106 rfl ?_
            show OwnKit.Go κ h44 2 8 107 #[.val (.int n), .val (.int c0), .val (.int c1), .val (.int c2), .val (.int c3)] [.ref a16, .ref a16, .ref a6, .ref a6]
            refine OwnKit.iconst K d_method_4_107 ?_
            show OwnKit.Go κ h44 2 8 108 #[.val (.int n), .val (.int c0), .val (.int c1), .val (.int c2), .val (.int c3)] [.int (3 : Int32), .ref a16, .ref a16, .ref a6, .ref a6]
            refine OwnKit.iload K d_method_4_108 rfl ?_
            show OwnKit.Go κ h44 2 8 110 #[.val (.int n), .val (.int c0), .val (.int c1), .val (.int c2), .val (.int c3)] [.int c3, .int (3 : Int32), .ref a16, .ref a16, .ref a6, .ref a6]
            refine OwnKit.castoreV K d_method_4_110 A47 (by decide) (by show ((3 : Int32)).toInt < ((4 : Nat) : Int); decide) G19 ?_
            intro h52 W53 A54
            have E56 := E48.wr W53
            have F57 := Fld.other W53 F49 (Or.inl ne23)
            have F58 := Fld.other W53 F50 (Or.inl ne23)
            have E59 := E51.wr W53
            have A55 : OwnKit.Av Z h52 a16 k17 .char [.int (nar .char c0), .int (nar .char c1), .int (nar .char c2), .int (nar .char c3)] := A54
            show OwnKit.Go κ h52 2 8 111 #[.val (.int n), .val (.int c0), .val (.int c1), .val (.int c2), .val (.int c3)] [.ref a16, .ref a6, .ref a6]
            have Avx : OwnKit.Av Z h52 a16 k17 .char ([c0, c1, c2, c3].map Value.int) := by
              have q := A55
              rw [own_nar hc0, own_nar hc1, own_nar hc2, own_nar hc3] at q
              exact q
            refine OwnKit.invC (y := (⟨"java/lang/String", "<init>", "([C)V"⟩ : MethodName)) (argsL := [.ref a16]) (rest := [.ref a6]) K (c_initG l Z a0 hw n0 h52 a6 a16 k17 [c0, c1, c2, c3] i_COMPACT_STRINGS v_SIOOBE_FORMATTER (by simp) (by simp) (own_chC hc0 (own_chC hc1 (own_chC hc2 (own_chC hc3 own_ch0)))) (Ne.symm ne23) Avx E56 G8 F57 F58 S_COMPACT_STRINGS nz_COMPACT_STRINGS S_SIOOBE_FORMATTER hr_v_SIOOBE_FORMATTER S__assertionsDisabled S_HI_BYTE_SHIFT S_LO_BYTE_SHIFT) d_method_4_111 rfl (hw _ (List.mem_of_getElem? (i := 12) rfl)) (hw _ (List.mem_of_getElem? (i := 13) rfl)) (hw _ (List.mem_of_getElem? (i := 14) rfl)) (hw _ (List.mem_of_getElem? (i := 10) rfl)) (by decide) (lenOf (by decide +kernel : parseMethodDescriptor "([C)V" = some ⟨[(.array .char)], none⟩) rfl) rfl rfl (W := 1) (Nat.le_of_ble_eq_true rfl) (Nat.le_of_ble_eq_true rfl) (Nat.le_of_ble_eq_true rfl) (Nat.le_of_ble_eq_true rfl) (Nat.le_of_ble_eq_true rfl) ?_
            rintro _ h60 ⟨rfl, hq⟩ g61
            show OwnKit.Go κ h60 4 20 114 #[.val (.int n), .val (.int c0), .val (.int c1), .val (.int c2), .val (.int c3)] [.ref a6]
            refine OwnKit.areturn K d_method_4_114 rfl rfl ?_ (Nat.le_of_ble_eq_true rfl) (Nat.le_of_ble_eq_true rfl)
            · have e : n.toInt.toNat = 4 := by
                have q0 : ¬ n.toInt = 0 := fun q => b1 (Int32.toInt_inj.mp q)
                have q1 : ¬ n.toInt = 1 := fun q => b2 (Int32.toInt_inj.mp q)
                have q2 : ¬ n.toInt = 2 := fun q => b3 (Int32.toInt_inj.mp q)
                have q3 : ¬ n.toInt = 3 := fun q => b4 (Int32.toInt_inj.mp q)
                omega
              rw [e]
              exact ⟨_, rfl, hq⟩
          · show OwnKit.Go κ h0 0 0 64 #[.val (.int n), .val (.int c0), .val (.int c1), .val (.int c2), .val (.int c3)] []
            refine OwnKit.newObj K d_method_4_64 (hw _ (List.mem_of_getElem? (i := 8) rfl)) (hw _ (List.mem_of_getElem? (i := 9) rfl)) (hw _ (List.mem_of_getElem? (i := 10) rfl)) (Nat.le_of_ble_eq_true rfl) (Nat.le_of_ble_eq_true rfl) ?_
            intro h62 a63 g64 G65 Ex66 E67 D68 U69
            have F70 : Fld Z h62 a63 "java/lang/String" "value" "[B" (.null) := D68 (Or.inr (hw _ (List.mem_of_getElem? (i := 24) rfl))) (show parseFieldDescriptor "[B" = some ((.array .byte)) from by decide +kernel)
            have F71 : Fld Z h62 a63 "java/lang/String" "coder" "B" (.int (0 : Int32)) := D68 (Or.inr (hw _ (List.mem_of_getElem? (i := 25) rfl))) (show parseFieldDescriptor "B" = some (.byte) from by decide +kernel)
            show OwnKit.Go κ h62 1 4 67 #[.val (.int n), .val (.int c0), .val (.int c1), .val (.int c2), .val (.int c3)] [.ref a63]
            refine OwnKit.dup K d_method_4_67 rfl ?_
            show OwnKit.Go κ h62 1 4 68 #[.val (.int n), .val (.int c0), .val (.int c1), .val (.int c2), .val (.int c3)] [.ref a63, .ref a63]
            refine OwnKit.iconst K d_method_4_68 ?_
            show OwnKit.Go κ h62 1 4 69 #[.val (.int n), .val (.int c0), .val (.int c1), .val (.int c2), .val (.int c3)] [.int (3 : Int32), .ref a63, .ref a63]
            refine OwnKit.newArrV (cap := 3) K d_method_4_69 (hw _ (List.mem_of_getElem? (i := 11) rfl)) (by decide) (by decide) (by decide) (Nat.le_of_ble_eq_true rfl) (Nat.le_of_ble_eq_true rfl) ?_
            intro h72 a73 k74 g75 G76 Ex77 A78 E79
            have ne80 : a63 ≠ a73 := by rw [g75]; exact Nat.ne_of_lt E67.lt
            have E81 := E67.ext Ex77
            have F82 := F70.ext Ex77
            have F83 := F71.ext Ex77
            have A84 : OwnKit.Av Z h72 a73 k74 .char [.int (0 : Int32), .int (0 : Int32), .int (0 : Int32)] := A78
            show OwnKit.Go κ h72 2 7 71 #[.val (.int n), .val (.int c0), .val (.int c1), .val (.int c2), .val (.int c3)] [.ref a73, .ref a63, .ref a63]
            refine OwnKit.dup K d_method_4_71 rfl ?_
            show OwnKit.Go κ h72 2 7 72 #[.val (.int n), .val (.int c0), .val (.int c1), .val (.int c2), .val (.int c3)] [.ref a73, .ref a73, .ref a63, .ref a63]
            refine OwnKit.iconst K d_method_4_72 ?_
            show OwnKit.Go κ h72 2 7 73 #[.val (.int n), .val (.int c0), .val (.int c1), .val (.int c2), .val (.int c3)] [.int (0 : Int32), .ref a73, .ref a73, .ref a63, .ref a63]
            refine OwnKit.iloadN K d_method_4_73 rfl ?_
            show OwnKit.Go κ h72 2 7 74 #[.val (.int n), .val (.int c0), .val (.int c1), .val (.int c2), .val (.int c3)] [.int c0, .int (0 : Int32), .ref a73, .ref a73, .ref a63, .ref a63]
            refine OwnKit.castoreV K d_method_4_74 A84 (by decide) (by show ((0 : Int32)).toInt < ((3 : Nat) : Int); decide) G76 ?_
            intro h85 W86 A87
            have E89 := E81.wr W86
            have F90 := Fld.other W86 F82 (Or.inl ne80)
            have F91 := Fld.other W86 F83 (Or.inl ne80)
            have E92 := E79.wr W86
            have A88 : OwnKit.Av Z h85 a73 k74 .char [.int (nar .char c0), .int (0 : Int32), .int (0 : Int32)] := A87
            show OwnKit.Go κ h85 2 7 75 #[.val (.int n), .val (.int c0), .val (.int c1), .val (.int c2), .val (.int c3)] [.ref a73, .ref a63, .ref a63]
            refine OwnKit.dup K d_method_4_75 rfl ?_
            show OwnKit.Go κ h85 2 7 76 #[.val (.int n), .val (.int c0), .val (.int c1), .val (.int c2), .val (.int c3)] [.ref a73, .ref a73, .ref a63, .ref a63]
            refine OwnKit.iconst K d_method_4_76 ?_
            show OwnKit.Go κ h85 2 7 77 #[.val (.int n), .val (.int c0), .val (.int c1), .val (.int c2), .val (.int c3)] [.int (1 : Int32), .ref a73, .ref a73, .ref a63, .ref a63]
            refine OwnKit.iloadN K d_method_4_77 rfl ?_
            show OwnKit.Go κ h85 2 7 78 #[.val (.int n), .val (.int c0), .val (.int c1), .val (.int c2), .val (.int c3)] [.int c1, .int (1 : Int32), .ref a73, .ref a73, .ref a63, .ref a63]
            refine OwnKit.castoreV K d_method_4_78 A88 (by decide) (by show ((1 : Int32)).toInt < ((3 : Nat) : Int); decide) G76 ?_
            intro h93 W94 A95
            have E97 := E89.wr W94
            have F98 := Fld.other W94 F90 (Or.inl ne80)
            have F99 := Fld.other W94 F91 (Or.inl ne80)
            have E100 := E92.wr W94
            have A96 : OwnKit.Av Z h93 a73 k74 .char [.int (nar .char c0), .int (nar .char c1), .int (0 : Int32)] := A95
            show OwnKit.Go κ h93 2 7 79 #[.val (.int n), .val (.int c0), .val (.int c1), .val (.int c2), .val (.int c3)] [.ref a73, .ref a63, .ref a63]
            refine OwnKit.dup K d_method_4_79 rfl ?_
            show OwnKit.Go κ h93 2 7 80 #[.val (.int n), .val (.int c0), .val (.int c1), .val (.int c2), .val (.int c3)] [.ref a73, .ref a73, .ref a63, .ref a63]
            refine OwnKit.iconst K d_method_4_80 ?_
            show OwnKit.Go κ h93 2 7 81 #[.val (.int n), .val (.int c0), .val (.int c1), .val (.int c2), .val (.int c3)] [.int (2 : Int32), .ref a73, .ref a73, .ref a63, .ref a63]
            refine OwnKit.iloadN K d_method_4_81 rfl ?_
            show OwnKit.Go κ h93 2 7 82 #[.val (.int n), .val (.int c0), .val (.int c1), .val (.int c2), .val (.int c3)] [.int c2, .int (2 : Int32), .ref a73, .ref a73, .ref a63, .ref a63]
            refine OwnKit.castoreV K d_method_4_82 A96 (by decide) (by show ((2 : Int32)).toInt < ((3 : Nat) : Int); decide) G76 ?_
            intro h101 W102 A103
            have E105 := E97.wr W102
            have F106 := Fld.other W102 F98 (Or.inl ne80)
            have F107 := Fld.other W102 F99 (Or.inl ne80)
            have E108 := E100.wr W102
            have A104 : OwnKit.Av Z h101 a73 k74 .char [.int (nar .char c0), .int (nar .char c1), .int (nar .char c2)] := A103
            show OwnKit.Go κ h101 2 7 83 #[.val (.int n), .val (.int c0), .val (.int c1), .val (.int c2), .val (.int c3)] [.ref a73, .ref a63, .ref a63]
            have Avx : OwnKit.Av Z h101 a73 k74 .char ([c0, c1, c2].map Value.int) := by
              have q := A104
              rw [own_nar hc0, own_nar hc1, own_nar hc2] at q
              exact q
            refine OwnKit.invC (y := (⟨"java/lang/String", "<init>", "([C)V"⟩ : MethodName)) (argsL := [.ref a73]) (rest := [.ref a63]) K (c_initG l Z a0 hw n0 h101 a63 a73 k74 [c0, c1, c2] i_COMPACT_STRINGS v_SIOOBE_FORMATTER (by simp) (by simp) (own_chC hc0 (own_chC hc1 (own_chC hc2 own_ch0))) (Ne.symm ne80) Avx E105 G65 F106 F107 S_COMPACT_STRINGS nz_COMPACT_STRINGS S_SIOOBE_FORMATTER hr_v_SIOOBE_FORMATTER S__assertionsDisabled S_HI_BYTE_SHIFT S_LO_BYTE_SHIFT) d_method_4_83 rfl (hw _ (List.mem_of_getElem? (i := 12) rfl)) (hw _ (List.mem_of_getElem? (i := 13) rfl)) (hw _ (List.mem_of_getElem? (i := 14) rfl)) (hw _ (List.mem_of_getElem? (i := 10) rfl)) (by decide) (lenOf (by decide +kernel : parseMethodDescriptor "([C)V" = some ⟨[(.array .char)], none⟩) rfl) rfl rfl (W := 1) (Nat.le_of_ble_eq_true rfl) (Nat.le_of_ble_eq_true rfl) (Nat.le_of_ble_eq_true rfl) (Nat.le_of_ble_eq_true rfl) (Nat.le_of_ble_eq_true rfl) ?_
            rintro _ h109 ⟨rfl, hq⟩ g110
            show OwnKit.Go κ h109 4 19 86 #[.val (.int n), .val (.int c0), .val (.int c1), .val (.int c2), .val (.int c3)] [.ref a63]
            refine OwnKit.areturn K d_method_4_86 rfl rfl ?_ (Nat.le_of_ble_eq_true rfl) (Nat.le_of_ble_eq_true rfl)
            · have e : n.toInt.toNat = 3 := by rw [b4]; rfl
              rw [e]
              exact ⟨_, rfl, hq⟩
        · show OwnKit.Go κ h0 0 0 40 #[.val (.int n), .val (.int c0), .val (.int c1), .val (.int c2), .val (.int c3)] []
          refine OwnKit.newObj K d_method_4_40 (hw _ (List.mem_of_getElem? (i := 8) rfl)) (hw _ (List.mem_of_getElem? (i := 9) rfl)) (hw _ (List.mem_of_getElem? (i := 10) rfl)) (Nat.le_of_ble_eq_true rfl) (Nat.le_of_ble_eq_true rfl) ?_
          intro h111 a112 g113 G114 Ex115 E116 D117 U118
          have F119 : Fld Z h111 a112 "java/lang/String" "value" "[B" (.null) := D117 (Or.inr (hw _ (List.mem_of_getElem? (i := 24) rfl))) (show parseFieldDescriptor "[B" = some ((.array .byte)) from by decide +kernel)
          have F120 : Fld Z h111 a112 "java/lang/String" "coder" "B" (.int (0 : Int32)) := D117 (Or.inr (hw _ (List.mem_of_getElem? (i := 25) rfl))) (show parseFieldDescriptor "B" = some (.byte) from by decide +kernel)
          show OwnKit.Go κ h111 1 4 43 #[.val (.int n), .val (.int c0), .val (.int c1), .val (.int c2), .val (.int c3)] [.ref a112]
          refine OwnKit.dup K d_method_4_43 rfl ?_
          show OwnKit.Go κ h111 1 4 44 #[.val (.int n), .val (.int c0), .val (.int c1), .val (.int c2), .val (.int c3)] [.ref a112, .ref a112]
          refine OwnKit.iconst K d_method_4_44 ?_
          show OwnKit.Go κ h111 1 4 45 #[.val (.int n), .val (.int c0), .val (.int c1), .val (.int c2), .val (.int c3)] [.int (2 : Int32), .ref a112, .ref a112]
          refine OwnKit.newArrV (cap := 2) K d_method_4_45 (hw _ (List.mem_of_getElem? (i := 11) rfl)) (by decide) (by decide) (by decide) (Nat.le_of_ble_eq_true rfl) (Nat.le_of_ble_eq_true rfl) ?_
          intro h121 a122 k123 g124 G125 Ex126 A127 E128
          have ne129 : a112 ≠ a122 := by rw [g124]; exact Nat.ne_of_lt E116.lt
          have E130 := E116.ext Ex126
          have F131 := F119.ext Ex126
          have F132 := F120.ext Ex126
          have A133 : OwnKit.Av Z h121 a122 k123 .char [.int (0 : Int32), .int (0 : Int32)] := A127
          show OwnKit.Go κ h121 2 6 47 #[.val (.int n), .val (.int c0), .val (.int c1), .val (.int c2), .val (.int c3)] [.ref a122, .ref a112, .ref a112]
          refine OwnKit.dup K d_method_4_47 rfl ?_
          show OwnKit.Go κ h121 2 6 48 #[.val (.int n), .val (.int c0), .val (.int c1), .val (.int c2), .val (.int c3)] [.ref a122, .ref a122, .ref a112, .ref a112]
          refine OwnKit.iconst K d_method_4_48 ?_
          show OwnKit.Go κ h121 2 6 49 #[.val (.int n), .val (.int c0), .val (.int c1), .val (.int c2), .val (.int c3)] [.int (0 : Int32), .ref a122, .ref a122, .ref a112, .ref a112]
          refine OwnKit.iloadN K d_method_4_49 rfl ?_
          show OwnKit.Go κ h121 2 6 50 #[.val (.int n), .val (.int c0), .val (.int c1), .val (.int c2), .val (.int c3)] [.int c0, .int (0 : Int32), .ref a122, .ref a122, .ref a112, .ref a112]
          refine OwnKit.castoreV K d_method_4_50 A133 (by decide) (by show ((0 : Int32)).toInt < ((2 : Nat) : Int); decide) G125 ?_
          intro h134 W135 A136
          have E138 := E130.wr W135
          have F139 := Fld.other W135 F131 (Or.inl ne129)
          have F140 := Fld.other W135 F132 (Or.inl ne129)
          have E141 := E128.wr W135
          have A137 : OwnKit.Av Z h134 a122 k123 .char [.int (nar .char c0), .int (0 : Int32)] := A136
          show OwnKit.Go κ h134 2 6 51 #[.val (.int n), .val (.int c0), .val (.int c1), .val (.int c2), .val (.int c3)] [.ref a122, .ref a112, .ref a112]
          refine OwnKit.dup K d_method_4_51 rfl ?_
          show OwnKit.Go κ h134 2 6 52 #[.val (.int n), .val (.int c0), .val (.int c1), .val (.int c2), .val (.int c3)] [.ref a122, .ref a122, .ref a112, .ref a112]
          refine OwnKit.iconst K d_method_4_52 ?_
          show OwnKit.Go κ h134 2 6 53 #[.val (.int n), .val (.int c0), .val (.int c1), .val (.int c2), .val (.int c3)] [.int (1 : Int32), .ref a122, .ref a122, .ref a112, .ref a112]
          refine OwnKit.iloadN K d_method_4_53 rfl ?_
          show OwnKit.Go κ h134 2 6 54 #[.val (.int n), .val (.int c0), .val (.int c1), .val (.int c2), .val (.int c3)] [.int c1, .int (1 : Int32), .ref a122, .ref a122, .ref a112, .ref a112]
          refine OwnKit.castoreV K d_method_4_54 A137 (by decide) (by show ((1 : Int32)).toInt < ((2 : Nat) : Int); decide) G125 ?_
          intro h142 W143 A144
          have E146 := E138.wr W143
          have F147 := Fld.other W143 F139 (Or.inl ne129)
          have F148 := Fld.other W143 F140 (Or.inl ne129)
          have E149 := E141.wr W143
          have A145 : OwnKit.Av Z h142 a122 k123 .char [.int (nar .char c0), .int (nar .char c1)] := A144
          show OwnKit.Go κ h142 2 6 55 #[.val (.int n), .val (.int c0), .val (.int c1), .val (.int c2), .val (.int c3)] [.ref a122, .ref a112, .ref a112]
          have Avx : OwnKit.Av Z h142 a122 k123 .char ([c0, c1].map Value.int) := by
            have q := A145
            rw [own_nar hc0, own_nar hc1] at q
            exact q
          refine OwnKit.invC (y := (⟨"java/lang/String", "<init>", "([C)V"⟩ : MethodName)) (argsL := [.ref a122]) (rest := [.ref a112]) K (c_initG l Z a0 hw n0 h142 a112 a122 k123 [c0, c1] i_COMPACT_STRINGS v_SIOOBE_FORMATTER (by simp) (by simp) (own_chC hc0 (own_chC hc1 own_ch0)) (Ne.symm ne129) Avx E146 G114 F147 F148 S_COMPACT_STRINGS nz_COMPACT_STRINGS S_SIOOBE_FORMATTER hr_v_SIOOBE_FORMATTER S__assertionsDisabled S_HI_BYTE_SHIFT S_LO_BYTE_SHIFT) d_method_4_55 rfl (hw _ (List.mem_of_getElem? (i := 12) rfl)) (hw _ (List.mem_of_getElem? (i := 13) rfl)) (hw _ (List.mem_of_getElem? (i := 14) rfl)) (hw _ (List.mem_of_getElem? (i := 10) rfl)) (by decide) (lenOf (by decide +kernel : parseMethodDescriptor "([C)V" = some ⟨[(.array .char)], none⟩) rfl) rfl rfl (W := 1) (Nat.le_of_ble_eq_true rfl) (Nat.le_of_ble_eq_true rfl) (Nat.le_of_ble_eq_true rfl) (Nat.le_of_ble_eq_true rfl) (Nat.le_of_ble_eq_true rfl) ?_
          rintro _ h150 ⟨rfl, hq⟩ g151
          show OwnKit.Go κ h150 4 18 58 #[.val (.int n), .val (.int c0), .val (.int c1), .val (.int c2), .val (.int c3)] [.ref a112]
          refine OwnKit.areturn K d_method_4_58 rfl rfl ?_ (Nat.le_of_ble_eq_true rfl) (Nat.le_of_ble_eq_true rfl)
          · have e : n.toInt.toNat = 2 := by rw [b3]; rfl
            rw [e]
            exact ⟨_, rfl, hq⟩
      · show OwnKit.Go κ h0 0 0 20 #[.val (.int n), .val (.int c0), .val (.int c1), .val (.int c2), .val (.int c3)] []
        refine OwnKit.newObj K d_method_4_20 (hw _ (List.mem_of_getElem? (i := 8) rfl)) (hw _ (List.mem_of_getElem? (i := 9) rfl)) (hw _ (List.mem_of_getElem? (i := 10) rfl)) (Nat.le_of_ble_eq_true rfl) (Nat.le_of_ble_eq_true rfl) ?_
        intro h152 a153 g154 G155 Ex156 E157 D158 U159
        have F160 : Fld Z h152 a153 "java/lang/String" "value" "[B" (.null) := D158 (Or.inr (hw _ (List.mem_of_getElem? (i := 24) rfl))) (show parseFieldDescriptor "[B" = some ((.array .byte)) from by decide +kernel)
        have F161 : Fld Z h152 a153 "java/lang/String" "coder" "B" (.int (0 : Int32)) := D158 (Or.inr (hw _ (List.mem_of_getElem? (i := 25) rfl))) (show parseFieldDescriptor "B" = some (.byte) from by decide +kernel)
        show OwnKit.Go κ h152 1 4 23 #[.val (.int n), .val (.int c0), .val (.int c1), .val (.int c2), .val (.int c3)] [.ref a153]
        refine OwnKit.dup K d_method_4_23 rfl ?_
        show OwnKit.Go κ h152 1 4 24 #[.val (.int n), .val (.int c0), .val (.int c1), .val (.int c2), .val (.int c3)] [.ref a153, .ref a153]
        refine OwnKit.iconst K d_method_4_24 ?_
        show OwnKit.Go κ h152 1 4 25 #[.val (.int n), .val (.int c0), .val (.int c1), .val (.int c2), .val (.int c3)] [.int (1 : Int32), .ref a153, .ref a153]
        refine OwnKit.newArrV (cap := 1) K d_method_4_25 (hw _ (List.mem_of_getElem? (i := 11) rfl)) (by decide) (by decide) (by decide) (Nat.le_of_ble_eq_true rfl) (Nat.le_of_ble_eq_true rfl) ?_
        intro h162 a163 k164 g165 G166 Ex167 A168 E169
        have ne170 : a153 ≠ a163 := by rw [g165]; exact Nat.ne_of_lt E157.lt
        have E171 := E157.ext Ex167
        have F172 := F160.ext Ex167
        have F173 := F161.ext Ex167
        have A174 : OwnKit.Av Z h162 a163 k164 .char [.int (0 : Int32)] := A168
        show OwnKit.Go κ h162 2 5 27 #[.val (.int n), .val (.int c0), .val (.int c1), .val (.int c2), .val (.int c3)] [.ref a163, .ref a153, .ref a153]
        refine OwnKit.dup K d_method_4_27 rfl ?_
        show OwnKit.Go κ h162 2 5 28 #[.val (.int n), .val (.int c0), .val (.int c1), .val (.int c2), .val (.int c3)] [.ref a163, .ref a163, .ref a153, .ref a153]
        refine OwnKit.iconst K d_method_4_28 ?_
        show OwnKit.Go κ h162 2 5 29 #[.val (.int n), .val (.int c0), .val (.int c1), .val (.int c2), .val (.int c3)] [.int (0 : Int32), .ref a163, .ref a163, .ref a153, .ref a153]
        refine OwnKit.iloadN K d_method_4_29 rfl ?_
        show OwnKit.Go κ h162 2 5 30 #[.val (.int n), .val (.int c0), .val (.int c1), .val (.int c2), .val (.int c3)] [.int c0, .int (0 : Int32), .ref a163, .ref a163, .ref a153, .ref a153]
        refine OwnKit.castoreV K d_method_4_30 A174 (by decide) (by show ((0 : Int32)).toInt < ((1 : Nat) : Int); decide) G166 ?_
        intro h175 W176 A177
        have E179 := E171.wr W176
        have F180 := Fld.other W176 F172 (Or.inl ne170)
        have F181 := Fld.other W176 F173 (Or.inl ne170)
        have E182 := E169.wr W176
        have A178 : OwnKit.Av Z h175 a163 k164 .char [.int (nar .char c0)] := A177
        show OwnKit.Go κ h175 2 5 31 #[.val (.int n), .val (.int c0), .val (.int c1), .val (.int c2), .val (.int c3)] [.ref a163, .ref a153, .ref a153]
        have Avx : OwnKit.Av Z h175 a163 k164 .char ([c0].map Value.int) := by
          have q := A178
          rw [own_nar hc0] at q
          exact q
        refine OwnKit.invC (y := (⟨"java/lang/String", "<init>", "([C)V"⟩ : MethodName)) (argsL := [.ref a163]) (rest := [.ref a153]) K (c_initG l Z a0 hw n0 h175 a153 a163 k164 [c0] i_COMPACT_STRINGS v_SIOOBE_FORMATTER (by simp) (by simp) (own_chC hc0 own_ch0) (Ne.symm ne170) Avx E179 G155 F180 F181 S_COMPACT_STRINGS nz_COMPACT_STRINGS S_SIOOBE_FORMATTER hr_v_SIOOBE_FORMATTER S__assertionsDisabled S_HI_BYTE_SHIFT S_LO_BYTE_SHIFT) d_method_4_31 rfl (hw _ (List.mem_of_getElem? (i := 12) rfl)) (hw _ (List.mem_of_getElem? (i := 13) rfl)) (hw _ (List.mem_of_getElem? (i := 14) rfl)) (hw _ (List.mem_of_getElem? (i := 10) rfl)) (by decide) (lenOf (by decide +kernel : parseMethodDescriptor "([C)V" = some ⟨[(.array .char)], none⟩) rfl) rfl rfl (W := 1) (Nat.le_of_ble_eq_true rfl) (Nat.le_of_ble_eq_true rfl) (Nat.le_of_ble_eq_true rfl) (Nat.le_of_ble_eq_true rfl) (Nat.le_of_ble_eq_true rfl) ?_
        rintro _ h183 ⟨rfl, hq⟩ g184
        show OwnKit.Go κ h183 4 17 34 #[.val (.int n), .val (.int c0), .val (.int c1), .val (.int c2), .val (.int c3)] [.ref a153]
        refine OwnKit.areturn K d_method_4_34 rfl rfl ?_ (Nat.le_of_ble_eq_true rfl) (Nat.le_of_ble_eq_true rfl)
        · have e : n.toInt.toNat = 1 := by rw [b2]; rfl
          rw [e]
          exact ⟨_, rfl, hq⟩
    · show OwnKit.Go κ h0 0 0 4 #[.val (.int n), .val (.int c0), .val (.int c1), .val (.int c2), .val (.int c3)] []
      refine OwnKit.newObj K d_method_4_4 (hw _ (List.mem_of_getElem? (i := 8) rfl)) (hw _ (List.mem_of_getElem? (i := 9) rfl)) (hw _ (List.mem_of_getElem? (i := 10) rfl)) (Nat.le_of_ble_eq_true rfl) (Nat.le_of_ble_eq_true rfl) ?_
      intro h185 a186 g187 G188 Ex189 E190 D191 U192
      have F193 : Fld Z h185 a186 "java/lang/String" "value" "[B" (.null) := D191 (Or.inr (hw _ (List.mem_of_getElem? (i := 24) rfl))) (show parseFieldDescriptor "[B" = some ((.array .byte)) from by decide +kernel)
      have F194 : Fld Z h185 a186 "java/lang/String" "coder" "B" (.int (0 : Int32)) := D191 (Or.inr (hw _ (List.mem_of_getElem? (i := 25) rfl))) (show parseFieldDescriptor "B" = some (.byte) from by decide +kernel)
      show OwnKit.Go κ h185 1 4 7 #[.val (.int n), .val (.int c0), .val (.int c1), .val (.int c2), .val (.int c3)] [.ref a186]
      refine OwnKit.dup K d_method_4_7 rfl ?_
      show OwnKit.Go κ h185 1 4 8 #[.val (.int n), .val (.int c0), .val (.int c1), .val (.int c2), .val (.int c3)] [.ref a186, .ref a186]
      refine OwnKit.iconst K d_method_4_8 ?_
      show OwnKit.Go κ h185 1 4 9 #[.val (.int n), .val (.int c0), .val (.int c1), .val (.int c2), .val (.int c3)] [.int (0 : Int32), .ref a186, .ref a186]
      refine OwnKit.newArrV (cap := 0) K d_method_4_9 (hw _ (List.mem_of_getElem? (i := 11) rfl)) (by decide) (by decide) (by decide) (Nat.le_of_ble_eq_true rfl) (Nat.le_of_ble_eq_true rfl) ?_
      intro h195 a196 k197 g198 G199 Ex200 A201 E202
      have ne203 : a186 ≠ a196 := by rw [g198]; exact Nat.ne_of_lt E190.lt
      have E204 := E190.ext Ex200
      have F205 := F193.ext Ex200
      have F206 := F194.ext Ex200
      have A207 : OwnKit.Av Z h195 a196 k197 .char [] := A201
      show OwnKit.Go κ h195 2 4 11 #[.val (.int n), .val (.int c0), .val (.int c1), .val (.int c2), .val (.int c3)] [.ref a196, .ref a186, .ref a186]
      refine OwnKit.invCE (y := (⟨"java/lang/String", "<init>", "([C)V"⟩ : MethodName)) (argsL := [.ref a196]) (rest := [.ref a186]) K hwd (fun vm q => by rw [hJ] at q; exact q) (c_initE l Z a0 hw n0 h195 a186 a196 k197 i_COMPACT_STRINGS v_SIOOBE_FORMATTER hEL hCH A207 E204 G188 F205 F206 S_COMPACT_STRINGS nz_COMPACT_STRINGS S_SIOOBE_FORMATTER hr_v_SIOOBE_FORMATTER S__assertionsDisabled S_HI_BYTE_SHIFT S_LO_BYTE_SHIFT) d_method_4_11 rfl (hw _ (List.mem_of_getElem? (i := 12) rfl)) (hw _ (List.mem_of_getElem? (i := 13) rfl)) (hw _ (List.mem_of_getElem? (i := 14) rfl)) (hw _ (List.mem_of_getElem? (i := 10) rfl)) (by decide) (lenOf (by decide +kernel : parseMethodDescriptor "([C)V" = some ⟨[(.array .char)], none⟩) rfl) rfl rfl (W := 1) (Nat.le_of_ble_eq_true rfl) (Nat.le_of_ble_eq_true rfl) (Nat.le_of_ble_eq_true rfl) (Nat.le_of_ble_eq_true rfl) (Nat.le_of_ble_eq_true rfl) ?_
      rintro _ h208 ⟨rfl, hq⟩ g209
      have K2 := OwnKit.Ok.setJ (J := fun _ => True) K
      have hw2 : (κ.setJ fun _ => True).wide = true := hwd
      have hj2 : (κ.setJ fun _ => True).J = fun _ => True := rfl
      clear K hwd hJ
      generalize κ.setJ (fun _ => True) = κ at *
      have K := K2
      have hwd := hw2
      have hJ := hj2
      clear K2 hw2 hj2
      show OwnKit.Go κ h208 4 8 14 #[.val (.int n), .val (.int c0), .val (.int c1), .val (.int c2), .val (.int c3)] [.ref a186]
      refine OwnKit.areturn K d_method_4_14 rfl rfl ?_ (Nat.le_of_ble_eq_true rfl) (Nat.le_of_ble_eq_true rfl)
      · have e : n.toInt.toNat = 0 := by rw [b1]; rfl
        rw [e]
        exact ⟨_, rfl, hq⟩
  · intro m; first | rfl | (simp [entryFrame, mkF, argsToLocals, Value.category]; done)

theorem d_prog_1m5_0 : decode prog_1_method_5_code 0 = .ok (.iload_n 0, 1) := by decide +kernel
theorem d_prog_1m5_1 : decode prog_1_method_5_code 1 = .ok (.bipush 65, 2) := by decide +kernel
theorem d_prog_1m5_3 : decode prog_1_method_5_code 3 = .ok (.if_icmp .lt 9, 3) := by decide +kernel
theorem d_prog_1m5_6 : decode prog_1_method_5_code 6 = .ok (.iload_n 0, 1) := by decide +kernel
theorem d_prog_1m5_7 : decode prog_1_method_5_code 7 = .ok (.bipush 90, 2) := by decide +kernel
theorem d_prog_1m5_9 : decode prog_1_method_5_code 9 = .ok (.if_icmp .le 45, 3) := by decide +kernel
theorem d_prog_1m5_12 : decode prog_1_method_5_code 12 = .ok (.iload_n 0, 1) := by decide +kernel
theorem d_prog_1m5_13 : decode prog_1_method_5_code 13 = .ok (.bipush 97, 2) := by decide +kernel
theorem d_prog_1m5_15 : decode prog_1_method_5_code 15 = .ok (.if_icmp .lt 9, 3) := by decide +kernel
theorem d_prog_1m5_18 : decode prog_1_method_5_code 18 = .ok (.iload_n 0, 1) := by decide +kernel
theorem d_prog_1m5_19 : decode prog_1_method_5_code 19 = .ok (.bipush 122, 2) := by decide +kernel
theorem d_prog_1m5_21 : decode prog_1_method_5_code 21 = .ok (.if_icmp .le 33, 3) := by decide +kernel
theorem d_prog_1m5_24 : decode prog_1_method_5_code 24 = .ok (.iload_n 0, 1) := by decide +kernel
theorem d_prog_1m5_25 : decode prog_1_method_5_code 25 = .ok (.bipush 48, 2) := by decide +kernel
theorem d_prog_1m5_27 : decode prog_1_method_5_code 27 = .ok (.if_icmp .lt 9, 3) := by decide +kernel
theorem d_prog_1m5_30 : decode prog_1_method_5_code 30 = .ok (.iload_n 0, 1) := by decide +kernel
theorem d_prog_1m5_31 : decode prog_1_method_5_code 31 = .ok (.bipush 57, 2) := by decide +kernel
theorem d_prog_1m5_33 : decode prog_1_method_5_code 33 = .ok (.if_icmp .le 21, 3) := by decide +kernel
theorem d_prog_1m5_36 : decode prog_1_method_5_code 36 = .ok (.iload_n 0, 1) := by decide +kernel
theorem d_prog_1m5_37 : decode prog_1_method_5_code 37 = .ok (.bipush 95, 2) := by decide +kernel
theorem d_prog_1m5_39 : decode prog_1_method_5_code 39 = .ok (.if_icmp .eq 15, 3) := by decide +kernel
theorem d_prog_1m5_42 : decode prog_1_method_5_code 42 = .ok (.iload_n 0, 1) := by decide +kernel
theorem d_prog_1m5_43 : decode prog_1_method_5_code 43 = .ok (.bipush 46, 2) := by decide +kernel
theorem d_prog_1m5_45 : decode prog_1_method_5_code 45 = .ok (.if_icmp .eq 9, 3) := by decide +kernel
theorem d_prog_1m5_48 : decode prog_1_method_5_code 48 = .ok (.iload_n 0, 1) := by decide +kernel
theorem d_prog_1m5_49 : decode prog_1_method_5_code 49 = .ok (.bipush 45, 2) := by decide +kernel
theorem d_prog_1m5_51 : decode prog_1_method_5_code 51 = .ok (.if_icmp .ne 7, 3) := by decide +kernel
theorem d_prog_1m5_54 : decode prog_1_method_5_code 54 = .ok (.iconst 1, 1) := by decide +kernel
theorem d_prog_1m5_55 : decode prog_1_method_5_code 55 = .ok (.goto 4, 3) := by decide +kernel
theorem d_prog_1m5_58 : decode prog_1_method_5_code 58 = .ok (.iconst 0, 1) := by decide +kernel
theorem d_prog_1m5_59 : decode prog_1_method_5_code 59 = .ok (.ireturn, 1) := by decide +kernel
set_option maxRecDepth 65536 in
set_option maxHeartbeats 40000000 in
theorem c_isid (l : Launch) (Z : State) (a0 : Array Value) (hw : ∀ d ∈ tables_1, d.before a0 Z = true) (n0 : Nat) (h0 : Heap) (c : Int32)  :
    OwnKit.Con false l Z n0 (⟨"com/example/bale/bale/check/Ids", "isIdCharacter", "(C)Z"⟩ : MethodName) prog_1_method_5_code 1 (some .boolean) ({ frames := 0, cells := 0, slots := 0, locals := 0 } : Room) #[.int c] h0 (QBit (own_idP c) h0) := by
  refine OwnKit.Con.of (by first | (refine plainFor_of_name ?_; simp [plainName, overriddenIn]; done) | decide +kernel) ?_ ?_
  · intro κ hwd hJ K0
    have K : OwnKit.Ok κ l Z n0 "com/example/bale/bale/check/Ids" "isIdCharacter" prog_1_method_5_code 1 (some .boolean) ({ frames := 0, cells := 0, slots := 0, locals := 0 } : Room) (QBit (own_idP c) h0) := K0
    have ef : (entryFrame κ.m #[.int c] 1).locals = #[.val (.int c)] := by first | (simp [entryFrame, argsToLocals, Value.category]; done) | rfl
    rw [ef]; clear ef K0
    have e95 : (95 : Int32).toInt = 95 := rfl
    have e46 : (46 : Int32).toInt = 46 := rfl
    have e45 : (45 : Int32).toInt = 45 := rfl
    have e97 : (97 : Int32).toInt = 97 := rfl
    have e122 : (122 : Int32).toInt = 122 := rfl
    have e48 : (48 : Int32).toInt = 48 := rfl
    have e57 : (57 : Int32).toInt = 57 := rfl
    have e65 : (65 : Int32).toInt = 65 := rfl
    have e90 : (90 : Int32).toInt = 90 := rfl
    have e10 : (10 : Int32).toInt = 10 := rfl
    have e0 : (0 : Int32).toInt = 0 := rfl
    show OwnKit.Go κ h0 0 0 0 #[.val (.int c)] []
    refine OwnKit.iloadN K d_prog_1m5_0 rfl ?_
    show OwnKit.Go κ h0 0 0 1 #[.val (.int c)] [.int c]
    refine OwnKit.bipush K d_prog_1m5_1 ?_
    show OwnKit.Go κ h0 0 0 3 #[.val (.int c)] [.int (65 : Int32), .int c]
    refine OwnKit.icmplt K d_prog_1m5_3 (by decide) (pc' := 12) rfl  (fun b1 => ?_) (fun b1 => ?_)
    · show OwnKit.Go κ h0 0 0 12 #[.val (.int c)] []
      refine OwnKit.iloadN K d_prog_1m5_12 rfl ?_
      show OwnKit.Go κ h0 0 0 13 #[.val (.int c)] [.int c]
      refine OwnKit.bipush K d_prog_1m5_13 ?_
      show OwnKit.Go κ h0 0 0 15 #[.val (.int c)] [.int (97 : Int32), .int c]
      refine OwnKit.icmplt K d_prog_1m5_15 (by decide) (pc' := 24) rfl  (fun b2 => ?_) (fun b2 => ?_)
      · show OwnKit.Go κ h0 0 0 24 #[.val (.int c)] []
        refine OwnKit.iloadN K d_prog_1m5_24 rfl ?_
        show OwnKit.Go κ h0 0 0 25 #[.val (.int c)] [.int c]
        refine OwnKit.bipush K d_prog_1m5_25 ?_
        show OwnKit.Go κ h0 0 0 27 #[.val (.int c)] [.int (48 : Int32), .int c]
        refine OwnKit.icmplt K d_prog_1m5_27 (by decide) (pc' := 36) rfl  (fun b3 => ?_) (fun b3 => ?_)
        · show OwnKit.Go κ h0 0 0 36 #[.val (.int c)] []
          refine OwnKit.iloadN K d_prog_1m5_36 rfl ?_
          show OwnKit.Go κ h0 0 0 37 #[.val (.int c)] [.int c]
          refine OwnKit.bipush K d_prog_1m5_37 ?_
          show OwnKit.Go κ h0 0 0 39 #[.val (.int c)] [.int (95 : Int32), .int c]
          refine OwnKit.icmpeq K d_prog_1m5_39 (by decide) (pc' := 54) rfl  (fun b4 => ?_) (fun b4 => ?_)
          · show OwnKit.Go κ h0 0 0 54 #[.val (.int c)] []
            refine OwnKit.iconst K d_prog_1m5_54 ?_
            show OwnKit.Go κ h0 0 0 55 #[.val (.int c)] [.int (1 : Int32)]
            refine OwnKit.goto K d_prog_1m5_55 (by decide) (pc' := 59) rfl ?_
            show OwnKit.Go κ h0 0 0 59 #[.val (.int c)] [.int (1 : Int32)]
            refine OwnKit.ireturn K d_prog_1m5_59 (Or.inr (Or.inl rfl)) rfl ?_ (Nat.le_of_ble_eq_true rfl) (Nat.le_of_ble_eq_true rfl)
            · try simp only [← Int32.toInt_inj] at *
              refine ⟨_, rfl, Or.inl ⟨?_, rfl⟩, rfl⟩
              unfold own_idP
              omega
          · show OwnKit.Go κ h0 0 0 42 #[.val (.int c)] []
            refine OwnKit.iloadN K d_prog_1m5_42 rfl ?_
            show OwnKit.Go κ h0 0 0 43 #[.val (.int c)] [.int c]
            refine OwnKit.bipush K d_prog_1m5_43 ?_
            show OwnKit.Go κ h0 0 0 45 #[.val (.int c)] [.int (46 : Int32), .int c]
            refine OwnKit.icmpeq K d_prog_1m5_45 (by decide) (pc' := 54) rfl  (fun b5 => ?_) (fun b5 => ?_)
            · show OwnKit.Go κ h0 0 0 54 #[.val (.int c)] []
              refine OwnKit.iconst K d_prog_1m5_54 ?_
              show OwnKit.Go κ h0 0 0 55 #[.val (.int c)] [.int (1 : Int32)]
              refine OwnKit.goto K d_prog_1m5_55 (by decide) (pc' := 59) rfl ?_
              show OwnKit.Go κ h0 0 0 59 #[.val (.int c)] [.int (1 : Int32)]
              refine OwnKit.ireturn K d_prog_1m5_59 (Or.inr (Or.inl rfl)) rfl ?_ (Nat.le_of_ble_eq_true rfl) (Nat.le_of_ble_eq_true rfl)
              · try simp only [← Int32.toInt_inj] at *
                refine ⟨_, rfl, Or.inl ⟨?_, rfl⟩, rfl⟩
                unfold own_idP
                omega
            · show OwnKit.Go κ h0 0 0 48 #[.val (.int c)] []
              refine OwnKit.iloadN K d_prog_1m5_48 rfl ?_
              show OwnKit.Go κ h0 0 0 49 #[.val (.int c)] [.int c]
              refine OwnKit.bipush K d_prog_1m5_49 ?_
              show OwnKit.Go κ h0 0 0 51 #[.val (.int c)] [.int (45 : Int32), .int c]
              refine OwnKit.icmpne K d_prog_1m5_51 (by decide) (pc' := 58) rfl  (fun b6 => ?_) (fun b6 => ?_)
              · show OwnKit.Go κ h0 0 0 58 #[.val (.int c)] []
                refine OwnKit.iconst K d_prog_1m5_58 ?_
                show OwnKit.Go κ h0 0 0 59 #[.val (.int c)] [.int (0 : Int32)]
                refine OwnKit.ireturn K d_prog_1m5_59 (Or.inr (Or.inl rfl)) rfl ?_ (Nat.le_of_ble_eq_true rfl) (Nat.le_of_ble_eq_true rfl)
                · try simp only [← Int32.toInt_inj] at *
                  refine ⟨_, rfl, Or.inr ⟨?_, rfl⟩, rfl⟩
                  unfold own_idP
                  omega
              · show OwnKit.Go κ h0 0 0 54 #[.val (.int c)] []
                refine OwnKit.iconst K d_prog_1m5_54 ?_
                show OwnKit.Go κ h0 0 0 55 #[.val (.int c)] [.int (1 : Int32)]
                refine OwnKit.goto K d_prog_1m5_55 (by decide) (pc' := 59) rfl ?_
                show OwnKit.Go κ h0 0 0 59 #[.val (.int c)] [.int (1 : Int32)]
                refine OwnKit.ireturn K d_prog_1m5_59 (Or.inr (Or.inl rfl)) rfl ?_ (Nat.le_of_ble_eq_true rfl) (Nat.le_of_ble_eq_true rfl)
                · try simp only [← Int32.toInt_inj] at *
                  refine ⟨_, rfl, Or.inl ⟨?_, rfl⟩, rfl⟩
                  unfold own_idP
                  omega
        · show OwnKit.Go κ h0 0 0 30 #[.val (.int c)] []
          refine OwnKit.iloadN K d_prog_1m5_30 rfl ?_
          show OwnKit.Go κ h0 0 0 31 #[.val (.int c)] [.int c]
          refine OwnKit.bipush K d_prog_1m5_31 ?_
          show OwnKit.Go κ h0 0 0 33 #[.val (.int c)] [.int (57 : Int32), .int c]
          refine OwnKit.icmple K d_prog_1m5_33 (by decide) (pc' := 54) rfl  (fun b7 => ?_) (fun b7 => ?_)
          · show OwnKit.Go κ h0 0 0 54 #[.val (.int c)] []
            refine OwnKit.iconst K d_prog_1m5_54 ?_
            show OwnKit.Go κ h0 0 0 55 #[.val (.int c)] [.int (1 : Int32)]
            refine OwnKit.goto K d_prog_1m5_55 (by decide) (pc' := 59) rfl ?_
            show OwnKit.Go κ h0 0 0 59 #[.val (.int c)] [.int (1 : Int32)]
            refine OwnKit.ireturn K d_prog_1m5_59 (Or.inr (Or.inl rfl)) rfl ?_ (Nat.le_of_ble_eq_true rfl) (Nat.le_of_ble_eq_true rfl)
            · try simp only [← Int32.toInt_inj] at *
              refine ⟨_, rfl, Or.inl ⟨?_, rfl⟩, rfl⟩
              unfold own_idP
              omega
          · show OwnKit.Go κ h0 0 0 36 #[.val (.int c)] []
            refine OwnKit.iloadN K d_prog_1m5_36 rfl ?_
            show OwnKit.Go κ h0 0 0 37 #[.val (.int c)] [.int c]
            refine OwnKit.bipush K d_prog_1m5_37 ?_
            show OwnKit.Go κ h0 0 0 39 #[.val (.int c)] [.int (95 : Int32), .int c]
            refine OwnKit.icmpeq K d_prog_1m5_39 (by decide) (pc' := 54) rfl  (fun b8 => ?_) (fun b8 => ?_)
            · show OwnKit.Go κ h0 0 0 54 #[.val (.int c)] []
              refine OwnKit.iconst K d_prog_1m5_54 ?_
              show OwnKit.Go κ h0 0 0 55 #[.val (.int c)] [.int (1 : Int32)]
              refine OwnKit.goto K d_prog_1m5_55 (by decide) (pc' := 59) rfl ?_
              show OwnKit.Go κ h0 0 0 59 #[.val (.int c)] [.int (1 : Int32)]
              refine OwnKit.ireturn K d_prog_1m5_59 (Or.inr (Or.inl rfl)) rfl ?_ (Nat.le_of_ble_eq_true rfl) (Nat.le_of_ble_eq_true rfl)
              · try simp only [← Int32.toInt_inj] at *
                refine ⟨_, rfl, Or.inl ⟨?_, rfl⟩, rfl⟩
                unfold own_idP
                omega
            · show OwnKit.Go κ h0 0 0 42 #[.val (.int c)] []
              refine OwnKit.iloadN K d_prog_1m5_42 rfl ?_
              show OwnKit.Go κ h0 0 0 43 #[.val (.int c)] [.int c]
              refine OwnKit.bipush K d_prog_1m5_43 ?_
              show OwnKit.Go κ h0 0 0 45 #[.val (.int c)] [.int (46 : Int32), .int c]
              refine OwnKit.icmpeq K d_prog_1m5_45 (by decide) (pc' := 54) rfl  (fun b9 => ?_) (fun b9 => ?_)
              · show OwnKit.Go κ h0 0 0 54 #[.val (.int c)] []
                refine OwnKit.iconst K d_prog_1m5_54 ?_
                show OwnKit.Go κ h0 0 0 55 #[.val (.int c)] [.int (1 : Int32)]
                refine OwnKit.goto K d_prog_1m5_55 (by decide) (pc' := 59) rfl ?_
                show OwnKit.Go κ h0 0 0 59 #[.val (.int c)] [.int (1 : Int32)]
                refine OwnKit.ireturn K d_prog_1m5_59 (Or.inr (Or.inl rfl)) rfl ?_ (Nat.le_of_ble_eq_true rfl) (Nat.le_of_ble_eq_true rfl)
                · try simp only [← Int32.toInt_inj] at *
                  refine ⟨_, rfl, Or.inl ⟨?_, rfl⟩, rfl⟩
                  unfold own_idP
                  omega
              · show OwnKit.Go κ h0 0 0 48 #[.val (.int c)] []
                refine OwnKit.iloadN K d_prog_1m5_48 rfl ?_
                show OwnKit.Go κ h0 0 0 49 #[.val (.int c)] [.int c]
                refine OwnKit.bipush K d_prog_1m5_49 ?_
                show OwnKit.Go κ h0 0 0 51 #[.val (.int c)] [.int (45 : Int32), .int c]
                refine OwnKit.icmpne K d_prog_1m5_51 (by decide) (pc' := 58) rfl  (fun b10 => ?_) (fun b10 => ?_)
                · show OwnKit.Go κ h0 0 0 58 #[.val (.int c)] []
                  refine OwnKit.iconst K d_prog_1m5_58 ?_
                  show OwnKit.Go κ h0 0 0 59 #[.val (.int c)] [.int (0 : Int32)]
                  refine OwnKit.ireturn K d_prog_1m5_59 (Or.inr (Or.inl rfl)) rfl ?_ (Nat.le_of_ble_eq_true rfl) (Nat.le_of_ble_eq_true rfl)
                  · try simp only [← Int32.toInt_inj] at *
                    refine ⟨_, rfl, Or.inr ⟨?_, rfl⟩, rfl⟩
                    unfold own_idP
                    omega
                · show OwnKit.Go κ h0 0 0 54 #[.val (.int c)] []
                  refine OwnKit.iconst K d_prog_1m5_54 ?_
                  show OwnKit.Go κ h0 0 0 55 #[.val (.int c)] [.int (1 : Int32)]
                  refine OwnKit.goto K d_prog_1m5_55 (by decide) (pc' := 59) rfl ?_
                  show OwnKit.Go κ h0 0 0 59 #[.val (.int c)] [.int (1 : Int32)]
                  refine OwnKit.ireturn K d_prog_1m5_59 (Or.inr (Or.inl rfl)) rfl ?_ (Nat.le_of_ble_eq_true rfl) (Nat.le_of_ble_eq_true rfl)
                  · try simp only [← Int32.toInt_inj] at *
                    refine ⟨_, rfl, Or.inl ⟨?_, rfl⟩, rfl⟩
                    unfold own_idP
                    omega
      · show OwnKit.Go κ h0 0 0 18 #[.val (.int c)] []
        refine OwnKit.iloadN K d_prog_1m5_18 rfl ?_
        show OwnKit.Go κ h0 0 0 19 #[.val (.int c)] [.int c]
        refine OwnKit.bipush K d_prog_1m5_19 ?_
        show OwnKit.Go κ h0 0 0 21 #[.val (.int c)] [.int (122 : Int32), .int c]
        refine OwnKit.icmple K d_prog_1m5_21 (by decide) (pc' := 54) rfl  (fun b11 => ?_) (fun b11 => ?_)
        · show OwnKit.Go κ h0 0 0 54 #[.val (.int c)] []
          refine OwnKit.iconst K d_prog_1m5_54 ?_
          show OwnKit.Go κ h0 0 0 55 #[.val (.int c)] [.int (1 : Int32)]
          refine OwnKit.goto K d_prog_1m5_55 (by decide) (pc' := 59) rfl ?_
          show OwnKit.Go κ h0 0 0 59 #[.val (.int c)] [.int (1 : Int32)]
          refine OwnKit.ireturn K d_prog_1m5_59 (Or.inr (Or.inl rfl)) rfl ?_ (Nat.le_of_ble_eq_true rfl) (Nat.le_of_ble_eq_true rfl)
          · try simp only [← Int32.toInt_inj] at *
            refine ⟨_, rfl, Or.inl ⟨?_, rfl⟩, rfl⟩
            unfold own_idP
            omega
        · show OwnKit.Go κ h0 0 0 24 #[.val (.int c)] []
          refine OwnKit.iloadN K d_prog_1m5_24 rfl ?_
          show OwnKit.Go κ h0 0 0 25 #[.val (.int c)] [.int c]
          refine OwnKit.bipush K d_prog_1m5_25 ?_
          show OwnKit.Go κ h0 0 0 27 #[.val (.int c)] [.int (48 : Int32), .int c]
          refine OwnKit.icmplt K d_prog_1m5_27 (by decide) (pc' := 36) rfl  (fun b12 => ?_) (fun b12 => ?_)
          · show OwnKit.Go κ h0 0 0 36 #[.val (.int c)] []
            refine OwnKit.iloadN K d_prog_1m5_36 rfl ?_
            show OwnKit.Go κ h0 0 0 37 #[.val (.int c)] [.int c]
            refine OwnKit.bipush K d_prog_1m5_37 ?_
            show OwnKit.Go κ h0 0 0 39 #[.val (.int c)] [.int (95 : Int32), .int c]
            refine OwnKit.icmpeq K d_prog_1m5_39 (by decide) (pc' := 54) rfl  (fun b13 => ?_) (fun b13 => ?_)
            · show OwnKit.Go κ h0 0 0 54 #[.val (.int c)] []
              refine OwnKit.iconst K d_prog_1m5_54 ?_
              show OwnKit.Go κ h0 0 0 55 #[.val (.int c)] [.int (1 : Int32)]
              refine OwnKit.goto K d_prog_1m5_55 (by decide) (pc' := 59) rfl ?_
              show OwnKit.Go κ h0 0 0 59 #[.val (.int c)] [.int (1 : Int32)]
              refine OwnKit.ireturn K d_prog_1m5_59 (Or.inr (Or.inl rfl)) rfl ?_ (Nat.le_of_ble_eq_true rfl) (Nat.le_of_ble_eq_true rfl)
              · try simp only [← Int32.toInt_inj] at *
                refine ⟨_, rfl, Or.inl ⟨?_, rfl⟩, rfl⟩
                unfold own_idP
                omega
            · show OwnKit.Go κ h0 0 0 42 #[.val (.int c)] []
              refine OwnKit.iloadN K d_prog_1m5_42 rfl ?_
              show OwnKit.Go κ h0 0 0 43 #[.val (.int c)] [.int c]
              refine OwnKit.bipush K d_prog_1m5_43 ?_
              show OwnKit.Go κ h0 0 0 45 #[.val (.int c)] [.int (46 : Int32), .int c]
              refine OwnKit.icmpeq K d_prog_1m5_45 (by decide) (pc' := 54) rfl  (fun b14 => ?_) (fun b14 => ?_)
              · show OwnKit.Go κ h0 0 0 54 #[.val (.int c)] []
                refine OwnKit.iconst K d_prog_1m5_54 ?_
                show OwnKit.Go κ h0 0 0 55 #[.val (.int c)] [.int (1 : Int32)]
                refine OwnKit.goto K d_prog_1m5_55 (by decide) (pc' := 59) rfl ?_
                show OwnKit.Go κ h0 0 0 59 #[.val (.int c)] [.int (1 : Int32)]
                refine OwnKit.ireturn K d_prog_1m5_59 (Or.inr (Or.inl rfl)) rfl ?_ (Nat.le_of_ble_eq_true rfl) (Nat.le_of_ble_eq_true rfl)
                · try simp only [← Int32.toInt_inj] at *
                  refine ⟨_, rfl, Or.inl ⟨?_, rfl⟩, rfl⟩
                  unfold own_idP
                  omega
              · show OwnKit.Go κ h0 0 0 48 #[.val (.int c)] []
                refine OwnKit.iloadN K d_prog_1m5_48 rfl ?_
                show OwnKit.Go κ h0 0 0 49 #[.val (.int c)] [.int c]
                refine OwnKit.bipush K d_prog_1m5_49 ?_
                show OwnKit.Go κ h0 0 0 51 #[.val (.int c)] [.int (45 : Int32), .int c]
                refine OwnKit.icmpne K d_prog_1m5_51 (by decide) (pc' := 58) rfl  (fun b15 => ?_) (fun b15 => ?_)
                · show OwnKit.Go κ h0 0 0 58 #[.val (.int c)] []
                  refine OwnKit.iconst K d_prog_1m5_58 ?_
                  show OwnKit.Go κ h0 0 0 59 #[.val (.int c)] [.int (0 : Int32)]
                  refine OwnKit.ireturn K d_prog_1m5_59 (Or.inr (Or.inl rfl)) rfl ?_ (Nat.le_of_ble_eq_true rfl) (Nat.le_of_ble_eq_true rfl)
                  · try simp only [← Int32.toInt_inj] at *
                    refine ⟨_, rfl, Or.inr ⟨?_, rfl⟩, rfl⟩
                    unfold own_idP
                    omega
                · show OwnKit.Go κ h0 0 0 54 #[.val (.int c)] []
                  refine OwnKit.iconst K d_prog_1m5_54 ?_
                  show OwnKit.Go κ h0 0 0 55 #[.val (.int c)] [.int (1 : Int32)]
                  refine OwnKit.goto K d_prog_1m5_55 (by decide) (pc' := 59) rfl ?_
                  show OwnKit.Go κ h0 0 0 59 #[.val (.int c)] [.int (1 : Int32)]
                  refine OwnKit.ireturn K d_prog_1m5_59 (Or.inr (Or.inl rfl)) rfl ?_ (Nat.le_of_ble_eq_true rfl) (Nat.le_of_ble_eq_true rfl)
                  · try simp only [← Int32.toInt_inj] at *
                    refine ⟨_, rfl, Or.inl ⟨?_, rfl⟩, rfl⟩
                    unfold own_idP
                    omega
          · show OwnKit.Go κ h0 0 0 30 #[.val (.int c)] []
            refine OwnKit.iloadN K d_prog_1m5_30 rfl ?_
            show OwnKit.Go κ h0 0 0 31 #[.val (.int c)] [.int c]
            refine OwnKit.bipush K d_prog_1m5_31 ?_
            show OwnKit.Go κ h0 0 0 33 #[.val (.int c)] [.int (57 : Int32), .int c]
            refine OwnKit.icmple K d_prog_1m5_33 (by decide) (pc' := 54) rfl  (fun b16 => ?_) (fun b16 => ?_)
            · show OwnKit.Go κ h0 0 0 54 #[.val (.int c)] []
              refine OwnKit.iconst K d_prog_1m5_54 ?_
              show OwnKit.Go κ h0 0 0 55 #[.val (.int c)] [.int (1 : Int32)]
              refine OwnKit.goto K d_prog_1m5_55 (by decide) (pc' := 59) rfl ?_
              show OwnKit.Go κ h0 0 0 59 #[.val (.int c)] [.int (1 : Int32)]
              refine OwnKit.ireturn K d_prog_1m5_59 (Or.inr (Or.inl rfl)) rfl ?_ (Nat.le_of_ble_eq_true rfl) (Nat.le_of_ble_eq_true rfl)
              · try simp only [← Int32.toInt_inj] at *
                refine ⟨_, rfl, Or.inl ⟨?_, rfl⟩, rfl⟩
                unfold own_idP
                omega
            · show OwnKit.Go κ h0 0 0 36 #[.val (.int c)] []
              refine OwnKit.iloadN K d_prog_1m5_36 rfl ?_
              show OwnKit.Go κ h0 0 0 37 #[.val (.int c)] [.int c]
              refine OwnKit.bipush K d_prog_1m5_37 ?_
              show OwnKit.Go κ h0 0 0 39 #[.val (.int c)] [.int (95 : Int32), .int c]
              refine OwnKit.icmpeq K d_prog_1m5_39 (by decide) (pc' := 54) rfl  (fun b17 => ?_) (fun b17 => ?_)
              · show OwnKit.Go κ h0 0 0 54 #[.val (.int c)] []
                refine OwnKit.iconst K d_prog_1m5_54 ?_
                show OwnKit.Go κ h0 0 0 55 #[.val (.int c)] [.int (1 : Int32)]
                refine OwnKit.goto K d_prog_1m5_55 (by decide) (pc' := 59) rfl ?_
                show OwnKit.Go κ h0 0 0 59 #[.val (.int c)] [.int (1 : Int32)]
                refine OwnKit.ireturn K d_prog_1m5_59 (Or.inr (Or.inl rfl)) rfl ?_ (Nat.le_of_ble_eq_true rfl) (Nat.le_of_ble_eq_true rfl)
                · try simp only [← Int32.toInt_inj] at *
                  refine ⟨_, rfl, Or.inl ⟨?_, rfl⟩, rfl⟩
                  unfold own_idP
                  omega
              · show OwnKit.Go κ h0 0 0 42 #[.val (.int c)] []
                refine OwnKit.iloadN K d_prog_1m5_42 rfl ?_
                show OwnKit.Go κ h0 0 0 43 #[.val (.int c)] [.int c]
                refine OwnKit.bipush K d_prog_1m5_43 ?_
                show OwnKit.Go κ h0 0 0 45 #[.val (.int c)] [.int (46 : Int32), .int c]
                refine OwnKit.icmpeq K d_prog_1m5_45 (by decide) (pc' := 54) rfl  (fun b18 => ?_) (fun b18 => ?_)
                · show OwnKit.Go κ h0 0 0 54 #[.val (.int c)] []
                  refine OwnKit.iconst K d_prog_1m5_54 ?_
                  show OwnKit.Go κ h0 0 0 55 #[.val (.int c)] [.int (1 : Int32)]
                  refine OwnKit.goto K d_prog_1m5_55 (by decide) (pc' := 59) rfl ?_
                  show OwnKit.Go κ h0 0 0 59 #[.val (.int c)] [.int (1 : Int32)]
                  refine OwnKit.ireturn K d_prog_1m5_59 (Or.inr (Or.inl rfl)) rfl ?_ (Nat.le_of_ble_eq_true rfl) (Nat.le_of_ble_eq_true rfl)
                  · try simp only [← Int32.toInt_inj] at *
                    refine ⟨_, rfl, Or.inl ⟨?_, rfl⟩, rfl⟩
                    unfold own_idP
                    omega
                · show OwnKit.Go κ h0 0 0 48 #[.val (.int c)] []
                  refine OwnKit.iloadN K d_prog_1m5_48 rfl ?_
                  show OwnKit.Go κ h0 0 0 49 #[.val (.int c)] [.int c]
                  refine OwnKit.bipush K d_prog_1m5_49 ?_
                  show OwnKit.Go κ h0 0 0 51 #[.val (.int c)] [.int (45 : Int32), .int c]
                  refine OwnKit.icmpne K d_prog_1m5_51 (by decide) (pc' := 58) rfl  (fun b19 => ?_) (fun b19 => ?_)
                  · show OwnKit.Go κ h0 0 0 58 #[.val (.int c)] []
                    refine OwnKit.iconst K d_prog_1m5_58 ?_
                    show OwnKit.Go κ h0 0 0 59 #[.val (.int c)] [.int (0 : Int32)]
                    refine OwnKit.ireturn K d_prog_1m5_59 (Or.inr (Or.inl rfl)) rfl ?_ (Nat.le_of_ble_eq_true rfl) (Nat.le_of_ble_eq_true rfl)
                    · try simp only [← Int32.toInt_inj] at *
                      refine ⟨_, rfl, Or.inr ⟨?_, rfl⟩, rfl⟩
                      unfold own_idP
                      omega
                  · show OwnKit.Go κ h0 0 0 54 #[.val (.int c)] []
                    refine OwnKit.iconst K d_prog_1m5_54 ?_
                    show OwnKit.Go κ h0 0 0 55 #[.val (.int c)] [.int (1 : Int32)]
                    refine OwnKit.goto K d_prog_1m5_55 (by decide) (pc' := 59) rfl ?_
                    show OwnKit.Go κ h0 0 0 59 #[.val (.int c)] [.int (1 : Int32)]
                    refine OwnKit.ireturn K d_prog_1m5_59 (Or.inr (Or.inl rfl)) rfl ?_ (Nat.le_of_ble_eq_true rfl) (Nat.le_of_ble_eq_true rfl)
                    · try simp only [← Int32.toInt_inj] at *
                      refine ⟨_, rfl, Or.inl ⟨?_, rfl⟩, rfl⟩
                      unfold own_idP
                      omega
    · show OwnKit.Go κ h0 0 0 6 #[.val (.int c)] []
      refine OwnKit.iloadN K d_prog_1m5_6 rfl ?_
      show OwnKit.Go κ h0 0 0 7 #[.val (.int c)] [.int c]
      refine OwnKit.bipush K d_prog_1m5_7 ?_
      show OwnKit.Go κ h0 0 0 9 #[.val (.int c)] [.int (90 : Int32), .int c]
      refine OwnKit.icmple K d_prog_1m5_9 (by decide) (pc' := 54) rfl  (fun b20 => ?_) (fun b20 => ?_)
      · show OwnKit.Go κ h0 0 0 54 #[.val (.int c)] []
        refine OwnKit.iconst K d_prog_1m5_54 ?_
        show OwnKit.Go κ h0 0 0 55 #[.val (.int c)] [.int (1 : Int32)]
        refine OwnKit.goto K d_prog_1m5_55 (by decide) (pc' := 59) rfl ?_
        show OwnKit.Go κ h0 0 0 59 #[.val (.int c)] [.int (1 : Int32)]
        refine OwnKit.ireturn K d_prog_1m5_59 (Or.inr (Or.inl rfl)) rfl ?_ (Nat.le_of_ble_eq_true rfl) (Nat.le_of_ble_eq_true rfl)
        · try simp only [← Int32.toInt_inj] at *
          refine ⟨_, rfl, Or.inl ⟨?_, rfl⟩, rfl⟩
          unfold own_idP
          omega
      · show OwnKit.Go κ h0 0 0 12 #[.val (.int c)] []
        refine OwnKit.iloadN K d_prog_1m5_12 rfl ?_
        show OwnKit.Go κ h0 0 0 13 #[.val (.int c)] [.int c]
        refine OwnKit.bipush K d_prog_1m5_13 ?_
        show OwnKit.Go κ h0 0 0 15 #[.val (.int c)] [.int (97 : Int32), .int c]
        refine OwnKit.icmplt K d_prog_1m5_15 (by decide) (pc' := 24) rfl  (fun b21 => ?_) (fun b21 => ?_)
        · show OwnKit.Go κ h0 0 0 24 #[.val (.int c)] []
          refine OwnKit.iloadN K d_prog_1m5_24 rfl ?_
          show OwnKit.Go κ h0 0 0 25 #[.val (.int c)] [.int c]
          refine OwnKit.bipush K d_prog_1m5_25 ?_
          show OwnKit.Go κ h0 0 0 27 #[.val (.int c)] [.int (48 : Int32), .int c]
          refine OwnKit.icmplt K d_prog_1m5_27 (by decide) (pc' := 36) rfl  (fun b22 => ?_) (fun b22 => ?_)
          · show OwnKit.Go κ h0 0 0 36 #[.val (.int c)] []
            refine OwnKit.iloadN K d_prog_1m5_36 rfl ?_
            show OwnKit.Go κ h0 0 0 37 #[.val (.int c)] [.int c]
            refine OwnKit.bipush K d_prog_1m5_37 ?_
            show OwnKit.Go κ h0 0 0 39 #[.val (.int c)] [.int (95 : Int32), .int c]
            refine OwnKit.icmpeq K d_prog_1m5_39 (by decide) (pc' := 54) rfl  (fun b23 => ?_) (fun b23 => ?_)
            · show OwnKit.Go κ h0 0 0 54 #[.val (.int c)] []
              refine OwnKit.iconst K d_prog_1m5_54 ?_
              show OwnKit.Go κ h0 0 0 55 #[.val (.int c)] [.int (1 : Int32)]
              refine OwnKit.goto K d_prog_1m5_55 (by decide) (pc' := 59) rfl ?_
              show OwnKit.Go κ h0 0 0 59 #[.val (.int c)] [.int (1 : Int32)]
              refine OwnKit.ireturn K d_prog_1m5_59 (Or.inr (Or.inl rfl)) rfl ?_ (Nat.le_of_ble_eq_true rfl) (Nat.le_of_ble_eq_true rfl)
              · try simp only [← Int32.toInt_inj] at *
                refine ⟨_, rfl, Or.inl ⟨?_, rfl⟩, rfl⟩
                unfold own_idP
                omega
            · show OwnKit.Go κ h0 0 0 42 #[.val (.int c)] []
              refine OwnKit.iloadN K d_prog_1m5_42 rfl ?_
              show OwnKit.Go κ h0 0 0 43 #[.val (.int c)] [.int c]
              refine OwnKit.bipush K d_prog_1m5_43 ?_
              show OwnKit.Go κ h0 0 0 45 #[.val (.int c)] [.int (46 : Int32), .int c]
              refine OwnKit.icmpeq K d_prog_1m5_45 (by decide) (pc' := 54) rfl  (fun b24 => ?_) (fun b24 => ?_)
              · show OwnKit.Go κ h0 0 0 54 #[.val (.int c)] []
                refine OwnKit.iconst K d_prog_1m5_54 ?_
                show OwnKit.Go κ h0 0 0 55 #[.val (.int c)] [.int (1 : Int32)]
                refine OwnKit.goto K d_prog_1m5_55 (by decide) (pc' := 59) rfl ?_
                show OwnKit.Go κ h0 0 0 59 #[.val (.int c)] [.int (1 : Int32)]
                refine OwnKit.ireturn K d_prog_1m5_59 (Or.inr (Or.inl rfl)) rfl ?_ (Nat.le_of_ble_eq_true rfl) (Nat.le_of_ble_eq_true rfl)
                · try simp only [← Int32.toInt_inj] at *
                  refine ⟨_, rfl, Or.inl ⟨?_, rfl⟩, rfl⟩
                  unfold own_idP
                  omega
              · show OwnKit.Go κ h0 0 0 48 #[.val (.int c)] []
                refine OwnKit.iloadN K d_prog_1m5_48 rfl ?_
                show OwnKit.Go κ h0 0 0 49 #[.val (.int c)] [.int c]
                refine OwnKit.bipush K d_prog_1m5_49 ?_
                show OwnKit.Go κ h0 0 0 51 #[.val (.int c)] [.int (45 : Int32), .int c]
                refine OwnKit.icmpne K d_prog_1m5_51 (by decide) (pc' := 58) rfl  (fun b25 => ?_) (fun b25 => ?_)
                · show OwnKit.Go κ h0 0 0 58 #[.val (.int c)] []
                  refine OwnKit.iconst K d_prog_1m5_58 ?_
                  show OwnKit.Go κ h0 0 0 59 #[.val (.int c)] [.int (0 : Int32)]
                  refine OwnKit.ireturn K d_prog_1m5_59 (Or.inr (Or.inl rfl)) rfl ?_ (Nat.le_of_ble_eq_true rfl) (Nat.le_of_ble_eq_true rfl)
                  · try simp only [← Int32.toInt_inj] at *
                    refine ⟨_, rfl, Or.inr ⟨?_, rfl⟩, rfl⟩
                    unfold own_idP
                    omega
                · show OwnKit.Go κ h0 0 0 54 #[.val (.int c)] []
                  refine OwnKit.iconst K d_prog_1m5_54 ?_
                  show OwnKit.Go κ h0 0 0 55 #[.val (.int c)] [.int (1 : Int32)]
                  refine OwnKit.goto K d_prog_1m5_55 (by decide) (pc' := 59) rfl ?_
                  show OwnKit.Go κ h0 0 0 59 #[.val (.int c)] [.int (1 : Int32)]
                  refine OwnKit.ireturn K d_prog_1m5_59 (Or.inr (Or.inl rfl)) rfl ?_ (Nat.le_of_ble_eq_true rfl) (Nat.le_of_ble_eq_true rfl)
                  · try simp only [← Int32.toInt_inj] at *
                    refine ⟨_, rfl, Or.inl ⟨?_, rfl⟩, rfl⟩
                    unfold own_idP
                    omega
          · show OwnKit.Go κ h0 0 0 30 #[.val (.int c)] []
            refine OwnKit.iloadN K d_prog_1m5_30 rfl ?_
            show OwnKit.Go κ h0 0 0 31 #[.val (.int c)] [.int c]
            refine OwnKit.bipush K d_prog_1m5_31 ?_
            show OwnKit.Go κ h0 0 0 33 #[.val (.int c)] [.int (57 : Int32), .int c]
            refine OwnKit.icmple K d_prog_1m5_33 (by decide) (pc' := 54) rfl  (fun b26 => ?_) (fun b26 => ?_)
            · show OwnKit.Go κ h0 0 0 54 #[.val (.int c)] []
              refine OwnKit.iconst K d_prog_1m5_54 ?_
              show OwnKit.Go κ h0 0 0 55 #[.val (.int c)] [.int (1 : Int32)]
              refine OwnKit.goto K d_prog_1m5_55 (by decide) (pc' := 59) rfl ?_
              show OwnKit.Go κ h0 0 0 59 #[.val (.int c)] [.int (1 : Int32)]
              refine OwnKit.ireturn K d_prog_1m5_59 (Or.inr (Or.inl rfl)) rfl ?_ (Nat.le_of_ble_eq_true rfl) (Nat.le_of_ble_eq_true rfl)
              · try simp only [← Int32.toInt_inj] at *
                refine ⟨_, rfl, Or.inl ⟨?_, rfl⟩, rfl⟩
                unfold own_idP
                omega
            · show OwnKit.Go κ h0 0 0 36 #[.val (.int c)] []
              refine OwnKit.iloadN K d_prog_1m5_36 rfl ?_
              show OwnKit.Go κ h0 0 0 37 #[.val (.int c)] [.int c]
              refine OwnKit.bipush K d_prog_1m5_37 ?_
              show OwnKit.Go κ h0 0 0 39 #[.val (.int c)] [.int (95 : Int32), .int c]
              refine OwnKit.icmpeq K d_prog_1m5_39 (by decide) (pc' := 54) rfl  (fun b27 => ?_) (fun b27 => ?_)
              · show OwnKit.Go κ h0 0 0 54 #[.val (.int c)] []
                refine OwnKit.iconst K d_prog_1m5_54 ?_
                show OwnKit.Go κ h0 0 0 55 #[.val (.int c)] [.int (1 : Int32)]
                refine OwnKit.goto K d_prog_1m5_55 (by decide) (pc' := 59) rfl ?_
                show OwnKit.Go κ h0 0 0 59 #[.val (.int c)] [.int (1 : Int32)]
                refine OwnKit.ireturn K d_prog_1m5_59 (Or.inr (Or.inl rfl)) rfl ?_ (Nat.le_of_ble_eq_true rfl) (Nat.le_of_ble_eq_true rfl)
                · try simp only [← Int32.toInt_inj] at *
                  refine ⟨_, rfl, Or.inl ⟨?_, rfl⟩, rfl⟩
                  unfold own_idP
                  omega
              · show OwnKit.Go κ h0 0 0 42 #[.val (.int c)] []
                refine OwnKit.iloadN K d_prog_1m5_42 rfl ?_
                show OwnKit.Go κ h0 0 0 43 #[.val (.int c)] [.int c]
                refine OwnKit.bipush K d_prog_1m5_43 ?_
                show OwnKit.Go κ h0 0 0 45 #[.val (.int c)] [.int (46 : Int32), .int c]
                refine OwnKit.icmpeq K d_prog_1m5_45 (by decide) (pc' := 54) rfl  (fun b28 => ?_) (fun b28 => ?_)
                · show OwnKit.Go κ h0 0 0 54 #[.val (.int c)] []
                  refine OwnKit.iconst K d_prog_1m5_54 ?_
                  show OwnKit.Go κ h0 0 0 55 #[.val (.int c)] [.int (1 : Int32)]
                  refine OwnKit.goto K d_prog_1m5_55 (by decide) (pc' := 59) rfl ?_
                  show OwnKit.Go κ h0 0 0 59 #[.val (.int c)] [.int (1 : Int32)]
                  refine OwnKit.ireturn K d_prog_1m5_59 (Or.inr (Or.inl rfl)) rfl ?_ (Nat.le_of_ble_eq_true rfl) (Nat.le_of_ble_eq_true rfl)
                  · try simp only [← Int32.toInt_inj] at *
                    refine ⟨_, rfl, Or.inl ⟨?_, rfl⟩, rfl⟩
                    unfold own_idP
                    omega
                · show OwnKit.Go κ h0 0 0 48 #[.val (.int c)] []
                  refine OwnKit.iloadN K d_prog_1m5_48 rfl ?_
                  show OwnKit.Go κ h0 0 0 49 #[.val (.int c)] [.int c]
                  refine OwnKit.bipush K d_prog_1m5_49 ?_
                  show OwnKit.Go κ h0 0 0 51 #[.val (.int c)] [.int (45 : Int32), .int c]
                  refine OwnKit.icmpne K d_prog_1m5_51 (by decide) (pc' := 58) rfl  (fun b29 => ?_) (fun b29 => ?_)
                  · show OwnKit.Go κ h0 0 0 58 #[.val (.int c)] []
                    refine OwnKit.iconst K d_prog_1m5_58 ?_
                    show OwnKit.Go κ h0 0 0 59 #[.val (.int c)] [.int (0 : Int32)]
                    refine OwnKit.ireturn K d_prog_1m5_59 (Or.inr (Or.inl rfl)) rfl ?_ (Nat.le_of_ble_eq_true rfl) (Nat.le_of_ble_eq_true rfl)
                    · try simp only [← Int32.toInt_inj] at *
                      refine ⟨_, rfl, Or.inr ⟨?_, rfl⟩, rfl⟩
                      unfold own_idP
                      omega
                  · show OwnKit.Go κ h0 0 0 54 #[.val (.int c)] []
                    refine OwnKit.iconst K d_prog_1m5_54 ?_
                    show OwnKit.Go κ h0 0 0 55 #[.val (.int c)] [.int (1 : Int32)]
                    refine OwnKit.goto K d_prog_1m5_55 (by decide) (pc' := 59) rfl ?_
                    show OwnKit.Go κ h0 0 0 59 #[.val (.int c)] [.int (1 : Int32)]
                    refine OwnKit.ireturn K d_prog_1m5_59 (Or.inr (Or.inl rfl)) rfl ?_ (Nat.le_of_ble_eq_true rfl) (Nat.le_of_ble_eq_true rfl)
                    · try simp only [← Int32.toInt_inj] at *
                      refine ⟨_, rfl, Or.inl ⟨?_, rfl⟩, rfl⟩
                      unfold own_idP
                      omega
        · show OwnKit.Go κ h0 0 0 18 #[.val (.int c)] []
          refine OwnKit.iloadN K d_prog_1m5_18 rfl ?_
          show OwnKit.Go κ h0 0 0 19 #[.val (.int c)] [.int c]
          refine OwnKit.bipush K d_prog_1m5_19 ?_
          show OwnKit.Go κ h0 0 0 21 #[.val (.int c)] [.int (122 : Int32), .int c]
          refine OwnKit.icmple K d_prog_1m5_21 (by decide) (pc' := 54) rfl  (fun b30 => ?_) (fun b30 => ?_)
          · show OwnKit.Go κ h0 0 0 54 #[.val (.int c)] []
            refine OwnKit.iconst K d_prog_1m5_54 ?_
            show OwnKit.Go κ h0 0 0 55 #[.val (.int c)] [.int (1 : Int32)]
            refine OwnKit.goto K d_prog_1m5_55 (by decide) (pc' := 59) rfl ?_
            show OwnKit.Go κ h0 0 0 59 #[.val (.int c)] [.int (1 : Int32)]
            refine OwnKit.ireturn K d_prog_1m5_59 (Or.inr (Or.inl rfl)) rfl ?_ (Nat.le_of_ble_eq_true rfl) (Nat.le_of_ble_eq_true rfl)
            · try simp only [← Int32.toInt_inj] at *
              refine ⟨_, rfl, Or.inl ⟨?_, rfl⟩, rfl⟩
              unfold own_idP
              omega
          · show OwnKit.Go κ h0 0 0 24 #[.val (.int c)] []
            refine OwnKit.iloadN K d_prog_1m5_24 rfl ?_
            show OwnKit.Go κ h0 0 0 25 #[.val (.int c)] [.int c]
            refine OwnKit.bipush K d_prog_1m5_25 ?_
            show OwnKit.Go κ h0 0 0 27 #[.val (.int c)] [.int (48 : Int32), .int c]
            refine OwnKit.icmplt K d_prog_1m5_27 (by decide) (pc' := 36) rfl  (fun b31 => ?_) (fun b31 => ?_)
            · show OwnKit.Go κ h0 0 0 36 #[.val (.int c)] []
              refine OwnKit.iloadN K d_prog_1m5_36 rfl ?_
              show OwnKit.Go κ h0 0 0 37 #[.val (.int c)] [.int c]
              refine OwnKit.bipush K d_prog_1m5_37 ?_
              show OwnKit.Go κ h0 0 0 39 #[.val (.int c)] [.int (95 : Int32), .int c]
              refine OwnKit.icmpeq K d_prog_1m5_39 (by decide) (pc' := 54) rfl  (fun b32 => ?_) (fun b32 => ?_)
              · show OwnKit.Go κ h0 0 0 54 #[.val (.int c)] []
                refine OwnKit.iconst K d_prog_1m5_54 ?_
                show OwnKit.Go κ h0 0 0 55 #[.val (.int c)] [.int (1 : Int32)]
                refine OwnKit.goto K d_prog_1m5_55 (by decide) (pc' := 59) rfl ?_
                show OwnKit.Go κ h0 0 0 59 #[.val (.int c)] [.int (1 : Int32)]
                refine OwnKit.ireturn K d_prog_1m5_59 (Or.inr (Or.inl rfl)) rfl ?_ (Nat.le_of_ble_eq_true rfl) (Nat.le_of_ble_eq_true rfl)
                · try simp only [← Int32.toInt_inj] at *
                  refine ⟨_, rfl, Or.inl ⟨?_, rfl⟩, rfl⟩
                  unfold own_idP
                  omega
              · show OwnKit.Go κ h0 0 0 42 #[.val (.int c)] []
                refine OwnKit.iloadN K d_prog_1m5_42 rfl ?_
                show OwnKit.Go κ h0 0 0 43 #[.val (.int c)] [.int c]
                refine OwnKit.bipush K d_prog_1m5_43 ?_
                show OwnKit.Go κ h0 0 0 45 #[.val (.int c)] [.int (46 : Int32), .int c]
                refine OwnKit.icmpeq K d_prog_1m5_45 (by decide) (pc' := 54) rfl  (fun b33 => ?_) (fun b33 => ?_)
                · show OwnKit.Go κ h0 0 0 54 #[.val (.int c)] []
                  refine OwnKit.iconst K d_prog_1m5_54 ?_
                  show OwnKit.Go κ h0 0 0 55 #[.val (.int c)] [.int (1 : Int32)]
                  refine OwnKit.goto K d_prog_1m5_55 (by decide) (pc' := 59) rfl ?_
                  show OwnKit.Go κ h0 0 0 59 #[.val (.int c)] [.int (1 : Int32)]
                  refine OwnKit.ireturn K d_prog_1m5_59 (Or.inr (Or.inl rfl)) rfl ?_ (Nat.le_of_ble_eq_true rfl) (Nat.le_of_ble_eq_true rfl)
                  · try simp only [← Int32.toInt_inj] at *
                    refine ⟨_, rfl, Or.inl ⟨?_, rfl⟩, rfl⟩
                    unfold own_idP
                    omega
                · show OwnKit.Go κ h0 0 0 48 #[.val (.int c)] []
                  refine OwnKit.iloadN K d_prog_1m5_48 rfl ?_
                  show OwnKit.Go κ h0 0 0 49 #[.val (.int c)] [.int c]
                  refine OwnKit.bipush K d_prog_1m5_49 ?_
                  show OwnKit.Go κ h0 0 0 51 #[.val (.int c)] [.int (45 : Int32), .int c]
                  refine OwnKit.icmpne K d_prog_1m5_51 (by decide) (pc' := 58) rfl  (fun b34 => ?_) (fun b34 => ?_)
                  · show OwnKit.Go κ h0 0 0 58 #[.val (.int c)] []
                    refine OwnKit.iconst K d_prog_1m5_58 ?_
                    show OwnKit.Go κ h0 0 0 59 #[.val (.int c)] [.int (0 : Int32)]
                    refine OwnKit.ireturn K d_prog_1m5_59 (Or.inr (Or.inl rfl)) rfl ?_ (Nat.le_of_ble_eq_true rfl) (Nat.le_of_ble_eq_true rfl)
                    · try simp only [← Int32.toInt_inj] at *
                      refine ⟨_, rfl, Or.inr ⟨?_, rfl⟩, rfl⟩
                      unfold own_idP
                      omega
                  · show OwnKit.Go κ h0 0 0 54 #[.val (.int c)] []
                    refine OwnKit.iconst K d_prog_1m5_54 ?_
                    show OwnKit.Go κ h0 0 0 55 #[.val (.int c)] [.int (1 : Int32)]
                    refine OwnKit.goto K d_prog_1m5_55 (by decide) (pc' := 59) rfl ?_
                    show OwnKit.Go κ h0 0 0 59 #[.val (.int c)] [.int (1 : Int32)]
                    refine OwnKit.ireturn K d_prog_1m5_59 (Or.inr (Or.inl rfl)) rfl ?_ (Nat.le_of_ble_eq_true rfl) (Nat.le_of_ble_eq_true rfl)
                    · try simp only [← Int32.toInt_inj] at *
                      refine ⟨_, rfl, Or.inl ⟨?_, rfl⟩, rfl⟩
                      unfold own_idP
                      omega
            · show OwnKit.Go κ h0 0 0 30 #[.val (.int c)] []
              refine OwnKit.iloadN K d_prog_1m5_30 rfl ?_
              show OwnKit.Go κ h0 0 0 31 #[.val (.int c)] [.int c]
              refine OwnKit.bipush K d_prog_1m5_31 ?_
              show OwnKit.Go κ h0 0 0 33 #[.val (.int c)] [.int (57 : Int32), .int c]
              refine OwnKit.icmple K d_prog_1m5_33 (by decide) (pc' := 54) rfl  (fun b35 => ?_) (fun b35 => ?_)
              · show OwnKit.Go κ h0 0 0 54 #[.val (.int c)] []
                refine OwnKit.iconst K d_prog_1m5_54 ?_
                show OwnKit.Go κ h0 0 0 55 #[.val (.int c)] [.int (1 : Int32)]
                refine OwnKit.goto K d_prog_1m5_55 (by decide) (pc' := 59) rfl ?_
                show OwnKit.Go κ h0 0 0 59 #[.val (.int c)] [.int (1 : Int32)]
                refine OwnKit.ireturn K d_prog_1m5_59 (Or.inr (Or.inl rfl)) rfl ?_ (Nat.le_of_ble_eq_true rfl) (Nat.le_of_ble_eq_true rfl)
                · try simp only [← Int32.toInt_inj] at *
                  refine ⟨_, rfl, Or.inl ⟨?_, rfl⟩, rfl⟩
                  unfold own_idP
                  omega
              · show OwnKit.Go κ h0 0 0 36 #[.val (.int c)] []
                refine OwnKit.iloadN K d_prog_1m5_36 rfl ?_
                show OwnKit.Go κ h0 0 0 37 #[.val (.int c)] [.int c]
                refine OwnKit.bipush K d_prog_1m5_37 ?_
                show OwnKit.Go κ h0 0 0 39 #[.val (.int c)] [.int (95 : Int32), .int c]
                refine OwnKit.icmpeq K d_prog_1m5_39 (by decide) (pc' := 54) rfl  (fun b36 => ?_) (fun b36 => ?_)
                · show OwnKit.Go κ h0 0 0 54 #[.val (.int c)] []
                  refine OwnKit.iconst K d_prog_1m5_54 ?_
                  show OwnKit.Go κ h0 0 0 55 #[.val (.int c)] [.int (1 : Int32)]
                  refine OwnKit.goto K d_prog_1m5_55 (by decide) (pc' := 59) rfl ?_
                  show OwnKit.Go κ h0 0 0 59 #[.val (.int c)] [.int (1 : Int32)]
                  refine OwnKit.ireturn K d_prog_1m5_59 (Or.inr (Or.inl rfl)) rfl ?_ (Nat.le_of_ble_eq_true rfl) (Nat.le_of_ble_eq_true rfl)
                  · try simp only [← Int32.toInt_inj] at *
                    refine ⟨_, rfl, Or.inl ⟨?_, rfl⟩, rfl⟩
                    unfold own_idP
                    omega
                · show OwnKit.Go κ h0 0 0 42 #[.val (.int c)] []
                  refine OwnKit.iloadN K d_prog_1m5_42 rfl ?_
                  show OwnKit.Go κ h0 0 0 43 #[.val (.int c)] [.int c]
                  refine OwnKit.bipush K d_prog_1m5_43 ?_
                  show OwnKit.Go κ h0 0 0 45 #[.val (.int c)] [.int (46 : Int32), .int c]
                  refine OwnKit.icmpeq K d_prog_1m5_45 (by decide) (pc' := 54) rfl  (fun b37 => ?_) (fun b37 => ?_)
                  · show OwnKit.Go κ h0 0 0 54 #[.val (.int c)] []
                    refine OwnKit.iconst K d_prog_1m5_54 ?_
                    show OwnKit.Go κ h0 0 0 55 #[.val (.int c)] [.int (1 : Int32)]
                    refine OwnKit.goto K d_prog_1m5_55 (by decide) (pc' := 59) rfl ?_
                    show OwnKit.Go κ h0 0 0 59 #[.val (.int c)] [.int (1 : Int32)]
                    refine OwnKit.ireturn K d_prog_1m5_59 (Or.inr (Or.inl rfl)) rfl ?_ (Nat.le_of_ble_eq_true rfl) (Nat.le_of_ble_eq_true rfl)
                    · try simp only [← Int32.toInt_inj] at *
                      refine ⟨_, rfl, Or.inl ⟨?_, rfl⟩, rfl⟩
                      unfold own_idP
                      omega
                  · show OwnKit.Go κ h0 0 0 48 #[.val (.int c)] []
                    refine OwnKit.iloadN K d_prog_1m5_48 rfl ?_
                    show OwnKit.Go κ h0 0 0 49 #[.val (.int c)] [.int c]
                    refine OwnKit.bipush K d_prog_1m5_49 ?_
                    show OwnKit.Go κ h0 0 0 51 #[.val (.int c)] [.int (45 : Int32), .int c]
                    refine OwnKit.icmpne K d_prog_1m5_51 (by decide) (pc' := 58) rfl  (fun b38 => ?_) (fun b38 => ?_)
                    · show OwnKit.Go κ h0 0 0 58 #[.val (.int c)] []
                      refine OwnKit.iconst K d_prog_1m5_58 ?_
                      show OwnKit.Go κ h0 0 0 59 #[.val (.int c)] [.int (0 : Int32)]
                      refine OwnKit.ireturn K d_prog_1m5_59 (Or.inr (Or.inl rfl)) rfl ?_ (Nat.le_of_ble_eq_true rfl) (Nat.le_of_ble_eq_true rfl)
                      · try simp only [← Int32.toInt_inj] at *
                        refine ⟨_, rfl, Or.inr ⟨?_, rfl⟩, rfl⟩
                        unfold own_idP
                        omega
                    · show OwnKit.Go κ h0 0 0 54 #[.val (.int c)] []
                      refine OwnKit.iconst K d_prog_1m5_54 ?_
                      show OwnKit.Go κ h0 0 0 55 #[.val (.int c)] [.int (1 : Int32)]
                      refine OwnKit.goto K d_prog_1m5_55 (by decide) (pc' := 59) rfl ?_
                      show OwnKit.Go κ h0 0 0 59 #[.val (.int c)] [.int (1 : Int32)]
                      refine OwnKit.ireturn K d_prog_1m5_59 (Or.inr (Or.inl rfl)) rfl ?_ (Nat.le_of_ble_eq_true rfl) (Nat.le_of_ble_eq_true rfl)
                      · try simp only [← Int32.toInt_inj] at *
                        refine ⟨_, rfl, Or.inl ⟨?_, rfl⟩, rfl⟩
                        unfold own_idP
                        omega
  · intro m; first | rfl | (simp [entryFrame, mkF, argsToLocals, Value.category]; done)

theorem d_method_5_0 : decode method_5_code 0 = .ok (.iload_n 0, 1) := by decide +kernel
theorem d_method_5_1 : decode method_5_code 1 = .ok (.bipush 32, 2) := by decide +kernel
theorem d_method_5_3 : decode method_5_code 3 = .ok (.ior, 1) := by decide +kernel
theorem d_method_5_4 : decode method_5_code 4 = .ok (.istore_n 1, 1) := by decide +kernel
theorem d_method_5_5 : decode method_5_code 5 = .ok (.iload_n 1, 1) := by decide +kernel
theorem d_method_5_6 : decode method_5_code 6 = .ok (.bipush 97, 2) := by decide +kernel
theorem d_method_5_8 : decode method_5_code 8 = .ok (.if_icmp .lt 13, 3) := by decide +kernel
theorem d_method_5_11 : decode method_5_code 11 = .ok (.iload_n 1, 1) := by decide +kernel
theorem d_method_5_12 : decode method_5_code 12 = .ok (.bipush 122, 2) := by decide +kernel
theorem d_method_5_14 : decode method_5_code 14 = .ok (.if_icmp .gt 7, 3) := by decide +kernel
theorem d_method_5_17 : decode method_5_code 17 = .ok (.iconst 1, 1) := by decide +kernel
theorem d_method_5_18 : decode method_5_code 18 = .ok (.goto 4, 3) := by decide +kernel
theorem d_method_5_21 : decode method_5_code 21 = .ok (.iconst 0, 1) := by decide +kernel
theorem d_method_5_22 : decode method_5_code 22 = .ok (.istore_n 2, 1) := by decide +kernel
theorem d_method_5_23 : decode method_5_code 23 = .ok (.iload_n 0, 1) := by decide +kernel
theorem d_method_5_24 : decode method_5_code 24 = .ok (.bipush 48, 2) := by decide +kernel
theorem d_method_5_26 : decode method_5_code 26 = .ok (.isub, 1) := by decide +kernel
theorem d_method_5_27 : decode method_5_code 27 = .ok (.istore_n 3, 1) := by decide +kernel
theorem d_method_5_28 : decode method_5_code 28 = .ok (.iload_n 3, 1) := by decide +kernel
theorem d_method_5_29 : decode method_5_code 29 = .ok (.ifCond .lt 13, 3) := by decide +kernel
theorem d_method_5_32 : decode method_5_code 32 = .ok (.iload_n 3, 1) := by decide +kernel
theorem d_method_5_33 : decode method_5_code 33 = .ok (.bipush 10, 2) := by decide +kernel
theorem d_method_5_35 : decode method_5_code 35 = .ok (.if_icmp .ge 7, 3) := by decide +kernel
theorem d_method_5_38 : decode method_5_code 38 = .ok (.iconst 1, 1) := by decide +kernel
theorem d_method_5_39 : decode method_5_code 39 = .ok (.goto 4, 3) := by decide +kernel
theorem d_method_5_42 : decode method_5_code 42 = .ok (.iconst 0, 1) := by decide +kernel
theorem d_method_5_43 : decode method_5_code 43 = .ok (.istore 4, 2) := by decide +kernel
theorem d_method_5_45 : decode method_5_code 45 = .ok (.iload_n 0, 1) := by decide +kernel
theorem d_method_5_46 : decode method_5_code 46 = .ok (.bipush 95, 2) := by decide +kernel
theorem d_method_5_48 : decode method_5_code 48 = .ok (.if_icmp .eq 15, 3) := by decide +kernel
theorem d_method_5_51 : decode method_5_code 51 = .ok (.iload_n 0, 1) := by decide +kernel
theorem d_method_5_52 : decode method_5_code 52 = .ok (.bipush 46, 2) := by decide +kernel
theorem d_method_5_54 : decode method_5_code 54 = .ok (.if_icmp .eq 9, 3) := by decide +kernel
theorem d_method_5_57 : decode method_5_code 57 = .ok (.iload_n 0, 1) := by decide +kernel
theorem d_method_5_58 : decode method_5_code 58 = .ok (.bipush 45, 2) := by decide +kernel
theorem d_method_5_60 : decode method_5_code 60 = .ok (.if_icmp .ne 7, 3) := by decide +kernel
theorem d_method_5_63 : decode method_5_code 63 = .ok (.iconst 1, 1) := by decide +kernel
theorem d_method_5_64 : decode method_5_code 64 = .ok (.goto 4, 3) := by decide +kernel
theorem d_method_5_67 : decode method_5_code 67 = .ok (.iconst 0, 1) := by decide +kernel
theorem d_method_5_68 : decode method_5_code 68 = .ok (.istore 5, 2) := by decide +kernel
theorem d_method_5_70 : decode method_5_code 70 = .ok (.iload_n 2, 1) := by decide +kernel
theorem d_method_5_71 : decode method_5_code 71 = .ok (.ifCond .ne 13, 3) := by decide +kernel
theorem d_method_5_74 : decode method_5_code 74 = .ok (.iload 4, 2) := by decide +kernel
theorem d_method_5_76 : decode method_5_code 76 = .ok (.ifCond .ne 8, 3) := by decide +kernel
theorem d_method_5_79 : decode method_5_code 79 = .ok (.iload 5, 2) := by decide +kernel
theorem d_method_5_81 : decode method_5_code 81 = .ok (.ifCond .eq 7, 3) := by decide +kernel
theorem d_method_5_84 : decode method_5_code 84 = .ok (.iconst 1, 1) := by decide +kernel
theorem d_method_5_85 : decode method_5_code 85 = .ok (.goto 4, 3) := by decide +kernel
theorem d_method_5_88 : decode method_5_code 88 = .ok (.iconst 0, 1) := by decide +kernel
theorem d_method_5_89 : decode method_5_code 89 = .ok (.ireturn, 1) := by decide +kernel
set_option maxRecDepth 65536 in
set_option maxHeartbeats 40000000 in
theorem c_idc (l : Launch) (Z : State) (a0 : Array Value) (hw : ∀ d ∈ tables_1, d.before a0 Z = true) (n0 : Nat) (h0 : Heap) (c : Int32) (hc0 : 0 ≤ c.toInt) :
    OwnKit.Con false l Z n0 (⟨"com/example/bale/bale/check/IdsIsWellFormedPinLaw", "idChar", "(C)Z"⟩ : MethodName) method_5_code 6 (some .boolean) ({ frames := 0, cells := 0, slots := 0, locals := 0 } : Room) #[.int c] h0 (QBit (own_idP c) h0) := by
  refine OwnKit.Con.of (by first | (refine plainFor_of_name ?_; simp [plainName, overriddenIn]; done) | decide +kernel) ?_ ?_
  · intro κ hwd hJ K0
    have K : OwnKit.Ok κ l Z n0 "com/example/bale/bale/check/IdsIsWellFormedPinLaw" "idChar" method_5_code 6 (some .boolean) ({ frames := 0, cells := 0, slots := 0, locals := 0 } : Room) (QBit (own_idP c) h0) := K0
    have ef : (entryFrame κ.m #[.int c] 6).locals = #[.val (.int c), .unset, .unset, .unset, .unset, .unset] := by first | (simp [entryFrame, argsToLocals, Value.category]; done) | rfl
    rw [ef]; clear ef K0
    have e95 : (95 : Int32).toInt = 95 := rfl
    have e46 : (46 : Int32).toInt = 46 := rfl
    have e45 : (45 : Int32).toInt = 45 := rfl
    have e97 : (97 : Int32).toInt = 97 := rfl
    have e122 : (122 : Int32).toInt = 122 := rfl
    have e48 : (48 : Int32).toInt = 48 := rfl
    have e57 : (57 : Int32).toInt = 57 := rfl
    have e65 : (65 : Int32).toInt = 65 := rfl
    have e90 : (90 : Int32).toInt = 90 := rfl
    have e10 : (10 : Int32).toInt = 10 := rfl
    have e0 : (0 : Int32).toInt = 0 := rfl
    have hlow := own_low hc0
    have h48 := own_sub48 hc0
    have J70 : ∀ (x d r2 r4 r5 : Int32), own_bit ((65 ≤ c.toInt ∧ c.toInt ≤ 90) ∨ (97 ≤ c.toInt ∧ c.toInt ≤ 122)) r2 → own_bit (48 ≤ c.toInt ∧ c.toInt ≤ 57) r4 → own_bit (c.toInt = 95 ∨ c.toInt = 46 ∨ c.toInt = 45) r5 → OwnKit.Go κ h0 0 0 70 #[.val (.int c), .val (.int x), .val (.int r2), .val (.int d), .val (.int r4), .val (.int r5)] [] := by
      intro x d r2 r4 r5 h2 h4 h5
      have q2 := own_bit1 h2
      have q4 := own_bit1 h4
      have q5 := own_bit1 h5
      show OwnKit.Go κ h0 0 0 70 #[.val (.int c), .val (.int x), .val (.int r2), .val (.int d), .val (.int r4), .val (.int r5)] []
      refine OwnKit.iloadN K d_method_5_70 rfl ?_
      show OwnKit.Go κ h0 0 0 71 #[.val (.int c), .val (.int x), .val (.int r2), .val (.int d), .val (.int r4), .val (.int r5)] [.int r2]
      refine OwnKit.ifne K d_method_5_71 (by decide) (pc' := 84) rfl  (fun b1 => ?_) (fun b1 => ?_)
      · show OwnKit.Go κ h0 0 0 84 #[.val (.int c), .val (.int x), .val (.int r2), .val (.int d), .val (.int r4), .val (.int r5)] []
        refine OwnKit.iconst K d_method_5_84 ?_
        show OwnKit.Go κ h0 0 0 85 #[.val (.int c), .val (.int x), .val (.int r2), .val (.int d), .val (.int r4), .val (.int r5)] [.int (1 : Int32)]
        refine OwnKit.goto K d_method_5_85 (by decide) (pc' := 89) rfl ?_
        show OwnKit.Go κ h0 0 0 89 #[.val (.int c), .val (.int x), .val (.int r2), .val (.int d), .val (.int r4), .val (.int r5)] [.int (1 : Int32)]
        refine OwnKit.ireturn K d_method_5_89 (Or.inr (Or.inl rfl)) rfl ?_ (Nat.le_of_ble_eq_true rfl) (Nat.le_of_ble_eq_true rfl)
        · refine ⟨_, rfl, Or.inl ⟨?_, rfl⟩, rfl⟩
          simp only [q2, q4, q5] at *
          unfold own_idP
          omega
      · show OwnKit.Go κ h0 0 0 74 #[.val (.int c), .val (.int x), .val (.int r2), .val (.int d), .val (.int r4), .val (.int r5)] []
        refine OwnKit.iload K d_method_5_74 rfl ?_
        show OwnKit.Go κ h0 0 0 76 #[.val (.int c), .val (.int x), .val (.int r2), .val (.int d), .val (.int r4), .val (.int r5)] [.int r4]
        refine OwnKit.ifne K d_method_5_76 (by decide) (pc' := 84) rfl  (fun b2 => ?_) (fun b2 => ?_)
        · show OwnKit.Go κ h0 0 0 84 #[.val (.int c), .val (.int x), .val (.int r2), .val (.int d), .val (.int r4), .val (.int r5)] []
          refine OwnKit.iconst K d_method_5_84 ?_
          show OwnKit.Go κ h0 0 0 85 #[.val (.int c), .val (.int x), .val (.int r2), .val (.int d), .val (.int r4), .val (.int r5)] [.int (1 : Int32)]
          refine OwnKit.goto K d_method_5_85 (by decide) (pc' := 89) rfl ?_
          show OwnKit.Go κ h0 0 0 89 #[.val (.int c), .val (.int x), .val (.int r2), .val (.int d), .val (.int r4), .val (.int r5)] [.int (1 : Int32)]
          refine OwnKit.ireturn K d_method_5_89 (Or.inr (Or.inl rfl)) rfl ?_ (Nat.le_of_ble_eq_true rfl) (Nat.le_of_ble_eq_true rfl)
          · refine ⟨_, rfl, Or.inl ⟨?_, rfl⟩, rfl⟩
            simp only [q2, q4, q5] at *
            unfold own_idP
            omega
        · show OwnKit.Go κ h0 0 0 79 #[.val (.int c), .val (.int x), .val (.int r2), .val (.int d), .val (.int r4), .val (.int r5)] []
          refine OwnKit.iload K d_method_5_79 rfl ?_
          show OwnKit.Go κ h0 0 0 81 #[.val (.int c), .val (.int x), .val (.int r2), .val (.int d), .val (.int r4), .val (.int r5)] [.int r5]
          refine OwnKit.ifeq K d_method_5_81 (by decide) (pc' := 88) rfl  (fun b3 => ?_) (fun b3 => ?_)
          · show OwnKit.Go κ h0 0 0 88 #[.val (.int c), .val (.int x), .val (.int r2), .val (.int d), .val (.int r4), .val (.int r5)] []
            refine OwnKit.iconst K d_method_5_88 ?_
            show OwnKit.Go κ h0 0 0 89 #[.val (.int c), .val (.int x), .val (.int r2), .val (.int d), .val (.int r4), .val (.int r5)] [.int (0 : Int32)]
            refine OwnKit.ireturn K d_method_5_89 (Or.inr (Or.inl rfl)) rfl ?_ (Nat.le_of_ble_eq_true rfl) (Nat.le_of_ble_eq_true rfl)
            · refine ⟨_, rfl, Or.inr ⟨?_, rfl⟩, rfl⟩
              simp only [q2, q4, q5] at *
              unfold own_idP
              omega
          · show OwnKit.Go κ h0 0 0 84 #[.val (.int c), .val (.int x), .val (.int r2), .val (.int d), .val (.int r4), .val (.int r5)] []
            refine OwnKit.iconst K d_method_5_84 ?_
            show OwnKit.Go κ h0 0 0 85 #[.val (.int c), .val (.int x), .val (.int r2), .val (.int d), .val (.int r4), .val (.int r5)] [.int (1 : Int32)]
            refine OwnKit.goto K d_method_5_85 (by decide) (pc' := 89) rfl ?_
            show OwnKit.Go κ h0 0 0 89 #[.val (.int c), .val (.int x), .val (.int r2), .val (.int d), .val (.int r4), .val (.int r5)] [.int (1 : Int32)]
            refine OwnKit.ireturn K d_method_5_89 (Or.inr (Or.inl rfl)) rfl ?_ (Nat.le_of_ble_eq_true rfl) (Nat.le_of_ble_eq_true rfl)
            · refine ⟨_, rfl, Or.inl ⟨?_, rfl⟩, rfl⟩
              simp only [q2, q4, q5] at *
              unfold own_idP
              omega
    have J45 : ∀ (x d r2 r4 : Int32), own_bit ((65 ≤ c.toInt ∧ c.toInt ≤ 90) ∨ (97 ≤ c.toInt ∧ c.toInt ≤ 122)) r2 → own_bit (48 ≤ c.toInt ∧ c.toInt ≤ 57) r4 → OwnKit.Go κ h0 0 0 45 #[.val (.int c), .val (.int x), .val (.int r2), .val (.int d), .val (.int r4), .unset] [] := by
      intro x d r2 r4 h2 h4
      show OwnKit.Go κ h0 0 0 45 #[.val (.int c), .val (.int x), .val (.int r2), .val (.int d), .val (.int r4), .unset] []
      refine OwnKit.iloadN K d_method_5_45 rfl ?_
      show OwnKit.Go κ h0 0 0 46 #[.val (.int c), .val (.int x), .val (.int r2), .val (.int d), .val (.int r4), .unset] [.int c]
      refine OwnKit.bipush K d_method_5_46 ?_
      show OwnKit.Go κ h0 0 0 48 #[.val (.int c), .val (.int x), .val (.int r2), .val (.int d), .val (.int r4), .unset] [.int (95 : Int32), .int c]
      refine OwnKit.icmpeq K d_method_5_48 (by decide) (pc' := 63) rfl  (fun b4 => ?_) (fun b4 => ?_)
      · show OwnKit.Go κ h0 0 0 63 #[.val (.int c), .val (.int x), .val (.int r2), .val (.int d), .val (.int r4), .unset] []
        refine OwnKit.iconst K d_method_5_63 ?_
        show OwnKit.Go κ h0 0 0 64 #[.val (.int c), .val (.int x), .val (.int r2), .val (.int d), .val (.int r4), .unset] [.int (1 : Int32)]
        refine OwnKit.goto K d_method_5_64 (by decide) (pc' := 68) rfl ?_
        show OwnKit.Go κ h0 0 0 68 #[.val (.int c), .val (.int x), .val (.int r2), .val (.int d), .val (.int r4), .unset] [.int (1 : Int32)]
        refine OwnKit.istore K d_method_5_68 (l' := #[.val (.int c), .val (.int x), .val (.int r2), .val (.int d), .val (.int r4), .val (.int (1 : Int32))]) rfl ?_
        show OwnKit.Go κ h0 0 0 70 #[.val (.int c), .val (.int x), .val (.int r2), .val (.int d), .val (.int r4), .val (.int (1 : Int32))] []
        exact J70 _ _ _ _ _ h2 h4 (Or.inl ⟨by (try simp only [← Int32.toInt_inj] at *); omega, rfl⟩)
      · show OwnKit.Go κ h0 0 0 51 #[.val (.int c), .val (.int x), .val (.int r2), .val (.int d), .val (.int r4), .unset] []
        refine OwnKit.iloadN K d_method_5_51 rfl ?_
        show OwnKit.Go κ h0 0 0 52 #[.val (.int c), .val (.int x), .val (.int r2), .val (.int d), .val (.int r4), .unset] [.int c]
        refine OwnKit.bipush K d_method_5_52 ?_
        show OwnKit.Go κ h0 0 0 54 #[.val (.int c), .val (.int x), .val (.int r2), .val (.int d), .val (.int r4), .unset] [.int (46 : Int32), .int c]
        refine OwnKit.icmpeq K d_method_5_54 (by decide) (pc' := 63) rfl  (fun b5 => ?_) (fun b5 => ?_)
        · show OwnKit.Go κ h0 0 0 63 #[.val (.int c), .val (.int x), .val (.int r2), .val (.int d), .val (.int r4), .unset] []
          refine OwnKit.iconst K d_method_5_63 ?_
          show OwnKit.Go κ h0 0 0 64 #[.val (.int c), .val (.int x), .val (.int r2), .val (.int d), .val (.int r4), .unset] [.int (1 : Int32)]
          refine OwnKit.goto K d_method_5_64 (by decide) (pc' := 68) rfl ?_
          show OwnKit.Go κ h0 0 0 68 #[.val (.int c), .val (.int x), .val (.int r2), .val (.int d), .val (.int r4), .unset] [.int (1 : Int32)]
          refine OwnKit.istore K d_method_5_68 (l' := #[.val (.int c), .val (.int x), .val (.int r2), .val (.int d), .val (.int r4), .val (.int (1 : Int32))]) rfl ?_
          show OwnKit.Go κ h0 0 0 70 #[.val (.int c), .val (.int x), .val (.int r2), .val (.int d), .val (.int r4), .val (.int (1 : Int32))] []
          exact J70 _ _ _ _ _ h2 h4 (Or.inl ⟨by (try simp only [← Int32.toInt_inj] at *); omega, rfl⟩)
        · show OwnKit.Go κ h0 0 0 57 #[.val (.int c), .val (.int x), .val (.int r2), .val (.int d), .val (.int r4), .unset] []
          refine OwnKit.iloadN K d_method_5_57 rfl ?_
          show OwnKit.Go κ h0 0 0 58 #[.val (.int c), .val (.int x), .val (.int r2), .val (.int d), .val (.int r4), .unset] [.int c]
          refine OwnKit.bipush K d_method_5_58 ?_
          show OwnKit.Go κ h0 0 0 60 #[.val (.int c), .val (.int x), .val (.int r2), .val (.int d), .val (.int r4), .unset] [.int (45 : Int32), .int c]
          refine OwnKit.icmpne K d_method_5_60 (by decide) (pc' := 67) rfl  (fun b6 => ?_) (fun b6 => ?_)
          · show OwnKit.Go κ h0 0 0 67 #[.val (.int c), .val (.int x), .val (.int r2), .val (.int d), .val (.int r4), .unset] []
            refine OwnKit.iconst K d_method_5_67 ?_
            show OwnKit.Go κ h0 0 0 68 #[.val (.int c), .val (.int x), .val (.int r2), .val (.int d), .val (.int r4), .unset] [.int (0 : Int32)]
            refine OwnKit.istore K d_method_5_68 (l' := #[.val (.int c), .val (.int x), .val (.int r2), .val (.int d), .val (.int r4), .val (.int (0 : Int32))]) rfl ?_
            show OwnKit.Go κ h0 0 0 70 #[.val (.int c), .val (.int x), .val (.int r2), .val (.int d), .val (.int r4), .val (.int (0 : Int32))] []
            exact J70 _ _ _ _ _ h2 h4 (Or.inr ⟨by (try simp only [← Int32.toInt_inj] at *); omega, rfl⟩)
          · show OwnKit.Go κ h0 0 0 63 #[.val (.int c), .val (.int x), .val (.int r2), .val (.int d), .val (.int r4), .unset] []
            refine OwnKit.iconst K d_method_5_63 ?_
            show OwnKit.Go κ h0 0 0 64 #[.val (.int c), .val (.int x), .val (.int r2), .val (.int d), .val (.int r4), .unset] [.int (1 : Int32)]
            refine OwnKit.goto K d_method_5_64 (by decide) (pc' := 68) rfl ?_
            show OwnKit.Go κ h0 0 0 68 #[.val (.int c), .val (.int x), .val (.int r2), .val (.int d), .val (.int r4), .unset] [.int (1 : Int32)]
            refine OwnKit.istore K d_method_5_68 (l' := #[.val (.int c), .val (.int x), .val (.int r2), .val (.int d), .val (.int r4), .val (.int (1 : Int32))]) rfl ?_
            show OwnKit.Go κ h0 0 0 70 #[.val (.int c), .val (.int x), .val (.int r2), .val (.int d), .val (.int r4), .val (.int (1 : Int32))] []
            exact J70 _ _ _ _ _ h2 h4 (Or.inl ⟨by (try simp only [← Int32.toInt_inj] at *); omega, rfl⟩)
    have J23 : ∀ (x r2 : Int32), own_bit ((65 ≤ c.toInt ∧ c.toInt ≤ 90) ∨ (97 ≤ c.toInt ∧ c.toInt ≤ 122)) r2 → OwnKit.Go κ h0 0 0 23 #[.val (.int c), .val (.int x), .val (.int r2), .unset, .unset, .unset] [] := by
      intro x r2 h2
      show OwnKit.Go κ h0 0 0 23 #[.val (.int c), .val (.int x), .val (.int r2), .unset, .unset, .unset] []
      refine OwnKit.iloadN K d_method_5_23 rfl ?_
      show OwnKit.Go κ h0 0 0 24 #[.val (.int c), .val (.int x), .val (.int r2), .unset, .unset, .unset] [.int c]
      refine OwnKit.bipush K d_method_5_24 ?_
      show OwnKit.Go κ h0 0 0 26 #[.val (.int c), .val (.int x), .val (.int r2), .unset, .unset, .unset] [.int (48 : Int32), .int c]
      refine OwnKit.isub K d_method_5_26 ?_
      show OwnKit.Go κ h0 0 0 27 #[.val (.int c), .val (.int x), .val (.int r2), .unset, .unset, .unset] [.int (c - (48 : Int32))]
      refine OwnKit.istoreN K d_method_5_27 (l' := #[.val (.int c), .val (.int x), .val (.int r2), .val (.int (c - (48 : Int32))), .unset, .unset]) rfl ?_
      show OwnKit.Go κ h0 0 0 28 #[.val (.int c), .val (.int x), .val (.int r2), .val (.int (c - (48 : Int32))), .unset, .unset] []
      refine OwnKit.iloadN K d_method_5_28 rfl ?_
      show OwnKit.Go κ h0 0 0 29 #[.val (.int c), .val (.int x), .val (.int r2), .val (.int (c - (48 : Int32))), .unset, .unset] [.int (c - (48 : Int32))]
      refine OwnKit.iflt K d_method_5_29 (by decide) (pc' := 42) rfl  (fun b7 => ?_) (fun b7 => ?_)
      · show OwnKit.Go κ h0 0 0 42 #[.val (.int c), .val (.int x), .val (.int r2), .val (.int (c - (48 : Int32))), .unset, .unset] []
        refine OwnKit.iconst K d_method_5_42 ?_
        show OwnKit.Go κ h0 0 0 43 #[.val (.int c), .val (.int x), .val (.int r2), .val (.int (c - (48 : Int32))), .unset, .unset] [.int (0 : Int32)]
        refine OwnKit.istore K d_method_5_43 (l' := #[.val (.int c), .val (.int x), .val (.int r2), .val (.int (c - (48 : Int32))), .val (.int (0 : Int32)), .unset]) rfl ?_
        show OwnKit.Go κ h0 0 0 45 #[.val (.int c), .val (.int x), .val (.int r2), .val (.int (c - (48 : Int32))), .val (.int (0 : Int32)), .unset] []
        exact J45 _ _ _ _ h2 (Or.inr ⟨by omega, rfl⟩)
      · show OwnKit.Go κ h0 0 0 32 #[.val (.int c), .val (.int x), .val (.int r2), .val (.int (c - (48 : Int32))), .unset, .unset] []
        refine OwnKit.iloadN K d_method_5_32 rfl ?_
        show OwnKit.Go κ h0 0 0 33 #[.val (.int c), .val (.int x), .val (.int r2), .val (.int (c - (48 : Int32))), .unset, .unset] [.int (c - (48 : Int32))]
        refine OwnKit.bipush K d_method_5_33 ?_
        show OwnKit.Go κ h0 0 0 35 #[.val (.int c), .val (.int x), .val (.int r2), .val (.int (c - (48 : Int32))), .unset, .unset] [.int (10 : Int32), .int (c - (48 : Int32))]
        refine OwnKit.icmpge K d_method_5_35 (by decide) (pc' := 42) rfl  (fun b8 => ?_) (fun b8 => ?_)
        · show OwnKit.Go κ h0 0 0 42 #[.val (.int c), .val (.int x), .val (.int r2), .val (.int (c - (48 : Int32))), .unset, .unset] []
          refine OwnKit.iconst K d_method_5_42 ?_
          show OwnKit.Go κ h0 0 0 43 #[.val (.int c), .val (.int x), .val (.int r2), .val (.int (c - (48 : Int32))), .unset, .unset] [.int (0 : Int32)]
          refine OwnKit.istore K d_method_5_43 (l' := #[.val (.int c), .val (.int x), .val (.int r2), .val (.int (c - (48 : Int32))), .val (.int (0 : Int32)), .unset]) rfl ?_
          show OwnKit.Go κ h0 0 0 45 #[.val (.int c), .val (.int x), .val (.int r2), .val (.int (c - (48 : Int32))), .val (.int (0 : Int32)), .unset] []
          exact J45 _ _ _ _ h2 (Or.inr ⟨by omega, rfl⟩)
        · show OwnKit.Go κ h0 0 0 38 #[.val (.int c), .val (.int x), .val (.int r2), .val (.int (c - (48 : Int32))), .unset, .unset] []
          refine OwnKit.iconst K d_method_5_38 ?_
          show OwnKit.Go κ h0 0 0 39 #[.val (.int c), .val (.int x), .val (.int r2), .val (.int (c - (48 : Int32))), .unset, .unset] [.int (1 : Int32)]
          refine OwnKit.goto K d_method_5_39 (by decide) (pc' := 43) rfl ?_
          show OwnKit.Go κ h0 0 0 43 #[.val (.int c), .val (.int x), .val (.int r2), .val (.int (c - (48 : Int32))), .unset, .unset] [.int (1 : Int32)]
          refine OwnKit.istore K d_method_5_43 (l' := #[.val (.int c), .val (.int x), .val (.int r2), .val (.int (c - (48 : Int32))), .val (.int (1 : Int32)), .unset]) rfl ?_
          show OwnKit.Go κ h0 0 0 45 #[.val (.int c), .val (.int x), .val (.int r2), .val (.int (c - (48 : Int32))), .val (.int (1 : Int32)), .unset] []
          exact J45 _ _ _ _ h2 (Or.inl ⟨by omega, rfl⟩)
    show OwnKit.Go κ h0 0 0 0 #[.val (.int c), .unset, .unset, .unset, .unset, .unset] []
    refine OwnKit.iloadN K d_method_5_0 rfl ?_
    show OwnKit.Go κ h0 0 0 1 #[.val (.int c), .unset, .unset, .unset, .unset, .unset] [.int c]
    refine OwnKit.bipush K d_method_5_1 ?_
    show OwnKit.Go κ h0 0 0 3 #[.val (.int c), .unset, .unset, .unset, .unset, .unset] [.int (32 : Int32), .int c]
    refine OwnKit.ior K d_method_5_3 ?_
    show OwnKit.Go κ h0 0 0 4 #[.val (.int c), .unset, .unset, .unset, .unset, .unset] [.int (c ||| (32 : Int32))]
    refine OwnKit.istoreN K d_method_5_4 (l' := #[.val (.int c), .val (.int (c ||| (32 : Int32))), .unset, .unset, .unset, .unset]) rfl ?_
    show OwnKit.Go κ h0 0 0 5 #[.val (.int c), .val (.int (c ||| (32 : Int32))), .unset, .unset, .unset, .unset] []
    refine OwnKit.iloadN K d_method_5_5 rfl ?_
    show OwnKit.Go κ h0 0 0 6 #[.val (.int c), .val (.int (c ||| (32 : Int32))), .unset, .unset, .unset, .unset] [.int (c ||| (32 : Int32))]
    refine OwnKit.bipush K d_method_5_6 ?_
    show OwnKit.Go κ h0 0 0 8 #[.val (.int c), .val (.int (c ||| (32 : Int32))), .unset, .unset, .unset, .unset] [.int (97 : Int32), .int (c ||| (32 : Int32))]
    refine OwnKit.icmplt K d_method_5_8 (by decide) (pc' := 21) rfl  (fun b9 => ?_) (fun b9 => ?_)
    · show OwnKit.Go κ h0 0 0 21 #[.val (.int c), .val (.int (c ||| (32 : Int32))), .unset, .unset, .unset, .unset] []
      refine OwnKit.iconst K d_method_5_21 ?_
      show OwnKit.Go κ h0 0 0 22 #[.val (.int c), .val (.int (c ||| (32 : Int32))), .unset, .unset, .unset, .unset] [.int (0 : Int32)]
      refine OwnKit.istoreN K d_method_5_22 (l' := #[.val (.int c), .val (.int (c ||| (32 : Int32))), .val (.int (0 : Int32)), .unset, .unset, .unset]) rfl ?_
      show OwnKit.Go κ h0 0 0 23 #[.val (.int c), .val (.int (c ||| (32 : Int32))), .val (.int (0 : Int32)), .unset, .unset, .unset] []
      exact J23 _ _ (Or.inr ⟨by omega, rfl⟩)
    · show OwnKit.Go κ h0 0 0 11 #[.val (.int c), .val (.int (c ||| (32 : Int32))), .unset, .unset, .unset, .unset] []
      refine OwnKit.iloadN K d_method_5_11 rfl ?_
      show OwnKit.Go κ h0 0 0 12 #[.val (.int c), .val (.int (c ||| (32 : Int32))), .unset, .unset, .unset, .unset] [.int (c ||| (32 : Int32))]
      refine OwnKit.bipush K d_method_5_12 ?_
      show OwnKit.Go κ h0 0 0 14 #[.val (.int c), .val (.int (c ||| (32 : Int32))), .unset, .unset, .unset, .unset] [.int (122 : Int32), .int (c ||| (32 : Int32))]
      refine OwnKit.icmpgt K d_method_5_14 (by decide) (pc' := 21) rfl  (fun b10 => ?_) (fun b10 => ?_)
      · show OwnKit.Go κ h0 0 0 21 #[.val (.int c), .val (.int (c ||| (32 : Int32))), .unset, .unset, .unset, .unset] []
        refine OwnKit.iconst K d_method_5_21 ?_
        show OwnKit.Go κ h0 0 0 22 #[.val (.int c), .val (.int (c ||| (32 : Int32))), .unset, .unset, .unset, .unset] [.int (0 : Int32)]
        refine OwnKit.istoreN K d_method_5_22 (l' := #[.val (.int c), .val (.int (c ||| (32 : Int32))), .val (.int (0 : Int32)), .unset, .unset, .unset]) rfl ?_
        show OwnKit.Go κ h0 0 0 23 #[.val (.int c), .val (.int (c ||| (32 : Int32))), .val (.int (0 : Int32)), .unset, .unset, .unset] []
        exact J23 _ _ (Or.inr ⟨by omega, rfl⟩)
      · show OwnKit.Go κ h0 0 0 17 #[.val (.int c), .val (.int (c ||| (32 : Int32))), .unset, .unset, .unset, .unset] []
        refine OwnKit.iconst K d_method_5_17 ?_
        show OwnKit.Go κ h0 0 0 18 #[.val (.int c), .val (.int (c ||| (32 : Int32))), .unset, .unset, .unset, .unset] [.int (1 : Int32)]
        refine OwnKit.goto K d_method_5_18 (by decide) (pc' := 22) rfl ?_
        show OwnKit.Go κ h0 0 0 22 #[.val (.int c), .val (.int (c ||| (32 : Int32))), .unset, .unset, .unset, .unset] [.int (1 : Int32)]
        refine OwnKit.istoreN K d_method_5_22 (l' := #[.val (.int c), .val (.int (c ||| (32 : Int32))), .val (.int (1 : Int32)), .unset, .unset, .unset]) rfl ?_
        show OwnKit.Go κ h0 0 0 23 #[.val (.int c), .val (.int (c ||| (32 : Int32))), .val (.int (1 : Int32)), .unset, .unset, .unset] []
        exact J23 _ _ (Or.inl ⟨by omega, rfl⟩)
  · intro m; first | rfl | (simp [entryFrame, mkF, argsToLocals, Value.category]; done)

theorem d_prog_1m2_0 : decode prog_1_method_2_code 0 = .ok (.iconst 0, 1) := by decide +kernel
theorem d_prog_1m2_1 : decode prog_1_method_2_code 1 = .ok (.istore_n 1, 1) := by decide +kernel
theorem d_prog_1m2_2 : decode prog_1_method_2_code 2 = .ok (.iload_n 1, 1) := by decide +kernel
theorem d_prog_1m2_3 : decode prog_1_method_2_code 3 = .ok (.aload_n 0, 1) := by decide +kernel
theorem d_prog_1m2_4 : decode prog_1_method_2_code 4 = .ok (.invokevirtual 7, 3) := by decide +kernel
theorem d_prog_1m2_7 : decode prog_1_method_2_code 7 = .ok (.if_icmp .ge 22, 3) := by decide +kernel
theorem d_prog_1m2_10 : decode prog_1_method_2_code 10 = .ok (.aload_n 0, 1) := by decide +kernel
theorem d_prog_1m2_11 : decode prog_1_method_2_code 11 = .ok (.iload_n 1, 1) := by decide +kernel
theorem d_prog_1m2_12 : decode prog_1_method_2_code 12 = .ok (.invokevirtual 13, 3) := by decide +kernel
theorem d_prog_1m2_15 : decode prog_1_method_2_code 15 = .ok (.invokestatic 17, 3) := by decide +kernel
theorem d_prog_1m2_18 : decode prog_1_method_2_code 18 = .ok (.ifCond .ne 5, 3) := by decide +kernel
theorem d_prog_1m2_21 : decode prog_1_method_2_code 21 = .ok (.iconst 0, 1) := by decide +kernel
theorem d_prog_1m2_22 : decode prog_1_method_2_code 22 = .ok (.ireturn, 1) := by decide +kernel
theorem d_prog_1m2_23 : decode prog_1_method_2_code 23 = .ok (.iinc 1 1, 3) := by decide +kernel
theorem d_prog_1m2_26 : decode prog_1_method_2_code 26 = .ok (.goto (-24), 3) := by decide +kernel
theorem d_prog_1m2_29 : decode prog_1_method_2_code 29 = .ok (.aload_n 0, 1) := by decide +kernel
theorem d_prog_1m2_30 : decode prog_1_method_2_code 30 = .ok (.invokevirtual 23, 3) := by decide +kernel
theorem d_prog_1m2_33 : decode prog_1_method_2_code 33 = .ok (.ifCond .ne 7, 3) := by decide +kernel
theorem d_prog_1m2_36 : decode prog_1_method_2_code 36 = .ok (.iconst 1, 1) := by decide +kernel
theorem d_prog_1m2_37 : decode prog_1_method_2_code 37 = .ok (.goto 4, 3) := by decide +kernel
theorem d_prog_1m2_40 : decode prog_1_method_2_code 40 = .ok (.iconst 0, 1) := by decide +kernel
theorem d_prog_1m2_41 : decode prog_1_method_2_code 41 = .ok (.ireturn, 1) := by decide +kernel
set_option maxRecDepth 65536 in
set_option maxHeartbeats 40000000 in
theorem c_wf (l : Launch) (Z : State) (a0 : Array Value) (hw : ∀ d ∈ tables_1, d.before a0 Z = true) (n0 : Nat) (h0 : Heap) (a : Addr) (cs : List Int32) (i_COMPACT_STRINGS : Int32) (v_SIOOBE_FORMATTER : Value) (hcap : cs.length ≤ 4) (hch : own_chs cs) (hS : Str Z h0 a cs) (S_COMPACT_STRINGS : Sta Z Z.heap "java/lang/String" "COMPACT_STRINGS" "Z" (.int i_COMPACT_STRINGS)) (nz_COMPACT_STRINGS : ¬ i_COMPACT_STRINGS = (0 : Int32)) (S_SIOOBE_FORMATTER : Sta Z Z.heap "jdk/internal/util/Preconditions" "SIOOBE_FORMATTER" "Ljava/util/function/BiFunction;" (v_SIOOBE_FORMATTER)) (hr_v_SIOOBE_FORMATTER : v_SIOOBE_FORMATTER.isRef = true) (S__assertionsDisabled : Sta Z Z.heap "java/lang/StringUTF16" "$assertionsDisabled" "Z" (.int (1 : Int32))) (S_HI_BYTE_SHIFT : Sta Z Z.heap "java/lang/StringUTF16" "HI_BYTE_SHIFT" "I" (.int (0 : Int32))) (S_LO_BYTE_SHIFT : Sta Z Z.heap "java/lang/StringUTF16" "LO_BYTE_SHIFT" "I" (.int (8 : Int32))) :
    OwnKit.Con false l Z n0 (⟨"com/example/bale/bale/check/Ids", "isWellFormed", "(Ljava/lang/String;)Z"⟩ : MethodName) prog_1_method_2_code 2 (some .boolean) ({ frames := 5, cells := 0, slots := 0, locals := 66 } : Room) #[.ref a] h0 (QBit (cs ≠ [] ∧ ∀ c ∈ cs, own_idP c) h0) := by
  refine OwnKit.Con.of (by first | (refine plainFor_of_name ?_; simp [plainName, overriddenIn]; done) | decide +kernel) ?_ ?_
  · intro κ hwd hJ K0
    have K : OwnKit.Ok κ l Z n0 "com/example/bale/bale/check/Ids" "isWellFormed" prog_1_method_2_code 2 (some .boolean) ({ frames := 5, cells := 0, slots := 0, locals := 66 } : Room) (QBit (cs ≠ [] ∧ ∀ c ∈ cs, own_idP c) h0) := K0
    have ef : (entryFrame κ.m #[.ref a] 2).locals = #[.val (.ref a), .unset] := by first | (simp [entryFrame, argsToLocals, Value.category]; done) | rfl
    rw [ef]; clear ef K0
    have hL : (Int32.ofNat cs.length).toInt = cs.length := len_toInt (by omega)
    have E_a := hS.exa
    have e0 : (0 : Int32).toInt = 0 := rfl
    have loop : ∀ (k j : Nat) (i : Int32), i.toInt = (j : Int) → j + k = cs.length → own_all cs j → OwnKit.Go κ h0 0 0 2 #[.val (.ref a), .val (.int i)] [] := by
      intro k
      induction k with
      | zero =>
        intro j i hi hjk hall
        have hA := own_allN hall (by omega)
        show OwnKit.Go κ h0 0 0 2 #[.val (.ref a), .val (.int i)] []
        refine OwnKit.iloadN K d_prog_1m2_2 rfl ?_
        show OwnKit.Go κ h0 0 0 3 #[.val (.ref a), .val (.int i)] [.int i]
        refine OwnKit.aloadN K d_prog_1m2_3 rfl rfl ?_
        show OwnKit.Go κ h0 0 0 4 #[.val (.ref a), .val (.int i)] [.ref a, .int i]
        refine OwnKit.invV (y := (⟨"java/lang/String", "length", "()I"⟩ : MethodName)) (z := (⟨"java/lang/String", "length", "()I"⟩ : MethodName)) (argsL := []) (rest := [.int i]) K (c_len l Z a0 hw n0 h0 a cs i_COMPACT_STRINGS v_SIOOBE_FORMATTER hcap hS S_COMPACT_STRINGS nz_COMPACT_STRINGS S_SIOOBE_FORMATTER hr_v_SIOOBE_FORMATTER S__assertionsDisabled S_HI_BYTE_SHIFT S_LO_BYTE_SHIFT) d_prog_1m2_4 E_a (hw _ (List.mem_of_getElem? (i := 34) rfl)) (hw _ (List.mem_of_getElem? (i := 35) rfl)) (OwnKit.nfS (hw _ (List.mem_of_getElem? (i := 37) rfl))) (hw _ (List.mem_of_getElem? (i := 37) rfl)) (hw _ (List.mem_of_getElem? (i := 36) rfl)) (hw _ (List.mem_of_getElem? (i := 38) rfl)) (hw _ (List.mem_of_getElem? (i := 10) rfl)) (by decide) (lenOf (by decide +kernel : parseMethodDescriptor "()I" = some ⟨[], some .int⟩) rfl) rfl rfl (W := 1) (Nat.le_of_ble_eq_true rfl) (Nat.le_of_ble_eq_true rfl) (Nat.le_of_ble_eq_true rfl) (Nat.le_of_ble_eq_true rfl) (Nat.le_of_ble_eq_true rfl) ?_
        rintro _ h1 ⟨rfl, rfl⟩ g2
        show OwnKit.Go κ h0 0 0 7 #[.val (.ref a), .val (.int i)] [.int (Int32.ofNat cs.length), .int i]
        refine OwnKit.icmpge K d_prog_1m2_7 (by decide) (pc' := 29) rfl  (fun b3 => ?_) (fun b3 => ?_)
        · show OwnKit.Go κ h0 0 0 29 #[.val (.ref a), .val (.int i)] []
          refine OwnKit.aloadN K d_prog_1m2_29 rfl rfl ?_
          show OwnKit.Go κ h0 0 0 30 #[.val (.ref a), .val (.int i)] [.ref a]
          refine OwnKit.invV (y := (⟨"java/lang/String", "isEmpty", "()Z"⟩ : MethodName)) (z := (⟨"java/lang/String", "isEmpty", "()Z"⟩ : MethodName)) (argsL := []) (rest := []) K (c_emp l Z a0 hw n0 h0 a cs i_COMPACT_STRINGS v_SIOOBE_FORMATTER hS S_COMPACT_STRINGS nz_COMPACT_STRINGS S_SIOOBE_FORMATTER hr_v_SIOOBE_FORMATTER S__assertionsDisabled S_HI_BYTE_SHIFT S_LO_BYTE_SHIFT) d_prog_1m2_30 E_a (hw _ (List.mem_of_getElem? (i := 45) rfl)) (hw _ (List.mem_of_getElem? (i := 46) rfl)) (OwnKit.nfS (hw _ (List.mem_of_getElem? (i := 48) rfl))) (hw _ (List.mem_of_getElem? (i := 48) rfl)) (hw _ (List.mem_of_getElem? (i := 47) rfl)) (hw _ (List.mem_of_getElem? (i := 49) rfl)) (hw _ (List.mem_of_getElem? (i := 10) rfl)) (by decide) (lenOf (by decide +kernel : parseMethodDescriptor "()Z" = some ⟨[], some .boolean⟩) rfl) rfl rfl (W := 0) (Nat.le_of_ble_eq_true rfl) (Nat.le_of_ble_eq_true rfl) (Nat.le_of_ble_eq_true rfl) (Nat.le_of_ble_eq_true rfl) (Nat.le_of_ble_eq_true rfl) ?_
          rintro _ h6 ⟨r4, rfl, hr5, rfl⟩ g7
          show OwnKit.Go κ h0 0 0 33 #[.val (.ref a), .val (.int i)] [.int r4]
          refine OwnKit.ifne K d_prog_1m2_33 (by decide) (pc' := 40) rfl  (fun b8 => ?_) (fun b8 => ?_)
          · show OwnKit.Go κ h0 0 0 40 #[.val (.ref a), .val (.int i)] []
            refine OwnKit.iconst K d_prog_1m2_40 ?_
            show OwnKit.Go κ h0 0 0 41 #[.val (.ref a), .val (.int i)] [.int (0 : Int32)]
            refine OwnKit.ireturn K d_prog_1m2_41 (Or.inr (Or.inl rfl)) rfl ?_ (Nat.le_of_ble_eq_true rfl) (Nat.le_of_ble_eq_true rfl)
            exact ⟨_, rfl, Or.inr ⟨fun q => b8 ((own_bit1 hr5).mpr q.1), rfl⟩, rfl⟩
          · show OwnKit.Go κ h0 0 0 36 #[.val (.ref a), .val (.int i)] []
            refine OwnKit.iconst K d_prog_1m2_36 ?_
            show OwnKit.Go κ h0 0 0 37 #[.val (.ref a), .val (.int i)] [.int (1 : Int32)]
            refine OwnKit.goto K d_prog_1m2_37 (by decide) (pc' := 41) rfl ?_
            show OwnKit.Go κ h0 0 0 41 #[.val (.ref a), .val (.int i)] [.int (1 : Int32)]
            refine OwnKit.ireturn K d_prog_1m2_41 (Or.inr (Or.inl rfl)) rfl ?_ (Nat.le_of_ble_eq_true rfl) (Nat.le_of_ble_eq_true rfl)
            exact ⟨_, rfl, Or.inl ⟨⟨(own_bit1 hr5).mp b8, hA⟩, rfl⟩, rfl⟩
        · exfalso; omega
      | succ k ih =>
        intro j i hi hjk hall
        obtain ⟨c, hcj⟩ : ∃ c, cs[j]? = some c := ⟨_, List.getElem?_eq_getElem (by omega)⟩
        show OwnKit.Go κ h0 0 0 2 #[.val (.ref a), .val (.int i)] []
        refine OwnKit.iloadN K d_prog_1m2_2 rfl ?_
        show OwnKit.Go κ h0 0 0 3 #[.val (.ref a), .val (.int i)] [.int i]
        refine OwnKit.aloadN K d_prog_1m2_3 rfl rfl ?_
        show OwnKit.Go κ h0 0 0 4 #[.val (.ref a), .val (.int i)] [.ref a, .int i]
        refine OwnKit.invV (y := (⟨"java/lang/String", "length", "()I"⟩ : MethodName)) (z := (⟨"java/lang/String", "length", "()I"⟩ : MethodName)) (argsL := []) (rest := [.int i]) K (c_len l Z a0 hw n0 h0 a cs i_COMPACT_STRINGS v_SIOOBE_FORMATTER hcap hS S_COMPACT_STRINGS nz_COMPACT_STRINGS S_SIOOBE_FORMATTER hr_v_SIOOBE_FORMATTER S__assertionsDisabled S_HI_BYTE_SHIFT S_LO_BYTE_SHIFT) d_prog_1m2_4 E_a (hw _ (List.mem_of_getElem? (i := 34) rfl)) (hw _ (List.mem_of_getElem? (i := 35) rfl)) (OwnKit.nfS (hw _ (List.mem_of_getElem? (i := 37) rfl))) (hw _ (List.mem_of_getElem? (i := 37) rfl)) (hw _ (List.mem_of_getElem? (i := 36) rfl)) (hw _ (List.mem_of_getElem? (i := 38) rfl)) (hw _ (List.mem_of_getElem? (i := 10) rfl)) (by decide) (lenOf (by decide +kernel : parseMethodDescriptor "()I" = some ⟨[], some .int⟩) rfl) rfl rfl (W := 1) (Nat.le_of_ble_eq_true rfl) (Nat.le_of_ble_eq_true rfl) (Nat.le_of_ble_eq_true rfl) (Nat.le_of_ble_eq_true rfl) (Nat.le_of_ble_eq_true rfl) ?_
        rintro _ h9 ⟨rfl, rfl⟩ g10
        show OwnKit.Go κ h0 0 0 7 #[.val (.ref a), .val (.int i)] [.int (Int32.ofNat cs.length), .int i]
        refine OwnKit.icmpge K d_prog_1m2_7 (by decide) (pc' := 29) rfl  (fun b11 => ?_) (fun b11 => ?_)
        · exfalso; omega
        · show OwnKit.Go κ h0 0 0 10 #[.val (.ref a), .val (.int i)] []
          refine OwnKit.aloadN K d_prog_1m2_10 rfl rfl ?_
          show OwnKit.Go κ h0 0 0 11 #[.val (.ref a), .val (.int i)] [.ref a]
          refine OwnKit.iloadN K d_prog_1m2_11 rfl ?_
          show OwnKit.Go κ h0 0 0 12 #[.val (.ref a), .val (.int i)] [.int i, .ref a]
          refine OwnKit.invV (y := (⟨"java/lang/String", "charAt", "(I)C"⟩ : MethodName)) (z := (⟨"java/lang/String", "charAt", "(I)C"⟩ : MethodName)) (argsL := [.int i]) (rest := []) K (c_chat l Z a0 hw n0 h0 a cs i c j i_COMPACT_STRINGS v_SIOOBE_FORMATTER hi hcap hcj (hch c (List.mem_of_getElem? hcj)) hS S_COMPACT_STRINGS nz_COMPACT_STRINGS S_SIOOBE_FORMATTER hr_v_SIOOBE_FORMATTER S__assertionsDisabled S_HI_BYTE_SHIFT S_LO_BYTE_SHIFT) d_prog_1m2_12 E_a (hw _ (List.mem_of_getElem? (i := 63) rfl)) (hw _ (List.mem_of_getElem? (i := 64) rfl)) (OwnKit.nfS (hw _ (List.mem_of_getElem? (i := 66) rfl))) (hw _ (List.mem_of_getElem? (i := 66) rfl)) (hw _ (List.mem_of_getElem? (i := 65) rfl)) (hw _ (List.mem_of_getElem? (i := 67) rfl)) (hw _ (List.mem_of_getElem? (i := 10) rfl)) (by decide) (lenOf (by decide +kernel : parseMethodDescriptor "(I)C" = some ⟨[.int], some .char⟩) rfl) rfl rfl (W := 0) (Nat.le_of_ble_eq_true rfl) (Nat.le_of_ble_eq_true rfl) (Nat.le_of_ble_eq_true rfl) (Nat.le_of_ble_eq_true rfl) (Nat.le_of_ble_eq_true rfl) ?_
          rintro _ h12 ⟨rfl, rfl⟩ g13
          show OwnKit.Go κ h0 0 0 15 #[.val (.ref a), .val (.int i)] [.int c]
          refine OwnKit.invS (y := (⟨"com/example/bale/bale/check/Ids", "isIdCharacter", "(C)Z"⟩ : MethodName)) (argsL := [.int c]) (rest := []) K (c_isid l Z a0 hw n0 h0 c) d_prog_1m2_15 (hw _ (List.mem_of_getElem? (i := 85) rfl)) (hw _ (List.mem_of_getElem? (i := 86) rfl)) (hw _ (List.mem_of_getElem? (i := 32) rfl)) (hw _ (List.mem_of_getElem? (i := 87) rfl)) (by decide) (lenOf (by decide +kernel : parseMethodDescriptor "(C)Z" = some ⟨[.char], some .boolean⟩) rfl) rfl rfl (W := 0) (Nat.le_of_ble_eq_true rfl) (Nat.le_of_ble_eq_true rfl) (Nat.le_of_ble_eq_true rfl) (Nat.le_of_ble_eq_true rfl) (Nat.le_of_ble_eq_true rfl) ?_
          rintro _ h16 ⟨r14, rfl, hr15, rfl⟩ g17
          show OwnKit.Go κ h0 0 0 18 #[.val (.ref a), .val (.int i)] [.int r14]
          refine OwnKit.ifne K d_prog_1m2_18 (by decide) (pc' := 23) rfl  (fun b18 => ?_) (fun b18 => ?_)
          · show OwnKit.Go κ h0 0 0 23 #[.val (.ref a), .val (.int i)] []
            refine OwnKit.iinc K d_prog_1m2_23 rfl (l' := #[.val (.ref a), .val (.int (i + (1 : Int32)))]) rfl ?_
            show OwnKit.Go κ h0 0 0 26 #[.val (.ref a), .val (.int (i + (1 : Int32)))] []
            refine OwnKit.goto K d_prog_1m2_26 (by decide) (pc' := 2) rfl ?_
            show OwnKit.Go κ h0 0 0 2 #[.val (.ref a), .val (.int (i + (1 : Int32)))] []
            exact ih (j + 1) _ (by rw [own_incS (by omega)]; omega) (by omega) (own_allS hall hcj (Classical.byContradiction fun z => b18 ((own_bit1 hr15).mpr z)))
          · show OwnKit.Go κ h0 0 0 21 #[.val (.ref a), .val (.int i)] []
            refine OwnKit.iconst K d_prog_1m2_21 ?_
            show OwnKit.Go κ h0 0 0 22 #[.val (.ref a), .val (.int i)] [.int (0 : Int32)]
            refine OwnKit.ireturn K d_prog_1m2_22 (Or.inr (Or.inl rfl)) rfl ?_ (Nat.le_of_ble_eq_true rfl) (Nat.le_of_ble_eq_true rfl)
            exact ⟨_, rfl, Or.inr ⟨fun q => (own_bit1 hr15).mp b18 (q.2 c (List.mem_of_getElem? hcj)), rfl⟩, rfl⟩
    show OwnKit.Go κ h0 0 0 0 #[.val (.ref a), .unset] []
    refine OwnKit.iconst K d_prog_1m2_0 ?_
    show OwnKit.Go κ h0 0 0 1 #[.val (.ref a), .unset] [.int (0 : Int32)]
    refine OwnKit.istoreN K d_prog_1m2_1 (l' := #[.val (.ref a), .val (.int (0 : Int32))]) rfl ?_
    show OwnKit.Go κ h0 0 0 2 #[.val (.ref a), .val (.int (0 : Int32))] []
    exact loop cs.length 0 _ rfl (by omega) (by intro x hx; simp at hx)
  · intro m; first | rfl | (simp [entryFrame, mkF, argsToLocals, Value.category]; done)

set_option maxRecDepth 65536 in
set_option maxHeartbeats 40000000 in
theorem c_law (l : Launch) (Z : State) (a0 : Array Value) (hw : ∀ d ∈ tables_1, d.before a0 Z = true) (n0 : Nat) (h0 : Heap) (p0 p1 p2 p3 p4 : Int32) (i_COMPACT_STRINGS : Int32) (v_SIOOBE_FORMATTER : Value) (hEL : EW Z a0 [("java/lang/String", 7)]) (hCH : CHv Z [("java/lang/String", 7)] Z.vm Z.heap) (S_COMPACT_STRINGS : Sta Z Z.heap "java/lang/String" "COMPACT_STRINGS" "Z" (.int i_COMPACT_STRINGS)) (nz_COMPACT_STRINGS : ¬ i_COMPACT_STRINGS = (0 : Int32)) (S_SIOOBE_FORMATTER : Sta Z Z.heap "jdk/internal/util/Preconditions" "SIOOBE_FORMATTER" "Ljava/util/function/BiFunction;" (v_SIOOBE_FORMATTER)) (hr_v_SIOOBE_FORMATTER : v_SIOOBE_FORMATTER.isRef = true) (S__assertionsDisabled : Sta Z Z.heap "java/lang/StringUTF16" "$assertionsDisabled" "Z" (.int (1 : Int32))) (S_HI_BYTE_SHIFT : Sta Z Z.heap "java/lang/StringUTF16" "HI_BYTE_SHIFT" "I" (.int (0 : Int32))) (S_LO_BYTE_SHIFT : Sta Z Z.heap "java/lang/StringUTF16" "LO_BYTE_SHIFT" "I" (.int (8 : Int32))) :
    OwnKit.ConX (OwnKit.Exact Z) true l Z n0 x code maxLocals ret room_1 #[.int p0, .int p1, .int p2, .int p3, .int p4] h0 QLaw := by
  refine OwnKit.Con.of (by first | (refine plainFor_of_name ?_; simp [plainName, overriddenIn]; done) | decide +kernel) ?_ ?_
  · intro κ hwd hJ K0
    have K : OwnKit.Ok κ l Z n0 "com/example/bale/bale/check/IdsIsWellFormedPinLaw" "law" code 16 (some .boolean) room_1 QLaw := K0
    have ef : (entryFrame κ.m #[.int p0, .int p1, .int p2, .int p3, .int p4] maxLocals).locals = #[.val (.int p0), .val (.int p1), .val (.int p2), .val (.int p3), .val (.int p4), .unset, .unset, .unset, .unset, .unset, .unset, .unset, .unset, .unset, .unset, .unset] := by first | (simp [entryFrame, argsToLocals, Value.category, maxLocals]; done) | rfl
    rw [ef]; clear ef K0
    have hc_v_SIOOBE_FORMATTER := OwnKit.catR hr_v_SIOOBE_FORMATTER
    have e0 : (0 : Int32).toInt = 0 := rfl
    have e1 : (1 : Int32).toInt = 1 := rfl
    have e2 : (2 : Int32).toInt = 2 := rfl
    have e3 : (3 : Int32).toInt = 3 := rfl
    have e4 : (4 : Int32).toInt = 4 := rfl
    show OwnKit.Go κ h0 0 0 0 #[.val (.int p0), .val (.int p1), .val (.int p2), .val (.int p3), .val (.int p4), .unset, .unset, .unset, .unset, .unset, .unset, .unset, .unset, .unset, .unset, .unset] []
    refine OwnKit.iloadN K at_0 rfl ?_
    show OwnKit.Go κ h0 0 0 1 #[.val (.int p0), .val (.int p1), .val (.int p2), .val (.int p3), .val (.int p4), .unset, .unset, .unset, .unset, .unset, .unset, .unset, .unset, .unset, .unset, .unset] [.int p0]
    refine OwnKit.ldcI K at_1 (hw _ (List.mem_of_getElem? (i := 0) rfl)) ?_
    show OwnKit.Go κ h0 0 0 3 #[.val (.int p0), .val (.int p1), .val (.int p2), .val (.int p3), .val (.int p4), .unset, .unset, .unset, .unset, .unset, .unset, .unset, .unset, .unset, .unset, .unset] [.int (2147483647 : Int32), .int p0]
    refine OwnKit.iand K at_3 ?_
    show OwnKit.Go κ h0 0 0 4 #[.val (.int p0), .val (.int p1), .val (.int p2), .val (.int p3), .val (.int p4), .unset, .unset, .unset, .unset, .unset, .unset, .unset, .unset, .unset, .unset, .unset] [.int (p0 &&& (2147483647 : Int32))]
    refine OwnKit.iconst K at_4 ?_
    show OwnKit.Go κ h0 0 0 5 #[.val (.int p0), .val (.int p1), .val (.int p2), .val (.int p3), .val (.int p4), .unset, .unset, .unset, .unset, .unset, .unset, .unset, .unset, .unset, .unset, .unset] [.int (5 : Int32), .int (p0 &&& (2147483647 : Int32))]
    refine OwnKit.irem K at_5 (by decide) ?_
    show OwnKit.Go κ h0 0 0 6 #[.val (.int p0), .val (.int p1), .val (.int p2), .val (.int p3), .val (.int p4), .unset, .unset, .unset, .unset, .unset, .unset, .unset, .unset, .unset, .unset, .unset] [.int ((p0 &&& (2147483647 : Int32)) % (5 : Int32))]
    have hn5 := own_mod5 p0
    generalize (p0 &&& (2147483647 : Int32)) % (5 : Int32) = n at hn5 ⊢
    show OwnKit.Go κ h0 0 0 6 #[.val (.int p0), .val (.int p1), .val (.int p2), .val (.int p3), .val (.int p4), .unset, .unset, .unset, .unset, .unset, .unset, .unset, .unset, .unset, .unset, .unset] [.int n]
    refine OwnKit.istore K at_6 (l' := #[.val (.int p0), .val (.int p1), .val (.int p2), .val (.int p3), .val (.int p4), .val (.int n), .unset, .unset, .unset, .unset, .unset, .unset, .unset, .unset, .unset, .unset]) rfl ?_
    show OwnKit.Go κ h0 0 0 8 #[.val (.int p0), .val (.int p1), .val (.int p2), .val (.int p3), .val (.int p4), .val (.int n), .unset, .unset, .unset, .unset, .unset, .unset, .unset, .unset, .unset, .unset] []
    refine OwnKit.iloadN K at_8 rfl ?_
    show OwnKit.Go κ h0 0 0 9 #[.val (.int p0), .val (.int p1), .val (.int p2), .val (.int p3), .val (.int p4), .val (.int n), .unset, .unset, .unset, .unset, .unset, .unset, .unset, .unset, .unset, .unset] [.int p1]
    refine OwnKit.invS (y := (⟨"com/example/bale/bale/check/IdsIsWellFormedPinLaw", "draw", "(I)C"⟩ : MethodName)) (argsL := [.int p1]) (rest := []) K (c_draw l Z a0 hw n0 h0 p1) at_9 (hw _ (List.mem_of_getElem? (i := 1) rfl)) (hw _ (List.mem_of_getElem? (i := 2) rfl)) (hw _ (List.mem_of_getElem? (i := 3) rfl)) (hw _ (List.mem_of_getElem? (i := 4) rfl)) (by decide) (lenOf (by decide +kernel : parseMethodDescriptor "(I)C" = some ⟨[.int], some .char⟩) rfl) rfl rfl (W := 0) (Nat.le_of_ble_eq_true rfl) (Nat.le_of_ble_eq_true rfl) (Nat.le_of_ble_eq_true rfl) (Nat.le_of_ble_eq_true rfl) (Nat.le_of_ble_eq_true rfl) ?_
    rintro _ h1 ⟨c0, rfl, hc0, rfl⟩ g2
    show OwnKit.Go κ h0 0 0 12 #[.val (.int p0), .val (.int p1), .val (.int p2), .val (.int p3), .val (.int p4), .val (.int n), .unset, .unset, .unset, .unset, .unset, .unset, .unset, .unset, .unset, .unset] [.int c0]
    refine OwnKit.istore K at_12 (l' := #[.val (.int p0), .val (.int p1), .val (.int p2), .val (.int p3), .val (.int p4), .val (.int n), .val (.int c0), .unset, .unset, .unset, .unset, .unset, .unset, .unset, .unset, .unset]) rfl ?_
    show OwnKit.Go κ h0 0 0 14 #[.val (.int p0), .val (.int p1), .val (.int p2), .val (.int p3), .val (.int p4), .val (.int n), .val (.int c0), .unset, .unset, .unset, .unset, .unset, .unset, .unset, .unset, .unset] []
    refine OwnKit.iloadN K at_14 rfl ?_
    show OwnKit.Go κ h0 0 0 15 #[.val (.int p0), .val (.int p1), .val (.int p2), .val (.int p3), .val (.int p4), .val (.int n), .val (.int c0), .unset, .unset, .unset, .unset, .unset, .unset, .unset, .unset, .unset] [.int p2]
    refine OwnKit.invS (y := (⟨"com/example/bale/bale/check/IdsIsWellFormedPinLaw", "draw", "(I)C"⟩ : MethodName)) (argsL := [.int p2]) (rest := []) K (c_draw l Z a0 hw n0 h0 p2) at_15 (hw _ (List.mem_of_getElem? (i := 1) rfl)) (hw _ (List.mem_of_getElem? (i := 2) rfl)) (hw _ (List.mem_of_getElem? (i := 3) rfl)) (hw _ (List.mem_of_getElem? (i := 4) rfl)) (by decide) (lenOf (by decide +kernel : parseMethodDescriptor "(I)C" = some ⟨[.int], some .char⟩) rfl) rfl rfl (W := 0) (Nat.le_of_ble_eq_true rfl) (Nat.le_of_ble_eq_true rfl) (Nat.le_of_ble_eq_true rfl) (Nat.le_of_ble_eq_true rfl) (Nat.le_of_ble_eq_true rfl) ?_
    rintro _ h3 ⟨c1, rfl, hc1, rfl⟩ g4
    show OwnKit.Go κ h0 0 0 18 #[.val (.int p0), .val (.int p1), .val (.int p2), .val (.int p3), .val (.int p4), .val (.int n), .val (.int c0), .unset, .unset, .unset, .unset, .unset, .unset, .unset, .unset, .unset] [.int c1]
    refine OwnKit.istore K at_18 (l' := #[.val (.int p0), .val (.int p1), .val (.int p2), .val (.int p3), .val (.int p4), .val (.int n), .val (.int c0), .val (.int c1), .unset, .unset, .unset, .unset, .unset, .unset, .unset, .unset]) rfl ?_
    show OwnKit.Go κ h0 0 0 20 #[.val (.int p0), .val (.int p1), .val (.int p2), .val (.int p3), .val (.int p4), .val (.int n), .val (.int c0), .val (.int c1), .unset, .unset, .unset, .unset, .unset, .unset, .unset, .unset] []
    refine OwnKit.iloadN K at_20 rfl ?_
    show OwnKit.Go κ h0 0 0 21 #[.val (.int p0), .val (.int p1), .val (.int p2), .val (.int p3), .val (.int p4), .val (.int n), .val (.int c0), .val (.int c1), .unset, .unset, .unset, .unset, .unset, .unset, .unset, .unset] [.int p3]
    refine OwnKit.invS (y := (⟨"com/example/bale/bale/check/IdsIsWellFormedPinLaw", "draw", "(I)C"⟩ : MethodName)) (argsL := [.int p3]) (rest := []) K (c_draw l Z a0 hw n0 h0 p3) at_21 (hw _ (List.mem_of_getElem? (i := 1) rfl)) (hw _ (List.mem_of_getElem? (i := 2) rfl)) (hw _ (List.mem_of_getElem? (i := 3) rfl)) (hw _ (List.mem_of_getElem? (i := 4) rfl)) (by decide) (lenOf (by decide +kernel : parseMethodDescriptor "(I)C" = some ⟨[.int], some .char⟩) rfl) rfl rfl (W := 0) (Nat.le_of_ble_eq_true rfl) (Nat.le_of_ble_eq_true rfl) (Nat.le_of_ble_eq_true rfl) (Nat.le_of_ble_eq_true rfl) (Nat.le_of_ble_eq_true rfl) ?_
    rintro _ h5 ⟨c2, rfl, hc2, rfl⟩ g6
    show OwnKit.Go κ h0 0 0 24 #[.val (.int p0), .val (.int p1), .val (.int p2), .val (.int p3), .val (.int p4), .val (.int n), .val (.int c0), .val (.int c1), .unset, .unset, .unset, .unset, .unset, .unset, .unset, .unset] [.int c2]
    refine OwnKit.istore K at_24 (l' := #[.val (.int p0), .val (.int p1), .val (.int p2), .val (.int p3), .val (.int p4), .val (.int n), .val (.int c0), .val (.int c1), .val (.int c2), .unset, .unset, .unset, .unset, .unset, .unset, .unset]) rfl ?_
    show OwnKit.Go κ h0 0 0 26 #[.val (.int p0), .val (.int p1), .val (.int p2), .val (.int p3), .val (.int p4), .val (.int n), .val (.int c0), .val (.int c1), .val (.int c2), .unset, .unset, .unset, .unset, .unset, .unset, .unset] []
    refine OwnKit.iload K at_26 rfl ?_
    show OwnKit.Go κ h0 0 0 28 #[.val (.int p0), .val (.int p1), .val (.int p2), .val (.int p3), .val (.int p4), .val (.int n), .val (.int c0), .val (.int c1), .val (.int c2), .unset, .unset, .unset, .unset, .unset, .unset, .unset] [.int p4]
    refine OwnKit.invS (y := (⟨"com/example/bale/bale/check/IdsIsWellFormedPinLaw", "draw", "(I)C"⟩ : MethodName)) (argsL := [.int p4]) (rest := []) K (c_draw l Z a0 hw n0 h0 p4) at_28 (hw _ (List.mem_of_getElem? (i := 1) rfl)) (hw _ (List.mem_of_getElem? (i := 2) rfl)) (hw _ (List.mem_of_getElem? (i := 3) rfl)) (hw _ (List.mem_of_getElem? (i := 4) rfl)) (by decide) (lenOf (by decide +kernel : parseMethodDescriptor "(I)C" = some ⟨[.int], some .char⟩) rfl) rfl rfl (W := 0) (Nat.le_of_ble_eq_true rfl) (Nat.le_of_ble_eq_true rfl) (Nat.le_of_ble_eq_true rfl) (Nat.le_of_ble_eq_true rfl) (Nat.le_of_ble_eq_true rfl) ?_
    rintro _ h7 ⟨c3, rfl, hc3, rfl⟩ g8
    show OwnKit.Go κ h0 0 0 31 #[.val (.int p0), .val (.int p1), .val (.int p2), .val (.int p3), .val (.int p4), .val (.int n), .val (.int c0), .val (.int c1), .val (.int c2), .unset, .unset, .unset, .unset, .unset, .unset, .unset] [.int c3]
    refine OwnKit.istore K at_31 (l' := #[.val (.int p0), .val (.int p1), .val (.int p2), .val (.int p3), .val (.int p4), .val (.int n), .val (.int c0), .val (.int c1), .val (.int c2), .val (.int c3), .unset, .unset, .unset, .unset, .unset, .unset]) rfl ?_
    show OwnKit.Go κ h0 0 0 33 #[.val (.int p0), .val (.int p1), .val (.int p2), .val (.int p3), .val (.int p4), .val (.int n), .val (.int c0), .val (.int c1), .val (.int c2), .val (.int c3), .unset, .unset, .unset, .unset, .unset, .unset] []
    refine OwnKit.iload K at_33 rfl ?_
    show OwnKit.Go κ h0 0 0 35 #[.val (.int p0), .val (.int p1), .val (.int p2), .val (.int p3), .val (.int p4), .val (.int n), .val (.int c0), .val (.int c1), .val (.int c2), .val (.int c3), .unset, .unset, .unset, .unset, .unset, .unset] [.int n]
    refine OwnKit.iload K at_35 rfl ?_
    show OwnKit.Go κ h0 0 0 37 #[.val (.int p0), .val (.int p1), .val (.int p2), .val (.int p3), .val (.int p4), .val (.int n), .val (.int c0), .val (.int c1), .val (.int c2), .val (.int c3), .unset, .unset, .unset, .unset, .unset, .unset] [.int c0, .int n]
    refine OwnKit.iload K at_37 rfl ?_
    show OwnKit.Go κ h0 0 0 39 #[.val (.int p0), .val (.int p1), .val (.int p2), .val (.int p3), .val (.int p4), .val (.int n), .val (.int c0), .val (.int c1), .val (.int c2), .val (.int c3), .unset, .unset, .unset, .unset, .unset, .unset] [.int c1, .int c0, .int n]
    refine OwnKit.iload K at_39 rfl ?_
    show OwnKit.Go κ h0 0 0 41 #[.val (.int p0), .val (.int p1), .val (.int p2), .val (.int p3), .val (.int p4), .val (.int n), .val (.int c0), .val (.int c1), .val (.int c2), .val (.int c3), .unset, .unset, .unset, .unset, .unset, .unset] [.int c2, .int c1, .int c0, .int n]
    refine OwnKit.iload K at_41 rfl ?_
    show OwnKit.Go κ h0 0 0 43 #[.val (.int p0), .val (.int p1), .val (.int p2), .val (.int p3), .val (.int p4), .val (.int n), .val (.int c0), .val (.int c1), .val (.int c2), .val (.int c3), .unset, .unset, .unset, .unset, .unset, .unset] [.int c3, .int c2, .int c1, .int c0, .int n]
    refine OwnKit.invSE (y := (⟨"com/example/bale/bale/check/IdsIsWellFormedPinLaw", "build", "(ICCCC)Ljava/lang/String;"⟩ : MethodName)) (argsL := [.int n, .int c0, .int c1, .int c2, .int c3]) (rest := []) K hwd (fun vm q => by rw [hJ] at q; exact q) (c_build l Z a0 hw n0 h0 n c0 c1 c2 c3 i_COMPACT_STRINGS v_SIOOBE_FORMATTER hn5.1 hn5.2 hc0 hc1 hc2 hc3 hEL hCH S_COMPACT_STRINGS nz_COMPACT_STRINGS S_SIOOBE_FORMATTER hr_v_SIOOBE_FORMATTER S__assertionsDisabled S_HI_BYTE_SHIFT S_LO_BYTE_SHIFT) at_43 (hw _ (List.mem_of_getElem? (i := 5) rfl)) (hw _ (List.mem_of_getElem? (i := 6) rfl)) (hw _ (List.mem_of_getElem? (i := 3) rfl)) (hw _ (List.mem_of_getElem? (i := 7) rfl)) (by decide) (lenOf (by decide +kernel : parseMethodDescriptor "(ICCCC)Ljava/lang/String;" = some ⟨[.int, .char, .char, .char, .char], some (.object "java/lang/String")⟩) rfl) rfl rfl (W := 0) (Nat.le_of_ble_eq_true rfl) (Nat.le_of_ble_eq_true rfl) (Nat.le_of_ble_eq_true rfl) (Nat.le_of_ble_eq_true rfl) (Nat.le_of_ble_eq_true rfl) ?_
    rintro _ h9 ⟨a, rfl, hS⟩ g10
    have K2 := OwnKit.Ok.setJ (J := fun _ => True) K
    have hw2 : (κ.setJ fun _ => True).wide = true := hwd
    have hj2 : (κ.setJ fun _ => True).J = fun _ => True := rfl
    clear K hwd hJ
    generalize κ.setJ (fun _ => True) = κ at *
    have K := K2
    have hwd := hw2
    have hJ := hj2
    clear K2 hw2 hj2
    have hcap : ([c0, c1, c2, c3].take n.toInt.toNat).length ≤ 4 := by rw [List.length_take]; exact Nat.min_le_right _ _
    have hch : own_chs ([c0, c1, c2, c3].take n.toInt.toNat) := fun c q => (own_chC hc0 (own_chC hc1 (own_chC hc2 (own_chC hc3 own_ch0)))) c (List.mem_of_mem_take q)
    have J164 : ∀ (r0 r1 r2 r3 x : Int32), own_bit (0 < n.toInt ∧ (n.toInt < 1 ∨ own_idP c0) ∧ (n.toInt < 2 ∨ own_idP c1) ∧ (n.toInt < 3 ∨ own_idP c2) ∧ (n.toInt < 4 ∨ own_idP c3)) x → OwnKit.Go κ h9 4 20 164 #[.val (.int p0), .val (.int p1), .val (.int p2), .val (.int p3), .val (.int p4), .val (.int n), .val (.int c0), .val (.int c1), .val (.int c2), .val (.int c3), .val (.ref a), .val (.int r0), .val (.int r1), .val (.int r2), .val (.int r3), .val (.int x)] [] := by
      intro r0 r1 r2 r3 x hx
      show OwnKit.Go κ h9 4 20 164 #[.val (.int p0), .val (.int p1), .val (.int p2), .val (.int p3), .val (.int p4), .val (.int n), .val (.int c0), .val (.int c1), .val (.int c2), .val (.int c3), .val (.ref a), .val (.int r0), .val (.int r1), .val (.int r2), .val (.int r3), .val (.int x)] []
      refine OwnKit.aload K at_164 rfl rfl ?_
      show OwnKit.Go κ h9 4 20 166 #[.val (.int p0), .val (.int p1), .val (.int p2), .val (.int p3), .val (.int p4), .val (.int n), .val (.int c0), .val (.int c1), .val (.int c2), .val (.int c3), .val (.ref a), .val (.int r0), .val (.int r1), .val (.int r2), .val (.int r3), .val (.int x)] [.ref a]
      refine OwnKit.invS (y := (⟨"com/example/bale/bale/check/Ids", "isWellFormed", "(Ljava/lang/String;)Z"⟩ : MethodName)) (argsL := [.ref a]) (rest := []) K (c_wf l Z a0 hw n0 h9 a ([c0, c1, c2, c3].take n.toInt.toNat) i_COMPACT_STRINGS v_SIOOBE_FORMATTER hcap hch hS S_COMPACT_STRINGS nz_COMPACT_STRINGS S_SIOOBE_FORMATTER hr_v_SIOOBE_FORMATTER S__assertionsDisabled S_HI_BYTE_SHIFT S_LO_BYTE_SHIFT) at_166 (hw _ (List.mem_of_getElem? (i := 30) rfl)) (hw _ (List.mem_of_getElem? (i := 31) rfl)) (hw _ (List.mem_of_getElem? (i := 32) rfl)) (hw _ (List.mem_of_getElem? (i := 33) rfl)) (by decide) (lenOf (by decide +kernel : parseMethodDescriptor "(Ljava/lang/String;)Z" = some ⟨[(.object "java/lang/String")], some .boolean⟩) rfl) rfl rfl (W := 0) (Nat.le_of_ble_eq_true rfl) (Nat.le_of_ble_eq_true rfl) (Nat.le_of_ble_eq_true rfl) (Nat.le_of_ble_eq_true rfl) (Nat.le_of_ble_eq_true rfl) ?_
      rintro _ h13 ⟨r11, rfl, hr12, rfl⟩ g14
      show OwnKit.Go κ h9 4 20 169 #[.val (.int p0), .val (.int p1), .val (.int p2), .val (.int p3), .val (.int p4), .val (.int n), .val (.int c0), .val (.int c1), .val (.int c2), .val (.int c3), .val (.ref a), .val (.int r0), .val (.int r1), .val (.int r2), .val (.int r3), .val (.int x)] [.int r11]
      refine OwnKit.iload K at_169 rfl ?_
      show OwnKit.Go κ h9 4 20 171 #[.val (.int p0), .val (.int p1), .val (.int p2), .val (.int p3), .val (.int p4), .val (.int n), .val (.int c0), .val (.int c1), .val (.int c2), .val (.int c3), .val (.ref a), .val (.int r0), .val (.int r1), .val (.int r2), .val (.int r3), .val (.int x)] [.int x, .int r11]
      refine OwnKit.icmpne K at_171 (by decide) (pc' := 178) rfl  (fun b15 => ?_) (fun b15 => ?_)
      · exact absurd (own_bitEq hr12 hx (own_final hn5.1 hn5.2 own_idP).symm) b15
      · show OwnKit.Go κ h9 4 20 174 #[.val (.int p0), .val (.int p1), .val (.int p2), .val (.int p3), .val (.int p4), .val (.int n), .val (.int c0), .val (.int c1), .val (.int c2), .val (.int c3), .val (.ref a), .val (.int r0), .val (.int r1), .val (.int r2), .val (.int r3), .val (.int x)] []
        refine OwnKit.iconst K at_174 ?_
        show OwnKit.Go κ h9 4 20 175 #[.val (.int p0), .val (.int p1), .val (.int p2), .val (.int p3), .val (.int p4), .val (.int n), .val (.int c0), .val (.int c1), .val (.int c2), .val (.int c3), .val (.ref a), .val (.int r0), .val (.int r1), .val (.int r2), .val (.int r3), .val (.int x)] [.int (1 : Int32)]
        refine OwnKit.goto K at_175 (by decide) (pc' := 179) rfl ?_
        show OwnKit.Go κ h9 4 20 179 #[.val (.int p0), .val (.int p1), .val (.int p2), .val (.int p3), .val (.int p4), .val (.int n), .val (.int c0), .val (.int c1), .val (.int c2), .val (.int c3), .val (.ref a), .val (.int r0), .val (.int r1), .val (.int r2), .val (.int r3), .val (.int x)] [.int (1 : Int32)]
        refine OwnKit.ireturn K at_179 (Or.inr (Or.inl rfl)) rfl ?_ (Nat.le_of_ble_eq_true rfl) (Nat.le_of_ble_eq_true rfl)
        exact rfl
    have J132 : ∀ (r0 r1 r2 r3 : Int32), own_bit (n.toInt < 1 ∨ own_idP c0) r0 → own_bit (n.toInt < 2 ∨ own_idP c1) r1 → own_bit (n.toInt < 3 ∨ own_idP c2) r2 → own_bit (n.toInt < 4 ∨ own_idP c3) r3 → OwnKit.Go κ h9 4 20 132 #[.val (.int p0), .val (.int p1), .val (.int p2), .val (.int p3), .val (.int p4), .val (.int n), .val (.int c0), .val (.int c1), .val (.int c2), .val (.int c3), .val (.ref a), .val (.int r0), .val (.int r1), .val (.int r2), .val (.int r3), .unset] [] := by
      intro r0 r1 r2 r3 ho0 ho1 ho2 ho3
      show OwnKit.Go κ h9 4 20 132 #[.val (.int p0), .val (.int p1), .val (.int p2), .val (.int p3), .val (.int p4), .val (.int n), .val (.int c0), .val (.int c1), .val (.int c2), .val (.int c3), .val (.ref a), .val (.int r0), .val (.int r1), .val (.int r2), .val (.int r3), .unset] []
      refine OwnKit.iload K at_132 rfl ?_
      show OwnKit.Go κ h9 4 20 134 #[.val (.int p0), .val (.int p1), .val (.int p2), .val (.int p3), .val (.int p4), .val (.int n), .val (.int c0), .val (.int c1), .val (.int c2), .val (.int c3), .val (.ref a), .val (.int r0), .val (.int r1), .val (.int r2), .val (.int r3), .unset] [.int n]
      refine OwnKit.ifle K at_134 (by decide) (pc' := 161) rfl  (fun b16 => ?_) (fun b16 => ?_)
      · show OwnKit.Go κ h9 4 20 161 #[.val (.int p0), .val (.int p1), .val (.int p2), .val (.int p3), .val (.int p4), .val (.int n), .val (.int c0), .val (.int c1), .val (.int c2), .val (.int c3), .val (.ref a), .val (.int r0), .val (.int r1), .val (.int r2), .val (.int r3), .unset] []
        refine OwnKit.iconst K at_161 ?_
        show OwnKit.Go κ h9 4 20 162 #[.val (.int p0), .val (.int p1), .val (.int p2), .val (.int p3), .val (.int p4), .val (.int n), .val (.int c0), .val (.int c1), .val (.int c2), .val (.int c3), .val (.ref a), .val (.int r0), .val (.int r1), .val (.int r2), .val (.int r3), .unset] [.int (0 : Int32)]
        refine OwnKit.istore K at_162 (l' := #[.val (.int p0), .val (.int p1), .val (.int p2), .val (.int p3), .val (.int p4), .val (.int n), .val (.int c0), .val (.int c1), .val (.int c2), .val (.int c3), .val (.ref a), .val (.int r0), .val (.int r1), .val (.int r2), .val (.int r3), .val (.int (0 : Int32))]) rfl ?_
        show OwnKit.Go κ h9 4 20 164 #[.val (.int p0), .val (.int p1), .val (.int p2), .val (.int p3), .val (.int p4), .val (.int n), .val (.int c0), .val (.int c1), .val (.int c2), .val (.int c3), .val (.ref a), .val (.int r0), .val (.int r1), .val (.int r2), .val (.int r3), .val (.int (0 : Int32))] []
        exact J164 _ _ _ _ _ (Or.inr ⟨fun q => absurd q.1 (by omega), rfl⟩)
      · show OwnKit.Go κ h9 4 20 137 #[.val (.int p0), .val (.int p1), .val (.int p2), .val (.int p3), .val (.int p4), .val (.int n), .val (.int c0), .val (.int c1), .val (.int c2), .val (.int c3), .val (.ref a), .val (.int r0), .val (.int r1), .val (.int r2), .val (.int r3), .unset] []
        refine OwnKit.iload K at_137 rfl ?_
        show OwnKit.Go κ h9 4 20 139 #[.val (.int p0), .val (.int p1), .val (.int p2), .val (.int p3), .val (.int p4), .val (.int n), .val (.int c0), .val (.int c1), .val (.int c2), .val (.int c3), .val (.ref a), .val (.int r0), .val (.int r1), .val (.int r2), .val (.int r3), .unset] [.int r0]
        refine OwnKit.ifeq K at_139 (by decide) (pc' := 161) rfl  (fun b17 => ?_) (fun b17 => ?_)
        · show OwnKit.Go κ h9 4 20 161 #[.val (.int p0), .val (.int p1), .val (.int p2), .val (.int p3), .val (.int p4), .val (.int n), .val (.int c0), .val (.int c1), .val (.int c2), .val (.int c3), .val (.ref a), .val (.int r0), .val (.int r1), .val (.int r2), .val (.int r3), .unset] []
          refine OwnKit.iconst K at_161 ?_
          show OwnKit.Go κ h9 4 20 162 #[.val (.int p0), .val (.int p1), .val (.int p2), .val (.int p3), .val (.int p4), .val (.int n), .val (.int c0), .val (.int c1), .val (.int c2), .val (.int c3), .val (.ref a), .val (.int r0), .val (.int r1), .val (.int r2), .val (.int r3), .unset] [.int (0 : Int32)]
          refine OwnKit.istore K at_162 (l' := #[.val (.int p0), .val (.int p1), .val (.int p2), .val (.int p3), .val (.int p4), .val (.int n), .val (.int c0), .val (.int c1), .val (.int c2), .val (.int c3), .val (.ref a), .val (.int r0), .val (.int r1), .val (.int r2), .val (.int r3), .val (.int (0 : Int32))]) rfl ?_
          show OwnKit.Go κ h9 4 20 164 #[.val (.int p0), .val (.int p1), .val (.int p2), .val (.int p3), .val (.int p4), .val (.int n), .val (.int c0), .val (.int c1), .val (.int c2), .val (.int c3), .val (.ref a), .val (.int r0), .val (.int r1), .val (.int r2), .val (.int r3), .val (.int (0 : Int32))] []
          exact J164 _ _ _ _ _ (Or.inr ⟨fun q => (own_bit1 ho0).mp b17 q.2.1, rfl⟩)
        · show OwnKit.Go κ h9 4 20 142 #[.val (.int p0), .val (.int p1), .val (.int p2), .val (.int p3), .val (.int p4), .val (.int n), .val (.int c0), .val (.int c1), .val (.int c2), .val (.int c3), .val (.ref a), .val (.int r0), .val (.int r1), .val (.int r2), .val (.int r3), .unset] []
          refine OwnKit.iload K at_142 rfl ?_
          show OwnKit.Go κ h9 4 20 144 #[.val (.int p0), .val (.int p1), .val (.int p2), .val (.int p3), .val (.int p4), .val (.int n), .val (.int c0), .val (.int c1), .val (.int c2), .val (.int c3), .val (.ref a), .val (.int r0), .val (.int r1), .val (.int r2), .val (.int r3), .unset] [.int r1]
          refine OwnKit.ifeq K at_144 (by decide) (pc' := 161) rfl  (fun b18 => ?_) (fun b18 => ?_)
          · show OwnKit.Go κ h9 4 20 161 #[.val (.int p0), .val (.int p1), .val (.int p2), .val (.int p3), .val (.int p4), .val (.int n), .val (.int c0), .val (.int c1), .val (.int c2), .val (.int c3), .val (.ref a), .val (.int r0), .val (.int r1), .val (.int r2), .val (.int r3), .unset] []
            refine OwnKit.iconst K at_161 ?_
            show OwnKit.Go κ h9 4 20 162 #[.val (.int p0), .val (.int p1), .val (.int p2), .val (.int p3), .val (.int p4), .val (.int n), .val (.int c0), .val (.int c1), .val (.int c2), .val (.int c3), .val (.ref a), .val (.int r0), .val (.int r1), .val (.int r2), .val (.int r3), .unset] [.int (0 : Int32)]
            refine OwnKit.istore K at_162 (l' := #[.val (.int p0), .val (.int p1), .val (.int p2), .val (.int p3), .val (.int p4), .val (.int n), .val (.int c0), .val (.int c1), .val (.int c2), .val (.int c3), .val (.ref a), .val (.int r0), .val (.int r1), .val (.int r2), .val (.int r3), .val (.int (0 : Int32))]) rfl ?_
            show OwnKit.Go κ h9 4 20 164 #[.val (.int p0), .val (.int p1), .val (.int p2), .val (.int p3), .val (.int p4), .val (.int n), .val (.int c0), .val (.int c1), .val (.int c2), .val (.int c3), .val (.ref a), .val (.int r0), .val (.int r1), .val (.int r2), .val (.int r3), .val (.int (0 : Int32))] []
            exact J164 _ _ _ _ _ (Or.inr ⟨fun q => (own_bit1 ho1).mp b18 q.2.2.1, rfl⟩)
          · show OwnKit.Go κ h9 4 20 147 #[.val (.int p0), .val (.int p1), .val (.int p2), .val (.int p3), .val (.int p4), .val (.int n), .val (.int c0), .val (.int c1), .val (.int c2), .val (.int c3), .val (.ref a), .val (.int r0), .val (.int r1), .val (.int r2), .val (.int r3), .unset] []
            refine OwnKit.iload K at_147 rfl ?_
            show OwnKit.Go κ h9 4 20 149 #[.val (.int p0), .val (.int p1), .val (.int p2), .val (.int p3), .val (.int p4), .val (.int n), .val (.int c0), .val (.int c1), .val (.int c2), .val (.int c3), .val (.ref a), .val (.int r0), .val (.int r1), .val (.int r2), .val (.int r3), .unset] [.int r2]
            refine OwnKit.ifeq K at_149 (by decide) (pc' := 161) rfl  (fun b19 => ?_) (fun b19 => ?_)
            · show OwnKit.Go κ h9 4 20 161 #[.val (.int p0), .val (.int p1), .val (.int p2), .val (.int p3), .val (.int p4), .val (.int n), .val (.int c0), .val (.int c1), .val (.int c2), .val (.int c3), .val (.ref a), .val (.int r0), .val (.int r1), .val (.int r2), .val (.int r3), .unset] []
              refine OwnKit.iconst K at_161 ?_
              show OwnKit.Go κ h9 4 20 162 #[.val (.int p0), .val (.int p1), .val (.int p2), .val (.int p3), .val (.int p4), .val (.int n), .val (.int c0), .val (.int c1), .val (.int c2), .val (.int c3), .val (.ref a), .val (.int r0), .val (.int r1), .val (.int r2), .val (.int r3), .unset] [.int (0 : Int32)]
              refine OwnKit.istore K at_162 (l' := #[.val (.int p0), .val (.int p1), .val (.int p2), .val (.int p3), .val (.int p4), .val (.int n), .val (.int c0), .val (.int c1), .val (.int c2), .val (.int c3), .val (.ref a), .val (.int r0), .val (.int r1), .val (.int r2), .val (.int r3), .val (.int (0 : Int32))]) rfl ?_
              show OwnKit.Go κ h9 4 20 164 #[.val (.int p0), .val (.int p1), .val (.int p2), .val (.int p3), .val (.int p4), .val (.int n), .val (.int c0), .val (.int c1), .val (.int c2), .val (.int c3), .val (.ref a), .val (.int r0), .val (.int r1), .val (.int r2), .val (.int r3), .val (.int (0 : Int32))] []
              exact J164 _ _ _ _ _ (Or.inr ⟨fun q => (own_bit1 ho2).mp b19 q.2.2.2.1, rfl⟩)
            · show OwnKit.Go κ h9 4 20 152 #[.val (.int p0), .val (.int p1), .val (.int p2), .val (.int p3), .val (.int p4), .val (.int n), .val (.int c0), .val (.int c1), .val (.int c2), .val (.int c3), .val (.ref a), .val (.int r0), .val (.int r1), .val (.int r2), .val (.int r3), .unset] []
              refine OwnKit.iload K at_152 rfl ?_
              show OwnKit.Go κ h9 4 20 154 #[.val (.int p0), .val (.int p1), .val (.int p2), .val (.int p3), .val (.int p4), .val (.int n), .val (.int c0), .val (.int c1), .val (.int c2), .val (.int c3), .val (.ref a), .val (.int r0), .val (.int r1), .val (.int r2), .val (.int r3), .unset] [.int r3]
              refine OwnKit.ifeq K at_154 (by decide) (pc' := 161) rfl  (fun b20 => ?_) (fun b20 => ?_)
              · show OwnKit.Go κ h9 4 20 161 #[.val (.int p0), .val (.int p1), .val (.int p2), .val (.int p3), .val (.int p4), .val (.int n), .val (.int c0), .val (.int c1), .val (.int c2), .val (.int c3), .val (.ref a), .val (.int r0), .val (.int r1), .val (.int r2), .val (.int r3), .unset] []
                refine OwnKit.iconst K at_161 ?_
                show OwnKit.Go κ h9 4 20 162 #[.val (.int p0), .val (.int p1), .val (.int p2), .val (.int p3), .val (.int p4), .val (.int n), .val (.int c0), .val (.int c1), .val (.int c2), .val (.int c3), .val (.ref a), .val (.int r0), .val (.int r1), .val (.int r2), .val (.int r3), .unset] [.int (0 : Int32)]
                refine OwnKit.istore K at_162 (l' := #[.val (.int p0), .val (.int p1), .val (.int p2), .val (.int p3), .val (.int p4), .val (.int n), .val (.int c0), .val (.int c1), .val (.int c2), .val (.int c3), .val (.ref a), .val (.int r0), .val (.int r1), .val (.int r2), .val (.int r3), .val (.int (0 : Int32))]) rfl ?_
                show OwnKit.Go κ h9 4 20 164 #[.val (.int p0), .val (.int p1), .val (.int p2), .val (.int p3), .val (.int p4), .val (.int n), .val (.int c0), .val (.int c1), .val (.int c2), .val (.int c3), .val (.ref a), .val (.int r0), .val (.int r1), .val (.int r2), .val (.int r3), .val (.int (0 : Int32))] []
                exact J164 _ _ _ _ _ (Or.inr ⟨fun q => (own_bit1 ho3).mp b20 q.2.2.2.2, rfl⟩)
              · show OwnKit.Go κ h9 4 20 157 #[.val (.int p0), .val (.int p1), .val (.int p2), .val (.int p3), .val (.int p4), .val (.int n), .val (.int c0), .val (.int c1), .val (.int c2), .val (.int c3), .val (.ref a), .val (.int r0), .val (.int r1), .val (.int r2), .val (.int r3), .unset] []
                refine OwnKit.iconst K at_157 ?_
                show OwnKit.Go κ h9 4 20 158 #[.val (.int p0), .val (.int p1), .val (.int p2), .val (.int p3), .val (.int p4), .val (.int n), .val (.int c0), .val (.int c1), .val (.int c2), .val (.int c3), .val (.ref a), .val (.int r0), .val (.int r1), .val (.int r2), .val (.int r3), .unset] [.int (1 : Int32)]
                refine OwnKit.goto K at_158 (by decide) (pc' := 162) rfl ?_
                show OwnKit.Go κ h9 4 20 162 #[.val (.int p0), .val (.int p1), .val (.int p2), .val (.int p3), .val (.int p4), .val (.int n), .val (.int c0), .val (.int c1), .val (.int c2), .val (.int c3), .val (.ref a), .val (.int r0), .val (.int r1), .val (.int r2), .val (.int r3), .unset] [.int (1 : Int32)]
                refine OwnKit.istore K at_162 (l' := #[.val (.int p0), .val (.int p1), .val (.int p2), .val (.int p3), .val (.int p4), .val (.int n), .val (.int c0), .val (.int c1), .val (.int c2), .val (.int c3), .val (.ref a), .val (.int r0), .val (.int r1), .val (.int r2), .val (.int r3), .val (.int (1 : Int32))]) rfl ?_
                show OwnKit.Go κ h9 4 20 164 #[.val (.int p0), .val (.int p1), .val (.int p2), .val (.int p3), .val (.int p4), .val (.int n), .val (.int c0), .val (.int c1), .val (.int c2), .val (.int c3), .val (.ref a), .val (.int r0), .val (.int r1), .val (.int r2), .val (.int r3), .val (.int (1 : Int32))] []
                exact J164 _ _ _ _ _ (Or.inl ⟨⟨by omega, Classical.byContradiction fun z => b17 ((own_bit1 ho0).mpr z), Classical.byContradiction fun z => b18 ((own_bit1 ho1).mpr z), Classical.byContradiction fun z => b19 ((own_bit1 ho2).mpr z), Classical.byContradiction fun z => b20 ((own_bit1 ho3).mpr z)⟩, rfl⟩)
    have J111 : ∀ (r0 r1 r2 : Int32), own_bit (n.toInt < 1 ∨ own_idP c0) r0 → own_bit (n.toInt < 2 ∨ own_idP c1) r1 → own_bit (n.toInt < 3 ∨ own_idP c2) r2 → OwnKit.Go κ h9 4 20 111 #[.val (.int p0), .val (.int p1), .val (.int p2), .val (.int p3), .val (.int p4), .val (.int n), .val (.int c0), .val (.int c1), .val (.int c2), .val (.int c3), .val (.ref a), .val (.int r0), .val (.int r1), .val (.int r2), .unset, .unset] [] := by
      intro r0 r1 r2 ho0 ho1 ho2
      show OwnKit.Go κ h9 4 20 111 #[.val (.int p0), .val (.int p1), .val (.int p2), .val (.int p3), .val (.int p4), .val (.int n), .val (.int c0), .val (.int c1), .val (.int c2), .val (.int c3), .val (.ref a), .val (.int r0), .val (.int r1), .val (.int r2), .unset, .unset] []
      refine OwnKit.iload K at_111 rfl ?_
      show OwnKit.Go κ h9 4 20 113 #[.val (.int p0), .val (.int p1), .val (.int p2), .val (.int p3), .val (.int p4), .val (.int n), .val (.int c0), .val (.int c1), .val (.int c2), .val (.int c3), .val (.ref a), .val (.int r0), .val (.int r1), .val (.int r2), .unset, .unset] [.int n]
      refine OwnKit.iconst K at_113 ?_
      show OwnKit.Go κ h9 4 20 114 #[.val (.int p0), .val (.int p1), .val (.int p2), .val (.int p3), .val (.int p4), .val (.int n), .val (.int c0), .val (.int c1), .val (.int c2), .val (.int c3), .val (.ref a), .val (.int r0), .val (.int r1), .val (.int r2), .unset, .unset] [.int (4 : Int32), .int n]
      refine OwnKit.icmplt K at_114 (by decide) (pc' := 125) rfl  (fun b21 => ?_) (fun b21 => ?_)
      · show OwnKit.Go κ h9 4 20 125 #[.val (.int p0), .val (.int p1), .val (.int p2), .val (.int p3), .val (.int p4), .val (.int n), .val (.int c0), .val (.int c1), .val (.int c2), .val (.int c3), .val (.ref a), .val (.int r0), .val (.int r1), .val (.int r2), .unset, .unset] []
        refine OwnKit.iconst K at_125 ?_
        show OwnKit.Go κ h9 4 20 126 #[.val (.int p0), .val (.int p1), .val (.int p2), .val (.int p3), .val (.int p4), .val (.int n), .val (.int c0), .val (.int c1), .val (.int c2), .val (.int c3), .val (.ref a), .val (.int r0), .val (.int r1), .val (.int r2), .unset, .unset] [.int (1 : Int32)]
        refine OwnKit.goto K at_126 (by decide) (pc' := 130) rfl ?_
        show OwnKit.Go κ h9 4 20 130 #[.val (.int p0), .val (.int p1), .val (.int p2), .val (.int p3), .val (.int p4), .val (.int n), .val (.int c0), .val (.int c1), .val (.int c2), .val (.int c3), .val (.ref a), .val (.int r0), .val (.int r1), .val (.int r2), .unset, .unset] [.int (1 : Int32)]
        refine OwnKit.istore K at_130 (l' := #[.val (.int p0), .val (.int p1), .val (.int p2), .val (.int p3), .val (.int p4), .val (.int n), .val (.int c0), .val (.int c1), .val (.int c2), .val (.int c3), .val (.ref a), .val (.int r0), .val (.int r1), .val (.int r2), .val (.int (1 : Int32)), .unset]) rfl ?_
        show OwnKit.Go κ h9 4 20 132 #[.val (.int p0), .val (.int p1), .val (.int p2), .val (.int p3), .val (.int p4), .val (.int n), .val (.int c0), .val (.int c1), .val (.int c2), .val (.int c3), .val (.ref a), .val (.int r0), .val (.int r1), .val (.int r2), .val (.int (1 : Int32)), .unset] []
        exact J132 _ _ _ _ ho0 ho1 ho2 (Or.inl ⟨Or.inl (by omega), rfl⟩)
      · show OwnKit.Go κ h9 4 20 117 #[.val (.int p0), .val (.int p1), .val (.int p2), .val (.int p3), .val (.int p4), .val (.int n), .val (.int c0), .val (.int c1), .val (.int c2), .val (.int c3), .val (.ref a), .val (.int r0), .val (.int r1), .val (.int r2), .unset, .unset] []
        refine OwnKit.iload K at_117 rfl ?_
        show OwnKit.Go κ h9 4 20 119 #[.val (.int p0), .val (.int p1), .val (.int p2), .val (.int p3), .val (.int p4), .val (.int n), .val (.int c0), .val (.int c1), .val (.int c2), .val (.int c3), .val (.ref a), .val (.int r0), .val (.int r1), .val (.int r2), .unset, .unset] [.int c3]
        refine OwnKit.invS (y := (⟨"com/example/bale/bale/check/IdsIsWellFormedPinLaw", "idChar", "(C)Z"⟩ : MethodName)) (argsL := [.int c3]) (rest := []) K (c_idc l Z a0 hw n0 h9 c3 hc3.1) at_119 (hw _ (List.mem_of_getElem? (i := 60) rfl)) (hw _ (List.mem_of_getElem? (i := 61) rfl)) (hw _ (List.mem_of_getElem? (i := 3) rfl)) (hw _ (List.mem_of_getElem? (i := 62) rfl)) (by decide) (lenOf (by decide +kernel : parseMethodDescriptor "(C)Z" = some ⟨[.char], some .boolean⟩) rfl) rfl rfl (W := 0) (Nat.le_of_ble_eq_true rfl) (Nat.le_of_ble_eq_true rfl) (Nat.le_of_ble_eq_true rfl) (Nat.le_of_ble_eq_true rfl) (Nat.le_of_ble_eq_true rfl) ?_
        rintro _ h24 ⟨r22, rfl, hr23, rfl⟩ g25
        show OwnKit.Go κ h9 4 20 122 #[.val (.int p0), .val (.int p1), .val (.int p2), .val (.int p3), .val (.int p4), .val (.int n), .val (.int c0), .val (.int c1), .val (.int c2), .val (.int c3), .val (.ref a), .val (.int r0), .val (.int r1), .val (.int r2), .unset, .unset] [.int r22]
        refine OwnKit.ifeq K at_122 (by decide) (pc' := 129) rfl  (fun b26 => ?_) (fun b26 => ?_)
        · show OwnKit.Go κ h9 4 20 129 #[.val (.int p0), .val (.int p1), .val (.int p2), .val (.int p3), .val (.int p4), .val (.int n), .val (.int c0), .val (.int c1), .val (.int c2), .val (.int c3), .val (.ref a), .val (.int r0), .val (.int r1), .val (.int r2), .unset, .unset] []
          refine OwnKit.iconst K at_129 ?_
          show OwnKit.Go κ h9 4 20 130 #[.val (.int p0), .val (.int p1), .val (.int p2), .val (.int p3), .val (.int p4), .val (.int n), .val (.int c0), .val (.int c1), .val (.int c2), .val (.int c3), .val (.ref a), .val (.int r0), .val (.int r1), .val (.int r2), .unset, .unset] [.int (0 : Int32)]
          refine OwnKit.istore K at_130 (l' := #[.val (.int p0), .val (.int p1), .val (.int p2), .val (.int p3), .val (.int p4), .val (.int n), .val (.int c0), .val (.int c1), .val (.int c2), .val (.int c3), .val (.ref a), .val (.int r0), .val (.int r1), .val (.int r2), .val (.int (0 : Int32)), .unset]) rfl ?_
          show OwnKit.Go κ h9 4 20 132 #[.val (.int p0), .val (.int p1), .val (.int p2), .val (.int p3), .val (.int p4), .val (.int n), .val (.int c0), .val (.int c1), .val (.int c2), .val (.int c3), .val (.ref a), .val (.int r0), .val (.int r1), .val (.int r2), .val (.int (0 : Int32)), .unset] []
          exact J132 _ _ _ _ ho0 ho1 ho2 (Or.inr ⟨fun q => q.elim (fun y => by omega) (fun y => (own_bit1 hr23).mp b26 y), rfl⟩)
        · show OwnKit.Go κ h9 4 20 125 #[.val (.int p0), .val (.int p1), .val (.int p2), .val (.int p3), .val (.int p4), .val (.int n), .val (.int c0), .val (.int c1), .val (.int c2), .val (.int c3), .val (.ref a), .val (.int r0), .val (.int r1), .val (.int r2), .unset, .unset] []
          refine OwnKit.iconst K at_125 ?_
          show OwnKit.Go κ h9 4 20 126 #[.val (.int p0), .val (.int p1), .val (.int p2), .val (.int p3), .val (.int p4), .val (.int n), .val (.int c0), .val (.int c1), .val (.int c2), .val (.int c3), .val (.ref a), .val (.int r0), .val (.int r1), .val (.int r2), .unset, .unset] [.int (1 : Int32)]
          refine OwnKit.goto K at_126 (by decide) (pc' := 130) rfl ?_
          show OwnKit.Go κ h9 4 20 130 #[.val (.int p0), .val (.int p1), .val (.int p2), .val (.int p3), .val (.int p4), .val (.int n), .val (.int c0), .val (.int c1), .val (.int c2), .val (.int c3), .val (.ref a), .val (.int r0), .val (.int r1), .val (.int r2), .unset, .unset] [.int (1 : Int32)]
          refine OwnKit.istore K at_130 (l' := #[.val (.int p0), .val (.int p1), .val (.int p2), .val (.int p3), .val (.int p4), .val (.int n), .val (.int c0), .val (.int c1), .val (.int c2), .val (.int c3), .val (.ref a), .val (.int r0), .val (.int r1), .val (.int r2), .val (.int (1 : Int32)), .unset]) rfl ?_
          show OwnKit.Go κ h9 4 20 132 #[.val (.int p0), .val (.int p1), .val (.int p2), .val (.int p3), .val (.int p4), .val (.int n), .val (.int c0), .val (.int c1), .val (.int c2), .val (.int c3), .val (.ref a), .val (.int r0), .val (.int r1), .val (.int r2), .val (.int (1 : Int32)), .unset] []
          exact J132 _ _ _ _ ho0 ho1 ho2 (Or.inl ⟨Or.inr (Classical.byContradiction fun z => b26 ((own_bit1 hr23).mpr z)), rfl⟩)
    have J90 : ∀ (r0 r1 : Int32), own_bit (n.toInt < 1 ∨ own_idP c0) r0 → own_bit (n.toInt < 2 ∨ own_idP c1) r1 → OwnKit.Go κ h9 4 20 90 #[.val (.int p0), .val (.int p1), .val (.int p2), .val (.int p3), .val (.int p4), .val (.int n), .val (.int c0), .val (.int c1), .val (.int c2), .val (.int c3), .val (.ref a), .val (.int r0), .val (.int r1), .unset, .unset, .unset] [] := by
      intro r0 r1 ho0 ho1
      show OwnKit.Go κ h9 4 20 90 #[.val (.int p0), .val (.int p1), .val (.int p2), .val (.int p3), .val (.int p4), .val (.int n), .val (.int c0), .val (.int c1), .val (.int c2), .val (.int c3), .val (.ref a), .val (.int r0), .val (.int r1), .unset, .unset, .unset] []
      refine OwnKit.iload K at_90 rfl ?_
      show OwnKit.Go κ h9 4 20 92 #[.val (.int p0), .val (.int p1), .val (.int p2), .val (.int p3), .val (.int p4), .val (.int n), .val (.int c0), .val (.int c1), .val (.int c2), .val (.int c3), .val (.ref a), .val (.int r0), .val (.int r1), .unset, .unset, .unset] [.int n]
      refine OwnKit.iconst K at_92 ?_
      show OwnKit.Go κ h9 4 20 93 #[.val (.int p0), .val (.int p1), .val (.int p2), .val (.int p3), .val (.int p4), .val (.int n), .val (.int c0), .val (.int c1), .val (.int c2), .val (.int c3), .val (.ref a), .val (.int r0), .val (.int r1), .unset, .unset, .unset] [.int (3 : Int32), .int n]
      refine OwnKit.icmplt K at_93 (by decide) (pc' := 104) rfl  (fun b27 => ?_) (fun b27 => ?_)
      · show OwnKit.Go κ h9 4 20 104 #[.val (.int p0), .val (.int p1), .val (.int p2), .val (.int p3), .val (.int p4), .val (.int n), .val (.int c0), .val (.int c1), .val (.int c2), .val (.int c3), .val (.ref a), .val (.int r0), .val (.int r1), .unset, .unset, .unset] []
        refine OwnKit.iconst K at_104 ?_
        show OwnKit.Go κ h9 4 20 105 #[.val (.int p0), .val (.int p1), .val (.int p2), .val (.int p3), .val (.int p4), .val (.int n), .val (.int c0), .val (.int c1), .val (.int c2), .val (.int c3), .val (.ref a), .val (.int r0), .val (.int r1), .unset, .unset, .unset] [.int (1 : Int32)]
        refine OwnKit.goto K at_105 (by decide) (pc' := 109) rfl ?_
        show OwnKit.Go κ h9 4 20 109 #[.val (.int p0), .val (.int p1), .val (.int p2), .val (.int p3), .val (.int p4), .val (.int n), .val (.int c0), .val (.int c1), .val (.int c2), .val (.int c3), .val (.ref a), .val (.int r0), .val (.int r1), .unset, .unset, .unset] [.int (1 : Int32)]
        refine OwnKit.istore K at_109 (l' := #[.val (.int p0), .val (.int p1), .val (.int p2), .val (.int p3), .val (.int p4), .val (.int n), .val (.int c0), .val (.int c1), .val (.int c2), .val (.int c3), .val (.ref a), .val (.int r0), .val (.int r1), .val (.int (1 : Int32)), .unset, .unset]) rfl ?_
        show OwnKit.Go κ h9 4 20 111 #[.val (.int p0), .val (.int p1), .val (.int p2), .val (.int p3), .val (.int p4), .val (.int n), .val (.int c0), .val (.int c1), .val (.int c2), .val (.int c3), .val (.ref a), .val (.int r0), .val (.int r1), .val (.int (1 : Int32)), .unset, .unset] []
        exact J111 _ _ _ ho0 ho1 (Or.inl ⟨Or.inl (by omega), rfl⟩)
      · show OwnKit.Go κ h9 4 20 96 #[.val (.int p0), .val (.int p1), .val (.int p2), .val (.int p3), .val (.int p4), .val (.int n), .val (.int c0), .val (.int c1), .val (.int c2), .val (.int c3), .val (.ref a), .val (.int r0), .val (.int r1), .unset, .unset, .unset] []
        refine OwnKit.iload K at_96 rfl ?_
        show OwnKit.Go κ h9 4 20 98 #[.val (.int p0), .val (.int p1), .val (.int p2), .val (.int p3), .val (.int p4), .val (.int n), .val (.int c0), .val (.int c1), .val (.int c2), .val (.int c3), .val (.ref a), .val (.int r0), .val (.int r1), .unset, .unset, .unset] [.int c2]
        refine OwnKit.invS (y := (⟨"com/example/bale/bale/check/IdsIsWellFormedPinLaw", "idChar", "(C)Z"⟩ : MethodName)) (argsL := [.int c2]) (rest := []) K (c_idc l Z a0 hw n0 h9 c2 hc2.1) at_98 (hw _ (List.mem_of_getElem? (i := 60) rfl)) (hw _ (List.mem_of_getElem? (i := 61) rfl)) (hw _ (List.mem_of_getElem? (i := 3) rfl)) (hw _ (List.mem_of_getElem? (i := 62) rfl)) (by decide) (lenOf (by decide +kernel : parseMethodDescriptor "(C)Z" = some ⟨[.char], some .boolean⟩) rfl) rfl rfl (W := 0) (Nat.le_of_ble_eq_true rfl) (Nat.le_of_ble_eq_true rfl) (Nat.le_of_ble_eq_true rfl) (Nat.le_of_ble_eq_true rfl) (Nat.le_of_ble_eq_true rfl) ?_
        rintro _ h30 ⟨r28, rfl, hr29, rfl⟩ g31
        show OwnKit.Go κ h9 4 20 101 #[.val (.int p0), .val (.int p1), .val (.int p2), .val (.int p3), .val (.int p4), .val (.int n), .val (.int c0), .val (.int c1), .val (.int c2), .val (.int c3), .val (.ref a), .val (.int r0), .val (.int r1), .unset, .unset, .unset] [.int r28]
        refine OwnKit.ifeq K at_101 (by decide) (pc' := 108) rfl  (fun b32 => ?_) (fun b32 => ?_)
        · show OwnKit.Go κ h9 4 20 108 #[.val (.int p0), .val (.int p1), .val (.int p2), .val (.int p3), .val (.int p4), .val (.int n), .val (.int c0), .val (.int c1), .val (.int c2), .val (.int c3), .val (.ref a), .val (.int r0), .val (.int r1), .unset, .unset, .unset] []
          refine OwnKit.iconst K at_108 ?_
          show OwnKit.Go κ h9 4 20 109 #[.val (.int p0), .val (.int p1), .val (.int p2), .val (.int p3), .val (.int p4), .val (.int n), .val (.int c0), .val (.int c1), .val (.int c2), .val (.int c3), .val (.ref a), .val (.int r0), .val (.int r1), .unset, .unset, .unset] [.int (0 : Int32)]
          refine OwnKit.istore K at_109 (l' := #[.val (.int p0), .val (.int p1), .val (.int p2), .val (.int p3), .val (.int p4), .val (.int n), .val (.int c0), .val (.int c1), .val (.int c2), .val (.int c3), .val (.ref a), .val (.int r0), .val (.int r1), .val (.int (0 : Int32)), .unset, .unset]) rfl ?_
          show OwnKit.Go κ h9 4 20 111 #[.val (.int p0), .val (.int p1), .val (.int p2), .val (.int p3), .val (.int p4), .val (.int n), .val (.int c0), .val (.int c1), .val (.int c2), .val (.int c3), .val (.ref a), .val (.int r0), .val (.int r1), .val (.int (0 : Int32)), .unset, .unset] []
          exact J111 _ _ _ ho0 ho1 (Or.inr ⟨fun q => q.elim (fun y => by omega) (fun y => (own_bit1 hr29).mp b32 y), rfl⟩)
        · show OwnKit.Go κ h9 4 20 104 #[.val (.int p0), .val (.int p1), .val (.int p2), .val (.int p3), .val (.int p4), .val (.int n), .val (.int c0), .val (.int c1), .val (.int c2), .val (.int c3), .val (.ref a), .val (.int r0), .val (.int r1), .unset, .unset, .unset] []
          refine OwnKit.iconst K at_104 ?_
          show OwnKit.Go κ h9 4 20 105 #[.val (.int p0), .val (.int p1), .val (.int p2), .val (.int p3), .val (.int p4), .val (.int n), .val (.int c0), .val (.int c1), .val (.int c2), .val (.int c3), .val (.ref a), .val (.int r0), .val (.int r1), .unset, .unset, .unset] [.int (1 : Int32)]
          refine OwnKit.goto K at_105 (by decide) (pc' := 109) rfl ?_
          show OwnKit.Go κ h9 4 20 109 #[.val (.int p0), .val (.int p1), .val (.int p2), .val (.int p3), .val (.int p4), .val (.int n), .val (.int c0), .val (.int c1), .val (.int c2), .val (.int c3), .val (.ref a), .val (.int r0), .val (.int r1), .unset, .unset, .unset] [.int (1 : Int32)]
          refine OwnKit.istore K at_109 (l' := #[.val (.int p0), .val (.int p1), .val (.int p2), .val (.int p3), .val (.int p4), .val (.int n), .val (.int c0), .val (.int c1), .val (.int c2), .val (.int c3), .val (.ref a), .val (.int r0), .val (.int r1), .val (.int (1 : Int32)), .unset, .unset]) rfl ?_
          show OwnKit.Go κ h9 4 20 111 #[.val (.int p0), .val (.int p1), .val (.int p2), .val (.int p3), .val (.int p4), .val (.int n), .val (.int c0), .val (.int c1), .val (.int c2), .val (.int c3), .val (.ref a), .val (.int r0), .val (.int r1), .val (.int (1 : Int32)), .unset, .unset] []
          exact J111 _ _ _ ho0 ho1 (Or.inl ⟨Or.inr (Classical.byContradiction fun z => b32 ((own_bit1 hr29).mpr z)), rfl⟩)
    have J69 : ∀ (r0 : Int32), own_bit (n.toInt < 1 ∨ own_idP c0) r0 → OwnKit.Go κ h9 4 20 69 #[.val (.int p0), .val (.int p1), .val (.int p2), .val (.int p3), .val (.int p4), .val (.int n), .val (.int c0), .val (.int c1), .val (.int c2), .val (.int c3), .val (.ref a), .val (.int r0), .unset, .unset, .unset, .unset] [] := by
      intro r0 ho0
      show OwnKit.Go κ h9 4 20 69 #[.val (.int p0), .val (.int p1), .val (.int p2), .val (.int p3), .val (.int p4), .val (.int n), .val (.int c0), .val (.int c1), .val (.int c2), .val (.int c3), .val (.ref a), .val (.int r0), .unset, .unset, .unset, .unset] []
      refine OwnKit.iload K at_69 rfl ?_
      show OwnKit.Go κ h9 4 20 71 #[.val (.int p0), .val (.int p1), .val (.int p2), .val (.int p3), .val (.int p4), .val (.int n), .val (.int c0), .val (.int c1), .val (.int c2), .val (.int c3), .val (.ref a), .val (.int r0), .unset, .unset, .unset, .unset] [.int n]
      refine OwnKit.iconst K at_71 ?_
      show OwnKit.Go κ h9 4 20 72 #[.val (.int p0), .val (.int p1), .val (.int p2), .val (.int p3), .val (.int p4), .val (.int n), .val (.int c0), .val (.int c1), .val (.int c2), .val (.int c3), .val (.ref a), .val (.int r0), .unset, .unset, .unset, .unset] [.int (2 : Int32), .int n]
      refine OwnKit.icmplt K at_72 (by decide) (pc' := 83) rfl  (fun b33 => ?_) (fun b33 => ?_)
      · show OwnKit.Go κ h9 4 20 83 #[.val (.int p0), .val (.int p1), .val (.int p2), .val (.int p3), .val (.int p4), .val (.int n), .val (.int c0), .val (.int c1), .val (.int c2), .val (.int c3), .val (.ref a), .val (.int r0), .unset, .unset, .unset, .unset] []
        refine OwnKit.iconst K at_83 ?_
        show OwnKit.Go κ h9 4 20 84 #[.val (.int p0), .val (.int p1), .val (.int p2), .val (.int p3), .val (.int p4), .val (.int n), .val (.int c0), .val (.int c1), .val (.int c2), .val (.int c3), .val (.ref a), .val (.int r0), .unset, .unset, .unset, .unset] [.int (1 : Int32)]
        refine OwnKit.goto K at_84 (by decide) (pc' := 88) rfl ?_
        show OwnKit.Go κ h9 4 20 88 #[.val (.int p0), .val (.int p1), .val (.int p2), .val (.int p3), .val (.int p4), .val (.int n), .val (.int c0), .val (.int c1), .val (.int c2), .val (.int c3), .val (.ref a), .val (.int r0), .unset, .unset, .unset, .unset] [.int (1 : Int32)]
        refine OwnKit.istore K at_88 (l' := #[.val (.int p0), .val (.int p1), .val (.int p2), .val (.int p3), .val (.int p4), .val (.int n), .val (.int c0), .val (.int c1), .val (.int c2), .val (.int c3), .val (.ref a), .val (.int r0), .val (.int (1 : Int32)), .unset, .unset, .unset]) rfl ?_
        show OwnKit.Go κ h9 4 20 90 #[.val (.int p0), .val (.int p1), .val (.int p2), .val (.int p3), .val (.int p4), .val (.int n), .val (.int c0), .val (.int c1), .val (.int c2), .val (.int c3), .val (.ref a), .val (.int r0), .val (.int (1 : Int32)), .unset, .unset, .unset] []
        exact J90 _ _ ho0 (Or.inl ⟨Or.inl (by omega), rfl⟩)
      · show OwnKit.Go κ h9 4 20 75 #[.val (.int p0), .val (.int p1), .val (.int p2), .val (.int p3), .val (.int p4), .val (.int n), .val (.int c0), .val (.int c1), .val (.int c2), .val (.int c3), .val (.ref a), .val (.int r0), .unset, .unset, .unset, .unset] []
        refine OwnKit.iload K at_75 rfl ?_
        show OwnKit.Go κ h9 4 20 77 #[.val (.int p0), .val (.int p1), .val (.int p2), .val (.int p3), .val (.int p4), .val (.int n), .val (.int c0), .val (.int c1), .val (.int c2), .val (.int c3), .val (.ref a), .val (.int r0), .unset, .unset, .unset, .unset] [.int c1]
        refine OwnKit.invS (y := (⟨"com/example/bale/bale/check/IdsIsWellFormedPinLaw", "idChar", "(C)Z"⟩ : MethodName)) (argsL := [.int c1]) (rest := []) K (c_idc l Z a0 hw n0 h9 c1 hc1.1) at_77 (hw _ (List.mem_of_getElem? (i := 60) rfl)) (hw _ (List.mem_of_getElem? (i := 61) rfl)) (hw _ (List.mem_of_getElem? (i := 3) rfl)) (hw _ (List.mem_of_getElem? (i := 62) rfl)) (by decide) (lenOf (by decide +kernel : parseMethodDescriptor "(C)Z" = some ⟨[.char], some .boolean⟩) rfl) rfl rfl (W := 0) (Nat.le_of_ble_eq_true rfl) (Nat.le_of_ble_eq_true rfl) (Nat.le_of_ble_eq_true rfl) (Nat.le_of_ble_eq_true rfl) (Nat.le_of_ble_eq_true rfl) ?_
        rintro _ h36 ⟨r34, rfl, hr35, rfl⟩ g37
        show OwnKit.Go κ h9 4 20 80 #[.val (.int p0), .val (.int p1), .val (.int p2), .val (.int p3), .val (.int p4), .val (.int n), .val (.int c0), .val (.int c1), .val (.int c2), .val (.int c3), .val (.ref a), .val (.int r0), .unset, .unset, .unset, .unset] [.int r34]
        refine OwnKit.ifeq K at_80 (by decide) (pc' := 87) rfl  (fun b38 => ?_) (fun b38 => ?_)
        · show OwnKit.Go κ h9 4 20 87 #[.val (.int p0), .val (.int p1), .val (.int p2), .val (.int p3), .val (.int p4), .val (.int n), .val (.int c0), .val (.int c1), .val (.int c2), .val (.int c3), .val (.ref a), .val (.int r0), .unset, .unset, .unset, .unset] []
          refine OwnKit.iconst K at_87 ?_
          show OwnKit.Go κ h9 4 20 88 #[.val (.int p0), .val (.int p1), .val (.int p2), .val (.int p3), .val (.int p4), .val (.int n), .val (.int c0), .val (.int c1), .val (.int c2), .val (.int c3), .val (.ref a), .val (.int r0), .unset, .unset, .unset, .unset] [.int (0 : Int32)]
          refine OwnKit.istore K at_88 (l' := #[.val (.int p0), .val (.int p1), .val (.int p2), .val (.int p3), .val (.int p4), .val (.int n), .val (.int c0), .val (.int c1), .val (.int c2), .val (.int c3), .val (.ref a), .val (.int r0), .val (.int (0 : Int32)), .unset, .unset, .unset]) rfl ?_
          show OwnKit.Go κ h9 4 20 90 #[.val (.int p0), .val (.int p1), .val (.int p2), .val (.int p3), .val (.int p4), .val (.int n), .val (.int c0), .val (.int c1), .val (.int c2), .val (.int c3), .val (.ref a), .val (.int r0), .val (.int (0 : Int32)), .unset, .unset, .unset] []
          exact J90 _ _ ho0 (Or.inr ⟨fun q => q.elim (fun y => by omega) (fun y => (own_bit1 hr35).mp b38 y), rfl⟩)
        · show OwnKit.Go κ h9 4 20 83 #[.val (.int p0), .val (.int p1), .val (.int p2), .val (.int p3), .val (.int p4), .val (.int n), .val (.int c0), .val (.int c1), .val (.int c2), .val (.int c3), .val (.ref a), .val (.int r0), .unset, .unset, .unset, .unset] []
          refine OwnKit.iconst K at_83 ?_
          show OwnKit.Go κ h9 4 20 84 #[.val (.int p0), .val (.int p1), .val (.int p2), .val (.int p3), .val (.int p4), .val (.int n), .val (.int c0), .val (.int c1), .val (.int c2), .val (.int c3), .val (.ref a), .val (.int r0), .unset, .unset, .unset, .unset] [.int (1 : Int32)]
          refine OwnKit.goto K at_84 (by decide) (pc' := 88) rfl ?_
          show OwnKit.Go κ h9 4 20 88 #[.val (.int p0), .val (.int p1), .val (.int p2), .val (.int p3), .val (.int p4), .val (.int n), .val (.int c0), .val (.int c1), .val (.int c2), .val (.int c3), .val (.ref a), .val (.int r0), .unset, .unset, .unset, .unset] [.int (1 : Int32)]
          refine OwnKit.istore K at_88 (l' := #[.val (.int p0), .val (.int p1), .val (.int p2), .val (.int p3), .val (.int p4), .val (.int n), .val (.int c0), .val (.int c1), .val (.int c2), .val (.int c3), .val (.ref a), .val (.int r0), .val (.int (1 : Int32)), .unset, .unset, .unset]) rfl ?_
          show OwnKit.Go κ h9 4 20 90 #[.val (.int p0), .val (.int p1), .val (.int p2), .val (.int p3), .val (.int p4), .val (.int n), .val (.int c0), .val (.int c1), .val (.int c2), .val (.int c3), .val (.ref a), .val (.int r0), .val (.int (1 : Int32)), .unset, .unset, .unset] []
          exact J90 _ _ ho0 (Or.inl ⟨Or.inr (Classical.byContradiction fun z => b38 ((own_bit1 hr35).mpr z)), rfl⟩)
    show OwnKit.Go κ h9 4 20 46 #[.val (.int p0), .val (.int p1), .val (.int p2), .val (.int p3), .val (.int p4), .val (.int n), .val (.int c0), .val (.int c1), .val (.int c2), .val (.int c3), .unset, .unset, .unset, .unset, .unset, .unset] [.ref a]
    refine OwnKit.astore K at_46 rfl (l' := #[.val (.int p0), .val (.int p1), .val (.int p2), .val (.int p3), .val (.int p4), .val (.int n), .val (.int c0), .val (.int c1), .val (.int c2), .val (.int c3), .val (.ref a), .unset, .unset, .unset, .unset, .unset]) rfl ?_
    show OwnKit.Go κ h9 4 20 48 #[.val (.int p0), .val (.int p1), .val (.int p2), .val (.int p3), .val (.int p4), .val (.int n), .val (.int c0), .val (.int c1), .val (.int c2), .val (.int c3), .val (.ref a), .unset, .unset, .unset, .unset, .unset] []
    refine OwnKit.iload K at_48 rfl ?_
    show OwnKit.Go κ h9 4 20 50 #[.val (.int p0), .val (.int p1), .val (.int p2), .val (.int p3), .val (.int p4), .val (.int n), .val (.int c0), .val (.int c1), .val (.int c2), .val (.int c3), .val (.ref a), .unset, .unset, .unset, .unset, .unset] [.int n]
    refine OwnKit.iconst K at_50 ?_
    show OwnKit.Go κ h9 4 20 51 #[.val (.int p0), .val (.int p1), .val (.int p2), .val (.int p3), .val (.int p4), .val (.int n), .val (.int c0), .val (.int c1), .val (.int c2), .val (.int c3), .val (.ref a), .unset, .unset, .unset, .unset, .unset] [.int (1 : Int32), .int n]
    refine OwnKit.icmplt K at_51 (by decide) (pc' := 62) rfl  (fun b39 => ?_) (fun b39 => ?_)
    · show OwnKit.Go κ h9 4 20 62 #[.val (.int p0), .val (.int p1), .val (.int p2), .val (.int p3), .val (.int p4), .val (.int n), .val (.int c0), .val (.int c1), .val (.int c2), .val (.int c3), .val (.ref a), .unset, .unset, .unset, .unset, .unset] []
      refine OwnKit.iconst K at_62 ?_
      show OwnKit.Go κ h9 4 20 63 #[.val (.int p0), .val (.int p1), .val (.int p2), .val (.int p3), .val (.int p4), .val (.int n), .val (.int c0), .val (.int c1), .val (.int c2), .val (.int c3), .val (.ref a), .unset, .unset, .unset, .unset, .unset] [.int (1 : Int32)]
      refine OwnKit.goto K at_63 (by decide) (pc' := 67) rfl ?_
      show OwnKit.Go κ h9 4 20 67 #[.val (.int p0), .val (.int p1), .val (.int p2), .val (.int p3), .val (.int p4), .val (.int n), .val (.int c0), .val (.int c1), .val (.int c2), .val (.int c3), .val (.ref a), .unset, .unset, .unset, .unset, .unset] [.int (1 : Int32)]
      refine OwnKit.istore K at_67 (l' := #[.val (.int p0), .val (.int p1), .val (.int p2), .val (.int p3), .val (.int p4), .val (.int n), .val (.int c0), .val (.int c1), .val (.int c2), .val (.int c3), .val (.ref a), .val (.int (1 : Int32)), .unset, .unset, .unset, .unset]) rfl ?_
      show OwnKit.Go κ h9 4 20 69 #[.val (.int p0), .val (.int p1), .val (.int p2), .val (.int p3), .val (.int p4), .val (.int n), .val (.int c0), .val (.int c1), .val (.int c2), .val (.int c3), .val (.ref a), .val (.int (1 : Int32)), .unset, .unset, .unset, .unset] []
      exact J69 _ (Or.inl ⟨Or.inl (by omega), rfl⟩)
    · show OwnKit.Go κ h9 4 20 54 #[.val (.int p0), .val (.int p1), .val (.int p2), .val (.int p3), .val (.int p4), .val (.int n), .val (.int c0), .val (.int c1), .val (.int c2), .val (.int c3), .val (.ref a), .unset, .unset, .unset, .unset, .unset] []
      refine OwnKit.iload K at_54 rfl ?_
      show OwnKit.Go κ h9 4 20 56 #[.val (.int p0), .val (.int p1), .val (.int p2), .val (.int p3), .val (.int p4), .val (.int n), .val (.int c0), .val (.int c1), .val (.int c2), .val (.int c3), .val (.ref a), .unset, .unset, .unset, .unset, .unset] [.int c0]
      refine OwnKit.invS (y := (⟨"com/example/bale/bale/check/IdsIsWellFormedPinLaw", "idChar", "(C)Z"⟩ : MethodName)) (argsL := [.int c0]) (rest := []) K (c_idc l Z a0 hw n0 h9 c0 hc0.1) at_56 (hw _ (List.mem_of_getElem? (i := 60) rfl)) (hw _ (List.mem_of_getElem? (i := 61) rfl)) (hw _ (List.mem_of_getElem? (i := 3) rfl)) (hw _ (List.mem_of_getElem? (i := 62) rfl)) (by decide) (lenOf (by decide +kernel : parseMethodDescriptor "(C)Z" = some ⟨[.char], some .boolean⟩) rfl) rfl rfl (W := 0) (Nat.le_of_ble_eq_true rfl) (Nat.le_of_ble_eq_true rfl) (Nat.le_of_ble_eq_true rfl) (Nat.le_of_ble_eq_true rfl) (Nat.le_of_ble_eq_true rfl) ?_
      rintro _ h42 ⟨r40, rfl, hr41, rfl⟩ g43
      show OwnKit.Go κ h9 4 20 59 #[.val (.int p0), .val (.int p1), .val (.int p2), .val (.int p3), .val (.int p4), .val (.int n), .val (.int c0), .val (.int c1), .val (.int c2), .val (.int c3), .val (.ref a), .unset, .unset, .unset, .unset, .unset] [.int r40]
      refine OwnKit.ifeq K at_59 (by decide) (pc' := 66) rfl  (fun b44 => ?_) (fun b44 => ?_)
      · show OwnKit.Go κ h9 4 20 66 #[.val (.int p0), .val (.int p1), .val (.int p2), .val (.int p3), .val (.int p4), .val (.int n), .val (.int c0), .val (.int c1), .val (.int c2), .val (.int c3), .val (.ref a), .unset, .unset, .unset, .unset, .unset] []
        refine OwnKit.iconst K at_66 ?_
        show OwnKit.Go κ h9 4 20 67 #[.val (.int p0), .val (.int p1), .val (.int p2), .val (.int p3), .val (.int p4), .val (.int n), .val (.int c0), .val (.int c1), .val (.int c2), .val (.int c3), .val (.ref a), .unset, .unset, .unset, .unset, .unset] [.int (0 : Int32)]
        refine OwnKit.istore K at_67 (l' := #[.val (.int p0), .val (.int p1), .val (.int p2), .val (.int p3), .val (.int p4), .val (.int n), .val (.int c0), .val (.int c1), .val (.int c2), .val (.int c3), .val (.ref a), .val (.int (0 : Int32)), .unset, .unset, .unset, .unset]) rfl ?_
        show OwnKit.Go κ h9 4 20 69 #[.val (.int p0), .val (.int p1), .val (.int p2), .val (.int p3), .val (.int p4), .val (.int n), .val (.int c0), .val (.int c1), .val (.int c2), .val (.int c3), .val (.ref a), .val (.int (0 : Int32)), .unset, .unset, .unset, .unset] []
        exact J69 _ (Or.inr ⟨fun q => q.elim (fun y => by omega) (fun y => (own_bit1 hr41).mp b44 y), rfl⟩)
      · show OwnKit.Go κ h9 4 20 62 #[.val (.int p0), .val (.int p1), .val (.int p2), .val (.int p3), .val (.int p4), .val (.int n), .val (.int c0), .val (.int c1), .val (.int c2), .val (.int c3), .val (.ref a), .unset, .unset, .unset, .unset, .unset] []
        refine OwnKit.iconst K at_62 ?_
        show OwnKit.Go κ h9 4 20 63 #[.val (.int p0), .val (.int p1), .val (.int p2), .val (.int p3), .val (.int p4), .val (.int n), .val (.int c0), .val (.int c1), .val (.int c2), .val (.int c3), .val (.ref a), .unset, .unset, .unset, .unset, .unset] [.int (1 : Int32)]
        refine OwnKit.goto K at_63 (by decide) (pc' := 67) rfl ?_
        show OwnKit.Go κ h9 4 20 67 #[.val (.int p0), .val (.int p1), .val (.int p2), .val (.int p3), .val (.int p4), .val (.int n), .val (.int c0), .val (.int c1), .val (.int c2), .val (.int c3), .val (.ref a), .unset, .unset, .unset, .unset, .unset] [.int (1 : Int32)]
        refine OwnKit.istore K at_67 (l' := #[.val (.int p0), .val (.int p1), .val (.int p2), .val (.int p3), .val (.int p4), .val (.int n), .val (.int c0), .val (.int c1), .val (.int c2), .val (.int c3), .val (.ref a), .val (.int (1 : Int32)), .unset, .unset, .unset, .unset]) rfl ?_
        show OwnKit.Go κ h9 4 20 69 #[.val (.int p0), .val (.int p1), .val (.int p2), .val (.int p3), .val (.int p4), .val (.int n), .val (.int c0), .val (.int c1), .val (.int c2), .val (.int c3), .val (.ref a), .val (.int (1 : Int32)), .unset, .unset, .unset, .unset] []
        exact J69 _ (Or.inl ⟨Or.inr (Classical.byContradiction fun z => b44 ((own_bit1 hr41).mpr z)), rfl⟩)
  · intro m; first | rfl | (simp [entryFrame, mkF, argsToLocals, Value.category, maxLocals]; done)

set_option maxRecDepth 65536 in
set_option maxHeartbeats 40000000 in
theorem comes_1 {Post : Tables → Env → Array Value → State → Outcome → State → Prop} (hpost : ∀ tb e args s v u, (limb_1_1.after args s (.returned v) u = true ∧ limb_1_2.after args s (.returned v) u = true ∧ True) → ReturnedEndW s (.returned v) u (Jvm.fieldLocs frame_1_writes args s ++ Jvm.arrayLocs frame_1_arrays args s ++ Jvm.staticLocs frame_1_statics s) 24 1152 → Post tb e args s (.returned v) u) :
    ArmFor flags0 classFile x code maxLocals ret World_1 tables_1 room_1 Calls_1 rest_1 Pre_1 Post := by
  intro l hfl _ _ p e ha hc hk s m args below hf hA hF happ hP
  obtain ⟨hcalls, hrest, hpre⟩ := hP
  obtain ⟨-, -, -, hnamed, -, -, -, hat⟩ := (Spec.applies_iff hf).mp happ
  obtain ⟨hg, hn⟩ := and_e (Cond.before_iff.mp (show (Jvm.Cond.and given_1 narrow_1).before args s = true from hpre))
  obtain ⟨hg0, hg1⟩ := and_e hg
  obtain ⟨hk1, hg2⟩ := and_e hg1
  obtain ⟨hk2, hg3⟩ := and_e hg2
  obtain ⟨hk3, hg4⟩ := and_e hg3
  obtain ⟨hk4, hg5⟩ := and_e hg4
  obtain ⟨w0, w1, w2, w3, w4, rfl⟩ : ∃ w0 w1 w2 w3 w4 : Value, args = #[w0, w1, w2, w3, w4] := by
    have hs : args.size = 5 := by simpa [Cond.value, given_1] using hg0
    obtain ⟨L⟩ := args
    match L, hs with
    | [w0, w1, w2, w3, w4], _ => exact ⟨w0, w1, w2, w3, w4, rfl⟩
  have hw := fun d (hd : d ∈ tables_1) => atoms_spec (ws := Jvm.Cond.code x code maxLocals ret :: tables_1) hat d (List.mem_cons_of_mem _ hd)
  obtain ⟨hsets, hown0⟩ := atoms_of _ (rest_1_c_eq ▸ (show rest_1_c.before _ s = true from hrest))
  have hfit : Fit s := fun {y c} hc i hi => by
    obtain ⟨ha, rfl⟩ := Array.getElem?_eq_some_iff.mp hc
    have q := List.all_eq_true.mp ((Array.all_eq_true_iff_forall_mem.mp hF) _ (Array.getElem_mem ha)) i (List.mem_range.mpr hi)
    simpa [Array.getElem?_eq_getElem hi] using q
  obtain ⟨p0, ep0⟩ := is_v hk1
  obtain rfl : w0 = (.int p0) := Option.some.inj ep0
  obtain ⟨p1, ep1⟩ := is_v hk2
  obtain rfl : w1 = (.int p1) := Option.some.inj ep1
  obtain ⟨p2, ep2⟩ := is_v hk3
  obtain rfl : w2 = (.int p2) := Option.some.inj ep2
  obtain ⟨p3, ep3⟩ := is_v hk4
  obtain rfl : w3 = (.int p3) := Option.some.inj ep3
  obtain ⟨p4, ep4⟩ := is_v hg5
  obtain rfl : w4 = (.int p4) := Option.some.inj ep4
  obtain ⟨i_COMPACT_STRINGS, ev_COMPACT_STRINGS⟩ := is_v (Cond.before_iff.mp (hsets _ (List.mem_of_getElem? (i := 1) rfl)))
  have S_COMPACT_STRINGS := Sta.start ev_COMPACT_STRINGS (Or.inl (hsets _ (List.mem_of_getElem? (i := 0) rfl)))
  have nz_COMPACT_STRINGS : ¬ i_COMPACT_STRINGS = (0 : Int32) := gotF (Cond.eq_ints ev_COMPACT_STRINGS (Term.int_eval (0))) (not_v (Cond.before_iff.mp (hsets _ (List.mem_of_getElem? (i := 2) rfl))))
  obtain ⟨v_SIOOBE_FORMATTER, ev_SIOOBE_FORMATTER, hr_v_SIOOBE_FORMATTER⟩ := isR_v (Cond.before_iff.mp (hsets _ (List.mem_of_getElem? (i := 8) rfl)))
  have S_SIOOBE_FORMATTER := Sta.start ev_SIOOBE_FORMATTER (Or.inl (hsets _ (List.mem_of_getElem? (i := 7) rfl)))
  have ev__assertionsDisabled := OwnKit.staI (Cond.before_iff.mp (hsets _ (List.mem_of_getElem? (i := 12) rfl)))
  have S__assertionsDisabled := Sta.start ev__assertionsDisabled (Or.inl (hsets _ (List.mem_of_getElem? (i := 11) rfl)))
  have ev_HI_BYTE_SHIFT := OwnKit.staI (Cond.before_iff.mp (hsets _ (List.mem_of_getElem? (i := 15) rfl)))
  have S_HI_BYTE_SHIFT := Sta.start ev_HI_BYTE_SHIFT (Or.inl (hsets _ (List.mem_of_getElem? (i := 14) rfl)))
  have ev_LO_BYTE_SHIFT := OwnKit.staI (Cond.before_iff.mp (hsets _ (List.mem_of_getElem? (i := 18) rfl)))
  have S_LO_BYTE_SHIFT := Sta.start ev_LO_BYTE_SHIFT (Or.inl (hsets _ (List.mem_of_getElem? (i := 17) rfl)))
  have hEL : EW s #[Value.int p0, .int p1, .int p2, .int p3, .int p4] [("java/lang/String", 7)] := EW.cons (text := "") (hw _ (List.mem_of_getElem? (i := 22) rfl)) (by simp) EW.nil
  have hCH : CHv s [("java/lang/String", 7)] s.vm s.heap := CHv.start hEL (fun p hp => hcalls.1 p hp) (hsets _ (List.mem_of_getElem? (i := 2) rfl)) (hw _ (List.mem_of_getElem? (i := 23) rfl)) (hw _ (List.mem_of_getElem? (i := 9) rfl))
  obtain ⟨n, o, h1, h2, h3, v, L, rfl, ⟨q1, N, -, -⟩, hq⟩ := (c_law l s _ hw _ s.heap p0 p1 p2 p3 p4 i_COMPACT_STRINGS v_SIOOBE_FORMATTER hEL hCH S_COMPACT_STRINGS nz_COMPACT_STRINGS S_SIOOBE_FORMATTER hr_v_SIOOBE_FORMATTER S__assertionsDisabled S_HI_BYTE_SHIFT S_LO_BYTE_SHIFT) (Old.start s) tables_1 p e ha hc hk s m _ below hf ((Spec.applies_iff_loose hf).mp happ).1 ⟨rfl, State.Warmed39.refl s, rfl, rfl⟩ trivial
  obtain rfl : v = some (.int 1) := q1
  refine ⟨n, _, h1, h2, h3, hpost _ _ _ _ _ _ ⟨Cond.after_iff.mpr rfl, Cond.after_iff.mpr (eq_i res_at (Term.int_eval (1)) rfl), trivial⟩ ⟨hq.2.1, hq.2.2.1, hq.2.2.2.1, (hq.2.2.2.2.sift fun y hy => Or.inr (N y hy)).mono (by decide) (by decide)⟩⟩
theorem main_1_1 : Claimed_1_1 := comes_1 fun _ _ _ _ _ _ h hF => ⟨h.1, hF⟩
theorem main_1_2 : Claimed_1_2 := comes_1 fun _ _ _ _ _ _ h hF => ⟨h.2.1, hF⟩
end Jvm.Pilot.@@N@@
namespace Jvm.Pilot.@@N@@
open Jvm Jvm.ClassFile Sem Op Lib Jvm.Free Jvm.Stand Jvm.Pilot.@@N@@.Jvm.D
/-! MADE BY PROGRAM (witnessworld.py) out of the Statement's table words and the real class files: 20 classes; the members and pool entries that the words name. The judged class is class 1, her method 1. -/
namespace start1
open Jvm.ClassFile
def u (s : String) : CpInfo := .utf8 (stringToUtf16 s)
/-- a pool by its gaps: so many unusable entries, then the entry; so many at the end -/
def gap : Nat → List CpInfo → List CpInfo
  | 0, r => r
  | n + 1, r => .unusable :: gap n r
def poolList (es : List (Nat × CpInfo)) (last : Nat) : List CpInfo := es.foldr (fun e r => gap e.1 (e.2 :: r)) (gap last [])
def pool (es : List (Nat × CpInfo)) (last : Nat) : Array CpInfo := ⟨poolList es last⟩
def fileOf (pool : Array CpInfo) (this : Nat) (attrs : Array Attribute := #[]) (ms : Array MethodInfo := #[]) (fl : Nat := 33) (sup : Nat := 0) (ifs : Array Nat := #[]) (fds : Array FieldInfo := #[]) : ClassFile where
  minorVersion := 0
  majorVersion := 65
  constantPool := pool
  accessFlags := fl
  thisClass := this
  superClass := sup
  interfaces := ifs
  fields := fds
  methods := ms
  attributes := attrs
def plain (name : String) (sup : Option ClassId) : Class where
  name := name
  kind := .ordinary
  loader := none
  accessFlags := 33
  super := sup
  interfaces := #[]
  cf := none
  fields := #[]
  methods := #[]
  instanceTypes := #[]
  staticTypes := #[]
  resolved := #[]
  callSites := []
  init := .initialized
  statics := none
  mirror := none

def pool0 : Array CpInfo := pool [(5, u "<init>"), (0, u "()V"), (1, .class_ 10), (1, u "java/lang/Object")] 113

def k0c0 : Code := { maxStack := 0, maxLocals := 1, code := object_method_1_code, exceptionTable := #[], attributes := #[] }
def k0m0 : Method := { name := "<init>", desc := "()V", sig := { parameters := [], returnType := none }, accessFlags := 1, code := some k0c0 }
/-- java/lang/Object -/
def k0 : Class := { plain "java/lang/Object" none with
  accessFlags := 33
  interfaces := #[]
  cf := some (fileOf pool0 8 #[] #[{ accessFlags := 1, nameIndex := 5, descriptorIndex := 6, attributes := #[] }] 33 0 #[] #[])
  fields := #[]
  methods := #[k0m0]
  instanceTypes := #[]
  staticTypes := #[]
  resolved := Array.replicate 124 none
  statics := none }

def pool1 : Array CpInfo := pool [(2, .class_ 4), (1, u "java/lang/Object"), (0, u "<init>"), (0, u "()V"), (0, .integer 2147483647), (0, .methodref 9 10), (0, .class_ 11), (0, .nameAndType 12 13), (0, u "com/example/bale/bale/check/IdsIsWellFormedPinLaw"), (0, u "draw"), (0, u "(I)C"), (0, .methodref 9 15), (0, .nameAndType 16 17), (0, u "build"), (0, u "(ICCCC)Ljava/lang/String;"), (0, .methodref 9 19), (0, .nameAndType 20 21), (0, u "idChar"), (0, u "(C)Z"), (0, .methodref 23 24), (0, .class_ 25), (0, .nameAndType 26 27), (0, u "com/example/bale/bale/check/Ids"), (0, u "isWellFormed"), (0, u "(Ljava/lang/String;)Z"), (0, .integer 65535), (0, .class_ 30), (0, u "java/lang/String"), (0, .methodref 29 32), (0, .nameAndType 5 33), (0, u "([C)V"), (2, u "law"), (0, u "(IIIII)Z")] 3

def k1m0 : Method := { name := "<init>", desc := "()V", sig := { parameters := [], returnType := none }, accessFlags := 2, code := none }
def k1c1 : Code := { maxStack := 5, maxLocals := 16, code := code, exceptionTable := #[], attributes := #[] }
def k1m1 : Method := { name := "law", desc := "(IIIII)Z", sig := { parameters := [.int, .int, .int, .int, .int], returnType := some .boolean }, accessFlags := 9, code := some k1c1 }
def k1c2 : Code := { maxStack := 2, maxLocals := 1, code := method_3_code, exceptionTable := #[], attributes := #[] }
def k1m2 : Method := { name := "draw", desc := "(I)C", sig := { parameters := [.int], returnType := some .char }, accessFlags := 10, code := some k1c2 }
def k1c3 : Code := { maxStack := 6, maxLocals := 5, code := method_4_code, exceptionTable := #[], attributes := #[] }
def k1m3 : Method := { name := "build", desc := "(ICCCC)Ljava/lang/String;", sig := { parameters := [.int, .char, .char, .char, .char], returnType := some (.object "java/lang/String") }, accessFlags := 10, code := some k1c3 }
def k1c4 : Code := { maxStack := 2, maxLocals := 6, code := method_5_code, exceptionTable := #[], attributes := #[] }
def k1m4 : Method := { name := "idChar", desc := "(C)Z", sig := { parameters := [.char], returnType := some .boolean }, accessFlags := 10, code := some k1c4 }
/-- com/example/bale/bale/check/IdsIsWellFormedPinLaw -/
def k1 : Class := { plain "com/example/bale/bale/check/IdsIsWellFormedPinLaw" (some 0) with
  accessFlags := 49
  interfaces := #[]
  cf := some (fileOf pool1 9 #[] #[{ accessFlags := 2, nameIndex := 5, descriptorIndex := 6, attributes := #[] }, { accessFlags := 9, nameIndex := 36, descriptorIndex := 37, attributes := #[] }, { accessFlags := 10, nameIndex := 12, descriptorIndex := 13, attributes := #[] }, { accessFlags := 10, nameIndex := 16, descriptorIndex := 17, attributes := #[] }, { accessFlags := 10, nameIndex := 20, descriptorIndex := 21, attributes := #[] }] 49 2 #[] #[])
  fields := #[]
  methods := #[k1m0, k1m1, k1m2, k1m3, k1m4]
  instanceTypes := #[]
  staticTypes := #[]
  resolved := Array.replicate 41 none
  statics := none }

def pool2 : Array CpInfo := pool [(1, .class_ 2), (0, u "java/io/Serializable"), (0, .class_ 4), (0, u "java/lang/Object")] 2

/-- java/io/Serializable -/
def k2 : Class := { plain "java/io/Serializable" (some 0) with
  accessFlags := 1537
  interfaces := #[]
  cf := some (fileOf pool2 1 #[] #[] 1537 3 #[] #[])
  fields := #[]
  methods := #[]
  instanceTypes := #[]
  staticTypes := #[]
  resolved := Array.replicate 7 none
  statics := none }

def pool3 : Array CpInfo := pool [(1, .class_ 2), (0, u "java/lang/Comparable"), (0, .class_ 4), (0, u "java/lang/Object")] 7

/-- java/lang/Comparable -/
def k3 : Class := { plain "java/lang/Comparable" (some 0) with
  accessFlags := 1537
  interfaces := #[]
  cf := some (fileOf pool3 1 #[] #[] 1537 3 #[] #[])
  fields := #[]
  methods := #[]
  instanceTypes := #[]
  staticTypes := #[]
  resolved := Array.replicate 12 none
  statics := none }

def pool4 : Array CpInfo := pool [(2, .class_ 4), (1, u "java/lang/CharSequence"), (42, .class_ 48), (0, u "java/lang/CharSequence$1CodePointIterator"), (10, .class_ 60), (0, u "java/lang/CharSequence$1CharIterator"), (5, .class_ 67), (0, u "java/lang/Object")] 63

/-- java/lang/CharSequence -/
def k4 : Class := { plain "java/lang/CharSequence" (some 0) with
  accessFlags := 1537
  interfaces := #[]
  cf := some (fileOf pool4 2 #[.nestMembers #[47, 59]] #[] 1537 66 #[] #[])
  fields := #[]
  methods := #[]
  instanceTypes := #[]
  staticTypes := #[]
  resolved := Array.replicate 131 none
  statics := none }

def pool5 : Array CpInfo := pool [(1, .class_ 2), (0, u "java/lang/constant/Constable"), (0, .class_ 4), (0, u "java/lang/Object")] 6

/-- java/lang/constant/Constable -/
def k5 : Class := { plain "java/lang/constant/Constable" (some 0) with
  accessFlags := 1537
  interfaces := #[]
  cf := some (fileOf pool5 1 #[] #[] 1537 3 #[] #[])
  fields := #[]
  methods := #[]
  instanceTypes := #[]
  staticTypes := #[]
  resolved := Array.replicate 11 none
  statics := none }

def pool6 : Array CpInfo := pool [(1, .class_ 2), (0, u "java/lang/constant/ConstantDesc"), (0, .class_ 4), (0, u "java/lang/Object")] 32

/-- java/lang/constant/ConstantDesc -/
def k6 : Class := { plain "java/lang/constant/ConstantDesc" (some 0) with
  accessFlags := 1537
  interfaces := #[]
  cf := some (fileOf pool6 1 #[] #[] 1537 3 #[] #[])
  fields := #[]
  methods := #[]
  instanceTypes := #[]
  staticTypes := #[]
  resolved := Array.replicate 37 none
  statics := none }

def pool7 : Array CpInfo := pool [(1, .methodref 2 3), (0, .class_ 4), (0, .nameAndType 5 6), (0, u "java/lang/Object"), (0, u "<init>"), (0, u "()V"), (0, .string 8), (0, u ""), (0, .fieldref 10 11), (0, .class_ 12), (0, .nameAndType 13 14), (0, u "java/lang/String"), (0, u "value"), (0, u "[B"), (0, .fieldref 10 16), (0, .nameAndType 17 18), (0, u "coder"), (0, u "B"), (2, u "hash"), (0, u "I"), (2, u "hashIsZero"), (0, u "Z"), (0, .methodref 10 28), (0, .nameAndType 5 29), (0, u "([CIILjava/lang/Void;)V"), (8, .fieldref 10 39), (0, .nameAndType 40 26), (0, u "COMPACT_STRINGS"), (1, .class_ 44), (1, u "java/lang/StringUTF16"), (0, u "compress"), (1, .methodref 42 48), (0, .nameAndType 49 50), (0, u "coderFromArrayLen"), (0, u "([BI)B"), (56, .class_ 109), (1, u "java/lang/StringLatin1"), (32, u "()Z"), (34, .methodref 42 178), (0, .nameAndType 45 179), (0, u "([CII)[B"), (154, u "()I"), (0, .methodref 10 336), (0, .nameAndType 17 337), (0, u "()B"), (25, u "([BI)C"), (27, u "(II)V"), (35, u "(I)C"), (64, .methodref 10 493), (0, .nameAndType 494 142), (0, u "isLatin1"), (0, .methodref 107 496), (0, .nameAndType 497 363), (0, u "charAt"), (0, .methodref 42 496), (2, u "checkIndex"), (5, u "length"), (67, .class_ 576), (0, u "java/lang/CharSequence"), (22, u "CASE_INSENSITIVE_ORDER"), (0, u "Ljava/util/Comparator;"), (91, u "isEmpty"), (317, u "([C)V"), (42, .fieldref 1054 1055), (0, .class_ 1056), (0, .nameAndType 1057 1058), (0, u "jdk/internal/util/Preconditions"), (0, u "SIOOBE_FORMATTER"), (0, u "Ljava/util/function/BiFunction;"), (0, .methodref 1054 1060), (0, .nameAndType 501 1061), (0, u "(IILjava/util/function/BiFunction;)I"), (39, u "serialPersistentFields"), (0, u "[Ljava/io/ObjectStreamField;"), (0, .class_ 1104), (0, u "java/lang/String$CaseInsensitiveComparator"), (1, .class_ 1107), (0, u "java/io/Serializable"), (0, .class_ 1109), (0, u "java/lang/Comparable"), (0, .class_ 1111), (0, u "java/lang/constant/Constable"), (0, .class_ 1113), (0, u "java/lang/constant/ConstantDesc"), (2, u "serialVersionUID"), (0, u "J"), (3, u "REPL"), (0, u "C"), (2, u "LATIN1"), (1, u "UTF16")] 323

def k7m0 : Method := { name := "<init>", desc := "()V", sig := { parameters := [], returnType := none }, accessFlags := 1, code := none }
def k7c1 : Code := { maxStack := 5, maxLocals := 2, code := jdk_42_method_3_code, exceptionTable := #[], attributes := #[] }
def k7m1 : Method := { name := "<init>", desc := "([C)V", sig := { parameters := [(.array .char)], returnType := none }, accessFlags := 1, code := some k7c1 }
def k7c2 : Code := { maxStack := 2, maxLocals := 1, code := jdk_42_method_54_code, exceptionTable := #[], attributes := #[] }
def k7m2 : Method := { name := "length", desc := "()I", sig := { parameters := [], returnType := some .int }, accessFlags := 1, code := some k7c2 }
def k7c3 : Code := { maxStack := 1, maxLocals := 1, code := jdk_42_method_55_code, exceptionTable := #[], attributes := #[] }
def k7m3 : Method := { name := "isEmpty", desc := "()Z", sig := { parameters := [], returnType := some .boolean }, accessFlags := 1, code := some k7c3 }
def k7c4 : Code := { maxStack := 2, maxLocals := 2, code := jdk_42_method_56_code, exceptionTable := #[], attributes := #[] }
def k7m4 : Method := { name := "charAt", desc := "(I)C", sig := { parameters := [.int], returnType := some .char }, accessFlags := 1, code := some k7c4 }
def k7c5 : Code := { maxStack := 4, maxLocals := 6, code := jdk_42_method_149_code, exceptionTable := #[], attributes := #[] }
def k7m5 : Method := { name := "<init>", desc := "([CIILjava/lang/Void;)V", sig := { parameters := [(.array .char), .int, .int, (.object "java/lang/Void")], returnType := none }, accessFlags := 2, code := some k7c5 }
def k7c6 : Code := { maxStack := 1, maxLocals := 1, code := jdk_42_method_152_code, exceptionTable := #[], attributes := #[] }
def k7m6 : Method := { name := "coder", desc := "()B", sig := { parameters := [], returnType := some .byte }, accessFlags := 0, code := some k7c6 }
def k7c7 : Code := { maxStack := 1, maxLocals := 1, code := jdk_42_method_154_code, exceptionTable := #[], attributes := #[] }
def k7m7 : Method := { name := "isLatin1", desc := "()Z", sig := { parameters := [], returnType := some .boolean }, accessFlags := 0, code := some k7c7 }
def k7c8 : Code := { maxStack := 3, maxLocals := 2, code := jdk_42_method_155_code, exceptionTable := #[], attributes := #[] }
def k7m8 : Method := { name := "checkIndex", desc := "(II)V", sig := { parameters := [.int, .int], returnType := none }, accessFlags := 8, code := some k7c8 }
/-- java/lang/String -/
def k7 : Class := { plain "java/lang/String" (some 0) with
  accessFlags := 49
  interfaces := #[2, 3, 4, 5, 6]
  cf := some (fileOf pool7 10 #[.nestMembers #[1103]] #[{ accessFlags := 1, nameIndex := 5, descriptorIndex := 6, attributes := #[] }, { accessFlags := 1, nameIndex := 5, descriptorIndex := 1010, attributes := #[] }, { accessFlags := 1, nameIndex := 507, descriptorIndex := 334, attributes := #[] }, { accessFlags := 1, nameIndex := 692, descriptorIndex := 142, attributes := #[] }, { accessFlags := 1, nameIndex := 497, descriptorIndex := 427, attributes := #[] }, { accessFlags := 2, nameIndex := 5, descriptorIndex := 29, attributes := #[] }, { accessFlags := 0, nameIndex := 17, descriptorIndex := 337, attributes := #[] }, { accessFlags := 0, nameIndex := 494, descriptorIndex := 142, attributes := #[] }, { accessFlags := 8, nameIndex := 501, descriptorIndex := 391, attributes := #[] }] 49 2 #[1106, 1108, 575, 1110, 1112] #[{ accessFlags := 18, nameIndex := 13, descriptorIndex := 14, attributes := #[] }, { accessFlags := 18, nameIndex := 17, descriptorIndex := 18, attributes := #[] }, { accessFlags := 2, nameIndex := 21, descriptorIndex := 22, attributes := #[] }, { accessFlags := 2, nameIndex := 25, descriptorIndex := 26, attributes := #[] }, { accessFlags := 26, nameIndex := 1116, descriptorIndex := 1117, attributes := #[] }, { accessFlags := 24, nameIndex := 40, descriptorIndex := 26, attributes := #[] }, { accessFlags := 26, nameIndex := 1101, descriptorIndex := 1102, attributes := #[] }, { accessFlags := 26, nameIndex := 1121, descriptorIndex := 1122, attributes := #[] }, { accessFlags := 25, nameIndex := 599, descriptorIndex := 600, attributes := #[] }, { accessFlags := 24, nameIndex := 1125, descriptorIndex := 18, attributes := #[] }, { accessFlags := 24, nameIndex := 1127, descriptorIndex := 18, attributes := #[] }])
  fields := #[{ name := "value", type := (.array .byte), accessFlags := 18, slot := 0, constantValue := 0 }, { name := "coder", type := .byte, accessFlags := 18, slot := 1, constantValue := 0 }, { name := "hash", type := .int, accessFlags := 2, slot := 2, constantValue := 0 }, { name := "hashIsZero", type := .boolean, accessFlags := 2, slot := 3, constantValue := 0 }, { name := "serialVersionUID", type := .long, accessFlags := 26, slot := 0, constantValue := 0 }, { name := "COMPACT_STRINGS", type := .boolean, accessFlags := 24, slot := 1, constantValue := 0 }, { name := "serialPersistentFields", type := (.array (.object "java/io/ObjectStreamField")), accessFlags := 26, slot := 2, constantValue := 0 }, { name := "REPL", type := .char, accessFlags := 26, slot := 3, constantValue := 0 }, { name := "CASE_INSENSITIVE_ORDER", type := (.object "java/util/Comparator"), accessFlags := 25, slot := 4, constantValue := 0 }, { name := "LATIN1", type := .byte, accessFlags := 24, slot := 5, constantValue := 0 }, { name := "UTF16", type := .byte, accessFlags := 24, slot := 6, constantValue := 0 }]
  methods := #[k7m0, k7m1, k7m2, k7m3, k7m4, k7m5, k7m6, k7m7, k7m8]
  instanceTypes := #[(.array .byte), .byte, .int, .boolean]
  staticTypes := #[.long, .boolean, (.array (.object "java/io/ObjectStreamField")), .char, (.object "java/util/Comparator"), .byte, .byte]
  resolved := Array.replicate 1451 none
  statics := some 0 }

def pool8 : Array CpInfo := pool [(2, .class_ 4), (1, u "java/lang/Object"), (0, u "<init>"), (0, u "()V"), (0, .methodref 8 9), (0, .class_ 10), (0, .nameAndType 11 12), (0, u "java/lang/String"), (0, u "length"), (0, u "()I"), (0, .methodref 8 14), (0, .nameAndType 15 16), (0, u "charAt"), (0, u "(I)C"), (0, .methodref 18 19), (0, .class_ 20), (0, .nameAndType 21 22), (0, u "com/example/bale/bale/check/Ids"), (0, u "isIdCharacter"), (0, u "(C)Z"), (0, .methodref 8 24), (0, .nameAndType 25 26), (0, u "isEmpty"), (0, u "()Z"), (2, u "isWellFormed"), (0, u "(Ljava/lang/String;)Z")] 41

def k8m0 : Method := { name := "<init>", desc := "()V", sig := { parameters := [], returnType := none }, accessFlags := 2, code := none }
def k8c1 : Code := { maxStack := 2, maxLocals := 2, code := prog_1_method_2_code, exceptionTable := #[], attributes := #[] }
def k8m1 : Method := { name := "isWellFormed", desc := "(Ljava/lang/String;)Z", sig := { parameters := [(.object "java/lang/String")], returnType := some .boolean }, accessFlags := 9, code := some k8c1 }
def k8c2 : Code := { maxStack := 2, maxLocals := 1, code := prog_1_method_5_code, exceptionTable := #[], attributes := #[] }
def k8m2 : Method := { name := "isIdCharacter", desc := "(C)Z", sig := { parameters := [.char], returnType := some .boolean }, accessFlags := 10, code := some k8c2 }
/-- com/example/bale/bale/check/Ids -/
def k8 : Class := { plain "com/example/bale/bale/check/Ids" (some 0) with
  accessFlags := 49
  interfaces := #[]
  cf := some (fileOf pool8 18 #[] #[{ accessFlags := 2, nameIndex := 5, descriptorIndex := 6, attributes := #[] }, { accessFlags := 9, nameIndex := 29, descriptorIndex := 30, attributes := #[] }, { accessFlags := 10, nameIndex := 21, descriptorIndex := 22, attributes := #[] }] 49 2 #[] #[])
  fields := #[]
  methods := #[k8m0, k8m1, k8m2]
  instanceTypes := #[]
  staticTypes := #[]
  resolved := Array.replicate 72 none
  statics := none }

def pool9 : Array CpInfo := pool [(3, .class_ 4), (0, u "java/lang/String"), (1, .class_ 8), (1, u "java/lang/Object"), (0, u "<init>"), (0, u "()V"), (0, .methodref 12 13), (0, .class_ 14), (0, .nameAndType 15 16), (0, u "java/lang/StringUTF16"), (0, u "newBytesLength"), (0, u "(I)I"), (3, .integer 1073741823), (23, .fieldref 12 45), (0, .nameAndType 46 47), (0, u "$assertionsDisabled"), (0, u "Z"), (0, .methodref 12 49), (0, .nameAndType 50 51), (0, u "length"), (0, u "([B)I"), (7, .fieldref 12 60), (0, .nameAndType 61 62), (0, u "HI_BYTE_SHIFT"), (0, u "I"), (0, .fieldref 12 64), (0, .nameAndType 65 62), (0, u "LO_BYTE_SHIFT"), (1, .methodref 12 68), (0, .nameAndType 69 70), (0, u "checkIndex"), (0, u "(I[B)V"), (0, .methodref 12 72), (0, .nameAndType 73 74), (0, u "getChar"), (0, u "([BI)C"), (32, .methodref 12 108), (0, .nameAndType 109 110), (0, u "newBytesFor"), (0, u "(I)[B"), (0, .methodref 12 112), (0, .nameAndType 113 114), (0, u "putChar"), (0, u "([BII)V"), (0, .methodref 12 116), (0, .nameAndType 117 118), (0, u "compress"), (0, u "([CI[BII)I"), (0, .methodref 12 120), (0, .nameAndType 121 122), (0, u "toBytes"), (0, u "([CII)[B"), (138, u "coderFromArrayLen"), (0, u "([BI)B"), (106, .class_ 371), (1, u "java/lang/StringUTF16$LinesSpliterator"), (20, u "charAt"), (21, .methodref 3 415), (0, .nameAndType 69 416), (0, u "(II)V"), (13, u "MAX_LENGTH"), (196, .class_ 628), (0, u "java/lang/StringUTF16$CodePointsSpliterator"), (0, .class_ 630), (0, u "java/lang/StringUTF16$CharsSpliterator")] 4

def k9m0 : Method := { name := "<init>", desc := "()V", sig := { parameters := [], returnType := none }, accessFlags := 0, code := none }
def k9c1 : Code := { maxStack := 1, maxLocals := 1, code := jdk_52_method_2_code, exceptionTable := #[], attributes := #[] }
def k9m1 : Method := { name := "newBytesFor", desc := "(I)[B", sig := { parameters := [.int], returnType := some (.array .byte) }, accessFlags := 9, code := some k9c1 }
def k9c2 : Code := { maxStack := 4, maxLocals := 1, code := jdk_52_method_3_code, exceptionTable := #[], attributes := #[] }
def k9m2 : Method := { name := "newBytesLength", desc := "(I)I", sig := { parameters := [.int], returnType := some .int }, accessFlags := 9, code := some k9c2 }
def k9c3 : Code := { maxStack := 4, maxLocals := 3, code := jdk_52_method_4_code, exceptionTable := #[], attributes := #[] }
def k9m3 : Method := { name := "putChar", desc := "([BII)V", sig := { parameters := [(.array .byte), .int, .int], returnType := none }, accessFlags := 8, code := some k9c3 }
def k9c4 : Code := { maxStack := 3, maxLocals := 2, code := jdk_52_method_5_code, exceptionTable := #[], attributes := #[] }
def k9m4 : Method := { name := "getChar", desc := "([BI)C", sig := { parameters := [(.array .byte), .int], returnType := some .char }, accessFlags := 8, code := some k9c4 }
def k9c5 : Code := { maxStack := 2, maxLocals := 1, code := jdk_52_method_6_code, exceptionTable := #[], attributes := #[] }
def k9m5 : Method := { name := "length", desc := "([B)I", sig := { parameters := [(.array .byte)], returnType := some .int }, accessFlags := 9, code := some k9c5 }
def k9c6 : Code := { maxStack := 4, maxLocals := 5, code := jdk_52_method_14_code, exceptionTable := #[], attributes := #[] }
def k9m6 : Method := { name := "toBytes", desc := "([CII)[B", sig := { parameters := [(.array .char), .int, .int], returnType := some (.array .byte) }, accessFlags := 9, code := some k9c6 }
def k9c7 : Code := { maxStack := 2, maxLocals := 2, code := jdk_52_method_15_code, exceptionTable := #[], attributes := #[] }
def k9m7 : Method := { name := "coderFromArrayLen", desc := "([BI)B", sig := { parameters := [(.array .byte), .int], returnType := some .byte }, accessFlags := 8, code := some k9c7 }
def k9c8 : Code := { maxStack := 5, maxLocals := 6, code := jdk_52_method_16_code, exceptionTable := #[], attributes := #[] }
def k9m8 : Method := { name := "compress", desc := "([CII)[B", sig := { parameters := [(.array .char), .int, .int], returnType := some (.array .byte) }, accessFlags := 9, code := some k9c8 }
def k9c9 : Code := { maxStack := 3, maxLocals := 7, code := jdk_52_method_21_code, exceptionTable := #[], attributes := #[] }
def k9m9 : Method := { name := "compress", desc := "([CI[BII)I", sig := { parameters := [(.array .char), .int, (.array .byte), .int, .int], returnType := some .int }, accessFlags := 9, code := some k9c9 }
def k9c10 : Code := { maxStack := 2, maxLocals := 2, code := jdk_52_method_83_code, exceptionTable := #[], attributes := #[] }
def k9m10 : Method := { name := "charAt", desc := "([BI)C", sig := { parameters := [(.array .byte), .int], returnType := some .char }, accessFlags := 9, code := some k9c10 }
def k9c11 : Code := { maxStack := 2, maxLocals := 2, code := jdk_52_method_91_code, exceptionTable := #[], attributes := #[] }
def k9m11 : Method := { name := "checkIndex", desc := "(I[B)V", sig := { parameters := [.int, (.array .byte)], returnType := none }, accessFlags := 9, code := some k9c11 }
/-- java/lang/StringUTF16 -/
def k9 : Class := { plain "java/lang/StringUTF16" (some 0) with
  accessFlags := 48
  interfaces := #[]
  cf := some (fileOf pool9 12 #[.nestMembers #[627, 629, 369]] #[{ accessFlags := 0, nameIndex := 9, descriptorIndex := 10, attributes := #[] }, { accessFlags := 9, nameIndex := 109, descriptorIndex := 110, attributes := #[] }, { accessFlags := 9, nameIndex := 15, descriptorIndex := 16, attributes := #[] }, { accessFlags := 8, nameIndex := 113, descriptorIndex := 114, attributes := #[] }, { accessFlags := 8, nameIndex := 73, descriptorIndex := 74, attributes := #[] }, { accessFlags := 9, nameIndex := 50, descriptorIndex := 51, attributes := #[] }, { accessFlags := 9, nameIndex := 121, descriptorIndex := 122, attributes := #[] }, { accessFlags := 8, nameIndex := 261, descriptorIndex := 262, attributes := #[] }, { accessFlags := 9, nameIndex := 117, descriptorIndex := 122, attributes := #[] }, { accessFlags := 9, nameIndex := 117, descriptorIndex := 118, attributes := #[] }, { accessFlags := 9, nameIndex := 392, descriptorIndex := 74, attributes := #[] }, { accessFlags := 9, nameIndex := 69, descriptorIndex := 70, attributes := #[] }] 48 6 #[] #[{ accessFlags := 26, nameIndex := 61, descriptorIndex := 62, attributes := #[] }, { accessFlags := 26, nameIndex := 65, descriptorIndex := 62, attributes := #[] }, { accessFlags := 24, nameIndex := 430, descriptorIndex := 62, attributes := #[] }, { accessFlags := 4120, nameIndex := 46, descriptorIndex := 47, attributes := #[] }])
  fields := #[{ name := "HI_BYTE_SHIFT", type := .int, accessFlags := 26, slot := 0, constantValue := 0 }, { name := "LO_BYTE_SHIFT", type := .int, accessFlags := 26, slot := 1, constantValue := 0 }, { name := "MAX_LENGTH", type := .int, accessFlags := 24, slot := 2, constantValue := 0 }, { name := "$assertionsDisabled", type := .boolean, accessFlags := 4120, slot := 3, constantValue := 0 }]
  methods := #[k9m0, k9m1, k9m2, k9m3, k9m4, k9m5, k9m6, k9m7, k9m8, k9m9, k9m10, k9m11]
  instanceTypes := #[]
  staticTypes := #[.int, .int, .int, .boolean]
  resolved := Array.replicate 635 none
  statics := some 1 }

def pool10 : Array CpInfo := pool [(1, .class_ 2), (0, u "java/lang/String"), (1, .class_ 6), (1, u "java/lang/Object"), (0, u "<init>"), (0, u "()V"), (0, .methodref 1 10), (0, .nameAndType 11 12), (0, u "checkIndex"), (0, u "(II)V"), (1, .class_ 16), (1, u "java/lang/StringLatin1"), (36, u "([BI)C"), (67, u "$assertionsDisabled"), (0, u "Z"), (98, .class_ 223), (1, u "java/lang/StringLatin1$LinesSpliterator"), (28, u "charAt"), (137, .class_ 391), (0, u "java/lang/StringLatin1$CharsSpliterator")] 3

def k10m0 : Method := { name := "<init>", desc := "()V", sig := { parameters := [], returnType := none }, accessFlags := 0, code := none }
def k10c1 : Code := { maxStack := 2, maxLocals := 2, code := jdk_43_method_2_code, exceptionTable := #[], attributes := #[] }
def k10m1 : Method := { name := "charAt", desc := "([BI)C", sig := { parameters := [(.array .byte), .int], returnType := some .char }, accessFlags := 9, code := some k10c1 }
/-- java/lang/StringLatin1 -/
def k10 : Class := { plain "java/lang/StringLatin1" (some 0) with
  accessFlags := 48
  interfaces := #[]
  cf := some (fileOf pool10 14 #[.nestMembers #[390, 221]] #[{ accessFlags := 0, nameIndex := 7, descriptorIndex := 8, attributes := #[] }, { accessFlags := 9, nameIndex := 252, descriptorIndex := 53, attributes := #[] }] 48 4 #[] #[{ accessFlags := 4120, nameIndex := 121, descriptorIndex := 122, attributes := #[] }])
  fields := #[{ name := "$assertionsDisabled", type := .boolean, accessFlags := 4120, slot := 0, constantValue := 0 }]
  methods := #[k10m0, k10m1]
  instanceTypes := #[]
  staticTypes := #[.boolean]
  resolved := Array.replicate 395 none
  statics := none }

def pool11 : Array CpInfo := pool [(2, .class_ 4), (1, u "java/lang/Object"), (0, u "<init>"), (0, u "()V"), (17, .class_ 26), (1, u "jdk/internal/util/Preconditions"), (6, u "checkIndex"), (21, .class_ 56), (0, u "jdk/internal/util/Preconditions$4"), (57, .class_ 115), (0, u "jdk/internal/util/Preconditions$1"), (7, u "SIOOBE_FORMATTER"), (0, u "Ljava/util/function/BiFunction;"), (0, .class_ 126), (0, u "jdk/internal/util/Preconditions$2"), (3, u "AIOOBE_FORMATTER"), (0, .class_ 132), (0, u "jdk/internal/util/Preconditions$3"), (3, u "IOOBE_FORMATTER"), (41, u "(IILjava/util/function/BiFunction;)I")] 15

def k11m0 : Method := { name := "<init>", desc := "()V", sig := { parameters := [], returnType := none }, accessFlags := 1, code := none }
def k11c1 : Code := { maxStack := 3, maxLocals := 3, code := jdk_41_method_11_code, exceptionTable := #[], attributes := #[] }
def k11m1 : Method := { name := "checkIndex", desc := "(IILjava/util/function/BiFunction;)I", sig := { parameters := [.int, .int, (.object "java/util/function/BiFunction")], returnType := some .int }, accessFlags := 9, code := some k11c1 }
/-- jdk/internal/util/Preconditions -/
def k11 : Class := { plain "jdk/internal/util/Preconditions" (some 0) with
  accessFlags := 33
  interfaces := #[]
  cf := some (fileOf pool11 24 #[.nestMembers #[55, 131, 125, 114]] #[{ accessFlags := 1, nameIndex := 5, descriptorIndex := 6, attributes := #[] }, { accessFlags := 9, nameIndex := 33, descriptorIndex := 178, attributes := #[] }] 33 2 #[] #[{ accessFlags := 25, nameIndex := 123, descriptorIndex := 124, attributes := #[] }, { accessFlags := 25, nameIndex := 130, descriptorIndex := 124, attributes := #[] }, { accessFlags := 25, nameIndex := 136, descriptorIndex := 124, attributes := #[] }])
  fields := #[{ name := "SIOOBE_FORMATTER", type := (.object "java/util/function/BiFunction"), accessFlags := 25, slot := 0, constantValue := 0 }, { name := "AIOOBE_FORMATTER", type := (.object "java/util/function/BiFunction"), accessFlags := 25, slot := 1, constantValue := 0 }, { name := "IOOBE_FORMATTER", type := (.object "java/util/function/BiFunction"), accessFlags := 25, slot := 2, constantValue := 0 }]
  methods := #[k11m0, k11m1]
  instanceTypes := #[]
  staticTypes := #[(.object "java/util/function/BiFunction"), (.object "java/util/function/BiFunction"), (.object "java/util/function/BiFunction")]
  resolved := Array.replicate 194 none
  statics := some 2 }

def pool12 : Array CpInfo := pool [(9, u "<init>"), (6, .class_ 18), (1, u "java/lang/Object"), (0, u "()V"), (1, .class_ 23), (1, u "jdk/internal/util/ArraysSupport"), (0, u "LOG2_ARRAY_LONG_INDEX_SCALE"), (0, u "I"), (2, u "U"), (0, u "Ljdk/internal/misc/Unsafe;"), (8, u "BIG_ENDIAN"), (0, u "Z"), (8, u "LOG2_BYTE_BIT_SIZE"), (4, u "LOG2_ARRAY_INT_INDEX_SCALE"), (54, u "JLA"), (0, u "Ljdk/internal/access/JavaLangAccess;"), (11, u "LOG2_ARRAY_BOOLEAN_INDEX_SCALE"), (9, u "LOG2_ARRAY_BYTE_INDEX_SCALE"), (5, u "LOG2_ARRAY_CHAR_INDEX_SCALE"), (5, u "LOG2_ARRAY_SHORT_INDEX_SCALE"), (18, u "LOG2_ARRAY_FLOAT_INDEX_SCALE"), (24, u "LOG2_ARRAY_DOUBLE_INDEX_SCALE"), (89, u "T_BOOLEAN"), (2, u "T_CHAR"), (1, u "T_FLOAT"), (1, u "T_DOUBLE"), (1, u "T_BYTE"), (1, u "T_SHORT"), (1, u "T_INT"), (1, u "T_LONG"), (1, u "SOFT_MAX_ARRAY_LENGTH")] 83

def k12m0 : Method := { name := "<init>", desc := "()V", sig := { parameters := [], returnType := none }, accessFlags := 2, code := none }
/-- jdk/internal/util/ArraysSupport -/
def k12 : Class := { plain "jdk/internal/util/ArraysSupport" (some 0) with
  accessFlags := 33
  interfaces := #[]
  cf := some (fileOf pool12 21 #[] #[{ accessFlags := 2, nameIndex := 9, descriptorIndex := 19, attributes := #[] }] 33 16 #[] #[{ accessFlags := 24, nameIndex := 28, descriptorIndex := 29, attributes := #[] }, { accessFlags := 26, nameIndex := 38, descriptorIndex := 39, attributes := #[] }, { accessFlags := 25, nameIndex := 121, descriptorIndex := 25, attributes := #[] }, { accessFlags := 25, nameIndex := 131, descriptorIndex := 25, attributes := #[] }, { accessFlags := 25, nameIndex := 137, descriptorIndex := 25, attributes := #[] }, { accessFlags := 25, nameIndex := 143, descriptorIndex := 25, attributes := #[] }, { accessFlags := 25, nameIndex := 53, descriptorIndex := 25, attributes := #[] }, { accessFlags := 25, nameIndex := 24, descriptorIndex := 25, attributes := #[] }, { accessFlags := 25, nameIndex := 162, descriptorIndex := 25, attributes := #[] }, { accessFlags := 25, nameIndex := 187, descriptorIndex := 25, attributes := #[] }, { accessFlags := 26, nameIndex := 48, descriptorIndex := 25, attributes := #[] }, { accessFlags := 25, nameIndex := 277, descriptorIndex := 25, attributes := #[] }, { accessFlags := 25, nameIndex := 280, descriptorIndex := 25, attributes := #[] }, { accessFlags := 25, nameIndex := 282, descriptorIndex := 25, attributes := #[] }, { accessFlags := 25, nameIndex := 284, descriptorIndex := 25, attributes := #[] }, { accessFlags := 25, nameIndex := 286, descriptorIndex := 25, attributes := #[] }, { accessFlags := 25, nameIndex := 288, descriptorIndex := 25, attributes := #[] }, { accessFlags := 25, nameIndex := 290, descriptorIndex := 25, attributes := #[] }, { accessFlags := 25, nameIndex := 292, descriptorIndex := 25, attributes := #[] }, { accessFlags := 26, nameIndex := 108, descriptorIndex := 109, attributes := #[] }, { accessFlags := 25, nameIndex := 294, descriptorIndex := 25, attributes := #[] }])
  fields := #[{ name := "U", type := (.object "jdk/internal/misc/Unsafe"), accessFlags := 24, slot := 0, constantValue := 0 }, { name := "BIG_ENDIAN", type := .boolean, accessFlags := 26, slot := 1, constantValue := 0 }, { name := "LOG2_ARRAY_BOOLEAN_INDEX_SCALE", type := .int, accessFlags := 25, slot := 2, constantValue := 0 }, { name := "LOG2_ARRAY_BYTE_INDEX_SCALE", type := .int, accessFlags := 25, slot := 3, constantValue := 0 }, { name := "LOG2_ARRAY_CHAR_INDEX_SCALE", type := .int, accessFlags := 25, slot := 4, constantValue := 0 }, { name := "LOG2_ARRAY_SHORT_INDEX_SCALE", type := .int, accessFlags := 25, slot := 5, constantValue := 0 }, { name := "LOG2_ARRAY_INT_INDEX_SCALE", type := .int, accessFlags := 25, slot := 6, constantValue := 0 }, { name := "LOG2_ARRAY_LONG_INDEX_SCALE", type := .int, accessFlags := 25, slot := 7, constantValue := 0 }, { name := "LOG2_ARRAY_FLOAT_INDEX_SCALE", type := .int, accessFlags := 25, slot := 8, constantValue := 0 }, { name := "LOG2_ARRAY_DOUBLE_INDEX_SCALE", type := .int, accessFlags := 25, slot := 9, constantValue := 0 }, { name := "LOG2_BYTE_BIT_SIZE", type := .int, accessFlags := 26, slot := 10, constantValue := 0 }, { name := "T_BOOLEAN", type := .int, accessFlags := 25, slot := 11, constantValue := 0 }, { name := "T_CHAR", type := .int, accessFlags := 25, slot := 12, constantValue := 0 }, { name := "T_FLOAT", type := .int, accessFlags := 25, slot := 13, constantValue := 0 }, { name := "T_DOUBLE", type := .int, accessFlags := 25, slot := 14, constantValue := 0 }, { name := "T_BYTE", type := .int, accessFlags := 25, slot := 15, constantValue := 0 }, { name := "T_SHORT", type := .int, accessFlags := 25, slot := 16, constantValue := 0 }, { name := "T_INT", type := .int, accessFlags := 25, slot := 17, constantValue := 0 }, { name := "T_LONG", type := .int, accessFlags := 25, slot := 18, constantValue := 0 }, { name := "JLA", type := (.object "jdk/internal/access/JavaLangAccess"), accessFlags := 26, slot := 19, constantValue := 0 }, { name := "SOFT_MAX_ARRAY_LENGTH", type := .int, accessFlags := 25, slot := 20, constantValue := 0 }]
  methods := #[k12m0]
  instanceTypes := #[]
  staticTypes := #[(.object "jdk/internal/misc/Unsafe"), .boolean, .int, .int, .int, .int, .int, .int, .int, .int, .int, .int, .int, .int, .int, .int, .int, .int, .int, (.object "jdk/internal/access/JavaLangAccess"), .int]
  resolved := Array.replicate 378 none
  statics := none }

def pool13 : Array CpInfo := pool [(1, u "java/lang/Cloneable"), (0, .class_ 1), (0, u "java/lang/Object"), (0, .class_ 3)] 3

/-- java/lang/Cloneable -/
def k13 : Class := { plain "java/lang/Cloneable" (some 0) with
  accessFlags := 1537
  interfaces := #[]
  cf := some (fileOf pool13 2 #[] #[] 1537 4 #[] #[])
  fields := #[]
  methods := #[]
  instanceTypes := #[]
  staticTypes := #[]
  resolved := Array.replicate 8 none
  statics := none }

/-- the primitive byte -/
def k14 : Class := { plain "byte" none with kind := .primitive 'B', accessFlags := 0x411 }
/-- [B -/
def k15 : Class := { plain "[B" (some 0) with kind := .array 14 .byte, interfaces := #[13, 2], accessFlags := 1041 }

/-- the primitive char -/
def k16 : Class := { plain "char" none with kind := .primitive 'C', accessFlags := 0x411 }
/-- [C -/
def k17 : Class := { plain "[C" (some 0) with kind := .array 16 .char, interfaces := #[13, 2], accessFlags := 1041 }

/-- the primitive int -/
def k18 : Class := { plain "int" none with kind := .primitive 'I', accessFlags := 0x411 }
/-- [I -/
def k19 : Class := { plain "[I" (some 0) with kind := .array 18 .int, interfaces := #[13, 2], accessFlags := 1041 }

def heap : Heap := #[{ cls := 7, slots := #[.long 0, .int 1, .null, .int 0, .null, .int 0, .int 0], vm := .statics 7 },
  { cls := 9, slots := #[.int 0, .int 8, .int 0, .int 1], vm := .statics 9 },
  { cls := 11, slots := #[.null, .null, .null], vm := .statics 11 }]
def classes : Array Class := #[k0, k1, k2, k3, k4, k5, k6, k7, k8, k9, k10, k11, k12, k13, k14, k15, k16, k17, k18, k19]
def interned : List (Array UInt16 × Addr) := []
def slotsUsed : Nat := 14
def theMethod : MethodId := ⟨1, 1⟩
def args0 : Array Value := #[.int 5, .int 5, .int 5, .int 5, .int 5]
def aboutOver (below : List Frame) : State where
  vm := { classes := classes, interned := interned.toArray }
  heap := heap
  slotsUsed := slotsUsed
  threads := #[{ frames := .invoking theMethod args0 :: below }]
def below0 : List Frame := [.native { method := ⟨0, 0⟩, args := #[] }]
def about1 : State := aboutOver below0
def p0 : Program := .bare "" "" ""
def e0 : Env := launch0.env 0 0 0
theorem w_frames : about1.frames = Frame.invoking theMethod args0 :: below0 := rfl
set_option maxRecDepth 65536 in
theorem w_args : argsFit about1.vm theMethod args0 = true := by decide +kernel
set_option maxRecDepth 65536 in
theorem w_heap : heapFits about1 = true := by decide +kernel
set_option maxRecDepth 65536 in
theorem w_runnable : about1.curStatus? = some .runnable := by decide +kernel
set_option maxRecDepth 65536 in
theorem w_alone : about1.alone = true := by decide +kernel
set_option maxRecDepth 65536 in
theorem w_named : about1.methodNamed? x = some theMethod := by decide +kernel
set_option maxRecDepth 65536 in
theorem w_hears : about1.hears theMethod below0 = true := by decide +kernel
set_option maxRecDepth 65536 in
theorem w_ripe : about1.ripe theMethod args0 below0 = true := by decide +kernel
theorem w_running : about1.status = .running := rfl
set_option maxRecDepth 65536 in
theorem w_room : about1.hasRoom e0.platform room_1 = true :=
  launch0.hasRoom_least _ room_1 (by decide +kernel) (by decide +kernel) (by decide +kernel) (by decide +kernel) (by decide +kernel) (by decide +kernel)
theorem allAtoms_all (ts : List Jvm.Cond) (a : Array Jvm.Value) (st : Jvm.State) : (allAtoms ts).before a st = ts.all (fun c => c.before a st) := by
  induction ts with
  | nil => rfl
  | cons c t ih =>
    show (Jvm.Cond.and c (allAtoms t)).before a st = _
    rw [Jvm.Cond.before_and, ih, List.all_cons]
def words1 : List Jvm.Cond := Jvm.Cond.code x code maxLocals ret :: tables_1
/-- a 'code' word, met by the world's own term for the bytes: nothing is compared byte by byte -/
theorem code_word {y : MethodName} {bytes : ByteArray} {mx : Nat} {rt : Option FieldType} {a : Array Value} {s : State} {m : MethodId} {meth : Method} {c : Code} (h1 : s.methodNamed? y = some m) (h2 : s.vm.method? m = some meth) (h3 : meth.code = some c) (h4 : c.code = bytes)
    (h5 : (c.maxLocals == mx && c.exceptionTable.isEmpty && decide (c.maxStack ≤ mostOperands) && decide (meth.sig.returnType = rt) && !meth.locks && decide (parseMethodDescriptor y.desc = some meth.sig)) = true) : (Jvm.Cond.code y bytes mx rt).before a s = true := by
  simp only [Bool.and_eq_true, beq_iff_eq, Bool.not_eq_true', decide_eq_true_eq] at h5
  obtain ⟨⟨⟨⟨⟨g1, g2⟩, g3⟩, g4⟩, g5⟩, g6⟩ := h5
  simp [Cond.before, Cond.holds, Cond.value, h1, h2, h3, h4, g1, g2, g3, g4, g5, g6]
def isCode : Jvm.Cond → Bool
  | .code _ _ _ _ => true
  | _ => false
theorem all_split {L : List Jvm.Cond} {P : Jvm.Cond → Bool} (h1 : L.all (fun c => isCode c || P c) = true) (h2 : ∀ c ∈ L.filter isCode, P c = true) : L.all P = true := by
  refine List.all_eq_true.mpr fun c hc => ?_
  have h := List.all_eq_true.mp h1 c hc
  rcases Bool.eq_false_or_eq_true (isCode c) with hi | hi
  · exact h2 c (List.mem_filter.mpr ⟨hc, hi⟩)
  · simpa [hi] using h
set_option maxRecDepth 65536 in
theorem w_c0 : (Jvm.Cond.code x code maxLocals ret).before args0 about1 = true := code_word (m := ⟨1, 1⟩) (meth := k1m1) (c := k1c1) (by decide +kernel) rfl rfl rfl (by decide +kernel)
set_option maxRecDepth 65536 in
theorem w_c1 : (Jvm.Cond.code ({ cls := "com/example/bale/bale/check/IdsIsWellFormedPinLaw", name := "draw", desc := "(I)C" } : Jvm.MethodName) method_3_code (1 : Nat) (Option.some Jvm.ClassFile.FieldType.char)).before args0 about1 = true := code_word (m := ⟨1, 2⟩) (meth := k1m2) (c := k1c2) (by decide +kernel) rfl rfl rfl (by decide +kernel)
set_option maxRecDepth 65536 in
theorem w_c2 : (Jvm.Cond.code ({ cls := "com/example/bale/bale/check/IdsIsWellFormedPinLaw", name := "build", desc := "(ICCCC)Ljava/lang/String;" } : Jvm.MethodName) method_4_code (5 : Nat) (Option.some (Jvm.ClassFile.FieldType.object "java/lang/String"))).before args0 about1 = true := code_word (m := ⟨1, 3⟩) (meth := k1m3) (c := k1c3) (by decide +kernel) rfl rfl rfl (by decide +kernel)
set_option maxRecDepth 65536 in
theorem w_c3 : (Jvm.Cond.code ({ cls := "java/lang/String", name := "<init>", desc := "([C)V" } : Jvm.MethodName) jdk_42_method_3_code (2 : Nat) (Option.none : Option Jvm.ClassFile.FieldType)).before args0 about1 = true := code_word (m := ⟨7, 1⟩) (meth := k7m1) (c := k7c1) (by decide +kernel) rfl rfl rfl (by decide +kernel)
set_option maxRecDepth 65536 in
theorem w_c4 : (Jvm.Cond.code ({ cls := "java/lang/String", name := "<init>", desc := "([CIILjava/lang/Void;)V" } : Jvm.MethodName) jdk_42_method_149_code (6 : Nat) (Option.none : Option Jvm.ClassFile.FieldType)).before args0 about1 = true := code_word (m := ⟨7, 5⟩) (meth := k7m5) (c := k7c5) (by decide +kernel) rfl rfl rfl (by decide +kernel)
set_option maxRecDepth 65536 in
theorem w_c5 : (Jvm.Cond.code ({ cls := "java/lang/Object", name := "<init>", desc := "()V" } : Jvm.MethodName) object_method_1_code (1 : Nat) (Option.none : Option Jvm.ClassFile.FieldType)).before args0 about1 = true := code_word (m := ⟨0, 0⟩) (meth := k0m0) (c := k0c0) (by decide +kernel) rfl rfl rfl (by decide +kernel)
set_option maxRecDepth 65536 in
theorem w_c6 : (Jvm.Cond.code ({ cls := "com/example/bale/bale/check/Ids", name := "isWellFormed", desc := "(Ljava/lang/String;)Z" } : Jvm.MethodName) prog_1_method_2_code (2 : Nat) (Option.some Jvm.ClassFile.FieldType.boolean)).before args0 about1 = true := code_word (m := ⟨8, 1⟩) (meth := k8m1) (c := k8c1) (by decide +kernel) rfl rfl rfl (by decide +kernel)
set_option maxRecDepth 65536 in
theorem w_c7 : (Jvm.Cond.code ({ cls := "java/lang/String", name := "length", desc := "()I" } : Jvm.MethodName) jdk_42_method_54_code (1 : Nat) (Option.some Jvm.ClassFile.FieldType.int)).before args0 about1 = true := code_word (m := ⟨7, 2⟩) (meth := k7m2) (c := k7c2) (by decide +kernel) rfl rfl rfl (by decide +kernel)
set_option maxRecDepth 65536 in
theorem w_c8 : (Jvm.Cond.code ({ cls := "java/lang/String", name := "coder", desc := "()B" } : Jvm.MethodName) jdk_42_method_152_code (1 : Nat) (Option.some Jvm.ClassFile.FieldType.byte)).before args0 about1 = true := code_word (m := ⟨7, 6⟩) (meth := k7m6) (c := k7c6) (by decide +kernel) rfl rfl rfl (by decide +kernel)
set_option maxRecDepth 65536 in
theorem w_c9 : (Jvm.Cond.code ({ cls := "java/lang/String", name := "isEmpty", desc := "()Z" } : Jvm.MethodName) jdk_42_method_55_code (1 : Nat) (Option.some Jvm.ClassFile.FieldType.boolean)).before args0 about1 = true := code_word (m := ⟨7, 3⟩) (meth := k7m3) (c := k7c3) (by decide +kernel) rfl rfl rfl (by decide +kernel)
set_option maxRecDepth 65536 in
theorem w_c10 : (Jvm.Cond.code ({ cls := "java/lang/StringUTF16", name := "compress", desc := "([CII)[B" } : Jvm.MethodName) jdk_52_method_16_code (6 : Nat) (Option.some (Jvm.ClassFile.FieldType.array Jvm.ClassFile.FieldType.byte))).before args0 about1 = true := code_word (m := ⟨9, 8⟩) (meth := k9m8) (c := k9c8) (by decide +kernel) rfl rfl rfl (by decide +kernel)
set_option maxRecDepth 65536 in
theorem w_c11 : (Jvm.Cond.code ({ cls := "java/lang/StringUTF16", name := "compress", desc := "([CI[BII)I" } : Jvm.MethodName) jdk_52_method_21_code (7 : Nat) (Option.some Jvm.ClassFile.FieldType.int)).before args0 about1 = true := code_word (m := ⟨9, 9⟩) (meth := k9m9) (c := k9c9) (by decide +kernel) rfl rfl rfl (by decide +kernel)
set_option maxRecDepth 65536 in
theorem w_c12 : (Jvm.Cond.code ({ cls := "java/lang/StringUTF16", name := "coderFromArrayLen", desc := "([BI)B" } : Jvm.MethodName) jdk_52_method_15_code (2 : Nat) (Option.some Jvm.ClassFile.FieldType.byte)).before args0 about1 = true := code_word (m := ⟨9, 7⟩) (meth := k9m7) (c := k9c7) (by decide +kernel) rfl rfl rfl (by decide +kernel)
set_option maxRecDepth 65536 in
theorem w_c13 : (Jvm.Cond.code ({ cls := "com/example/bale/bale/check/IdsIsWellFormedPinLaw", name := "idChar", desc := "(C)Z" } : Jvm.MethodName) method_5_code (6 : Nat) (Option.some Jvm.ClassFile.FieldType.boolean)).before args0 about1 = true := code_word (m := ⟨1, 4⟩) (meth := k1m4) (c := k1c4) (by decide +kernel) rfl rfl rfl (by decide +kernel)
set_option maxRecDepth 65536 in
theorem w_c14 : (Jvm.Cond.code ({ cls := "java/lang/String", name := "charAt", desc := "(I)C" } : Jvm.MethodName) jdk_42_method_56_code (2 : Nat) (Option.some Jvm.ClassFile.FieldType.char)).before args0 about1 = true := code_word (m := ⟨7, 4⟩) (meth := k7m4) (c := k7c4) (by decide +kernel) rfl rfl rfl (by decide +kernel)
set_option maxRecDepth 65536 in
theorem w_c15 : (Jvm.Cond.code ({ cls := "java/lang/String", name := "isLatin1", desc := "()Z" } : Jvm.MethodName) jdk_42_method_154_code (1 : Nat) (Option.some Jvm.ClassFile.FieldType.boolean)).before args0 about1 = true := code_word (m := ⟨7, 7⟩) (meth := k7m7) (c := k7c7) (by decide +kernel) rfl rfl rfl (by decide +kernel)
set_option maxRecDepth 65536 in
theorem w_c16 : (Jvm.Cond.code ({ cls := "java/lang/StringLatin1", name := "charAt", desc := "([BI)C" } : Jvm.MethodName) jdk_43_method_2_code (2 : Nat) (Option.some Jvm.ClassFile.FieldType.char)).before args0 about1 = true := code_word (m := ⟨10, 1⟩) (meth := k10m1) (c := k10c1) (by decide +kernel) rfl rfl rfl (by decide +kernel)
set_option maxRecDepth 65536 in
theorem w_c17 : (Jvm.Cond.code ({ cls := "java/lang/String", name := "checkIndex", desc := "(II)V" } : Jvm.MethodName) jdk_42_method_155_code (2 : Nat) (Option.none : Option Jvm.ClassFile.FieldType)).before args0 about1 = true := code_word (m := ⟨7, 8⟩) (meth := k7m8) (c := k7c8) (by decide +kernel) rfl rfl rfl (by decide +kernel)
set_option maxRecDepth 65536 in
theorem w_c18 : (Jvm.Cond.code ({ cls := "jdk/internal/util/Preconditions", name := "checkIndex", desc := "(IILjava/util/function/BiFunction;)I" } : Jvm.MethodName) jdk_41_method_11_code (3 : Nat) (Option.some Jvm.ClassFile.FieldType.int)).before args0 about1 = true := code_word (m := ⟨11, 1⟩) (meth := k11m1) (c := k11c1) (by decide +kernel) rfl rfl rfl (by decide +kernel)
set_option maxRecDepth 65536 in
theorem w_c19 : (Jvm.Cond.code ({ cls := "com/example/bale/bale/check/Ids", name := "isIdCharacter", desc := "(C)Z" } : Jvm.MethodName) prog_1_method_5_code (1 : Nat) (Option.some Jvm.ClassFile.FieldType.boolean)).before args0 about1 = true := code_word (m := ⟨8, 2⟩) (meth := k8m2) (c := k8c2) (by decide +kernel) rfl rfl rfl (by decide +kernel)
set_option maxRecDepth 65536 in
theorem w_c20 : (Jvm.Cond.code ({ cls := "java/lang/StringUTF16", name := "toBytes", desc := "([CII)[B" } : Jvm.MethodName) jdk_52_method_14_code (5 : Nat) (Option.some (Jvm.ClassFile.FieldType.array Jvm.ClassFile.FieldType.byte))).before args0 about1 = true := code_word (m := ⟨9, 6⟩) (meth := k9m6) (c := k9c6) (by decide +kernel) rfl rfl rfl (by decide +kernel)
set_option maxRecDepth 65536 in
theorem w_c21 : (Jvm.Cond.code ({ cls := "java/lang/StringUTF16", name := "newBytesFor", desc := "(I)[B" } : Jvm.MethodName) jdk_52_method_2_code (1 : Nat) (Option.some (Jvm.ClassFile.FieldType.array Jvm.ClassFile.FieldType.byte))).before args0 about1 = true := code_word (m := ⟨9, 1⟩) (meth := k9m1) (c := k9c1) (by decide +kernel) rfl rfl rfl (by decide +kernel)
set_option maxRecDepth 65536 in
theorem w_c22 : (Jvm.Cond.code ({ cls := "java/lang/StringUTF16", name := "newBytesLength", desc := "(I)I" } : Jvm.MethodName) jdk_52_method_3_code (1 : Nat) (Option.some Jvm.ClassFile.FieldType.int)).before args0 about1 = true := code_word (m := ⟨9, 2⟩) (meth := k9m2) (c := k9c2) (by decide +kernel) rfl rfl rfl (by decide +kernel)
set_option maxRecDepth 65536 in
theorem w_c23 : (Jvm.Cond.code ({ cls := "java/lang/StringUTF16", name := "putChar", desc := "([BII)V" } : Jvm.MethodName) jdk_52_method_4_code (3 : Nat) (Option.none : Option Jvm.ClassFile.FieldType)).before args0 about1 = true := code_word (m := ⟨9, 3⟩) (meth := k9m3) (c := k9c3) (by decide +kernel) rfl rfl rfl (by decide +kernel)
set_option maxRecDepth 65536 in
theorem w_c24 : (Jvm.Cond.code ({ cls := "java/lang/StringUTF16", name := "getChar", desc := "([BI)C" } : Jvm.MethodName) jdk_52_method_5_code (2 : Nat) (Option.some Jvm.ClassFile.FieldType.char)).before args0 about1 = true := code_word (m := ⟨9, 4⟩) (meth := k9m4) (c := k9c4) (by decide +kernel) rfl rfl rfl (by decide +kernel)
set_option maxRecDepth 65536 in
theorem w_c25 : (Jvm.Cond.code ({ cls := "java/lang/StringUTF16", name := "charAt", desc := "([BI)C" } : Jvm.MethodName) jdk_52_method_83_code (2 : Nat) (Option.some Jvm.ClassFile.FieldType.char)).before args0 about1 = true := code_word (m := ⟨9, 10⟩) (meth := k9m10) (c := k9c10) (by decide +kernel) rfl rfl rfl (by decide +kernel)
set_option maxRecDepth 65536 in
theorem w_c26 : (Jvm.Cond.code ({ cls := "java/lang/StringUTF16", name := "checkIndex", desc := "(I[B)V" } : Jvm.MethodName) jdk_52_method_91_code (2 : Nat) (Option.none : Option Jvm.ClassFile.FieldType)).before args0 about1 = true := code_word (m := ⟨9, 11⟩) (meth := k9m11) (c := k9c11) (by decide +kernel) rfl rfl rfl (by decide +kernel)
set_option maxRecDepth 65536 in
theorem w_c27 : (Jvm.Cond.code ({ cls := "java/lang/StringUTF16", name := "length", desc := "([B)I" } : Jvm.MethodName) jdk_52_method_6_code (1 : Nat) (Option.some Jvm.ClassFile.FieldType.int)).before args0 about1 = true := code_word (m := ⟨9, 5⟩) (meth := k9m5) (c := k9c5) (by decide +kernel) rfl rfl rfl (by decide +kernel)
def codes1 : List Jvm.Cond := [Jvm.Cond.code x code maxLocals ret, Jvm.Cond.code ({ cls := "com/example/bale/bale/check/IdsIsWellFormedPinLaw", name := "draw", desc := "(I)C" } : Jvm.MethodName) method_3_code (1 : Nat) (Option.some Jvm.ClassFile.FieldType.char), Jvm.Cond.code ({ cls := "com/example/bale/bale/check/IdsIsWellFormedPinLaw", name := "build", desc := "(ICCCC)Ljava/lang/String;" } : Jvm.MethodName) method_4_code (5 : Nat) (Option.some (Jvm.ClassFile.FieldType.object "java/lang/String")), Jvm.Cond.code ({ cls := "java/lang/String", name := "<init>", desc := "([C)V" } : Jvm.MethodName) jdk_42_method_3_code (2 : Nat) (Option.none : Option Jvm.ClassFile.FieldType), Jvm.Cond.code ({ cls := "java/lang/String", name := "<init>", desc := "([CIILjava/lang/Void;)V" } : Jvm.MethodName) jdk_42_method_149_code (6 : Nat) (Option.none : Option Jvm.ClassFile.FieldType), Jvm.Cond.code ({ cls := "java/lang/Object", name := "<init>", desc := "()V" } : Jvm.MethodName) object_method_1_code (1 : Nat) (Option.none : Option Jvm.ClassFile.FieldType), Jvm.Cond.code ({ cls := "com/example/bale/bale/check/Ids", name := "isWellFormed", desc := "(Ljava/lang/String;)Z" } : Jvm.MethodName) prog_1_method_2_code (2 : Nat) (Option.some Jvm.ClassFile.FieldType.boolean), Jvm.Cond.code ({ cls := "java/lang/String", name := "length", desc := "()I" } : Jvm.MethodName) jdk_42_method_54_code (1 : Nat) (Option.some Jvm.ClassFile.FieldType.int), Jvm.Cond.code ({ cls := "java/lang/String", name := "coder", desc := "()B" } : Jvm.MethodName) jdk_42_method_152_code (1 : Nat) (Option.some Jvm.ClassFile.FieldType.byte), Jvm.Cond.code ({ cls := "java/lang/String", name := "isEmpty", desc := "()Z" } : Jvm.MethodName) jdk_42_method_55_code (1 : Nat) (Option.some Jvm.ClassFile.FieldType.boolean), Jvm.Cond.code ({ cls := "java/lang/StringUTF16", name := "compress", desc := "([CII)[B" } : Jvm.MethodName) jdk_52_method_16_code (6 : Nat) (Option.some (Jvm.ClassFile.FieldType.array Jvm.ClassFile.FieldType.byte)), Jvm.Cond.code ({ cls := "java/lang/StringUTF16", name := "compress", desc := "([CI[BII)I" } : Jvm.MethodName) jdk_52_method_21_code (7 : Nat) (Option.some Jvm.ClassFile.FieldType.int), Jvm.Cond.code ({ cls := "java/lang/StringUTF16", name := "coderFromArrayLen", desc := "([BI)B" } : Jvm.MethodName) jdk_52_method_15_code (2 : Nat) (Option.some Jvm.ClassFile.FieldType.byte), Jvm.Cond.code ({ cls := "com/example/bale/bale/check/IdsIsWellFormedPinLaw", name := "idChar", desc := "(C)Z" } : Jvm.MethodName) method_5_code (6 : Nat) (Option.some Jvm.ClassFile.FieldType.boolean), Jvm.Cond.code ({ cls := "java/lang/String", name := "charAt", desc := "(I)C" } : Jvm.MethodName) jdk_42_method_56_code (2 : Nat) (Option.some Jvm.ClassFile.FieldType.char), Jvm.Cond.code ({ cls := "java/lang/String", name := "isLatin1", desc := "()Z" } : Jvm.MethodName) jdk_42_method_154_code (1 : Nat) (Option.some Jvm.ClassFile.FieldType.boolean), Jvm.Cond.code ({ cls := "java/lang/StringLatin1", name := "charAt", desc := "([BI)C" } : Jvm.MethodName) jdk_43_method_2_code (2 : Nat) (Option.some Jvm.ClassFile.FieldType.char), Jvm.Cond.code ({ cls := "java/lang/String", name := "checkIndex", desc := "(II)V" } : Jvm.MethodName) jdk_42_method_155_code (2 : Nat) (Option.none : Option Jvm.ClassFile.FieldType), Jvm.Cond.code ({ cls := "jdk/internal/util/Preconditions", name := "checkIndex", desc := "(IILjava/util/function/BiFunction;)I" } : Jvm.MethodName) jdk_41_method_11_code (3 : Nat) (Option.some Jvm.ClassFile.FieldType.int), Jvm.Cond.code ({ cls := "com/example/bale/bale/check/Ids", name := "isIdCharacter", desc := "(C)Z" } : Jvm.MethodName) prog_1_method_5_code (1 : Nat) (Option.some Jvm.ClassFile.FieldType.boolean), Jvm.Cond.code ({ cls := "java/lang/StringUTF16", name := "toBytes", desc := "([CII)[B" } : Jvm.MethodName) jdk_52_method_14_code (5 : Nat) (Option.some (Jvm.ClassFile.FieldType.array Jvm.ClassFile.FieldType.byte)), Jvm.Cond.code ({ cls := "java/lang/StringUTF16", name := "newBytesFor", desc := "(I)[B" } : Jvm.MethodName) jdk_52_method_2_code (1 : Nat) (Option.some (Jvm.ClassFile.FieldType.array Jvm.ClassFile.FieldType.byte)), Jvm.Cond.code ({ cls := "java/lang/StringUTF16", name := "newBytesLength", desc := "(I)I" } : Jvm.MethodName) jdk_52_method_3_code (1 : Nat) (Option.some Jvm.ClassFile.FieldType.int), Jvm.Cond.code ({ cls := "java/lang/StringUTF16", name := "putChar", desc := "([BII)V" } : Jvm.MethodName) jdk_52_method_4_code (3 : Nat) (Option.none : Option Jvm.ClassFile.FieldType), Jvm.Cond.code ({ cls := "java/lang/StringUTF16", name := "getChar", desc := "([BI)C" } : Jvm.MethodName) jdk_52_method_5_code (2 : Nat) (Option.some Jvm.ClassFile.FieldType.char), Jvm.Cond.code ({ cls := "java/lang/StringUTF16", name := "charAt", desc := "([BI)C" } : Jvm.MethodName) jdk_52_method_83_code (2 : Nat) (Option.some Jvm.ClassFile.FieldType.char), Jvm.Cond.code ({ cls := "java/lang/StringUTF16", name := "checkIndex", desc := "(I[B)V" } : Jvm.MethodName) jdk_52_method_91_code (2 : Nat) (Option.none : Option Jvm.ClassFile.FieldType), Jvm.Cond.code ({ cls := "java/lang/StringUTF16", name := "length", desc := "([B)I" } : Jvm.MethodName) jdk_52_method_6_code (1 : Nat) (Option.some Jvm.ClassFile.FieldType.int)]
set_option maxRecDepth 65536 in
theorem codes_eq : words1.filter isCode = codes1 := rfl
theorem w_codes : ∀ c ∈ words1.filter isCode, c.before args0 about1 = true := by
  rw [codes_eq]
  intro c hc
  simp only [codes1, List.mem_cons, List.not_mem_nil, or_false] at hc
  rcases hc with rfl | rfl | rfl | rfl | rfl | rfl | rfl | rfl | rfl | rfl | rfl | rfl | rfl | rfl | rfl | rfl | rfl | rfl | rfl | rfl | rfl | rfl | rfl | rfl | rfl | rfl | rfl | rfl
  · exact w_c0
  · exact w_c1
  · exact w_c2
  · exact w_c3
  · exact w_c4
  · exact w_c5
  · exact w_c6
  · exact w_c7
  · exact w_c8
  · exact w_c9
  · exact w_c10
  · exact w_c11
  · exact w_c12
  · exact w_c13
  · exact w_c14
  · exact w_c15
  · exact w_c16
  · exact w_c17
  · exact w_c18
  · exact w_c19
  · exact w_c20
  · exact w_c21
  · exact w_c22
  · exact w_c23
  · exact w_c24
  · exact w_c25
  · exact w_c26
  · exact w_c27
set_option maxRecDepth 65536 in
theorem w_t1 : (words1.take 24).all (fun c => isCode c || c.before args0 about1) = true := by decide +kernel
set_option maxRecDepth 65536 in
theorem w_t2 : ((words1.drop 24).take 24).all (fun c => isCode c || c.before args0 about1) = true := by decide +kernel
set_option maxRecDepth 65536 in
theorem w_t3 : (((words1.drop 24).drop 24).take 24).all (fun c => isCode c || c.before args0 about1) = true := by decide +kernel
set_option maxRecDepth 65536 in
theorem w_t4 : ((((words1.drop 24).drop 24).drop 24).take 24).all (fun c => isCode c || c.before args0 about1) = true := by decide +kernel
set_option maxRecDepth 65536 in
theorem w_t5 : ((((words1.drop 24).drop 24).drop 24).drop 24).all (fun c => isCode c || c.before args0 about1) = true := by decide +kernel
theorem w_tables : (allAtoms (Jvm.Cond.code x code maxLocals ret :: tables_1)).before args0 about1 = true := by
  rw [allAtoms_all]
  show words1.all (fun c => c.before args0 about1) = true
  refine all_split ?_ w_codes
  rw [← List.take_append_drop 24 words1, List.all_append, w_t1, ← List.take_append_drop 24 (words1.drop 24), List.all_append, w_t2, ← List.take_append_drop 24 ((words1.drop 24).drop 24), List.all_append, w_t3, ← List.take_append_drop 24 (((words1.drop 24).drop 24).drop 24), List.all_append, w_t4, w_t5]
  rfl
set_option maxRecDepth 65536 in
theorem w_rest : rest_1_c.before args0 about1 = true := by decide +kernel
set_option maxRecDepth 65536 in
theorem w_case : (Jvm.Cond.and given_1 narrow_1).before args0 about1 = true := by decide +kernel
set_option maxRecDepth 65536 in
theorem w_consts : constsHeld consts_1 about1 := Jvm.Lit.constsHeldB_iff.mp (by decide +kernel)
theorem w_applies : (headSpec (Jvm.Cond.code x code maxLocals ret :: tables_1) room_1).applies x e0.platform about1 = true :=
  (Spec.applies_iff w_frames).mpr ⟨w_running, w_runnable, w_alone, w_named, w_hears, w_ripe, w_room, w_tables⟩
theorem atStart : AtStart classFile x code maxLocals ret World_1 tables_1 room_1 Calls_1 rest_1 Pre_1 launch0 p0 e0 about1 theMethod args0 below0 :=
  ⟨lists_1, trivial, launch0.admits_env _ _ _, launch0.least_env, fairChoices_fair.cas, fairChoices_fair.clock, w_frames, w_args, w_heap, w_applies, ⟨w_consts, trivial⟩, w_rest, w_case⟩
end start1
theorem witness_1 : WitnessClaimed_1 := ⟨start1.p0, start1.e0, start1.about1, start1.theMethod, start1.args0, start1.below0, start1.atStart⟩
end Jvm.Pilot.@@N@@
