import JvmDerived
import JvmDerived.Pilot.@@N@@Statement
import JvmDerived.Pilot.@@N@@Code
set_option linter.unusedVariables false
set_option linter.unusedSimpArgs false
namespace Jvm.OwnKit
open Sem ClassFile Op Lib Jvm.Stand Jvm.Free Jvm.LawKit Jvm.RoadKit
/-! A WALK THAT IS DIRECTED BY ITS GOAL. Cx: what one invocation holds fixed. Go κ h cells slots pc Ls st: from the place pc, with these variables and this operand stack, over the heap h, the invocation returns as κ promises. -/
abbrev Cx : Type := (Program × Launch × Env × Room × State × MethodId × Array Value × List Frame × Method × Code) × (Bool × State × Nat × (Option Value → Heap → Prop))
abbrev Cx.p (κ : Cx) : Program := κ.1.1
abbrev Cx.l (κ : Cx) : Launch := κ.1.2.1
abbrev Cx.e (κ : Cx) : Env := κ.1.2.2.1
abbrev Cx.R (κ : Cx) : Room := κ.1.2.2.2.1
abbrev Cx.s (κ : Cx) : State := κ.1.2.2.2.2.1
abbrev Cx.m (κ : Cx) : MethodId := κ.1.2.2.2.2.2.1
abbrev Cx.args (κ : Cx) : Array Value := κ.1.2.2.2.2.2.2.1
abbrev Cx.below (κ : Cx) : List Frame := κ.1.2.2.2.2.2.2.2.1
abbrev Cx.meth (κ : Cx) : Method := κ.1.2.2.2.2.2.2.2.2.1
abbrev Cx.c (κ : Cx) : Code := κ.1.2.2.2.2.2.2.2.2.2
/-- may string constants be resolved on the way? -/
abbrev Cx.wide (κ : Cx) : Bool := κ.2.1
abbrev Cx.Z (κ : Cx) : State := κ.2.2.1
abbrev Cx.n0 (κ : Cx) : Nat := κ.2.2.2.1
abbrev Cx.Q (κ : Cx) : Option Value → Heap → Prop := κ.2.2.2.2
/-- the tables over which the walk stands now -/
def Cx.adm (κ : Cx) (vm0 : Vm) (n : Nat) : Prop := (∃ k0, κ.s.Since vm0 k0 ∧ k0 ≤ n) ∧ (κ.wide = false → vm0 = κ.s.vm)
/-- how an invocation ends -/
def Ends (wide : Bool) (s : State) (o : Outcome) (t : State) (L : List Loc) (k n : Nat) : Prop := (wide = false → FrameEnd s o t L k n) ∧ ReturnedEndW s o t L k n
def Go (κ : Cx) (h : Heap) (cells slots pc : Nat) (Ls : Array Slot) (st : List Value) : Prop :=
  ∀ (T : State) (locs : List Loc) (vm0 : Vm), Stand κ.p κ.l κ.e κ.R (κ.s.setVm vm0) κ.m κ.args κ.below κ.meth κ.c T locs cells slots → κ.adm vm0 h.size → κ.Z.Warmed39 vm0 → Fr κ.n0 locs → Old κ.Z κ.n0 h → T.heap = h →
    ∃ s₂ o, Steps κ.p.tables κ.e κ.below (T.setTop (mkF κ.m pc Ls st)) s₂ ∧ s₂.status = .running ∧ Ended s₂ κ.below o ∧ ∃ v L, o = .returned v ∧ (κ.Q v s₂.heap ∧ Fr κ.n0 L ∧ κ.s.heap.size ≤ s₂.heap.size ∧ Old κ.Z κ.n0 s₂.heap) ∧ Ends κ.wide κ.s o s₂ L κ.R.cells κ.R.slots
def Ok (κ : Cx) (l : Launch) (Z : State) (n0 : Nat) (own nm : String) (bytes : ByteArray) (maxL : Nat) (ret : Option FieldType) (rm : Room) (Q : Option Value → Heap → Prop) : Prop :=
  κ.l = l ∧ κ.Z = Z ∧ κ.n0 = n0 ∧ κ.R = rm ∧ κ.p.tables.exec = Jvm.exec ∧ κ.s.vm.findClass own = some κ.m.cls ∧ κ.c.code = bytes ∧ κ.c.maxLocals = maxL ∧ κ.meth.sig.returnType = ret ∧ κ.meth.name = nm ∧ κ.meth.locks = false ∧ κ.Q = Q
/-- a callee's contract: called with these arguments over the heap h0 it returns, and Q holds of what it returns and of the heap that it leaves; what it wrote lies at or above n0 -/
def Con (wide : Bool) (l : Launch) (Z : State) (n0 : Nat) (y : MethodName) (bytes : ByteArray) (maxL : Nat) (ret : Option FieldType) (rm : Room) (as' : Array Value) (h0 : Heap) (Q : Option Value → Heap → Prop) : Prop :=
  Old Z n0 h0 → ∀ ws : List Cond, MetFree l y (head1 (Cond.code y bytes maxL ret :: ws) rm) (fun a U => a = as' ∧ Z.Warmed39 U.vm ∧ U.heap = h0) (fun _ _ _ _ _ => True)
    (fun _ U o U' => ∃ v L, o = .returned v ∧ (Q v U'.heap ∧ Fr n0 L ∧ U.heap.size ≤ U'.heap.size ∧ Old Z n0 U'.heap) ∧ Ends wide U o U' L rm.cells rm.slots)
section Laws
variable {κ : Cx} {t : FieldType} {l : Launch} {Z : State} {n0 : Nat} {own nm : String} {bytes : ByteArray} {maxL : Nat} {ret : Option FieldType} {rm : Room} {Q : Option Value → Heap → Prop} {h : Heap} {cells slots pc : Nat} {Ls : Array Slot} {st : List Value}
theorem Ok.exec (K : Ok κ l Z n0 own nm bytes maxL ret rm Q) : κ.p.tables.exec = Jvm.exec := K.2.2.2.2.1
theorem Ok.kb (K : Ok κ l Z n0 own nm bytes maxL ret rm Q) : κ.c.code = bytes := K.2.2.2.2.2.2.1
theorem Ok.kl (K : Ok κ l Z n0 own nm bytes maxL ret rm Q) : κ.c.maxLocals = maxL := K.2.2.2.2.2.2.2.1
theorem Ok.kr (K : Ok κ l Z n0 own nm bytes maxL ret rm Q) : κ.meth.sig.returnType = ret := K.2.2.2.2.2.2.2.2.1
theorem Ok.name (K : Ok κ l Z n0 own nm bytes maxL ret rm Q) : κ.meth.name = nm := K.2.2.2.2.2.2.2.2.2.1
theorem Ok.locks (K : Ok κ l Z n0 own nm bytes maxL ret rm Q) : κ.meth.locks = false := K.2.2.2.2.2.2.2.2.2.2.1
theorem Ok.eQ (K : Ok κ l Z n0 own nm bytes maxL ret rm Q) : κ.Q = Q := K.2.2.2.2.2.2.2.2.2.2.2
theorem Ok.eZ (K : Ok κ l Z n0 own nm bytes maxL ret rm Q) : κ.Z = Z := K.2.1
theorem Ok.en (K : Ok κ l Z n0 own nm bytes maxL ret rm Q) : κ.n0 = n0 := K.2.2.1
theorem Ok.eR (K : Ok κ l Z n0 own nm bytes maxL ret rm Q) : κ.R = rm := K.2.2.2.1
theorem Ok.el (K : Ok κ l Z n0 own nm bytes maxL ret rm Q) : κ.l = l := K.1
theorem Ok.ko (K : Ok κ l Z n0 own nm bytes maxL ret rm Q) {vm0 : Vm} {n : Nat} (A : κ.adm vm0 n) : (κ.s.setVm vm0).vm.findClass own = some κ.m.cls := by
  obtain ⟨⟨k0, hS, -⟩, -⟩ := A
  show vm0.findClass own = _
  rw [hS.1.alike.findClass]; exact K.2.2.2.2.2.1
theorem Ok.warm (K : Ok κ l Z n0 own nm bytes maxL ret rm Q) {vm0 : Vm} (hZ : κ.Z.Warmed39 vm0) : Z.Warmed39 (κ.s.setVm vm0).vm := by rw [← K.eZ]; exact hZ
theorem Cx.adm.mono {vm0 : Vm} {n n' : Nat} (A : κ.adm vm0 n) (q : n ≤ n') : κ.adm vm0 n' := by
  obtain ⟨⟨k0, hS, hk⟩, w⟩ := A
  exact ⟨⟨k0, hS, Nat.le_trans hk q⟩, w⟩
theorem Ok.old (K : Ok κ l Z n0 own nm bytes maxL ret rm Q) (B : Old κ.Z κ.n0 h) : Old Z n0 h := by rw [← K.eZ, ← K.en]; exact B
theorem Ok.oldS (K : Ok κ l Z n0 own nm bytes maxL ret rm Q) (B : Old Z n0 h) : Old κ.Z κ.n0 h := by rw [K.eZ, K.en]; exact B
theorem low_of (B : Old Z n0 h) : n0 ≤ h.size := B.1 ▸ B.2.1
/-- what was there at the law's start is there still -/
theorem old (K : Ok κ l Z n0 own nm bytes maxL ret rm Q) (hr : Old Z n0 h → Go κ h cells slots pc Ls st) : Go κ h cells slots pc Ls st := fun T locs vm0 X A hZ N B eT =>
  hr (K.old B) T locs vm0 X A hZ N B eT
theorem more {cells' slots' : Nat} (hc : cells ≤ cells') (hs : slots ≤ slots') (hr : Go κ h cells' slots' pc Ls st) : Go κ h cells slots pc Ls st := fun T locs vm0 X A hZ N B eT =>
  hr T locs vm0 (X.mono hc hs) A hZ N B eT
theorem Ends.mono {wide : Bool} {s t : State} {o : Outcome} {L : List Loc} {k n k' n' : Nat} (E : Ends wide s o t L k n) (hk : k ≤ k') (hn : n ≤ n') : Ends wide s o t L k' n' :=
  ⟨fun w => ⟨(E.1 w).1, (E.1 w).2.1, (E.1 w).2.2.mono hk hn⟩, E.2.1, E.2.2.1, E.2.2.2.1, E.2.2.2.2.mono hk hn⟩
/-! ## the end of a walk -/
theorem out (K : Ok κ l Z n0 own nm bytes maxL ret rm Q) {v : Option Value} (hv : ret = none → v = none) (hq : Q v h) (hc : cells ≤ rm.cells) (hs : slots ≤ rm.slots)
    (st1 : ∀ (T : State) (locs : List Loc) (vm0 : Vm) (fs : List Frame), Stand κ.p κ.l κ.e κ.R (κ.s.setVm vm0) κ.m κ.args κ.below κ.meth κ.c T locs cells slots → (∀ (f : JFrame) (acts : List Action), f.method = κ.m → f.locked = none → f.entered = [] → (doReturn κ.e (T.setTop f) acts v).1 = T.setFrames fs) →
      Steps κ.p.tables κ.e κ.below (T.setTop (mkF κ.m pc Ls st)) (T.setFrames fs)) : Go κ h cells slots pc Ls st := fun T locs vm0 X A hZ N B eT => by
  obtain ⟨⟨k0, hS, hk⟩, hw⟩ := A
  have hlk := K.locks
  obtain ⟨fs, hr, hrun, hended, hW, hsame⟩ := X.leave (v := v) (fun q => hv (K.kr ▸ q))
  have hR : ReturnedEndW κ.s (.returned v) (T.setFrames fs) locs cells slots := by
    obtain ⟨a, b, c'⟩ := hS.ended (U := T.setFrames fs) hW (by show k0 ≤ T.heap.size; rw [eT]; exact hk) hsame
    exact ⟨⟨v, rfl⟩, a, b, c'⟩
  refine ⟨_, _, st1 T locs vm0 fs X hr, hrun, hended, v, locs, rfl, ⟨?_, N, hR.2.2.2.2.1, by show Old κ.Z κ.n0 T.heap; rw [eT]; exact B⟩, Ends.mono ⟨fun w => ?_, hR⟩ (by rw [K.eR]; exact hc) (by rw [K.eR]; exact hs)⟩
  · show κ.Q v T.heap
    rw [K.eQ, eT]; exact hq
  · have e0 := hw w
    subst e0
    exact ⟨⟨v, rfl⟩, hW, hsame⟩
theorem retOf (K : Ok κ l Z n0 own nm bytes maxL (some t) rm Q) {w : Value} {i : Instr} (hd : decode bytes pc = .ok (i, 1)) (hn : narrow t w = w)
    (hi : (i = .ireturn ∧ (t = .int ∨ t = .boolean ∨ t = .byte ∨ t = .char ∨ t = .short) ∧ ∃ z, w = .int z) ∨ (i = .lreturn ∧ t = .long ∧ ∃ z, w = .long z) ∨ (i = .dreturn ∧ t = .double ∧ ∃ z, w = .double z) ∨ (i = .freturn ∧ t = .float ∧ ∃ z, w = .float z) ∨ (i = .areturn ∧ t.isReference = true ∧ w.isRef = true))
    (hq : Q (some w) h) (hc : cells ≤ rm.cells) (hs : slots ≤ rm.slots) : Go κ h cells slots pc Ls (w :: st) :=
  out K (fun q => nomatch q) hq hc hs fun T locs vm0 fs X hr => retOut X K.exec K.kr hn hi (hb K.kb hd) hr
theorem ireturn (K : Ok κ l Z n0 own nm bytes maxL (some t) rm Q) {z : Int32} (hd : decode bytes pc = .ok (.ireturn, 1)) (ht : t = .int ∨ t = .boolean ∨ t = .byte ∨ t = .char ∨ t = .short) (hn : narrow t (.int z) = .int z)
    (hq : Q (some (.int z)) h) (hc : cells ≤ rm.cells) (hs : slots ≤ rm.slots) : Go κ h cells slots pc Ls (.int z :: st) := retOf K hd hn (Or.inl ⟨rfl, ht, z, rfl⟩) hq hc hs
theorem lreturn (K : Ok κ l Z n0 own nm bytes maxL (some .long) rm Q) {z : Int64} (hd : decode bytes pc = .ok (.lreturn, 1)) (hq : Q (some (.long z)) h) (hc : cells ≤ rm.cells) (hs : slots ≤ rm.slots) : Go κ h cells slots pc Ls (.long z :: st) :=
  retOf K hd rfl (Or.inr (Or.inl ⟨rfl, rfl, z, rfl⟩)) hq hc hs
theorem areturn (K : Ok κ l Z n0 own nm bytes maxL (some t) rm Q) {w : Value} (hd : decode bytes pc = .ok (.areturn, 1)) (ht : t.isReference = true) (hw : w.isRef = true) (hq : Q (some w) h) (hc : cells ≤ rm.cells) (hs : slots ≤ rm.slots) : Go κ h cells slots pc Ls (w :: st) := by
  refine retOf K hd ?_ (Or.inr (Or.inr (Or.inr (Or.inr ⟨rfl, ht, hw⟩)))) hq hc hs
  cases t <;> first | (exact Bool.noConfusion ht; done) | (rcases ref_cases hw with rfl | ⟨a, rfl⟩ <;> rfl)
theorem return0 (K : Ok κ l Z n0 own nm bytes maxL none rm Q) (hd : decode bytes pc = .ok (.return_, 1)) (hq : Q none h) (hc : cells ≤ rm.cells) (hs : slots ≤ rm.slots) : Go κ h cells slots pc Ls [] :=
  out K (fun _ => rfl) hq hc hs fun T locs vm0 fs X hr => X.returnOut K.exec K.kr (hb K.kb hd) hr

theorem iloadN {k : Fin 4} {v : Int32} (K : Ok κ l Z n0 own nm bytes maxL ret rm Q) (hd : decode bytes pc = .ok (.iload_n k, 1)) (hl : Ls[k.val]? = some (.val (.int v))) (hr : Go κ h cells slots (pc + 1) Ls ((.int v) :: st)) : Go κ h cells slots pc Ls (st) := fun T locs vm0 X A hZ N B eT => by
  obtain ⟨s₂, o, hs, r⟩ := hr T locs vm0 X A hZ N B eT
  exact ⟨s₂, o, XS.iloadN X.here K.exec rfl (hb K.kb hd) hl hs, r⟩
theorem iload {k : Nat} {v : Int32} (K : Ok κ l Z n0 own nm bytes maxL ret rm Q) (hd : decode bytes pc = .ok (.iload k, 2)) (hl : Ls[k]? = some (.val (.int v))) (hr : Go κ h cells slots (pc + 2) Ls ((.int v) :: st)) : Go κ h cells slots pc Ls (st) := fun T locs vm0 X A hZ N B eT => by
  obtain ⟨s₂, o, hs, r⟩ := hr T locs vm0 X A hZ N B eT
  exact ⟨s₂, o, XS.iload X.here K.exec rfl (hb K.kb hd) hl hs, r⟩
theorem lloadN {k : Fin 4} {v : Int64} (K : Ok κ l Z n0 own nm bytes maxL ret rm Q) (hd : decode bytes pc = .ok (.lload_n k, 1)) (hl : Ls[k.val]? = some (.val (.long v))) (hr : Go κ h cells slots (pc + 1) Ls ((.long v) :: st)) : Go κ h cells slots pc Ls (st) := fun T locs vm0 X A hZ N B eT => by
  obtain ⟨s₂, o, hs, r⟩ := hr T locs vm0 X A hZ N B eT
  exact ⟨s₂, o, XT.lloadN X.here K.exec rfl (hb K.kb hd) hl hs, r⟩
theorem lload {k : Nat} {v : Int64} (K : Ok κ l Z n0 own nm bytes maxL ret rm Q) (hd : decode bytes pc = .ok (.lload k, 2)) (hl : Ls[k]? = some (.val (.long v))) (hr : Go κ h cells slots (pc + 2) Ls ((.long v) :: st)) : Go κ h cells slots pc Ls (st) := fun T locs vm0 X A hZ N B eT => by
  obtain ⟨s₂, o, hs, r⟩ := hr T locs vm0 X A hZ N B eT
  exact ⟨s₂, o, XT.lload X.here K.exec rfl (hb K.kb hd) hl hs, r⟩
theorem aloadN {k : Fin 4} {v : Value} (K : Ok κ l Z n0 own nm bytes maxL ret rm Q) (hd : decode bytes pc = .ok (.aload_n k, 1)) (hl : Ls[k.val]? = some (.val v)) (hv : v.isRef = true) (hr : Go κ h cells slots (pc + 1) Ls (v :: st)) : Go κ h cells slots pc Ls (st) := fun T locs vm0 X A hZ N B eT => by
  obtain ⟨s₂, o, hs, r⟩ := hr T locs vm0 X A hZ N B eT
  exact ⟨s₂, o, XS.aloadN X.here K.exec rfl (hb K.kb hd) hl hv hs, r⟩
theorem aload {k : Nat} {v : Value} (K : Ok κ l Z n0 own nm bytes maxL ret rm Q) (hd : decode bytes pc = .ok (.aload k, 2)) (hl : Ls[k]? = some (.val v)) (hv : v.isRef = true) (hr : Go κ h cells slots (pc + 2) Ls (v :: st)) : Go κ h cells slots pc Ls (st) := fun T locs vm0 X A hZ N B eT => by
  obtain ⟨s₂, o, hs, r⟩ := hr T locs vm0 X A hZ N B eT
  exact ⟨s₂, o, XS.aload X.here K.exec rfl (hb K.kb hd) hl hv hs, r⟩
theorem istoreN {k : Fin 4} {x : Int32} {l' : Array Slot} (K : Ok κ l Z n0 own nm bytes maxL ret rm Q) (hd : decode bytes pc = .ok (.istore_n k, 1)) (hl : storeLocals Ls k.val (.int x) = some l') (hr : Go κ h cells slots (pc + 1) l' (st)) : Go κ h cells slots pc Ls ((.int x) :: st) := fun T locs vm0 X A hZ N B eT => by
  obtain ⟨s₂, o, hs, r⟩ := hr T locs vm0 X A hZ N B eT
  exact ⟨s₂, o, XS.istoreN X.here K.exec rfl (hb K.kb hd) rfl hl hs, r⟩
theorem istore {k : Nat} {x : Int32} {l' : Array Slot} (K : Ok κ l Z n0 own nm bytes maxL ret rm Q) (hd : decode bytes pc = .ok (.istore k, 2)) (hl : storeLocals Ls k (.int x) = some l') (hr : Go κ h cells slots (pc + 2) l' (st)) : Go κ h cells slots pc Ls ((.int x) :: st) := fun T locs vm0 X A hZ N B eT => by
  obtain ⟨s₂, o, hs, r⟩ := hr T locs vm0 X A hZ N B eT
  exact ⟨s₂, o, XS.istore X.here K.exec rfl (hb K.kb hd) rfl hl hs, r⟩
theorem lstoreN {k : Fin 4} {x : Int64} {l' : Array Slot} (K : Ok κ l Z n0 own nm bytes maxL ret rm Q) (hd : decode bytes pc = .ok (.lstore_n k, 1)) (hl : storeLocals Ls k.val (.long x) = some l') (hr : Go κ h cells slots (pc + 1) l' (st)) : Go κ h cells slots pc Ls ((.long x) :: st) := fun T locs vm0 X A hZ N B eT => by
  obtain ⟨s₂, o, hs, r⟩ := hr T locs vm0 X A hZ N B eT
  exact ⟨s₂, o, XT.lstoreN X.here K.exec rfl (hb K.kb hd) rfl hl hs, r⟩
theorem lstore {k : Nat} {x : Int64} {l' : Array Slot} (K : Ok κ l Z n0 own nm bytes maxL ret rm Q) (hd : decode bytes pc = .ok (.lstore k, 2)) (hl : storeLocals Ls k (.long x) = some l') (hr : Go κ h cells slots (pc + 2) l' (st)) : Go κ h cells slots pc Ls ((.long x) :: st) := fun T locs vm0 X A hZ N B eT => by
  obtain ⟨s₂, o, hs, r⟩ := hr T locs vm0 X A hZ N B eT
  exact ⟨s₂, o, XT.lstore X.here K.exec rfl (hb K.kb hd) rfl hl hs, r⟩
theorem astoreN {k : Fin 4} {x : Value} {l' : Array Slot} (K : Ok κ l Z n0 own nm bytes maxL ret rm Q) (hd : decode bytes pc = .ok (.astore_n k, 1)) (hv : x.isRef = true) (hl : storeLocals Ls k.val x = some l') (hr : Go κ h cells slots (pc + 1) l' (st)) : Go κ h cells slots pc Ls (x :: st) := fun T locs vm0 X A hZ N B eT => by
  obtain ⟨s₂, o, hs, r⟩ := hr T locs vm0 X A hZ N B eT
  exact ⟨s₂, o, XS.astoreN X.here K.exec rfl (hb K.kb hd) rfl hv hl hs, r⟩
theorem astore {k : Nat} {x : Value} {l' : Array Slot} (K : Ok κ l Z n0 own nm bytes maxL ret rm Q) (hd : decode bytes pc = .ok (.astore k, 2)) (hv : x.isRef = true) (hl : storeLocals Ls k x = some l') (hr : Go κ h cells slots (pc + 2) l' (st)) : Go κ h cells slots pc Ls (x :: st) := fun T locs vm0 X A hZ N B eT => by
  obtain ⟨s₂, o, hs, r⟩ := hr T locs vm0 X A hZ N B eT
  exact ⟨s₂, o, XS.astore X.here K.exec rfl (hb K.kb hd) rfl hv hl hs, r⟩
theorem iconst {i : Int} (K : Ok κ l Z n0 own nm bytes maxL ret rm Q) (hd : decode bytes pc = .ok (.iconst i, 1))  (hr : Go κ h cells slots (pc + 1) Ls (.int (Int32.ofInt i) :: st)) : Go κ h cells slots pc Ls (st) := fun T locs vm0 X A hZ N B eT => by
  obtain ⟨s₂, o, hs, r⟩ := hr T locs vm0 X A hZ N B eT
  exact ⟨s₂, o, XS.iconst X.here K.exec rfl (hb K.kb hd)  hs, r⟩
theorem bipush {i : Int} (K : Ok κ l Z n0 own nm bytes maxL ret rm Q) (hd : decode bytes pc = .ok (.bipush i, 2))  (hr : Go κ h cells slots (pc + 2) Ls (.int (Int8.ofInt i).toInt32 :: st)) : Go κ h cells slots pc Ls (st) := fun T locs vm0 X A hZ N B eT => by
  obtain ⟨s₂, o, hs, r⟩ := hr T locs vm0 X A hZ N B eT
  exact ⟨s₂, o, XS.bipush X.here K.exec rfl (hb K.kb hd)  hs, r⟩
theorem sipush {i : Int} (K : Ok κ l Z n0 own nm bytes maxL ret rm Q) (hd : decode bytes pc = .ok (.sipush i, 3))  (hr : Go κ h cells slots (pc + 3) Ls (.int (Int16.ofInt i).toInt32 :: st)) : Go κ h cells slots pc Ls (st) := fun T locs vm0 X A hZ N B eT => by
  obtain ⟨s₂, o, hs, r⟩ := hr T locs vm0 X A hZ N B eT
  exact ⟨s₂, o, XS.sipush X.here K.exec rfl (hb K.kb hd)  hs, r⟩
theorem lconst {k : Fin 2} (K : Ok κ l Z n0 own nm bytes maxL ret rm Q) (hd : decode bytes pc = .ok (.lconst k, 1))  (hr : Go κ h cells slots (pc + 1) Ls (.long (Int64.ofNat k) :: st)) : Go κ h cells slots pc Ls (st) := fun T locs vm0 X A hZ N B eT => by
  obtain ⟨s₂, o, hs, r⟩ := hr T locs vm0 X A hZ N B eT
  exact ⟨s₂, o, XT.lconst X.here K.exec rfl (hb K.kb hd)  hs, r⟩
theorem aconstNull  (K : Ok κ l Z n0 own nm bytes maxL ret rm Q) (hd : decode bytes pc = .ok (.aconst_null, 1))  (hr : Go κ h cells slots (pc + 1) Ls (.null :: st)) : Go κ h cells slots pc Ls (st) := fun T locs vm0 X A hZ N B eT => by
  obtain ⟨s₂, o, hs, r⟩ := hr T locs vm0 X A hZ N B eT
  exact ⟨s₂, o, XS.aconstNull X.here K.exec rfl (hb K.kb hd)  hs, r⟩
theorem iadd {x y : Int32} (K : Ok κ l Z n0 own nm bytes maxL ret rm Q) (hd : decode bytes pc = .ok (.iadd, 1))  (hr : Go κ h cells slots (pc + 1) Ls (.int (x + y) :: st)) : Go κ h cells slots pc Ls (.int y :: .int x :: st) := fun T locs vm0 X A hZ N B eT => by
  obtain ⟨s₂, o, hs, r⟩ := hr T locs vm0 X A hZ N B eT
  exact ⟨s₂, o, XS.iadd X.here K.exec rfl (hb K.kb hd) rfl hs, r⟩
theorem isub {x y : Int32} (K : Ok κ l Z n0 own nm bytes maxL ret rm Q) (hd : decode bytes pc = .ok (.isub, 1))  (hr : Go κ h cells slots (pc + 1) Ls (.int (x - y) :: st)) : Go κ h cells slots pc Ls (.int y :: .int x :: st) := fun T locs vm0 X A hZ N B eT => by
  obtain ⟨s₂, o, hs, r⟩ := hr T locs vm0 X A hZ N B eT
  exact ⟨s₂, o, XS.isub X.here K.exec rfl (hb K.kb hd) rfl hs, r⟩
theorem imul {x y : Int32} (K : Ok κ l Z n0 own nm bytes maxL ret rm Q) (hd : decode bytes pc = .ok (.imul, 1))  (hr : Go κ h cells slots (pc + 1) Ls (.int (x * y) :: st)) : Go κ h cells slots pc Ls (.int y :: .int x :: st) := fun T locs vm0 X A hZ N B eT => by
  obtain ⟨s₂, o, hs, r⟩ := hr T locs vm0 X A hZ N B eT
  exact ⟨s₂, o, XS.imul X.here K.exec rfl (hb K.kb hd) rfl hs, r⟩
theorem iand {x y : Int32} (K : Ok κ l Z n0 own nm bytes maxL ret rm Q) (hd : decode bytes pc = .ok (.iand, 1))  (hr : Go κ h cells slots (pc + 1) Ls (.int (x &&& y) :: st)) : Go κ h cells slots pc Ls (.int y :: .int x :: st) := fun T locs vm0 X A hZ N B eT => by
  obtain ⟨s₂, o, hs, r⟩ := hr T locs vm0 X A hZ N B eT
  exact ⟨s₂, o, XS.iand X.here K.exec rfl (hb K.kb hd) rfl hs, r⟩
theorem ior {x y : Int32} (K : Ok κ l Z n0 own nm bytes maxL ret rm Q) (hd : decode bytes pc = .ok (.ior, 1))  (hr : Go κ h cells slots (pc + 1) Ls (.int (x ||| y) :: st)) : Go κ h cells slots pc Ls (.int y :: .int x :: st) := fun T locs vm0 X A hZ N B eT => by
  obtain ⟨s₂, o, hs, r⟩ := hr T locs vm0 X A hZ N B eT
  exact ⟨s₂, o, XT.ior X.here K.exec rfl (hb K.kb hd) rfl hs, r⟩
theorem ixor {x y : Int32} (K : Ok κ l Z n0 own nm bytes maxL ret rm Q) (hd : decode bytes pc = .ok (.ixor, 1))  (hr : Go κ h cells slots (pc + 1) Ls (.int (x ^^^ y) :: st)) : Go κ h cells slots pc Ls (.int y :: .int x :: st) := fun T locs vm0 X A hZ N B eT => by
  obtain ⟨s₂, o, hs, r⟩ := hr T locs vm0 X A hZ N B eT
  exact ⟨s₂, o, XT.ixor X.here K.exec rfl (hb K.kb hd) rfl hs, r⟩
theorem ishl {x y : Int32} (K : Ok κ l Z n0 own nm bytes maxL ret rm Q) (hd : decode bytes pc = .ok (.ishl, 1))  (hr : Go κ h cells slots (pc + 1) Ls (.int (x <<< (y &&& 31)) :: st)) : Go κ h cells slots pc Ls (.int y :: .int x :: st) := fun T locs vm0 X A hZ N B eT => by
  obtain ⟨s₂, o, hs, r⟩ := hr T locs vm0 X A hZ N B eT
  exact ⟨s₂, o, XT.ishl X.here K.exec rfl (hb K.kb hd) rfl hs, r⟩
theorem ishr {x y : Int32} (K : Ok κ l Z n0 own nm bytes maxL ret rm Q) (hd : decode bytes pc = .ok (.ishr, 1))  (hr : Go κ h cells slots (pc + 1) Ls (.int (x >>> (y &&& 31)) :: st)) : Go κ h cells slots pc Ls (.int y :: .int x :: st) := fun T locs vm0 X A hZ N B eT => by
  obtain ⟨s₂, o, hs, r⟩ := hr T locs vm0 X A hZ N B eT
  exact ⟨s₂, o, XT.ishr X.here K.exec rfl (hb K.kb hd) rfl hs, r⟩
theorem iushr {x y : Int32} (K : Ok κ l Z n0 own nm bytes maxL ret rm Q) (hd : decode bytes pc = .ok (.iushr, 1))  (hr : Go κ h cells slots (pc + 1) Ls (.int (XT.ushr x y) :: st)) : Go κ h cells slots pc Ls (.int y :: .int x :: st) := fun T locs vm0 X A hZ N B eT => by
  obtain ⟨s₂, o, hs, r⟩ := hr T locs vm0 X A hZ N B eT
  exact ⟨s₂, o, XT.iushr X.here K.exec rfl (hb K.kb hd) rfl hs, r⟩
theorem idiv {x y : Int32} (K : Ok κ l Z n0 own nm bytes maxL ret rm Q) (hd : decode bytes pc = .ok (.idiv, 1)) (hy : y ≠ 0) (hr : Go κ h cells slots (pc + 1) Ls (.int (x / y) :: st)) : Go κ h cells slots pc Ls (.int y :: .int x :: st) := fun T locs vm0 X A hZ N B eT => by
  obtain ⟨s₂, o, hs, r⟩ := hr T locs vm0 X A hZ N B eT
  exact ⟨s₂, o, XS.idiv X.here K.exec rfl (hb K.kb hd) rfl hy hs, r⟩
theorem ineg {x : Int32} (K : Ok κ l Z n0 own nm bytes maxL ret rm Q) (hd : decode bytes pc = .ok (.ineg, 1))  (hr : Go κ h cells slots (pc + 1) Ls (.int (-x) :: st)) : Go κ h cells slots pc Ls (.int x :: st) := fun T locs vm0 X A hZ N B eT => by
  obtain ⟨s₂, o, hs, r⟩ := hr T locs vm0 X A hZ N B eT
  exact ⟨s₂, o, XS.ineg X.here K.exec rfl (hb K.kb hd) rfl hs, r⟩
theorem ladd {x y : Int64} (K : Ok κ l Z n0 own nm bytes maxL ret rm Q) (hd : decode bytes pc = .ok (.ladd, 1))  (hr : Go κ h cells slots (pc + 1) Ls (.long (x + y) :: st)) : Go κ h cells slots pc Ls (.long y :: .long x :: st) := fun T locs vm0 X A hZ N B eT => by
  obtain ⟨s₂, o, hs, r⟩ := hr T locs vm0 X A hZ N B eT
  exact ⟨s₂, o, XT.ladd X.here K.exec rfl (hb K.kb hd) rfl hs, r⟩
theorem lsub {x y : Int64} (K : Ok κ l Z n0 own nm bytes maxL ret rm Q) (hd : decode bytes pc = .ok (.lsub, 1))  (hr : Go κ h cells slots (pc + 1) Ls (.long (x - y) :: st)) : Go κ h cells slots pc Ls (.long y :: .long x :: st) := fun T locs vm0 X A hZ N B eT => by
  obtain ⟨s₂, o, hs, r⟩ := hr T locs vm0 X A hZ N B eT
  exact ⟨s₂, o, XT.lsub X.here K.exec rfl (hb K.kb hd) rfl hs, r⟩
theorem lmul {x y : Int64} (K : Ok κ l Z n0 own nm bytes maxL ret rm Q) (hd : decode bytes pc = .ok (.lmul, 1))  (hr : Go κ h cells slots (pc + 1) Ls (.long (x * y) :: st)) : Go κ h cells slots pc Ls (.long y :: .long x :: st) := fun T locs vm0 X A hZ N B eT => by
  obtain ⟨s₂, o, hs, r⟩ := hr T locs vm0 X A hZ N B eT
  exact ⟨s₂, o, XT.lmul X.here K.exec rfl (hb K.kb hd) rfl hs, r⟩
theorem land {x y : Int64} (K : Ok κ l Z n0 own nm bytes maxL ret rm Q) (hd : decode bytes pc = .ok (.land, 1))  (hr : Go κ h cells slots (pc + 1) Ls (.long (x &&& y) :: st)) : Go κ h cells slots pc Ls (.long y :: .long x :: st) := fun T locs vm0 X A hZ N B eT => by
  obtain ⟨s₂, o, hs, r⟩ := hr T locs vm0 X A hZ N B eT
  exact ⟨s₂, o, XT.land X.here K.exec rfl (hb K.kb hd) rfl hs, r⟩
theorem lor {x y : Int64} (K : Ok κ l Z n0 own nm bytes maxL ret rm Q) (hd : decode bytes pc = .ok (.lor, 1))  (hr : Go κ h cells slots (pc + 1) Ls (.long (x ||| y) :: st)) : Go κ h cells slots pc Ls (.long y :: .long x :: st) := fun T locs vm0 X A hZ N B eT => by
  obtain ⟨s₂, o, hs, r⟩ := hr T locs vm0 X A hZ N B eT
  exact ⟨s₂, o, XT.lor X.here K.exec rfl (hb K.kb hd) rfl hs, r⟩
theorem lxor {x y : Int64} (K : Ok κ l Z n0 own nm bytes maxL ret rm Q) (hd : decode bytes pc = .ok (.lxor, 1))  (hr : Go κ h cells slots (pc + 1) Ls (.long (x ^^^ y) :: st)) : Go κ h cells slots pc Ls (.long y :: .long x :: st) := fun T locs vm0 X A hZ N B eT => by
  obtain ⟨s₂, o, hs, r⟩ := hr T locs vm0 X A hZ N B eT
  exact ⟨s₂, o, XT.lxor X.here K.exec rfl (hb K.kb hd) rfl hs, r⟩
theorem ldiv {x y : Int64} (K : Ok κ l Z n0 own nm bytes maxL ret rm Q) (hd : decode bytes pc = .ok (.ldiv, 1)) (hy : y ≠ 0) (hr : Go κ h cells slots (pc + 1) Ls (.long (x / y) :: st)) : Go κ h cells slots pc Ls (.long y :: .long x :: st) := fun T locs vm0 X A hZ N B eT => by
  obtain ⟨s₂, o, hs, r⟩ := hr T locs vm0 X A hZ N B eT
  exact ⟨s₂, o, XT.ldiv X.here K.exec rfl (hb K.kb hd) rfl hy hs, r⟩
theorem lshl {x : Int64} {y : Int32} (K : Ok κ l Z n0 own nm bytes maxL ret rm Q) (hd : decode bytes pc = .ok (.lshl, 1))  (hr : Go κ h cells slots (pc + 1) Ls (.long (x <<< (y.toInt64 &&& 63)) :: st)) : Go κ h cells slots pc Ls (.int y :: .long x :: st) := fun T locs vm0 X A hZ N B eT => by
  obtain ⟨s₂, o, hs, r⟩ := hr T locs vm0 X A hZ N B eT
  exact ⟨s₂, o, XT.lshl X.here K.exec rfl (hb K.kb hd) rfl hs, r⟩
theorem lshr {x : Int64} {y : Int32} (K : Ok κ l Z n0 own nm bytes maxL ret rm Q) (hd : decode bytes pc = .ok (.lshr, 1))  (hr : Go κ h cells slots (pc + 1) Ls (.long (x >>> (y.toInt64 &&& 63)) :: st)) : Go κ h cells slots pc Ls (.int y :: .long x :: st) := fun T locs vm0 X A hZ N B eT => by
  obtain ⟨s₂, o, hs, r⟩ := hr T locs vm0 X A hZ N B eT
  exact ⟨s₂, o, XT.lshr X.here K.exec rfl (hb K.kb hd) rfl hs, r⟩
theorem lushr {x : Int64} {y : Int32} (K : Ok κ l Z n0 own nm bytes maxL ret rm Q) (hd : decode bytes pc = .ok (.lushr, 1))  (hr : Go κ h cells slots (pc + 1) Ls (.long (XT.ushrL x y) :: st)) : Go κ h cells slots pc Ls (.int y :: .long x :: st) := fun T locs vm0 X A hZ N B eT => by
  obtain ⟨s₂, o, hs, r⟩ := hr T locs vm0 X A hZ N B eT
  exact ⟨s₂, o, XT.lushr X.here K.exec rfl (hb K.kb hd) rfl hs, r⟩
theorem lneg {x : Int64} (K : Ok κ l Z n0 own nm bytes maxL ret rm Q) (hd : decode bytes pc = .ok (.lneg, 1))  (hr : Go κ h cells slots (pc + 1) Ls (.long (-x) :: st)) : Go κ h cells slots pc Ls (.long x :: st) := fun T locs vm0 X A hZ N B eT => by
  obtain ⟨s₂, o, hs, r⟩ := hr T locs vm0 X A hZ N B eT
  exact ⟨s₂, o, XT.lneg X.here K.exec rfl (hb K.kb hd) rfl hs, r⟩
theorem i2l {x : Int32} (K : Ok κ l Z n0 own nm bytes maxL ret rm Q) (hd : decode bytes pc = .ok (.i2l, 1))  (hr : Go κ h cells slots (pc + 1) Ls (.long x.toInt64 :: st)) : Go κ h cells slots pc Ls (.int x :: st) := fun T locs vm0 X A hZ N B eT => by
  obtain ⟨s₂, o, hs, r⟩ := hr T locs vm0 X A hZ N B eT
  exact ⟨s₂, o, XT.i2l X.here K.exec rfl (hb K.kb hd) rfl hs, r⟩
theorem l2i {x : Int64} (K : Ok κ l Z n0 own nm bytes maxL ret rm Q) (hd : decode bytes pc = .ok (.l2i, 1))  (hr : Go κ h cells slots (pc + 1) Ls (.int x.toInt32 :: st)) : Go κ h cells slots pc Ls (.long x :: st) := fun T locs vm0 X A hZ N B eT => by
  obtain ⟨s₂, o, hs, r⟩ := hr T locs vm0 X A hZ N B eT
  exact ⟨s₂, o, XT.l2i X.here K.exec rfl (hb K.kb hd) rfl hs, r⟩
theorem i2b {x : Int32} (K : Ok κ l Z n0 own nm bytes maxL ret rm Q) (hd : decode bytes pc = .ok (.i2b, 1))  (hr : Go κ h cells slots (pc + 1) Ls (.int x.toInt8.toInt32 :: st)) : Go κ h cells slots pc Ls (.int x :: st) := fun T locs vm0 X A hZ N B eT => by
  obtain ⟨s₂, o, hs, r⟩ := hr T locs vm0 X A hZ N B eT
  exact ⟨s₂, o, XT.i2b X.here K.exec rfl (hb K.kb hd) rfl hs, r⟩
theorem i2c {x : Int32} (K : Ok κ l Z n0 own nm bytes maxL ret rm Q) (hd : decode bytes pc = .ok (.i2c, 1))  (hr : Go κ h cells slots (pc + 1) Ls (.int x.toUInt32.toUInt16.toUInt32.toInt32 :: st)) : Go κ h cells slots pc Ls (.int x :: st) := fun T locs vm0 X A hZ N B eT => by
  obtain ⟨s₂, o, hs, r⟩ := hr T locs vm0 X A hZ N B eT
  exact ⟨s₂, o, XT.i2c X.here K.exec rfl (hb K.kb hd) rfl hs, r⟩
theorem i2s {x : Int32} (K : Ok κ l Z n0 own nm bytes maxL ret rm Q) (hd : decode bytes pc = .ok (.i2s, 1))  (hr : Go κ h cells slots (pc + 1) Ls (.int x.toInt16.toInt32 :: st)) : Go κ h cells slots pc Ls (.int x :: st) := fun T locs vm0 X A hZ N B eT => by
  obtain ⟨s₂, o, hs, r⟩ := hr T locs vm0 X A hZ N B eT
  exact ⟨s₂, o, XT.i2s X.here K.exec rfl (hb K.kb hd) rfl hs, r⟩
theorem lcmp {x y : Int64} (K : Ok κ l Z n0 own nm bytes maxL ret rm Q) (hd : decode bytes pc = .ok (.lcmp, 1))  (hr : Go κ h cells slots (pc + 1) Ls (.int (XT.cmpL x y) :: st)) : Go κ h cells slots pc Ls (.long y :: .long x :: st) := fun T locs vm0 X A hZ N B eT => by
  obtain ⟨s₂, o, hs, r⟩ := hr T locs vm0 X A hZ N B eT
  exact ⟨s₂, o, XT.lcmp X.here K.exec rfl (hb K.kb hd) rfl hs, r⟩
theorem dup {x : Value} (K : Ok κ l Z n0 own nm bytes maxL ret rm Q) (hd : decode bytes pc = .ok (.dup, 1)) (hc : x.category = 1) (hr : Go κ h cells slots (pc + 1) Ls (x :: x :: st)) : Go κ h cells slots pc Ls (x :: st) := fun T locs vm0 X A hZ N B eT => by
  obtain ⟨s₂, o, hs, r⟩ := hr T locs vm0 X A hZ N B eT
  exact ⟨s₂, o, XS.dup X.here K.exec rfl (hb K.kb hd) rfl hc hs, r⟩
theorem pop {x : Value} (K : Ok κ l Z n0 own nm bytes maxL ret rm Q) (hd : decode bytes pc = .ok (.pop, 1)) (hc : x.category = 1) (hr : Go κ h cells slots (pc + 1) Ls (st)) : Go κ h cells slots pc Ls (x :: st) := fun T locs vm0 X A hZ N B eT => by
  obtain ⟨s₂, o, hs, r⟩ := hr T locs vm0 X A hZ N B eT
  exact ⟨s₂, o, XT.pop X.here K.exec rfl (hb K.kb hd) rfl hc hs, r⟩
theorem dupX1 {x y : Value} (K : Ok κ l Z n0 own nm bytes maxL ret rm Q) (hd : decode bytes pc = .ok (.dup_x1, 1)) (hc : x.category = 1) (hc' : y.category = 1) (hr : Go κ h cells slots (pc + 1) Ls (x :: y :: x :: st)) : Go κ h cells slots pc Ls (x :: y :: st) := fun T locs vm0 X A hZ N B eT => by
  obtain ⟨s₂, o, hs, r⟩ := hr T locs vm0 X A hZ N B eT
  exact ⟨s₂, o, XT.dupX1 X.here K.exec rfl (hb K.kb hd) rfl hc hc' hs, r⟩
theorem dup2 {x y : Value} (K : Ok κ l Z n0 own nm bytes maxL ret rm Q) (hd : decode bytes pc = .ok (.dup2, 1)) (hc : x.category = 1) (hc' : y.category = 1) (hr : Go κ h cells slots (pc + 1) Ls (x :: y :: x :: y :: st)) : Go κ h cells slots pc Ls (x :: y :: st) := fun T locs vm0 X A hZ N B eT => by
  obtain ⟨s₂, o, hs, r⟩ := hr T locs vm0 X A hZ N B eT
  exact ⟨s₂, o, XT.dup2 X.here K.exec rfl (hb K.kb hd) rfl hc hc' hs, r⟩
theorem dup2L {x : Int64} (K : Ok κ l Z n0 own nm bytes maxL ret rm Q) (hd : decode bytes pc = .ok (.dup2, 1))  (hr : Go κ h cells slots (pc + 1) Ls (.long x :: .long x :: st)) : Go κ h cells slots pc Ls (.long x :: st) := fun T locs vm0 X A hZ N B eT => by
  obtain ⟨s₂, o, hs, r⟩ := hr T locs vm0 X A hZ N B eT
  exact ⟨s₂, o, XT.dup2L X.here K.exec rfl (hb K.kb hd) rfl hs, r⟩
theorem iinc {k : Nat} {cst : Int} {x : Int32} {l' : Array Slot} (K : Ok κ l Z n0 own nm bytes maxL ret rm Q) (hd : decode bytes pc = .ok (.iinc k cst, 3)) (hl : Ls[k]? = some (.val (.int x))) (hl' : storeLocals Ls k (.int (x + Int32.ofInt cst)) = some l') (hr : Go κ h cells slots (pc + 3) l' (st)) : Go κ h cells slots pc Ls (st) := fun T locs vm0 X A hZ N B eT => by
  obtain ⟨s₂, o, hs, r⟩ := hr T locs vm0 X A hZ N B eT
  exact ⟨s₂, o, XS.iinc X.here K.exec rfl (hb K.kb hd) hl hl' hs, r⟩
theorem irem {x y : Int32} (K : Ok κ l Z n0 own nm bytes maxL ret rm Q) (hd : decode bytes pc = .ok (.irem, 1)) (hy : y ≠ 0) (hr : Go κ h cells slots (pc + 1) Ls (.int (x % y) :: st)) : Go κ h cells slots pc Ls (.int y :: .int x :: st) := fun T locs vm0 X A hZ N B eT => by
  obtain ⟨s₂, o, hs, r⟩ := hr T locs vm0 X A hZ N B eT
  exact ⟨s₂, o, iremM X K.exec rfl (hb K.kb hd) rfl hy hs, r⟩
theorem lrem {x y : Int64} (K : Ok κ l Z n0 own nm bytes maxL ret rm Q) (hd : decode bytes pc = .ok (.lrem, 1)) (hy : y ≠ 0) (hr : Go κ h cells slots (pc + 1) Ls (.long (x % y) :: st)) : Go κ h cells slots pc Ls (.long y :: .long x :: st) := fun T locs vm0 X A hZ N B eT => by
  obtain ⟨s₂, o, hs, r⟩ := hr T locs vm0 X A hZ N B eT
  exact ⟨s₂, o, XT.lrem X.here K.exec rfl (hb K.kb hd) rfl hy (by rw [lrem_mod]; exact hs), r⟩
theorem goto {o' : Int} {pc' : Nat} (K : Ok κ l Z n0 own nm bytes maxL ret rm Q) (hd : decode bytes pc = .ok (.goto o', 3)) (ho : 0 ≤ (pc : Int) + o') (hp : ((pc : Int) + o').toNat = pc') (hr : Go κ h cells slots pc' Ls st) : Go κ h cells slots pc Ls st := fun T locs vm0 X A hZ N B eT => by
  obtain ⟨s₂, o, hs, r⟩ := hr T locs vm0 X A hZ N B eT
  exact ⟨s₂, o, XS.goto X.here K.exec rfl rfl (hb K.kb hd) ho hp hs, r⟩
/-! ## branches: both roads, each with what is known on it -/
theorem ifB {cd : ClassFile.Cond} {x : Int32} {o' : Int} {pc' : Nat} (K : Ok κ l Z n0 own nm bytes maxL ret rm Q) (hd : decode bytes pc = .ok (.ifCond cd o', 3)) (ho : 0 ≤ (pc : Int) + o') (hp : ((pc : Int) + o').toNat = pc')
    (hy : if_icmp.holds cd x 0 = true → Go κ h cells slots pc' Ls st) (hn : if_icmp.holds cd x 0 = false → Go κ h cells slots (pc + 3) Ls st) : Go κ h cells slots pc Ls (.int x :: st) := fun T locs vm0 X A hZ N B eT => by
  cases hc : if_icmp.holds cd x 0 with
  | true => obtain ⟨s₂, o, hs, r⟩ := hy hc T locs vm0 X A hZ N B eT; exact ⟨s₂, o, XS.ifYes X.here K.exec rfl rfl (hb K.kb hd) rfl ((if0 _ _).trans hc) ho hp hs, r⟩
  | false => obtain ⟨s₂, o, hs, r⟩ := hn hc T locs vm0 X A hZ N B eT; exact ⟨s₂, o, XS.ifNo X.here K.exec rfl (hb K.kb hd) rfl ((if0 _ _).trans hc) hs, r⟩
theorem icB {cd : ClassFile.Cond} {x y : Int32} {o' : Int} {pc' : Nat} (K : Ok κ l Z n0 own nm bytes maxL ret rm Q) (hd : decode bytes pc = .ok (.if_icmp cd o', 3)) (ho : 0 ≤ (pc : Int) + o') (hp : ((pc : Int) + o').toNat = pc')
    (hy : if_icmp.holds cd x y = true → Go κ h cells slots pc' Ls st) (hn : if_icmp.holds cd x y = false → Go κ h cells slots (pc + 3) Ls st) : Go κ h cells slots pc Ls (.int y :: .int x :: st) := fun T locs vm0 X A hZ N B eT => by
  cases hc : if_icmp.holds cd x y with
  | true => obtain ⟨s₂, o, hs, r⟩ := hy hc T locs vm0 X A hZ N B eT; exact ⟨s₂, o, XS.icmpYes X.here K.exec rfl rfl (hb K.kb hd) rfl hc ho hp hs, r⟩
  | false => obtain ⟨s₂, o, hs, r⟩ := hn hc T locs vm0 X A hZ N B eT; exact ⟨s₂, o, XS.icmpNo X.here K.exec rfl (hb K.kb hd) rfl hc hs, r⟩
theorem h_eq (x y : Int32) : (if_icmp.holds .eq x y = true ↔ x = y) ∧ (if_icmp.holds .eq x y = false ↔ ¬ x = y) := by simp [if_icmp.holds]
theorem h_ne (x y : Int32) : (if_icmp.holds .ne x y = true ↔ ¬ x = y) ∧ (if_icmp.holds .ne x y = false ↔ x = y) := by simp [if_icmp.holds]
theorem h_lt (x y : Int32) : (if_icmp.holds .lt x y = true ↔ x.toInt < y.toInt) ∧ (if_icmp.holds .lt x y = false ↔ y.toInt ≤ x.toInt) := by simp [if_icmp.holds, Int32.lt_iff_toInt_lt]
theorem h_ge (x y : Int32) : (if_icmp.holds .ge x y = true ↔ y.toInt ≤ x.toInt) ∧ (if_icmp.holds .ge x y = false ↔ x.toInt < y.toInt) := by simp [if_icmp.holds, Int32.le_iff_toInt_le]
theorem h_gt (x y : Int32) : (if_icmp.holds .gt x y = true ↔ y.toInt < x.toInt) ∧ (if_icmp.holds .gt x y = false ↔ x.toInt ≤ y.toInt) := by simp [if_icmp.holds, Int32.lt_iff_toInt_lt]
theorem h_le (x y : Int32) : (if_icmp.holds .le x y = true ↔ x.toInt ≤ y.toInt) ∧ (if_icmp.holds .le x y = false ↔ y.toInt < x.toInt) := by simp [if_icmp.holds, Int32.le_iff_toInt_le]
theorem ifeq {x : Int32} {o' : Int} {pc' : Nat} (K : Ok κ l Z n0 own nm bytes maxL ret rm Q) (hd : decode bytes pc = .ok (.ifCond .eq o', 3)) (ho : 0 ≤ (pc : Int) + o') (hp : ((pc : Int) + o').toNat = pc')
    (hy : x = (0 : Int32) → Go κ h cells slots pc' Ls st) (hn : ¬ x = (0 : Int32) → Go κ h cells slots (pc + 3) Ls st) : Go κ h cells slots pc Ls (.int x :: st) :=
  ifB K hd ho hp (fun q => hy ((h_eq _ _).1.mp q)) (fun q => hn ((h_eq _ _).2.mp q))
theorem icmpeq {x y : Int32} {o' : Int} {pc' : Nat} (K : Ok κ l Z n0 own nm bytes maxL ret rm Q) (hd : decode bytes pc = .ok (.if_icmp .eq o', 3)) (ho : 0 ≤ (pc : Int) + o') (hp : ((pc : Int) + o').toNat = pc')
    (hy : x = y → Go κ h cells slots pc' Ls st) (hn : ¬ x = y → Go κ h cells slots (pc + 3) Ls st) : Go κ h cells slots pc Ls (.int y :: .int x :: st) :=
  icB K hd ho hp (fun q => hy ((h_eq _ _).1.mp q)) (fun q => hn ((h_eq _ _).2.mp q))
theorem ifne {x : Int32} {o' : Int} {pc' : Nat} (K : Ok κ l Z n0 own nm bytes maxL ret rm Q) (hd : decode bytes pc = .ok (.ifCond .ne o', 3)) (ho : 0 ≤ (pc : Int) + o') (hp : ((pc : Int) + o').toNat = pc')
    (hy : ¬ x = (0 : Int32) → Go κ h cells slots pc' Ls st) (hn : x = (0 : Int32) → Go κ h cells slots (pc + 3) Ls st) : Go κ h cells slots pc Ls (.int x :: st) :=
  ifB K hd ho hp (fun q => hy ((h_ne _ _).1.mp q)) (fun q => hn ((h_ne _ _).2.mp q))
theorem icmpne {x y : Int32} {o' : Int} {pc' : Nat} (K : Ok κ l Z n0 own nm bytes maxL ret rm Q) (hd : decode bytes pc = .ok (.if_icmp .ne o', 3)) (ho : 0 ≤ (pc : Int) + o') (hp : ((pc : Int) + o').toNat = pc')
    (hy : ¬ x = y → Go κ h cells slots pc' Ls st) (hn : x = y → Go κ h cells slots (pc + 3) Ls st) : Go κ h cells slots pc Ls (.int y :: .int x :: st) :=
  icB K hd ho hp (fun q => hy ((h_ne _ _).1.mp q)) (fun q => hn ((h_ne _ _).2.mp q))
theorem iflt {x : Int32} {o' : Int} {pc' : Nat} (K : Ok κ l Z n0 own nm bytes maxL ret rm Q) (hd : decode bytes pc = .ok (.ifCond .lt o', 3)) (ho : 0 ≤ (pc : Int) + o') (hp : ((pc : Int) + o').toNat = pc')
    (hy : x.toInt < (0 : Int) → Go κ h cells slots pc' Ls st) (hn : (0 : Int) ≤ x.toInt → Go κ h cells slots (pc + 3) Ls st) : Go κ h cells slots pc Ls (.int x :: st) :=
  ifB K hd ho hp (fun q => hy ((h_lt _ _).1.mp q)) (fun q => hn ((h_lt _ _).2.mp q))
theorem icmplt {x y : Int32} {o' : Int} {pc' : Nat} (K : Ok κ l Z n0 own nm bytes maxL ret rm Q) (hd : decode bytes pc = .ok (.if_icmp .lt o', 3)) (ho : 0 ≤ (pc : Int) + o') (hp : ((pc : Int) + o').toNat = pc')
    (hy : x.toInt < y.toInt → Go κ h cells slots pc' Ls st) (hn : y.toInt ≤ x.toInt → Go κ h cells slots (pc + 3) Ls st) : Go κ h cells slots pc Ls (.int y :: .int x :: st) :=
  icB K hd ho hp (fun q => hy ((h_lt _ _).1.mp q)) (fun q => hn ((h_lt _ _).2.mp q))
theorem ifge {x : Int32} {o' : Int} {pc' : Nat} (K : Ok κ l Z n0 own nm bytes maxL ret rm Q) (hd : decode bytes pc = .ok (.ifCond .ge o', 3)) (ho : 0 ≤ (pc : Int) + o') (hp : ((pc : Int) + o').toNat = pc')
    (hy : (0 : Int) ≤ x.toInt → Go κ h cells slots pc' Ls st) (hn : x.toInt < (0 : Int) → Go κ h cells slots (pc + 3) Ls st) : Go κ h cells slots pc Ls (.int x :: st) :=
  ifB K hd ho hp (fun q => hy ((h_ge _ _).1.mp q)) (fun q => hn ((h_ge _ _).2.mp q))
theorem icmpge {x y : Int32} {o' : Int} {pc' : Nat} (K : Ok κ l Z n0 own nm bytes maxL ret rm Q) (hd : decode bytes pc = .ok (.if_icmp .ge o', 3)) (ho : 0 ≤ (pc : Int) + o') (hp : ((pc : Int) + o').toNat = pc')
    (hy : y.toInt ≤ x.toInt → Go κ h cells slots pc' Ls st) (hn : x.toInt < y.toInt → Go κ h cells slots (pc + 3) Ls st) : Go κ h cells slots pc Ls (.int y :: .int x :: st) :=
  icB K hd ho hp (fun q => hy ((h_ge _ _).1.mp q)) (fun q => hn ((h_ge _ _).2.mp q))
theorem ifgt {x : Int32} {o' : Int} {pc' : Nat} (K : Ok κ l Z n0 own nm bytes maxL ret rm Q) (hd : decode bytes pc = .ok (.ifCond .gt o', 3)) (ho : 0 ≤ (pc : Int) + o') (hp : ((pc : Int) + o').toNat = pc')
    (hy : (0 : Int) < x.toInt → Go κ h cells slots pc' Ls st) (hn : x.toInt ≤ (0 : Int) → Go κ h cells slots (pc + 3) Ls st) : Go κ h cells slots pc Ls (.int x :: st) :=
  ifB K hd ho hp (fun q => hy ((h_gt _ _).1.mp q)) (fun q => hn ((h_gt _ _).2.mp q))
theorem icmpgt {x y : Int32} {o' : Int} {pc' : Nat} (K : Ok κ l Z n0 own nm bytes maxL ret rm Q) (hd : decode bytes pc = .ok (.if_icmp .gt o', 3)) (ho : 0 ≤ (pc : Int) + o') (hp : ((pc : Int) + o').toNat = pc')
    (hy : y.toInt < x.toInt → Go κ h cells slots pc' Ls st) (hn : x.toInt ≤ y.toInt → Go κ h cells slots (pc + 3) Ls st) : Go κ h cells slots pc Ls (.int y :: .int x :: st) :=
  icB K hd ho hp (fun q => hy ((h_gt _ _).1.mp q)) (fun q => hn ((h_gt _ _).2.mp q))
theorem ifle {x : Int32} {o' : Int} {pc' : Nat} (K : Ok κ l Z n0 own nm bytes maxL ret rm Q) (hd : decode bytes pc = .ok (.ifCond .le o', 3)) (ho : 0 ≤ (pc : Int) + o') (hp : ((pc : Int) + o').toNat = pc')
    (hy : x.toInt ≤ (0 : Int) → Go κ h cells slots pc' Ls st) (hn : (0 : Int) < x.toInt → Go κ h cells slots (pc + 3) Ls st) : Go κ h cells slots pc Ls (.int x :: st) :=
  ifB K hd ho hp (fun q => hy ((h_le _ _).1.mp q)) (fun q => hn ((h_le _ _).2.mp q))
theorem icmple {x y : Int32} {o' : Int} {pc' : Nat} (K : Ok κ l Z n0 own nm bytes maxL ret rm Q) (hd : decode bytes pc = .ok (.if_icmp .le o', 3)) (ho : 0 ≤ (pc : Int) + o') (hp : ((pc : Int) + o').toNat = pc')
    (hy : x.toInt ≤ y.toInt → Go κ h cells slots pc' Ls st) (hn : y.toInt < x.toInt → Go κ h cells slots (pc + 3) Ls st) : Go κ h cells slots pc Ls (.int y :: .int x :: st) :=
  icB K hd ho hp (fun q => hy ((h_le _ _).1.mp q)) (fun q => hn ((h_le _ _).2.mp q))
theorem ifnull {x : Value} {o' : Int} {pc' : Nat} (K : Ok κ l Z n0 own nm bytes maxL ret rm Q) (hd : decode bytes pc = .ok (.ifnull o', 3)) (ho : 0 ≤ (pc : Int) + o') (hp : ((pc : Int) + o').toNat = pc') (hx : x.isRef = true)
    (hy : x = .null → Go κ h cells slots pc' Ls st) (hn : ∀ a, x = .ref a → Go κ h cells slots (pc + 3) Ls st) : Go κ h cells slots pc Ls (x :: st) := fun T locs vm0 X A hZ N B eT => by
  rcases ref_cases hx with rfl | ⟨a, rfl⟩
  · obtain ⟨s₂, o, hs, r⟩ := hy rfl T locs vm0 X A hZ N B eT; exact ⟨s₂, o, XS.ifnullYes X.here K.exec rfl rfl (hb K.kb hd) rfl ho hp hs, r⟩
  · obtain ⟨s₂, o, hs, r⟩ := hn a rfl T locs vm0 X A hZ N B eT; exact ⟨s₂, o, XS.ifnullNo X.here K.exec rfl (hb K.kb hd) rfl hs, r⟩
theorem ifnonnull {x : Value} {o' : Int} {pc' : Nat} (K : Ok κ l Z n0 own nm bytes maxL ret rm Q) (hd : decode bytes pc = .ok (.ifnonnull o', 3)) (ho : 0 ≤ (pc : Int) + o') (hp : ((pc : Int) + o').toNat = pc') (hx : x.isRef = true)
    (hy : ∀ a, x = .ref a → Go κ h cells slots pc' Ls st) (hn : x = .null → Go κ h cells slots (pc + 3) Ls st) : Go κ h cells slots pc Ls (x :: st) := fun T locs vm0 X A hZ N B eT => by
  rcases ref_cases hx with rfl | ⟨a, rfl⟩
  · obtain ⟨s₂, o, hs, r⟩ := hn rfl T locs vm0 X A hZ N B eT; exact ⟨s₂, o, XT.ifnonnullNo X.here K.exec rfl (hb K.kb hd) rfl hs, r⟩
  · obtain ⟨s₂, o, hs, r⟩ := hy a rfl T locs vm0 X A hZ N B eT; exact ⟨s₂, o, XT.ifnonnullYes X.here K.exec rfl rfl (hb K.kb hd) rfl ho hp hs, r⟩
theorem acB {cd : ACond} {x y : Value} {o' : Int} {pc' : Nat} (K : Ok κ l Z n0 own nm bytes maxL ret rm Q) (hd : decode bytes pc = .ok (.if_acmp cd o', 3)) (ho : 0 ≤ (pc : Int) + o') (hp : ((pc : Int) + o').toNat = pc') (hx : x.isRef = true) (hy : y.isRef = true)
    (ht : acV cd (decide (x = y)) = true → Go κ h cells slots pc' Ls st) (hn : acV cd (decide (x = y)) = false → Go κ h cells slots (pc + 3) Ls st) : Go κ h cells slots pc Ls (y :: x :: st) := fun T locs vm0 X A hZ N B eT => by
  cases hc : acV cd (decide (x = y)) with
  | true => obtain ⟨s₂, o, hs, r⟩ := ht hc T locs vm0 X A hZ N B eT; exact ⟨s₂, o, acmp X K.exec rfl hx hy rfl (hb K.kb hd) rfl rfl ho (by rw [hc, if_pos rfl, hp]) hs, r⟩
  | false => obtain ⟨s₂, o, hs, r⟩ := hn hc T locs vm0 X A hZ N B eT; exact ⟨s₂, o, acmp X K.exec rfl hx hy rfl (hb K.kb hd) rfl rfl ho (by rw [hc]; simp) hs, r⟩
theorem acmpeq {x y : Value} {o' : Int} {pc' : Nat} (K : Ok κ l Z n0 own nm bytes maxL ret rm Q) (hd : decode bytes pc = .ok (.if_acmp .eq o', 3)) (ho : 0 ≤ (pc : Int) + o') (hp : ((pc : Int) + o').toNat = pc') (hx : x.isRef = true) (hy : y.isRef = true)
    (ht : x = y → Go κ h cells slots pc' Ls st) (hn : ¬ x = y → Go κ h cells slots (pc + 3) Ls st) : Go κ h cells slots pc Ls (y :: x :: st) :=
  acB K hd ho hp hx hy (fun q => ht (by simpa [acV] using q)) (fun q => hn (by simpa [acV] using q))
theorem acmpne {x y : Value} {o' : Int} {pc' : Nat} (K : Ok κ l Z n0 own nm bytes maxL ret rm Q) (hd : decode bytes pc = .ok (.if_acmp .ne o', 3)) (ho : 0 ≤ (pc : Int) + o') (hp : ((pc : Int) + o').toNat = pc') (hx : x.isRef = true) (hy : y.isRef = true)
    (ht : ¬ x = y → Go κ h cells slots pc' Ls st) (hn : x = y → Go κ h cells slots (pc + 3) Ls st) : Go κ h cells slots pc Ls (y :: x :: st) :=
  acB K hd ho hp hx hy (fun q => ht (by simpa [acV] using q)) (fun q => hn (by simpa [acV] using q))
/-! ## constants of the pool -/
variable {a0 : Array Value}
theorem ldcI {index : Nat} {v : Int32} (K : Ok κ l Z n0 own nm bytes maxL ret rm Q) (hd : decode bytes pc = .ok (.ldc index, 2)) (w : (Cond.constant own index v).before a0 Z = true) (hr : Go κ h cells slots (pc + 2) Ls (.int v :: st)) : Go κ h cells slots pc Ls st := fun T locs vm0 X A hZ N B eT => by
  obtain ⟨s₂, o, hs, r⟩ := hr T locs vm0 X A hZ N B eT
  exact ⟨s₂, o, Jvm.Stand.ldcI X K.exec (K.ko A) (mvT (K.warm hZ) w) rfl (hb K.kb hd) hs, r⟩
theorem ldc2J {index : Nat} {v : Int64} (K : Ok κ l Z n0 own nm bytes maxL ret rm Q) (hd : decode bytes pc = .ok (.ldc2_w index, 3)) (w : (Cond.constantLong own index v).before a0 Z = true) (hr : Go κ h cells slots (pc + 3) Ls (.long v :: st)) : Go κ h cells slots pc Ls st := fun T locs vm0 X A hZ N B eT => by
  obtain ⟨s₂, o, hs, r⟩ := hr T locs vm0 X A hZ N B eT
  exact ⟨s₂, o, Jvm.Stand.ldc2J X K.exec (K.ko A) (mvT (K.warm hZ) w) rfl (hb K.kb hd) hs, r⟩
/-! ## the heap -/
theorem getfield {R0 O n d host : String} {index : Nat} {a : Addr} {v : Value} (K : Ok κ l Z n0 own nm bytes maxL ret rm Q) (hd : decode bytes pc = .ok (.getfield index, 3))
    (w : (Cond.fieldLink own index R0 n d).before a0 Z = true ∨ (Cond.fieldLinkNest own index R0 n d host).before a0 Z = true) (via : Via Z R0 O n d) (F : Fld Z h a O n d v) (hr : Go κ h cells slots (pc + 3) Ls (v :: st)) : Go κ h cells slots pc Ls (.ref a :: st) := fun T locs vm0 X A hZ N B eT => by
  obtain ⟨T', X', e', st1⟩ := getF X K.exec (K.warm hZ) (K.ko A) w via eT F (g := mkF κ.m pc Ls (.ref a :: st)) rfl rfl (hb K.kb hd)
  obtain ⟨s₂, o, hs, r⟩ := hr T' locs vm0 X' A hZ N B e'
  exact ⟨s₂, o, st1 _ hs, r⟩
theorem getstatic {R0 O n d host : String} {index : Nat} {v : Value} (K : Ok κ l Z n0 own nm bytes maxL ret rm Q) (hd : decode bytes pc = .ok (.getstatic index, 3))
    (w : (Cond.fieldLink own index R0 n d).before a0 Z = true ∨ (Cond.fieldLinkNest own index R0 n d host).before a0 Z = true) (via : Via Z R0 O n d) (F : Sta Z h O n d v) (hr : Go κ h cells slots (pc + 3) Ls (v :: st)) : Go κ h cells slots pc Ls st := fun T locs vm0 X A hZ N B eT => by
  obtain ⟨T', X', e', st1⟩ := getS2 X K.exec (K.warm hZ) (K.ko A) w via eT F (g := mkF κ.m pc Ls st) rfl (hb K.kb hd)
  obtain ⟨s₂, o, hs, r⟩ := hr T' locs vm0 X' A hZ N B e'
  exact ⟨s₂, o, st1 _ hs, r⟩
theorem putfield {R0 O n d host C : String} {index kk : Nat} {ty : FieldType} {a : Addr} {v old : Value} (K : Ok κ l Z n0 own nm bytes maxL ret rm Q) (hd : decode bytes pc = .ok (.putfield index, 3))
    (w : (Cond.fieldLink own index R0 n d).before a0 Z = true ∨ (Cond.fieldLinkNest own index R0 n d host).before a0 Z = true) (via : Via Z R0 O n d) (F : Fld Z h a O n d old) (E : Exa Z h a C) (L : (Cond.lays C O n d).before a0 Z = true ∨ ((Cond.laysFinal C O n d).before a0 Z = true ∧ own = O ∧ nm = "<init>")) (wi : (Cond.instantiable C kk).before a0 Z = true)
    (hty : parseFieldDescriptor d = some ty) (hn : narrow ty v = v) (hf : fits ty v = true) (ge : n0 ≤ a) (hr : ∀ h', Wr h h' a (Jvm.RoadKit.slotOf Z O n d) v → Go κ h' cells slots (pc + 3) Ls st) : Go κ h cells slots pc Ls (v :: .ref a :: st) := fun T locs vm0 X A hZ N B eT => by
  obtain ⟨T', h', X', e', W, st1⟩ := putF X K.exec (K.warm hZ) (K.ko A) w via eT F E (L.imp id fun q => ⟨q.1, q.2.1, K.name.trans q.2.2⟩) wi hty hn hf (g := mkF κ.m pc Ls (v :: .ref a :: st)) rfl rfl (hb K.kb hd)
  obtain ⟨s₂, o, hs, r⟩ := hr h' W T' _ vm0 X' (A.mono (Nat.le_of_eq W.size.symm)) hZ (Fr.snoc X' N (by rw [K.en]; exact ge)) (B.wr W (by rw [K.en]; exact ge)) e'
  exact ⟨s₂, o, st1 _ hs, r⟩
theorem newObj {C : String} {index n : Nat} (K : Ok κ l Z n0 own nm bytes maxL ret rm Q) (hd : decode bytes pc = .ok (.new index, 3)) (w : (Cond.classLink own index C).before a0 Z = true) (wi : (Cond.instantiable C n).before a0 Z = true) (wz : (Cond.initialized C).before a0 Z = true)
    (hc : cells + 1 ≤ rm.cells) (hl : slots + n ≤ rm.slots)
    (hr : ∀ h' a, a = h.size → n0 ≤ a → Ext h h' → Exa Z h' a C → (∀ {O nm d : String} {ty : FieldType}, Laid Z a0 C O nm d → parseFieldDescriptor d = some ty → Fld Z h' a O nm d (defaultValue ty)) → Unt h' a → Go κ h' (cells + 1) (slots + n) (pc + 3) Ls (.ref a :: st)) : Go κ h cells slots pc Ls st := fun T locs vm0 X A hZ N B eT => by
  obtain ⟨T', h', X', e', E, EX, D, U, st1⟩ := newO X K.exec (K.warm hZ) (K.ko A) w wi wz eT (g := mkF κ.m pc Ls st) rfl (hb K.kb hd) (by rw [K.eR]; exact hc) (by rw [K.eR]; exact hl)
  obtain ⟨s₂, o, hs, r⟩ := hr h' h.size rfl (low_of (K.old B)) E EX D U T' _ vm0 X' (A.mono E.1) hZ N (B.ext E) e'
  exact ⟨s₂, o, st1 _ hs, r⟩
theorem newArr {aty : ArrayType} {n : Int32} {cap : Nat} {ad : String} (K : Ok κ l Z n0 own nm bytes maxL ret rm Q) (hd : decode bytes pc = .ok (.newarray aty, 2)) (w : (Cond.arrayClass (newarray.typeOf aty)).before a0 Z = true) (hn : ¬ n < 0) (hcap : n.toNatClampNeg ≤ cap) (hb8 : cap * 8 ≤ 536870912) (had : "[" ++ (newarray.typeOf aty).toString = ad)
    (hc : cells + 1 ≤ rm.cells) (hl : slots + cap ≤ rm.slots)
    (hr : ∀ h' a cA, a = h.size → n0 ≤ a → Ext h h' → Arr Z h' a (newA cA (newarray.typeOf aty) n) (newarray.typeOf aty) → Exa Z h' a ad → Go κ h' (cells + 1) (slots + cap) (pc + 2) Ls (.ref a :: st)) : Go κ h cells slots pc Ls (.int n :: st) := fun T locs vm0 X A hZ N B eT => by
  obtain ⟨T', h', cA, X', e', E, AR, EX, st1⟩ := newPE X K.exec (K.warm hZ) w eT (g := mkF κ.m pc Ls (.int n :: st)) rfl (hb K.kb hd) rfl hn hcap hb8 (by rw [K.eR]; exact hc) (by rw [K.eR]; exact hl) had
  obtain ⟨s₂, o, hs, r⟩ := hr h' h.size cA rfl (low_of (K.old B)) E AR EX T' _ vm0 X' (A.mono E.1) hZ N (B.ext E) e'
  exact ⟨s₂, o, st1 _ hs, r⟩
theorem anewArr {C : String} {index : Nat} {n : Int32} {cap : Nat} (K : Ok κ l Z n0 own nm bytes maxL ret rm Q) (hd : decode bytes pc = .ok (.anewarray index, 3)) (w1 : (Cond.classLink own index C).before a0 Z = true) (w2 : (Cond.arrayOver (.object C)).before a0 Z = true) (hn : ¬ n < 0) (hcap : n.toNatClampNeg ≤ cap) (hb8 : cap * 8 ≤ 536870912)
    (hc : cells + 1 ≤ rm.cells) (hl : slots + cap ≤ rm.slots)
    (hr : ∀ h' a cA, a = h.size → n0 ≤ a → Ext h h' → Arr Z h' a (newA cA (.object C) n) (.object C) → Ovr Z cA C → Go κ h' (cells + 1) (slots + cap) (pc + 3) Ls (.ref a :: st)) : Go κ h cells slots pc Ls (.int n :: st) := fun T locs vm0 X A hZ N B eT => by
  obtain ⟨T', h', cA, X', e', E, AR, OV, st1⟩ := newR X K.exec (K.warm hZ) (K.ko A) w1 w2 eT (g := mkF κ.m pc Ls (.int n :: st)) rfl (hb K.kb hd) rfl hn hcap hb8 (by rw [K.eR]; exact hc) (by rw [K.eR]; exact hl)
  obtain ⟨s₂, o, hs, r⟩ := hr h' h.size cA rfl (low_of (K.old B)) E AR OV T' _ vm0 X' (A.mono E.1) hZ N (B.ext E) e'
  exact ⟨s₂, o, st1 _ hs, r⟩
theorem arrLen {ty : FieldType} {a : Addr} {cl : Cell} {z : Int32} (K : Ok κ l Z n0 own nm bytes maxL ret rm Q) (hd : decode bytes pc = .ok (.arraylength, 1)) (A1 : Arr Z h a cl ty) (hz : cl.slots.size.toInt32 = z) (hr : Go κ h cells slots (pc + 1) Ls (.int z :: st)) : Go κ h cells slots pc Ls (.ref a :: st) := fun T locs vm0 X A hZ N B eT => by
  obtain ⟨s₂, o, hs, r⟩ := hr T locs vm0 X A hZ N B eT
  exact ⟨s₂, o, X.arraylength K.exec (by rw [eT]; exact A1.1) (State.isArrayOf_alike (K.warm hZ).alike A1.2.1) (g := mkF κ.m pc Ls (.ref a :: st)) rfl rfl (hb K.kb hd) _ (by rw [hz]; exact hs), r⟩
theorem iaload {a : Addr} {cl : Cell} {j : Int32} {v : Value} (K : Ok κ l Z n0 own nm bytes maxL ret rm Q) (hd : decode bytes pc = .ok (.iaload, 1)) (A1 : Arr Z h a cl .int) (hin : ¬ (j < 0 ∨ cl.slots.size ≤ j.toNatClampNeg)) (hv : cl.slots[j.toNatClampNeg]? = some v)
    (hr : Go κ h cells slots (pc + 1) Ls (v :: st)) : Go κ h cells slots pc Ls (.int j :: .ref a :: st) := fun T locs vm0 X A hZ N B eT => by
  obtain ⟨s₂, o, hs, r⟩ := hr T locs vm0 X A hZ N B eT
  exact ⟨s₂, o, X.iaload K.exec (by rw [eT]; exact A1.1) (State.isArrayOf_alike (K.warm hZ).alike A1.2.1) A1.2.2 hin hv (g := mkF κ.m pc Ls (.int j :: .ref a :: st)) rfl rfl (hb K.kb hd) _ hs, r⟩
theorem laload {a : Addr} {cl : Cell} {j : Int32} {v : Value} (K : Ok κ l Z n0 own nm bytes maxL ret rm Q) (hd : decode bytes pc = .ok (.laload, 1)) (A1 : Arr Z h a cl .long) (hin : ¬ (j < 0 ∨ cl.slots.size ≤ j.toNatClampNeg)) (hv : cl.slots[j.toNatClampNeg]? = some v)
    (hr : Go κ h cells slots (pc + 1) Ls (v :: st)) : Go κ h cells slots pc Ls (.int j :: .ref a :: st) := fun T locs vm0 X A hZ N B eT => by
  obtain ⟨s₂, o, hs, r⟩ := hr T locs vm0 X A hZ N B eT
  exact ⟨s₂, o, X.laload K.exec (by rw [eT]; exact A1.1) (State.isArrayOf_alike (K.warm hZ).alike A1.2.1) A1.2.2 hin hv (g := mkF κ.m pc Ls (.int j :: .ref a :: st)) rfl rfl (hb K.kb hd) _ hs, r⟩
theorem caload {a : Addr} {cl : Cell} {j : Int32} {v : Value} (K : Ok κ l Z n0 own nm bytes maxL ret rm Q) (hd : decode bytes pc = .ok (.caload, 1)) (A1 : Arr Z h a cl .char) (hin : ¬ (j < 0 ∨ cl.slots.size ≤ j.toNatClampNeg)) (hv : cl.slots[j.toNatClampNeg]? = some v)
    (hr : Go κ h cells slots (pc + 1) Ls (v :: st)) : Go κ h cells slots pc Ls (.int j :: .ref a :: st) := fun T locs vm0 X A hZ N B eT => by
  obtain ⟨s₂, o, hs, r⟩ := hr T locs vm0 X A hZ N B eT
  exact ⟨s₂, o, X.caload K.exec (by rw [eT]; exact A1.1) (State.isArrayOf_alike (K.warm hZ).alike A1.2.1) A1.2.2 hin hv (g := mkF κ.m pc Ls (.int j :: .ref a :: st)) rfl rfl (hb K.kb hd) _ hs, r⟩
theorem baload {a : Addr} {cl : Cell} {j : Int32} {v : Value} (K : Ok κ l Z n0 own nm bytes maxL ret rm Q) (hd : decode bytes pc = .ok (.baload, 1)) (A1 : Arr Z h a cl .byte) (hin : ¬ (j < 0 ∨ cl.slots.size ≤ j.toNatClampNeg)) (hv : cl.slots[j.toNatClampNeg]? = some v)
    (hr : Go κ h cells slots (pc + 1) Ls (v :: st)) : Go κ h cells slots pc Ls (.int j :: .ref a :: st) := fun T locs vm0 X A hZ N B eT => by
  obtain ⟨s₂, o, hs, r⟩ := hr T locs vm0 X A hZ N B eT
  exact ⟨s₂, o, X.baloadBytes K.exec (by rw [eT]; exact A1.1) (State.isArrayOf_alike (K.warm hZ).alike A1.2.1) A1.2.2 hin hv (g := mkF κ.m pc Ls (.int j :: .ref a :: st)) rfl rfl (hb K.kb hd) _ hs, r⟩
theorem iastore {a : Addr} {cl : Cell} {j : Int32} {x : Int32} (K : Ok κ l Z n0 own nm bytes maxL ret rm Q) (hd : decode bytes pc = .ok (.iastore, 1)) (A1 : Arr Z h a cl .int) (hj : ¬ (j < 0 ∨ cl.slots.size ≤ j.toNatClampNeg)) (ge : n0 ≤ a)
    (hr : ∀ h', Wr h h' a j.toNatClampNeg (.int x) → Go κ h' cells slots (pc + 1) Ls st) : Go κ h cells slots pc Ls (.int x :: .int j :: .ref a :: st) := fun T locs vm0 X A hZ N B eT => by
  obtain ⟨T', h', X', e', W, st1⟩ := stI X K.exec (K.warm hZ) eT A1 hj (g := mkF κ.m pc Ls (.int x :: .int j :: .ref a :: st)) rfl rfl (hb K.kb hd)
  obtain ⟨s₂, o, hs, r⟩ := hr h' W T' _ vm0 X' (A.mono (Nat.le_of_eq W.size.symm)) hZ (Fr.snoc X' N (by rw [K.en]; exact ge)) (B.wr W (by rw [K.en]; exact ge)) e'
  exact ⟨s₂, o, st1 _ hs, r⟩
theorem lastore {a : Addr} {cl : Cell} {j : Int32} {x : Int64} (K : Ok κ l Z n0 own nm bytes maxL ret rm Q) (hd : decode bytes pc = .ok (.lastore, 1)) (A1 : Arr Z h a cl .long) (hj : ¬ (j < 0 ∨ cl.slots.size ≤ j.toNatClampNeg)) (ge : n0 ≤ a)
    (hr : ∀ h', Wr h h' a j.toNatClampNeg (.long x) → Go κ h' cells slots (pc + 1) Ls st) : Go κ h cells slots pc Ls (.long x :: .int j :: .ref a :: st) := fun T locs vm0 X A hZ N B eT => by
  obtain ⟨T', h', X', e', W, st1⟩ := stJ X K.exec (K.warm hZ) eT A1 hj (g := mkF κ.m pc Ls (.long x :: .int j :: .ref a :: st)) rfl rfl (hb K.kb hd)
  obtain ⟨s₂, o, hs, r⟩ := hr h' W T' _ vm0 X' (A.mono (Nat.le_of_eq W.size.symm)) hZ (Fr.snoc X' N (by rw [K.en]; exact ge)) (B.wr W (by rw [K.en]; exact ge)) e'
  exact ⟨s₂, o, st1 _ hs, r⟩
theorem castore {a : Addr} {cl : Cell} {j : Int32} {x : Int32} (K : Ok κ l Z n0 own nm bytes maxL ret rm Q) (hd : decode bytes pc = .ok (.castore, 1)) (A1 : Arr Z h a cl .char) (hj : ¬ (j < 0 ∨ cl.slots.size ≤ j.toNatClampNeg)) (ge : n0 ≤ a)
    (hr : ∀ h', Wr h h' a j.toNatClampNeg (.int (nar .char x)) → Go κ h' cells slots (pc + 1) Ls st) : Go κ h cells slots pc Ls (.int x :: .int j :: .ref a :: st) := fun T locs vm0 X A hZ N B eT => by
  obtain ⟨T', h', X', e', W, st1⟩ := stC X K.exec (K.warm hZ) eT A1 hj (g := mkF κ.m pc Ls (.int x :: .int j :: .ref a :: st)) rfl rfl (hb K.kb hd)
  obtain ⟨s₂, o, hs, r⟩ := hr h' W T' _ vm0 X' (A.mono (Nat.le_of_eq W.size.symm)) hZ (Fr.snoc X' N (by rw [K.en]; exact ge)) (B.wr W (by rw [K.en]; exact ge)) e'
  exact ⟨s₂, o, st1 _ hs, r⟩
theorem bastore {a : Addr} {cl : Cell} {j : Int32} {x : Int32} (K : Ok κ l Z n0 own nm bytes maxL ret rm Q) (hd : decode bytes pc = .ok (.bastore, 1)) (A1 : Arr Z h a cl .byte) (hj : ¬ (j < 0 ∨ cl.slots.size ≤ j.toNatClampNeg)) (ge : n0 ≤ a)
    (hr : ∀ h', Wr h h' a j.toNatClampNeg (.int x.toInt8.toInt32) → Go κ h' cells slots (pc + 1) Ls st) : Go κ h cells slots pc Ls (.int x :: .int j :: .ref a :: st) := fun T locs vm0 X A hZ N B eT => by
  obtain ⟨T', h', X', e', W, st1⟩ := stB X K.exec (K.warm hZ) eT A1 hj (g := mkF κ.m pc Ls (.int x :: .int j :: .ref a :: st)) rfl rfl (hb K.kb hd)
  obtain ⟨s₂, o, hs, r⟩ := hr h' W T' _ vm0 X' (A.mono (Nat.le_of_eq W.size.symm)) hZ (Fr.snoc X' N (by rw [K.en]; exact ge)) (B.wr W (by rw [K.en]; exact ge)) e'
  exact ⟨s₂, o, st1 _ hs, r⟩
theorem aaload {ty : FieldType} {a : Addr} {cl : Cell} {j : Int32} {v : Value} (K : Ok κ l Z n0 own nm bytes maxL ret rm Q) (hd : decode bytes pc = .ok (.aaload, 1)) (A1 : Arr Z h a cl ty) (hty : ty.isReference = true) (hin : ¬ (j < 0 ∨ cl.slots.size ≤ j.toNatClampNeg)) (hv : cl.slots[j.toNatClampNeg]? = some v)
    (hr : Go κ h cells slots (pc + 1) Ls (v :: st)) : Go κ h cells slots pc Ls (.int j :: .ref a :: st) := fun T locs vm0 X A hZ N B eT => by
  obtain ⟨s₂, o, hs, r⟩ := hr T locs vm0 X A hZ N B eT
  exact ⟨s₂, o, X.aaload K.exec (by rw [eT]; exact A1.1) (State.isArrayOf_alike (K.warm hZ).alike A1.2.1) hty A1.2.2 hin hv (g := mkF κ.m pc Ls (.int j :: .ref a :: st)) rfl rfl (hb K.kb hd) _ hs, r⟩
theorem aastore {ty : FieldType} {a : Addr} {cl : Cell} {j : Int32} {v : Value} (K : Ok κ l Z n0 own nm bytes maxL ret rm Q) (hd : decode bytes pc = .ok (.aastore, 1)) (A1 : Arr Z h a cl ty) (hj : ¬ (j < 0 ∨ cl.slots.size ≤ j.toNatClampNeg)) (hty : ty.isReference = true) (F : Sto Z h a v) (ge : n0 ≤ a)
    (hr : ∀ h', Wr h h' a j.toNatClampNeg v → Go κ h' cells slots (pc + 1) Ls st) : Go κ h cells slots pc Ls (v :: .int j :: .ref a :: st) := fun T locs vm0 X A hZ N B eT => by
  obtain ⟨T', h', X', e', W, st1⟩ := stR X K.exec (K.warm hZ) eT A1 hj hty F (g := mkF κ.m pc Ls (v :: .int j :: .ref a :: st)) rfl rfl (hb K.kb hd)
  obtain ⟨s₂, o, hs, r⟩ := hr h' W T' _ vm0 X' (A.mono (Nat.le_of_eq W.size.symm)) hZ (Fr.snoc X' N (by rw [K.en]; exact ge)) (B.wr W (by rw [K.en]; exact ge)) e'
  exact ⟨s₂, o, st1 _ hs, r⟩
theorem castOk {C : String} {index : Nat} {a : Addr} (K : Ok κ l Z n0 own nm bytes maxL ret rm Q) (hd : decode bytes pc = .ok (.checkcast index, 3)) (w : (Cond.classLink own index C).before a0 Z = true) (F : Ins Z h a C true) (hr : Go κ h cells slots (pc + 3) Ls (.ref a :: st)) : Go κ h cells slots pc Ls (.ref a :: st) := fun T locs vm0 X A hZ N B eT => by
  obtain ⟨T', X', e', st1⟩ := castY X K.exec (K.warm hZ) (K.ko A) w eT F (g := mkF κ.m pc Ls (.ref a :: st)) rfl rfl (hb K.kb hd)
  obtain ⟨s₂, o, hs, r⟩ := hr T' locs vm0 X' A hZ N B e'
  exact ⟨s₂, o, st1 _ hs, r⟩
theorem instYes {C : String} {index : Nat} {a : Addr} (K : Ok κ l Z n0 own nm bytes maxL ret rm Q) (hd : decode bytes pc = .ok (.instanceof index, 3)) (w : (Cond.classLink own index C).before a0 Z = true) (F : Ins Z h a C true) (hr : Go κ h cells slots (pc + 3) Ls (.int 1 :: st)) : Go κ h cells slots pc Ls (.ref a :: st) := fun T locs vm0 X A hZ N B eT => by
  obtain ⟨T', X', e', st1⟩ := instY X K.exec (K.warm hZ) (K.ko A) w eT F (g := mkF κ.m pc Ls (.ref a :: st)) rfl rfl (hb K.kb hd)
  obtain ⟨s₂, o, hs, r⟩ := hr T' locs vm0 X' A hZ N B e'
  exact ⟨s₂, o, st1 _ hs, r⟩
theorem instNot {C C' : String} {index : Nat} {a : Addr} (K : Ok κ l Z n0 own nm bytes maxL ret rm Q) (hd : decode bytes pc = .ok (.instanceof index, 3)) (w : (Cond.classLink own index C).before a0 Z = true) (E : Exa Z h a C') (F : ∃ c t, Z.vm.findClass C' = some c ∧ Z.vm.findClass C = some t ∧ Z.vm.assignable c t = false)
    (hr : Go κ h cells slots (pc + 3) Ls (.int 0 :: st)) : Go κ h cells slots pc Ls (.ref a :: st) := fun T locs vm0 X A hZ N B eT => by
  obtain ⟨T', X', e', st1⟩ := instNo X K.exec (K.warm hZ) (K.ko A) w eT E F (g := mkF κ.m pc Ls (.ref a :: st)) rfl rfl (hb K.kb hd)
  obtain ⟨s₂, o, hs, r⟩ := hr T' locs vm0 X' A hZ N B e'
  exact ⟨s₂, o, st1 _ hs, r⟩
theorem getfieldZ {R0 O n d host : String} {index : Nat} {a : Addr} {v : Value} (K : Ok κ l Z n0 own nm bytes maxL ret rm Q) (hd : decode bytes pc = .ok (.getfield index, 3))
    (w : (Cond.fieldLink own index R0 n d).before a0 Z = true ∨ (Cond.fieldLinkNest own index R0 n d host).before a0 Z = true) (via : Via Z R0 O n d) (F : Fld Z Z.heap a O n d v) (hr : Go κ h cells slots (pc + 3) Ls (v :: st)) : Go κ h cells slots pc Ls (.ref a :: st) :=
  old K fun B => getfield K hd w via (F.ext B.2) hr
theorem getstaticZ {R0 O n d host : String} {index : Nat} {v : Value} (K : Ok κ l Z n0 own nm bytes maxL ret rm Q) (hd : decode bytes pc = .ok (.getstatic index, 3))
    (w : (Cond.fieldLink own index R0 n d).before a0 Z = true ∨ (Cond.fieldLinkNest own index R0 n d host).before a0 Z = true) (via : Via Z R0 O n d) (F : Sta Z Z.heap O n d v) (hr : Go κ h cells slots (pc + 3) Ls (v :: st)) : Go κ h cells slots pc Ls st :=
  old K fun B => getstatic K hd w via (F.ext B.2) hr
/-! ## calls -/
section Calls
variable {y z : MethodName} {bytes' : ByteArray} {maxL' W index : Nat} {ret' : Option FieldType} {rm' : Room} {Q' : Option Value → Heap → Prop} {argsL rest : List Value} {as' : Array Value}
theorem Con.narrow (C : Con false l Z n0 y bytes' maxL' ret' rm' as' h Q') (g : Old Z n0 h) : MetFree l y (head1 [Cond.code y bytes' maxL' ret'] rm') (fun a U => a = as' ∧ Z.Warmed39 U.vm ∧ U.heap = h) (fun _ _ _ _ _ => True)
    (fun _ U o U' => ∃ v L, o = .returned v ∧ (Q' v U'.heap ∧ Fr n0 L ∧ h.size ≤ U'.heap.size ∧ Old Z n0 U'.heap) ∧ FrameEnd U o U' L rm'.cells rm'.slots) := fun p e ha hc hk s m args below hf happ hP hK => by
  obtain ⟨n, o, a1, a2, a3, v, L, e1, ⟨q1, q2, q3⟩, E⟩ := C g [] p e ha hc hk s m args below hf happ hP hK
  exact ⟨n, o, a1, a2, a3, v, L, e1, ⟨q1, q2, hP.2.2 ▸ q3.1, q3.2⟩, E.1 rfl⟩
theorem Con.mono {wide : Bool} {Q2 : Option Value → Heap → Prop} (C : Con wide l Z n0 y bytes' maxL' ret' rm' as' h Q') (hq : ∀ v h', Q' v h' → Q2 v h') : Con wide l Z n0 y bytes' maxL' ret' rm' as' h Q2 := fun g ws p e ha hc hk s m args below hf happ hP hK => by
  obtain ⟨n, o, a1, a2, a3, v, L, e1, ⟨q1, q2, q3⟩, E⟩ := C g ws p e ha hc hk s m args below hf happ hP hK
  exact ⟨n, o, a1, a2, a3, v, L, e1, ⟨hq _ _ q1, q2, q3⟩, E⟩
theorem finish (K : Ok κ l Z n0 own nm bytes maxL ret rm Q) {T U0 : State} {locs : List Loc} {vm0 : Vm} {pc' : Nat} (A : κ.adm vm0 h.size) (hZ : κ.Z.Warmed39 vm0) (N : Fr κ.n0 locs)
    (hr : ∀ v h', Q' v h' → h.size ≤ h'.size → Go κ h' (cells + rm'.cells) (slots + rm'.slots) pc' Ls (v.toList ++ rest)) {v : Option Value} {B : Pt} (X' : Stand κ.p κ.l κ.e κ.R (κ.s.setVm vm0) κ.m κ.args κ.below κ.meth κ.c B.U B.locs B.cells B.slots)
    (P : ∃ L, (Q' v B.U.heap ∧ Fr n0 L ∧ h.size ≤ B.U.heap.size ∧ Old Z n0 B.U.heap) ∧ B.locs = locs ++ L ∧ B.cells = cells + rm'.cells ∧ B.slots = slots + rm'.slots) (st1 : ∀ target, Steps κ.p.tables κ.e κ.below (B.U.setTop (mkF κ.m pc' Ls (v.toList ++ rest))) target → Steps κ.p.tables κ.e κ.below U0 target) :
    ∃ s₂ o, Steps κ.p.tables κ.e κ.below U0 s₂ ∧ s₂.status = .running ∧ Ended s₂ κ.below o ∧ ∃ v L, o = .returned v ∧ (κ.Q v s₂.heap ∧ Fr κ.n0 L ∧ κ.s.heap.size ≤ s₂.heap.size ∧ Old κ.Z κ.n0 s₂.heap) ∧ Ends κ.wide κ.s o s₂ L κ.R.cells κ.R.slots := by
  obtain ⟨L, ⟨q1, q2, q3, q4⟩, e1, e2, e3⟩ := P
  rw [e1, e2, e3] at X'
  obtain ⟨s₂, o, hs, r⟩ := hr v _ q1 q3 B.U _ vm0 X' (A.mono q3) hZ (N.app (by rw [K.en]; exact q2)) (K.oldS q4) rfl
  exact ⟨s₂, o, st1 _ hs, r⟩
theorem W0 {m : MethodId} {g : List Value} (hW : (rest.map fun v => v.category).sum ≤ W) : 2 * (mkF m pc Ls g).monitorRoom + (rest.map fun v => v.category).sum ≤ W := by
  show 2 * 0 + _ ≤ _; omega
theorem invS (K : Ok κ l Z n0 own nm bytes maxL ret rm Q) (C : Con false l Z n0 y bytes' maxL' ret' rm' argsL.toArray h Q') (hd : decode bytes pc = .ok (.invokestatic index, 3))
    (w1 : (Cond.methodLink own index y).before a0 Z = true) (w2 : (Cond.static y).before a0 Z = true) (w3 : (Cond.initialized y.cls).before a0 Z = true) (w4 : (Cond.code y bytes' maxL' ret').before a0 Z = true) (hy : y.cls ≠ "java/lang/invoke/MethodHandle" ∧ y.cls ≠ "java/lang/invoke/VarHandle")
    (hlen : ∀ sig, parseMethodDescriptor y.desc = some sig → argsL.length = sig.parameters.length) (hst : st = argsL.reverse ++ rest) (hsz : Ls.size = maxL) (hW : (rest.map fun v => v.category).sum ≤ W) (hf : rm'.frames + 1 ≤ rm.frames) (hl : W + (maxL' + 11) + rm'.locals ≤ rm.locals) (hc : cells + rm'.cells ≤ rm.cells) (hs : slots + rm'.slots ≤ rm.slots)
    (hr : ∀ v h', Q' v h' → h.size ≤ h'.size → Go κ h' (cells + rm'.cells) (slots + rm'.slots) (pc + 3) Ls (v.toList ++ rest)) : Go κ h cells slots pc Ls st := fun T locs vm0 X A hZ N OB eT => by
  have hZ' := K.warm hZ
  have eR := K.eR
  obtain ⟨v, vm₁, B, -, X', P, st1⟩ := Jvm.LawKit.callS X K.exec (K.ko A) (mvT hZ' w1) (mvT hZ' w2) (mvT hZ' w3) (mvT hZ' w4) hy (backOf (W := W) (R := κ.R) (rm := rm') (Q := fun v h' L => Q' v h' ∧ Fr n0 L ∧ h.size ≤ h'.size ∧ Old Z n0 h') (by rw [K.el]; exact C.narrow (K.old OB)) hZ' w4 w3 (by rw [eR]; exact hf) (by rw [eR]; exact hl)) (g := mkF κ.m pc Ls st) rfl (by rw [K.kl]; exact hsz) hlen hst (W0 hW) (hb K.kb hd)
    (fun _ _ => ⟨rfl, eT, by rw [eR]; exact hc, by rw [eR]; exact hs⟩)
  exact finish K (T := T) A hZ N hr X' P st1
theorem invV {CC : String} {b : Addr} (K : Ok κ l Z n0 own nm bytes maxL ret rm Q) (C : Con false l Z n0 z bytes' maxL' ret' rm' (.ref b :: argsL).toArray h Q') (hd : decode bytes pc = .ok (.invokevirtual index, 3)) (E : Exa Z h b CC)
    (w1 : (Cond.methodLink own index y).before a0 Z = true) (w2 : (Cond.declares y).before a0 Z = true) (hnf : ∀ s : State, Z.Warmed39 s.vm → NotFace s y) (w3 : (Cond.selects CC y z).before a0 Z = true) (w4 : (Cond.instanceMethod z).before a0 Z = true) (w5 : (Cond.code z bytes' maxL' ret').before a0 Z = true) (w6 : (Cond.initialized z.cls).before a0 Z = true)
    (hy : y.cls ≠ "java/lang/invoke/MethodHandle" ∧ y.cls ≠ "java/lang/invoke/VarHandle")
    (hlen : ∀ sig, parseMethodDescriptor y.desc = some sig → argsL.length = sig.parameters.length) (hst : st = argsL.reverse ++ .ref b :: rest) (hsz : Ls.size = maxL) (hW : (rest.map fun v => v.category).sum ≤ W) (hf : rm'.frames + 1 ≤ rm.frames) (hl : W + (maxL' + 11) + rm'.locals ≤ rm.locals) (hc : cells + rm'.cells ≤ rm.cells) (hs : slots + rm'.slots ≤ rm.slots)
    (hr : ∀ v h', Q' v h' → h.size ≤ h'.size → Go κ h' (cells + rm'.cells) (slots + rm'.slots) (pc + 3) Ls (v.toList ++ rest)) : Go κ h cells slots pc Ls st := fun T locs vm0 X A hZ N OB eT => by
  have hZ' := K.warm hZ
  have eR := K.eR
  obtain ⟨cB, kB, q1, -, q3⟩ := isOf hZ' eT E
  obtain ⟨v, vm₁, B, -, X', P, st1⟩ := X.virtualBack K.exec (y := y) (z := z) (K.ko A) (mvT hZ' w1) (mvT hZ' w2) (hnf _ hZ') (mvT hZ' w3) (mvT hZ' w4) hy (backOf (W := W) (R := κ.R) (rm := rm') (Q := fun v h' L => Q' v h' ∧ Fr n0 L ∧ h.size ≤ h'.size ∧ Old Z n0 h') (by rw [K.el]; exact C.narrow (K.old OB)) hZ' w5 w6 (by rw [eR]; exact hf) (by rw [eR]; exact hl)) q1 q3 (g := mkF κ.m pc Ls st) rfl (by rw [K.kl]; exact hsz) (Steps.refl _) hlen hst (W0 hW) (hb K.kb hd)
    (fun _ _ => ⟨rfl, eT, by rw [eR]; exact hc, by rw [eR]; exact hs⟩)
  exact finish K (T := T) A hZ N hr X' P (fun _ k => st1.trans k)
theorem nfS {CC : String} (w : (Cond.selects CC y y).before a0 Z = true) : ∀ s : State, Z.Warmed39 s.vm → NotFace s y := fun s hZ => notFace_of_selects (args := #[]) (mvT hZ w)
theorem nfU {S : String} (w : (Cond.superclass y.cls S).before a0 Z = true) : ∀ s : State, Z.Warmed39 s.vm → NotFace s y := fun s hZ => nf_super (args := #[]) (mvT hZ w)
theorem invVU {CC owner : String} {b : Addr} (K : Ok κ l Z n0 own nm bytes maxL ret rm Q) (C : Con false l Z n0 z bytes' maxL' ret' rm' (.ref b :: argsL).toArray h Q') (hd : decode bytes pc = .ok (.invokevirtual index, 3)) (E : Exa Z h b CC)
    (w1 : (Cond.methodLink own index y).before a0 Z = true) (w2 : (Cond.sameMethod y.cls owner y.name y.desc).before a0 Z = true) (w2' : (Cond.declares ⟨owner, y.name, y.desc⟩).before a0 Z = true) (hy : owner ≠ "java/lang/invoke/MethodHandle" ∧ owner ≠ "java/lang/invoke/VarHandle")
    (w3 : (Cond.selects CC y z).before a0 Z = true) (w4 : (Cond.instanceMethod z).before a0 Z = true) (w5 : (Cond.code z bytes' maxL' ret').before a0 Z = true) (w6 : (Cond.initialized z.cls).before a0 Z = true)
    (hlen : ∀ sig, parseMethodDescriptor y.desc = some sig → argsL.length = sig.parameters.length) (hst : st = argsL.reverse ++ .ref b :: rest) (hsz : Ls.size = maxL) (hW : (rest.map fun v => v.category).sum ≤ W) (hf : rm'.frames + 1 ≤ rm.frames) (hl : W + (maxL' + 11) + rm'.locals ≤ rm.locals) (hc : cells + rm'.cells ≤ rm.cells) (hs : slots + rm'.slots ≤ rm.slots)
    (hr : ∀ v h', Q' v h' → h.size ≤ h'.size → Go κ h' (cells + rm'.cells) (slots + rm'.slots) (pc + 3) Ls (v.toList ++ rest)) : Go κ h cells slots pc Ls st := fun T locs vm0 X A hZ N OB eT => by
  have hZ' := K.warm hZ
  have eR := K.eR
  obtain ⟨cB, kB, q1, -, q3⟩ := isOf hZ' eT E
  obtain ⟨v, vm₁, B, -, X', P, st1⟩ := X.virtualBackUp K.exec (x := y) (y := z) (K.ko A) (mvT hZ' w1) (mvT hZ' w2) (mvT hZ' w2') hy (mvT hZ' w3) (mvT hZ' w4) (backOf (W := W) (R := κ.R) (rm := rm') (Q := fun v h' L => Q' v h' ∧ Fr n0 L ∧ h.size ≤ h'.size ∧ Old Z n0 h') (by rw [K.el]; exact C.narrow (K.old OB)) hZ' w5 w6 (by rw [eR]; exact hf) (by rw [eR]; exact hl)) q1 q3 (g := mkF κ.m pc Ls st) rfl (by rw [K.kl]; exact hsz) (Steps.refl _) hlen hst (W0 hW) (hb K.kb hd)
    (fun _ _ => ⟨rfl, eT, by rw [eR]; exact hc, by rw [eR]; exact hs⟩)
  exact finish K (T := T) A hZ N hr X' P (fun _ k => st1.trans k)
theorem invP {CC : String} {b : Addr} (K : Ok κ l Z n0 own nm bytes maxL ret rm Q) (C : Con false l Z n0 y bytes' maxL' ret' rm' (.ref b :: argsL).toArray h Q') (hd : decode bytes pc = .ok (.invokevirtual index, 3)) (E : Exa Z h b CC)
    (w1 : (Cond.methodLink own index y).before a0 Z = true) (w2 : (Cond.instanceMethod y).before a0 Z = true) (w3 : (Cond.selects y.cls y y).before a0 Z = true) (w4 : (Cond.privateMethod y).before a0 Z = true) (w5 : (Cond.code y bytes' maxL' ret').before a0 Z = true) (w6 : (Cond.initialized y.cls).before a0 Z = true)
    (hy : y.cls ≠ "java/lang/invoke/MethodHandle" ∧ y.cls ≠ "java/lang/invoke/VarHandle")
    (hlen : ∀ sig, parseMethodDescriptor y.desc = some sig → argsL.length = sig.parameters.length) (hst : st = argsL.reverse ++ .ref b :: rest) (hsz : Ls.size = maxL) (hW : (rest.map fun v => v.category).sum ≤ W) (hf : rm'.frames + 1 ≤ rm.frames) (hl : W + (maxL' + 11) + rm'.locals ≤ rm.locals) (hc : cells + rm'.cells ≤ rm.cells) (hs : slots + rm'.slots ≤ rm.slots)
    (hr : ∀ v h', Q' v h' → h.size ≤ h'.size → Go κ h' (cells + rm'.cells) (slots + rm'.slots) (pc + 3) Ls (v.toList ++ rest)) : Go κ h cells slots pc Ls st := fun T locs vm0 X A hZ N OB eT => by
  have hZ' := K.warm hZ
  have eR := K.eR
  obtain ⟨cell, hcell, hobj⟩ := E.cell
  obtain ⟨v, vm₁, B, -, X', P, st1⟩ := X.privateBack K.exec (y := y) (K.ko A) (mvT hZ' w1) (mvT hZ' w2) (mvT hZ' w3) (Cond.privateMethod_at (mvP (args := #[]) hZ' w4)) (mvT hZ' w5) hy (backOf (W := W) (R := κ.R) (rm := rm') (Q := fun v h' L => Q' v h' ∧ Fr n0 L ∧ h.size ≤ h'.size ∧ Old Z n0 h') (by rw [K.el]; exact C.narrow (K.old OB)) hZ' w5 w6 (by rw [eR]; exact hf) (by rw [eR]; exact hl)) (g := mkF κ.m pc Ls st) rfl (by rw [K.kl]; exact hsz) (Steps.refl _) (a := b) (cell := cell) (by rw [eT]; exact hcell) hobj hlen hst (W0 hW) (hb K.kb hd)
    (fun _ _ => ⟨rfl, eT, by rw [eR]; exact hc, by rw [eR]; exact hs⟩)
  exact finish K (T := T) A hZ N hr X' P (fun _ k => st1.trans k)
theorem invI {CC : String} {b : Addr} {count : Nat} (K : Ok κ l Z n0 own nm bytes maxL ret rm Q) (C : Con false l Z n0 z bytes' maxL' ret' rm' (.ref b :: argsL).toArray h Q') (hd : decode bytes pc = .ok (.invokeinterface index count, 5)) (E : Exa Z h b CC)
    (w1 : (Cond.methodLink own index y).before a0 Z = true) (w2 : (Cond.declares y).before a0 Z = true) (w2' : (Cond.interfaceMethod y.cls y.cls y.name y.desc).before a0 Z = true) (w3 : (Cond.selects CC y z).before a0 Z = true) (w4 : (Cond.instanceMethod z).before a0 Z = true) (w4' : (Cond.publicMethod z).before a0 Z = true) (w4'' : (Cond.unhidden CC y.name y.desc).before a0 Z = true) (w7 : (Cond.castable CC y.cls).before a0 Z = true)
    (w5 : (Cond.code z bytes' maxL' ret').before a0 Z = true) (w6 : (Cond.initialized z.cls).before a0 Z = true)
    (hy : y.cls ≠ "java/lang/invoke/MethodHandle" ∧ y.cls ≠ "java/lang/invoke/VarHandle")
    (hlen : ∀ sig, parseMethodDescriptor y.desc = some sig → argsL.length = sig.parameters.length) (hst : st = argsL.reverse ++ .ref b :: rest) (hsz : Ls.size = maxL) (hW : (rest.map fun v => v.category).sum ≤ W) (hf : rm'.frames + 1 ≤ rm.frames) (hl : W + (maxL' + 11) + rm'.locals ≤ rm.locals) (hc : cells + rm'.cells ≤ rm.cells) (hs : slots + rm'.slots ≤ rm.slots)
    (hr : ∀ v h', Q' v h' → h.size ≤ h'.size → Go κ h' (cells + rm'.cells) (slots + rm'.slots) (pc + 5) Ls (v.toList ++ rest)) : Go κ h cells slots pc Ls st := fun T locs vm0 X A hZ N OB eT => by
  have hZ' := K.warm hZ
  have eR := K.eR
  obtain ⟨cB, kB, q1, q2, q3⟩ := isOf hZ' eT E
  obtain ⟨v, vm₁, B, -, X', P, st1⟩ := X.interfaceBack K.exec (xi := y) (y := z) (K.ko A) (mvT hZ' w1) (mvT hZ' w2) (Jvm.Free.ULB.iface_rides hZ'.alike w2') (mvT hZ' w3) (mvT hZ' w4) (mvT hZ' w4') (mvT hZ' w4'') (mvT hZ' w7) hy (backOf (W := W) (R := κ.R) (rm := rm') (Q := fun v h' L => Q' v h' ∧ Fr n0 L ∧ h.size ≤ h'.size ∧ Old Z n0 h') (by rw [K.el]; exact C.narrow (K.old OB)) hZ' w5 w6 (by rw [eR]; exact hf) (by rw [eR]; exact hl)) q1 q2 q3 (g := mkF κ.m pc Ls st) rfl (by rw [K.kl]; exact hsz) (Steps.refl _) hlen hst (W0 hW) (hb K.kb hd)
    (fun _ _ => ⟨rfl, eT, by rw [eR]; exact hc, by rw [eR]; exact hs⟩)
  exact finish K (T := T) A hZ N hr X' P (fun _ k => st1.trans k)
theorem invC {b : Addr} (K : Ok κ l Z n0 own nm bytes maxL ret rm Q) (C : Con false l Z n0 y bytes' maxL' none rm' (.ref b :: argsL).toArray h Q') (hd : decode bytes pc = .ok (.invokespecial index, 3)) (hy1 : y.name = "<init>")
    (w1 : (Cond.methodLink own index y).before a0 Z = true) (w2 : (Cond.instanceMethod y).before a0 Z = true) (w5 : (Cond.code y bytes' maxL' none).before a0 Z = true) (w6 : (Cond.initialized y.cls).before a0 Z = true)
    (hy : y.cls ≠ "java/lang/invoke/MethodHandle" ∧ y.cls ≠ "java/lang/invoke/VarHandle")
    (hlen : ∀ sig, parseMethodDescriptor y.desc = some sig → argsL.length = sig.parameters.length) (hst : st = argsL.reverse ++ .ref b :: rest) (hsz : Ls.size = maxL) (hW : (rest.map fun v => v.category).sum ≤ W) (hf : rm'.frames + 1 ≤ rm.frames) (hl : W + (maxL' + 11) + rm'.locals ≤ rm.locals) (hc : cells + rm'.cells ≤ rm.cells) (hs : slots + rm'.slots ≤ rm.slots)
    (hr : ∀ v h', Q' v h' → h.size ≤ h'.size → Go κ h' (cells + rm'.cells) (slots + rm'.slots) (pc + 3) Ls (v.toList ++ rest)) : Go κ h cells slots pc Ls st := fun T locs vm0 X A hZ N OB eT => by
  have hZ' := K.warm hZ
  have eR := K.eR
  obtain ⟨v, vm₁, B, -, X', P, st1⟩ := X.specialBack K.exec (y := y) hy1 (K.ko A) (mvT hZ' w1) (mvT hZ' w2) (mvT hZ' w5) hy (backOf (W := W) (R := κ.R) (rm := rm') (Q := fun v h' L => Q' v h' ∧ Fr n0 L ∧ h.size ≤ h'.size ∧ Old Z n0 h') (by rw [K.el]; exact C.narrow (K.old OB)) hZ' w5 w6 (by rw [eR]; exact hf) (by rw [eR]; exact hl)) (g := mkF κ.m pc Ls st) rfl (by rw [K.kl]; exact hsz) (Steps.refl _) (a := b) hlen hst (W0 hW) (hb K.kb hd)
    (fun _ _ => ⟨rfl, eT, by rw [eR]; exact hc, by rw [eR]; exact hs⟩)
  exact finish K (T := T) A hZ N hr X' P (fun _ k => st1.trans k)
theorem mvMN {s : State} {args : Array Value} {own' host : String} {i : Nat} (hZ : Z.Warmed39 s.vm) (w : (Cond.methodLinkNest own' i y host).before a0 Z = true) : (Cond.methodLinkNest own' i y host).before args s = true := (Cond.methodLinkNest_wide hZ w :)
theorem invCN {host : String} {b : Addr} (K : Ok κ l Z n0 own nm bytes maxL ret rm Q) (C : Con false l Z n0 y bytes' maxL' none rm' (.ref b :: argsL).toArray h Q') (hd : decode bytes pc = .ok (.invokespecial index, 3)) (hy1 : y.name = "<init>")
    (w1 : (Cond.methodLinkNest own index y host).before a0 Z = true) (w2 : (Cond.instanceMethod y).before a0 Z = true) (w5 : (Cond.code y bytes' maxL' none).before a0 Z = true) (w6 : (Cond.initialized y.cls).before a0 Z = true)
    (hy : y.cls ≠ "java/lang/invoke/MethodHandle" ∧ y.cls ≠ "java/lang/invoke/VarHandle")
    (hlen : ∀ sig, parseMethodDescriptor y.desc = some sig → argsL.length = sig.parameters.length) (hst : st = argsL.reverse ++ .ref b :: rest) (hsz : Ls.size = maxL) (hW : (rest.map fun v => v.category).sum ≤ W) (hf : rm'.frames + 1 ≤ rm.frames) (hl : W + (maxL' + 11) + rm'.locals ≤ rm.locals) (hc : cells + rm'.cells ≤ rm.cells) (hs : slots + rm'.slots ≤ rm.slots)
    (hr : ∀ v h', Q' v h' → h.size ≤ h'.size → Go κ h' (cells + rm'.cells) (slots + rm'.slots) (pc + 3) Ls (v.toList ++ rest)) : Go κ h cells slots pc Ls st := fun T locs vm0 X A hZ N OB eT => by
  have hZ' := K.warm hZ
  have eR := K.eR
  obtain ⟨v, vm₁, B, -, X', P, st1⟩ := X.specialBackNest K.exec (y := y) hy1 (K.ko A) (mvMN hZ' w1) (mvT hZ' w2) (mvT hZ' w5) hy (backOf (W := W) (R := κ.R) (rm := rm') (Q := fun v h' L => Q' v h' ∧ Fr n0 L ∧ h.size ≤ h'.size ∧ Old Z n0 h') (by rw [K.el]; exact C.narrow (K.old OB)) hZ' w5 w6 (by rw [eR]; exact hf) (by rw [eR]; exact hl)) (g := mkF κ.m pc Ls st) rfl (by rw [K.kl]; exact hsz) (Steps.refl _) (a := b) hlen hst (W0 hW) (hb K.kb hd)
    (fun _ _ => ⟨rfl, eT, by rw [eR]; exact hc, by rw [eR]; exact hs⟩)
  exact finish K (T := T) A hZ N hr X' P (fun _ k => st1.trans k)
theorem invO {a : Addr} (K : Ok κ l Z n0 own nm bytes maxL ret rm Q) (hd : decode bytes pc = .ok (.invokespecial index, 3)) (w1 : (Cond.methodLink own index Lib.objectInit).before a0 Z = true) (w2 : (Cond.instanceMethod Lib.objectInit).before a0 Z = true) (w3 : (Cond.code Lib.objectInit ⟨#[0xb1]⟩ 1 none).before a0 Z = true)
    (hsz : Ls.size = maxL) (hf : 1 ≤ rm.frames) (hW : (st.map fun v => v.category).sum ≤ W) (hl : W + 12 ≤ rm.locals) (hr : Go κ h cells slots (pc + 3) Ls st) : Go κ h cells slots pc Ls (.ref a :: st) := fun T locs vm0 X A hZ N B eT => by
  obtain ⟨T', X', e', st1⟩ := initO X K.exec (K.warm hZ) (K.ko A) w1 w2 w3 eT (g := mkF κ.m pc Ls (.ref a :: st)) rfl (by rw [K.kl]; exact hsz) rfl (hb K.kb hd) (by rw [K.eR]; exact hf) (W := W) (W0 hW) (by rw [K.eR]; exact hl)
  obtain ⟨s₂, o, hs, r⟩ := hr T' locs vm0 X' A hZ N B e'
  exact ⟨s₂, o, st1 _ hs, r⟩
/-- a body's walk makes the contract -/
theorem Con.of {wide : Bool} (hpn : plainFor y = true)
    (H : ∀ κ : Cx, κ.wide = wide → Ok κ l Z n0 y.cls y.name bytes' maxL' ret' rm' Q' → Go κ h 0 0 0 (entryFrame κ.m as' maxL').locals []) (hfr : ∀ m : MethodId, entryFrame m as' maxL' = mkF m 0 (entryFrame m as' maxL').locals [] := by intro m; rfl) : Con wide l Z n0 y bytes' maxL' ret' rm' as' h Q' := by
  intro hn ws
  refine MetFree.of_bodySF hpn hisR ?_
  intro p e s m args below meth c s₁ Bd hml0 hP hK
  obtain ⟨rfl, hZ, hh⟩ := hP
  have X0 : Stand p l e rm' s m args below meth c s₁ [] 0 0 := Stand.of_body Bd
  have e0 : s₁.heap = h := by rw [← hh, Bd.state]; rfl
  let κ : Cx := ((p, l, e, rm', s, m, args, below, meth, c), (wide, Z, n0, Q'))
  have K : Ok κ l Z n0 y.cls y.name bytes' maxL' ret' rm' Q' := ⟨rfl, rfl, rfl, rfl, Bd.exec, findClass_of_methodNamed Bd.named, Bd.bytes, hml0, Bd.returns, (name_of_methodNamed Bd.named Bd.method).1, Bd.notSynchronized, rfl⟩
  obtain ⟨s₂, o, hs, r1, r2, v, L, e1, q, E⟩ := H κ rfl K s₁ [] s.vm X0 ⟨⟨s.heap.size, (State.WarmedH.refl s).since _, by rw [← hh]; exact Nat.le_refl _⟩, fun _ => rfl⟩ hZ (Fr.nil _) hn e0
  exact ⟨s₂, o, castTop (hfr m) hs, r1, r2, v, L, e1, q, E⟩
end Calls
theorem catR {v : Value} (h : v.isRef = true) : v.category = 1 := by rcases ref_cases h with rfl | ⟨a, rfl⟩ <;> rfl
/-! ## lcmp -/
theorem cmp_lt (x y : Int64) : (XT.cmpL x y).toInt < 0 ↔ x.toInt < y.toInt := by
  unfold XT.cmpL; rw [← Int64.lt_iff_toInt_lt]
  by_cases h1 : y < x
  · simp only [h1, if_true]; constructor
    · intro h; exact absurd h (by decide)
    · intro h; rw [Int64.lt_iff_toInt_lt] at h h1; omega
  · by_cases h2 : x = y
    · subst h2; simp only [h1, if_true, if_false]; simp
    · simp only [h1, h2, if_false]
      have h3 : x < y := by rw [Int64.lt_iff_toInt_lt] at h1 ⊢; rw [← Int64.toInt_inj] at h2; omega
      exact ⟨fun _ => h3, fun _ => by decide⟩
theorem cmp_gt (x y : Int64) : 0 < (XT.cmpL x y).toInt ↔ y.toInt < x.toInt := by
  unfold XT.cmpL; rw [← Int64.lt_iff_toInt_lt]
  by_cases h1 : y < x
  · simp only [h1, if_true]; exact ⟨fun _ => trivial, fun _ => by decide⟩
  · by_cases h2 : x = y
    · subst h2; simp only [h1, if_true, if_false]; simp
    · simp only [h1, h2, if_false]; simp
theorem cmp_eq (x y : Int64) : XT.cmpL x y = 0 ↔ x = y := by
  unfold XT.cmpL
  by_cases h1 : y < x
  · simp only [h1, if_true]; constructor
    · intro h; exact absurd h (by decide)
    · intro h; subst h; rw [Int64.lt_iff_toInt_lt] at h1; omega
  · by_cases h2 : x = y
    · subst h2; simp only [h1, if_true, if_false]
    · simp only [h1, h2, if_false]; exact ⟨fun h => absurd h (by decide), fun h => h.elim⟩
/-! ## what a case's words say at the start -/
theorem stZ {s : State} {args : Array Value} {C n d : String} {v : Value} (ev : (Term.static C n d).eval args s none [] s = some v) (wi : (Cond.initialized C).before args s = true) (wl : (Cond.laysStatic C n d).before args s = true) : Sta s s.heap C n d v := Sta.start ev (Or.inr ⟨wi, wl⟩)
theorem fldI {s : State} {args : Array Value} {t : Term} {a : Addr} {O f d : String} {k : Int32} (ev : t.eval args s none [] s = some (.ref a)) (hq : (Cond.eq (.field t O f d) (.int k)).value args s none s [] = some true) : Fld s s.heap a O f d (.int k) := by
  obtain ⟨x, y, e1, e2, k1, k2⟩ := cmp_v (Or.inl hq)
  rw [fld_at ev] at e1
  cases (e2.symm.trans (Term.int_eval k) : some y = some (.int k))
  obtain ⟨z, rfl⟩ := k2
  refine Fld.start ?_
  have e3 : (Term.field t O f d).eval args s none [] s = some (.int z) := (fld_at ev).trans e1
  have := gotT (Cond.eq_ints e3 (Term.int_eval k)) hq
  rw [e1, this]
theorem fldJ {s : State} {args : Array Value} {t : Term} {a : Addr} {O f d : String} {k : Int64} (ev : t.eval args s none [] s = some (.ref a)) (hq : (Cond.eq (.field t O f d) (.long k)).value args s none s [] = some true) : Fld s s.heap a O f d (.long k) := by
  obtain ⟨x, y, e1, e2, k1, k2⟩ := cmp_v (Or.inl hq)
  rw [fld_at ev] at e1
  cases (e2.symm.trans (long_at k) : some y = some (.long k))
  obtain ⟨z, rfl⟩ := k2
  refine Fld.start ?_
  have e3 : (Term.field t O f d).eval args s none [] s = some (.long z) := (fld_at ev).trans e1
  have := gotT (eq_L e3 (long_at k)) hq
  rw [e1, this]
theorem staI {s : State} {args : Array Value} {C n d : String} {k : Int32} (hq : (Cond.eq (.static C n d) (.int k)).value args s none s [] = some true) : (Term.static C n d).eval args s none [] s = some (.int k) := by
  obtain ⟨x, y, e1, e2, k1, k2⟩ := cmp_v (Or.inl hq)
  cases (e2.symm.trans (Term.int_eval k) : some y = some (.int k))
  obtain ⟨z, rfl⟩ := k2
  have := gotT (Cond.eq_ints e1 (Term.int_eval k)) hq
  rw [e1, this]
theorem staJ {s : State} {args : Array Value} {C n d : String} {k : Int64} (hq : (Cond.eq (.static C n d) (.long k)).value args s none s [] = some true) : (Term.static C n d).eval args s none [] s = some (.long k) := by
  obtain ⟨x, y, e1, e2, k1, k2⟩ := cmp_v (Or.inl hq)
  cases (e2.symm.trans (long_at k) : some y = some (.long k))
  obtain ⟨z, rfl⟩ := k2
  have := gotT (eq_L e1 (long_at k)) hq
  rw [e1, this]
theorem ordNe {Z : State} {h : Heap} {a b : Addr} {C n d : String} {v w : Value} (F : Fld Z h a C n d v) (G : Fld Z h b C n d w) (q : v ≠ w) : (Value.ref a) ≠ .ref b := fun e => F.ne G q (by cases e; rfl)
end Laws
end Jvm.OwnKit

namespace Jvm.OwnKit
open Sem ClassFile Op Lib Jvm.Stand Jvm.Free Jvm.LawKit Jvm.RoadKit
/-! ## arrays, by the list of what they hold -/
def Av (Z : State) (h : Heap) (a : Addr) (k : ClassId) (ty : FieldType) (vs : List Value) : Prop := ∃ c : Cell, Arr Z h a c ty ∧ c.cls = k ∧ c.slots.toList = vs ∧ vs.length < 2 ^ 31 ∧ ∀ v ∈ vs, fits ty v = true
section Av
variable {Z : State} {h h' : Heap} {a b : Addr} {k : ClassId} {ty : FieldType} {vs : List Value} {sl : Nat} {v : Value} {ws : List Addr}
theorem Av.lt (F : Av Z h a k ty vs) : a < h.size := by obtain ⟨c, A, -⟩ := F; exact A.lt
theorem Av.ext (F : Av Z h a k ty vs) (E : Ext h h') : Av Z h' a k ty vs := by obtain ⟨c, A, r⟩ := F; exact ⟨c, A.ext E, r⟩
theorem Av.other (F : Av Z h b k ty vs) (W : Wr h h' a sl v) (q : b ≠ a) : Av Z h' b k ty vs := by obtain ⟨c, A, r⟩ := F; exact ⟨c, A.other W q, r⟩
theorem Av.keep (F : Av Z h a k ty vs) (K : Keep h h' ws) (q : a ∉ ws) : Av Z h' a k ty vs := by obtain ⟨c, A, r⟩ := F; exact ⟨c, ⟨K.2.1 a c A.1 q, A.2⟩, r⟩
theorem Av.len (F : Av Z h a k ty vs) : vs.length < 2 ^ 31 := by obtain ⟨c, -, -, -, q, -⟩ := F; exact q
theorem Av.set (F : Av Z h a k ty vs) (W : Wr h h' a sl v) (hv : fits ty v = true) : Av Z h' a k ty (vs.set sl v) := by
  obtain ⟨c, A, e1, e2, e3, e4⟩ := F
  refine ⟨_, A.same W, e1, by simp [Cell.setSlot, e2], by simpa using e3, fun w hw => ?_⟩
  rcases List.mem_or_eq_of_mem_set hw with q | q
  · exact e4 w q
  · exact q ▸ hv
theorem Av.new {cA : ClassId} {n : Int32} (A : Arr Z h a (newA cA ty n) ty) (q : 0 ≤ n.toInt) : Av Z h a cA ty (List.replicate n.toInt.toNat (defaultValue ty)) := by
  have e : n.toNatClampNeg = n.toInt.toNat := rfl
  refine ⟨_, A, rfl, by show (Array.replicate n.toNatClampNeg (defaultValue ty)).toList = _; rw [Array.toList_replicate]; rfl, by have := n.toInt_lt; rw [List.length_replicate]; omega, fun v hv => ?_⟩
  rw [List.mem_replicate] at hv
  rw [hv.2]; cases ty <;> rfl
theorem Av.arv (F : Av Z h a k ty vs) (d : Value) : Arv Z h a k ty (Int32.ofNat vs.length) vs d := by
  obtain ⟨c, A, e1, e2, e3, e4⟩ := F
  have e5 : c.slots.size = vs.length := by rw [← e2]; simp
  have e6 : (Int32.ofNat vs.length).toInt = vs.length := len_toInt e3
  refine ⟨c, A, e1, ?_, ?_, fun i hi => ?_, fun i hi => ?_⟩
  · rw [e5]; show _ = (Int32.ofNat vs.length).toInt.toNat; omega
  · rw [Int32.lt_iff_toInt_lt, e6]; have : (0 : Int32).toInt = 0 := rfl; omega
  · rw [e5] at hi; rw [← e2]; simp [List.getD, ← Array.getElem?_toList]; rw [e2]; simp [hi]
  · rw [e5] at hi; rw [List.getD_eq_getElem?_getD, List.getElem?_eq_getElem hi]; exact e4 _ (List.getElem_mem hi)
theorem Av.of_arv {n : Int32} {d : Value} (F : Arv Z h a k ty n vs d) (hl : n.toInt = vs.length) : Av Z h a k ty vs := by
  obtain ⟨c, A, e1, e2, e3, e4, e5⟩ := F
  have e6 : c.slots.size = vs.length := by rw [e2]; show n.toInt.toNat = _; omega
  have e7 : c.slots.toList = vs := by
    refine List.ext_getElem? fun i => ?_
    rcases Nat.lt_or_ge i vs.length with hi | hi
    · have q := e4 i (by omega)
      rw [Array.getElem?_toList, q, List.getD_eq_getElem?_getD, List.getElem?_eq_getElem hi]; rfl
    · rw [List.getElem?_eq_none hi, List.getElem?_eq_none (by simp; omega)]
  refine ⟨c, A, e1, e7, by have := n.toInt_lt; omega, fun v hv => ?_⟩
  obtain ⟨i, hi, rfl⟩ := List.getElem_of_mem hv
  have q := e5 i (by omega)
  rwa [List.getD_eq_getElem?_getD, List.getElem?_eq_getElem hi] at q
end Av
section ALaws
variable {κ : Cx} {t : FieldType} {l : Launch} {Z : State} {n0 : Nat} {own nm : String} {bytes : ByteArray} {maxL : Nat} {ret : Option FieldType} {rm : Room} {Q : Option Value → Heap → Prop} {h : Heap} {cells slots pc : Nat} {Ls : Array Slot} {st : List Value} {a0 : Array Value}
variable {a : Addr} {k : ClassId} {ty : FieldType} {vs : List Value} {j : Int32} {v : Value}
theorem inV {c : Cell} (e : c.slots.toList = vs) (h0 : 0 ≤ j.toInt) (hj : vs[j.toInt.toNat]? = some v) : ¬ (j < 0 ∨ c.slots.size ≤ j.toNatClampNeg) ∧ c.slots[j.toNatClampNeg]? = some v := by
  have q := (List.getElem?_eq_some_iff.mp hj).1
  have s : c.slots.size = vs.length := by rw [← e]; simp
  have e0 : (0 : Int32).toInt = 0 := rfl
  have e1 : j.toNatClampNeg = j.toInt.toNat := rfl
  refine ⟨?_, ?_⟩
  · rw [Int32.lt_iff_toInt_lt, e0, e1]; omega
  · rw [e1, ← Array.getElem?_toList, e]; exact hj
theorem lenV (K : Ok κ l Z n0 own nm bytes maxL ret rm Q) (hd : decode bytes pc = .ok (.arraylength, 1)) (A : Av Z h a k ty vs) (hr : Go κ h cells slots (pc + 1) Ls (.int (Int32.ofNat vs.length) :: st)) : Go κ h cells slots pc Ls (.ref a :: st) := by
  obtain ⟨c, A1, e1, e2, e3, e4⟩ := A
  exact arrLen K hd A1 (by rw [← e2]; simp) hr
theorem ialoadV (K : Ok κ l Z n0 own nm bytes maxL ret rm Q) (hd : decode bytes pc = .ok (.iaload, 1)) (A : Av Z h a k .int vs) (h0 : 0 ≤ j.toInt) (hj : vs[j.toInt.toNat]? = some v) (hr : Go κ h cells slots (pc + 1) Ls (v :: st)) : Go κ h cells slots pc Ls (.int j :: .ref a :: st) := by
  obtain ⟨c, A1, e1, e2, e3, e4⟩ := A
  obtain ⟨q1, q2⟩ := inV e2 h0 hj
  exact iaload K hd A1 q1 q2 hr
theorem laloadV (K : Ok κ l Z n0 own nm bytes maxL ret rm Q) (hd : decode bytes pc = .ok (.laload, 1)) (A : Av Z h a k .long vs) (h0 : 0 ≤ j.toInt) (hj : vs[j.toInt.toNat]? = some v) (hr : Go κ h cells slots (pc + 1) Ls (v :: st)) : Go κ h cells slots pc Ls (.int j :: .ref a :: st) := by
  obtain ⟨c, A1, e1, e2, e3, e4⟩ := A
  obtain ⟨q1, q2⟩ := inV e2 h0 hj
  exact laload K hd A1 q1 q2 hr
theorem caloadV (K : Ok κ l Z n0 own nm bytes maxL ret rm Q) (hd : decode bytes pc = .ok (.caload, 1)) (A : Av Z h a k .char vs) (h0 : 0 ≤ j.toInt) (hj : vs[j.toInt.toNat]? = some v) (hr : Go κ h cells slots (pc + 1) Ls (v :: st)) : Go κ h cells slots pc Ls (.int j :: .ref a :: st) := by
  obtain ⟨c, A1, e1, e2, e3, e4⟩ := A
  obtain ⟨q1, q2⟩ := inV e2 h0 hj
  exact caload K hd A1 q1 q2 hr
theorem baloadV (K : Ok κ l Z n0 own nm bytes maxL ret rm Q) (hd : decode bytes pc = .ok (.baload, 1)) (A : Av Z h a k .byte vs) (h0 : 0 ≤ j.toInt) (hj : vs[j.toInt.toNat]? = some v) (hr : Go κ h cells slots (pc + 1) Ls (v :: st)) : Go κ h cells slots pc Ls (.int j :: .ref a :: st) := by
  obtain ⟨c, A1, e1, e2, e3, e4⟩ := A
  obtain ⟨q1, q2⟩ := inV e2 h0 hj
  exact baload K hd A1 q1 q2 hr
theorem iastoreV {x : Int32} (K : Ok κ l Z n0 own nm bytes maxL ret rm Q) (hd : decode bytes pc = .ok (.iastore, 1)) (A : Av Z h a k .int vs) (h0 : 0 ≤ j.toInt) (hj : j.toInt < vs.length) (ge : n0 ≤ a)
    (hr : ∀ h', Wr h h' a j.toInt.toNat (.int x) → Av Z h' a k .int (vs.set j.toInt.toNat (.int x)) → Go κ h' cells slots (pc + 1) Ls st) : Go κ h cells slots pc Ls (.int x :: .int j :: .ref a :: st) := by
  obtain ⟨c, A1, e1, e2, e3, e4⟩ := A
  obtain ⟨w, hw⟩ : ∃ w, vs[j.toInt.toNat]? = some w := ⟨_, List.getElem?_eq_getElem (by omega)⟩
  obtain ⟨q1, q2⟩ := inV e2 h0 hw
  exact iastore K hd A1 q1 ge fun h' W => hr h' W (Av.set ⟨c, A1, e1, e2, e3, e4⟩ W rfl)
theorem lastoreV {x : Int64} (K : Ok κ l Z n0 own nm bytes maxL ret rm Q) (hd : decode bytes pc = .ok (.lastore, 1)) (A : Av Z h a k .long vs) (h0 : 0 ≤ j.toInt) (hj : j.toInt < vs.length) (ge : n0 ≤ a)
    (hr : ∀ h', Wr h h' a j.toInt.toNat (.long x) → Av Z h' a k .long (vs.set j.toInt.toNat (.long x)) → Go κ h' cells slots (pc + 1) Ls st) : Go κ h cells slots pc Ls (.long x :: .int j :: .ref a :: st) := by
  obtain ⟨c, A1, e1, e2, e3, e4⟩ := A
  obtain ⟨w, hw⟩ : ∃ w, vs[j.toInt.toNat]? = some w := ⟨_, List.getElem?_eq_getElem (by omega)⟩
  obtain ⟨q1, q2⟩ := inV e2 h0 hw
  exact lastore K hd A1 q1 ge fun h' W => hr h' W (Av.set ⟨c, A1, e1, e2, e3, e4⟩ W rfl)
theorem castoreV {x : Int32} (K : Ok κ l Z n0 own nm bytes maxL ret rm Q) (hd : decode bytes pc = .ok (.castore, 1)) (A : Av Z h a k .char vs) (h0 : 0 ≤ j.toInt) (hj : j.toInt < vs.length) (ge : n0 ≤ a)
    (hr : ∀ h', Wr h h' a j.toInt.toNat (.int (nar .char x)) → Av Z h' a k .char (vs.set j.toInt.toNat (.int (nar .char x))) → Go κ h' cells slots (pc + 1) Ls st) : Go κ h cells slots pc Ls (.int x :: .int j :: .ref a :: st) := by
  obtain ⟨c, A1, e1, e2, e3, e4⟩ := A
  obtain ⟨w, hw⟩ : ∃ w, vs[j.toInt.toNat]? = some w := ⟨_, List.getElem?_eq_getElem (by omega)⟩
  obtain ⟨q1, q2⟩ := inV e2 h0 hw
  exact castore K hd A1 q1 ge fun h' W => hr h' W (Av.set ⟨c, A1, e1, e2, e3, e4⟩ W (fits_nar_char x))
theorem bastoreV {x : Int32} (K : Ok κ l Z n0 own nm bytes maxL ret rm Q) (hd : decode bytes pc = .ok (.bastore, 1)) (A : Av Z h a k .byte vs) (h0 : 0 ≤ j.toInt) (hj : j.toInt < vs.length) (ge : n0 ≤ a)
    (hr : ∀ h', Wr h h' a j.toInt.toNat (.int x.toInt8.toInt32) → Av Z h' a k .byte (vs.set j.toInt.toNat (.int x.toInt8.toInt32)) → Go κ h' cells slots (pc + 1) Ls st) : Go κ h cells slots pc Ls (.int x :: .int j :: .ref a :: st) := by
  obtain ⟨c, A1, e1, e2, e3, e4⟩ := A
  obtain ⟨w, hw⟩ : ∃ w, vs[j.toInt.toNat]? = some w := ⟨_, List.getElem?_eq_getElem (by omega)⟩
  obtain ⟨q1, q2⟩ := inV e2 h0 hw
  exact bastore K hd A1 q1 ge fun h' W => hr h' W (Av.set ⟨c, A1, e1, e2, e3, e4⟩ W (fits_nar_byte x))
theorem aaloadV (K : Ok κ l Z n0 own nm bytes maxL ret rm Q) (hd : decode bytes pc = .ok (.aaload, 1)) (A : Av Z h a k ty vs) (hty : ty.isReference = true) (h0 : 0 ≤ j.toInt) (hj : vs[j.toInt.toNat]? = some v) (hr : Go κ h cells slots (pc + 1) Ls (v :: st)) : Go κ h cells slots pc Ls (.int j :: .ref a :: st) := by
  obtain ⟨c, A1, e1, e2, e3, e4⟩ := A
  obtain ⟨q1, q2⟩ := inV e2 h0 hj
  exact aaload K hd A1 hty q1 q2 hr
theorem aastoreV {C : String} {y : Addr} (K : Ok κ l Z n0 own nm bytes maxL ret rm Q) (hd : decode bytes pc = .ok (.aastore, 1)) (A : Av Z h a k ty vs) (O : Ovr Z k C) (I : Ins Z h y C true) (hty : ty.isReference = true) (h0 : 0 ≤ j.toInt) (hj : j.toInt < vs.length) (ge : n0 ≤ a)
    (hr : ∀ h', Wr h h' a j.toInt.toNat (.ref y) → Av Z h' a k ty (vs.set j.toInt.toNat (.ref y)) → Go κ h' cells slots (pc + 1) Ls st) : Go κ h cells slots pc Ls (.ref y :: .int j :: .ref a :: st) := by
  obtain ⟨c, A1, e1, e2, e3, e4⟩ := A
  obtain ⟨w, hw⟩ : ∃ w, vs[j.toInt.toNat]? = some w := ⟨_, List.getElem?_eq_getElem (by omega)⟩
  obtain ⟨q1, q2⟩ := inV e2 h0 hw
  refine aastore K hd A1 q1 hty (Sto.ofV A1 e1 O I) ge fun h' W => ?_
  exact hr h' W (Av.set ⟨c, A1, e1, e2, e3, e4⟩ W (by cases ty <;> first | (exact Bool.noConfusion hty) | rfl))
theorem newArrV {aty : ArrayType} {n : Int32} {cap : Nat} (K : Ok κ l Z n0 own nm bytes maxL ret rm Q) (hd : decode bytes pc = .ok (.newarray aty, 2)) (w : (Cond.arrayClass (newarray.typeOf aty)).before a0 Z = true) (hn : 0 ≤ n.toInt) (hcap : n.toInt ≤ cap) (hb8 : cap * 8 ≤ 536870912)
    (hc : cells + 1 ≤ rm.cells) (hl : slots + cap ≤ rm.slots)
    (hr : ∀ h' a k, a = h.size → n0 ≤ a → Ext h h' → Av Z h' a k (newarray.typeOf aty) (List.replicate n.toInt.toNat (defaultValue (newarray.typeOf aty))) → Exa Z h' a ("[" ++ (newarray.typeOf aty).toString) → Go κ h' (cells + 1) (slots + cap) (pc + 2) Ls (.ref a :: st)) : Go κ h cells slots pc Ls (.int n :: st) := by
  have e0 : (0 : Int32).toInt = 0 := rfl
  have e1 : n.toNatClampNeg = n.toInt.toNat := rfl
  refine newArr K hd w (by rw [Int32.lt_iff_toInt_lt, e0]; omega) (by rw [e1]; omega) hb8 rfl hc hl fun h' a cA q1 q2 q3 q4 q5 => ?_
  exact hr h' a cA q1 q2 q3 (Av.new q4 hn) q5
theorem anewArrV {C : String} {index : Nat} {n : Int32} {cap : Nat} (K : Ok κ l Z n0 own nm bytes maxL ret rm Q) (hd : decode bytes pc = .ok (.anewarray index, 3)) (w1 : (Cond.classLink own index C).before a0 Z = true) (w2 : (Cond.arrayOver (.object C)).before a0 Z = true) (hn : 0 ≤ n.toInt) (hcap : n.toInt ≤ cap) (hb8 : cap * 8 ≤ 536870912)
    (hc : cells + 1 ≤ rm.cells) (hl : slots + cap ≤ rm.slots)
    (hr : ∀ h' a k, a = h.size → n0 ≤ a → Ext h h' → Av Z h' a k (.object C) (List.replicate n.toInt.toNat .null) → Ovr Z k C → Go κ h' (cells + 1) (slots + cap) (pc + 3) Ls (.ref a :: st)) : Go κ h cells slots pc Ls (.int n :: st) := by
  have e0 : (0 : Int32).toInt = 0 := rfl
  have e1 : n.toNatClampNeg = n.toInt.toNat := rfl
  refine anewArr K hd w1 w2 (by rw [Int32.lt_iff_toInt_lt, e0]; omega) (by rw [e1]; omega) hb8 hc hl fun h' a cA q1 q2 q3 q4 q5 => ?_
  exact hr h' a cA q1 q2 q3 (Av.new q4 hn) q5
/-- System.arraycopy between two arrays of one primitive kind -/
theorem copyV {index : Nat} {b : Addr} {k' : ClassId} {us : List Value} {sp dp nn : Int32} {W : Nat} (K : Ok κ l Z n0 own nm bytes maxL ret rm Q) (hd : decode bytes pc = .ok (.invokestatic index, 3))
    (w1 : (Cond.methodLink own index Jvm.Stand.acN).before a0 Z = true) (w2 : (Cond.native Jvm.Stand.acN).before a0 Z = true) (w3 : (Cond.static Jvm.Stand.acN).before a0 Z = true) (w4 : (Cond.initialized "java/lang/System").before a0 Z = true)
    (A : Av Z h a k ty vs) (B : Av Z h b k' ty us) (hty : refKind ty = false) (h1 : 0 ≤ sp.toInt) (h2 : 0 ≤ dp.toInt) (h3 : 0 ≤ nn.toInt) (h4 : sp.toInt + nn.toInt ≤ vs.length) (h5 : dp.toInt + nn.toInt ≤ us.length) (ge : n0 ≤ b)
    (hsz : Ls.size = maxL) (hW : (st.map fun v => v.category).sum ≤ W) (hf : 1 ≤ rm.frames) (hlo : W + (nativeFrameWords "java/lang/System" "arraycopy" 5 + 11) ≤ rm.locals)
    (hr : ∀ h', Keep h h' [b] → Av Z h' b k' ty (us.take dp.toInt.toNat ++ (vs.drop sp.toInt.toNat).take nn.toInt.toNat ++ us.drop (dp.toInt.toNat + nn.toInt.toNat)) → Go κ h' cells slots (pc + 3) Ls st) :
    Go κ h cells slots pc Ls (.int nn :: .int dp :: .ref b :: .int sp :: .ref a :: st) := fun T locs vm0 X AD hZ N OB eT => by
  have e0 : (0 : Int32).toInt = 0 := rfl
  have eR := K.eR
  have lA := A.len
  have lB := B.len
  have sA : (Int32.ofNat vs.length).toInt = vs.length := len_toInt lA
  have sB : (Int32.ofNat us.length).toInt = us.length := len_toInt lB
  have hus : (vs.drop sp.toInt.toNat).take nn.toInt.toNat = (List.range nn.toNatClampNeg).map fun i => vs.getD (sp.toNatClampNeg + i) .null := by
    refine List.ext_getElem? fun i => ?_
    show _ = ((List.range nn.toInt.toNat).map fun i => vs.getD (sp.toInt.toNat + i) .null)[i]?
    rcases Nat.lt_or_ge i nn.toInt.toNat with hi | hi
    · rw [List.getElem?_take_of_lt hi, List.getElem?_drop, List.getElem?_map, List.getElem?_range hi, Option.map_some, List.getD_eq_getElem?_getD, List.getElem?_eq_getElem (by omega)]; rfl
    · rw [List.getElem?_eq_none (by rw [List.length_take, List.length_drop]; omega), List.getElem?_eq_none (by rw [List.length_map, List.length_range]; omega)]
  obtain ⟨T', h', L, X', e', N', KP, AV, st1⟩ := cpA X K.exec (K.warm hZ) (K.ko AD) w1 w2 w3 w4 eT (A.arv .null) (B.arv .null) (Or.inl ⟨rfl, hty⟩) (sp := sp) (dp := dp) (nn := nn) (by rw [Int32.lt_iff_toInt_lt, e0]; omega) (by rw [Int32.lt_iff_toInt_lt, e0]; omega) (by rw [Int32.lt_iff_toInt_lt, e0]; omega)
    (by show sp.toInt.toNat + nn.toInt.toNat ≤ (Int32.ofNat vs.length).toInt.toNat; omega) (by show dp.toInt.toNat + nn.toInt.toNat ≤ (Int32.ofNat us.length).toInt.toNat; omega) hus (by show dp.toInt.toNat + nn.toInt.toNat ≤ us.length; omega) N (by rw [K.en]; exact ge)
    (g := mkF κ.m pc Ls (.int nn :: .int dp :: .ref b :: .int sp :: .ref a :: st)) rfl (by rw [K.kl]; exact hsz) rfl (hb K.kb hd) (by rw [eR]; exact hf) (W0 hW) (by rw [eR]; exact hlo)
  have AV' : Av Z h' b k' ty (us.take dp.toInt.toNat ++ (vs.drop sp.toInt.toNat).take nn.toInt.toNat ++ us.drop (dp.toInt.toNat + nn.toInt.toNat)) := Av.of_arv AV (by simp only [List.length_append, List.length_take, List.length_drop]; omega)
  obtain ⟨s₂, o, hs, r⟩ := hr h' KP AV' T' L vm0 X' (AD.mono KP.1) hZ N' (OB.keep KP (allS (by rw [K.en]; exact ge) all0)) e'
  exact ⟨s₂, o, st1 _ hs, r⟩
end ALaws
end Jvm.OwnKit

namespace Jvm.Pilot.@@N@@
open Jvm Jvm.ClassFile Sem Op Lib Jvm.Free Jvm.Stand Jvm.LawKit Jvm.RoadKit Bundle Jvm.Pilot.@@N@@.Jvm.D
/-! ## the bits of a long[] -/
theorem own_inc {i : Int32} (h : i.toInt < 2147483647) : (i + 1).toInt = i.toInt + 1 := by
  have q := c_iadd i 1
  have r := rng32 (i + 1)
  have r2 := rng32 i
  have e1 : (1 : Int32).toInt = 1 := rfl
  omega
theorem own_dec {i : Int32} (h : 0 ≤ i.toInt) : (i + Int32.ofInt (-1)).toInt = i.toInt - 1 := by
  rw [show Int32.ofInt (-1) = -1 by decide]
  have q := c_iadd i (-1)
  have r := rng32 (i + -1)
  have r2 := rng32 i
  have e1 : (-1 : Int32).toInt = -1 := by decide
  omega
theorem own_sub1 {u : Int32} (h : 0 ≤ u.toInt) : (u - 1).toInt = u.toInt - 1 := by
  have q := c_isub u 1
  have r := rng32 (u - 1)
  have r2 := rng32 u
  have e1 : (1 : Int32).toInt = 1 := rfl
  omega
def own_k (x : Int32) : Nat := (x.toInt % 64).toNat
def own_wi (x : Int32) : Nat := (x.toInt / 64).toNat
def own_tst (w : Int64) (x : Int32) : Bool := w.toBitVec.getLsbD (own_k x)
def own_has (ws : List Int64) (x : Int32) : Prop := ∃ w, ws[own_wi x]? = some w ∧ own_tst w x = true
theorem own_kN (x : Int32) : x.toBitVec.toNat % 64 = own_k x := by
  unfold own_k
  have h : x.toInt = x.toBitVec.toInt := rfl
  rw [h, BitVec.toInt_eq_toNat_cond]
  have := x.toBitVec.isLt
  split <;> omega
theorem own_kL (x : Int32) : own_k x < 64 := by unfold own_k; omega
theorem own_bitV (x : Int32) : ((1 : Int64) <<< (x.toInt64 &&& (63 : Int64))).toBitVec = BitVec.twoPow 64 (own_k x) := by
  obtain ⟨h1, h2⟩ := sm64 x (own_k x) (own_kN x)
  have h3 : x.toInt64 &&& (63 : Int64) = (x &&& 0x3f).toInt64 := by rw [Int32.toInt64_and]; rfl
  rw [h3, Int64.toBitVec_shiftLeft, h1]
  show (1#64) <<< ((BitVec.ofNat 64 (own_k x)).smod 64) = _
  rw [BitVec.shiftLeft_eq', smod64 _ h2, BitVec.twoPow_eq]
theorem own_and (w : Int64) (x : Int32) : w &&& ((1 : Int64) <<< (x.toInt64 &&& (63 : Int64))) = 0 ↔ own_tst w x = false := by
  rw [← Int64.toBitVec_inj, Int64.toBitVec_and, own_bitV, BitVec.and_twoPow]
  unfold own_tst
  by_cases h : w.toBitVec.getLsbD (own_k x) = true
  · rw [if_pos h, h]
    constructor
    · intro q
      have := congrArg (fun v : BitVec 64 => v.getLsbD (own_k x)) q
      simp [own_kL] at this
    · intro q; cases q
  · rw [if_neg h]
    simp only [Bool.not_eq_true] at h
    simp [h]
theorem own_or (w : Int64) (x y : Int32) : own_tst (w ||| ((1 : Int64) <<< (x.toInt64 &&& (63 : Int64)))) y = (own_tst w y || decide (own_k x = own_k y)) := by
  unfold own_tst
  rw [Int64.toBitVec_or, own_bitV, BitVec.getLsbD_or, BitVec.getLsbD_twoPow]
  simp [own_kL]
theorem own_clr (w : Int64) (x y : Int32) : own_tst (w &&& (((1 : Int64) <<< (x.toInt64 &&& (63 : Int64))) ^^^ (-1 : Int64))) y = (own_tst w y && !decide (own_k x = own_k y)) := by
  unfold own_tst
  rw [Int64.toBitVec_and, Int64.toBitVec_xor, own_bitV, BitVec.getLsbD_and, BitVec.getLsbD_xor, BitVec.getLsbD_twoPow]
  have : ((-1 : Int64).toBitVec).getLsbD (own_k y) = true := by
    exact (BitVec.getLsbD_allOnes (v := 64)).trans (decide_eq_true (own_kL y))
  rw [this]
  simp [own_kL]
theorem own_split {x y : Int32} (hx : 0 ≤ x.toInt) (hy : 0 ≤ y.toInt) : x = y ↔ own_wi x = own_wi y ∧ own_k x = own_k y := by
  constructor
  · intro h; subst h; exact ⟨rfl, rfl⟩
  · intro ⟨h1, h2⟩; unfold own_wi at h1; unfold own_k at h2; refine Int32.toInt_inj.mp ?_; omega
theorem own_shr6 (x : Int32) : (x >>> ((6 : Int32) &&& 31)).toInt = x.toInt / 64 := by
  have q := c_ishr x 6 6 (by decide)
  simpa using q
theorem own_wiI {x : Int32} (h : 0 ≤ x.toInt) : ((own_wi x : Nat) : Int) = x.toInt / 64 := by unfold own_wi; omega
def BS (Z : State) (h : Heap) (n0 : Nat) (b wa : Addr) (kw : ClassId) (ws : List Int64) (u : Int32) : Prop :=
  Exa Z h b "java/util/BitSet" ∧ Fld Z h b "java/util/BitSet" "words" "[J" (.ref wa) ∧ Fld Z h b "java/util/BitSet" "wordsInUse" "I" (.int u) ∧ Fld Z h b "java/util/BitSet" "sizeIsSticky" "Z" (.int 0) ∧ OwnKit.Av Z h wa kw .long (ws.map Value.long) ∧
  0 ≤ u.toInt ∧ u.toInt ≤ ws.length ∧ (∀ (i : Nat) (w : Int64), u.toInt ≤ (i : Int) → ws[i]? = some w → w = 0) ∧ n0 ≤ b ∧ n0 ≤ wa ∧ b ≠ wa
theorem BS.ext {Z : State} {h h' : Heap} {n0 : Nat} {b wa : Addr} {kw : ClassId} {ws : List Int64} {u : Int32} (B : BS Z h n0 b wa kw ws u) (E : Ext h h') : BS Z h' n0 b wa kw ws u := by
  obtain ⟨q1, q2, q3, q4, q5, r⟩ := B; exact ⟨q1.ext E, q2.ext E, q3.ext E, q4.ext E, q5.ext E, r⟩
theorem BS.other {Z : State} {h h' : Heap} {n0 : Nat} {b wa a : Addr} {kw : ClassId} {ws : List Int64} {u : Int32} {sl : Nat} {v : Value} (B : BS Z h n0 b wa kw ws u) (W : Wr h h' a sl v) (n1 : b ≠ a) (n2 : wa ≠ a) : BS Z h' n0 b wa kw ws u := by
  obtain ⟨q1, q2, q3, q4, q5, r⟩ := B; exact ⟨q1.wr W, Fld.other W q2 (Or.inl n1), Fld.other W q3 (Or.inl n1), Fld.other W q4 (Or.inl n1), q5.other W n2, r⟩
theorem own_tst0 (x : Int32) : own_tst 0 x = false := by unfold own_tst; show (0#64).getLsbD _ = false; simp
theorem own_hasNot {ws : List Int64} {u x : Int32} (hx : 0 ≤ x.toInt) (h : u.toInt ≤ x.toInt / 64) (hz : ∀ (i : Nat) (w : Int64), u.toInt ≤ (i : Int) → ws[i]? = some w → w = 0) : ¬ own_has ws x := by
  intro ⟨w, q1, q2⟩
  have := hz _ _ (by have := own_wiI hx; omega) q1
  subst this
  rw [own_tst0] at q2; cases q2
theorem own_hasNo {ws : List Int64} {x : Int32} {q : Int64} (hq : ws[own_wi x]? = some q) (h : q &&& ((1 : Int64) <<< (x.toInt64 &&& (63 : Int64))) = 0) : ¬ own_has ws x := by
  intro ⟨w, q1, q2⟩
  cases hq.symm.trans q1
  rw [(own_and _ _).mp h] at q2; cases q2
theorem own_hasYes {ws : List Int64} {x : Int32} {q : Int64} (hq : ws[own_wi x]? = some q) (h : ¬ q &&& ((1 : Int64) <<< (x.toInt64 &&& (63 : Int64))) = 0) : own_has ws x := by
  refine ⟨q, hq, ?_⟩
  rw [own_and] at h; simpa using h
theorem own_hasSet {ws : List Int64} {x y : Int32} {q : Int64} (hx : 0 ≤ x.toInt) (hy : 0 ≤ y.toInt) (hq : ws[own_wi x]? = some q) : own_has (ws.set (own_wi x) (q ||| ((1 : Int64) <<< (x.toInt64 &&& (63 : Int64))))) y ↔ own_has ws y ∨ y = x := by
  have hl := (List.getElem?_eq_some_iff.mp hq).1
  unfold own_has
  rw [own_split hy hx]
  by_cases h : own_wi x = own_wi y
  · rw [← h, List.getElem?_set_self hl]
    constructor
    · rintro ⟨w, e, t⟩
      cases e
      rw [own_or] at t
      rcases Bool.or_eq_true_iff.mp t with t | t
      · exact Or.inl ⟨q, hq, t⟩
      · exact Or.inr ⟨rfl, (of_decide_eq_true t).symm⟩
    · rintro (⟨w, e, t⟩ | ⟨-, t⟩)
      · cases hq.symm.trans e
        exact ⟨_, rfl, by rw [own_or, t]; rfl⟩
      · exact ⟨_, rfl, by rw [own_or]; simp [t]⟩
  · rw [List.getElem?_set_ne h]
    constructor
    · exact Or.inl
    · rintro (t | ⟨t, -⟩)
      · exact t
      · exact absurd t.symm h
theorem own_hasClr {ws : List Int64} {x y : Int32} {q : Int64} (hx : 0 ≤ x.toInt) (hy : 0 ≤ y.toInt) (hq : ws[own_wi x]? = some q) : own_has (ws.set (own_wi x) (q &&& (((1 : Int64) <<< (x.toInt64 &&& (63 : Int64))) ^^^ (-1 : Int64)))) y ↔ own_has ws y ∧ ¬ y = x := by
  have hl := (List.getElem?_eq_some_iff.mp hq).1
  unfold own_has
  rw [own_split hy hx]
  by_cases h : own_wi x = own_wi y
  · rw [← h, List.getElem?_set_self hl]
    constructor
    · rintro ⟨w, e, t⟩
      cases e
      rw [own_clr] at t
      simp only [Bool.and_eq_true, Bool.not_eq_true', decide_eq_false_iff_not] at t
      exact ⟨⟨q, hq, t.1⟩, fun r => t.2 r.2.symm⟩
    · rintro ⟨⟨w, e, t⟩, r⟩
      cases hq.symm.trans e
      exact ⟨_, rfl, by rw [own_clr, t]; simp; exact fun e => r ⟨rfl, e.symm⟩⟩
  · rw [List.getElem?_set_ne h]
    constructor
    · exact fun t => ⟨t, fun r => h r.1.symm⟩
    · exact fun t => t.1
/-- how many slots a growth takes, and how long the array is behind it -/
def own_grow (L k : Nat) : Nat := if L < k then max (2 * L) k else 0
def own_len (L k : Nat) : Nat := if L < k then max (2 * L) k else L
theorem own_lenKeep {L k : Nat} (h : ¬ L < k) : L = own_len L k := by unfold own_len; rw [if_neg h]
theorem own_lenLe {L L' k : Nat} (h : L' = own_len L k) : k ≤ L' ∧ L ≤ L' := by unfold own_len at h; split at h <;> omega
theorem own_pay (L k : Nat) : own_grow L k + 2 * L ≤ 2 * own_len L k := by unfold own_grow own_len; split <;> omega
theorem own_lenB {L k : Nat} (h1 : L ≤ 32768) (h2 : k ≤ 16384) : own_len L k ≤ 32768 := by unfold own_len; split <;> omega
theorem own_lenB2 {L k : Nat} (h1 : L ≤ 2048) (h2 : k ≤ 1024) : own_len L k ≤ 2048 := by unfold own_len; split <;> omega
theorem own_grown {ws : List Int64} {m : Nat} (h : ws.length ≤ m) : List.map Value.long (ws ++ List.replicate (m - ws.length) 0) = List.take (0 : Int).toNat (List.map Value.long (List.replicate m 0)) ++ List.take ws.length (List.drop (0 : Int).toNat (List.map Value.long ws)) ++ List.drop ((0 : Int).toNat + ws.length) (List.map Value.long (List.replicate m 0)) := by
  simp
  rw [List.take_of_length_le (by simp)]
theorem own_zGrown {ws : List Int64} {u : Int32} {m : Nat} (hz : ∀ (i : Nat) (w : Int64), u.toInt ≤ (i : Int) → ws[i]? = some w → w = 0) : ∀ (i : Nat) (w : Int64), u.toInt ≤ (i : Int) → (ws ++ List.replicate m 0)[i]? = some w → w = 0 := by
  intro i w h e
  rcases Nat.lt_or_ge i ws.length with q | q
  · rw [List.getElem?_append_left q] at e; exact hz i w h e
  · rw [List.getElem?_append_right q, List.getElem?_replicate] at e
    split at e
    · exact (Option.some.inj e).symm
    · cases e
theorem own_lenGrown {ws : List Int64} {k : Nat} {n : Int32} (h : ws.length < k) (hn : ws.length ≤ n.toInt.toNat) (e : n.toInt.toNat = own_grow ws.length k) : (ws ++ List.replicate (n.toInt.toNat - ws.length) 0).length = own_len ws.length k := by
  unfold own_grow at e; unfold own_len; rw [if_pos h] at e ⊢; rw [List.length_append, List.length_replicate]; omega
theorem own_hasGrown (ws : List Int64) (m : Nat) (y : Int32) : own_has (ws ++ List.replicate m 0) y ↔ own_has ws y := by
  unfold own_has
  rcases Nat.lt_or_ge (own_wi y) ws.length with q | q
  · rw [List.getElem?_append_left q]
  · rw [List.getElem?_append_right q, List.getElem?_eq_none q]
    constructor
    · rintro ⟨w, e, t⟩
      rw [List.getElem?_replicate] at e
      split at e
      · cases e; rw [own_tst0] at t; cases t
      · cases e
    · rintro ⟨w, e, -⟩; cases e
def QWi (x : Int32) (h0 : Heap) (v : Option Value) (h : Heap) : Prop := ∃ i : Int32, v = some (.int i) ∧ i.toInt = x.toInt / 64 ∧ h0 = h
def QNone (h0 : Heap) (v : Option Value) (h : Heap) : Prop := v = none ∧ h0 = h
def QMax (x y : Int32) (h0 : Heap) (v : Option Value) (h : Heap) : Prop := ∃ i : Int32, v = some (.int i) ∧ i.toInt = max x.toInt y.toInt ∧ h0 = h
def QMin (x y : Int32) (h0 : Heap) (v : Option Value) (h : Heap) : Prop := ∃ i : Int32, v = some (.int i) ∧ i.toInt = min x.toInt y.toInt ∧ h0 = h
def QGet (ws : List Int64) (x : Int32) (h0 : Heap) (v : Option Value) (h : Heap) : Prop := ∃ z : Int32, v = some (.int z) ∧ (own_has ws x ∧ z = 1 ∨ ¬ own_has ws x ∧ z = 0) ∧ h0 = h
def QCp (Z : State) (ws : List Int64) (n : Int32) (h0 : Heap) (v : Option Value) (h : Heap) : Prop := ∃ wb kb, v = some (.ref wb) ∧ Keep h0 h [] ∧ h0.size ≤ wb ∧ OwnKit.Av Z h wb kb .long ((ws ++ List.replicate (n.toInt.toNat - ws.length) 0).map Value.long)
def QEns (Z : State) (n0 : Nat) (b wa : Addr) (ws : List Int64) (u k : Int32) (h0 : Heap) (v : Option Value) (h : Heap) : Prop := ∃ wb kb ws', v = none ∧ BS Z h n0 b wb kb ws' u ∧ Keep h0 h [b] ∧ (wb = wa ∨ h0.size ≤ wb) ∧ ws'.length = own_len ws.length k.toInt.toNat ∧ ∃ m, ws' = ws ++ List.replicate m 0
def QExp (Z : State) (n0 : Nat) (b wa : Addr) (ws : List Int64) (u i : Int32) (h0 : Heap) (v : Option Value) (h : Heap) : Prop := ∃ wb kb ws' u', v = none ∧ BS Z h n0 b wb kb ws' u' ∧ Keep h0 h [b] ∧ (wb = wa ∨ h0.size ≤ wb) ∧ ws'.length = own_len ws.length (i + 1).toInt.toNat ∧ i.toInt < u'.toInt ∧ ∃ m, ws' = ws ++ List.replicate m 0
def QSet (Z : State) (n0 : Nat) (b wa : Addr) (ws : List Int64) (x : Int32) (h0 : Heap) (v : Option Value) (h : Heap) : Prop := ∃ wb kb ws' u', v = none ∧ BS Z h n0 b wb kb ws' u' ∧ Keep h0 h [b, wa] ∧ (wb = wa ∨ h0.size ≤ wb) ∧ ws'.length = own_len ws.length (own_wi x + 1) ∧ ∀ y : Int32, 0 ≤ y.toInt → (own_has ws' y ↔ own_has ws y ∨ y = x)
def QBs0 (Z : State) (n0 : Nat) (b : Addr) (h0 : Heap) (v : Option Value) (h : Heap) : Prop := ∃ wa kw, v = none ∧ BS Z h n0 b wa kw [0] 0 ∧ Keep h0 h [b] ∧ h0.size ≤ wa
def QIw (Z : State) (b : Addr) (h0 : Heap) (v : Option Value) (h : Heap) : Prop := ∃ wa kw, v = none ∧ OwnKit.Av Z h wa kw .long ([0].map Value.long) ∧ Keep h0 h [b] ∧ h0.size ≤ wa ∧ Fld Z h b "java/util/BitSet" "words" "[J" (.ref wa) ∧ Fld Z h b "java/util/BitSet" "wordsInUse" "I" (.int 0) ∧ Fld Z h b "java/util/BitSet" "sizeIsSticky" "Z" (.int 0)
def NS (Z : State) (h : Heap) (n0 : Nat) (ns b ad wa : Addr) (ka kw : ClassId) (ws : List Int64) (u : Int32) (xs tl : List Int32) : Prop :=
  Exa Z h ns "com/example/greasan/greasan/reasoner/NodeSet" ∧ Fld Z h ns "com/example/greasan/greasan/reasoner/NodeSet" "held" "Ljava/util/BitSet;" (.ref b) ∧ Fld Z h ns "com/example/greasan/greasan/reasoner/NodeSet" "added" "[I" (.ref ad) ∧ Fld Z h ns "com/example/greasan/greasan/reasoner/NodeSet" "size" "I" (.int (Int32.ofNat xs.length)) ∧
  OwnKit.Av Z h ad ka .int ((xs ++ tl).map Value.int) ∧ BS Z h n0 b wa kw ws u ∧ (∀ y : Int32, 0 ≤ y.toInt → (own_has ws y ↔ y ∈ xs)) ∧ (∀ y ∈ xs, 0 ≤ y.toInt ∧ y.toInt < 1048576) ∧ xs.length + tl.length = 16 ∧ n0 ≤ ns ∧ n0 ≤ ad ∧ ns ≠ b ∧ ns ≠ ad ∧ ns ≠ wa ∧ ad ≠ b ∧ ad ≠ wa
/-- a NodeSet that holds just xs, in this order; its bits lie in an array of L longs -/
def NSE (Z : State) (h : Heap) (n0 : Nat) (ns : Addr) (xs : List Int32) (L : Nat) : Prop := ∃ b ad wa ka kw ws u tl, NS Z h n0 ns b ad wa ka kw ws u xs tl ∧ ws.length = L
theorem NSE.ext {Z : State} {h h' : Heap} {n0 : Nat} {ns : Addr} {xs : List Int32} {L : Nat} (N : NSE Z h n0 ns xs L) (E : Ext h h') : NSE Z h' n0 ns xs L := by
  obtain ⟨b, ad, wa, ka, kw, ws, u, tl, ⟨q1, q2, q3, q4, q5, q6, r⟩, hl⟩ := N
  exact ⟨b, ad, wa, ka, kw, ws, u, tl, ⟨q1.ext E, q2.ext E, q3.ext E, q4.ext E, q5.ext E, q6.ext E, r⟩, hl⟩
def own_add (xs : List Int32) (x : Int32) : List Int32 := if x ∈ xs then xs else xs ++ [x]
def QAdd (Z : State) (n0 : Nat) (ns : Addr) (xs : List Int32) (L : Nat) (x : Int32) (v : Option Value) (h : Heap) : Prop := ∃ z : Int32, v = some (.int z) ∧ NSE Z h n0 ns (own_add xs x) (own_len L (own_wi x + 1)) ∧ (x ∈ xs ∧ z = 0 ∨ ¬ x ∈ xs ∧ z = 1)
theorem own_wiB {x : Int32} (h0 : 0 ≤ x.toInt) (h1 : x.toInt < 1048576) : own_wi x + 1 ≤ 16384 := by unfold own_wi; omega
theorem own_wiB2 {x : Int32} (h0 : 0 ≤ x.toInt) (h1 : x.toInt < 65536) : own_wi x + 1 ≤ 1024 := by unfold own_wi; omega
theorem own_hasLen {ws : List Int64} {x : Int32} (h : own_has ws x) : own_wi x < ws.length := by obtain ⟨w, e, -⟩ := h; exact (List.getElem?_eq_some_iff.mp e).1
theorem own_zSet {ws : List Int64} {u : Int32} {j : Nat} {q : Int64} (hj : (j : Int) < u.toInt) (hz : ∀ (i : Nat) (w : Int64), u.toInt ≤ (i : Int) → ws[i]? = some w → w = 0) : ∀ (i : Nat) (w : Int64), u.toInt ≤ (i : Int) → (ws.set j q)[i]? = some w → w = 0 := by
  intro i w h e
  rw [List.getElem?_set_ne (by omega)] at e
  exact hz i w h e
theorem own_z1 : ∀ (i : Nat) (w : Int64), (0 : Int32).toInt ≤ (i : Int) → ([0] : List Int64)[i]? = some w → w = 0 := by
  intro i w _ e
  cases i with
  | zero => exact (Option.some.inj e).symm
  | succ n => simp at e
theorem own_none : ∀ y : Int32, 0 ≤ y.toInt → (own_has [0] y ↔ y ∈ ([] : List Int32)) := by
  intro y _
  constructor
  · rintro ⟨w, e, t⟩
    have := own_z1 _ _ (by show (0 : Int) ≤ _; omega) e
    subst this; rw [own_tst0] at t; cases t
  · intro h; cases h
def QNs0 (Z : State) (n0 : Nat) (ns : Addr) (v : Option Value) (h : Heap) : Prop := v = none ∧ NSE Z h n0 ns [] 1
theorem own_setAt {xs tl : List Int32} {x t : Int32} : ((xs ++ t :: tl).map Value.int).set xs.length (.int x) = ((xs ++ [x]) ++ tl).map Value.int := by
  rw [← List.map_set]
  congr 1
  rw [List.set_append_right _ _ (Nat.le_refl _)]
  simp
theorem own_lenApp (xs : List Int32) (x : Int32) : Int32.ofNat (xs ++ [x]).length = Int32.ofNat xs.length + 1 := by
  simp [Int32.ofNat_add]
theorem own_memApp {ws ws2 : List Int64} {xs : List Int32} {x : Int32} (h : ∀ y : Int32, 0 ≤ y.toInt → (own_has ws y ↔ y ∈ xs)) (h2 : ∀ y : Int32, 0 ≤ y.toInt → (own_has ws2 y ↔ own_has ws y ∨ y = x)) : ∀ y : Int32, 0 ≤ y.toInt → (own_has ws2 y ↔ y ∈ xs ++ [x]) := fun y hy => by
  rw [h2 y hy, h y hy]; simp
theorem own_rngApp {xs : List Int32} {x : Int32} (h : ∀ y ∈ xs, 0 ≤ y.toInt ∧ y.toInt < 1048576) (h0 : 0 ≤ x.toInt) (h1 : x.toInt < 1048576) : ∀ y ∈ xs ++ [x], 0 ≤ y.toInt ∧ y.toInt < 1048576 := fun y hy => by
  rcases List.mem_append.mp hy with q | q
  · exact h y q
  · cases List.mem_singleton.mp q; exact ⟨h0, h1⟩

theorem d_jdk_92m1_0 : decode jdk_92_method_1_code 0 = .ok (.iload_n 0, 1) := by decide +kernel
theorem d_jdk_92m1_1 : decode jdk_92_method_1_code 1 = .ok (.bipush 6, 2) := by decide +kernel
theorem d_jdk_92m1_3 : decode jdk_92_method_1_code 3 = .ok (.ishr, 1) := by decide +kernel
theorem d_jdk_92m1_4 : decode jdk_92_method_1_code 4 = .ok (.ireturn, 1) := by decide +kernel
set_option maxRecDepth 65536 in
set_option maxHeartbeats 40000000 in
theorem c_wi (l : Launch) (Z : State) (a0 : Array Value) (hw : ∀ d ∈ tables_1, d.before a0 Z = true) (n0 : Nat) (h0 : Heap) (x : Int32)  :
    OwnKit.Con false l Z n0 (⟨"java/util/BitSet", "wordIndex", "(I)I"⟩ : MethodName) jdk_92_method_1_code 1 (some .int) ({ frames := 0, cells := 0, slots := 0, locals := 0 } : Room) #[.int x] h0 (QWi x h0) := by
  refine OwnKit.Con.of (by first | (refine plainFor_of_name ?_; simp [plainName, overriddenIn]; done) | decide +kernel) ?_ ?_
  · intro κ hwd K0
    have K : OwnKit.Ok κ l Z n0 "java/util/BitSet" "wordIndex" jdk_92_method_1_code 1 (some .int) ({ frames := 0, cells := 0, slots := 0, locals := 0 } : Room) (QWi x h0) := K0
    have ef : (entryFrame κ.m #[.int x] 1).locals = #[.val (.int x)] := by first | (simp [entryFrame, argsToLocals, Value.category]; done) | rfl
    rw [ef]; clear ef K0
    show OwnKit.Go κ h0 0 0 0 #[.val (.int x)] []
    refine OwnKit.iloadN K d_jdk_92m1_0 rfl ?_
    show OwnKit.Go κ h0 0 0 1 #[.val (.int x)] [.int x]
    refine OwnKit.bipush K d_jdk_92m1_1 ?_
    show OwnKit.Go κ h0 0 0 3 #[.val (.int x)] [.int (6 : Int32), .int x]
    refine OwnKit.ishr K d_jdk_92m1_3 ?_
    show OwnKit.Go κ h0 0 0 4 #[.val (.int x)] [.int (x >>> ((6 : Int32) &&& 31))]
    refine OwnKit.ireturn K d_jdk_92m1_4 (Or.inl rfl) rfl ?_ (Nat.le_of_ble_eq_true rfl) (Nat.le_of_ble_eq_true rfl)
    exact ⟨_, rfl, own_shr6 x, rfl⟩
  · intro m; first | rfl | (simp [entryFrame, mkF, argsToLocals, Value.category]; done)

theorem d_jdk_92m2_0 : decode jdk_92_method_2_code 0 = .ok (.getstatic 3, 3) := by decide +kernel
theorem d_jdk_92m2_3 : decode jdk_92_method_2_code 3 = .ok (.ifCond .ne 34, 3) := by decide +kernel
theorem d_jdk_92m2_37 : decode jdk_92_method_2_code 37 = .ok (.getstatic 3, 3) := by decide +kernel
theorem d_jdk_92m2_40 : decode jdk_92_method_2_code 40 = .ok (.ifCond .ne 30, 3) := by decide +kernel
theorem d_jdk_92m2_70 : decode jdk_92_method_2_code 70 = .ok (.getstatic 3, 3) := by decide +kernel
theorem d_jdk_92m2_73 : decode jdk_92_method_2_code 73 = .ok (.ifCond .ne 37, 3) := by decide +kernel
theorem d_jdk_92m2_110 : decode jdk_92_method_2_code 110 = .ok (.return_, 1) := by decide +kernel
set_option maxRecDepth 65536 in
set_option maxHeartbeats 40000000 in
theorem c_chk (l : Launch) (Z : State) (a0 : Array Value) (hw : ∀ d ∈ tables_1, d.before a0 Z = true) (n0 : Nat) (h0 : Heap) (b : Addr)  (S__assertionsDisabled : Sta Z Z.heap "java/util/BitSet" "$assertionsDisabled" "Z" (.int (1 : Int32))) :
    OwnKit.Con false l Z n0 (⟨"java/util/BitSet", "checkInvariants", "()V"⟩ : MethodName) jdk_92_method_2_code 1 none ({ frames := 0, cells := 0, slots := 0, locals := 0 } : Room) #[.ref b] h0 (QNone h0) := by
  refine OwnKit.Con.of (by first | (refine plainFor_of_name ?_; simp [plainName, overriddenIn]; done) | decide +kernel) ?_ ?_
  · intro κ hwd K0
    have K : OwnKit.Ok κ l Z n0 "java/util/BitSet" "checkInvariants" jdk_92_method_2_code 1 none ({ frames := 0, cells := 0, slots := 0, locals := 0 } : Room) (QNone h0) := K0
    have ef : (entryFrame κ.m #[.ref b] 1).locals = #[.val (.ref b)] := by first | (simp [entryFrame, argsToLocals, Value.category]; done) | rfl
    rw [ef]; clear ef K0
    show OwnKit.Go κ h0 0 0 0 #[.val (.ref b)] []
    refine OwnKit.getstaticZ K d_jdk_92m2_0 (host := "") (Or.inl (hw _ (List.mem_of_getElem? (i := 64) rfl))) Via.refl S__assertionsDisabled ?_
    show OwnKit.Go κ h0 0 0 3 #[.val (.ref b)] [.int (1 : Int32)]
    refine OwnKit.ifne K d_jdk_92m2_3 (by decide) (pc' := 37) rfl  (fun b1 => ?_) (fun b1 => ?_)
    · show OwnKit.Go κ h0 0 0 37 #[.val (.ref b)] []
      refine OwnKit.getstaticZ K d_jdk_92m2_37 (host := "") (Or.inl (hw _ (List.mem_of_getElem? (i := 64) rfl))) Via.refl S__assertionsDisabled ?_
      show OwnKit.Go κ h0 0 0 40 #[.val (.ref b)] [.int (1 : Int32)]
      refine OwnKit.ifne K d_jdk_92m2_40 (by decide) (pc' := 70) rfl  (fun b2 => ?_) (fun b2 => ?_)
      · show OwnKit.Go κ h0 0 0 70 #[.val (.ref b)] []
        refine OwnKit.getstaticZ K d_jdk_92m2_70 (host := "") (Or.inl (hw _ (List.mem_of_getElem? (i := 64) rfl))) Via.refl S__assertionsDisabled ?_
        show OwnKit.Go κ h0 0 0 73 #[.val (.ref b)] [.int (1 : Int32)]
        refine OwnKit.ifne K d_jdk_92m2_73 (by decide) (pc' := 110) rfl  (fun b3 => ?_) (fun b3 => ?_)
        · show OwnKit.Go κ h0 0 0 110 #[.val (.ref b)] []
          refine OwnKit.return0 K d_jdk_92m2_110  ?_ (Nat.le_of_ble_eq_true rfl) (Nat.le_of_ble_eq_true rfl)
          exact ⟨rfl, rfl⟩
        · exact absurd b3 (by decide)
      · exact absurd b2 (by decide)
    · exact absurd b1 (by decide)
  · intro m; first | rfl | (simp [entryFrame, mkF, argsToLocals, Value.category]; done)

theorem d_jdk_29m65_0 : decode jdk_29_method_65_code 0 = .ok (.iload_n 0, 1) := by decide +kernel
theorem d_jdk_29m65_1 : decode jdk_29_method_65_code 1 = .ok (.iload_n 1, 1) := by decide +kernel
theorem d_jdk_29m65_2 : decode jdk_29_method_65_code 2 = .ok (.if_icmp .lt 7, 3) := by decide +kernel
theorem d_jdk_29m65_5 : decode jdk_29_method_65_code 5 = .ok (.iload_n 0, 1) := by decide +kernel
theorem d_jdk_29m65_6 : decode jdk_29_method_65_code 6 = .ok (.goto 4, 3) := by decide +kernel
theorem d_jdk_29m65_9 : decode jdk_29_method_65_code 9 = .ok (.iload_n 1, 1) := by decide +kernel
theorem d_jdk_29m65_10 : decode jdk_29_method_65_code 10 = .ok (.ireturn, 1) := by decide +kernel
set_option maxRecDepth 65536 in
set_option maxHeartbeats 40000000 in
theorem c_max (l : Launch) (Z : State) (a0 : Array Value) (hw : ∀ d ∈ tables_1, d.before a0 Z = true) (n0 : Nat) (h0 : Heap) (x y : Int32)  :
    OwnKit.Con false l Z n0 (⟨"java/lang/Math", "max", "(II)I"⟩ : MethodName) jdk_29_method_65_code 2 (some .int) ({ frames := 0, cells := 0, slots := 0, locals := 0 } : Room) #[.int x, .int y] h0 (QMax x y h0) := by
  refine OwnKit.Con.of (by first | (refine plainFor_of_name ?_; simp [plainName, overriddenIn]; done) | decide +kernel) ?_ ?_
  · intro κ hwd K0
    have K : OwnKit.Ok κ l Z n0 "java/lang/Math" "max" jdk_29_method_65_code 2 (some .int) ({ frames := 0, cells := 0, slots := 0, locals := 0 } : Room) (QMax x y h0) := K0
    have ef : (entryFrame κ.m #[.int x, .int y] 2).locals = #[.val (.int x), .val (.int y)] := by first | (simp [entryFrame, argsToLocals, Value.category]; done) | rfl
    rw [ef]; clear ef K0
    show OwnKit.Go κ h0 0 0 0 #[.val (.int x), .val (.int y)] []
    refine OwnKit.iloadN K d_jdk_29m65_0 rfl ?_
    show OwnKit.Go κ h0 0 0 1 #[.val (.int x), .val (.int y)] [.int x]
    refine OwnKit.iloadN K d_jdk_29m65_1 rfl ?_
    show OwnKit.Go κ h0 0 0 2 #[.val (.int x), .val (.int y)] [.int y, .int x]
    refine OwnKit.icmplt K d_jdk_29m65_2 (by decide) (pc' := 9) rfl  (fun b1 => ?_) (fun b1 => ?_)
    · show OwnKit.Go κ h0 0 0 9 #[.val (.int x), .val (.int y)] []
      refine OwnKit.iloadN K d_jdk_29m65_9 rfl ?_
      show OwnKit.Go κ h0 0 0 10 #[.val (.int x), .val (.int y)] [.int y]
      refine OwnKit.ireturn K d_jdk_29m65_10 (Or.inl rfl) rfl ?_ (Nat.le_of_ble_eq_true rfl) (Nat.le_of_ble_eq_true rfl)
      exact ⟨_, rfl, by omega, rfl⟩
    · show OwnKit.Go κ h0 0 0 5 #[.val (.int x), .val (.int y)] []
      refine OwnKit.iloadN K d_jdk_29m65_5 rfl ?_
      show OwnKit.Go κ h0 0 0 6 #[.val (.int x), .val (.int y)] [.int x]
      refine OwnKit.goto K d_jdk_29m65_6 (by decide) (pc' := 10) rfl ?_
      show OwnKit.Go κ h0 0 0 10 #[.val (.int x), .val (.int y)] [.int x]
      refine OwnKit.ireturn K d_jdk_29m65_10 (Or.inl rfl) rfl ?_ (Nat.le_of_ble_eq_true rfl) (Nat.le_of_ble_eq_true rfl)
      exact ⟨_, rfl, by omega, rfl⟩
  · intro m; first | rfl | (simp [entryFrame, mkF, argsToLocals, Value.category]; done)

theorem d_jdk_29m69_0 : decode jdk_29_method_69_code 0 = .ok (.iload_n 0, 1) := by decide +kernel
theorem d_jdk_29m69_1 : decode jdk_29_method_69_code 1 = .ok (.iload_n 1, 1) := by decide +kernel
theorem d_jdk_29m69_2 : decode jdk_29_method_69_code 2 = .ok (.if_icmp .gt 7, 3) := by decide +kernel
theorem d_jdk_29m69_5 : decode jdk_29_method_69_code 5 = .ok (.iload_n 0, 1) := by decide +kernel
theorem d_jdk_29m69_6 : decode jdk_29_method_69_code 6 = .ok (.goto 4, 3) := by decide +kernel
theorem d_jdk_29m69_9 : decode jdk_29_method_69_code 9 = .ok (.iload_n 1, 1) := by decide +kernel
theorem d_jdk_29m69_10 : decode jdk_29_method_69_code 10 = .ok (.ireturn, 1) := by decide +kernel
set_option maxRecDepth 65536 in
set_option maxHeartbeats 40000000 in
theorem c_min (l : Launch) (Z : State) (a0 : Array Value) (hw : ∀ d ∈ tables_1, d.before a0 Z = true) (n0 : Nat) (h0 : Heap) (x y : Int32)  :
    OwnKit.Con false l Z n0 (⟨"java/lang/Math", "min", "(II)I"⟩ : MethodName) jdk_29_method_69_code 2 (some .int) ({ frames := 0, cells := 0, slots := 0, locals := 0 } : Room) #[.int x, .int y] h0 (QMin x y h0) := by
  refine OwnKit.Con.of (by first | (refine plainFor_of_name ?_; simp [plainName, overriddenIn]; done) | decide +kernel) ?_ ?_
  · intro κ hwd K0
    have K : OwnKit.Ok κ l Z n0 "java/lang/Math" "min" jdk_29_method_69_code 2 (some .int) ({ frames := 0, cells := 0, slots := 0, locals := 0 } : Room) (QMin x y h0) := K0
    have ef : (entryFrame κ.m #[.int x, .int y] 2).locals = #[.val (.int x), .val (.int y)] := by first | (simp [entryFrame, argsToLocals, Value.category]; done) | rfl
    rw [ef]; clear ef K0
    show OwnKit.Go κ h0 0 0 0 #[.val (.int x), .val (.int y)] []
    refine OwnKit.iloadN K d_jdk_29m69_0 rfl ?_
    show OwnKit.Go κ h0 0 0 1 #[.val (.int x), .val (.int y)] [.int x]
    refine OwnKit.iloadN K d_jdk_29m69_1 rfl ?_
    show OwnKit.Go κ h0 0 0 2 #[.val (.int x), .val (.int y)] [.int y, .int x]
    refine OwnKit.icmpgt K d_jdk_29m69_2 (by decide) (pc' := 9) rfl  (fun b1 => ?_) (fun b1 => ?_)
    · show OwnKit.Go κ h0 0 0 9 #[.val (.int x), .val (.int y)] []
      refine OwnKit.iloadN K d_jdk_29m69_9 rfl ?_
      show OwnKit.Go κ h0 0 0 10 #[.val (.int x), .val (.int y)] [.int y]
      refine OwnKit.ireturn K d_jdk_29m69_10 (Or.inl rfl) rfl ?_ (Nat.le_of_ble_eq_true rfl) (Nat.le_of_ble_eq_true rfl)
      exact ⟨_, rfl, by omega, rfl⟩
    · show OwnKit.Go κ h0 0 0 5 #[.val (.int x), .val (.int y)] []
      refine OwnKit.iloadN K d_jdk_29m69_5 rfl ?_
      show OwnKit.Go κ h0 0 0 6 #[.val (.int x), .val (.int y)] [.int x]
      refine OwnKit.goto K d_jdk_29m69_6 (by decide) (pc' := 10) rfl ?_
      show OwnKit.Go κ h0 0 0 10 #[.val (.int x), .val (.int y)] [.int x]
      refine OwnKit.ireturn K d_jdk_29m69_10 (Or.inl rfl) rfl ?_ (Nat.le_of_ble_eq_true rfl) (Nat.le_of_ble_eq_true rfl)
      exact ⟨_, rfl, by omega, rfl⟩
  · intro m; first | rfl | (simp [entryFrame, mkF, argsToLocals, Value.category]; done)

theorem d_jdk_92m26_0 : decode jdk_92_method_26_code 0 = .ok (.iload_n 1, 1) := by decide +kernel
theorem d_jdk_92m26_1 : decode jdk_92_method_26_code 1 = .ok (.ifCond .ge 30, 3) := by decide +kernel
theorem d_jdk_92m26_31 : decode jdk_92_method_26_code 31 = .ok (.aload_n 0, 1) := by decide +kernel
theorem d_jdk_92m26_32 : decode jdk_92_method_26_code 32 = .ok (.invokevirtual 56, 3) := by decide +kernel
theorem d_jdk_92m26_35 : decode jdk_92_method_26_code 35 = .ok (.iload_n 1, 1) := by decide +kernel
theorem d_jdk_92m26_36 : decode jdk_92_method_26_code 36 = .ok (.invokestatic 52, 3) := by decide +kernel
theorem d_jdk_92m26_39 : decode jdk_92_method_26_code 39 = .ok (.istore_n 2, 1) := by decide +kernel
theorem d_jdk_92m26_40 : decode jdk_92_method_26_code 40 = .ok (.iload_n 2, 1) := by decide +kernel
theorem d_jdk_92m26_41 : decode jdk_92_method_26_code 41 = .ok (.aload_n 0, 1) := by decide +kernel
theorem d_jdk_92m26_42 : decode jdk_92_method_26_code 42 = .ok (.getfield 7, 3) := by decide +kernel
theorem d_jdk_92m26_45 : decode jdk_92_method_26_code 45 = .ok (.if_icmp .ge 22, 3) := by decide +kernel
theorem d_jdk_92m26_48 : decode jdk_92_method_26_code 48 = .ok (.aload_n 0, 1) := by decide +kernel
theorem d_jdk_92m26_49 : decode jdk_92_method_26_code 49 = .ok (.getfield 11, 3) := by decide +kernel
theorem d_jdk_92m26_52 : decode jdk_92_method_26_code 52 = .ok (.iload_n 2, 1) := by decide +kernel
theorem d_jdk_92m26_53 : decode jdk_92_method_26_code 53 = .ok (.laload, 1) := by decide +kernel
theorem d_jdk_92m26_54 : decode jdk_92_method_26_code 54 = .ok (.lconst 1, 1) := by decide +kernel
theorem d_jdk_92m26_55 : decode jdk_92_method_26_code 55 = .ok (.iload_n 1, 1) := by decide +kernel
theorem d_jdk_92m26_56 : decode jdk_92_method_26_code 56 = .ok (.lshl, 1) := by decide +kernel
theorem d_jdk_92m26_57 : decode jdk_92_method_26_code 57 = .ok (.land, 1) := by decide +kernel
theorem d_jdk_92m26_58 : decode jdk_92_method_26_code 58 = .ok (.lconst 0, 1) := by decide +kernel
theorem d_jdk_92m26_59 : decode jdk_92_method_26_code 59 = .ok (.lcmp, 1) := by decide +kernel
theorem d_jdk_92m26_60 : decode jdk_92_method_26_code 60 = .ok (.ifCond .eq 7, 3) := by decide +kernel
theorem d_jdk_92m26_63 : decode jdk_92_method_26_code 63 = .ok (.iconst 1, 1) := by decide +kernel
theorem d_jdk_92m26_64 : decode jdk_92_method_26_code 64 = .ok (.goto 4, 3) := by decide +kernel
theorem d_jdk_92m26_67 : decode jdk_92_method_26_code 67 = .ok (.iconst 0, 1) := by decide +kernel
theorem d_jdk_92m26_68 : decode jdk_92_method_26_code 68 = .ok (.ireturn, 1) := by decide +kernel
set_option maxRecDepth 65536 in
set_option maxHeartbeats 40000000 in
theorem c_get (l : Launch) (Z : State) (a0 : Array Value) (hw : ∀ d ∈ tables_1, d.before a0 Z = true) (n0 : Nat) (h0 : Heap) (b wa : Addr) (kw : ClassId) (ws : List Int64) (u x : Int32)  (hx : 0 ≤ x.toInt) (B0 : BS Z h0 n0 b wa kw ws u) (S__assertionsDisabled : Sta Z Z.heap "java/util/BitSet" "$assertionsDisabled" "Z" (.int (1 : Int32))) :
    OwnKit.Con false l Z n0 (⟨"java/util/BitSet", "get", "(I)Z"⟩ : MethodName) jdk_92_method_26_code 3 (some .boolean) ({ frames := 1, cells := 0, slots := 0, locals := 12 } : Room) #[.ref b, .int x] h0 (QGet ws x h0) := by
  refine OwnKit.Con.of (by first | (refine plainFor_of_name ?_; simp [plainName, overriddenIn]; done) | decide +kernel) ?_ ?_
  · intro κ hwd K0
    have K : OwnKit.Ok κ l Z n0 "java/util/BitSet" "get" jdk_92_method_26_code 3 (some .boolean) ({ frames := 1, cells := 0, slots := 0, locals := 12 } : Room) (QGet ws x h0) := K0
    have ef : (entryFrame κ.m #[.ref b, .int x] 3).locals = #[.val (.ref b), .val (.int x), .unset] := by first | (simp [entryFrame, argsToLocals, Value.category]; done) | rfl
    rw [ef]; clear ef K0
    obtain ⟨E_b, F_w, F_u, F_s, A_w, hu0, hul, hz, G_b, G_w, nbw⟩ := B0
    show OwnKit.Go κ h0 0 0 0 #[.val (.ref b), .val (.int x), .unset] []
    refine OwnKit.iloadN K d_jdk_92m26_0 rfl ?_
    show OwnKit.Go κ h0 0 0 1 #[.val (.ref b), .val (.int x), .unset] [.int x]
    refine OwnKit.ifge K d_jdk_92m26_1 (by decide) (pc' := 31) rfl  (fun b1 => ?_) (fun b1 => ?_)
    · show OwnKit.Go κ h0 0 0 31 #[.val (.ref b), .val (.int x), .unset] []
      refine OwnKit.aloadN K d_jdk_92m26_31 rfl rfl ?_
      show OwnKit.Go κ h0 0 0 32 #[.val (.ref b), .val (.int x), .unset] [.ref b]
      refine OwnKit.invP (y := (⟨"java/util/BitSet", "checkInvariants", "()V"⟩ : MethodName)) (argsL := []) (rest := []) K (c_chk l Z a0 hw n0 h0 b  S__assertionsDisabled) d_jdk_92m26_32 E_b (hw _ (List.mem_of_getElem? (i := 59) rfl)) (hw _ (List.mem_of_getElem? (i := 60) rfl)) (hw _ (List.mem_of_getElem? (i := 62) rfl)) (hw _ (List.mem_of_getElem? (i := 61) rfl)) (hw _ (List.mem_of_getElem? (i := 63) rfl)) (hw _ (List.mem_of_getElem? (i := 12) rfl)) (by decide) (lenOf (by decide +kernel : parseMethodDescriptor "()V" = some ⟨[], none⟩) rfl) rfl rfl (W := 0) (Nat.le_of_ble_eq_true rfl) (Nat.le_of_ble_eq_true rfl) (Nat.le_of_ble_eq_true rfl) (Nat.le_of_ble_eq_true rfl) (Nat.le_of_ble_eq_true rfl) ?_
      rintro _ h2 ⟨rfl, rfl⟩ g3
      show OwnKit.Go κ h0 0 0 35 #[.val (.ref b), .val (.int x), .unset] []
      refine OwnKit.iloadN K d_jdk_92m26_35 rfl ?_
      show OwnKit.Go κ h0 0 0 36 #[.val (.ref b), .val (.int x), .unset] [.int x]
      refine OwnKit.invS (y := (⟨"java/util/BitSet", "wordIndex", "(I)I"⟩ : MethodName)) (argsL := [.int x]) (rest := []) K (c_wi l Z a0 hw n0 h0 x) d_jdk_92m26_36 (hw _ (List.mem_of_getElem? (i := 26) rfl)) (hw _ (List.mem_of_getElem? (i := 27) rfl)) (hw _ (List.mem_of_getElem? (i := 12) rfl)) (hw _ (List.mem_of_getElem? (i := 28) rfl)) (by decide) (lenOf (by decide +kernel : parseMethodDescriptor "(I)I" = some ⟨[.int], some .int⟩) rfl) rfl rfl (W := 0) (Nat.le_of_ble_eq_true rfl) (Nat.le_of_ble_eq_true rfl) (Nat.le_of_ble_eq_true rfl) (Nat.le_of_ble_eq_true rfl) (Nat.le_of_ble_eq_true rfl) ?_
      rintro _ h4 ⟨i, rfl, hi, rfl⟩ g5
      show OwnKit.Go κ h0 0 0 39 #[.val (.ref b), .val (.int x), .unset] [.int i]
      refine OwnKit.istoreN K d_jdk_92m26_39 (l' := #[.val (.ref b), .val (.int x), .val (.int i)]) rfl ?_
      show OwnKit.Go κ h0 0 0 40 #[.val (.ref b), .val (.int x), .val (.int i)] []
      refine OwnKit.iloadN K d_jdk_92m26_40 rfl ?_
      show OwnKit.Go κ h0 0 0 41 #[.val (.ref b), .val (.int x), .val (.int i)] [.int i]
      refine OwnKit.aloadN K d_jdk_92m26_41 rfl rfl ?_
      show OwnKit.Go κ h0 0 0 42 #[.val (.ref b), .val (.int x), .val (.int i)] [.ref b, .int i]
      refine OwnKit.getfield K d_jdk_92m26_42 (host := "") (Or.inl (hw _ (List.mem_of_getElem? (i := 17) rfl))) Via.refl F_u ?_
      show OwnKit.Go κ h0 0 0 45 #[.val (.ref b), .val (.int x), .val (.int i)] [.int u, .int i]
      refine OwnKit.icmpge K d_jdk_92m26_45 (by decide) (pc' := 67) rfl  (fun b6 => ?_) (fun b6 => ?_)
      · show OwnKit.Go κ h0 0 0 67 #[.val (.ref b), .val (.int x), .val (.int i)] []
        refine OwnKit.iconst K d_jdk_92m26_67 ?_
        show OwnKit.Go κ h0 0 0 68 #[.val (.ref b), .val (.int x), .val (.int i)] [.int (0 : Int32)]
        refine OwnKit.ireturn K d_jdk_92m26_68 (Or.inr (Or.inl rfl)) rfl ?_ (Nat.le_of_ble_eq_true rfl) (Nat.le_of_ble_eq_true rfl)
        exact ⟨_, rfl, Or.inr ⟨own_hasNot hx (by omega) hz, rfl⟩, rfl⟩
      · show OwnKit.Go κ h0 0 0 48 #[.val (.ref b), .val (.int x), .val (.int i)] []
        refine OwnKit.aloadN K d_jdk_92m26_48 rfl rfl ?_
        show OwnKit.Go κ h0 0 0 49 #[.val (.ref b), .val (.int x), .val (.int i)] [.ref b]
        refine OwnKit.getfield K d_jdk_92m26_49 (host := "") (Or.inl (hw _ (List.mem_of_getElem? (i := 30) rfl))) Via.refl F_w ?_
        show OwnKit.Go κ h0 0 0 52 #[.val (.ref b), .val (.int x), .val (.int i)] [.ref wa]
        refine OwnKit.iloadN K d_jdk_92m26_52 rfl ?_
        show OwnKit.Go κ h0 0 0 53 #[.val (.ref b), .val (.int x), .val (.int i)] [.int i, .ref wa]
        obtain ⟨q, hq⟩ : ∃ q, ws[own_wi x]? = some q := ⟨_, List.getElem?_eq_getElem (by have := own_wiI hx; omega)⟩
        refine OwnKit.laloadV K d_jdk_92m26_53 (v := .long q) A_w (by omega) (by rw [hi]; show (ws.map Value.long)[own_wi x]? = _; simp [hq]) ?_
        show OwnKit.Go κ h0 0 0 54 #[.val (.ref b), .val (.int x), .val (.int i)] [.long q]
        refine OwnKit.lconst K d_jdk_92m26_54 ?_
        show OwnKit.Go κ h0 0 0 55 #[.val (.ref b), .val (.int x), .val (.int i)] [.long (1 : Int64), .long q]
        refine OwnKit.iloadN K d_jdk_92m26_55 rfl ?_
        show OwnKit.Go κ h0 0 0 56 #[.val (.ref b), .val (.int x), .val (.int i)] [.int x, .long (1 : Int64), .long q]
        refine OwnKit.lshl K d_jdk_92m26_56 ?_
        show OwnKit.Go κ h0 0 0 57 #[.val (.ref b), .val (.int x), .val (.int i)] [.long ((1 : Int64) <<< (x.toInt64 &&& 63)), .long q]
        refine OwnKit.land K d_jdk_92m26_57 ?_
        show OwnKit.Go κ h0 0 0 58 #[.val (.ref b), .val (.int x), .val (.int i)] [.long (q &&& ((1 : Int64) <<< (x.toInt64 &&& 63)))]
        refine OwnKit.lconst K d_jdk_92m26_58 ?_
        show OwnKit.Go κ h0 0 0 59 #[.val (.ref b), .val (.int x), .val (.int i)] [.long (0 : Int64), .long (q &&& ((1 : Int64) <<< (x.toInt64 &&& 63)))]
        refine OwnKit.lcmp K d_jdk_92m26_59 ?_
        show OwnKit.Go κ h0 0 0 60 #[.val (.ref b), .val (.int x), .val (.int i)] [.int (XT.cmpL (q &&& ((1 : Int64) <<< (x.toInt64 &&& 63))) (0 : Int64))]
        refine OwnKit.ifeq K d_jdk_92m26_60 (by decide) (pc' := 67) rfl  (fun b7 => ?_) (fun b7 => ?_)
        · show OwnKit.Go κ h0 0 0 67 #[.val (.ref b), .val (.int x), .val (.int i)] []
          refine OwnKit.iconst K d_jdk_92m26_67 ?_
          show OwnKit.Go κ h0 0 0 68 #[.val (.ref b), .val (.int x), .val (.int i)] [.int (0 : Int32)]
          refine OwnKit.ireturn K d_jdk_92m26_68 (Or.inr (Or.inl rfl)) rfl ?_ (Nat.le_of_ble_eq_true rfl) (Nat.le_of_ble_eq_true rfl)
          exact ⟨_, rfl, Or.inr ⟨own_hasNo hq (by rw [OwnKit.cmp_eq] at b7; exact b7), rfl⟩, rfl⟩
        · show OwnKit.Go κ h0 0 0 63 #[.val (.ref b), .val (.int x), .val (.int i)] []
          refine OwnKit.iconst K d_jdk_92m26_63 ?_
          show OwnKit.Go κ h0 0 0 64 #[.val (.ref b), .val (.int x), .val (.int i)] [.int (1 : Int32)]
          refine OwnKit.goto K d_jdk_92m26_64 (by decide) (pc' := 68) rfl ?_
          show OwnKit.Go κ h0 0 0 68 #[.val (.ref b), .val (.int x), .val (.int i)] [.int (1 : Int32)]
          refine OwnKit.ireturn K d_jdk_92m26_68 (Or.inr (Or.inl rfl)) rfl ?_ (Nat.le_of_ble_eq_true rfl) (Nat.le_of_ble_eq_true rfl)
          exact ⟨_, rfl, Or.inl ⟨own_hasYes hq (by rw [OwnKit.cmp_eq] at b7; exact b7), rfl⟩, rfl⟩
    · exfalso; omega
  · intro m; first | rfl | (simp [entryFrame, mkF, argsToLocals, Value.category]; done)

theorem d_jdk_65m124_0 : decode jdk_65_method_124_code 0 = .ok (.iload_n 1, 1) := by decide +kernel
theorem d_jdk_65m124_1 : decode jdk_65_method_124_code 1 = .ok (.aload_n 0, 1) := by decide +kernel
theorem d_jdk_65m124_2 : decode jdk_65_method_124_code 2 = .ok (.arraylength, 1) := by decide +kernel
theorem d_jdk_65m124_3 : decode jdk_65_method_124_code 3 = .ok (.if_icmp .ne 11, 3) := by decide +kernel
theorem d_jdk_65m124_14 : decode jdk_65_method_124_code 14 = .ok (.iload_n 1, 1) := by decide +kernel
theorem d_jdk_65m124_15 : decode jdk_65_method_124_code 15 = .ok (.newarray .long, 2) := by decide +kernel
theorem d_jdk_65m124_17 : decode jdk_65_method_124_code 17 = .ok (.astore_n 2, 1) := by decide +kernel
theorem d_jdk_65m124_18 : decode jdk_65_method_124_code 18 = .ok (.aload_n 0, 1) := by decide +kernel
theorem d_jdk_65m124_19 : decode jdk_65_method_124_code 19 = .ok (.iconst 0, 1) := by decide +kernel
theorem d_jdk_65m124_20 : decode jdk_65_method_124_code 20 = .ok (.aload_n 2, 1) := by decide +kernel
theorem d_jdk_65m124_21 : decode jdk_65_method_124_code 21 = .ok (.iconst 0, 1) := by decide +kernel
theorem d_jdk_65m124_22 : decode jdk_65_method_124_code 22 = .ok (.aload_n 0, 1) := by decide +kernel
theorem d_jdk_65m124_23 : decode jdk_65_method_124_code 23 = .ok (.arraylength, 1) := by decide +kernel
theorem d_jdk_65m124_24 : decode jdk_65_method_124_code 24 = .ok (.iload_n 1, 1) := by decide +kernel
theorem d_jdk_65m124_25 : decode jdk_65_method_124_code 25 = .ok (.invokestatic 304, 3) := by decide +kernel
theorem d_jdk_65m124_28 : decode jdk_65_method_124_code 28 = .ok (.invokestatic 150, 3) := by decide +kernel
theorem d_jdk_65m124_31 : decode jdk_65_method_124_code 31 = .ok (.aload_n 2, 1) := by decide +kernel
theorem d_jdk_65m124_32 : decode jdk_65_method_124_code 32 = .ok (.areturn, 1) := by decide +kernel
set_option maxRecDepth 65536 in
set_option maxHeartbeats 40000000 in
theorem c_cp (l : Launch) (Z : State) (a0 : Array Value) (hw : ∀ d ∈ tables_1, d.before a0 Z = true) (n0 : Nat) (h0 : Heap) (wa : Addr) (kw : ClassId) (ws : List Int64) (n : Int32) (hn : (ws.length : Int) < n.toInt) (hb : n.toInt ≤ 65536) (A_w : OwnKit.Av Z h0 wa kw .long (ws.map Value.long)) :
    OwnKit.Con false l Z n0 (⟨"java/util/Arrays", "copyOf", "([JI)[J"⟩ : MethodName) jdk_65_method_124_code 3 (some (.array .long)) ({ frames := 1, cells := 1, slots := n.toInt.toNat, locals := 40 } : Room) #[.ref wa, .int n] h0 (QCp Z ws n h0) := by
  refine OwnKit.Con.of (by first | (refine plainFor_of_name ?_; simp [plainName, overriddenIn]; done) | decide +kernel) ?_ ?_
  · intro κ hwd K0
    have K : OwnKit.Ok κ l Z n0 "java/util/Arrays" "copyOf" jdk_65_method_124_code 3 (some (.array .long)) ({ frames := 1, cells := 1, slots := n.toInt.toNat, locals := 40 } : Room) (QCp Z ws n h0) := K0
    have ef : (entryFrame κ.m #[.ref wa, .int n] 3).locals = #[.val (.ref wa), .val (.int n), .unset] := by first | (simp [entryFrame, argsToLocals, Value.category]; done) | rfl
    rw [ef]; clear ef K0
    have K0 := Keep.refl h0 []
    have hlen : (Int32.ofNat (ws.map Value.long).length).toInt = ws.length := by have := A_w.len; rw [len_toInt this]; simp
    have e0 : (0 : Int32).toInt = 0 := rfl
    show OwnKit.Go κ h0 0 0 0 #[.val (.ref wa), .val (.int n), .unset] []
    refine OwnKit.iloadN K d_jdk_65m124_0 rfl ?_
    show OwnKit.Go κ h0 0 0 1 #[.val (.ref wa), .val (.int n), .unset] [.int n]
    refine OwnKit.aloadN K d_jdk_65m124_1 rfl rfl ?_
    show OwnKit.Go κ h0 0 0 2 #[.val (.ref wa), .val (.int n), .unset] [.ref wa, .int n]
    refine OwnKit.lenV K d_jdk_65m124_2 A_w ?_
    show OwnKit.Go κ h0 0 0 3 #[.val (.ref wa), .val (.int n), .unset] [.int (Int32.ofNat (ws.map Value.long).length), .int n]
    refine OwnKit.icmpne K d_jdk_65m124_3 (by decide) (pc' := 14) rfl  (fun b1 => ?_) (fun b1 => ?_)
    · show OwnKit.Go κ h0 0 0 14 #[.val (.ref wa), .val (.int n), .unset] []
      refine OwnKit.iloadN K d_jdk_65m124_14 rfl ?_
      show OwnKit.Go κ h0 0 0 15 #[.val (.ref wa), .val (.int n), .unset] [.int n]
      refine OwnKit.newArrV (cap := n.toInt.toNat) K d_jdk_65m124_15 (hw _ (List.mem_of_getElem? (i := 29) rfl)) (by omega) (by omega) (by omega) (Nat.le_of_ble_eq_true rfl) (Nat.le_of_eq (Nat.zero_add _)) ?_
      intro h2 a3 k4 g5 G6 Ex7 A8 E9
      have ne10 : wa ≠ a3 := by rw [g5]; exact Nat.ne_of_lt A_w.lt
      have L11 : h0.size ≤ a3 := g5 ▸ K0.1
      have A12 := A_w.ext Ex7
      have K13 := K0.ext Ex7
      have Ad : OwnKit.Av Z h2 a3 k4 .long ((List.replicate n.toInt.toNat (0 : Int64)).map Value.long) := by rw [List.map_replicate]; exact A8
      show OwnKit.Go κ h2 1 (0 + n.toInt.toNat) 17 #[.val (.ref wa), .val (.int n), .unset] [.ref a3]
      refine OwnKit.astoreN K d_jdk_65m124_17 rfl (l' := #[.val (.ref wa), .val (.int n), .val (.ref a3)]) rfl ?_
      show OwnKit.Go κ h2 1 (0 + n.toInt.toNat) 18 #[.val (.ref wa), .val (.int n), .val (.ref a3)] []
      refine OwnKit.aloadN K d_jdk_65m124_18 rfl rfl ?_
      show OwnKit.Go κ h2 1 (0 + n.toInt.toNat) 19 #[.val (.ref wa), .val (.int n), .val (.ref a3)] [.ref wa]
      refine OwnKit.iconst K d_jdk_65m124_19 ?_
      show OwnKit.Go κ h2 1 (0 + n.toInt.toNat) 20 #[.val (.ref wa), .val (.int n), .val (.ref a3)] [.int (0 : Int32), .ref wa]
      refine OwnKit.aloadN K d_jdk_65m124_20 rfl rfl ?_
      show OwnKit.Go κ h2 1 (0 + n.toInt.toNat) 21 #[.val (.ref wa), .val (.int n), .val (.ref a3)] [.ref a3, .int (0 : Int32), .ref wa]
      refine OwnKit.iconst K d_jdk_65m124_21 ?_
      show OwnKit.Go κ h2 1 (0 + n.toInt.toNat) 22 #[.val (.ref wa), .val (.int n), .val (.ref a3)] [.int (0 : Int32), .ref a3, .int (0 : Int32), .ref wa]
      refine OwnKit.aloadN K d_jdk_65m124_22 rfl rfl ?_
      show OwnKit.Go κ h2 1 (0 + n.toInt.toNat) 23 #[.val (.ref wa), .val (.int n), .val (.ref a3)] [.ref wa, .int (0 : Int32), .ref a3, .int (0 : Int32), .ref wa]
      refine OwnKit.lenV K d_jdk_65m124_23 A12 ?_
      show OwnKit.Go κ h2 1 (0 + n.toInt.toNat) 24 #[.val (.ref wa), .val (.int n), .val (.ref a3)] [.int (Int32.ofNat (ws.map Value.long).length), .int (0 : Int32), .ref a3, .int (0 : Int32), .ref wa]
      refine OwnKit.iloadN K d_jdk_65m124_24 rfl ?_
      show OwnKit.Go κ h2 1 (0 + n.toInt.toNat) 25 #[.val (.ref wa), .val (.int n), .val (.ref a3)] [.int n, .int (Int32.ofNat (ws.map Value.long).length), .int (0 : Int32), .ref a3, .int (0 : Int32), .ref wa]
      refine OwnKit.invS (y := (⟨"java/lang/Math", "min", "(II)I"⟩ : MethodName)) (argsL := [.int (Int32.ofNat (ws.map Value.long).length), .int n]) (rest := [.int (0 : Int32), .ref a3, .int (0 : Int32), .ref wa]) K (c_min l Z a0 hw n0 h2 (Int32.ofNat (ws.map Value.long).length) n) d_jdk_65m124_25 (hw _ (List.mem_of_getElem? (i := 88) rfl)) (hw _ (List.mem_of_getElem? (i := 89) rfl)) (hw _ (List.mem_of_getElem? (i := 82) rfl)) (hw _ (List.mem_of_getElem? (i := 90) rfl)) (by decide) (lenOf (by decide +kernel : parseMethodDescriptor "(II)I" = some ⟨[.int, .int], some .int⟩) rfl) rfl rfl (W := 4) (Nat.le_of_ble_eq_true rfl) (Nat.le_of_ble_eq_true rfl) (Nat.le_of_ble_eq_true rfl) (by first | exact Nat.le_of_ble_eq_true rfl | (dsimp only; omega) | (dsimp only; rw [hk]; omega)) (by first | exact Nat.le_of_ble_eq_true rfl | (dsimp only; omega) | (dsimp only; rw [hk]; omega)) ?_
      rintro _ h14 ⟨mm, rfl, hmm, rfl⟩ g15
      show OwnKit.Go κ h2 1 (0 + n.toInt.toNat) 28 #[.val (.ref wa), .val (.int n), .val (.ref a3)] [.int mm, .int (0 : Int32), .ref a3, .int (0 : Int32), .ref wa]
      refine OwnKit.copyV (W := 0) K d_jdk_65m124_28 (hw _ (List.mem_of_getElem? (i := 91) rfl)) (hw _ (List.mem_of_getElem? (i := 94) rfl)) (hw _ (List.mem_of_getElem? (i := 92) rfl)) (hw _ (List.mem_of_getElem? (i := 93) rfl)) A12 Ad rfl (by omega) (by omega) (by omega) (by first | omega | (simp only [List.length_map, List.length_append, List.length_replicate, List.length_set, List.length_cons, List.length_nil]; omega) | (simp; done) | (simp; omega)) (by first | omega | (simp only [List.length_map, List.length_append, List.length_replicate, List.length_set, List.length_cons, List.length_nil]; omega) | (simp; done) | (simp; omega)) G6 rfl (Nat.le_of_ble_eq_true rfl) (Nat.le_of_ble_eq_true rfl) (Nat.le_of_ble_eq_true rfl) ?_
      intro h16 Kc Ac
      have A17 := A12.keep Kc (ninS ne10 nin0)
      have K18 := K13.trans Kc (allS (Or.inr L11) all0)
      have Ae : OwnKit.Av Z h16 a3 k4 .long ((ws ++ List.replicate (n.toInt.toNat - ws.length) 0).map Value.long) := by
        have q : mm.toInt.toNat = ws.length := by omega
        rw [q, e0] at Ac; rw [own_grown (ws := ws) (m := n.toInt.toNat) (by omega)]; exact Ac
      show OwnKit.Go κ h16 1 (0 + n.toInt.toNat) 31 #[.val (.ref wa), .val (.int n), .val (.ref a3)] []
      refine OwnKit.aloadN K d_jdk_65m124_31 rfl rfl ?_
      show OwnKit.Go κ h16 1 (0 + n.toInt.toNat) 32 #[.val (.ref wa), .val (.int n), .val (.ref a3)] [.ref a3]
      refine OwnKit.areturn K d_jdk_65m124_32 rfl rfl ?_ (Nat.le_of_ble_eq_true rfl) (Nat.le_of_eq (Nat.zero_add _))
      exact ⟨_, _, rfl, K18, L11, Ae⟩
    · exfalso
      rw [b1] at hn
      omega
  · intro m; first | rfl | (simp [entryFrame, mkF, argsToLocals, Value.category]; done)

theorem d_jdk_92m14_0 : decode jdk_92_method_14_code 0 = .ok (.aload_n 0, 1) := by decide +kernel
theorem d_jdk_92m14_1 : decode jdk_92_method_14_code 1 = .ok (.getfield 11, 3) := by decide +kernel
theorem d_jdk_92m14_4 : decode jdk_92_method_14_code 4 = .ok (.arraylength, 1) := by decide +kernel
theorem d_jdk_92m14_5 : decode jdk_92_method_14_code 5 = .ok (.iload_n 1, 1) := by decide +kernel
theorem d_jdk_92m14_6 : decode jdk_92_method_14_code 6 = .ok (.if_icmp .ge 32, 3) := by decide +kernel
theorem d_jdk_92m14_9 : decode jdk_92_method_14_code 9 = .ok (.iconst 2, 1) := by decide +kernel
theorem d_jdk_92m14_10 : decode jdk_92_method_14_code 10 = .ok (.aload_n 0, 1) := by decide +kernel
theorem d_jdk_92m14_11 : decode jdk_92_method_14_code 11 = .ok (.getfield 11, 3) := by decide +kernel
theorem d_jdk_92m14_14 : decode jdk_92_method_14_code 14 = .ok (.arraylength, 1) := by decide +kernel
theorem d_jdk_92m14_15 : decode jdk_92_method_14_code 15 = .ok (.imul, 1) := by decide +kernel
theorem d_jdk_92m14_16 : decode jdk_92_method_14_code 16 = .ok (.iload_n 1, 1) := by decide +kernel
theorem d_jdk_92m14_17 : decode jdk_92_method_14_code 17 = .ok (.invokestatic 133, 3) := by decide +kernel
theorem d_jdk_92m14_20 : decode jdk_92_method_14_code 20 = .ok (.istore_n 2, 1) := by decide +kernel
theorem d_jdk_92m14_21 : decode jdk_92_method_14_code 21 = .ok (.aload_n 0, 1) := by decide +kernel
theorem d_jdk_92m14_22 : decode jdk_92_method_14_code 22 = .ok (.aload_n 0, 1) := by decide +kernel
theorem d_jdk_92m14_23 : decode jdk_92_method_14_code 23 = .ok (.getfield 11, 3) := by decide +kernel
theorem d_jdk_92m14_26 : decode jdk_92_method_14_code 26 = .ok (.iload_n 2, 1) := by decide +kernel
theorem d_jdk_92m14_27 : decode jdk_92_method_14_code 27 = .ok (.invokestatic 59, 3) := by decide +kernel
theorem d_jdk_92m14_30 : decode jdk_92_method_14_code 30 = .ok (.putfield 11, 3) := by decide +kernel
theorem d_jdk_92m14_33 : decode jdk_92_method_14_code 33 = .ok (.aload_n 0, 1) := by decide +kernel
theorem d_jdk_92m14_34 : decode jdk_92_method_14_code 34 = .ok (.iconst 0, 1) := by decide +kernel
theorem d_jdk_92m14_35 : decode jdk_92_method_14_code 35 = .ok (.putfield 24, 3) := by decide +kernel
theorem d_jdk_92m14_38 : decode jdk_92_method_14_code 38 = .ok (.return_, 1) := by decide +kernel
set_option maxRecDepth 65536 in
set_option maxHeartbeats 40000000 in
theorem c_ens (l : Launch) (Z : State) (a0 : Array Value) (hw : ∀ d ∈ tables_1, d.before a0 Z = true) (n0 : Nat) (h0 : Heap) (b wa : Addr) (kw : ClassId) (ws : List Int64) (u k : Int32) (hk : 0 ≤ k.toInt) (hk2 : k.toInt ≤ 16384) (B0 : BS Z h0 n0 b wa kw ws u) :
    OwnKit.Con false l Z n0 (⟨"java/util/BitSet", "ensureCapacity", "(I)V"⟩ : MethodName) jdk_92_method_14_code 3 none ({ frames := 2, cells := 1, slots := own_grow ws.length k.toInt.toNat, locals := 55 } : Room) #[.ref b, .int k] h0 (QEns Z n0 b wa ws u k h0) := by
  refine OwnKit.Con.of (by first | (refine plainFor_of_name ?_; simp [plainName, overriddenIn]; done) | decide +kernel) ?_ ?_
  · intro κ hwd K0
    have K : OwnKit.Ok κ l Z n0 "java/util/BitSet" "ensureCapacity" jdk_92_method_14_code 3 none ({ frames := 2, cells := 1, slots := own_grow ws.length k.toInt.toNat, locals := 55 } : Room) (QEns Z n0 b wa ws u k h0) := K0
    have ef : (entryFrame κ.m #[.ref b, .int k] 3).locals = #[.val (.ref b), .val (.int k), .unset] := by first | (simp [entryFrame, argsToLocals, Value.category]; done) | rfl
    rw [ef]; clear ef K0
    obtain ⟨E_b, F_w, F_u, F_s, A_w, hu0, hul, hz, G_b, G_w, nbw⟩ := B0
    have K0 := Keep.refl h0 [b]
    have hlen : (Int32.ofNat (ws.map Value.long).length).toInt = ws.length := by have := A_w.len; rw [len_toInt this]; simp
    have e2 : (2 : Int32).toInt = 2 := rfl
    show OwnKit.Go κ h0 0 0 0 #[.val (.ref b), .val (.int k), .unset] []
    refine OwnKit.aloadN K d_jdk_92m14_0 rfl rfl ?_
    show OwnKit.Go κ h0 0 0 1 #[.val (.ref b), .val (.int k), .unset] [.ref b]
    refine OwnKit.getfield K d_jdk_92m14_1 (host := "") (Or.inl (hw _ (List.mem_of_getElem? (i := 30) rfl))) Via.refl F_w ?_
    show OwnKit.Go κ h0 0 0 4 #[.val (.ref b), .val (.int k), .unset] [.ref wa]
    refine OwnKit.lenV K d_jdk_92m14_4 A_w ?_
    show OwnKit.Go κ h0 0 0 5 #[.val (.ref b), .val (.int k), .unset] [.int (Int32.ofNat (ws.map Value.long).length)]
    refine OwnKit.iloadN K d_jdk_92m14_5 rfl ?_
    show OwnKit.Go κ h0 0 0 6 #[.val (.ref b), .val (.int k), .unset] [.int k, .int (Int32.ofNat (ws.map Value.long).length)]
    refine OwnKit.icmpge K d_jdk_92m14_6 (by decide) (pc' := 38) rfl  (fun b1 => ?_) (fun b1 => ?_)
    · show OwnKit.Go κ h0 0 0 38 #[.val (.ref b), .val (.int k), .unset] []
      refine OwnKit.return0 K d_jdk_92m14_38  ?_ (by first | exact Nat.zero_le _ | exact Nat.le_of_ble_eq_true rfl) (by first | exact Nat.zero_le _ | (show 0 + n.toInt.toNat ≤ own_grow ws.length k.toInt.toNat; omega))
      exact ⟨wa, kw, ws, rfl, ⟨E_b, F_w, F_u, F_s, A_w, hu0, hul, hz, G_b, G_w, nbw⟩, K0, Or.inl rfl, own_lenKeep (by omega), ⟨0, by simp⟩⟩
    · show OwnKit.Go κ h0 0 0 9 #[.val (.ref b), .val (.int k), .unset] []
      refine OwnKit.iconst K d_jdk_92m14_9 ?_
      show OwnKit.Go κ h0 0 0 10 #[.val (.ref b), .val (.int k), .unset] [.int (2 : Int32)]
      refine OwnKit.aloadN K d_jdk_92m14_10 rfl rfl ?_
      show OwnKit.Go κ h0 0 0 11 #[.val (.ref b), .val (.int k), .unset] [.ref b, .int (2 : Int32)]
      refine OwnKit.getfield K d_jdk_92m14_11 (host := "") (Or.inl (hw _ (List.mem_of_getElem? (i := 30) rfl))) Via.refl F_w ?_
      show OwnKit.Go κ h0 0 0 14 #[.val (.ref b), .val (.int k), .unset] [.ref wa, .int (2 : Int32)]
      refine OwnKit.lenV K d_jdk_92m14_14 A_w ?_
      show OwnKit.Go κ h0 0 0 15 #[.val (.ref b), .val (.int k), .unset] [.int (Int32.ofNat (ws.map Value.long).length), .int (2 : Int32)]
      refine OwnKit.imul K d_jdk_92m14_15 ?_
      show OwnKit.Go κ h0 0 0 16 #[.val (.ref b), .val (.int k), .unset] [.int ((2 : Int32) * (Int32.ofNat (ws.map Value.long).length))]
      refine OwnKit.iloadN K d_jdk_92m14_16 rfl ?_
      show OwnKit.Go κ h0 0 0 17 #[.val (.ref b), .val (.int k), .unset] [.int k, .int ((2 : Int32) * (Int32.ofNat (ws.map Value.long).length))]
      refine OwnKit.invS (y := (⟨"java/lang/Math", "max", "(II)I"⟩ : MethodName)) (argsL := [.int ((2 : Int32) * (Int32.ofNat (ws.map Value.long).length)), .int k]) (rest := []) K (c_max l Z a0 hw n0 h0 ((2 : Int32) * (Int32.ofNat (ws.map Value.long).length)) k) d_jdk_92m14_17 (hw _ (List.mem_of_getElem? (i := 80) rfl)) (hw _ (List.mem_of_getElem? (i := 81) rfl)) (hw _ (List.mem_of_getElem? (i := 82) rfl)) (hw _ (List.mem_of_getElem? (i := 83) rfl)) (by decide) (lenOf (by decide +kernel : parseMethodDescriptor "(II)I" = some ⟨[.int, .int], some .int⟩) rfl) rfl rfl (W := 0) (Nat.le_of_ble_eq_true rfl) (Nat.le_of_ble_eq_true rfl) (Nat.le_of_ble_eq_true rfl) (Nat.le_of_ble_eq_true rfl) (Nat.le_of_ble_eq_true rfl) ?_
      rintro _ h2 ⟨n, rfl, hmx, rfl⟩ g3
      show OwnKit.Go κ h0 0 0 20 #[.val (.ref b), .val (.int k), .unset] [.int n]
      refine OwnKit.istoreN K d_jdk_92m14_20 (l' := #[.val (.ref b), .val (.int k), .val (.int n)]) rfl ?_
      show OwnKit.Go κ h0 0 0 21 #[.val (.ref b), .val (.int k), .val (.int n)] []
      refine OwnKit.aloadN K d_jdk_92m14_21 rfl rfl ?_
      show OwnKit.Go κ h0 0 0 22 #[.val (.ref b), .val (.int k), .val (.int n)] [.ref b]
      refine OwnKit.aloadN K d_jdk_92m14_22 rfl rfl ?_
      show OwnKit.Go κ h0 0 0 23 #[.val (.ref b), .val (.int k), .val (.int n)] [.ref b, .ref b]
      refine OwnKit.getfield K d_jdk_92m14_23 (host := "") (Or.inl (hw _ (List.mem_of_getElem? (i := 30) rfl))) Via.refl F_w ?_
      show OwnKit.Go κ h0 0 0 26 #[.val (.ref b), .val (.int k), .val (.int n)] [.ref wa, .ref b]
      refine OwnKit.iloadN K d_jdk_92m14_26 rfl ?_
      show OwnKit.Go κ h0 0 0 27 #[.val (.ref b), .val (.int k), .val (.int n)] [.int n, .ref wa, .ref b]
      have hm2 := c_imul 2 (Int32.ofNat (ws.map Value.long).length)
      have hr2 := rng32 (2 * Int32.ofNat (ws.map Value.long).length)
      rw [hlen, e2] at hm2
      have hnn : n.toInt.toNat = own_grow ws.length k.toInt.toNat := by unfold own_grow; rw [if_pos (by omega)]; omega
      refine OwnKit.invS (y := (⟨"java/util/Arrays", "copyOf", "([JI)[J"⟩ : MethodName)) (argsL := [.ref wa, .int n]) (rest := [.ref b]) K (c_cp l Z a0 hw n0 h0 wa kw ws n (by omega) (by omega) A_w) d_jdk_92m14_27 (hw _ (List.mem_of_getElem? (i := 84) rfl)) (hw _ (List.mem_of_getElem? (i := 85) rfl)) (hw _ (List.mem_of_getElem? (i := 86) rfl)) (hw _ (List.mem_of_getElem? (i := 87) rfl)) (by decide) (lenOf (by decide +kernel : parseMethodDescriptor "([JI)[J" = some ⟨[(.array .long), .int], some (.array .long)⟩) rfl) rfl rfl (W := 1) (Nat.le_of_ble_eq_true rfl) (Nat.le_of_ble_eq_true rfl) (Nat.le_of_ble_eq_true rfl) (Nat.le_of_ble_eq_true rfl) (by show 0 + n.toInt.toNat ≤ own_grow ws.length k.toInt.toNat; omega) ?_
      rintro _ h4 ⟨wb, kb, rfl, Kx, gb, Ab⟩ g5
      have ne6 : b ≠ wb := fun e => absurd E_b.lt (by rw [e]; exact Nat.not_lt.mpr (by omega))
      have ne7 : wa ≠ wb := fun e => absurd A_w.lt (by rw [e]; exact Nat.not_lt.mpr (by omega))
      have L8 : h0.size ≤ wb := Nat.le_trans K0.1 gb
      have Gwb : n0 ≤ wb := Nat.le_trans G_w (Nat.le_trans (Nat.le_of_lt A_w.lt) (Nat.le_trans K0.1 gb))
      have E9 := E_b.keep Kx
      have F10 := F_w.keep Kx nin0
      have F11 := F_u.keep Kx nin0
      have F12 := F_s.keep Kx nin0
      have A13 := A_w.keep Kx nin0
      have K14 := K0.trans Kx all0
      show OwnKit.Go κ h4 1 (0 + n.toInt.toNat) 30 #[.val (.ref b), .val (.int k), .val (.int n)] [.ref wb, .ref b]
      refine OwnKit.putfield K d_jdk_92m14_30 (host := "") (Or.inl (hw _ (List.mem_of_getElem? (i := 30) rfl))) Via.refl F10 E9 (Or.inl (hw _ (List.mem_of_getElem? (i := 31) rfl))) (hw _ (List.mem_of_getElem? (i := 11) rfl)) (show parseFieldDescriptor "[J" = some ((.array .long)) from by decide +kernel) rfl rfl G_b ?_
      intro h15 W16
      have E17 := E9.wr W16
      have F18 := Fld.same W16 F10
      have F19 := Fld.other W16 F11 (Or.inr (RoadKit.slot_ne (t := .int) (t' := (.array .long)) (Or.inl (hw _ (List.mem_of_getElem? (i := 18) rfl))) (Or.inl (hw _ (List.mem_of_getElem? (i := 31) rfl))) (by decide) (by decide +kernel) (by decide +kernel)))
      have F20 := Fld.other W16 F12 (Or.inr (RoadKit.slot_ne (t := .boolean) (t' := (.array .long)) (Or.inl (hw _ (List.mem_of_getElem? (i := 20) rfl))) (Or.inl (hw _ (List.mem_of_getElem? (i := 31) rfl))) (by decide) (by decide +kernel) (by decide +kernel)))
      have A21 := A13.other W16 (Ne.symm nbw)
      have K22 := K14.wr W16 (Or.inl (by simp))
      have A23 := Ab.other W16 (Ne.symm ne6)
      show OwnKit.Go κ h15 1 (0 + n.toInt.toNat) 33 #[.val (.ref b), .val (.int k), .val (.int n)] []
      refine OwnKit.aloadN K d_jdk_92m14_33 rfl rfl ?_
      show OwnKit.Go κ h15 1 (0 + n.toInt.toNat) 34 #[.val (.ref b), .val (.int k), .val (.int n)] [.ref b]
      refine OwnKit.iconst K d_jdk_92m14_34 ?_
      show OwnKit.Go κ h15 1 (0 + n.toInt.toNat) 35 #[.val (.ref b), .val (.int k), .val (.int n)] [.int (0 : Int32), .ref b]
      refine OwnKit.putfield K d_jdk_92m14_35 (host := "") (Or.inl (hw _ (List.mem_of_getElem? (i := 19) rfl))) Via.refl F20 E17 (Or.inl (hw _ (List.mem_of_getElem? (i := 20) rfl))) (hw _ (List.mem_of_getElem? (i := 11) rfl)) (show parseFieldDescriptor "Z" = some (.boolean) from by decide +kernel) rfl rfl G_b ?_
      intro h24 W25
      have E26 := E17.wr W25
      have F27 := Fld.other W25 F18 (Or.inr (RoadKit.slot_ne (t := (.array .long)) (t' := .boolean) (Or.inl (hw _ (List.mem_of_getElem? (i := 31) rfl))) (Or.inl (hw _ (List.mem_of_getElem? (i := 20) rfl))) (by decide) (by decide +kernel) (by decide +kernel)))
      have F28 := Fld.other W25 F19 (Or.inr (RoadKit.slot_ne (t := .int) (t' := .boolean) (Or.inl (hw _ (List.mem_of_getElem? (i := 18) rfl))) (Or.inl (hw _ (List.mem_of_getElem? (i := 20) rfl))) (by decide) (by decide +kernel) (by decide +kernel)))
      have F29 := Fld.same W25 F20
      have A30 := A21.other W25 (Ne.symm nbw)
      have K31 := K22.wr W25 (Or.inl (by simp))
      have A32 := A23.other W25 (Ne.symm ne6)
      show OwnKit.Go κ h24 1 (0 + n.toInt.toNat) 38 #[.val (.ref b), .val (.int k), .val (.int n)] []
      refine OwnKit.return0 K d_jdk_92m14_38  ?_ (by first | exact Nat.zero_le _ | exact Nat.le_of_ble_eq_true rfl) (by first | exact Nat.zero_le _ | (show 0 + n.toInt.toNat ≤ own_grow ws.length k.toInt.toNat; omega))
      exact ⟨wb, kb, _, rfl, ⟨E26, F27, F28, F29, A32, hu0, (by first | omega | (simp only [List.length_map, List.length_append, List.length_replicate, List.length_set, List.length_cons, List.length_nil]; omega) | (simp; done) | (simp; omega)), own_zGrown hz, G_b, Gwb, ne6⟩, K31, Or.inr L8, own_lenGrown (by omega) (by omega) hnn, ⟨_, rfl⟩⟩
  · intro m; first | rfl | (simp [entryFrame, mkF, argsToLocals, Value.category]; done)

theorem d_jdk_92m15_0 : decode jdk_92_method_15_code 0 = .ok (.iload_n 1, 1) := by decide +kernel
theorem d_jdk_92m15_1 : decode jdk_92_method_15_code 1 = .ok (.iconst 1, 1) := by decide +kernel
theorem d_jdk_92m15_2 : decode jdk_92_method_15_code 2 = .ok (.iadd, 1) := by decide +kernel
theorem d_jdk_92m15_3 : decode jdk_92_method_15_code 3 = .ok (.istore_n 2, 1) := by decide +kernel
theorem d_jdk_92m15_4 : decode jdk_92_method_15_code 4 = .ok (.aload_n 0, 1) := by decide +kernel
theorem d_jdk_92m15_5 : decode jdk_92_method_15_code 5 = .ok (.getfield 7, 3) := by decide +kernel
theorem d_jdk_92m15_8 : decode jdk_92_method_15_code 8 = .ok (.iload_n 2, 1) := by decide +kernel
theorem d_jdk_92m15_9 : decode jdk_92_method_15_code 9 = .ok (.if_icmp .ge 13, 3) := by decide +kernel
theorem d_jdk_92m15_12 : decode jdk_92_method_15_code 12 = .ok (.aload_n 0, 1) := by decide +kernel
theorem d_jdk_92m15_13 : decode jdk_92_method_15_code 13 = .ok (.iload_n 2, 1) := by decide +kernel
theorem d_jdk_92m15_14 : decode jdk_92_method_15_code 14 = .ok (.invokevirtual 139, 3) := by decide +kernel
theorem d_jdk_92m15_17 : decode jdk_92_method_15_code 17 = .ok (.aload_n 0, 1) := by decide +kernel
theorem d_jdk_92m15_18 : decode jdk_92_method_15_code 18 = .ok (.iload_n 2, 1) := by decide +kernel
theorem d_jdk_92m15_19 : decode jdk_92_method_15_code 19 = .ok (.putfield 7, 3) := by decide +kernel
theorem d_jdk_92m15_22 : decode jdk_92_method_15_code 22 = .ok (.return_, 1) := by decide +kernel
set_option maxRecDepth 65536 in
set_option maxHeartbeats 40000000 in
theorem c_exp (l : Launch) (Z : State) (a0 : Array Value) (hw : ∀ d ∈ tables_1, d.before a0 Z = true) (n0 : Nat) (h0 : Heap) (b wa : Addr) (kw : ClassId) (ws : List Int64) (u i : Int32) (hi : 0 ≤ i.toInt) (hi2 : i.toInt < 16384) (B0 : BS Z h0 n0 b wa kw ws u) :
    OwnKit.Con false l Z n0 (⟨"java/util/BitSet", "expandTo", "(I)V"⟩ : MethodName) jdk_92_method_15_code 3 none ({ frames := 3, cells := 1, slots := own_grow ws.length (i + 1).toInt.toNat, locals := 69 } : Room) #[.ref b, .int i] h0 (QExp Z n0 b wa ws u i h0) := by
  refine OwnKit.Con.of (by first | (refine plainFor_of_name ?_; simp [plainName, overriddenIn]; done) | decide +kernel) ?_ ?_
  · intro κ hwd K0
    have K : OwnKit.Ok κ l Z n0 "java/util/BitSet" "expandTo" jdk_92_method_15_code 3 none ({ frames := 3, cells := 1, slots := own_grow ws.length (i + 1).toInt.toNat, locals := 69 } : Room) (QExp Z n0 b wa ws u i h0) := K0
    have ef : (entryFrame κ.m #[.ref b, .int i] 3).locals = #[.val (.ref b), .val (.int i), .unset] := by first | (simp [entryFrame, argsToLocals, Value.category]; done) | rfl
    rw [ef]; clear ef K0
    obtain ⟨E_b, F_w, F_u, F_s, A_w, hu0, hul, hz, G_b, G_w, nbw⟩ := B0
    have K0 := Keep.refl h0 [b]
    have hj := c_iadd i 1
    have hj2 := rng32 (i + 1)
    have e1 : (1 : Int32).toInt = 1 := rfl
    have hjj : (i + 1).toInt = i.toInt + 1 := by omega
    show OwnKit.Go κ h0 0 0 0 #[.val (.ref b), .val (.int i), .unset] []
    refine OwnKit.iloadN K d_jdk_92m15_0 rfl ?_
    show OwnKit.Go κ h0 0 0 1 #[.val (.ref b), .val (.int i), .unset] [.int i]
    refine OwnKit.iconst K d_jdk_92m15_1 ?_
    show OwnKit.Go κ h0 0 0 2 #[.val (.ref b), .val (.int i), .unset] [.int (1 : Int32), .int i]
    refine OwnKit.iadd K d_jdk_92m15_2 ?_
    show OwnKit.Go κ h0 0 0 3 #[.val (.ref b), .val (.int i), .unset] [.int (i + (1 : Int32))]
    refine OwnKit.istoreN K d_jdk_92m15_3 (l' := #[.val (.ref b), .val (.int i), .val (.int (i + (1 : Int32)))]) rfl ?_
    show OwnKit.Go κ h0 0 0 4 #[.val (.ref b), .val (.int i), .val (.int (i + (1 : Int32)))] []
    refine OwnKit.aloadN K d_jdk_92m15_4 rfl rfl ?_
    show OwnKit.Go κ h0 0 0 5 #[.val (.ref b), .val (.int i), .val (.int (i + (1 : Int32)))] [.ref b]
    refine OwnKit.getfield K d_jdk_92m15_5 (host := "") (Or.inl (hw _ (List.mem_of_getElem? (i := 17) rfl))) Via.refl F_u ?_
    show OwnKit.Go κ h0 0 0 8 #[.val (.ref b), .val (.int i), .val (.int (i + (1 : Int32)))] [.int u]
    refine OwnKit.iloadN K d_jdk_92m15_8 rfl ?_
    show OwnKit.Go κ h0 0 0 9 #[.val (.ref b), .val (.int i), .val (.int (i + (1 : Int32)))] [.int (i + (1 : Int32)), .int u]
    refine OwnKit.icmpge K d_jdk_92m15_9 (by decide) (pc' := 22) rfl  (fun b1 => ?_) (fun b1 => ?_)
    · show OwnKit.Go κ h0 0 0 22 #[.val (.ref b), .val (.int i), .val (.int (i + (1 : Int32)))] []
      refine OwnKit.return0 K d_jdk_92m15_22  ?_ (by first | exact Nat.zero_le _ | exact Nat.le_of_ble_eq_true rfl) (by first | exact Nat.zero_le _ | exact Nat.le_of_eq (Nat.zero_add _))
      exact ⟨wa, kw, ws, u, rfl, ⟨E_b, F_w, F_u, F_s, A_w, hu0, hul, hz, G_b, G_w, nbw⟩, K0, Or.inl rfl, own_lenKeep (by omega), by omega, ⟨0, by simp⟩⟩
    · show OwnKit.Go κ h0 0 0 12 #[.val (.ref b), .val (.int i), .val (.int (i + (1 : Int32)))] []
      refine OwnKit.aloadN K d_jdk_92m15_12 rfl rfl ?_
      show OwnKit.Go κ h0 0 0 13 #[.val (.ref b), .val (.int i), .val (.int (i + (1 : Int32)))] [.ref b]
      refine OwnKit.iloadN K d_jdk_92m15_13 rfl ?_
      show OwnKit.Go κ h0 0 0 14 #[.val (.ref b), .val (.int i), .val (.int (i + (1 : Int32)))] [.int (i + (1 : Int32)), .ref b]
      refine OwnKit.invP (y := (⟨"java/util/BitSet", "ensureCapacity", "(I)V"⟩ : MethodName)) (argsL := [.int (i + (1 : Int32))]) (rest := []) K (c_ens l Z a0 hw n0 h0 b wa kw ws u (i + 1) (by omega) (by omega) ⟨E_b, F_w, F_u, F_s, A_w, hu0, hul, hz, G_b, G_w, nbw⟩) d_jdk_92m15_14 E_b (hw _ (List.mem_of_getElem? (i := 75) rfl)) (hw _ (List.mem_of_getElem? (i := 76) rfl)) (hw _ (List.mem_of_getElem? (i := 78) rfl)) (hw _ (List.mem_of_getElem? (i := 77) rfl)) (hw _ (List.mem_of_getElem? (i := 79) rfl)) (hw _ (List.mem_of_getElem? (i := 12) rfl)) (by decide) (lenOf (by decide +kernel : parseMethodDescriptor "(I)V" = some ⟨[.int], none⟩) rfl) rfl rfl (W := 0) (Nat.le_of_ble_eq_true rfl) (Nat.le_of_ble_eq_true rfl) (Nat.le_of_ble_eq_true rfl) (Nat.le_of_ble_eq_true rfl) (Nat.le_of_eq (Nat.zero_add _)) ?_
      rintro _ h2 ⟨wb, kb, ws2, rfl, ⟨E2, F2w, F2u, F2s, A2, -, hul2, hz2, -, Gwb, nbw2⟩, Kx, hor, hl2, ⟨zz, hext⟩⟩ g3
      have hl3 := own_lenLe hl2
      show OwnKit.Go κ h2 1 (0 + own_grow ws.length (i + 1).toInt.toNat) 17 #[.val (.ref b), .val (.int i), .val (.int (i + (1 : Int32)))] []
      refine OwnKit.aloadN K d_jdk_92m15_17 rfl rfl ?_
      show OwnKit.Go κ h2 1 (0 + own_grow ws.length (i + 1).toInt.toNat) 18 #[.val (.ref b), .val (.int i), .val (.int (i + (1 : Int32)))] [.ref b]
      refine OwnKit.iloadN K d_jdk_92m15_18 rfl ?_
      show OwnKit.Go κ h2 1 (0 + own_grow ws.length (i + 1).toInt.toNat) 19 #[.val (.ref b), .val (.int i), .val (.int (i + (1 : Int32)))] [.int (i + (1 : Int32)), .ref b]
      refine OwnKit.putfield K d_jdk_92m15_19 (host := "") (Or.inl (hw _ (List.mem_of_getElem? (i := 17) rfl))) Via.refl F2u E2 (Or.inl (hw _ (List.mem_of_getElem? (i := 18) rfl))) (hw _ (List.mem_of_getElem? (i := 11) rfl)) (show parseFieldDescriptor "I" = some (.int) from by decide +kernel) rfl rfl G_b ?_
      intro h4 W5
      have E6 := E2.wr W5
      have F7 := Fld.other W5 F2w (Or.inr (RoadKit.slot_ne (t := (.array .long)) (t' := .int) (Or.inl (hw _ (List.mem_of_getElem? (i := 31) rfl))) (Or.inl (hw _ (List.mem_of_getElem? (i := 18) rfl))) (by decide) (by decide +kernel) (by decide +kernel)))
      have F8 := Fld.same W5 F2u
      have F9 := Fld.other W5 F2s (Or.inr (RoadKit.slot_ne (t := .boolean) (t' := .int) (Or.inl (hw _ (List.mem_of_getElem? (i := 20) rfl))) (Or.inl (hw _ (List.mem_of_getElem? (i := 18) rfl))) (by decide) (by decide +kernel) (by decide +kernel)))
      have A10 := A2.other W5 (Ne.symm nbw2)
      have K11 := Kx.wr W5 (Or.inl (by simp))
      show OwnKit.Go κ h4 1 (0 + own_grow ws.length (i + 1).toInt.toNat) 22 #[.val (.ref b), .val (.int i), .val (.int (i + (1 : Int32)))] []
      refine OwnKit.return0 K d_jdk_92m15_22  ?_ (by first | exact Nat.zero_le _ | exact Nat.le_of_ble_eq_true rfl) (by first | exact Nat.zero_le _ | exact Nat.le_of_eq (Nat.zero_add _))
      exact ⟨wb, kb, ws2, _, rfl, ⟨E6, F7, F8, F9, A10, by omega, by omega, fun q w e1 e2 => hz2 q w (by omega) e2, G_b, Gwb, nbw2⟩, K11, hor, hl2, by omega, ⟨zz, hext⟩⟩
  · intro m; first | rfl | (simp [entryFrame, mkF, argsToLocals, Value.category]; done)

theorem d_jdk_92m19_0 : decode jdk_92_method_19_code 0 = .ok (.iload_n 1, 1) := by decide +kernel
theorem d_jdk_92m19_1 : decode jdk_92_method_19_code 1 = .ok (.ifCond .ge 30, 3) := by decide +kernel
theorem d_jdk_92m19_31 : decode jdk_92_method_19_code 31 = .ok (.iload_n 1, 1) := by decide +kernel
theorem d_jdk_92m19_32 : decode jdk_92_method_19_code 32 = .ok (.invokestatic 52, 3) := by decide +kernel
theorem d_jdk_92m19_35 : decode jdk_92_method_19_code 35 = .ok (.istore_n 2, 1) := by decide +kernel
theorem d_jdk_92m19_36 : decode jdk_92_method_19_code 36 = .ok (.aload_n 0, 1) := by decide +kernel
theorem d_jdk_92m19_37 : decode jdk_92_method_19_code 37 = .ok (.iload_n 2, 1) := by decide +kernel
theorem d_jdk_92m19_38 : decode jdk_92_method_19_code 38 = .ok (.invokevirtual 155, 3) := by decide +kernel
theorem d_jdk_92m19_41 : decode jdk_92_method_19_code 41 = .ok (.aload_n 0, 1) := by decide +kernel
theorem d_jdk_92m19_42 : decode jdk_92_method_19_code 42 = .ok (.getfield 11, 3) := by decide +kernel
theorem d_jdk_92m19_45 : decode jdk_92_method_19_code 45 = .ok (.iload_n 2, 1) := by decide +kernel
theorem d_jdk_92m19_46 : decode jdk_92_method_19_code 46 = .ok (.dup2, 1) := by decide +kernel
theorem d_jdk_92m19_47 : decode jdk_92_method_19_code 47 = .ok (.laload, 1) := by decide +kernel
theorem d_jdk_92m19_48 : decode jdk_92_method_19_code 48 = .ok (.lconst 1, 1) := by decide +kernel
theorem d_jdk_92m19_49 : decode jdk_92_method_19_code 49 = .ok (.iload_n 1, 1) := by decide +kernel
theorem d_jdk_92m19_50 : decode jdk_92_method_19_code 50 = .ok (.lshl, 1) := by decide +kernel
theorem d_jdk_92m19_51 : decode jdk_92_method_19_code 51 = .ok (.lor, 1) := by decide +kernel
theorem d_jdk_92m19_52 : decode jdk_92_method_19_code 52 = .ok (.lastore, 1) := by decide +kernel
theorem d_jdk_92m19_53 : decode jdk_92_method_19_code 53 = .ok (.aload_n 0, 1) := by decide +kernel
theorem d_jdk_92m19_54 : decode jdk_92_method_19_code 54 = .ok (.invokevirtual 56, 3) := by decide +kernel
theorem d_jdk_92m19_57 : decode jdk_92_method_19_code 57 = .ok (.return_, 1) := by decide +kernel
set_option maxRecDepth 65536 in
set_option maxHeartbeats 40000000 in
theorem c_set (l : Launch) (Z : State) (a0 : Array Value) (hw : ∀ d ∈ tables_1, d.before a0 Z = true) (n0 : Nat) (h0 : Heap) (b wa : Addr) (kw : ClassId) (ws : List Int64) (u x : Int32)  (hx : 0 ≤ x.toInt) (hx2 : x.toInt < 1048576) (B0 : BS Z h0 n0 b wa kw ws u) (S__assertionsDisabled : Sta Z Z.heap "java/util/BitSet" "$assertionsDisabled" "Z" (.int (1 : Int32))) :
    OwnKit.Con false l Z n0 (⟨"java/util/BitSet", "set", "(I)V"⟩ : MethodName) jdk_92_method_19_code 3 none ({ frames := 4, cells := 1, slots := own_grow ws.length (own_wi x + 1), locals := 83 } : Room) #[.ref b, .int x] h0 (QSet Z n0 b wa ws x h0) := by
  refine OwnKit.Con.of (by first | (refine plainFor_of_name ?_; simp [plainName, overriddenIn]; done) | decide +kernel) ?_ ?_
  · intro κ hwd K0
    have K : OwnKit.Ok κ l Z n0 "java/util/BitSet" "set" jdk_92_method_19_code 3 none ({ frames := 4, cells := 1, slots := own_grow ws.length (own_wi x + 1), locals := 83 } : Room) (QSet Z n0 b wa ws x h0) := K0
    have ef : (entryFrame κ.m #[.ref b, .int x] 3).locals = #[.val (.ref b), .val (.int x), .unset] := by first | (simp [entryFrame, argsToLocals, Value.category]; done) | rfl
    rw [ef]; clear ef K0
    obtain ⟨E_b, F_w, F_u, F_s, A_w, hu0, hul, hz, G_b, G_w, nbw⟩ := B0
    have hwi := own_wiI hx
    have e1 : (1 : Int32).toInt = 1 := rfl
    show OwnKit.Go κ h0 0 0 0 #[.val (.ref b), .val (.int x), .unset] []
    refine OwnKit.iloadN K d_jdk_92m19_0 rfl ?_
    show OwnKit.Go κ h0 0 0 1 #[.val (.ref b), .val (.int x), .unset] [.int x]
    refine OwnKit.ifge K d_jdk_92m19_1 (by decide) (pc' := 31) rfl  (fun b1 => ?_) (fun b1 => ?_)
    · show OwnKit.Go κ h0 0 0 31 #[.val (.ref b), .val (.int x), .unset] []
      refine OwnKit.iloadN K d_jdk_92m19_31 rfl ?_
      show OwnKit.Go κ h0 0 0 32 #[.val (.ref b), .val (.int x), .unset] [.int x]
      refine OwnKit.invS (y := (⟨"java/util/BitSet", "wordIndex", "(I)I"⟩ : MethodName)) (argsL := [.int x]) (rest := []) K (c_wi l Z a0 hw n0 h0 x) d_jdk_92m19_32 (hw _ (List.mem_of_getElem? (i := 26) rfl)) (hw _ (List.mem_of_getElem? (i := 27) rfl)) (hw _ (List.mem_of_getElem? (i := 12) rfl)) (hw _ (List.mem_of_getElem? (i := 28) rfl)) (by decide) (lenOf (by decide +kernel : parseMethodDescriptor "(I)I" = some ⟨[.int], some .int⟩) rfl) rfl rfl (W := 0) (Nat.le_of_ble_eq_true rfl) (Nat.le_of_ble_eq_true rfl) (Nat.le_of_ble_eq_true rfl) (Nat.le_of_ble_eq_true rfl) (Nat.le_of_ble_eq_true rfl) ?_
      rintro _ h2 ⟨i, rfl, hi, rfl⟩ g3
      show OwnKit.Go κ h0 0 0 35 #[.val (.ref b), .val (.int x), .unset] [.int i]
      refine OwnKit.istoreN K d_jdk_92m19_35 (l' := #[.val (.ref b), .val (.int x), .val (.int i)]) rfl ?_
      show OwnKit.Go κ h0 0 0 36 #[.val (.ref b), .val (.int x), .val (.int i)] []
      refine OwnKit.aloadN K d_jdk_92m19_36 rfl rfl ?_
      show OwnKit.Go κ h0 0 0 37 #[.val (.ref b), .val (.int x), .val (.int i)] [.ref b]
      refine OwnKit.iloadN K d_jdk_92m19_37 rfl ?_
      show OwnKit.Go κ h0 0 0 38 #[.val (.ref b), .val (.int x), .val (.int i)] [.int i, .ref b]
      have hj := c_iadd i 1
      have hj2 := rng32 (i + 1)
      have hk : (i + 1).toInt.toNat = own_wi x + 1 := by omega
      refine OwnKit.invP (y := (⟨"java/util/BitSet", "expandTo", "(I)V"⟩ : MethodName)) (argsL := [.int i]) (rest := []) K (c_exp l Z a0 hw n0 h0 b wa kw ws u i (by omega) (by omega) ⟨E_b, F_w, F_u, F_s, A_w, hu0, hul, hz, G_b, G_w, nbw⟩) d_jdk_92m19_38 E_b (hw _ (List.mem_of_getElem? (i := 70) rfl)) (hw _ (List.mem_of_getElem? (i := 71) rfl)) (hw _ (List.mem_of_getElem? (i := 73) rfl)) (hw _ (List.mem_of_getElem? (i := 72) rfl)) (hw _ (List.mem_of_getElem? (i := 74) rfl)) (hw _ (List.mem_of_getElem? (i := 12) rfl)) (by decide) (lenOf (by decide +kernel : parseMethodDescriptor "(I)V" = some ⟨[.int], none⟩) rfl) rfl rfl (W := 0) (Nat.le_of_ble_eq_true rfl) (Nat.le_of_ble_eq_true rfl) (Nat.le_of_ble_eq_true rfl) (Nat.le_of_ble_eq_true rfl) (by show 0 + own_grow ws.length (i + 1).toInt.toNat ≤ own_grow ws.length (own_wi x + 1); rw [hk]; omega) ?_
      rintro _ h4 ⟨wb, kb, ws2, u2, rfl, ⟨E2, F2w, F2u, F2s, A2, hu2, hul2, hz2, -, Gwb, nbw2⟩, Kx, hor, hl2, hiu, ⟨zz, hext⟩⟩ g5
      rw [hk] at hl2
      have hl3 := own_lenLe hl2
      have K1 : Keep h0 h4 [b, wa] := (Keep.refl h0 [b, wa]).trans Kx (allS (Or.inl (by simp)) all0)
      show OwnKit.Go κ h4 1 (0 + own_grow ws.length (i + 1).toInt.toNat) 41 #[.val (.ref b), .val (.int x), .val (.int i)] []
      refine OwnKit.aloadN K d_jdk_92m19_41 rfl rfl ?_
      show OwnKit.Go κ h4 1 (0 + own_grow ws.length (i + 1).toInt.toNat) 42 #[.val (.ref b), .val (.int x), .val (.int i)] [.ref b]
      refine OwnKit.getfield K d_jdk_92m19_42 (host := "") (Or.inl (hw _ (List.mem_of_getElem? (i := 30) rfl))) Via.refl F2w ?_
      show OwnKit.Go κ h4 1 (0 + own_grow ws.length (i + 1).toInt.toNat) 45 #[.val (.ref b), .val (.int x), .val (.int i)] [.ref wb]
      refine OwnKit.iloadN K d_jdk_92m19_45 rfl ?_
      show OwnKit.Go κ h4 1 (0 + own_grow ws.length (i + 1).toInt.toNat) 46 #[.val (.ref b), .val (.int x), .val (.int i)] [.int i, .ref wb]
      refine OwnKit.dup2 K d_jdk_92m19_46 rfl rfl ?_
      show OwnKit.Go κ h4 1 (0 + own_grow ws.length (i + 1).toInt.toNat) 47 #[.val (.ref b), .val (.int x), .val (.int i)] [.int i, .ref wb, .int i, .ref wb]
      obtain ⟨q, hq⟩ : ∃ q, ws2[own_wi x]? = some q := ⟨_, List.getElem?_eq_getElem (by omega)⟩
      refine OwnKit.laloadV K d_jdk_92m19_47 (v := .long q) A2 (by omega) (by rw [hi]; show (ws2.map Value.long)[own_wi x]? = _; simp [hq]) ?_
      show OwnKit.Go κ h4 1 (0 + own_grow ws.length (i + 1).toInt.toNat) 48 #[.val (.ref b), .val (.int x), .val (.int i)] [.long q, .int i, .ref wb]
      refine OwnKit.lconst K d_jdk_92m19_48 ?_
      show OwnKit.Go κ h4 1 (0 + own_grow ws.length (i + 1).toInt.toNat) 49 #[.val (.ref b), .val (.int x), .val (.int i)] [.long (1 : Int64), .long q, .int i, .ref wb]
      refine OwnKit.iloadN K d_jdk_92m19_49 rfl ?_
      show OwnKit.Go κ h4 1 (0 + own_grow ws.length (i + 1).toInt.toNat) 50 #[.val (.ref b), .val (.int x), .val (.int i)] [.int x, .long (1 : Int64), .long q, .int i, .ref wb]
      refine OwnKit.lshl K d_jdk_92m19_50 ?_
      show OwnKit.Go κ h4 1 (0 + own_grow ws.length (i + 1).toInt.toNat) 51 #[.val (.ref b), .val (.int x), .val (.int i)] [.long ((1 : Int64) <<< (x.toInt64 &&& 63)), .long q, .int i, .ref wb]
      refine OwnKit.lor K d_jdk_92m19_51 ?_
      show OwnKit.Go κ h4 1 (0 + own_grow ws.length (i + 1).toInt.toNat) 52 #[.val (.ref b), .val (.int x), .val (.int i)] [.long (q ||| ((1 : Int64) <<< (x.toInt64 &&& 63))), .int i, .ref wb]
      refine OwnKit.lastoreV K d_jdk_92m19_52 A2 (by omega) (by first | omega | (simp only [List.length_map, List.length_append, List.length_replicate, List.length_set, List.length_cons, List.length_nil]; omega) | (simp; done) | (simp; omega)) Gwb ?_
      intro h6 W2 A3
      have A4 : OwnKit.Av Z h6 wb kb .long ((ws2.set (own_wi x) (q ||| ((1 : Int64) <<< (x.toInt64 &&& 63)))).map Value.long) := by rw [hi] at A3; rw [List.map_set]; exact A3
      have K2 := K1.wr W2 (hor.imp (fun e => by rw [e]; simp) id)
      have E7 := E2.wr W2
      have F8 := Fld.other W2 F2w (Or.inl nbw2)
      have F9 := Fld.other W2 F2u (Or.inl nbw2)
      have F10 := Fld.other W2 F2s (Or.inl nbw2)
      show OwnKit.Go κ h6 1 (0 + own_grow ws.length (i + 1).toInt.toNat) 53 #[.val (.ref b), .val (.int x), .val (.int i)] []
      refine OwnKit.aloadN K d_jdk_92m19_53 rfl rfl ?_
      show OwnKit.Go κ h6 1 (0 + own_grow ws.length (i + 1).toInt.toNat) 54 #[.val (.ref b), .val (.int x), .val (.int i)] [.ref b]
      refine OwnKit.invP (y := (⟨"java/util/BitSet", "checkInvariants", "()V"⟩ : MethodName)) (argsL := []) (rest := []) K (c_chk l Z a0 hw n0 h6 b  S__assertionsDisabled) d_jdk_92m19_54 E7 (hw _ (List.mem_of_getElem? (i := 59) rfl)) (hw _ (List.mem_of_getElem? (i := 60) rfl)) (hw _ (List.mem_of_getElem? (i := 62) rfl)) (hw _ (List.mem_of_getElem? (i := 61) rfl)) (hw _ (List.mem_of_getElem? (i := 63) rfl)) (hw _ (List.mem_of_getElem? (i := 12) rfl)) (by decide) (lenOf (by decide +kernel : parseMethodDescriptor "()V" = some ⟨[], none⟩) rfl) rfl rfl (W := 0) (Nat.le_of_ble_eq_true rfl) (Nat.le_of_ble_eq_true rfl) (Nat.le_of_ble_eq_true rfl) (by first | exact Nat.le_of_ble_eq_true rfl | (dsimp only; omega) | (dsimp only; rw [hk]; omega)) (by first | exact Nat.le_of_ble_eq_true rfl | (dsimp only; omega) | (dsimp only; rw [hk]; omega)) ?_
      rintro _ h11 ⟨rfl, rfl⟩ g12
      show OwnKit.Go κ h6 1 (0 + own_grow ws.length (i + 1).toInt.toNat) 57 #[.val (.ref b), .val (.int x), .val (.int i)] []
      refine OwnKit.return0 K d_jdk_92m19_57  ?_ (Nat.le_of_ble_eq_true rfl) (by show 0 + own_grow ws.length (i + 1).toInt.toNat ≤ own_grow ws.length (own_wi x + 1); rw [hk]; omega)
      exact ⟨wb, kb, _, u2, rfl, ⟨E7, F8, F9, F10, A4, hu2, by simpa using hul2, own_zSet (by omega) hz2, G_b, Gwb, nbw2⟩, K2, hor, by rw [List.length_set]; exact hl2, fun y hy => (own_hasSet hx hy hq).trans (by rw [hext, own_hasGrown])⟩
    · exfalso; omega
  · intro m; first | rfl | (simp [entryFrame, mkF, argsToLocals, Value.category]; done)

theorem d_jdk_92m6_0 : decode jdk_92_method_6_code 0 = .ok (.aload_n 0, 1) := by decide +kernel
theorem d_jdk_92m6_1 : decode jdk_92_method_6_code 1 = .ok (.iload_n 1, 1) := by decide +kernel
theorem d_jdk_92m6_2 : decode jdk_92_method_6_code 2 = .ok (.iconst 1, 1) := by decide +kernel
theorem d_jdk_92m6_3 : decode jdk_92_method_6_code 3 = .ok (.isub, 1) := by decide +kernel
theorem d_jdk_92m6_4 : decode jdk_92_method_6_code 4 = .ok (.invokestatic 52, 3) := by decide +kernel
theorem d_jdk_92m6_7 : decode jdk_92_method_6_code 7 = .ok (.iconst 1, 1) := by decide +kernel
theorem d_jdk_92m6_8 : decode jdk_92_method_6_code 8 = .ok (.iadd, 1) := by decide +kernel
theorem d_jdk_92m6_9 : decode jdk_92_method_6_code 9 = .ok (.newarray .long, 2) := by decide +kernel
theorem d_jdk_92m6_11 : decode jdk_92_method_6_code 11 = .ok (.putfield 11, 3) := by decide +kernel
theorem d_jdk_92m6_14 : decode jdk_92_method_6_code 14 = .ok (.return_, 1) := by decide +kernel
set_option maxRecDepth 65536 in
set_option maxHeartbeats 40000000 in
theorem c_iw (l : Launch) (Z : State) (a0 : Array Value) (hw : ∀ d ∈ tables_1, d.before a0 Z = true) (n0 : Nat) (h0 : Heap) (b : Addr) (E_b : Exa Z h0 b "java/util/BitSet") (G_b : n0 ≤ b) (F_b_wordsInUse : Fld Z h0 b "java/util/BitSet" "wordsInUse" "I" (.int (0 : Int32))) (F_b_sizeIsSticky : Fld Z h0 b "java/util/BitSet" "sizeIsSticky" "Z" (.int (0 : Int32))) (F_b_words : Fld Z h0 b "java/util/BitSet" "words" "[J" (.null)) :
    OwnKit.Con false l Z n0 (⟨"java/util/BitSet", "initWords", "(I)V"⟩ : MethodName) jdk_92_method_6_code 2 none ({ frames := 1, cells := 1, slots := 1, locals := 13 } : Room) #[.ref b, .int (64 : Int32)] h0 (QIw Z b h0) := by
  refine OwnKit.Con.of (by first | (refine plainFor_of_name ?_; simp [plainName, overriddenIn]; done) | decide +kernel) ?_ ?_
  · intro κ hwd K0
    have K : OwnKit.Ok κ l Z n0 "java/util/BitSet" "initWords" jdk_92_method_6_code 2 none ({ frames := 1, cells := 1, slots := 1, locals := 13 } : Room) (QIw Z b h0) := K0
    have ef : (entryFrame κ.m #[.ref b, .int (64 : Int32)] 2).locals = #[.val (.ref b), .val (.int (64 : Int32))] := by first | (simp [entryFrame, argsToLocals, Value.category]; done) | rfl
    rw [ef]; clear ef K0
    have K0 := Keep.refl h0 [b]
    show OwnKit.Go κ h0 0 0 0 #[.val (.ref b), .val (.int (64 : Int32))] []
    refine OwnKit.aloadN K d_jdk_92m6_0 rfl rfl ?_
    show OwnKit.Go κ h0 0 0 1 #[.val (.ref b), .val (.int (64 : Int32))] [.ref b]
    refine OwnKit.iloadN K d_jdk_92m6_1 rfl ?_
    show OwnKit.Go κ h0 0 0 2 #[.val (.ref b), .val (.int (64 : Int32))] [.int (64 : Int32), .ref b]
    refine OwnKit.iconst K d_jdk_92m6_2 ?_
    show OwnKit.Go κ h0 0 0 3 #[.val (.ref b), .val (.int (64 : Int32))] [.int (1 : Int32), .int (64 : Int32), .ref b]
    refine OwnKit.isub K d_jdk_92m6_3 ?_
    show OwnKit.Go κ h0 0 0 4 #[.val (.ref b), .val (.int (64 : Int32))] [.int (63 : Int32), .ref b]
    refine OwnKit.invS (y := (⟨"java/util/BitSet", "wordIndex", "(I)I"⟩ : MethodName)) (argsL := [.int (63 : Int32)]) (rest := [.ref b]) K (c_wi l Z a0 hw n0 h0 (63 : Int32)) d_jdk_92m6_4 (hw _ (List.mem_of_getElem? (i := 26) rfl)) (hw _ (List.mem_of_getElem? (i := 27) rfl)) (hw _ (List.mem_of_getElem? (i := 12) rfl)) (hw _ (List.mem_of_getElem? (i := 28) rfl)) (by decide) (lenOf (by decide +kernel : parseMethodDescriptor "(I)I" = some ⟨[.int], some .int⟩) rfl) rfl rfl (W := 1) (Nat.le_of_ble_eq_true rfl) (Nat.le_of_ble_eq_true rfl) (Nat.le_of_ble_eq_true rfl) (Nat.le_of_ble_eq_true rfl) (Nat.le_of_ble_eq_true rfl) ?_
    rintro _ h1 ⟨i, rfl, hi, rfl⟩ g2
    obtain rfl : i = 0 := Int32.toInt_inj.mp (hi.trans (by decide))
    show OwnKit.Go κ h0 0 0 7 #[.val (.ref b), .val (.int (64 : Int32))] [.int (0 : Int32), .ref b]
    refine OwnKit.iconst K d_jdk_92m6_7 ?_
    show OwnKit.Go κ h0 0 0 8 #[.val (.ref b), .val (.int (64 : Int32))] [.int (1 : Int32), .int (0 : Int32), .ref b]
    refine OwnKit.iadd K d_jdk_92m6_8 ?_
    show OwnKit.Go κ h0 0 0 9 #[.val (.ref b), .val (.int (64 : Int32))] [.int (1 : Int32), .ref b]
    show OwnKit.Go κ h0 0 0 9 #[.val (.ref b), .val (.int (64 : Int32))] [.int (1 : Int32), .ref b]
    refine OwnKit.newArrV (cap := 1) K d_jdk_92m6_9 (hw _ (List.mem_of_getElem? (i := 29) rfl)) (by decide) (by decide) (by decide) (Nat.le_of_ble_eq_true rfl) (Nat.le_of_ble_eq_true rfl) ?_
    intro h3 a4 k5 g6 G7 Ex8 A9 E10
    have ne11 : b ≠ a4 := by rw [g6]; exact Nat.ne_of_lt E_b.lt
    have L12 : h0.size ≤ a4 := g6 ▸ K0.1
    have E13 := E_b.ext Ex8
    have F14 := F_b_wordsInUse.ext Ex8
    have F15 := F_b_sizeIsSticky.ext Ex8
    have F16 := F_b_words.ext Ex8
    have K17 := K0.ext Ex8
    have A18 : OwnKit.Av Z h3 a4 k5 .long [.long (0 : Int64)] := A9
    show OwnKit.Go κ h3 1 1 11 #[.val (.ref b), .val (.int (64 : Int32))] [.ref a4, .ref b]
    refine OwnKit.putfield K d_jdk_92m6_11 (host := "") (Or.inl (hw _ (List.mem_of_getElem? (i := 30) rfl))) Via.refl F16 E13 (Or.inl (hw _ (List.mem_of_getElem? (i := 31) rfl))) (hw _ (List.mem_of_getElem? (i := 11) rfl)) (show parseFieldDescriptor "[J" = some ((.array .long)) from by decide +kernel) rfl rfl G_b ?_
    intro h19 W20
    have E21 := E13.wr W20
    have F22 := Fld.other W20 F14 (Or.inr (RoadKit.slot_ne (t := .int) (t' := (.array .long)) (Or.inl (hw _ (List.mem_of_getElem? (i := 18) rfl))) (Or.inl (hw _ (List.mem_of_getElem? (i := 31) rfl))) (by decide) (by decide +kernel) (by decide +kernel)))
    have F23 := Fld.other W20 F15 (Or.inr (RoadKit.slot_ne (t := .boolean) (t' := (.array .long)) (Or.inl (hw _ (List.mem_of_getElem? (i := 20) rfl))) (Or.inl (hw _ (List.mem_of_getElem? (i := 31) rfl))) (by decide) (by decide +kernel) (by decide +kernel)))
    have F24 := Fld.same W20 F16
    have K25 := K17.wr W20 (Or.inl (by simp))
    have A26 := A18.other W20 (Ne.symm ne11)
    have E27 := E10.wr W20
    show OwnKit.Go κ h19 1 1 14 #[.val (.ref b), .val (.int (64 : Int32))] []
    refine OwnKit.return0 K d_jdk_92m6_14  ?_ (Nat.le_of_ble_eq_true rfl) (Nat.le_of_ble_eq_true rfl)
    exact ⟨_, _, rfl, A26, K25, L12, F24, F22, F23⟩
  · intro m; first | rfl | (simp [entryFrame, mkF, argsToLocals, Value.category]; done)

theorem d_jdk_92m4_0 : decode jdk_92_method_4_code 0 = .ok (.aload_n 0, 1) := by decide +kernel
theorem d_jdk_92m4_1 : decode jdk_92_method_4_code 1 = .ok (.invokespecial 21, 3) := by decide +kernel
theorem d_jdk_92m4_4 : decode jdk_92_method_4_code 4 = .ok (.aload_n 0, 1) := by decide +kernel
theorem d_jdk_92m4_5 : decode jdk_92_method_4_code 5 = .ok (.iconst 0, 1) := by decide +kernel
theorem d_jdk_92m4_6 : decode jdk_92_method_4_code 6 = .ok (.putfield 7, 3) := by decide +kernel
theorem d_jdk_92m4_9 : decode jdk_92_method_4_code 9 = .ok (.aload_n 0, 1) := by decide +kernel
theorem d_jdk_92m4_10 : decode jdk_92_method_4_code 10 = .ok (.iconst 0, 1) := by decide +kernel
theorem d_jdk_92m4_11 : decode jdk_92_method_4_code 11 = .ok (.putfield 24, 3) := by decide +kernel
theorem d_jdk_92m4_14 : decode jdk_92_method_4_code 14 = .ok (.aload_n 0, 1) := by decide +kernel
theorem d_jdk_92m4_15 : decode jdk_92_method_4_code 15 = .ok (.bipush 64, 2) := by decide +kernel
theorem d_jdk_92m4_17 : decode jdk_92_method_4_code 17 = .ok (.invokevirtual 27, 3) := by decide +kernel
theorem d_jdk_92m4_20 : decode jdk_92_method_4_code 20 = .ok (.aload_n 0, 1) := by decide +kernel
theorem d_jdk_92m4_21 : decode jdk_92_method_4_code 21 = .ok (.iconst 0, 1) := by decide +kernel
theorem d_jdk_92m4_22 : decode jdk_92_method_4_code 22 = .ok (.putfield 24, 3) := by decide +kernel
theorem d_jdk_92m4_25 : decode jdk_92_method_4_code 25 = .ok (.return_, 1) := by decide +kernel
set_option maxRecDepth 65536 in
set_option maxHeartbeats 40000000 in
theorem c_bs0 (l : Launch) (Z : State) (a0 : Array Value) (hw : ∀ d ∈ tables_1, d.before a0 Z = true) (n0 : Nat) (h0 : Heap) (b : Addr) (E_b : Exa Z h0 b "java/util/BitSet") (G_b : n0 ≤ b) (F_b_wordsInUse : Fld Z h0 b "java/util/BitSet" "wordsInUse" "I" (.int (0 : Int32))) (F_b_sizeIsSticky : Fld Z h0 b "java/util/BitSet" "sizeIsSticky" "Z" (.int (0 : Int32))) (F_b_words : Fld Z h0 b "java/util/BitSet" "words" "[J" (.null)) :
    OwnKit.Con false l Z n0 (⟨"java/util/BitSet", "<init>", "()V"⟩ : MethodName) jdk_92_method_4_code 1 none ({ frames := 2, cells := 1, slots := 1, locals := 26 } : Room) #[.ref b] h0 (QBs0 Z n0 b h0) := by
  refine OwnKit.Con.of (by first | (refine plainFor_of_name ?_; simp [plainName, overriddenIn]; done) | decide +kernel) ?_ ?_
  · intro κ hwd K0
    have K : OwnKit.Ok κ l Z n0 "java/util/BitSet" "<init>" jdk_92_method_4_code 1 none ({ frames := 2, cells := 1, slots := 1, locals := 26 } : Room) (QBs0 Z n0 b h0) := K0
    have ef : (entryFrame κ.m #[.ref b] 1).locals = #[.val (.ref b)] := by first | (simp [entryFrame, argsToLocals, Value.category]; done) | rfl
    rw [ef]; clear ef K0
    have K0 := Keep.refl h0 [b]
    show OwnKit.Go κ h0 0 0 0 #[.val (.ref b)] []
    refine OwnKit.aloadN K d_jdk_92m4_0 rfl rfl ?_
    show OwnKit.Go κ h0 0 0 1 #[.val (.ref b)] [.ref b]
    refine OwnKit.invO (W := 0) K d_jdk_92m4_1 (hw _ (List.mem_of_getElem? (i := 16) rfl)) (hw _ (List.mem_of_getElem? (i := 8) rfl)) (hw _ (List.mem_of_getElem? (i := 9) rfl)) rfl (Nat.le_of_ble_eq_true rfl) (Nat.le_of_ble_eq_true rfl) (Nat.le_of_ble_eq_true rfl) ?_
    show OwnKit.Go κ h0 0 0 4 #[.val (.ref b)] []
    refine OwnKit.aloadN K d_jdk_92m4_4 rfl rfl ?_
    show OwnKit.Go κ h0 0 0 5 #[.val (.ref b)] [.ref b]
    refine OwnKit.iconst K d_jdk_92m4_5 ?_
    show OwnKit.Go κ h0 0 0 6 #[.val (.ref b)] [.int (0 : Int32), .ref b]
    refine OwnKit.putfield K d_jdk_92m4_6 (host := "") (Or.inl (hw _ (List.mem_of_getElem? (i := 17) rfl))) Via.refl F_b_wordsInUse E_b (Or.inl (hw _ (List.mem_of_getElem? (i := 18) rfl))) (hw _ (List.mem_of_getElem? (i := 11) rfl)) (show parseFieldDescriptor "I" = some (.int) from by decide +kernel) rfl rfl G_b ?_
    intro h1 W2
    have E3 := E_b.wr W2
    have F4 := Fld.same W2 F_b_wordsInUse
    have F5 := Fld.other W2 F_b_sizeIsSticky (Or.inr (RoadKit.slot_ne (t := .boolean) (t' := .int) (Or.inl (hw _ (List.mem_of_getElem? (i := 20) rfl))) (Or.inl (hw _ (List.mem_of_getElem? (i := 18) rfl))) (by decide) (by decide +kernel) (by decide +kernel)))
    have F6 := Fld.other W2 F_b_words (Or.inr (RoadKit.slot_ne (t := (.array .long)) (t' := .int) (Or.inl (hw _ (List.mem_of_getElem? (i := 31) rfl))) (Or.inl (hw _ (List.mem_of_getElem? (i := 18) rfl))) (by decide) (by decide +kernel) (by decide +kernel)))
    have K7 := K0.wr W2 (Or.inl (by simp))
    show OwnKit.Go κ h1 0 0 9 #[.val (.ref b)] []
    refine OwnKit.aloadN K d_jdk_92m4_9 rfl rfl ?_
    show OwnKit.Go κ h1 0 0 10 #[.val (.ref b)] [.ref b]
    refine OwnKit.iconst K d_jdk_92m4_10 ?_
    show OwnKit.Go κ h1 0 0 11 #[.val (.ref b)] [.int (0 : Int32), .ref b]
    refine OwnKit.putfield K d_jdk_92m4_11 (host := "") (Or.inl (hw _ (List.mem_of_getElem? (i := 19) rfl))) Via.refl F5 E3 (Or.inl (hw _ (List.mem_of_getElem? (i := 20) rfl))) (hw _ (List.mem_of_getElem? (i := 11) rfl)) (show parseFieldDescriptor "Z" = some (.boolean) from by decide +kernel) rfl rfl G_b ?_
    intro h8 W9
    have E10 := E3.wr W9
    have F11 := Fld.other W9 F4 (Or.inr (RoadKit.slot_ne (t := .int) (t' := .boolean) (Or.inl (hw _ (List.mem_of_getElem? (i := 18) rfl))) (Or.inl (hw _ (List.mem_of_getElem? (i := 20) rfl))) (by decide) (by decide +kernel) (by decide +kernel)))
    have F12 := Fld.same W9 F5
    have F13 := Fld.other W9 F6 (Or.inr (RoadKit.slot_ne (t := (.array .long)) (t' := .boolean) (Or.inl (hw _ (List.mem_of_getElem? (i := 31) rfl))) (Or.inl (hw _ (List.mem_of_getElem? (i := 20) rfl))) (by decide) (by decide +kernel) (by decide +kernel)))
    have K14 := K7.wr W9 (Or.inl (by simp))
    show OwnKit.Go κ h8 0 0 14 #[.val (.ref b)] []
    refine OwnKit.aloadN K d_jdk_92m4_14 rfl rfl ?_
    show OwnKit.Go κ h8 0 0 15 #[.val (.ref b)] [.ref b]
    refine OwnKit.bipush K d_jdk_92m4_15 ?_
    show OwnKit.Go κ h8 0 0 17 #[.val (.ref b)] [.int (64 : Int32), .ref b]
    refine OwnKit.invP (y := (⟨"java/util/BitSet", "initWords", "(I)V"⟩ : MethodName)) (argsL := [.int (64 : Int32)]) (rest := []) K (c_iw l Z a0 hw n0 h8 b E10 G_b F11 F12 F13) d_jdk_92m4_17 E10 (hw _ (List.mem_of_getElem? (i := 21) rfl)) (hw _ (List.mem_of_getElem? (i := 22) rfl)) (hw _ (List.mem_of_getElem? (i := 24) rfl)) (hw _ (List.mem_of_getElem? (i := 23) rfl)) (hw _ (List.mem_of_getElem? (i := 25) rfl)) (hw _ (List.mem_of_getElem? (i := 12) rfl)) (by decide) (lenOf (by decide +kernel : parseMethodDescriptor "(I)V" = some ⟨[.int], none⟩) rfl) rfl rfl (W := 0) (Nat.le_of_ble_eq_true rfl) (Nat.le_of_ble_eq_true rfl) (Nat.le_of_ble_eq_true rfl) (Nat.le_of_ble_eq_true rfl) (Nat.le_of_ble_eq_true rfl) ?_
    rintro _ h15 ⟨wa, kw, rfl, A_w, Kx, gw, Fw, Fu, Fs⟩ g16
    have gw2 : h0.size ≤ wa := Nat.le_trans K14.1 gw
    have nbw : b ≠ wa := fun e => absurd E_b.lt (by rw [e]; exact Nat.not_lt.mpr (by omega))
    have Gwa : n0 ≤ wa := Nat.le_trans G_b (Nat.le_trans (Nat.le_of_lt E_b.lt) gw2)
    have E17 := E10.keep Kx
    have K18 := K14.trans Kx (allS (Or.inl (by simp)) all0)
    show OwnKit.Go κ h15 1 1 20 #[.val (.ref b)] []
    refine OwnKit.aloadN K d_jdk_92m4_20 rfl rfl ?_
    show OwnKit.Go κ h15 1 1 21 #[.val (.ref b)] [.ref b]
    refine OwnKit.iconst K d_jdk_92m4_21 ?_
    show OwnKit.Go κ h15 1 1 22 #[.val (.ref b)] [.int (0 : Int32), .ref b]
    refine OwnKit.putfield K d_jdk_92m4_22 (host := "") (Or.inl (hw _ (List.mem_of_getElem? (i := 19) rfl))) Via.refl Fs E17 (Or.inl (hw _ (List.mem_of_getElem? (i := 20) rfl))) (hw _ (List.mem_of_getElem? (i := 11) rfl)) (show parseFieldDescriptor "Z" = some (.boolean) from by decide +kernel) rfl rfl G_b ?_
    intro h19 W20
    have E21 := E17.wr W20
    have K22 := K18.wr W20 (Or.inl (by simp))
    have A23 := A_w.other W20 (Ne.symm nbw)
    have F24 := Fld.other W20 Fw (Or.inr (RoadKit.slot_ne (t := (.array .long)) (t' := .boolean) (Or.inl (hw _ (List.mem_of_getElem? (i := 31) rfl))) (Or.inl (hw _ (List.mem_of_getElem? (i := 20) rfl))) (by decide) (by decide +kernel) (by decide +kernel)))
    have F25 := Fld.other W20 Fu (Or.inr (RoadKit.slot_ne (t := .int) (t' := .boolean) (Or.inl (hw _ (List.mem_of_getElem? (i := 18) rfl))) (Or.inl (hw _ (List.mem_of_getElem? (i := 20) rfl))) (by decide) (by decide +kernel) (by decide +kernel)))
    have F26 := Fld.same W20 Fs
    show OwnKit.Go κ h19 1 1 25 #[.val (.ref b)] []
    refine OwnKit.return0 K d_jdk_92m4_25  ?_ (Nat.le_of_ble_eq_true rfl) (Nat.le_of_ble_eq_true rfl)
    exact ⟨wa, kw, rfl, ⟨E21, F24, F25, F26, A23, by decide, by decide, own_z1, G_b, Gwa, nbw⟩, K22, gw2⟩
  · intro m; first | rfl | (simp [entryFrame, mkF, argsToLocals, Value.category]; done)

theorem d_prog_13m1_0 : decode prog_13_method_1_code 0 = .ok (.aload_n 0, 1) := by decide +kernel
theorem d_prog_13m1_1 : decode prog_13_method_1_code 1 = .ok (.invokespecial 1, 3) := by decide +kernel
theorem d_prog_13m1_4 : decode prog_13_method_1_code 4 = .ok (.aload_n 0, 1) := by decide +kernel
theorem d_prog_13m1_5 : decode prog_13_method_1_code 5 = .ok (.new 7, 3) := by decide +kernel
theorem d_prog_13m1_8 : decode prog_13_method_1_code 8 = .ok (.dup, 1) := by decide +kernel
theorem d_prog_13m1_9 : decode prog_13_method_1_code 9 = .ok (.invokespecial 9, 3) := by decide +kernel
theorem d_prog_13m1_12 : decode prog_13_method_1_code 12 = .ok (.putfield 10, 3) := by decide +kernel
theorem d_prog_13m1_15 : decode prog_13_method_1_code 15 = .ok (.aload_n 0, 1) := by decide +kernel
theorem d_prog_13m1_16 : decode prog_13_method_1_code 16 = .ok (.bipush 16, 2) := by decide +kernel
theorem d_prog_13m1_18 : decode prog_13_method_1_code 18 = .ok (.newarray .int, 2) := by decide +kernel
theorem d_prog_13m1_20 : decode prog_13_method_1_code 20 = .ok (.putfield 16, 3) := by decide +kernel
theorem d_prog_13m1_23 : decode prog_13_method_1_code 23 = .ok (.return_, 1) := by decide +kernel
set_option maxRecDepth 65536 in
set_option maxHeartbeats 40000000 in
theorem c_ns0 (l : Launch) (Z : State) (a0 : Array Value) (hw : ∀ d ∈ tables_1, d.before a0 Z = true) (n0 : Nat) (h0 : Heap) (ns : Addr) (E_ns : Exa Z h0 ns "com/example/greasan/greasan/reasoner/NodeSet") (G_ns : n0 ≤ ns) (F_ns_held : Fld Z h0 ns "com/example/greasan/greasan/reasoner/NodeSet" "held" "Ljava/util/BitSet;" (.null)) (F_ns_added : Fld Z h0 ns "com/example/greasan/greasan/reasoner/NodeSet" "added" "[I" (.null)) (F_ns_size : Fld Z h0 ns "com/example/greasan/greasan/reasoner/NodeSet" "size" "I" (.int (0 : Int32))) :
    OwnKit.Con false l Z n0 (⟨"com/example/greasan/greasan/reasoner/NodeSet", "<init>", "()V"⟩ : MethodName) prog_13_method_1_code 1 none ({ frames := 3, cells := 3, slots := 20, locals := 40 } : Room) #[.ref ns] h0 (QNs0 Z n0 ns) := by
  refine OwnKit.Con.of (by first | (refine plainFor_of_name ?_; simp [plainName, overriddenIn]; done) | decide +kernel) ?_ ?_
  · intro κ hwd K0
    have K : OwnKit.Ok κ l Z n0 "com/example/greasan/greasan/reasoner/NodeSet" "<init>" prog_13_method_1_code 1 none ({ frames := 3, cells := 3, slots := 20, locals := 40 } : Room) (QNs0 Z n0 ns) := K0
    have ef : (entryFrame κ.m #[.ref ns] 1).locals = #[.val (.ref ns)] := by first | (simp [entryFrame, argsToLocals, Value.category]; done) | rfl
    rw [ef]; clear ef K0
    show OwnKit.Go κ h0 0 0 0 #[.val (.ref ns)] []
    refine OwnKit.aloadN K d_prog_13m1_0 rfl rfl ?_
    show OwnKit.Go κ h0 0 0 1 #[.val (.ref ns)] [.ref ns]
    refine OwnKit.invO (W := 0) K d_prog_13m1_1 (hw _ (List.mem_of_getElem? (i := 7) rfl)) (hw _ (List.mem_of_getElem? (i := 8) rfl)) (hw _ (List.mem_of_getElem? (i := 9) rfl)) rfl (Nat.le_of_ble_eq_true rfl) (Nat.le_of_ble_eq_true rfl) (Nat.le_of_ble_eq_true rfl) ?_
    show OwnKit.Go κ h0 0 0 4 #[.val (.ref ns)] []
    refine OwnKit.aloadN K d_prog_13m1_4 rfl rfl ?_
    show OwnKit.Go κ h0 0 0 5 #[.val (.ref ns)] [.ref ns]
    refine OwnKit.newObj K d_prog_13m1_5 (hw _ (List.mem_of_getElem? (i := 10) rfl)) (hw _ (List.mem_of_getElem? (i := 11) rfl)) (hw _ (List.mem_of_getElem? (i := 12) rfl)) (Nat.le_of_ble_eq_true rfl) (Nat.le_of_ble_eq_true rfl) ?_
    intro h1 a2 g3 G4 Ex5 E6 D7 U8
    have ne9 : ns ≠ a2 := by rw [g3]; exact Nat.ne_of_lt E_ns.lt
    have E10 := E_ns.ext Ex5
    have F11 := F_ns_held.ext Ex5
    have F12 := F_ns_added.ext Ex5
    have F13 := F_ns_size.ext Ex5
    have F14 : Fld Z h1 a2 "java/util/BitSet" "wordsInUse" "I" (.int (0 : Int32)) := D7 (Or.inl (hw _ (List.mem_of_getElem? (i := 18) rfl))) (show parseFieldDescriptor "I" = some (.int) from by decide +kernel)
    have F15 : Fld Z h1 a2 "java/util/BitSet" "sizeIsSticky" "Z" (.int (0 : Int32)) := D7 (Or.inl (hw _ (List.mem_of_getElem? (i := 20) rfl))) (show parseFieldDescriptor "Z" = some (.boolean) from by decide +kernel)
    have F16 : Fld Z h1 a2 "java/util/BitSet" "words" "[J" (.null) := D7 (Or.inl (hw _ (List.mem_of_getElem? (i := 31) rfl))) (show parseFieldDescriptor "[J" = some ((.array .long)) from by decide +kernel)
    show OwnKit.Go κ h1 1 3 8 #[.val (.ref ns)] [.ref a2, .ref ns]
    refine OwnKit.dup K d_prog_13m1_8 rfl ?_
    show OwnKit.Go κ h1 1 3 9 #[.val (.ref ns)] [.ref a2, .ref a2, .ref ns]
    refine OwnKit.invC (y := (⟨"java/util/BitSet", "<init>", "()V"⟩ : MethodName)) (argsL := []) (rest := [.ref a2, .ref ns]) K (c_bs0 l Z a0 hw n0 h1 a2 E6 G4 F14 F15 F16) d_prog_13m1_9 rfl (hw _ (List.mem_of_getElem? (i := 13) rfl)) (hw _ (List.mem_of_getElem? (i := 14) rfl)) (hw _ (List.mem_of_getElem? (i := 15) rfl)) (hw _ (List.mem_of_getElem? (i := 12) rfl)) (by decide) (lenOf (by decide +kernel : parseMethodDescriptor "()V" = some ⟨[], none⟩) rfl) rfl rfl (W := 2) (Nat.le_of_ble_eq_true rfl) (Nat.le_of_ble_eq_true rfl) (Nat.le_of_ble_eq_true rfl) (Nat.le_of_ble_eq_true rfl) (Nat.le_of_ble_eq_true rfl) ?_
    rintro _ h17 ⟨wa, kw, rfl, B1, Kx, gw⟩ g18
    have ne19 : ns ≠ wa := fun e => absurd E10.lt (by rw [e]; exact Nat.not_lt.mpr (by omega))
    have E20 := E10.keep Kx
    have F21 := F11.keep Kx (ninS ne9 nin0)
    have F22 := F12.keep Kx (ninS ne9 nin0)
    have F23 := F13.keep Kx (ninS ne9 nin0)
    have E24 := E6.keep Kx
    show OwnKit.Go κ h17 2 4 12 #[.val (.ref ns)] [.ref a2, .ref ns]
    refine OwnKit.putfield K d_prog_13m1_12 (host := "") (Or.inl (hw _ (List.mem_of_getElem? (i := 32) rfl))) Via.refl F21 E20 (Or.inr ⟨(hw _ (List.mem_of_getElem? (i := 33) rfl)), rfl, rfl⟩) (hw _ (List.mem_of_getElem? (i := 2) rfl)) (show parseFieldDescriptor "Ljava/util/BitSet;" = some ((.object "java/util/BitSet")) from by decide +kernel) rfl rfl G_ns ?_
    intro h25 W26
    have E27 := E20.wr W26
    have F28 := Fld.same W26 F21
    have F29 := Fld.other W26 F22 (Or.inr (RoadKit.slot_ne (t := (.array .int)) (t' := (.object "java/util/BitSet")) (Or.inl (hw _ (List.mem_of_getElem? (i := 36) rfl))) (Or.inr (hw _ (List.mem_of_getElem? (i := 33) rfl))) (by decide) (by decide +kernel) (by decide +kernel)))
    have F30 := Fld.other W26 F23 (Or.inr (RoadKit.slot_ne (t := .int) (t' := (.object "java/util/BitSet")) (Or.inl (hw _ (List.mem_of_getElem? (i := 43) rfl))) (Or.inr (hw _ (List.mem_of_getElem? (i := 33) rfl))) (by decide) (by decide +kernel) (by decide +kernel)))
    have A31 := B1.other W26 (Ne.symm ne9) (Ne.symm ne19)
    show OwnKit.Go κ h25 2 4 15 #[.val (.ref ns)] []
    refine OwnKit.aloadN K d_prog_13m1_15 rfl rfl ?_
    show OwnKit.Go κ h25 2 4 16 #[.val (.ref ns)] [.ref ns]
    refine OwnKit.bipush K d_prog_13m1_16 ?_
    show OwnKit.Go κ h25 2 4 18 #[.val (.ref ns)] [.int (16 : Int32), .ref ns]
    refine OwnKit.newArrV (cap := 16) K d_prog_13m1_18 (hw _ (List.mem_of_getElem? (i := 34) rfl)) (by decide) (by decide) (by decide) (Nat.le_of_ble_eq_true rfl) (Nat.le_of_ble_eq_true rfl) ?_
    intro h32 a33 k34 g35 G36 Ex37 A38 E39
    have ne40 : ns ≠ a33 := by rw [g35]; exact Nat.ne_of_lt E27.lt
    have ne41 : a2 ≠ a33 := by rw [g35]; exact Nat.ne_of_lt A31.1.lt
    have E42 := E27.ext Ex37
    have F43 := F28.ext Ex37
    have F44 := F29.ext Ex37
    have F45 := F30.ext Ex37
    have A46 := A31.ext Ex37
    have A47 : OwnKit.Av Z h32 a33 k34 .int [.int (0 : Int32), .int (0 : Int32), .int (0 : Int32), .int (0 : Int32), .int (0 : Int32), .int (0 : Int32), .int (0 : Int32), .int (0 : Int32), .int (0 : Int32), .int (0 : Int32), .int (0 : Int32), .int (0 : Int32), .int (0 : Int32), .int (0 : Int32), .int (0 : Int32), .int (0 : Int32)] := A38
    show OwnKit.Go κ h32 3 20 20 #[.val (.ref ns)] [.ref a33, .ref ns]
    refine OwnKit.putfield K d_prog_13m1_20 (host := "") (Or.inl (hw _ (List.mem_of_getElem? (i := 35) rfl))) Via.refl F44 E42 (Or.inl (hw _ (List.mem_of_getElem? (i := 36) rfl))) (hw _ (List.mem_of_getElem? (i := 2) rfl)) (show parseFieldDescriptor "[I" = some ((.array .int)) from by decide +kernel) rfl rfl G_ns ?_
    intro h48 W49
    have E50 := E42.wr W49
    have F51 := Fld.other W49 F43 (Or.inr (RoadKit.slot_ne (t := (.object "java/util/BitSet")) (t' := (.array .int)) (Or.inr (hw _ (List.mem_of_getElem? (i := 33) rfl))) (Or.inl (hw _ (List.mem_of_getElem? (i := 36) rfl))) (by decide) (by decide +kernel) (by decide +kernel)))
    have F52 := Fld.same W49 F44
    have F53 := Fld.other W49 F45 (Or.inr (RoadKit.slot_ne (t := .int) (t' := (.array .int)) (Or.inl (hw _ (List.mem_of_getElem? (i := 43) rfl))) (Or.inl (hw _ (List.mem_of_getElem? (i := 36) rfl))) (by decide) (by decide +kernel) (by decide +kernel)))
    have A54 := A46.other W49 (Ne.symm ne9) (Ne.symm ne19)
    have A55 := A47.other W49 (Ne.symm ne40)
    have E56 := E39.wr W49
    show OwnKit.Go κ h48 3 20 23 #[.val (.ref ns)] []
    refine OwnKit.return0 K d_prog_13m1_23  ?_ (Nat.le_of_ble_eq_true rfl) (Nat.le_of_ble_eq_true rfl)
    · have nwa : a33 ≠ wa := fun e => absurd A31.2.2.2.2.1.lt (by rw [← e, g35]; exact Nat.lt_irrefl _)
      exact ⟨rfl, a2, a33, wa, _, kw, [0], 0, List.replicate 16 0, ⟨E50, F51, F52, F53, A55, A54, own_none, by simp, by decide, G_ns, G36, ne9, ne40, ne19, (Ne.symm ne41), nwa⟩, rfl⟩
  · intro m; first | rfl | (simp [entryFrame, mkF, argsToLocals, Value.category]; done)

theorem d_prog_13m2_0 : decode prog_13_method_2_code 0 = .ok (.aload_n 0, 1) := by decide +kernel
theorem d_prog_13m2_1 : decode prog_13_method_2_code 1 = .ok (.getfield 10, 3) := by decide +kernel
theorem d_prog_13m2_4 : decode prog_13_method_2_code 4 = .ok (.iload_n 1, 1) := by decide +kernel
theorem d_prog_13m2_5 : decode prog_13_method_2_code 5 = .ok (.invokevirtual 20, 3) := by decide +kernel
theorem d_prog_13m2_8 : decode prog_13_method_2_code 8 = .ok (.ifCond .eq 5, 3) := by decide +kernel
theorem d_prog_13m2_11 : decode prog_13_method_2_code 11 = .ok (.iconst 0, 1) := by decide +kernel
theorem d_prog_13m2_12 : decode prog_13_method_2_code 12 = .ok (.ireturn, 1) := by decide +kernel
theorem d_prog_13m2_13 : decode prog_13_method_2_code 13 = .ok (.aload_n 0, 1) := by decide +kernel
theorem d_prog_13m2_14 : decode prog_13_method_2_code 14 = .ok (.getfield 10, 3) := by decide +kernel
theorem d_prog_13m2_17 : decode prog_13_method_2_code 17 = .ok (.iload_n 1, 1) := by decide +kernel
theorem d_prog_13m2_18 : decode prog_13_method_2_code 18 = .ok (.invokevirtual 24, 3) := by decide +kernel
theorem d_prog_13m2_21 : decode prog_13_method_2_code 21 = .ok (.aload_n 0, 1) := by decide +kernel
theorem d_prog_13m2_22 : decode prog_13_method_2_code 22 = .ok (.getfield 28, 3) := by decide +kernel
theorem d_prog_13m2_25 : decode prog_13_method_2_code 25 = .ok (.aload_n 0, 1) := by decide +kernel
theorem d_prog_13m2_26 : decode prog_13_method_2_code 26 = .ok (.getfield 16, 3) := by decide +kernel
theorem d_prog_13m2_29 : decode prog_13_method_2_code 29 = .ok (.arraylength, 1) := by decide +kernel
theorem d_prog_13m2_30 : decode prog_13_method_2_code 30 = .ok (.if_icmp .ne 20, 3) := by decide +kernel
theorem d_prog_13m2_50 : decode prog_13_method_2_code 50 = .ok (.aload_n 0, 1) := by decide +kernel
theorem d_prog_13m2_51 : decode prog_13_method_2_code 51 = .ok (.getfield 16, 3) := by decide +kernel
theorem d_prog_13m2_54 : decode prog_13_method_2_code 54 = .ok (.aload_n 0, 1) := by decide +kernel
theorem d_prog_13m2_55 : decode prog_13_method_2_code 55 = .ok (.dup, 1) := by decide +kernel
theorem d_prog_13m2_56 : decode prog_13_method_2_code 56 = .ok (.getfield 28, 3) := by decide +kernel
theorem d_prog_13m2_59 : decode prog_13_method_2_code 59 = .ok (.dup_x1, 1) := by decide +kernel
theorem d_prog_13m2_60 : decode prog_13_method_2_code 60 = .ok (.iconst 1, 1) := by decide +kernel
theorem d_prog_13m2_61 : decode prog_13_method_2_code 61 = .ok (.iadd, 1) := by decide +kernel
theorem d_prog_13m2_62 : decode prog_13_method_2_code 62 = .ok (.putfield 28, 3) := by decide +kernel
theorem d_prog_13m2_65 : decode prog_13_method_2_code 65 = .ok (.iload_n 1, 1) := by decide +kernel
theorem d_prog_13m2_66 : decode prog_13_method_2_code 66 = .ok (.iastore, 1) := by decide +kernel
theorem d_prog_13m2_67 : decode prog_13_method_2_code 67 = .ok (.iconst 1, 1) := by decide +kernel
theorem d_prog_13m2_68 : decode prog_13_method_2_code 68 = .ok (.ireturn, 1) := by decide +kernel
set_option maxRecDepth 65536 in
set_option maxHeartbeats 40000000 in
theorem c_add (l : Launch) (Z : State) (a0 : Array Value) (hw : ∀ d ∈ tables_1, d.before a0 Z = true) (n0 : Nat) (h0 : Heap) (ns : Addr) (xs : List Int32) (L : Nat) (x : Int32)  (hx : 0 ≤ x.toInt) (hx2 : x.toInt < 1048576) (hlt : xs.length < 16) (N0 : NSE Z h0 n0 ns xs L) (S__assertionsDisabled : Sta Z Z.heap "java/util/BitSet" "$assertionsDisabled" "Z" (.int (1 : Int32))) :
    OwnKit.Con false l Z n0 (⟨"com/example/greasan/greasan/reasoner/NodeSet", "add", "(I)Z"⟩ : MethodName) prog_13_method_2_code 2 (some .boolean) ({ frames := 5, cells := 1, slots := own_grow L (own_wi x + 1), locals := 97 } : Room) #[.ref ns, .int x] h0 (QAdd Z n0 ns xs L x) := by
  refine OwnKit.Con.of (by first | (refine plainFor_of_name ?_; simp [plainName, overriddenIn]; done) | decide +kernel) ?_ ?_
  · intro κ hwd K0
    have K : OwnKit.Ok κ l Z n0 "com/example/greasan/greasan/reasoner/NodeSet" "add" prog_13_method_2_code 2 (some .boolean) ({ frames := 5, cells := 1, slots := own_grow L (own_wi x + 1), locals := 97 } : Room) (QAdd Z n0 ns xs L x) := K0
    have ef : (entryFrame κ.m #[.ref ns, .int x] 2).locals = #[.val (.ref ns), .val (.int x)] := by first | (simp [entryFrame, argsToLocals, Value.category]; done) | rfl
    rw [ef]; clear ef K0
    obtain ⟨b, ad, wa, ka, kw, ws, u, tl, ⟨E_n, F_h, F_a, F_z, A_a, B1, hmem, hrng, hle, G_n, G_a, nnb, nna, nnw, nab, naw⟩, hL⟩ := id N0
    have E_bb := B1.1
    have hsz : (Int32.ofNat xs.length).toInt = xs.length := len_toInt (by omega)
    show OwnKit.Go κ h0 0 0 0 #[.val (.ref ns), .val (.int x)] []
    refine OwnKit.aloadN K d_prog_13m2_0 rfl rfl ?_
    show OwnKit.Go κ h0 0 0 1 #[.val (.ref ns), .val (.int x)] [.ref ns]
    refine OwnKit.getfield K d_prog_13m2_1 (host := "") (Or.inl (hw _ (List.mem_of_getElem? (i := 32) rfl))) Via.refl F_h ?_
    show OwnKit.Go κ h0 0 0 4 #[.val (.ref ns), .val (.int x)] [.ref b]
    refine OwnKit.iloadN K d_prog_13m2_4 rfl ?_
    show OwnKit.Go κ h0 0 0 5 #[.val (.ref ns), .val (.int x)] [.int x, .ref b]
    refine OwnKit.invV (y := (⟨"java/util/BitSet", "get", "(I)Z"⟩ : MethodName)) (z := (⟨"java/util/BitSet", "get", "(I)Z"⟩ : MethodName)) (argsL := [.int x]) (rest := []) K (c_get l Z a0 hw n0 h0 b wa kw ws u x  hx B1 S__assertionsDisabled) d_prog_13m2_5 E_bb (hw _ (List.mem_of_getElem? (i := 54) rfl)) (hw _ (List.mem_of_getElem? (i := 55) rfl)) (OwnKit.nfS (hw _ (List.mem_of_getElem? (i := 57) rfl))) (hw _ (List.mem_of_getElem? (i := 57) rfl)) (hw _ (List.mem_of_getElem? (i := 56) rfl)) (hw _ (List.mem_of_getElem? (i := 58) rfl)) (hw _ (List.mem_of_getElem? (i := 12) rfl)) (by decide) (lenOf (by decide +kernel : parseMethodDescriptor "(I)Z" = some ⟨[.int], some .boolean⟩) rfl) rfl rfl (W := 0) (Nat.le_of_ble_eq_true rfl) (Nat.le_of_ble_eq_true rfl) (Nat.le_of_ble_eq_true rfl) (Nat.le_of_ble_eq_true rfl) (Nat.le_of_ble_eq_true rfl) ?_
    rintro _ h1 ⟨z, rfl, hz, rfl⟩ g2
    show OwnKit.Go κ h0 0 0 8 #[.val (.ref ns), .val (.int x)] [.int z]
    refine OwnKit.ifeq K d_prog_13m2_8 (by decide) (pc' := 13) rfl  (fun b3 => ?_) (fun b3 => ?_)
    · show OwnKit.Go κ h0 0 0 13 #[.val (.ref ns), .val (.int x)] []
      refine OwnKit.aloadN K d_prog_13m2_13 rfl rfl ?_
      show OwnKit.Go κ h0 0 0 14 #[.val (.ref ns), .val (.int x)] [.ref ns]
      refine OwnKit.getfield K d_prog_13m2_14 (host := "") (Or.inl (hw _ (List.mem_of_getElem? (i := 32) rfl))) Via.refl F_h ?_
      show OwnKit.Go κ h0 0 0 17 #[.val (.ref ns), .val (.int x)] [.ref b]
      refine OwnKit.iloadN K d_prog_13m2_17 rfl ?_
      show OwnKit.Go κ h0 0 0 18 #[.val (.ref ns), .val (.int x)] [.int x, .ref b]
      refine OwnKit.invV (y := (⟨"java/util/BitSet", "set", "(I)V"⟩ : MethodName)) (z := (⟨"java/util/BitSet", "set", "(I)V"⟩ : MethodName)) (argsL := [.int x]) (rest := []) K (c_set l Z a0 hw n0 h0 b wa kw ws u x  hx hx2 B1 S__assertionsDisabled) d_prog_13m2_18 E_bb (hw _ (List.mem_of_getElem? (i := 65) rfl)) (hw _ (List.mem_of_getElem? (i := 66) rfl)) (OwnKit.nfS (hw _ (List.mem_of_getElem? (i := 68) rfl))) (hw _ (List.mem_of_getElem? (i := 68) rfl)) (hw _ (List.mem_of_getElem? (i := 67) rfl)) (hw _ (List.mem_of_getElem? (i := 69) rfl)) (hw _ (List.mem_of_getElem? (i := 12) rfl)) (by decide) (lenOf (by decide +kernel : parseMethodDescriptor "(I)V" = some ⟨[.int], none⟩) rfl) rfl rfl (W := 0) (Nat.le_of_ble_eq_true rfl) (Nat.le_of_ble_eq_true rfl) (Nat.le_of_ble_eq_true rfl) (Nat.le_of_ble_eq_true rfl) (by show 0 + own_grow ws.length (own_wi x + 1) ≤ own_grow L (own_wi x + 1); rw [hL]; omega) ?_
      rintro _ h4 ⟨wb, kb, ws2, u2, rfl, B2, Kx, hor, hl2, hmem2⟩ g5
      have nnwb : ns ≠ wb := fun e => hor.elim (fun q => nnw (e.trans q)) (fun q => absurd E_n.lt (by rw [e]; exact Nat.not_lt.mpr (by omega)))
      have nawb : ad ≠ wb := fun e => hor.elim (fun q => naw (e.trans q)) (fun q => absurd A_a.lt (by rw [e]; exact Nat.not_lt.mpr (by omega)))
      have E6 := E_n.keep Kx
      have F7 := F_h.keep Kx (ninS nnb (ninS nnw nin0))
      have F8 := F_a.keep Kx (ninS nnb (ninS nnw nin0))
      have F9 := F_z.keep Kx (ninS nnb (ninS nnw nin0))
      have A10 := A_a.keep Kx (ninS nab (ninS naw nin0))
      show OwnKit.Go κ h4 1 (0 + own_grow ws.length (own_wi x + 1)) 21 #[.val (.ref ns), .val (.int x)] []
      refine OwnKit.aloadN K d_prog_13m2_21 rfl rfl ?_
      show OwnKit.Go κ h4 1 (0 + own_grow ws.length (own_wi x + 1)) 22 #[.val (.ref ns), .val (.int x)] [.ref ns]
      refine OwnKit.getfield K d_prog_13m2_22 (host := "") (Or.inl (hw _ (List.mem_of_getElem? (i := 42) rfl))) Via.refl F9 ?_
      show OwnKit.Go κ h4 1 (0 + own_grow ws.length (own_wi x + 1)) 25 #[.val (.ref ns), .val (.int x)] [.int (Int32.ofNat xs.length)]
      refine OwnKit.aloadN K d_prog_13m2_25 rfl rfl ?_
      show OwnKit.Go κ h4 1 (0 + own_grow ws.length (own_wi x + 1)) 26 #[.val (.ref ns), .val (.int x)] [.ref ns, .int (Int32.ofNat xs.length)]
      refine OwnKit.getfield K d_prog_13m2_26 (host := "") (Or.inl (hw _ (List.mem_of_getElem? (i := 35) rfl))) Via.refl F8 ?_
      show OwnKit.Go κ h4 1 (0 + own_grow ws.length (own_wi x + 1)) 29 #[.val (.ref ns), .val (.int x)] [.ref ad, .int (Int32.ofNat xs.length)]
      refine OwnKit.lenV K d_prog_13m2_29 A10 ?_
      show OwnKit.Go κ h4 1 (0 + own_grow ws.length (own_wi x + 1)) 30 #[.val (.ref ns), .val (.int x)] [.int (Int32.ofNat ((xs ++ tl).map Value.int).length), .int (Int32.ofNat xs.length)]
      refine OwnKit.icmpne K d_prog_13m2_30 (by decide) (pc' := 50) rfl  (fun b11 => ?_) (fun b11 => ?_)
      · show OwnKit.Go κ h4 1 (0 + own_grow ws.length (own_wi x + 1)) 50 #[.val (.ref ns), .val (.int x)] []
        refine OwnKit.aloadN K d_prog_13m2_50 rfl rfl ?_
        show OwnKit.Go κ h4 1 (0 + own_grow ws.length (own_wi x + 1)) 51 #[.val (.ref ns), .val (.int x)] [.ref ns]
        refine OwnKit.getfield K d_prog_13m2_51 (host := "") (Or.inl (hw _ (List.mem_of_getElem? (i := 35) rfl))) Via.refl F8 ?_
        show OwnKit.Go κ h4 1 (0 + own_grow ws.length (own_wi x + 1)) 54 #[.val (.ref ns), .val (.int x)] [.ref ad]
        refine OwnKit.aloadN K d_prog_13m2_54 rfl rfl ?_
        show OwnKit.Go κ h4 1 (0 + own_grow ws.length (own_wi x + 1)) 55 #[.val (.ref ns), .val (.int x)] [.ref ns, .ref ad]
        refine OwnKit.dup K d_prog_13m2_55 rfl ?_
        show OwnKit.Go κ h4 1 (0 + own_grow ws.length (own_wi x + 1)) 56 #[.val (.ref ns), .val (.int x)] [.ref ns, .ref ns, .ref ad]
        refine OwnKit.getfield K d_prog_13m2_56 (host := "") (Or.inl (hw _ (List.mem_of_getElem? (i := 42) rfl))) Via.refl F9 ?_
        show OwnKit.Go κ h4 1 (0 + own_grow ws.length (own_wi x + 1)) 59 #[.val (.ref ns), .val (.int x)] [.int (Int32.ofNat xs.length), .ref ns, .ref ad]
        refine OwnKit.dupX1 K d_prog_13m2_59 rfl rfl ?_
        show OwnKit.Go κ h4 1 (0 + own_grow ws.length (own_wi x + 1)) 60 #[.val (.ref ns), .val (.int x)] [.int (Int32.ofNat xs.length), .ref ns, .int (Int32.ofNat xs.length), .ref ad]
        refine OwnKit.iconst K d_prog_13m2_60 ?_
        show OwnKit.Go κ h4 1 (0 + own_grow ws.length (own_wi x + 1)) 61 #[.val (.ref ns), .val (.int x)] [.int (1 : Int32), .int (Int32.ofNat xs.length), .ref ns, .int (Int32.ofNat xs.length), .ref ad]
        refine OwnKit.iadd K d_prog_13m2_61 ?_
        show OwnKit.Go κ h4 1 (0 + own_grow ws.length (own_wi x + 1)) 62 #[.val (.ref ns), .val (.int x)] [.int ((Int32.ofNat xs.length) + (1 : Int32)), .ref ns, .int (Int32.ofNat xs.length), .ref ad]
        refine OwnKit.putfield K d_prog_13m2_62 (host := "") (Or.inl (hw _ (List.mem_of_getElem? (i := 42) rfl))) Via.refl F9 E6 (Or.inl (hw _ (List.mem_of_getElem? (i := 43) rfl))) (hw _ (List.mem_of_getElem? (i := 2) rfl)) (show parseFieldDescriptor "I" = some (.int) from by decide +kernel) rfl rfl G_n ?_
        intro h12 W13
        have E14 := E6.wr W13
        have F15 := Fld.other W13 F7 (Or.inr (RoadKit.slot_ne (t := (.object "java/util/BitSet")) (t' := .int) (Or.inr (hw _ (List.mem_of_getElem? (i := 33) rfl))) (Or.inl (hw _ (List.mem_of_getElem? (i := 43) rfl))) (by decide) (by decide +kernel) (by decide +kernel)))
        have F16 := Fld.other W13 F8 (Or.inr (RoadKit.slot_ne (t := (.array .int)) (t' := .int) (Or.inl (hw _ (List.mem_of_getElem? (i := 36) rfl))) (Or.inl (hw _ (List.mem_of_getElem? (i := 43) rfl))) (by decide) (by decide +kernel) (by decide +kernel)))
        have F17 := Fld.same W13 F9
        have A18 := A10.other W13 (Ne.symm nna)
        have A19 := B2.other W13 (Ne.symm nnb) (Ne.symm nnwb)
        show OwnKit.Go κ h12 1 (0 + own_grow ws.length (own_wi x + 1)) 65 #[.val (.ref ns), .val (.int x)] [.int (Int32.ofNat xs.length), .ref ad]
        refine OwnKit.iloadN K d_prog_13m2_65 rfl ?_
        show OwnKit.Go κ h12 1 (0 + own_grow ws.length (own_wi x + 1)) 66 #[.val (.ref ns), .val (.int x)] [.int x, .int (Int32.ofNat xs.length), .ref ad]
        obtain ⟨t1, tl2, rfl⟩ : ∃ t1 tl2, tl = t1 :: tl2 := by cases tl with | nil => simp at hle; omega | cons a b => exact ⟨a, b, rfl⟩
        simp only [List.length_cons] at hle
        refine OwnKit.iastoreV K d_prog_13m2_66 A18 (by omega) (by first | omega | (simp only [List.length_map, List.length_append, List.length_replicate, List.length_set, List.length_cons, List.length_nil]; omega) | (simp; done) | (simp; omega)) G_a ?_
        intro h20 W9 A9
        have A10 : OwnKit.Av Z h20 ad ka .int (((xs ++ [x]) ++ tl2).map Value.int) := by rw [hsz, Int.toNat_natCast] at A9; rw [← own_setAt]; exact A9
        have E21 := E14.wr W9
        have F22 := Fld.other W9 F15 (Or.inl nna)
        have F23 := Fld.other W9 F16 (Or.inl nna)
        have F24 := Fld.other W9 F17 (Or.inl nna)
        have A25 := A19.other W9 (Ne.symm nab) (Ne.symm nawb)
        show OwnKit.Go κ h20 1 (0 + own_grow ws.length (own_wi x + 1)) 67 #[.val (.ref ns), .val (.int x)] []
        refine OwnKit.iconst K d_prog_13m2_67 ?_
        show OwnKit.Go κ h20 1 (0 + own_grow ws.length (own_wi x + 1)) 68 #[.val (.ref ns), .val (.int x)] [.int (1 : Int32)]
        refine OwnKit.ireturn K d_prog_13m2_68 (Or.inr (Or.inl rfl)) rfl ?_ (by first | exact Nat.zero_le _ | exact Nat.le_of_ble_eq_true rfl) (by first | exact Nat.zero_le _ | (show 0 + own_grow ws.length (own_wi x + 1) ≤ own_grow L (own_wi x + 1); rw [hL]; omega))
        · have hin : ¬ x ∈ xs := fun e => hz.elim (fun q => by rw [q.2] at b3; exact absurd b3 (by decide)) (fun q => q.1 ((hmem x hx).mpr e))
          refine ⟨_, rfl, ?_, Or.inr ⟨hin, rfl⟩⟩
          rw [own_add, if_neg hin]
          exact ⟨b, ad, wb, ka, kb, ws2, u2, tl2, ⟨E21, F22, F23, by rw [own_lenApp]; exact F24, A10, A25, own_memApp hmem hmem2, own_rngApp hrng hx hx2, (by first | omega | (simp only [List.length_map, List.length_append, List.length_replicate, List.length_set, List.length_cons, List.length_nil]; omega) | (simp; done) | (simp; omega)), G_n, G_a, nnb, nna, nnwb, nab, nawb⟩, by rw [hl2, hL]⟩
      · exfalso
        have hb2 := congrArg Int32.toInt b11
        rw [hsz] at hb2
        have e16 : (Int32.ofNat (List.map Value.int (xs ++ tl)).length).toInt = 16 := by rw [List.length_map, List.length_append, hle]; decide
        omega
    · show OwnKit.Go κ h0 0 0 11 #[.val (.ref ns), .val (.int x)] []
      refine OwnKit.iconst K d_prog_13m2_11 ?_
      show OwnKit.Go κ h0 0 0 12 #[.val (.ref ns), .val (.int x)] [.int (0 : Int32)]
      refine OwnKit.ireturn K d_prog_13m2_12 (Or.inr (Or.inl rfl)) rfl ?_ (by first | exact Nat.zero_le _ | exact Nat.le_of_ble_eq_true rfl) (by first | exact Nat.zero_le _ | (show 0 + own_grow ws.length (own_wi x + 1) ≤ own_grow L (own_wi x + 1); rw [hL]; omega))
      · have hin : x ∈ xs := (hmem x hx).mp (hz.elim (fun q => q.1) (fun q => absurd q.2 b3))
        refine ⟨_, rfl, ?_, Or.inl ⟨hin, rfl⟩⟩
        have hl := own_hasLen ((hmem x hx).mpr hin)
        rw [own_add, if_pos hin, ← own_lenKeep (by omega)]
        exact N0
  · intro m; first | rfl | (simp [entryFrame, mkF, argsToLocals, Value.category]; done)

def QRec (Z : State) (b : Addr) (ws : List Int64) (u : Int32) (h0 : Heap) (v : Option Value) (h : Heap) : Prop := ∃ u' : Int32, v = none ∧ Wr h0 h b (RoadKit.slotOf Z "java/util/BitSet" "wordsInUse" "I") (.int u') ∧ 0 ≤ u'.toInt ∧ u'.toInt ≤ u.toInt ∧ ∀ (i : Nat) (w : Int64), u'.toInt ≤ (i : Int) → (i : Int) < u.toInt → ws[i]? = some w → w = 0
def QClr (Z : State) (n0 : Nat) (b wa : Addr) (kw : ClassId) (ws : List Int64) (x : Int32) (h0 : Heap) (v : Option Value) (h : Heap) : Prop := ∃ ws' u', v = none ∧ BS Z h n0 b wa kw ws' u' ∧ Keep h0 h [b, wa] ∧ ws'.length = ws.length ∧ ∀ y : Int32, 0 ≤ y.toInt → (own_has ws' y ↔ own_has ws y ∧ ¬ y = x)
def QNclr (Z : State) (n0 : Nat) (ns : Addr) (L : Nat) (v : Option Value) (h : Heap) : Prop := v = none ∧ NSE Z h n0 ns [] L
theorem own_memClr {ws ws2 : List Int64} {xs : List Int32} {j : Nat} {c : Int32} (h : ∀ y : Int32, 0 ≤ y.toInt → (own_has ws y ↔ y ∈ xs ∧ ¬ y ∈ xs.take j)) (h2 : ∀ y : Int32, 0 ≤ y.toInt → (own_has ws2 y ↔ own_has ws y ∧ ¬ y = c)) (hc : xs[j]? = some c) : ∀ y : Int32, 0 ≤ y.toInt → (own_has ws2 y ↔ y ∈ xs ∧ ¬ y ∈ xs.take (j + 1)) := fun y hy => by
  rw [h2 y hy, h y hy, List.take_add_one, hc]
  simp [and_assoc]

theorem d_jdk_92m3_0 : decode jdk_92_method_3_code 0 = .ok (.aload_n 0, 1) := by decide +kernel
theorem d_jdk_92m3_1 : decode jdk_92_method_3_code 1 = .ok (.getfield 7, 3) := by decide +kernel
theorem d_jdk_92m3_4 : decode jdk_92_method_3_code 4 = .ok (.iconst 1, 1) := by decide +kernel
theorem d_jdk_92m3_5 : decode jdk_92_method_3_code 5 = .ok (.isub, 1) := by decide +kernel
theorem d_jdk_92m3_6 : decode jdk_92_method_3_code 6 = .ok (.istore_n 1, 1) := by decide +kernel
theorem d_jdk_92m3_7 : decode jdk_92_method_3_code 7 = .ok (.iload_n 1, 1) := by decide +kernel
theorem d_jdk_92m3_8 : decode jdk_92_method_3_code 8 = .ok (.ifCond .lt 23, 3) := by decide +kernel
theorem d_jdk_92m3_11 : decode jdk_92_method_3_code 11 = .ok (.aload_n 0, 1) := by decide +kernel
theorem d_jdk_92m3_12 : decode jdk_92_method_3_code 12 = .ok (.getfield 11, 3) := by decide +kernel
theorem d_jdk_92m3_15 : decode jdk_92_method_3_code 15 = .ok (.iload_n 1, 1) := by decide +kernel
theorem d_jdk_92m3_16 : decode jdk_92_method_3_code 16 = .ok (.laload, 1) := by decide +kernel
theorem d_jdk_92m3_17 : decode jdk_92_method_3_code 17 = .ok (.lconst 0, 1) := by decide +kernel
theorem d_jdk_92m3_18 : decode jdk_92_method_3_code 18 = .ok (.lcmp, 1) := by decide +kernel
theorem d_jdk_92m3_19 : decode jdk_92_method_3_code 19 = .ok (.ifCond .eq 6, 3) := by decide +kernel
theorem d_jdk_92m3_22 : decode jdk_92_method_3_code 22 = .ok (.goto 9, 3) := by decide +kernel
theorem d_jdk_92m3_25 : decode jdk_92_method_3_code 25 = .ok (.iinc 1 (-1), 3) := by decide +kernel
theorem d_jdk_92m3_28 : decode jdk_92_method_3_code 28 = .ok (.goto (-21), 3) := by decide +kernel
theorem d_jdk_92m3_31 : decode jdk_92_method_3_code 31 = .ok (.aload_n 0, 1) := by decide +kernel
theorem d_jdk_92m3_32 : decode jdk_92_method_3_code 32 = .ok (.iload_n 1, 1) := by decide +kernel
theorem d_jdk_92m3_33 : decode jdk_92_method_3_code 33 = .ok (.iconst 1, 1) := by decide +kernel
theorem d_jdk_92m3_34 : decode jdk_92_method_3_code 34 = .ok (.iadd, 1) := by decide +kernel
theorem d_jdk_92m3_35 : decode jdk_92_method_3_code 35 = .ok (.putfield 7, 3) := by decide +kernel
theorem d_jdk_92m3_38 : decode jdk_92_method_3_code 38 = .ok (.return_, 1) := by decide +kernel
set_option maxRecDepth 65536 in
set_option maxHeartbeats 40000000 in
theorem c_rec (l : Launch) (Z : State) (a0 : Array Value) (hw : ∀ d ∈ tables_1, d.before a0 Z = true) (n0 : Nat) (h0 : Heap) (b wa : Addr) (kw : ClassId) (ws : List Int64) (u : Int32) (hu0 : 0 ≤ u.toInt) (hul : u.toInt ≤ ws.length) (E_b : Exa Z h0 b "java/util/BitSet") (F_w : Fld Z h0 b "java/util/BitSet" "words" "[J" (.ref wa)) (F_u : Fld Z h0 b "java/util/BitSet" "wordsInUse" "I" (.int u)) (A_w : OwnKit.Av Z h0 wa kw .long (ws.map Value.long)) (G_b : n0 ≤ b) (nwb : wa ≠ b) :
    OwnKit.Con false l Z n0 (⟨"java/util/BitSet", "recalculateWordsInUse", "()V"⟩ : MethodName) jdk_92_method_3_code 2 none ({ frames := 0, cells := 0, slots := 0, locals := 0 } : Room) #[.ref b] h0 (QRec Z b ws u h0) := by
  refine OwnKit.Con.of (by first | (refine plainFor_of_name ?_; simp [plainName, overriddenIn]; done) | decide +kernel) ?_ ?_
  · intro κ hwd K0
    have K : OwnKit.Ok κ l Z n0 "java/util/BitSet" "recalculateWordsInUse" jdk_92_method_3_code 2 none ({ frames := 0, cells := 0, slots := 0, locals := 0 } : Room) (QRec Z b ws u h0) := K0
    have ef : (entryFrame κ.m #[.ref b] 2).locals = #[.val (.ref b), .unset] := by first | (simp [entryFrame, argsToLocals, Value.category]; done) | rfl
    rw [ef]; clear ef K0
    have e0 : (0 : Int32).toInt = 0 := rfl
    have e1 : (1 : Int32).toInt = 1 := rfl
    have em : (-1 : Int32).toInt = -1 := by decide
    have loop : ∀ (k : Nat) (i : Int32), i.toInt + 1 = (k : Int) → i.toInt < u.toInt → (∀ (j : Nat) (w : Int64), i.toInt < (j : Int) → (j : Int) < u.toInt → ws[j]? = some w → w = 0) → OwnKit.Go κ h0 0 0 7 #[.val (.ref b), .val (.int i)] [] := by
      intro k
      induction k with
      | zero =>
        intro i hi hiu hz
        have ru := rng32 u
        have q := own_inc (i := i) (by omega)
        show OwnKit.Go κ h0 0 0 7 #[.val (.ref b), .val (.int i)] []
        refine OwnKit.iloadN K d_jdk_92m3_7 rfl ?_
        show OwnKit.Go κ h0 0 0 8 #[.val (.ref b), .val (.int i)] [.int i]
        refine OwnKit.iflt K d_jdk_92m3_8 (by decide) (pc' := 31) rfl  (fun b1 => ?_) (fun b1 => ?_)
        · show OwnKit.Go κ h0 0 0 31 #[.val (.ref b), .val (.int i)] []
          refine OwnKit.aloadN K d_jdk_92m3_31 rfl rfl ?_
          show OwnKit.Go κ h0 0 0 32 #[.val (.ref b), .val (.int i)] [.ref b]
          refine OwnKit.iloadN K d_jdk_92m3_32 rfl ?_
          show OwnKit.Go κ h0 0 0 33 #[.val (.ref b), .val (.int i)] [.int i, .ref b]
          refine OwnKit.iconst K d_jdk_92m3_33 ?_
          show OwnKit.Go κ h0 0 0 34 #[.val (.ref b), .val (.int i)] [.int (1 : Int32), .int i, .ref b]
          refine OwnKit.iadd K d_jdk_92m3_34 ?_
          show OwnKit.Go κ h0 0 0 35 #[.val (.ref b), .val (.int i)] [.int (i + (1 : Int32)), .ref b]
          refine OwnKit.putfield K d_jdk_92m3_35 (host := "") (Or.inl (hw _ (List.mem_of_getElem? (i := 17) rfl))) Via.refl F_u E_b (Or.inl (hw _ (List.mem_of_getElem? (i := 18) rfl))) (hw _ (List.mem_of_getElem? (i := 11) rfl)) (show parseFieldDescriptor "I" = some (.int) from by decide +kernel) rfl rfl G_b ?_
          intro h2 W3
          have E4 := E_b.wr W3
          have F5 := Fld.other W3 F_w (Or.inr (RoadKit.slot_ne (t := (.array .long)) (t' := .int) (Or.inl (hw _ (List.mem_of_getElem? (i := 31) rfl))) (Or.inl (hw _ (List.mem_of_getElem? (i := 18) rfl))) (by decide) (by decide +kernel) (by decide +kernel)))
          have F6 := Fld.same W3 F_u
          have A7 := A_w.other W3 nwb
          show OwnKit.Go κ h2 0 0 38 #[.val (.ref b), .val (.int i)] []
          refine OwnKit.return0 K d_jdk_92m3_38  ?_ (Nat.le_of_ble_eq_true rfl) (Nat.le_of_ble_eq_true rfl)
          exact ⟨_, rfl, W3, by omega, by omega, fun j w h1 h2 h3 => hz j w (by omega) h2 h3⟩
        · exfalso; omega
      | succ k ih =>
        intro i hi hiu hz
        have ru := rng32 u
        have q := own_inc (i := i) (by omega)
        obtain ⟨d, hd, q2⟩ : ∃ d : Int32, i + Int32.ofInt (-1) = d ∧ d.toInt = i.toInt - 1 := ⟨_, rfl, own_dec (by omega)⟩
        obtain ⟨g, hg⟩ : ∃ g, ws[i.toInt.toNat]? = some g := ⟨_, List.getElem?_eq_getElem (by omega)⟩
        show OwnKit.Go κ h0 0 0 7 #[.val (.ref b), .val (.int i)] []
        refine OwnKit.iloadN K d_jdk_92m3_7 rfl ?_
        show OwnKit.Go κ h0 0 0 8 #[.val (.ref b), .val (.int i)] [.int i]
        refine OwnKit.iflt K d_jdk_92m3_8 (by decide) (pc' := 31) rfl  (fun b8 => ?_) (fun b8 => ?_)
        · exfalso; omega
        · show OwnKit.Go κ h0 0 0 11 #[.val (.ref b), .val (.int i)] []
          refine OwnKit.aloadN K d_jdk_92m3_11 rfl rfl ?_
          show OwnKit.Go κ h0 0 0 12 #[.val (.ref b), .val (.int i)] [.ref b]
          refine OwnKit.getfield K d_jdk_92m3_12 (host := "") (Or.inl (hw _ (List.mem_of_getElem? (i := 30) rfl))) Via.refl F_w ?_
          show OwnKit.Go κ h0 0 0 15 #[.val (.ref b), .val (.int i)] [.ref wa]
          refine OwnKit.iloadN K d_jdk_92m3_15 rfl ?_
          show OwnKit.Go κ h0 0 0 16 #[.val (.ref b), .val (.int i)] [.int i, .ref wa]
          refine OwnKit.laloadV K d_jdk_92m3_16 (v := .long g) A_w (by omega) (by rw [List.getElem?_map, hg]; rfl) ?_
          show OwnKit.Go κ h0 0 0 17 #[.val (.ref b), .val (.int i)] [.long g]
          refine OwnKit.lconst K d_jdk_92m3_17 ?_
          show OwnKit.Go κ h0 0 0 18 #[.val (.ref b), .val (.int i)] [.long (0 : Int64), .long g]
          refine OwnKit.lcmp K d_jdk_92m3_18 ?_
          show OwnKit.Go κ h0 0 0 19 #[.val (.ref b), .val (.int i)] [.int (XT.cmpL g (0 : Int64))]
          refine OwnKit.ifeq K d_jdk_92m3_19 (by decide) (pc' := 25) rfl  (fun b9 => ?_) (fun b9 => ?_)
          · show OwnKit.Go κ h0 0 0 25 #[.val (.ref b), .val (.int i)] []
            refine OwnKit.iinc K d_jdk_92m3_25 rfl (l' := #[.val (.ref b), .val (.int (i + Int32.ofInt (-1)))]) rfl ?_
            show OwnKit.Go κ h0 0 0 28 #[.val (.ref b), .val (.int (i + Int32.ofInt (-1)))] []
            refine OwnKit.goto K d_jdk_92m3_28 (by decide) (pc' := 7) rfl ?_
            show OwnKit.Go κ h0 0 0 7 #[.val (.ref b), .val (.int (i + Int32.ofInt (-1)))] []
            have hg0 : g = 0 := (OwnKit.cmp_eq g 0).mp b9
            rw [hd]; exact ih d (by omega) (by omega) (fun j w h1 h2 h3 => by
              by_cases hj : (j : Int) = i.toInt
              · have : i.toInt.toNat = j := by omega
                rw [this, h3] at hg; cases hg; exact hg0
              · exact hz j w (by omega) h2 h3)
          · show OwnKit.Go κ h0 0 0 22 #[.val (.ref b), .val (.int i)] []
            refine OwnKit.goto K d_jdk_92m3_22 (by decide) (pc' := 31) rfl ?_
            show OwnKit.Go κ h0 0 0 31 #[.val (.ref b), .val (.int i)] []
            refine OwnKit.aloadN K d_jdk_92m3_31 rfl rfl ?_
            show OwnKit.Go κ h0 0 0 32 #[.val (.ref b), .val (.int i)] [.ref b]
            refine OwnKit.iloadN K d_jdk_92m3_32 rfl ?_
            show OwnKit.Go κ h0 0 0 33 #[.val (.ref b), .val (.int i)] [.int i, .ref b]
            refine OwnKit.iconst K d_jdk_92m3_33 ?_
            show OwnKit.Go κ h0 0 0 34 #[.val (.ref b), .val (.int i)] [.int (1 : Int32), .int i, .ref b]
            refine OwnKit.iadd K d_jdk_92m3_34 ?_
            show OwnKit.Go κ h0 0 0 35 #[.val (.ref b), .val (.int i)] [.int (i + (1 : Int32)), .ref b]
            refine OwnKit.putfield K d_jdk_92m3_35 (host := "") (Or.inl (hw _ (List.mem_of_getElem? (i := 17) rfl))) Via.refl F_u E_b (Or.inl (hw _ (List.mem_of_getElem? (i := 18) rfl))) (hw _ (List.mem_of_getElem? (i := 11) rfl)) (show parseFieldDescriptor "I" = some (.int) from by decide +kernel) rfl rfl G_b ?_
            intro h10 W11
            have E12 := E_b.wr W11
            have F13 := Fld.other W11 F_w (Or.inr (RoadKit.slot_ne (t := (.array .long)) (t' := .int) (Or.inl (hw _ (List.mem_of_getElem? (i := 31) rfl))) (Or.inl (hw _ (List.mem_of_getElem? (i := 18) rfl))) (by decide) (by decide +kernel) (by decide +kernel)))
            have F14 := Fld.same W11 F_u
            have A15 := A_w.other W11 nwb
            show OwnKit.Go κ h10 0 0 38 #[.val (.ref b), .val (.int i)] []
            refine OwnKit.return0 K d_jdk_92m3_38  ?_ (Nat.le_of_ble_eq_true rfl) (Nat.le_of_ble_eq_true rfl)
            exact ⟨_, rfl, W11, by omega, by omega, fun j w h1 h2 h3 => hz j w (by omega) h2 h3⟩
    have q := own_sub1 hu0
    show OwnKit.Go κ h0 0 0 0 #[.val (.ref b), .unset] []
    refine OwnKit.aloadN K d_jdk_92m3_0 rfl rfl ?_
    show OwnKit.Go κ h0 0 0 1 #[.val (.ref b), .unset] [.ref b]
    refine OwnKit.getfield K d_jdk_92m3_1 (host := "") (Or.inl (hw _ (List.mem_of_getElem? (i := 17) rfl))) Via.refl F_u ?_
    show OwnKit.Go κ h0 0 0 4 #[.val (.ref b), .unset] [.int u]
    refine OwnKit.iconst K d_jdk_92m3_4 ?_
    show OwnKit.Go κ h0 0 0 5 #[.val (.ref b), .unset] [.int (1 : Int32), .int u]
    refine OwnKit.isub K d_jdk_92m3_5 ?_
    show OwnKit.Go κ h0 0 0 6 #[.val (.ref b), .unset] [.int (u - (1 : Int32))]
    refine OwnKit.istoreN K d_jdk_92m3_6 (l' := #[.val (.ref b), .val (.int (u - (1 : Int32)))]) rfl ?_
    show OwnKit.Go κ h0 0 0 7 #[.val (.ref b), .val (.int (u - (1 : Int32)))] []
    exact loop u.toInt.toNat (u - 1) (by omega) (by omega) (fun j w h1 h2 => by omega)
  · intro m; first | rfl | (simp [entryFrame, mkF, argsToLocals, Value.category]; done)

theorem d_jdk_92m23_0 : decode jdk_92_method_23_code 0 = .ok (.iload_n 1, 1) := by decide +kernel
theorem d_jdk_92m23_1 : decode jdk_92_method_23_code 1 = .ok (.ifCond .ge 30, 3) := by decide +kernel
theorem d_jdk_92m23_31 : decode jdk_92_method_23_code 31 = .ok (.iload_n 1, 1) := by decide +kernel
theorem d_jdk_92m23_32 : decode jdk_92_method_23_code 32 = .ok (.invokestatic 52, 3) := by decide +kernel
theorem d_jdk_92m23_35 : decode jdk_92_method_23_code 35 = .ok (.istore_n 2, 1) := by decide +kernel
theorem d_jdk_92m23_36 : decode jdk_92_method_23_code 36 = .ok (.iload_n 2, 1) := by decide +kernel
theorem d_jdk_92m23_37 : decode jdk_92_method_23_code 37 = .ok (.aload_n 0, 1) := by decide +kernel
theorem d_jdk_92m23_38 : decode jdk_92_method_23_code 38 = .ok (.getfield 7, 3) := by decide +kernel
theorem d_jdk_92m23_41 : decode jdk_92_method_23_code 41 = .ok (.if_icmp .lt 4, 3) := by decide +kernel
theorem d_jdk_92m23_44 : decode jdk_92_method_23_code 44 = .ok (.return_, 1) := by decide +kernel
theorem d_jdk_92m23_45 : decode jdk_92_method_23_code 45 = .ok (.aload_n 0, 1) := by decide +kernel
theorem d_jdk_92m23_46 : decode jdk_92_method_23_code 46 = .ok (.getfield 11, 3) := by decide +kernel
theorem d_jdk_92m23_49 : decode jdk_92_method_23_code 49 = .ok (.iload_n 2, 1) := by decide +kernel
theorem d_jdk_92m23_50 : decode jdk_92_method_23_code 50 = .ok (.dup2, 1) := by decide +kernel
theorem d_jdk_92m23_51 : decode jdk_92_method_23_code 51 = .ok (.laload, 1) := by decide +kernel
theorem d_jdk_92m23_52 : decode jdk_92_method_23_code 52 = .ok (.lconst 1, 1) := by decide +kernel
theorem d_jdk_92m23_53 : decode jdk_92_method_23_code 53 = .ok (.iload_n 1, 1) := by decide +kernel
theorem d_jdk_92m23_54 : decode jdk_92_method_23_code 54 = .ok (.lshl, 1) := by decide +kernel
theorem d_jdk_92m23_55 : decode jdk_92_method_23_code 55 = .ok (.ldc2_w 165, 3) := by decide +kernel
theorem d_jdk_92m23_58 : decode jdk_92_method_23_code 58 = .ok (.lxor, 1) := by decide +kernel
theorem d_jdk_92m23_59 : decode jdk_92_method_23_code 59 = .ok (.land, 1) := by decide +kernel
theorem d_jdk_92m23_60 : decode jdk_92_method_23_code 60 = .ok (.lastore, 1) := by decide +kernel
theorem d_jdk_92m23_61 : decode jdk_92_method_23_code 61 = .ok (.aload_n 0, 1) := by decide +kernel
theorem d_jdk_92m23_62 : decode jdk_92_method_23_code 62 = .ok (.invokevirtual 158, 3) := by decide +kernel
theorem d_jdk_92m23_65 : decode jdk_92_method_23_code 65 = .ok (.aload_n 0, 1) := by decide +kernel
theorem d_jdk_92m23_66 : decode jdk_92_method_23_code 66 = .ok (.invokevirtual 56, 3) := by decide +kernel
theorem d_jdk_92m23_69 : decode jdk_92_method_23_code 69 = .ok (.return_, 1) := by decide +kernel
set_option maxRecDepth 65536 in
set_option maxHeartbeats 40000000 in
theorem c_clr (l : Launch) (Z : State) (a0 : Array Value) (hw : ∀ d ∈ tables_1, d.before a0 Z = true) (n0 : Nat) (h0 : Heap) (b wa : Addr) (kw : ClassId) (ws : List Int64) (u x : Int32)  (hx : 0 ≤ x.toInt) (B0 : BS Z h0 n0 b wa kw ws u) (S__assertionsDisabled : Sta Z Z.heap "java/util/BitSet" "$assertionsDisabled" "Z" (.int (1 : Int32))) :
    OwnKit.Con false l Z n0 (⟨"java/util/BitSet", "clear", "(I)V"⟩ : MethodName) jdk_92_method_23_code 3 none ({ frames := 1, cells := 0, slots := 0, locals := 13 } : Room) #[.ref b, .int x] h0 (QClr Z n0 b wa kw ws x h0) := by
  refine OwnKit.Con.of (by first | (refine plainFor_of_name ?_; simp [plainName, overriddenIn]; done) | decide +kernel) ?_ ?_
  · intro κ hwd K0
    have K : OwnKit.Ok κ l Z n0 "java/util/BitSet" "clear" jdk_92_method_23_code 3 none ({ frames := 1, cells := 0, slots := 0, locals := 13 } : Room) (QClr Z n0 b wa kw ws x h0) := K0
    have ef : (entryFrame κ.m #[.ref b, .int x] 3).locals = #[.val (.ref b), .val (.int x), .unset] := by first | (simp [entryFrame, argsToLocals, Value.category]; done) | rfl
    rw [ef]; clear ef K0
    obtain ⟨E_b, F_w, F_u, F_s, A_w, hu0, hul, hz, G_b, G_w, nbw⟩ := B0
    have hwi := own_wiI hx
    have K0 := Keep.refl h0 [b, wa]
    show OwnKit.Go κ h0 0 0 0 #[.val (.ref b), .val (.int x), .unset] []
    refine OwnKit.iloadN K d_jdk_92m23_0 rfl ?_
    show OwnKit.Go κ h0 0 0 1 #[.val (.ref b), .val (.int x), .unset] [.int x]
    refine OwnKit.ifge K d_jdk_92m23_1 (by decide) (pc' := 31) rfl  (fun b1 => ?_) (fun b1 => ?_)
    · show OwnKit.Go κ h0 0 0 31 #[.val (.ref b), .val (.int x), .unset] []
      refine OwnKit.iloadN K d_jdk_92m23_31 rfl ?_
      show OwnKit.Go κ h0 0 0 32 #[.val (.ref b), .val (.int x), .unset] [.int x]
      refine OwnKit.invS (y := (⟨"java/util/BitSet", "wordIndex", "(I)I"⟩ : MethodName)) (argsL := [.int x]) (rest := []) K (c_wi l Z a0 hw n0 h0 x) d_jdk_92m23_32 (hw _ (List.mem_of_getElem? (i := 26) rfl)) (hw _ (List.mem_of_getElem? (i := 27) rfl)) (hw _ (List.mem_of_getElem? (i := 12) rfl)) (hw _ (List.mem_of_getElem? (i := 28) rfl)) (by decide) (lenOf (by decide +kernel : parseMethodDescriptor "(I)I" = some ⟨[.int], some .int⟩) rfl) rfl rfl (W := 0) (Nat.le_of_ble_eq_true rfl) (Nat.le_of_ble_eq_true rfl) (Nat.le_of_ble_eq_true rfl) (Nat.le_of_ble_eq_true rfl) (Nat.le_of_ble_eq_true rfl) ?_
      rintro _ h2 ⟨i, rfl, hi, rfl⟩ g3
      show OwnKit.Go κ h0 0 0 35 #[.val (.ref b), .val (.int x), .unset] [.int i]
      refine OwnKit.istoreN K d_jdk_92m23_35 (l' := #[.val (.ref b), .val (.int x), .val (.int i)]) rfl ?_
      show OwnKit.Go κ h0 0 0 36 #[.val (.ref b), .val (.int x), .val (.int i)] []
      refine OwnKit.iloadN K d_jdk_92m23_36 rfl ?_
      show OwnKit.Go κ h0 0 0 37 #[.val (.ref b), .val (.int x), .val (.int i)] [.int i]
      refine OwnKit.aloadN K d_jdk_92m23_37 rfl rfl ?_
      show OwnKit.Go κ h0 0 0 38 #[.val (.ref b), .val (.int x), .val (.int i)] [.ref b, .int i]
      refine OwnKit.getfield K d_jdk_92m23_38 (host := "") (Or.inl (hw _ (List.mem_of_getElem? (i := 17) rfl))) Via.refl F_u ?_
      show OwnKit.Go κ h0 0 0 41 #[.val (.ref b), .val (.int x), .val (.int i)] [.int u, .int i]
      refine OwnKit.icmplt K d_jdk_92m23_41 (by decide) (pc' := 45) rfl  (fun b4 => ?_) (fun b4 => ?_)
      · show OwnKit.Go κ h0 0 0 45 #[.val (.ref b), .val (.int x), .val (.int i)] []
        refine OwnKit.aloadN K d_jdk_92m23_45 rfl rfl ?_
        show OwnKit.Go κ h0 0 0 46 #[.val (.ref b), .val (.int x), .val (.int i)] [.ref b]
        refine OwnKit.getfield K d_jdk_92m23_46 (host := "") (Or.inl (hw _ (List.mem_of_getElem? (i := 30) rfl))) Via.refl F_w ?_
        show OwnKit.Go κ h0 0 0 49 #[.val (.ref b), .val (.int x), .val (.int i)] [.ref wa]
        refine OwnKit.iloadN K d_jdk_92m23_49 rfl ?_
        show OwnKit.Go κ h0 0 0 50 #[.val (.ref b), .val (.int x), .val (.int i)] [.int i, .ref wa]
        refine OwnKit.dup2 K d_jdk_92m23_50 rfl rfl ?_
        show OwnKit.Go κ h0 0 0 51 #[.val (.ref b), .val (.int x), .val (.int i)] [.int i, .ref wa, .int i, .ref wa]
        obtain ⟨q, hq⟩ : ∃ q, ws[own_wi x]? = some q := ⟨_, List.getElem?_eq_getElem (by omega)⟩
        refine OwnKit.laloadV K d_jdk_92m23_51 (v := .long q) A_w (by omega) (by rw [hi]; show (ws.map Value.long)[own_wi x]? = _; simp [hq]) ?_
        show OwnKit.Go κ h0 0 0 52 #[.val (.ref b), .val (.int x), .val (.int i)] [.long q, .int i, .ref wa]
        refine OwnKit.lconst K d_jdk_92m23_52 ?_
        show OwnKit.Go κ h0 0 0 53 #[.val (.ref b), .val (.int x), .val (.int i)] [.long (1 : Int64), .long q, .int i, .ref wa]
        refine OwnKit.iloadN K d_jdk_92m23_53 rfl ?_
        show OwnKit.Go κ h0 0 0 54 #[.val (.ref b), .val (.int x), .val (.int i)] [.int x, .long (1 : Int64), .long q, .int i, .ref wa]
        refine OwnKit.lshl K d_jdk_92m23_54 ?_
        show OwnKit.Go κ h0 0 0 55 #[.val (.ref b), .val (.int x), .val (.int i)] [.long ((1 : Int64) <<< (x.toInt64 &&& 63)), .long q, .int i, .ref wa]
        refine OwnKit.ldc2J K d_jdk_92m23_55 (hw _ (List.mem_of_getElem? (i := 100) rfl)) ?_
        show OwnKit.Go κ h0 0 0 58 #[.val (.ref b), .val (.int x), .val (.int i)] [.long (-1 : Int64), .long ((1 : Int64) <<< (x.toInt64 &&& 63)), .long q, .int i, .ref wa]
        refine OwnKit.lxor K d_jdk_92m23_58 ?_
        show OwnKit.Go κ h0 0 0 59 #[.val (.ref b), .val (.int x), .val (.int i)] [.long (((1 : Int64) <<< (x.toInt64 &&& 63)) ^^^ (-1 : Int64)), .long q, .int i, .ref wa]
        refine OwnKit.land K d_jdk_92m23_59 ?_
        show OwnKit.Go κ h0 0 0 60 #[.val (.ref b), .val (.int x), .val (.int i)] [.long (q &&& (((1 : Int64) <<< (x.toInt64 &&& 63)) ^^^ (-1 : Int64))), .int i, .ref wa]
        refine OwnKit.lastoreV K d_jdk_92m23_60 A_w (by omega) (by first | omega | (simp only [List.length_map, List.length_append, List.length_replicate, List.length_set, List.length_cons, List.length_nil]; omega) | (simp; done) | (simp; omega)) G_w ?_
        intro h5 W2 A3
        have A4 : OwnKit.Av Z h5 wa kw .long ((ws.set (own_wi x) (q &&& (((1 : Int64) <<< (x.toInt64 &&& 63)) ^^^ (-1 : Int64)))).map Value.long) := by rw [hi] at A3; rw [List.map_set]; exact A3
        have E6 := E_b.wr W2
        have F7 := Fld.other W2 F_w (Or.inl nbw)
        have F8 := Fld.other W2 F_u (Or.inl nbw)
        have F9 := Fld.other W2 F_s (Or.inl nbw)
        have K10 := K0.wr W2 (Or.inl (by simp))
        show OwnKit.Go κ h5 0 0 61 #[.val (.ref b), .val (.int x), .val (.int i)] []
        refine OwnKit.aloadN K d_jdk_92m23_61 rfl rfl ?_
        show OwnKit.Go κ h5 0 0 62 #[.val (.ref b), .val (.int x), .val (.int i)] [.ref b]
        refine OwnKit.invP (y := (⟨"java/util/BitSet", "recalculateWordsInUse", "()V"⟩ : MethodName)) (argsL := []) (rest := []) K (c_rec l Z a0 hw n0 h5 b wa kw _ u hu0 (by simpa using hul) E6 F7 F8 A4 G_b (Ne.symm nbw)) d_jdk_92m23_62 E6 (hw _ (List.mem_of_getElem? (i := 101) rfl)) (hw _ (List.mem_of_getElem? (i := 102) rfl)) (hw _ (List.mem_of_getElem? (i := 104) rfl)) (hw _ (List.mem_of_getElem? (i := 103) rfl)) (hw _ (List.mem_of_getElem? (i := 105) rfl)) (hw _ (List.mem_of_getElem? (i := 12) rfl)) (by decide) (lenOf (by decide +kernel : parseMethodDescriptor "()V" = some ⟨[], none⟩) rfl) rfl rfl (W := 0) (Nat.le_of_ble_eq_true rfl) (Nat.le_of_ble_eq_true rfl) (Nat.le_of_ble_eq_true rfl) (Nat.le_of_ble_eq_true rfl) (Nat.le_of_ble_eq_true rfl) ?_
        rintro _ h11 ⟨u2, rfl, W5, hu2, hu3, hz3⟩ g12
        have E13 := E6.wr W5
        have F14 := Fld.other W5 F7 (Or.inr (RoadKit.slot_ne (t := (.array .long)) (t' := .int) (Or.inl (hw _ (List.mem_of_getElem? (i := 31) rfl))) (Or.inl (hw _ (List.mem_of_getElem? (i := 18) rfl))) (by decide) (by decide +kernel) (by decide +kernel)))
        have F15 := Fld.same W5 F8
        have F16 := Fld.other W5 F9 (Or.inr (RoadKit.slot_ne (t := .boolean) (t' := .int) (Or.inl (hw _ (List.mem_of_getElem? (i := 20) rfl))) (Or.inl (hw _ (List.mem_of_getElem? (i := 18) rfl))) (by decide) (by decide +kernel) (by decide +kernel)))
        have K17 := K10.wr W5 (Or.inl (by simp))
        have A18 := A4.other W5 (Ne.symm nbw)
        show OwnKit.Go κ h11 0 0 65 #[.val (.ref b), .val (.int x), .val (.int i)] []
        refine OwnKit.aloadN K d_jdk_92m23_65 rfl rfl ?_
        show OwnKit.Go κ h11 0 0 66 #[.val (.ref b), .val (.int x), .val (.int i)] [.ref b]
        refine OwnKit.invP (y := (⟨"java/util/BitSet", "checkInvariants", "()V"⟩ : MethodName)) (argsL := []) (rest := []) K (c_chk l Z a0 hw n0 h11 b  S__assertionsDisabled) d_jdk_92m23_66 E13 (hw _ (List.mem_of_getElem? (i := 59) rfl)) (hw _ (List.mem_of_getElem? (i := 60) rfl)) (hw _ (List.mem_of_getElem? (i := 62) rfl)) (hw _ (List.mem_of_getElem? (i := 61) rfl)) (hw _ (List.mem_of_getElem? (i := 63) rfl)) (hw _ (List.mem_of_getElem? (i := 12) rfl)) (by decide) (lenOf (by decide +kernel : parseMethodDescriptor "()V" = some ⟨[], none⟩) rfl) rfl rfl (W := 0) (Nat.le_of_ble_eq_true rfl) (Nat.le_of_ble_eq_true rfl) (Nat.le_of_ble_eq_true rfl) (Nat.le_of_ble_eq_true rfl) (Nat.le_of_ble_eq_true rfl) ?_
        rintro _ h19 ⟨rfl, rfl⟩ g20
        show OwnKit.Go κ h11 0 0 69 #[.val (.ref b), .val (.int x), .val (.int i)] []
        refine OwnKit.return0 K d_jdk_92m23_69  ?_ (Nat.le_of_ble_eq_true rfl) (Nat.le_of_ble_eq_true rfl)
        exact ⟨_, u2, rfl, ⟨E13, F14, F15, F16, A18, hu2, (by first | omega | (simp only [List.length_map, List.length_append, List.length_replicate, List.length_set, List.length_cons, List.length_nil]; omega) | (simp; done) | (simp; omega)), fun j w h1 h2 => (Nat.lt_or_ge j u.toInt.toNat).elim (fun q => hz3 j w h1 (by omega) h2) (fun q => own_zSet (by omega) hz j w (by omega) h2), G_b, G_w, nbw⟩, K17, by simp, fun y hy => own_hasClr hx hy hq⟩
      · show OwnKit.Go κ h0 0 0 44 #[.val (.ref b), .val (.int x), .val (.int i)] []
        refine OwnKit.return0 K d_jdk_92m23_44  ?_ (Nat.le_of_ble_eq_true rfl) (Nat.le_of_ble_eq_true rfl)
        exact ⟨ws, u, rfl, ⟨E_b, F_w, F_u, F_s, A_w, hu0, hul, hz, G_b, G_w, nbw⟩, K0, rfl, fun y hy => ⟨fun q => ⟨q, fun e => own_hasNot hx (by omega) hz (e ▸ q)⟩, fun q => q.1⟩⟩
    · exfalso; omega
  · intro m; first | rfl | (simp [entryFrame, mkF, argsToLocals, Value.category]; done)

theorem d_prog_13m5_0 : decode prog_13_method_5_code 0 = .ok (.iconst 0, 1) := by decide +kernel
theorem d_prog_13m5_1 : decode prog_13_method_5_code 1 = .ok (.istore_n 1, 1) := by decide +kernel
theorem d_prog_13m5_2 : decode prog_13_method_5_code 2 = .ok (.iload_n 1, 1) := by decide +kernel
theorem d_prog_13m5_3 : decode prog_13_method_5_code 3 = .ok (.aload_n 0, 1) := by decide +kernel
theorem d_prog_13m5_4 : decode prog_13_method_5_code 4 = .ok (.getfield 28, 3) := by decide +kernel
theorem d_prog_13m5_7 : decode prog_13_method_5_code 7 = .ok (.if_icmp .ge 22, 3) := by decide +kernel
theorem d_prog_13m5_10 : decode prog_13_method_5_code 10 = .ok (.aload_n 0, 1) := by decide +kernel
theorem d_prog_13m5_11 : decode prog_13_method_5_code 11 = .ok (.getfield 10, 3) := by decide +kernel
theorem d_prog_13m5_14 : decode prog_13_method_5_code 14 = .ok (.aload_n 0, 1) := by decide +kernel
theorem d_prog_13m5_15 : decode prog_13_method_5_code 15 = .ok (.getfield 16, 3) := by decide +kernel
theorem d_prog_13m5_18 : decode prog_13_method_5_code 18 = .ok (.iload_n 1, 1) := by decide +kernel
theorem d_prog_13m5_19 : decode prog_13_method_5_code 19 = .ok (.iaload, 1) := by decide +kernel
theorem d_prog_13m5_20 : decode prog_13_method_5_code 20 = .ok (.invokevirtual 38, 3) := by decide +kernel
theorem d_prog_13m5_23 : decode prog_13_method_5_code 23 = .ok (.iinc 1 1, 3) := by decide +kernel
theorem d_prog_13m5_26 : decode prog_13_method_5_code 26 = .ok (.goto (-24), 3) := by decide +kernel
theorem d_prog_13m5_29 : decode prog_13_method_5_code 29 = .ok (.aload_n 0, 1) := by decide +kernel
theorem d_prog_13m5_30 : decode prog_13_method_5_code 30 = .ok (.iconst 0, 1) := by decide +kernel
theorem d_prog_13m5_31 : decode prog_13_method_5_code 31 = .ok (.putfield 28, 3) := by decide +kernel
theorem d_prog_13m5_34 : decode prog_13_method_5_code 34 = .ok (.return_, 1) := by decide +kernel
set_option maxRecDepth 65536 in
set_option maxHeartbeats 40000000 in
theorem c_nclr (l : Launch) (Z : State) (a0 : Array Value) (hw : ∀ d ∈ tables_1, d.before a0 Z = true) (n0 : Nat) (h0 : Heap) (ns : Addr) (xs : List Int32) (L : Nat)  (N0 : NSE Z h0 n0 ns xs L) (S__assertionsDisabled : Sta Z Z.heap "java/util/BitSet" "$assertionsDisabled" "Z" (.int (1 : Int32))) :
    OwnKit.Con false l Z n0 (⟨"com/example/greasan/greasan/reasoner/NodeSet", "clear", "()V"⟩ : MethodName) prog_13_method_5_code 2 none ({ frames := 2, cells := 0, slots := 0, locals := 27 } : Room) #[.ref ns] h0 (QNclr Z n0 ns L) := by
  refine OwnKit.Con.of (by first | (refine plainFor_of_name ?_; simp [plainName, overriddenIn]; done) | decide +kernel) ?_ ?_
  · intro κ hwd K0
    have K : OwnKit.Ok κ l Z n0 "com/example/greasan/greasan/reasoner/NodeSet" "clear" prog_13_method_5_code 2 none ({ frames := 2, cells := 0, slots := 0, locals := 27 } : Room) (QNclr Z n0 ns L) := K0
    have ef : (entryFrame κ.m #[.ref ns] 2).locals = #[.val (.ref ns), .unset] := by first | (simp [entryFrame, argsToLocals, Value.category]; done) | rfl
    rw [ef]; clear ef K0
    obtain ⟨b, ad, wa, ka, kw, ws, u, tl, ⟨E_n, F_h, F_a, F_z, A_a, B1, hmem, hrng, hle, G_n, G_a, nnb, nna, nnw, nab, naw⟩, hL⟩ := id N0
    have hsz : (Int32.ofNat xs.length).toInt = xs.length := len_toInt (by omega)
    have e0 : (0 : Int32).toInt = 0 := rfl
    have e1 : (1 : Int32).toInt = 1 := rfl
    have loop : ∀ (k j : Nat) (i u : Int32) (h : Heap) (ws : List Int64), i.toInt = (j : Int) → j + k = xs.length → ws.length = L → Exa Z h ns "com/example/greasan/greasan/reasoner/NodeSet" → Fld Z h ns "com/example/greasan/greasan/reasoner/NodeSet" "held" "Ljava/util/BitSet;" (.ref b) → Fld Z h ns "com/example/greasan/greasan/reasoner/NodeSet" "added" "[I" (.ref ad) → Fld Z h ns "com/example/greasan/greasan/reasoner/NodeSet" "size" "I" (.int (Int32.ofNat xs.length)) → OwnKit.Av Z h ad ka .int ((xs ++ tl).map Value.int) → BS Z h n0 b wa kw ws u → (∀ y : Int32, 0 ≤ y.toInt → (own_has ws y ↔ y ∈ xs ∧ ¬ y ∈ xs.take j)) → OwnKit.Go κ h 0 0 2 #[.val (.ref ns), .val (.int i)] [] := by
      intro k
      induction k with
      | zero =>
        intro j i u h ws hi hjk hL2 E_n F_h F_a F_z A_a B1 hm
        have E_bb := B1.1
        show OwnKit.Go κ h 0 0 2 #[.val (.ref ns), .val (.int i)] []
        refine OwnKit.iloadN K d_prog_13m5_2 rfl ?_
        show OwnKit.Go κ h 0 0 3 #[.val (.ref ns), .val (.int i)] [.int i]
        refine OwnKit.aloadN K d_prog_13m5_3 rfl rfl ?_
        show OwnKit.Go κ h 0 0 4 #[.val (.ref ns), .val (.int i)] [.ref ns, .int i]
        refine OwnKit.getfield K d_prog_13m5_4 (host := "") (Or.inl (hw _ (List.mem_of_getElem? (i := 42) rfl))) Via.refl F_z ?_
        show OwnKit.Go κ h 0 0 7 #[.val (.ref ns), .val (.int i)] [.int (Int32.ofNat xs.length), .int i]
        refine OwnKit.icmpge K d_prog_13m5_7 (by decide) (pc' := 29) rfl  (fun b1 => ?_) (fun b1 => ?_)
        · show OwnKit.Go κ h 0 0 29 #[.val (.ref ns), .val (.int i)] []
          refine OwnKit.aloadN K d_prog_13m5_29 rfl rfl ?_
          show OwnKit.Go κ h 0 0 30 #[.val (.ref ns), .val (.int i)] [.ref ns]
          refine OwnKit.iconst K d_prog_13m5_30 ?_
          show OwnKit.Go κ h 0 0 31 #[.val (.ref ns), .val (.int i)] [.int (0 : Int32), .ref ns]
          refine OwnKit.putfield K d_prog_13m5_31 (host := "") (Or.inl (hw _ (List.mem_of_getElem? (i := 42) rfl))) Via.refl F_z E_n (Or.inl (hw _ (List.mem_of_getElem? (i := 43) rfl))) (hw _ (List.mem_of_getElem? (i := 2) rfl)) (show parseFieldDescriptor "I" = some (.int) from by decide +kernel) rfl rfl G_n ?_
          intro h2 W3
          have E4 := E_n.wr W3
          have F5 := Fld.other W3 F_h (Or.inr (RoadKit.slot_ne (t := (.object "java/util/BitSet")) (t' := .int) (Or.inr (hw _ (List.mem_of_getElem? (i := 33) rfl))) (Or.inl (hw _ (List.mem_of_getElem? (i := 43) rfl))) (by decide) (by decide +kernel) (by decide +kernel)))
          have F6 := Fld.other W3 F_a (Or.inr (RoadKit.slot_ne (t := (.array .int)) (t' := .int) (Or.inl (hw _ (List.mem_of_getElem? (i := 36) rfl))) (Or.inl (hw _ (List.mem_of_getElem? (i := 43) rfl))) (by decide) (by decide +kernel) (by decide +kernel)))
          have F7 := Fld.same W3 F_z
          have A8 := A_a.other W3 (Ne.symm nna)
          have E9 := E_bb.wr W3
          have A10 := B1.other W3 (Ne.symm nnb) (Ne.symm nnw)
          show OwnKit.Go κ h2 0 0 34 #[.val (.ref ns), .val (.int i)] []
          refine OwnKit.return0 K d_prog_13m5_34  ?_ (Nat.le_of_ble_eq_true rfl) (Nat.le_of_ble_eq_true rfl)
          · obtain rfl : j = xs.length := by omega
            exact ⟨rfl, b, ad, wa, ka, kw, ws, u, xs ++ tl, ⟨E4, F5, F6, F7, A8, A10, fun y hy => by rw [hm y hy, List.take_length]; simp, by simp, by simpa using hle, G_n, G_a, nnb, nna, nnw, nab, naw⟩, hL2⟩
        · exfalso; omega
      | succ k ih =>
        intro j i u h ws hi hjk hL2 E_n F_h F_a F_z A_a B1 hm
        have E_bb := B1.1
        obtain ⟨c, hc⟩ : ∃ c, xs[j]? = some c := ⟨_, List.getElem?_eq_getElem (by omega)⟩
        have hcr := hrng c (List.mem_of_getElem? hc)
        show OwnKit.Go κ h 0 0 2 #[.val (.ref ns), .val (.int i)] []
        refine OwnKit.iloadN K d_prog_13m5_2 rfl ?_
        show OwnKit.Go κ h 0 0 3 #[.val (.ref ns), .val (.int i)] [.int i]
        refine OwnKit.aloadN K d_prog_13m5_3 rfl rfl ?_
        show OwnKit.Go κ h 0 0 4 #[.val (.ref ns), .val (.int i)] [.ref ns, .int i]
        refine OwnKit.getfield K d_prog_13m5_4 (host := "") (Or.inl (hw _ (List.mem_of_getElem? (i := 42) rfl))) Via.refl F_z ?_
        show OwnKit.Go κ h 0 0 7 #[.val (.ref ns), .val (.int i)] [.int (Int32.ofNat xs.length), .int i]
        refine OwnKit.icmpge K d_prog_13m5_7 (by decide) (pc' := 29) rfl  (fun b11 => ?_) (fun b11 => ?_)
        · exfalso; omega
        · show OwnKit.Go κ h 0 0 10 #[.val (.ref ns), .val (.int i)] []
          refine OwnKit.aloadN K d_prog_13m5_10 rfl rfl ?_
          show OwnKit.Go κ h 0 0 11 #[.val (.ref ns), .val (.int i)] [.ref ns]
          refine OwnKit.getfield K d_prog_13m5_11 (host := "") (Or.inl (hw _ (List.mem_of_getElem? (i := 32) rfl))) Via.refl F_h ?_
          show OwnKit.Go κ h 0 0 14 #[.val (.ref ns), .val (.int i)] [.ref b]
          refine OwnKit.aloadN K d_prog_13m5_14 rfl rfl ?_
          show OwnKit.Go κ h 0 0 15 #[.val (.ref ns), .val (.int i)] [.ref ns, .ref b]
          refine OwnKit.getfield K d_prog_13m5_15 (host := "") (Or.inl (hw _ (List.mem_of_getElem? (i := 35) rfl))) Via.refl F_a ?_
          show OwnKit.Go κ h 0 0 18 #[.val (.ref ns), .val (.int i)] [.ref ad, .ref b]
          refine OwnKit.iloadN K d_prog_13m5_18 rfl ?_
          show OwnKit.Go κ h 0 0 19 #[.val (.ref ns), .val (.int i)] [.int i, .ref ad, .ref b]
          refine OwnKit.ialoadV K d_prog_13m5_19 (v := .int c) A_a (by omega) (by rw [hi, Int.toNat_natCast, List.map_append, List.getElem?_append_left (by rw [List.length_map]; omega), List.getElem?_map, hc]; rfl) ?_
          show OwnKit.Go κ h 0 0 20 #[.val (.ref ns), .val (.int i)] [.int c, .ref b]
          refine OwnKit.invV (y := (⟨"java/util/BitSet", "clear", "(I)V"⟩ : MethodName)) (z := (⟨"java/util/BitSet", "clear", "(I)V"⟩ : MethodName)) (argsL := [.int c]) (rest := []) K (c_clr l Z a0 hw n0 h b wa kw ws u c  hcr.1 B1 S__assertionsDisabled) d_prog_13m5_20 E_bb (hw _ (List.mem_of_getElem? (i := 95) rfl)) (hw _ (List.mem_of_getElem? (i := 96) rfl)) (OwnKit.nfS (hw _ (List.mem_of_getElem? (i := 98) rfl))) (hw _ (List.mem_of_getElem? (i := 98) rfl)) (hw _ (List.mem_of_getElem? (i := 97) rfl)) (hw _ (List.mem_of_getElem? (i := 99) rfl)) (hw _ (List.mem_of_getElem? (i := 12) rfl)) (by decide) (lenOf (by decide +kernel : parseMethodDescriptor "(I)V" = some ⟨[.int], none⟩) rfl) rfl rfl (W := 0) (Nat.le_of_ble_eq_true rfl) (Nat.le_of_ble_eq_true rfl) (Nat.le_of_ble_eq_true rfl) (Nat.le_of_ble_eq_true rfl) (Nat.le_of_ble_eq_true rfl) ?_
          rintro _ h12 ⟨ws2, u2, rfl, B2, Kx, hl2, hm2⟩ g13
          have E14 := E_n.keep Kx
          have F15 := F_h.keep Kx (ninS nnb (ninS nnw nin0))
          have F16 := F_a.keep Kx (ninS nnb (ninS nnw nin0))
          have F17 := F_z.keep Kx (ninS nnb (ninS nnw nin0))
          have A18 := A_a.keep Kx (ninS nab (ninS naw nin0))
          show OwnKit.Go κ h12 0 0 23 #[.val (.ref ns), .val (.int i)] []
          refine OwnKit.iinc K d_prog_13m5_23 rfl (l' := #[.val (.ref ns), .val (.int (i + (1 : Int32)))]) rfl ?_
          show OwnKit.Go κ h12 0 0 26 #[.val (.ref ns), .val (.int (i + (1 : Int32)))] []
          refine OwnKit.goto K d_prog_13m5_26 (by decide) (pc' := 2) rfl ?_
          show OwnKit.Go κ h12 0 0 2 #[.val (.ref ns), .val (.int (i + (1 : Int32)))] []
          exact ih (j + 1) (i + 1) u2 h12 ws2 (by have q := own_inc (i := i) (by omega); omega) (by omega) (by omega) E14 F15 F16 F17 A18 B2 (own_memClr hm hm2 hc)
    have E_bb := B1.1
    show OwnKit.Go κ h0 0 0 0 #[.val (.ref ns), .unset] []
    refine OwnKit.iconst K d_prog_13m5_0 ?_
    show OwnKit.Go κ h0 0 0 1 #[.val (.ref ns), .unset] [.int (0 : Int32)]
    refine OwnKit.istoreN K d_prog_13m5_1 (l' := #[.val (.ref ns), .val (.int (0 : Int32))]) rfl ?_
    show OwnKit.Go κ h0 0 0 2 #[.val (.ref ns), .val (.int (0 : Int32))] []
    exact loop xs.length 0 0 u h0 ws rfl (by omega) hL E_n F_h F_a F_z A_a B1 (fun y hy => by rw [hmem y hy]; simp)
  · intro m; first | rfl | (simp [entryFrame, mkF, argsToLocals, Value.category]; done)

def own_ok (x : Int32) : Prop := 0 ≤ x.toInt ∧ x.toInt < 65536
theorem own_okM (x : Int32) : own_ok (x &&& (65535 : Int32)) := by
  have q := c_and x 65535 (by decide)
  have e : (65535 : Int32).toInt = 65535 := by decide
  unfold own_ok; omega
def QLen (xs : List Int32) (h0 : Heap) (v : Option Value) (h : Heap) : Prop := v = some (.int (Int32.ofNat xs.length)) ∧ h0 = h
def QLaw (v : Option Value) (h : Heap) : Prop := v = some (.int 1)
def own_rel (p : Prop) (z : Int32) : Prop := p ∧ z = 0 ∨ ¬ p ∧ z = 1
theorem own_n0 {x v : Int32} (h : own_rel (x ∈ ([] : List Int32)) v) : ¬ v = 0 := by
  rcases h with ⟨p, -⟩ | ⟨-, q⟩
  · cases p
  · subst q; decide
theorem own_v1t {x y v : Int32} (h : own_rel (y ∈ [x]) v) (e : y = x) : v = 0 := by
  rcases h with ⟨-, q⟩ | ⟨p, -⟩
  · exact q
  · exact absurd (List.mem_singleton.mpr e) p
theorem own_v1f {x y v : Int32} (h : own_rel (y ∈ [x]) v) (e : ¬ y = x) : v = 1 := by
  rcases h with ⟨p, -⟩ | ⟨-, q⟩
  · exact absurd (List.mem_singleton.mp p) e
  · exact q
theorem own_mem2 {x y z : Int32} : z ∈ own_add [x] y ↔ z = x ∨ z = y := by
  unfold own_add
  by_cases q : y ∈ [x]
  · rw [if_pos q]; cases List.mem_singleton.mp q; simp
  · rw [if_neg q]; simp
theorem own_v2a {x y z v : Int32} (h : own_rel (z ∈ own_add [x] y) v) (e : z = x) : v = 0 := by
  rcases h with ⟨-, q⟩ | ⟨p, -⟩
  · exact q
  · exact absurd (own_mem2.mpr (Or.inl e)) p
theorem own_v2b {x y z v : Int32} (h : own_rel (z ∈ own_add [x] y) v) (e : z = y) : v = 0 := by
  rcases h with ⟨-, q⟩ | ⟨p, -⟩
  · exact q
  · exact absurd (own_mem2.mpr (Or.inr e)) p
theorem own_v2c {x y z v : Int32} (h : own_rel (z ∈ own_add [x] y) v) (e1 : ¬ z = x) (e2 : ¬ z = y) : v = 1 := by
  rcases h with ⟨p, -⟩ | ⟨-, q⟩
  · exact absurd (own_mem2.mp p) (fun r => r.elim e1 e2)
  · exact q
theorem own_s1 {x y z : Int32} (e1 : y = x) (e2 : z = x) : Int32.ofNat (own_add (own_add [x] y) z).length = 1 := by subst e1 e2; simp [own_add]
theorem own_s2 {x y z : Int32} (e1 : y = x) (e2 : ¬ z = x) : Int32.ofNat (own_add (own_add [x] y) z).length = 2 := by subst e1; simp [own_add, e2]
theorem own_s3 {x y z : Int32} (e1 : ¬ y = x) (e2 : z = x ∨ z = y) : Int32.ofNat (own_add (own_add [x] y) z).length = 2 := by
  have q := own_mem2 (x := x) (y := y) (z := z) |>.mpr e2
  rw [own_add, if_pos q, own_add, if_neg (by simpa using e1)]; rfl
theorem own_s4 {x y z : Int32} (e1 : ¬ y = x) (e2 : ¬ z = x) (e3 : ¬ z = y) : Int32.ofNat (own_add (own_add [x] y) z).length = 3 := by
  have q : ¬ z ∈ own_add [x] y := fun r => (own_mem2.mp r).elim e2 e3
  rw [own_add, if_neg q, own_add, if_neg (by simpa using e1)]; rfl
theorem own_addLen (xs : List Int32) (x : Int32) : xs.length ≤ (own_add xs x).length ∧ (own_add xs x).length ≤ xs.length + 1 := by unfold own_add; split <;> simp
theorem own_addNil (x : Int32) : own_add [] x = [x] := by simp [own_add]
theorem NSE.exa {Z : State} {h : Heap} {n0 : Nat} {ns : Addr} {xs : List Int32} {L : Nat} (N : NSE Z h n0 ns xs L) : Exa Z h ns "com/example/greasan/greasan/reasoner/NodeSet" := by obtain ⟨b, ad, wa, ka, kw, ws, u, tl, ⟨q, -⟩, -⟩ := N; exact q

theorem d_prog_13m3_0 : decode prog_13_method_3_code 0 = .ok (.aload_n 0, 1) := by decide +kernel
theorem d_prog_13m3_1 : decode prog_13_method_3_code 1 = .ok (.getfield 28, 3) := by decide +kernel
theorem d_prog_13m3_4 : decode prog_13_method_3_code 4 = .ok (.ireturn, 1) := by decide +kernel
set_option maxRecDepth 65536 in
set_option maxHeartbeats 40000000 in
theorem c_size (l : Launch) (Z : State) (a0 : Array Value) (hw : ∀ d ∈ tables_1, d.before a0 Z = true) (n0 : Nat) (h0 : Heap) (ns : Addr) (xs : List Int32) (L : Nat) (N0 : NSE Z h0 n0 ns xs L) :
    OwnKit.Con false l Z n0 (⟨"com/example/greasan/greasan/reasoner/NodeSet", "size", "()I"⟩ : MethodName) prog_13_method_3_code 1 (some .int) ({ frames := 0, cells := 0, slots := 0, locals := 0 } : Room) #[.ref ns] h0 (QLen xs h0) := by
  refine OwnKit.Con.of (by first | (refine plainFor_of_name ?_; simp [plainName, overriddenIn]; done) | decide +kernel) ?_ ?_
  · intro κ hwd K0
    have K : OwnKit.Ok κ l Z n0 "com/example/greasan/greasan/reasoner/NodeSet" "size" prog_13_method_3_code 1 (some .int) ({ frames := 0, cells := 0, slots := 0, locals := 0 } : Room) (QLen xs h0) := K0
    have ef : (entryFrame κ.m #[.ref ns] 1).locals = #[.val (.ref ns)] := by first | (simp [entryFrame, argsToLocals, Value.category]; done) | rfl
    rw [ef]; clear ef K0
    obtain ⟨b, ad, wa, ka, kw, ws, u, tl, ⟨E_n, F_h, F_a, F_z, A_a, B1, hmem, hrng, hle, G_n, G_a, nnb, nna, nnw, nab, naw⟩, hL⟩ := id N0
    show OwnKit.Go κ h0 0 0 0 #[.val (.ref ns)] []
    refine OwnKit.aloadN K d_prog_13m3_0 rfl rfl ?_
    show OwnKit.Go κ h0 0 0 1 #[.val (.ref ns)] [.ref ns]
    refine OwnKit.getfield K d_prog_13m3_1 (host := "") (Or.inl (hw _ (List.mem_of_getElem? (i := 42) rfl))) Via.refl F_z ?_
    show OwnKit.Go κ h0 0 0 4 #[.val (.ref ns)] [.int (Int32.ofNat xs.length)]
    refine OwnKit.ireturn K d_prog_13m3_4 (Or.inl rfl) rfl ?_ (Nat.le_of_ble_eq_true rfl) (Nat.le_of_ble_eq_true rfl)
    exact ⟨rfl, rfl⟩
  · intro m; first | rfl | (simp [entryFrame, mkF, argsToLocals, Value.category]; done)

set_option maxRecDepth 65536 in
set_option maxHeartbeats 40000000 in
theorem c_law (l : Launch) (Z : State) (a0 : Array Value) (hw : ∀ d ∈ tables_1, d.before a0 Z = true) (n0 : Nat) (h0 : Heap) (n a b c : Int32)  (S__assertionsDisabled : Sta Z Z.heap "java/util/BitSet" "$assertionsDisabled" "Z" (.int (1 : Int32))) :
    OwnKit.Con false l Z n0 x code maxLocals ret room_1 #[.int n, .int a, .int b, .int c] h0 QLaw := by
  refine OwnKit.Con.of (by first | (refine plainFor_of_name ?_; simp [plainName, overriddenIn]; done) | decide +kernel) ?_ ?_
  · intro κ hwd K0
    have K : OwnKit.Ok κ l Z n0 "com/example/greasan/greasan/reasoner/NodeSetClearPinLaw" "law" code 15 (some .boolean) room_1 QLaw := K0
    have ef : (entryFrame κ.m #[.int n, .int a, .int b, .int c] maxLocals).locals = #[.val (.int n), .val (.int a), .val (.int b), .val (.int c), .unset, .unset, .unset, .unset, .unset, .unset, .unset, .unset, .unset, .unset, .unset] := by first | (simp [entryFrame, argsToLocals, Value.category, maxLocals]; done) | rfl
    rw [ef]; clear ef K0
    have J116 : ∀ (h : Heap) (C T L : Nat) (k x y z : Int32) (ns : Addr) (v0 v1 v2 : Int32), C ≤ 24 → T ≤ 6592 → NSE Z h n0 ns (own_add (own_add [x] y) z) L → own_rel (x ∈ ([] : List Int32)) v0 → own_rel (y ∈ [x]) v1 → own_rel (z ∈ own_add [x] y) v2 → OwnKit.Go κ h C T 116 #[.val (.int n), .val (.int a), .val (.int b), .val (.int c), .val (.int k), .val (.int x), .val (.int y), .val (.int z), .val (.ref ns), .val (.int v0), .val (.int v1), .val (.int v2), .unset, .unset, .unset] [] := by
      intro h C T L k x y z ns v0 v1 v2 hC hT N hv0 hv1 hv2
      have E_ns := N.exa
      show OwnKit.Go κ h C T 116 #[.val (.int n), .val (.int a), .val (.int b), .val (.int c), .val (.int k), .val (.int x), .val (.int y), .val (.int z), .val (.ref ns), .val (.int v0), .val (.int v1), .val (.int v2), .unset, .unset, .unset] []
      refine OwnKit.iload K at_116 rfl ?_
      show OwnKit.Go κ h C T 118 #[.val (.int n), .val (.int a), .val (.int b), .val (.int c), .val (.int k), .val (.int x), .val (.int y), .val (.int z), .val (.ref ns), .val (.int v0), .val (.int v1), .val (.int v2), .unset, .unset, .unset] [.int y]
      refine OwnKit.iload K at_118 rfl ?_
      show OwnKit.Go κ h C T 120 #[.val (.int n), .val (.int a), .val (.int b), .val (.int c), .val (.int k), .val (.int x), .val (.int y), .val (.int z), .val (.ref ns), .val (.int v0), .val (.int v1), .val (.int v2), .unset, .unset, .unset] [.int x, .int y]
      refine OwnKit.icmpeq K at_120 (by decide) (pc' := 127) rfl  (fun b1 => ?_) (fun b1 => ?_)
      · show OwnKit.Go κ h C T 127 #[.val (.int n), .val (.int a), .val (.int b), .val (.int c), .val (.int k), .val (.int x), .val (.int y), .val (.int z), .val (.ref ns), .val (.int v0), .val (.int v1), .val (.int v2), .unset, .unset, .unset] []
        refine OwnKit.iconst K at_127 ?_
        show OwnKit.Go κ h C T 128 #[.val (.int n), .val (.int a), .val (.int b), .val (.int c), .val (.int k), .val (.int x), .val (.int y), .val (.int z), .val (.ref ns), .val (.int v0), .val (.int v1), .val (.int v2), .unset, .unset, .unset] [.int (0 : Int32)]
        refine OwnKit.istore K at_128 (l' := #[.val (.int n), .val (.int a), .val (.int b), .val (.int c), .val (.int k), .val (.int x), .val (.int y), .val (.int z), .val (.ref ns), .val (.int v0), .val (.int v1), .val (.int v2), .val (.int (0 : Int32)), .unset, .unset]) rfl ?_
        show OwnKit.Go κ h C T 130 #[.val (.int n), .val (.int a), .val (.int b), .val (.int c), .val (.int k), .val (.int x), .val (.int y), .val (.int z), .val (.ref ns), .val (.int v0), .val (.int v1), .val (.int v2), .val (.int (0 : Int32)), .unset, .unset] []
        refine OwnKit.iload K at_130 rfl ?_
        show OwnKit.Go κ h C T 132 #[.val (.int n), .val (.int a), .val (.int b), .val (.int c), .val (.int k), .val (.int x), .val (.int y), .val (.int z), .val (.ref ns), .val (.int v0), .val (.int v1), .val (.int v2), .val (.int (0 : Int32)), .unset, .unset] [.int z]
        refine OwnKit.iload K at_132 rfl ?_
        show OwnKit.Go κ h C T 134 #[.val (.int n), .val (.int a), .val (.int b), .val (.int c), .val (.int k), .val (.int x), .val (.int y), .val (.int z), .val (.ref ns), .val (.int v0), .val (.int v1), .val (.int v2), .val (.int (0 : Int32)), .unset, .unset] [.int x, .int z]
        refine OwnKit.icmpeq K at_134 (by decide) (pc' := 148) rfl  (fun b2 => ?_) (fun b2 => ?_)
        · show OwnKit.Go κ h C T 148 #[.val (.int n), .val (.int a), .val (.int b), .val (.int c), .val (.int k), .val (.int x), .val (.int y), .val (.int z), .val (.ref ns), .val (.int v0), .val (.int v1), .val (.int v2), .val (.int (0 : Int32)), .unset, .unset] []
          refine OwnKit.iconst K at_148 ?_
          show OwnKit.Go κ h C T 149 #[.val (.int n), .val (.int a), .val (.int b), .val (.int c), .val (.int k), .val (.int x), .val (.int y), .val (.int z), .val (.ref ns), .val (.int v0), .val (.int v1), .val (.int v2), .val (.int (0 : Int32)), .unset, .unset] [.int (0 : Int32)]
          refine OwnKit.istore K at_149 (l' := #[.val (.int n), .val (.int a), .val (.int b), .val (.int c), .val (.int k), .val (.int x), .val (.int y), .val (.int z), .val (.ref ns), .val (.int v0), .val (.int v1), .val (.int v2), .val (.int (0 : Int32)), .val (.int (0 : Int32)), .unset]) rfl ?_
          show OwnKit.Go κ h C T 151 #[.val (.int n), .val (.int a), .val (.int b), .val (.int c), .val (.int k), .val (.int x), .val (.int y), .val (.int z), .val (.ref ns), .val (.int v0), .val (.int v1), .val (.int v2), .val (.int (0 : Int32)), .val (.int (0 : Int32)), .unset] []
          refine OwnKit.iconst K at_151 ?_
          show OwnKit.Go κ h C T 152 #[.val (.int n), .val (.int a), .val (.int b), .val (.int c), .val (.int k), .val (.int x), .val (.int y), .val (.int z), .val (.ref ns), .val (.int v0), .val (.int v1), .val (.int v2), .val (.int (0 : Int32)), .val (.int (0 : Int32)), .unset] [.int (1 : Int32)]
          refine OwnKit.iload K at_152 rfl ?_
          show OwnKit.Go κ h C T 154 #[.val (.int n), .val (.int a), .val (.int b), .val (.int c), .val (.int k), .val (.int x), .val (.int y), .val (.int z), .val (.ref ns), .val (.int v0), .val (.int v1), .val (.int v2), .val (.int (0 : Int32)), .val (.int (0 : Int32)), .unset] [.int (0 : Int32), .int (1 : Int32)]
          refine OwnKit.ifeq K at_154 (by decide) (pc' := 161) rfl  (fun b3 => ?_) (fun b3 => ?_)
          · show OwnKit.Go κ h C T 161 #[.val (.int n), .val (.int a), .val (.int b), .val (.int c), .val (.int k), .val (.int x), .val (.int y), .val (.int z), .val (.ref ns), .val (.int v0), .val (.int v1), .val (.int v2), .val (.int (0 : Int32)), .val (.int (0 : Int32)), .unset] [.int (1 : Int32)]
            refine OwnKit.iconst K at_161 ?_
            show OwnKit.Go κ h C T 162 #[.val (.int n), .val (.int a), .val (.int b), .val (.int c), .val (.int k), .val (.int x), .val (.int y), .val (.int z), .val (.ref ns), .val (.int v0), .val (.int v1), .val (.int v2), .val (.int (0 : Int32)), .val (.int (0 : Int32)), .unset] [.int (0 : Int32), .int (1 : Int32)]
            refine OwnKit.iadd K at_162 ?_
            show OwnKit.Go κ h C T 163 #[.val (.int n), .val (.int a), .val (.int b), .val (.int c), .val (.int k), .val (.int x), .val (.int y), .val (.int z), .val (.ref ns), .val (.int v0), .val (.int v1), .val (.int v2), .val (.int (0 : Int32)), .val (.int (0 : Int32)), .unset] [.int (1 : Int32)]
            show OwnKit.Go κ h C T 163 #[.val (.int n), .val (.int a), .val (.int b), .val (.int c), .val (.int k), .val (.int x), .val (.int y), .val (.int z), .val (.ref ns), .val (.int v0), .val (.int v1), .val (.int v2), .val (.int (0 : Int32)), .val (.int (0 : Int32)), .unset] [.int (1 : Int32)]
            refine OwnKit.iload K at_163 rfl ?_
            show OwnKit.Go κ h C T 165 #[.val (.int n), .val (.int a), .val (.int b), .val (.int c), .val (.int k), .val (.int x), .val (.int y), .val (.int z), .val (.ref ns), .val (.int v0), .val (.int v1), .val (.int v2), .val (.int (0 : Int32)), .val (.int (0 : Int32)), .unset] [.int (0 : Int32), .int (1 : Int32)]
            refine OwnKit.ifeq K at_165 (by decide) (pc' := 172) rfl  (fun b4 => ?_) (fun b4 => ?_)
            · show OwnKit.Go κ h C T 172 #[.val (.int n), .val (.int a), .val (.int b), .val (.int c), .val (.int k), .val (.int x), .val (.int y), .val (.int z), .val (.ref ns), .val (.int v0), .val (.int v1), .val (.int v2), .val (.int (0 : Int32)), .val (.int (0 : Int32)), .unset] [.int (1 : Int32)]
              refine OwnKit.iconst K at_172 ?_
              show OwnKit.Go κ h C T 173 #[.val (.int n), .val (.int a), .val (.int b), .val (.int c), .val (.int k), .val (.int x), .val (.int y), .val (.int z), .val (.ref ns), .val (.int v0), .val (.int v1), .val (.int v2), .val (.int (0 : Int32)), .val (.int (0 : Int32)), .unset] [.int (0 : Int32), .int (1 : Int32)]
              refine OwnKit.iadd K at_173 ?_
              show OwnKit.Go κ h C T 174 #[.val (.int n), .val (.int a), .val (.int b), .val (.int c), .val (.int k), .val (.int x), .val (.int y), .val (.int z), .val (.ref ns), .val (.int v0), .val (.int v1), .val (.int v2), .val (.int (0 : Int32)), .val (.int (0 : Int32)), .unset] [.int (1 : Int32)]
              show OwnKit.Go κ h C T 174 #[.val (.int n), .val (.int a), .val (.int b), .val (.int c), .val (.int k), .val (.int x), .val (.int y), .val (.int z), .val (.ref ns), .val (.int v0), .val (.int v1), .val (.int v2), .val (.int (0 : Int32)), .val (.int (0 : Int32)), .unset] [.int (1 : Int32)]
              refine OwnKit.istore K at_174 (l' := #[.val (.int n), .val (.int a), .val (.int b), .val (.int c), .val (.int k), .val (.int x), .val (.int y), .val (.int z), .val (.ref ns), .val (.int v0), .val (.int v1), .val (.int v2), .val (.int (0 : Int32)), .val (.int (0 : Int32)), .val (.int (1 : Int32))]) rfl ?_
              show OwnKit.Go κ h C T 176 #[.val (.int n), .val (.int a), .val (.int b), .val (.int c), .val (.int k), .val (.int x), .val (.int y), .val (.int z), .val (.ref ns), .val (.int v0), .val (.int v1), .val (.int v2), .val (.int (0 : Int32)), .val (.int (0 : Int32)), .val (.int (1 : Int32))] []
              refine OwnKit.iload K at_176 rfl ?_
              show OwnKit.Go κ h C T 178 #[.val (.int n), .val (.int a), .val (.int b), .val (.int c), .val (.int k), .val (.int x), .val (.int y), .val (.int z), .val (.ref ns), .val (.int v0), .val (.int v1), .val (.int v2), .val (.int (0 : Int32)), .val (.int (0 : Int32)), .val (.int (1 : Int32))] [.int v0]
              refine OwnKit.ifeq K at_178 (by decide) (pc' := 209) rfl  (fun b5 => ?_) (fun b5 => ?_)
              · exact absurd b5 (own_n0 hv0)
              · show OwnKit.Go κ h C T 181 #[.val (.int n), .val (.int a), .val (.int b), .val (.int c), .val (.int k), .val (.int x), .val (.int y), .val (.int z), .val (.ref ns), .val (.int v0), .val (.int v1), .val (.int v2), .val (.int (0 : Int32)), .val (.int (0 : Int32)), .val (.int (1 : Int32))] []
                refine OwnKit.iload K at_181 rfl ?_
                show OwnKit.Go κ h C T 183 #[.val (.int n), .val (.int a), .val (.int b), .val (.int c), .val (.int k), .val (.int x), .val (.int y), .val (.int z), .val (.ref ns), .val (.int v0), .val (.int v1), .val (.int v2), .val (.int (0 : Int32)), .val (.int (0 : Int32)), .val (.int (1 : Int32))] [.int v1]
                refine OwnKit.iload K at_183 rfl ?_
                show OwnKit.Go κ h C T 185 #[.val (.int n), .val (.int a), .val (.int b), .val (.int c), .val (.int k), .val (.int x), .val (.int y), .val (.int z), .val (.ref ns), .val (.int v0), .val (.int v1), .val (.int v2), .val (.int (0 : Int32)), .val (.int (0 : Int32)), .val (.int (1 : Int32))] [.int (0 : Int32), .int v1]
                refine OwnKit.icmpne K at_185 (by decide) (pc' := 209) rfl  (fun b6 => ?_) (fun b6 => ?_)
                · exact absurd (own_v1t hv1 b1) b6
                · show OwnKit.Go κ h C T 188 #[.val (.int n), .val (.int a), .val (.int b), .val (.int c), .val (.int k), .val (.int x), .val (.int y), .val (.int z), .val (.ref ns), .val (.int v0), .val (.int v1), .val (.int v2), .val (.int (0 : Int32)), .val (.int (0 : Int32)), .val (.int (1 : Int32))] []
                  refine OwnKit.iload K at_188 rfl ?_
                  show OwnKit.Go κ h C T 190 #[.val (.int n), .val (.int a), .val (.int b), .val (.int c), .val (.int k), .val (.int x), .val (.int y), .val (.int z), .val (.ref ns), .val (.int v0), .val (.int v1), .val (.int v2), .val (.int (0 : Int32)), .val (.int (0 : Int32)), .val (.int (1 : Int32))] [.int v2]
                  refine OwnKit.iload K at_190 rfl ?_
                  show OwnKit.Go κ h C T 192 #[.val (.int n), .val (.int a), .val (.int b), .val (.int c), .val (.int k), .val (.int x), .val (.int y), .val (.int z), .val (.ref ns), .val (.int v0), .val (.int v1), .val (.int v2), .val (.int (0 : Int32)), .val (.int (0 : Int32)), .val (.int (1 : Int32))] [.int (0 : Int32), .int v2]
                  refine OwnKit.icmpne K at_192 (by decide) (pc' := 209) rfl  (fun b7 => ?_) (fun b7 => ?_)
                  · exact absurd (own_v2a hv2 b2) b7
                  · show OwnKit.Go κ h C T 195 #[.val (.int n), .val (.int a), .val (.int b), .val (.int c), .val (.int k), .val (.int x), .val (.int y), .val (.int z), .val (.ref ns), .val (.int v0), .val (.int v1), .val (.int v2), .val (.int (0 : Int32)), .val (.int (0 : Int32)), .val (.int (1 : Int32))] []
                    refine OwnKit.aload K at_195 rfl rfl ?_
                    show OwnKit.Go κ h C T 197 #[.val (.int n), .val (.int a), .val (.int b), .val (.int c), .val (.int k), .val (.int x), .val (.int y), .val (.int z), .val (.ref ns), .val (.int v0), .val (.int v1), .val (.int v2), .val (.int (0 : Int32)), .val (.int (0 : Int32)), .val (.int (1 : Int32))] [.ref ns]
                    refine OwnKit.invV (y := (⟨"com/example/greasan/greasan/reasoner/NodeSet", "size", "()I"⟩ : MethodName)) (z := (⟨"com/example/greasan/greasan/reasoner/NodeSet", "size", "()I"⟩ : MethodName)) (argsL := []) (rest := []) K (c_size l Z a0 hw n0 h ns (own_add (own_add [x] y) z) L N) at_197 E_ns (hw _ (List.mem_of_getElem? (i := 44) rfl)) (hw _ (List.mem_of_getElem? (i := 45) rfl)) (OwnKit.nfS (hw _ (List.mem_of_getElem? (i := 47) rfl))) (hw _ (List.mem_of_getElem? (i := 47) rfl)) (hw _ (List.mem_of_getElem? (i := 46) rfl)) (hw _ (List.mem_of_getElem? (i := 48) rfl)) (hw _ (List.mem_of_getElem? (i := 3) rfl)) (by decide) (lenOf (by decide +kernel : parseMethodDescriptor "()I" = some ⟨[], some .int⟩) rfl) rfl rfl (W := 0) (Nat.le_of_ble_eq_true rfl) (Nat.le_of_ble_eq_true rfl) (Nat.le_of_ble_eq_true rfl) hC hT ?_
                    rintro _ h8 ⟨rfl, rfl⟩ g9
                    show OwnKit.Go κ h C T 200 #[.val (.int n), .val (.int a), .val (.int b), .val (.int c), .val (.int k), .val (.int x), .val (.int y), .val (.int z), .val (.ref ns), .val (.int v0), .val (.int v1), .val (.int v2), .val (.int (0 : Int32)), .val (.int (0 : Int32)), .val (.int (1 : Int32))] [.int (Int32.ofNat (own_add (own_add [x] y) z).length)]
                    refine OwnKit.iload K at_200 rfl ?_
                    show OwnKit.Go κ h C T 202 #[.val (.int n), .val (.int a), .val (.int b), .val (.int c), .val (.int k), .val (.int x), .val (.int y), .val (.int z), .val (.ref ns), .val (.int v0), .val (.int v1), .val (.int v2), .val (.int (0 : Int32)), .val (.int (0 : Int32)), .val (.int (1 : Int32))] [.int (1 : Int32), .int (Int32.ofNat (own_add (own_add [x] y) z).length)]
                    refine OwnKit.icmpne K at_202 (by decide) (pc' := 209) rfl  (fun b10 => ?_) (fun b10 => ?_)
                    · exact absurd (own_s1 b1 b2) b10
                    · show OwnKit.Go κ h C T 205 #[.val (.int n), .val (.int a), .val (.int b), .val (.int c), .val (.int k), .val (.int x), .val (.int y), .val (.int z), .val (.ref ns), .val (.int v0), .val (.int v1), .val (.int v2), .val (.int (0 : Int32)), .val (.int (0 : Int32)), .val (.int (1 : Int32))] []
                      refine OwnKit.iconst K at_205 ?_
                      show OwnKit.Go κ h C T 206 #[.val (.int n), .val (.int a), .val (.int b), .val (.int c), .val (.int k), .val (.int x), .val (.int y), .val (.int z), .val (.ref ns), .val (.int v0), .val (.int v1), .val (.int v2), .val (.int (0 : Int32)), .val (.int (0 : Int32)), .val (.int (1 : Int32))] [.int (1 : Int32)]
                      refine OwnKit.goto K at_206 (by decide) (pc' := 210) rfl ?_
                      show OwnKit.Go κ h C T 210 #[.val (.int n), .val (.int a), .val (.int b), .val (.int c), .val (.int k), .val (.int x), .val (.int y), .val (.int z), .val (.ref ns), .val (.int v0), .val (.int v1), .val (.int v2), .val (.int (0 : Int32)), .val (.int (0 : Int32)), .val (.int (1 : Int32))] [.int (1 : Int32)]
                      refine OwnKit.ireturn K at_210 (Or.inr (Or.inl rfl)) rfl ?_ hC hT
                      exact rfl
            · exact absurd b4 (by decide)
          · exact absurd b3 (by decide)
        · show OwnKit.Go κ h C T 137 #[.val (.int n), .val (.int a), .val (.int b), .val (.int c), .val (.int k), .val (.int x), .val (.int y), .val (.int z), .val (.ref ns), .val (.int v0), .val (.int v1), .val (.int v2), .val (.int (0 : Int32)), .unset, .unset] []
          refine OwnKit.iload K at_137 rfl ?_
          show OwnKit.Go κ h C T 139 #[.val (.int n), .val (.int a), .val (.int b), .val (.int c), .val (.int k), .val (.int x), .val (.int y), .val (.int z), .val (.ref ns), .val (.int v0), .val (.int v1), .val (.int v2), .val (.int (0 : Int32)), .unset, .unset] [.int z]
          refine OwnKit.iload K at_139 rfl ?_
          show OwnKit.Go κ h C T 141 #[.val (.int n), .val (.int a), .val (.int b), .val (.int c), .val (.int k), .val (.int x), .val (.int y), .val (.int z), .val (.ref ns), .val (.int v0), .val (.int v1), .val (.int v2), .val (.int (0 : Int32)), .unset, .unset] [.int y, .int z]
          refine OwnKit.icmpeq K at_141 (by decide) (pc' := 148) rfl  (fun b11 => ?_) (fun b11 => ?_)
          · show OwnKit.Go κ h C T 148 #[.val (.int n), .val (.int a), .val (.int b), .val (.int c), .val (.int k), .val (.int x), .val (.int y), .val (.int z), .val (.ref ns), .val (.int v0), .val (.int v1), .val (.int v2), .val (.int (0 : Int32)), .unset, .unset] []
            refine OwnKit.iconst K at_148 ?_
            show OwnKit.Go κ h C T 149 #[.val (.int n), .val (.int a), .val (.int b), .val (.int c), .val (.int k), .val (.int x), .val (.int y), .val (.int z), .val (.ref ns), .val (.int v0), .val (.int v1), .val (.int v2), .val (.int (0 : Int32)), .unset, .unset] [.int (0 : Int32)]
            refine OwnKit.istore K at_149 (l' := #[.val (.int n), .val (.int a), .val (.int b), .val (.int c), .val (.int k), .val (.int x), .val (.int y), .val (.int z), .val (.ref ns), .val (.int v0), .val (.int v1), .val (.int v2), .val (.int (0 : Int32)), .val (.int (0 : Int32)), .unset]) rfl ?_
            show OwnKit.Go κ h C T 151 #[.val (.int n), .val (.int a), .val (.int b), .val (.int c), .val (.int k), .val (.int x), .val (.int y), .val (.int z), .val (.ref ns), .val (.int v0), .val (.int v1), .val (.int v2), .val (.int (0 : Int32)), .val (.int (0 : Int32)), .unset] []
            refine OwnKit.iconst K at_151 ?_
            show OwnKit.Go κ h C T 152 #[.val (.int n), .val (.int a), .val (.int b), .val (.int c), .val (.int k), .val (.int x), .val (.int y), .val (.int z), .val (.ref ns), .val (.int v0), .val (.int v1), .val (.int v2), .val (.int (0 : Int32)), .val (.int (0 : Int32)), .unset] [.int (1 : Int32)]
            refine OwnKit.iload K at_152 rfl ?_
            show OwnKit.Go κ h C T 154 #[.val (.int n), .val (.int a), .val (.int b), .val (.int c), .val (.int k), .val (.int x), .val (.int y), .val (.int z), .val (.ref ns), .val (.int v0), .val (.int v1), .val (.int v2), .val (.int (0 : Int32)), .val (.int (0 : Int32)), .unset] [.int (0 : Int32), .int (1 : Int32)]
            refine OwnKit.ifeq K at_154 (by decide) (pc' := 161) rfl  (fun b12 => ?_) (fun b12 => ?_)
            · show OwnKit.Go κ h C T 161 #[.val (.int n), .val (.int a), .val (.int b), .val (.int c), .val (.int k), .val (.int x), .val (.int y), .val (.int z), .val (.ref ns), .val (.int v0), .val (.int v1), .val (.int v2), .val (.int (0 : Int32)), .val (.int (0 : Int32)), .unset] [.int (1 : Int32)]
              refine OwnKit.iconst K at_161 ?_
              show OwnKit.Go κ h C T 162 #[.val (.int n), .val (.int a), .val (.int b), .val (.int c), .val (.int k), .val (.int x), .val (.int y), .val (.int z), .val (.ref ns), .val (.int v0), .val (.int v1), .val (.int v2), .val (.int (0 : Int32)), .val (.int (0 : Int32)), .unset] [.int (0 : Int32), .int (1 : Int32)]
              refine OwnKit.iadd K at_162 ?_
              show OwnKit.Go κ h C T 163 #[.val (.int n), .val (.int a), .val (.int b), .val (.int c), .val (.int k), .val (.int x), .val (.int y), .val (.int z), .val (.ref ns), .val (.int v0), .val (.int v1), .val (.int v2), .val (.int (0 : Int32)), .val (.int (0 : Int32)), .unset] [.int (1 : Int32)]
              show OwnKit.Go κ h C T 163 #[.val (.int n), .val (.int a), .val (.int b), .val (.int c), .val (.int k), .val (.int x), .val (.int y), .val (.int z), .val (.ref ns), .val (.int v0), .val (.int v1), .val (.int v2), .val (.int (0 : Int32)), .val (.int (0 : Int32)), .unset] [.int (1 : Int32)]
              refine OwnKit.iload K at_163 rfl ?_
              show OwnKit.Go κ h C T 165 #[.val (.int n), .val (.int a), .val (.int b), .val (.int c), .val (.int k), .val (.int x), .val (.int y), .val (.int z), .val (.ref ns), .val (.int v0), .val (.int v1), .val (.int v2), .val (.int (0 : Int32)), .val (.int (0 : Int32)), .unset] [.int (0 : Int32), .int (1 : Int32)]
              refine OwnKit.ifeq K at_165 (by decide) (pc' := 172) rfl  (fun b13 => ?_) (fun b13 => ?_)
              · show OwnKit.Go κ h C T 172 #[.val (.int n), .val (.int a), .val (.int b), .val (.int c), .val (.int k), .val (.int x), .val (.int y), .val (.int z), .val (.ref ns), .val (.int v0), .val (.int v1), .val (.int v2), .val (.int (0 : Int32)), .val (.int (0 : Int32)), .unset] [.int (1 : Int32)]
                refine OwnKit.iconst K at_172 ?_
                show OwnKit.Go κ h C T 173 #[.val (.int n), .val (.int a), .val (.int b), .val (.int c), .val (.int k), .val (.int x), .val (.int y), .val (.int z), .val (.ref ns), .val (.int v0), .val (.int v1), .val (.int v2), .val (.int (0 : Int32)), .val (.int (0 : Int32)), .unset] [.int (0 : Int32), .int (1 : Int32)]
                refine OwnKit.iadd K at_173 ?_
                show OwnKit.Go κ h C T 174 #[.val (.int n), .val (.int a), .val (.int b), .val (.int c), .val (.int k), .val (.int x), .val (.int y), .val (.int z), .val (.ref ns), .val (.int v0), .val (.int v1), .val (.int v2), .val (.int (0 : Int32)), .val (.int (0 : Int32)), .unset] [.int (1 : Int32)]
                show OwnKit.Go κ h C T 174 #[.val (.int n), .val (.int a), .val (.int b), .val (.int c), .val (.int k), .val (.int x), .val (.int y), .val (.int z), .val (.ref ns), .val (.int v0), .val (.int v1), .val (.int v2), .val (.int (0 : Int32)), .val (.int (0 : Int32)), .unset] [.int (1 : Int32)]
                refine OwnKit.istore K at_174 (l' := #[.val (.int n), .val (.int a), .val (.int b), .val (.int c), .val (.int k), .val (.int x), .val (.int y), .val (.int z), .val (.ref ns), .val (.int v0), .val (.int v1), .val (.int v2), .val (.int (0 : Int32)), .val (.int (0 : Int32)), .val (.int (1 : Int32))]) rfl ?_
                show OwnKit.Go κ h C T 176 #[.val (.int n), .val (.int a), .val (.int b), .val (.int c), .val (.int k), .val (.int x), .val (.int y), .val (.int z), .val (.ref ns), .val (.int v0), .val (.int v1), .val (.int v2), .val (.int (0 : Int32)), .val (.int (0 : Int32)), .val (.int (1 : Int32))] []
                refine OwnKit.iload K at_176 rfl ?_
                show OwnKit.Go κ h C T 178 #[.val (.int n), .val (.int a), .val (.int b), .val (.int c), .val (.int k), .val (.int x), .val (.int y), .val (.int z), .val (.ref ns), .val (.int v0), .val (.int v1), .val (.int v2), .val (.int (0 : Int32)), .val (.int (0 : Int32)), .val (.int (1 : Int32))] [.int v0]
                refine OwnKit.ifeq K at_178 (by decide) (pc' := 209) rfl  (fun b14 => ?_) (fun b14 => ?_)
                · exact absurd b14 (own_n0 hv0)
                · show OwnKit.Go κ h C T 181 #[.val (.int n), .val (.int a), .val (.int b), .val (.int c), .val (.int k), .val (.int x), .val (.int y), .val (.int z), .val (.ref ns), .val (.int v0), .val (.int v1), .val (.int v2), .val (.int (0 : Int32)), .val (.int (0 : Int32)), .val (.int (1 : Int32))] []
                  refine OwnKit.iload K at_181 rfl ?_
                  show OwnKit.Go κ h C T 183 #[.val (.int n), .val (.int a), .val (.int b), .val (.int c), .val (.int k), .val (.int x), .val (.int y), .val (.int z), .val (.ref ns), .val (.int v0), .val (.int v1), .val (.int v2), .val (.int (0 : Int32)), .val (.int (0 : Int32)), .val (.int (1 : Int32))] [.int v1]
                  refine OwnKit.iload K at_183 rfl ?_
                  show OwnKit.Go κ h C T 185 #[.val (.int n), .val (.int a), .val (.int b), .val (.int c), .val (.int k), .val (.int x), .val (.int y), .val (.int z), .val (.ref ns), .val (.int v0), .val (.int v1), .val (.int v2), .val (.int (0 : Int32)), .val (.int (0 : Int32)), .val (.int (1 : Int32))] [.int (0 : Int32), .int v1]
                  refine OwnKit.icmpne K at_185 (by decide) (pc' := 209) rfl  (fun b15 => ?_) (fun b15 => ?_)
                  · exact absurd (own_v1t hv1 b1) b15
                  · show OwnKit.Go κ h C T 188 #[.val (.int n), .val (.int a), .val (.int b), .val (.int c), .val (.int k), .val (.int x), .val (.int y), .val (.int z), .val (.ref ns), .val (.int v0), .val (.int v1), .val (.int v2), .val (.int (0 : Int32)), .val (.int (0 : Int32)), .val (.int (1 : Int32))] []
                    refine OwnKit.iload K at_188 rfl ?_
                    show OwnKit.Go κ h C T 190 #[.val (.int n), .val (.int a), .val (.int b), .val (.int c), .val (.int k), .val (.int x), .val (.int y), .val (.int z), .val (.ref ns), .val (.int v0), .val (.int v1), .val (.int v2), .val (.int (0 : Int32)), .val (.int (0 : Int32)), .val (.int (1 : Int32))] [.int v2]
                    refine OwnKit.iload K at_190 rfl ?_
                    show OwnKit.Go κ h C T 192 #[.val (.int n), .val (.int a), .val (.int b), .val (.int c), .val (.int k), .val (.int x), .val (.int y), .val (.int z), .val (.ref ns), .val (.int v0), .val (.int v1), .val (.int v2), .val (.int (0 : Int32)), .val (.int (0 : Int32)), .val (.int (1 : Int32))] [.int (0 : Int32), .int v2]
                    refine OwnKit.icmpne K at_192 (by decide) (pc' := 209) rfl  (fun b16 => ?_) (fun b16 => ?_)
                    · exact absurd (own_v2b hv2 b11) b16
                    · show OwnKit.Go κ h C T 195 #[.val (.int n), .val (.int a), .val (.int b), .val (.int c), .val (.int k), .val (.int x), .val (.int y), .val (.int z), .val (.ref ns), .val (.int v0), .val (.int v1), .val (.int v2), .val (.int (0 : Int32)), .val (.int (0 : Int32)), .val (.int (1 : Int32))] []
                      refine OwnKit.aload K at_195 rfl rfl ?_
                      show OwnKit.Go κ h C T 197 #[.val (.int n), .val (.int a), .val (.int b), .val (.int c), .val (.int k), .val (.int x), .val (.int y), .val (.int z), .val (.ref ns), .val (.int v0), .val (.int v1), .val (.int v2), .val (.int (0 : Int32)), .val (.int (0 : Int32)), .val (.int (1 : Int32))] [.ref ns]
                      refine OwnKit.invV (y := (⟨"com/example/greasan/greasan/reasoner/NodeSet", "size", "()I"⟩ : MethodName)) (z := (⟨"com/example/greasan/greasan/reasoner/NodeSet", "size", "()I"⟩ : MethodName)) (argsL := []) (rest := []) K (c_size l Z a0 hw n0 h ns (own_add (own_add [x] y) z) L N) at_197 E_ns (hw _ (List.mem_of_getElem? (i := 44) rfl)) (hw _ (List.mem_of_getElem? (i := 45) rfl)) (OwnKit.nfS (hw _ (List.mem_of_getElem? (i := 47) rfl))) (hw _ (List.mem_of_getElem? (i := 47) rfl)) (hw _ (List.mem_of_getElem? (i := 46) rfl)) (hw _ (List.mem_of_getElem? (i := 48) rfl)) (hw _ (List.mem_of_getElem? (i := 3) rfl)) (by decide) (lenOf (by decide +kernel : parseMethodDescriptor "()I" = some ⟨[], some .int⟩) rfl) rfl rfl (W := 0) (Nat.le_of_ble_eq_true rfl) (Nat.le_of_ble_eq_true rfl) (Nat.le_of_ble_eq_true rfl) hC hT ?_
                      rintro _ h17 ⟨rfl, rfl⟩ g18
                      show OwnKit.Go κ h C T 200 #[.val (.int n), .val (.int a), .val (.int b), .val (.int c), .val (.int k), .val (.int x), .val (.int y), .val (.int z), .val (.ref ns), .val (.int v0), .val (.int v1), .val (.int v2), .val (.int (0 : Int32)), .val (.int (0 : Int32)), .val (.int (1 : Int32))] [.int (Int32.ofNat (own_add (own_add [x] y) z).length)]
                      refine OwnKit.iload K at_200 rfl ?_
                      show OwnKit.Go κ h C T 202 #[.val (.int n), .val (.int a), .val (.int b), .val (.int c), .val (.int k), .val (.int x), .val (.int y), .val (.int z), .val (.ref ns), .val (.int v0), .val (.int v1), .val (.int v2), .val (.int (0 : Int32)), .val (.int (0 : Int32)), .val (.int (1 : Int32))] [.int (1 : Int32), .int (Int32.ofNat (own_add (own_add [x] y) z).length)]
                      refine OwnKit.icmpne K at_202 (by decide) (pc' := 209) rfl  (fun b19 => ?_) (fun b19 => ?_)
                      · exact absurd (absurd (b11.trans b1) b2) b19
                      · show OwnKit.Go κ h C T 205 #[.val (.int n), .val (.int a), .val (.int b), .val (.int c), .val (.int k), .val (.int x), .val (.int y), .val (.int z), .val (.ref ns), .val (.int v0), .val (.int v1), .val (.int v2), .val (.int (0 : Int32)), .val (.int (0 : Int32)), .val (.int (1 : Int32))] []
                        refine OwnKit.iconst K at_205 ?_
                        show OwnKit.Go κ h C T 206 #[.val (.int n), .val (.int a), .val (.int b), .val (.int c), .val (.int k), .val (.int x), .val (.int y), .val (.int z), .val (.ref ns), .val (.int v0), .val (.int v1), .val (.int v2), .val (.int (0 : Int32)), .val (.int (0 : Int32)), .val (.int (1 : Int32))] [.int (1 : Int32)]
                        refine OwnKit.goto K at_206 (by decide) (pc' := 210) rfl ?_
                        show OwnKit.Go κ h C T 210 #[.val (.int n), .val (.int a), .val (.int b), .val (.int c), .val (.int k), .val (.int x), .val (.int y), .val (.int z), .val (.ref ns), .val (.int v0), .val (.int v1), .val (.int v2), .val (.int (0 : Int32)), .val (.int (0 : Int32)), .val (.int (1 : Int32))] [.int (1 : Int32)]
                        refine OwnKit.ireturn K at_210 (Or.inr (Or.inl rfl)) rfl ?_ hC hT
                        exact rfl
              · exact absurd b13 (by decide)
            · exact absurd b12 (by decide)
          · show OwnKit.Go κ h C T 144 #[.val (.int n), .val (.int a), .val (.int b), .val (.int c), .val (.int k), .val (.int x), .val (.int y), .val (.int z), .val (.ref ns), .val (.int v0), .val (.int v1), .val (.int v2), .val (.int (0 : Int32)), .unset, .unset] []
            refine OwnKit.iconst K at_144 ?_
            show OwnKit.Go κ h C T 145 #[.val (.int n), .val (.int a), .val (.int b), .val (.int c), .val (.int k), .val (.int x), .val (.int y), .val (.int z), .val (.ref ns), .val (.int v0), .val (.int v1), .val (.int v2), .val (.int (0 : Int32)), .unset, .unset] [.int (1 : Int32)]
            refine OwnKit.goto K at_145 (by decide) (pc' := 149) rfl ?_
            show OwnKit.Go κ h C T 149 #[.val (.int n), .val (.int a), .val (.int b), .val (.int c), .val (.int k), .val (.int x), .val (.int y), .val (.int z), .val (.ref ns), .val (.int v0), .val (.int v1), .val (.int v2), .val (.int (0 : Int32)), .unset, .unset] [.int (1 : Int32)]
            refine OwnKit.istore K at_149 (l' := #[.val (.int n), .val (.int a), .val (.int b), .val (.int c), .val (.int k), .val (.int x), .val (.int y), .val (.int z), .val (.ref ns), .val (.int v0), .val (.int v1), .val (.int v2), .val (.int (0 : Int32)), .val (.int (1 : Int32)), .unset]) rfl ?_
            show OwnKit.Go κ h C T 151 #[.val (.int n), .val (.int a), .val (.int b), .val (.int c), .val (.int k), .val (.int x), .val (.int y), .val (.int z), .val (.ref ns), .val (.int v0), .val (.int v1), .val (.int v2), .val (.int (0 : Int32)), .val (.int (1 : Int32)), .unset] []
            refine OwnKit.iconst K at_151 ?_
            show OwnKit.Go κ h C T 152 #[.val (.int n), .val (.int a), .val (.int b), .val (.int c), .val (.int k), .val (.int x), .val (.int y), .val (.int z), .val (.ref ns), .val (.int v0), .val (.int v1), .val (.int v2), .val (.int (0 : Int32)), .val (.int (1 : Int32)), .unset] [.int (1 : Int32)]
            refine OwnKit.iload K at_152 rfl ?_
            show OwnKit.Go κ h C T 154 #[.val (.int n), .val (.int a), .val (.int b), .val (.int c), .val (.int k), .val (.int x), .val (.int y), .val (.int z), .val (.ref ns), .val (.int v0), .val (.int v1), .val (.int v2), .val (.int (0 : Int32)), .val (.int (1 : Int32)), .unset] [.int (0 : Int32), .int (1 : Int32)]
            refine OwnKit.ifeq K at_154 (by decide) (pc' := 161) rfl  (fun b20 => ?_) (fun b20 => ?_)
            · show OwnKit.Go κ h C T 161 #[.val (.int n), .val (.int a), .val (.int b), .val (.int c), .val (.int k), .val (.int x), .val (.int y), .val (.int z), .val (.ref ns), .val (.int v0), .val (.int v1), .val (.int v2), .val (.int (0 : Int32)), .val (.int (1 : Int32)), .unset] [.int (1 : Int32)]
              refine OwnKit.iconst K at_161 ?_
              show OwnKit.Go κ h C T 162 #[.val (.int n), .val (.int a), .val (.int b), .val (.int c), .val (.int k), .val (.int x), .val (.int y), .val (.int z), .val (.ref ns), .val (.int v0), .val (.int v1), .val (.int v2), .val (.int (0 : Int32)), .val (.int (1 : Int32)), .unset] [.int (0 : Int32), .int (1 : Int32)]
              refine OwnKit.iadd K at_162 ?_
              show OwnKit.Go κ h C T 163 #[.val (.int n), .val (.int a), .val (.int b), .val (.int c), .val (.int k), .val (.int x), .val (.int y), .val (.int z), .val (.ref ns), .val (.int v0), .val (.int v1), .val (.int v2), .val (.int (0 : Int32)), .val (.int (1 : Int32)), .unset] [.int (1 : Int32)]
              show OwnKit.Go κ h C T 163 #[.val (.int n), .val (.int a), .val (.int b), .val (.int c), .val (.int k), .val (.int x), .val (.int y), .val (.int z), .val (.ref ns), .val (.int v0), .val (.int v1), .val (.int v2), .val (.int (0 : Int32)), .val (.int (1 : Int32)), .unset] [.int (1 : Int32)]
              refine OwnKit.iload K at_163 rfl ?_
              show OwnKit.Go κ h C T 165 #[.val (.int n), .val (.int a), .val (.int b), .val (.int c), .val (.int k), .val (.int x), .val (.int y), .val (.int z), .val (.ref ns), .val (.int v0), .val (.int v1), .val (.int v2), .val (.int (0 : Int32)), .val (.int (1 : Int32)), .unset] [.int (1 : Int32), .int (1 : Int32)]
              refine OwnKit.ifeq K at_165 (by decide) (pc' := 172) rfl  (fun b21 => ?_) (fun b21 => ?_)
              · exact absurd b21 (by decide)
              · show OwnKit.Go κ h C T 168 #[.val (.int n), .val (.int a), .val (.int b), .val (.int c), .val (.int k), .val (.int x), .val (.int y), .val (.int z), .val (.ref ns), .val (.int v0), .val (.int v1), .val (.int v2), .val (.int (0 : Int32)), .val (.int (1 : Int32)), .unset] [.int (1 : Int32)]
                refine OwnKit.iconst K at_168 ?_
                show OwnKit.Go κ h C T 169 #[.val (.int n), .val (.int a), .val (.int b), .val (.int c), .val (.int k), .val (.int x), .val (.int y), .val (.int z), .val (.ref ns), .val (.int v0), .val (.int v1), .val (.int v2), .val (.int (0 : Int32)), .val (.int (1 : Int32)), .unset] [.int (1 : Int32), .int (1 : Int32)]
                refine OwnKit.goto K at_169 (by decide) (pc' := 173) rfl ?_
                show OwnKit.Go κ h C T 173 #[.val (.int n), .val (.int a), .val (.int b), .val (.int c), .val (.int k), .val (.int x), .val (.int y), .val (.int z), .val (.ref ns), .val (.int v0), .val (.int v1), .val (.int v2), .val (.int (0 : Int32)), .val (.int (1 : Int32)), .unset] [.int (1 : Int32), .int (1 : Int32)]
                refine OwnKit.iadd K at_173 ?_
                show OwnKit.Go κ h C T 174 #[.val (.int n), .val (.int a), .val (.int b), .val (.int c), .val (.int k), .val (.int x), .val (.int y), .val (.int z), .val (.ref ns), .val (.int v0), .val (.int v1), .val (.int v2), .val (.int (0 : Int32)), .val (.int (1 : Int32)), .unset] [.int (2 : Int32)]
                show OwnKit.Go κ h C T 174 #[.val (.int n), .val (.int a), .val (.int b), .val (.int c), .val (.int k), .val (.int x), .val (.int y), .val (.int z), .val (.ref ns), .val (.int v0), .val (.int v1), .val (.int v2), .val (.int (0 : Int32)), .val (.int (1 : Int32)), .unset] [.int (2 : Int32)]
                refine OwnKit.istore K at_174 (l' := #[.val (.int n), .val (.int a), .val (.int b), .val (.int c), .val (.int k), .val (.int x), .val (.int y), .val (.int z), .val (.ref ns), .val (.int v0), .val (.int v1), .val (.int v2), .val (.int (0 : Int32)), .val (.int (1 : Int32)), .val (.int (2 : Int32))]) rfl ?_
                show OwnKit.Go κ h C T 176 #[.val (.int n), .val (.int a), .val (.int b), .val (.int c), .val (.int k), .val (.int x), .val (.int y), .val (.int z), .val (.ref ns), .val (.int v0), .val (.int v1), .val (.int v2), .val (.int (0 : Int32)), .val (.int (1 : Int32)), .val (.int (2 : Int32))] []
                refine OwnKit.iload K at_176 rfl ?_
                show OwnKit.Go κ h C T 178 #[.val (.int n), .val (.int a), .val (.int b), .val (.int c), .val (.int k), .val (.int x), .val (.int y), .val (.int z), .val (.ref ns), .val (.int v0), .val (.int v1), .val (.int v2), .val (.int (0 : Int32)), .val (.int (1 : Int32)), .val (.int (2 : Int32))] [.int v0]
                refine OwnKit.ifeq K at_178 (by decide) (pc' := 209) rfl  (fun b22 => ?_) (fun b22 => ?_)
                · exact absurd b22 (own_n0 hv0)
                · show OwnKit.Go κ h C T 181 #[.val (.int n), .val (.int a), .val (.int b), .val (.int c), .val (.int k), .val (.int x), .val (.int y), .val (.int z), .val (.ref ns), .val (.int v0), .val (.int v1), .val (.int v2), .val (.int (0 : Int32)), .val (.int (1 : Int32)), .val (.int (2 : Int32))] []
                  refine OwnKit.iload K at_181 rfl ?_
                  show OwnKit.Go κ h C T 183 #[.val (.int n), .val (.int a), .val (.int b), .val (.int c), .val (.int k), .val (.int x), .val (.int y), .val (.int z), .val (.ref ns), .val (.int v0), .val (.int v1), .val (.int v2), .val (.int (0 : Int32)), .val (.int (1 : Int32)), .val (.int (2 : Int32))] [.int v1]
                  refine OwnKit.iload K at_183 rfl ?_
                  show OwnKit.Go κ h C T 185 #[.val (.int n), .val (.int a), .val (.int b), .val (.int c), .val (.int k), .val (.int x), .val (.int y), .val (.int z), .val (.ref ns), .val (.int v0), .val (.int v1), .val (.int v2), .val (.int (0 : Int32)), .val (.int (1 : Int32)), .val (.int (2 : Int32))] [.int (0 : Int32), .int v1]
                  refine OwnKit.icmpne K at_185 (by decide) (pc' := 209) rfl  (fun b23 => ?_) (fun b23 => ?_)
                  · exact absurd (own_v1t hv1 b1) b23
                  · show OwnKit.Go κ h C T 188 #[.val (.int n), .val (.int a), .val (.int b), .val (.int c), .val (.int k), .val (.int x), .val (.int y), .val (.int z), .val (.ref ns), .val (.int v0), .val (.int v1), .val (.int v2), .val (.int (0 : Int32)), .val (.int (1 : Int32)), .val (.int (2 : Int32))] []
                    refine OwnKit.iload K at_188 rfl ?_
                    show OwnKit.Go κ h C T 190 #[.val (.int n), .val (.int a), .val (.int b), .val (.int c), .val (.int k), .val (.int x), .val (.int y), .val (.int z), .val (.ref ns), .val (.int v0), .val (.int v1), .val (.int v2), .val (.int (0 : Int32)), .val (.int (1 : Int32)), .val (.int (2 : Int32))] [.int v2]
                    refine OwnKit.iload K at_190 rfl ?_
                    show OwnKit.Go κ h C T 192 #[.val (.int n), .val (.int a), .val (.int b), .val (.int c), .val (.int k), .val (.int x), .val (.int y), .val (.int z), .val (.ref ns), .val (.int v0), .val (.int v1), .val (.int v2), .val (.int (0 : Int32)), .val (.int (1 : Int32)), .val (.int (2 : Int32))] [.int (1 : Int32), .int v2]
                    refine OwnKit.icmpne K at_192 (by decide) (pc' := 209) rfl  (fun b24 => ?_) (fun b24 => ?_)
                    · exact absurd (own_v2c hv2 b2 b11) b24
                    · show OwnKit.Go κ h C T 195 #[.val (.int n), .val (.int a), .val (.int b), .val (.int c), .val (.int k), .val (.int x), .val (.int y), .val (.int z), .val (.ref ns), .val (.int v0), .val (.int v1), .val (.int v2), .val (.int (0 : Int32)), .val (.int (1 : Int32)), .val (.int (2 : Int32))] []
                      refine OwnKit.aload K at_195 rfl rfl ?_
                      show OwnKit.Go κ h C T 197 #[.val (.int n), .val (.int a), .val (.int b), .val (.int c), .val (.int k), .val (.int x), .val (.int y), .val (.int z), .val (.ref ns), .val (.int v0), .val (.int v1), .val (.int v2), .val (.int (0 : Int32)), .val (.int (1 : Int32)), .val (.int (2 : Int32))] [.ref ns]
                      refine OwnKit.invV (y := (⟨"com/example/greasan/greasan/reasoner/NodeSet", "size", "()I"⟩ : MethodName)) (z := (⟨"com/example/greasan/greasan/reasoner/NodeSet", "size", "()I"⟩ : MethodName)) (argsL := []) (rest := []) K (c_size l Z a0 hw n0 h ns (own_add (own_add [x] y) z) L N) at_197 E_ns (hw _ (List.mem_of_getElem? (i := 44) rfl)) (hw _ (List.mem_of_getElem? (i := 45) rfl)) (OwnKit.nfS (hw _ (List.mem_of_getElem? (i := 47) rfl))) (hw _ (List.mem_of_getElem? (i := 47) rfl)) (hw _ (List.mem_of_getElem? (i := 46) rfl)) (hw _ (List.mem_of_getElem? (i := 48) rfl)) (hw _ (List.mem_of_getElem? (i := 3) rfl)) (by decide) (lenOf (by decide +kernel : parseMethodDescriptor "()I" = some ⟨[], some .int⟩) rfl) rfl rfl (W := 0) (Nat.le_of_ble_eq_true rfl) (Nat.le_of_ble_eq_true rfl) (Nat.le_of_ble_eq_true rfl) hC hT ?_
                      rintro _ h25 ⟨rfl, rfl⟩ g26
                      show OwnKit.Go κ h C T 200 #[.val (.int n), .val (.int a), .val (.int b), .val (.int c), .val (.int k), .val (.int x), .val (.int y), .val (.int z), .val (.ref ns), .val (.int v0), .val (.int v1), .val (.int v2), .val (.int (0 : Int32)), .val (.int (1 : Int32)), .val (.int (2 : Int32))] [.int (Int32.ofNat (own_add (own_add [x] y) z).length)]
                      refine OwnKit.iload K at_200 rfl ?_
                      show OwnKit.Go κ h C T 202 #[.val (.int n), .val (.int a), .val (.int b), .val (.int c), .val (.int k), .val (.int x), .val (.int y), .val (.int z), .val (.ref ns), .val (.int v0), .val (.int v1), .val (.int v2), .val (.int (0 : Int32)), .val (.int (1 : Int32)), .val (.int (2 : Int32))] [.int (2 : Int32), .int (Int32.ofNat (own_add (own_add [x] y) z).length)]
                      refine OwnKit.icmpne K at_202 (by decide) (pc' := 209) rfl  (fun b27 => ?_) (fun b27 => ?_)
                      · exact absurd (own_s2 b1 b2) b27
                      · show OwnKit.Go κ h C T 205 #[.val (.int n), .val (.int a), .val (.int b), .val (.int c), .val (.int k), .val (.int x), .val (.int y), .val (.int z), .val (.ref ns), .val (.int v0), .val (.int v1), .val (.int v2), .val (.int (0 : Int32)), .val (.int (1 : Int32)), .val (.int (2 : Int32))] []
                        refine OwnKit.iconst K at_205 ?_
                        show OwnKit.Go κ h C T 206 #[.val (.int n), .val (.int a), .val (.int b), .val (.int c), .val (.int k), .val (.int x), .val (.int y), .val (.int z), .val (.ref ns), .val (.int v0), .val (.int v1), .val (.int v2), .val (.int (0 : Int32)), .val (.int (1 : Int32)), .val (.int (2 : Int32))] [.int (1 : Int32)]
                        refine OwnKit.goto K at_206 (by decide) (pc' := 210) rfl ?_
                        show OwnKit.Go κ h C T 210 #[.val (.int n), .val (.int a), .val (.int b), .val (.int c), .val (.int k), .val (.int x), .val (.int y), .val (.int z), .val (.ref ns), .val (.int v0), .val (.int v1), .val (.int v2), .val (.int (0 : Int32)), .val (.int (1 : Int32)), .val (.int (2 : Int32))] [.int (1 : Int32)]
                        refine OwnKit.ireturn K at_210 (Or.inr (Or.inl rfl)) rfl ?_ hC hT
                        exact rfl
            · exact absurd b20 (by decide)
      · show OwnKit.Go κ h C T 123 #[.val (.int n), .val (.int a), .val (.int b), .val (.int c), .val (.int k), .val (.int x), .val (.int y), .val (.int z), .val (.ref ns), .val (.int v0), .val (.int v1), .val (.int v2), .unset, .unset, .unset] []
        refine OwnKit.iconst K at_123 ?_
        show OwnKit.Go κ h C T 124 #[.val (.int n), .val (.int a), .val (.int b), .val (.int c), .val (.int k), .val (.int x), .val (.int y), .val (.int z), .val (.ref ns), .val (.int v0), .val (.int v1), .val (.int v2), .unset, .unset, .unset] [.int (1 : Int32)]
        refine OwnKit.goto K at_124 (by decide) (pc' := 128) rfl ?_
        show OwnKit.Go κ h C T 128 #[.val (.int n), .val (.int a), .val (.int b), .val (.int c), .val (.int k), .val (.int x), .val (.int y), .val (.int z), .val (.ref ns), .val (.int v0), .val (.int v1), .val (.int v2), .unset, .unset, .unset] [.int (1 : Int32)]
        refine OwnKit.istore K at_128 (l' := #[.val (.int n), .val (.int a), .val (.int b), .val (.int c), .val (.int k), .val (.int x), .val (.int y), .val (.int z), .val (.ref ns), .val (.int v0), .val (.int v1), .val (.int v2), .val (.int (1 : Int32)), .unset, .unset]) rfl ?_
        show OwnKit.Go κ h C T 130 #[.val (.int n), .val (.int a), .val (.int b), .val (.int c), .val (.int k), .val (.int x), .val (.int y), .val (.int z), .val (.ref ns), .val (.int v0), .val (.int v1), .val (.int v2), .val (.int (1 : Int32)), .unset, .unset] []
        refine OwnKit.iload K at_130 rfl ?_
        show OwnKit.Go κ h C T 132 #[.val (.int n), .val (.int a), .val (.int b), .val (.int c), .val (.int k), .val (.int x), .val (.int y), .val (.int z), .val (.ref ns), .val (.int v0), .val (.int v1), .val (.int v2), .val (.int (1 : Int32)), .unset, .unset] [.int z]
        refine OwnKit.iload K at_132 rfl ?_
        show OwnKit.Go κ h C T 134 #[.val (.int n), .val (.int a), .val (.int b), .val (.int c), .val (.int k), .val (.int x), .val (.int y), .val (.int z), .val (.ref ns), .val (.int v0), .val (.int v1), .val (.int v2), .val (.int (1 : Int32)), .unset, .unset] [.int x, .int z]
        refine OwnKit.icmpeq K at_134 (by decide) (pc' := 148) rfl  (fun b28 => ?_) (fun b28 => ?_)
        · show OwnKit.Go κ h C T 148 #[.val (.int n), .val (.int a), .val (.int b), .val (.int c), .val (.int k), .val (.int x), .val (.int y), .val (.int z), .val (.ref ns), .val (.int v0), .val (.int v1), .val (.int v2), .val (.int (1 : Int32)), .unset, .unset] []
          refine OwnKit.iconst K at_148 ?_
          show OwnKit.Go κ h C T 149 #[.val (.int n), .val (.int a), .val (.int b), .val (.int c), .val (.int k), .val (.int x), .val (.int y), .val (.int z), .val (.ref ns), .val (.int v0), .val (.int v1), .val (.int v2), .val (.int (1 : Int32)), .unset, .unset] [.int (0 : Int32)]
          refine OwnKit.istore K at_149 (l' := #[.val (.int n), .val (.int a), .val (.int b), .val (.int c), .val (.int k), .val (.int x), .val (.int y), .val (.int z), .val (.ref ns), .val (.int v0), .val (.int v1), .val (.int v2), .val (.int (1 : Int32)), .val (.int (0 : Int32)), .unset]) rfl ?_
          show OwnKit.Go κ h C T 151 #[.val (.int n), .val (.int a), .val (.int b), .val (.int c), .val (.int k), .val (.int x), .val (.int y), .val (.int z), .val (.ref ns), .val (.int v0), .val (.int v1), .val (.int v2), .val (.int (1 : Int32)), .val (.int (0 : Int32)), .unset] []
          refine OwnKit.iconst K at_151 ?_
          show OwnKit.Go κ h C T 152 #[.val (.int n), .val (.int a), .val (.int b), .val (.int c), .val (.int k), .val (.int x), .val (.int y), .val (.int z), .val (.ref ns), .val (.int v0), .val (.int v1), .val (.int v2), .val (.int (1 : Int32)), .val (.int (0 : Int32)), .unset] [.int (1 : Int32)]
          refine OwnKit.iload K at_152 rfl ?_
          show OwnKit.Go κ h C T 154 #[.val (.int n), .val (.int a), .val (.int b), .val (.int c), .val (.int k), .val (.int x), .val (.int y), .val (.int z), .val (.ref ns), .val (.int v0), .val (.int v1), .val (.int v2), .val (.int (1 : Int32)), .val (.int (0 : Int32)), .unset] [.int (1 : Int32), .int (1 : Int32)]
          refine OwnKit.ifeq K at_154 (by decide) (pc' := 161) rfl  (fun b29 => ?_) (fun b29 => ?_)
          · exact absurd b29 (by decide)
          · show OwnKit.Go κ h C T 157 #[.val (.int n), .val (.int a), .val (.int b), .val (.int c), .val (.int k), .val (.int x), .val (.int y), .val (.int z), .val (.ref ns), .val (.int v0), .val (.int v1), .val (.int v2), .val (.int (1 : Int32)), .val (.int (0 : Int32)), .unset] [.int (1 : Int32)]
            refine OwnKit.iconst K at_157 ?_
            show OwnKit.Go κ h C T 158 #[.val (.int n), .val (.int a), .val (.int b), .val (.int c), .val (.int k), .val (.int x), .val (.int y), .val (.int z), .val (.ref ns), .val (.int v0), .val (.int v1), .val (.int v2), .val (.int (1 : Int32)), .val (.int (0 : Int32)), .unset] [.int (1 : Int32), .int (1 : Int32)]
            refine OwnKit.goto K at_158 (by decide) (pc' := 162) rfl ?_
            show OwnKit.Go κ h C T 162 #[.val (.int n), .val (.int a), .val (.int b), .val (.int c), .val (.int k), .val (.int x), .val (.int y), .val (.int z), .val (.ref ns), .val (.int v0), .val (.int v1), .val (.int v2), .val (.int (1 : Int32)), .val (.int (0 : Int32)), .unset] [.int (1 : Int32), .int (1 : Int32)]
            refine OwnKit.iadd K at_162 ?_
            show OwnKit.Go κ h C T 163 #[.val (.int n), .val (.int a), .val (.int b), .val (.int c), .val (.int k), .val (.int x), .val (.int y), .val (.int z), .val (.ref ns), .val (.int v0), .val (.int v1), .val (.int v2), .val (.int (1 : Int32)), .val (.int (0 : Int32)), .unset] [.int (2 : Int32)]
            show OwnKit.Go κ h C T 163 #[.val (.int n), .val (.int a), .val (.int b), .val (.int c), .val (.int k), .val (.int x), .val (.int y), .val (.int z), .val (.ref ns), .val (.int v0), .val (.int v1), .val (.int v2), .val (.int (1 : Int32)), .val (.int (0 : Int32)), .unset] [.int (2 : Int32)]
            refine OwnKit.iload K at_163 rfl ?_
            show OwnKit.Go κ h C T 165 #[.val (.int n), .val (.int a), .val (.int b), .val (.int c), .val (.int k), .val (.int x), .val (.int y), .val (.int z), .val (.ref ns), .val (.int v0), .val (.int v1), .val (.int v2), .val (.int (1 : Int32)), .val (.int (0 : Int32)), .unset] [.int (0 : Int32), .int (2 : Int32)]
            refine OwnKit.ifeq K at_165 (by decide) (pc' := 172) rfl  (fun b30 => ?_) (fun b30 => ?_)
            · show OwnKit.Go κ h C T 172 #[.val (.int n), .val (.int a), .val (.int b), .val (.int c), .val (.int k), .val (.int x), .val (.int y), .val (.int z), .val (.ref ns), .val (.int v0), .val (.int v1), .val (.int v2), .val (.int (1 : Int32)), .val (.int (0 : Int32)), .unset] [.int (2 : Int32)]
              refine OwnKit.iconst K at_172 ?_
              show OwnKit.Go κ h C T 173 #[.val (.int n), .val (.int a), .val (.int b), .val (.int c), .val (.int k), .val (.int x), .val (.int y), .val (.int z), .val (.ref ns), .val (.int v0), .val (.int v1), .val (.int v2), .val (.int (1 : Int32)), .val (.int (0 : Int32)), .unset] [.int (0 : Int32), .int (2 : Int32)]
              refine OwnKit.iadd K at_173 ?_
              show OwnKit.Go κ h C T 174 #[.val (.int n), .val (.int a), .val (.int b), .val (.int c), .val (.int k), .val (.int x), .val (.int y), .val (.int z), .val (.ref ns), .val (.int v0), .val (.int v1), .val (.int v2), .val (.int (1 : Int32)), .val (.int (0 : Int32)), .unset] [.int (2 : Int32)]
              show OwnKit.Go κ h C T 174 #[.val (.int n), .val (.int a), .val (.int b), .val (.int c), .val (.int k), .val (.int x), .val (.int y), .val (.int z), .val (.ref ns), .val (.int v0), .val (.int v1), .val (.int v2), .val (.int (1 : Int32)), .val (.int (0 : Int32)), .unset] [.int (2 : Int32)]
              refine OwnKit.istore K at_174 (l' := #[.val (.int n), .val (.int a), .val (.int b), .val (.int c), .val (.int k), .val (.int x), .val (.int y), .val (.int z), .val (.ref ns), .val (.int v0), .val (.int v1), .val (.int v2), .val (.int (1 : Int32)), .val (.int (0 : Int32)), .val (.int (2 : Int32))]) rfl ?_
              show OwnKit.Go κ h C T 176 #[.val (.int n), .val (.int a), .val (.int b), .val (.int c), .val (.int k), .val (.int x), .val (.int y), .val (.int z), .val (.ref ns), .val (.int v0), .val (.int v1), .val (.int v2), .val (.int (1 : Int32)), .val (.int (0 : Int32)), .val (.int (2 : Int32))] []
              refine OwnKit.iload K at_176 rfl ?_
              show OwnKit.Go κ h C T 178 #[.val (.int n), .val (.int a), .val (.int b), .val (.int c), .val (.int k), .val (.int x), .val (.int y), .val (.int z), .val (.ref ns), .val (.int v0), .val (.int v1), .val (.int v2), .val (.int (1 : Int32)), .val (.int (0 : Int32)), .val (.int (2 : Int32))] [.int v0]
              refine OwnKit.ifeq K at_178 (by decide) (pc' := 209) rfl  (fun b31 => ?_) (fun b31 => ?_)
              · exact absurd b31 (own_n0 hv0)
              · show OwnKit.Go κ h C T 181 #[.val (.int n), .val (.int a), .val (.int b), .val (.int c), .val (.int k), .val (.int x), .val (.int y), .val (.int z), .val (.ref ns), .val (.int v0), .val (.int v1), .val (.int v2), .val (.int (1 : Int32)), .val (.int (0 : Int32)), .val (.int (2 : Int32))] []
                refine OwnKit.iload K at_181 rfl ?_
                show OwnKit.Go κ h C T 183 #[.val (.int n), .val (.int a), .val (.int b), .val (.int c), .val (.int k), .val (.int x), .val (.int y), .val (.int z), .val (.ref ns), .val (.int v0), .val (.int v1), .val (.int v2), .val (.int (1 : Int32)), .val (.int (0 : Int32)), .val (.int (2 : Int32))] [.int v1]
                refine OwnKit.iload K at_183 rfl ?_
                show OwnKit.Go κ h C T 185 #[.val (.int n), .val (.int a), .val (.int b), .val (.int c), .val (.int k), .val (.int x), .val (.int y), .val (.int z), .val (.ref ns), .val (.int v0), .val (.int v1), .val (.int v2), .val (.int (1 : Int32)), .val (.int (0 : Int32)), .val (.int (2 : Int32))] [.int (1 : Int32), .int v1]
                refine OwnKit.icmpne K at_185 (by decide) (pc' := 209) rfl  (fun b32 => ?_) (fun b32 => ?_)
                · exact absurd (own_v1f hv1 b1) b32
                · show OwnKit.Go κ h C T 188 #[.val (.int n), .val (.int a), .val (.int b), .val (.int c), .val (.int k), .val (.int x), .val (.int y), .val (.int z), .val (.ref ns), .val (.int v0), .val (.int v1), .val (.int v2), .val (.int (1 : Int32)), .val (.int (0 : Int32)), .val (.int (2 : Int32))] []
                  refine OwnKit.iload K at_188 rfl ?_
                  show OwnKit.Go κ h C T 190 #[.val (.int n), .val (.int a), .val (.int b), .val (.int c), .val (.int k), .val (.int x), .val (.int y), .val (.int z), .val (.ref ns), .val (.int v0), .val (.int v1), .val (.int v2), .val (.int (1 : Int32)), .val (.int (0 : Int32)), .val (.int (2 : Int32))] [.int v2]
                  refine OwnKit.iload K at_190 rfl ?_
                  show OwnKit.Go κ h C T 192 #[.val (.int n), .val (.int a), .val (.int b), .val (.int c), .val (.int k), .val (.int x), .val (.int y), .val (.int z), .val (.ref ns), .val (.int v0), .val (.int v1), .val (.int v2), .val (.int (1 : Int32)), .val (.int (0 : Int32)), .val (.int (2 : Int32))] [.int (0 : Int32), .int v2]
                  refine OwnKit.icmpne K at_192 (by decide) (pc' := 209) rfl  (fun b33 => ?_) (fun b33 => ?_)
                  · exact absurd (own_v2a hv2 b28) b33
                  · show OwnKit.Go κ h C T 195 #[.val (.int n), .val (.int a), .val (.int b), .val (.int c), .val (.int k), .val (.int x), .val (.int y), .val (.int z), .val (.ref ns), .val (.int v0), .val (.int v1), .val (.int v2), .val (.int (1 : Int32)), .val (.int (0 : Int32)), .val (.int (2 : Int32))] []
                    refine OwnKit.aload K at_195 rfl rfl ?_
                    show OwnKit.Go κ h C T 197 #[.val (.int n), .val (.int a), .val (.int b), .val (.int c), .val (.int k), .val (.int x), .val (.int y), .val (.int z), .val (.ref ns), .val (.int v0), .val (.int v1), .val (.int v2), .val (.int (1 : Int32)), .val (.int (0 : Int32)), .val (.int (2 : Int32))] [.ref ns]
                    refine OwnKit.invV (y := (⟨"com/example/greasan/greasan/reasoner/NodeSet", "size", "()I"⟩ : MethodName)) (z := (⟨"com/example/greasan/greasan/reasoner/NodeSet", "size", "()I"⟩ : MethodName)) (argsL := []) (rest := []) K (c_size l Z a0 hw n0 h ns (own_add (own_add [x] y) z) L N) at_197 E_ns (hw _ (List.mem_of_getElem? (i := 44) rfl)) (hw _ (List.mem_of_getElem? (i := 45) rfl)) (OwnKit.nfS (hw _ (List.mem_of_getElem? (i := 47) rfl))) (hw _ (List.mem_of_getElem? (i := 47) rfl)) (hw _ (List.mem_of_getElem? (i := 46) rfl)) (hw _ (List.mem_of_getElem? (i := 48) rfl)) (hw _ (List.mem_of_getElem? (i := 3) rfl)) (by decide) (lenOf (by decide +kernel : parseMethodDescriptor "()I" = some ⟨[], some .int⟩) rfl) rfl rfl (W := 0) (Nat.le_of_ble_eq_true rfl) (Nat.le_of_ble_eq_true rfl) (Nat.le_of_ble_eq_true rfl) hC hT ?_
                    rintro _ h34 ⟨rfl, rfl⟩ g35
                    show OwnKit.Go κ h C T 200 #[.val (.int n), .val (.int a), .val (.int b), .val (.int c), .val (.int k), .val (.int x), .val (.int y), .val (.int z), .val (.ref ns), .val (.int v0), .val (.int v1), .val (.int v2), .val (.int (1 : Int32)), .val (.int (0 : Int32)), .val (.int (2 : Int32))] [.int (Int32.ofNat (own_add (own_add [x] y) z).length)]
                    refine OwnKit.iload K at_200 rfl ?_
                    show OwnKit.Go κ h C T 202 #[.val (.int n), .val (.int a), .val (.int b), .val (.int c), .val (.int k), .val (.int x), .val (.int y), .val (.int z), .val (.ref ns), .val (.int v0), .val (.int v1), .val (.int v2), .val (.int (1 : Int32)), .val (.int (0 : Int32)), .val (.int (2 : Int32))] [.int (2 : Int32), .int (Int32.ofNat (own_add (own_add [x] y) z).length)]
                    refine OwnKit.icmpne K at_202 (by decide) (pc' := 209) rfl  (fun b36 => ?_) (fun b36 => ?_)
                    · exact absurd (own_s3 b1 (Or.inl b28)) b36
                    · show OwnKit.Go κ h C T 205 #[.val (.int n), .val (.int a), .val (.int b), .val (.int c), .val (.int k), .val (.int x), .val (.int y), .val (.int z), .val (.ref ns), .val (.int v0), .val (.int v1), .val (.int v2), .val (.int (1 : Int32)), .val (.int (0 : Int32)), .val (.int (2 : Int32))] []
                      refine OwnKit.iconst K at_205 ?_
                      show OwnKit.Go κ h C T 206 #[.val (.int n), .val (.int a), .val (.int b), .val (.int c), .val (.int k), .val (.int x), .val (.int y), .val (.int z), .val (.ref ns), .val (.int v0), .val (.int v1), .val (.int v2), .val (.int (1 : Int32)), .val (.int (0 : Int32)), .val (.int (2 : Int32))] [.int (1 : Int32)]
                      refine OwnKit.goto K at_206 (by decide) (pc' := 210) rfl ?_
                      show OwnKit.Go κ h C T 210 #[.val (.int n), .val (.int a), .val (.int b), .val (.int c), .val (.int k), .val (.int x), .val (.int y), .val (.int z), .val (.ref ns), .val (.int v0), .val (.int v1), .val (.int v2), .val (.int (1 : Int32)), .val (.int (0 : Int32)), .val (.int (2 : Int32))] [.int (1 : Int32)]
                      refine OwnKit.ireturn K at_210 (Or.inr (Or.inl rfl)) rfl ?_ hC hT
                      exact rfl
            · exact absurd b30 (by decide)
        · show OwnKit.Go κ h C T 137 #[.val (.int n), .val (.int a), .val (.int b), .val (.int c), .val (.int k), .val (.int x), .val (.int y), .val (.int z), .val (.ref ns), .val (.int v0), .val (.int v1), .val (.int v2), .val (.int (1 : Int32)), .unset, .unset] []
          refine OwnKit.iload K at_137 rfl ?_
          show OwnKit.Go κ h C T 139 #[.val (.int n), .val (.int a), .val (.int b), .val (.int c), .val (.int k), .val (.int x), .val (.int y), .val (.int z), .val (.ref ns), .val (.int v0), .val (.int v1), .val (.int v2), .val (.int (1 : Int32)), .unset, .unset] [.int z]
          refine OwnKit.iload K at_139 rfl ?_
          show OwnKit.Go κ h C T 141 #[.val (.int n), .val (.int a), .val (.int b), .val (.int c), .val (.int k), .val (.int x), .val (.int y), .val (.int z), .val (.ref ns), .val (.int v0), .val (.int v1), .val (.int v2), .val (.int (1 : Int32)), .unset, .unset] [.int y, .int z]
          refine OwnKit.icmpeq K at_141 (by decide) (pc' := 148) rfl  (fun b37 => ?_) (fun b37 => ?_)
          · show OwnKit.Go κ h C T 148 #[.val (.int n), .val (.int a), .val (.int b), .val (.int c), .val (.int k), .val (.int x), .val (.int y), .val (.int z), .val (.ref ns), .val (.int v0), .val (.int v1), .val (.int v2), .val (.int (1 : Int32)), .unset, .unset] []
            refine OwnKit.iconst K at_148 ?_
            show OwnKit.Go κ h C T 149 #[.val (.int n), .val (.int a), .val (.int b), .val (.int c), .val (.int k), .val (.int x), .val (.int y), .val (.int z), .val (.ref ns), .val (.int v0), .val (.int v1), .val (.int v2), .val (.int (1 : Int32)), .unset, .unset] [.int (0 : Int32)]
            refine OwnKit.istore K at_149 (l' := #[.val (.int n), .val (.int a), .val (.int b), .val (.int c), .val (.int k), .val (.int x), .val (.int y), .val (.int z), .val (.ref ns), .val (.int v0), .val (.int v1), .val (.int v2), .val (.int (1 : Int32)), .val (.int (0 : Int32)), .unset]) rfl ?_
            show OwnKit.Go κ h C T 151 #[.val (.int n), .val (.int a), .val (.int b), .val (.int c), .val (.int k), .val (.int x), .val (.int y), .val (.int z), .val (.ref ns), .val (.int v0), .val (.int v1), .val (.int v2), .val (.int (1 : Int32)), .val (.int (0 : Int32)), .unset] []
            refine OwnKit.iconst K at_151 ?_
            show OwnKit.Go κ h C T 152 #[.val (.int n), .val (.int a), .val (.int b), .val (.int c), .val (.int k), .val (.int x), .val (.int y), .val (.int z), .val (.ref ns), .val (.int v0), .val (.int v1), .val (.int v2), .val (.int (1 : Int32)), .val (.int (0 : Int32)), .unset] [.int (1 : Int32)]
            refine OwnKit.iload K at_152 rfl ?_
            show OwnKit.Go κ h C T 154 #[.val (.int n), .val (.int a), .val (.int b), .val (.int c), .val (.int k), .val (.int x), .val (.int y), .val (.int z), .val (.ref ns), .val (.int v0), .val (.int v1), .val (.int v2), .val (.int (1 : Int32)), .val (.int (0 : Int32)), .unset] [.int (1 : Int32), .int (1 : Int32)]
            refine OwnKit.ifeq K at_154 (by decide) (pc' := 161) rfl  (fun b38 => ?_) (fun b38 => ?_)
            · exact absurd b38 (by decide)
            · show OwnKit.Go κ h C T 157 #[.val (.int n), .val (.int a), .val (.int b), .val (.int c), .val (.int k), .val (.int x), .val (.int y), .val (.int z), .val (.ref ns), .val (.int v0), .val (.int v1), .val (.int v2), .val (.int (1 : Int32)), .val (.int (0 : Int32)), .unset] [.int (1 : Int32)]
              refine OwnKit.iconst K at_157 ?_
              show OwnKit.Go κ h C T 158 #[.val (.int n), .val (.int a), .val (.int b), .val (.int c), .val (.int k), .val (.int x), .val (.int y), .val (.int z), .val (.ref ns), .val (.int v0), .val (.int v1), .val (.int v2), .val (.int (1 : Int32)), .val (.int (0 : Int32)), .unset] [.int (1 : Int32), .int (1 : Int32)]
              refine OwnKit.goto K at_158 (by decide) (pc' := 162) rfl ?_
              show OwnKit.Go κ h C T 162 #[.val (.int n), .val (.int a), .val (.int b), .val (.int c), .val (.int k), .val (.int x), .val (.int y), .val (.int z), .val (.ref ns), .val (.int v0), .val (.int v1), .val (.int v2), .val (.int (1 : Int32)), .val (.int (0 : Int32)), .unset] [.int (1 : Int32), .int (1 : Int32)]
              refine OwnKit.iadd K at_162 ?_
              show OwnKit.Go κ h C T 163 #[.val (.int n), .val (.int a), .val (.int b), .val (.int c), .val (.int k), .val (.int x), .val (.int y), .val (.int z), .val (.ref ns), .val (.int v0), .val (.int v1), .val (.int v2), .val (.int (1 : Int32)), .val (.int (0 : Int32)), .unset] [.int (2 : Int32)]
              show OwnKit.Go κ h C T 163 #[.val (.int n), .val (.int a), .val (.int b), .val (.int c), .val (.int k), .val (.int x), .val (.int y), .val (.int z), .val (.ref ns), .val (.int v0), .val (.int v1), .val (.int v2), .val (.int (1 : Int32)), .val (.int (0 : Int32)), .unset] [.int (2 : Int32)]
              refine OwnKit.iload K at_163 rfl ?_
              show OwnKit.Go κ h C T 165 #[.val (.int n), .val (.int a), .val (.int b), .val (.int c), .val (.int k), .val (.int x), .val (.int y), .val (.int z), .val (.ref ns), .val (.int v0), .val (.int v1), .val (.int v2), .val (.int (1 : Int32)), .val (.int (0 : Int32)), .unset] [.int (0 : Int32), .int (2 : Int32)]
              refine OwnKit.ifeq K at_165 (by decide) (pc' := 172) rfl  (fun b39 => ?_) (fun b39 => ?_)
              · show OwnKit.Go κ h C T 172 #[.val (.int n), .val (.int a), .val (.int b), .val (.int c), .val (.int k), .val (.int x), .val (.int y), .val (.int z), .val (.ref ns), .val (.int v0), .val (.int v1), .val (.int v2), .val (.int (1 : Int32)), .val (.int (0 : Int32)), .unset] [.int (2 : Int32)]
                refine OwnKit.iconst K at_172 ?_
                show OwnKit.Go κ h C T 173 #[.val (.int n), .val (.int a), .val (.int b), .val (.int c), .val (.int k), .val (.int x), .val (.int y), .val (.int z), .val (.ref ns), .val (.int v0), .val (.int v1), .val (.int v2), .val (.int (1 : Int32)), .val (.int (0 : Int32)), .unset] [.int (0 : Int32), .int (2 : Int32)]
                refine OwnKit.iadd K at_173 ?_
                show OwnKit.Go κ h C T 174 #[.val (.int n), .val (.int a), .val (.int b), .val (.int c), .val (.int k), .val (.int x), .val (.int y), .val (.int z), .val (.ref ns), .val (.int v0), .val (.int v1), .val (.int v2), .val (.int (1 : Int32)), .val (.int (0 : Int32)), .unset] [.int (2 : Int32)]
                show OwnKit.Go κ h C T 174 #[.val (.int n), .val (.int a), .val (.int b), .val (.int c), .val (.int k), .val (.int x), .val (.int y), .val (.int z), .val (.ref ns), .val (.int v0), .val (.int v1), .val (.int v2), .val (.int (1 : Int32)), .val (.int (0 : Int32)), .unset] [.int (2 : Int32)]
                refine OwnKit.istore K at_174 (l' := #[.val (.int n), .val (.int a), .val (.int b), .val (.int c), .val (.int k), .val (.int x), .val (.int y), .val (.int z), .val (.ref ns), .val (.int v0), .val (.int v1), .val (.int v2), .val (.int (1 : Int32)), .val (.int (0 : Int32)), .val (.int (2 : Int32))]) rfl ?_
                show OwnKit.Go κ h C T 176 #[.val (.int n), .val (.int a), .val (.int b), .val (.int c), .val (.int k), .val (.int x), .val (.int y), .val (.int z), .val (.ref ns), .val (.int v0), .val (.int v1), .val (.int v2), .val (.int (1 : Int32)), .val (.int (0 : Int32)), .val (.int (2 : Int32))] []
                refine OwnKit.iload K at_176 rfl ?_
                show OwnKit.Go κ h C T 178 #[.val (.int n), .val (.int a), .val (.int b), .val (.int c), .val (.int k), .val (.int x), .val (.int y), .val (.int z), .val (.ref ns), .val (.int v0), .val (.int v1), .val (.int v2), .val (.int (1 : Int32)), .val (.int (0 : Int32)), .val (.int (2 : Int32))] [.int v0]
                refine OwnKit.ifeq K at_178 (by decide) (pc' := 209) rfl  (fun b40 => ?_) (fun b40 => ?_)
                · exact absurd b40 (own_n0 hv0)
                · show OwnKit.Go κ h C T 181 #[.val (.int n), .val (.int a), .val (.int b), .val (.int c), .val (.int k), .val (.int x), .val (.int y), .val (.int z), .val (.ref ns), .val (.int v0), .val (.int v1), .val (.int v2), .val (.int (1 : Int32)), .val (.int (0 : Int32)), .val (.int (2 : Int32))] []
                  refine OwnKit.iload K at_181 rfl ?_
                  show OwnKit.Go κ h C T 183 #[.val (.int n), .val (.int a), .val (.int b), .val (.int c), .val (.int k), .val (.int x), .val (.int y), .val (.int z), .val (.ref ns), .val (.int v0), .val (.int v1), .val (.int v2), .val (.int (1 : Int32)), .val (.int (0 : Int32)), .val (.int (2 : Int32))] [.int v1]
                  refine OwnKit.iload K at_183 rfl ?_
                  show OwnKit.Go κ h C T 185 #[.val (.int n), .val (.int a), .val (.int b), .val (.int c), .val (.int k), .val (.int x), .val (.int y), .val (.int z), .val (.ref ns), .val (.int v0), .val (.int v1), .val (.int v2), .val (.int (1 : Int32)), .val (.int (0 : Int32)), .val (.int (2 : Int32))] [.int (1 : Int32), .int v1]
                  refine OwnKit.icmpne K at_185 (by decide) (pc' := 209) rfl  (fun b41 => ?_) (fun b41 => ?_)
                  · exact absurd (own_v1f hv1 b1) b41
                  · show OwnKit.Go κ h C T 188 #[.val (.int n), .val (.int a), .val (.int b), .val (.int c), .val (.int k), .val (.int x), .val (.int y), .val (.int z), .val (.ref ns), .val (.int v0), .val (.int v1), .val (.int v2), .val (.int (1 : Int32)), .val (.int (0 : Int32)), .val (.int (2 : Int32))] []
                    refine OwnKit.iload K at_188 rfl ?_
                    show OwnKit.Go κ h C T 190 #[.val (.int n), .val (.int a), .val (.int b), .val (.int c), .val (.int k), .val (.int x), .val (.int y), .val (.int z), .val (.ref ns), .val (.int v0), .val (.int v1), .val (.int v2), .val (.int (1 : Int32)), .val (.int (0 : Int32)), .val (.int (2 : Int32))] [.int v2]
                    refine OwnKit.iload K at_190 rfl ?_
                    show OwnKit.Go κ h C T 192 #[.val (.int n), .val (.int a), .val (.int b), .val (.int c), .val (.int k), .val (.int x), .val (.int y), .val (.int z), .val (.ref ns), .val (.int v0), .val (.int v1), .val (.int v2), .val (.int (1 : Int32)), .val (.int (0 : Int32)), .val (.int (2 : Int32))] [.int (0 : Int32), .int v2]
                    refine OwnKit.icmpne K at_192 (by decide) (pc' := 209) rfl  (fun b42 => ?_) (fun b42 => ?_)
                    · exact absurd (own_v2b hv2 b37) b42
                    · show OwnKit.Go κ h C T 195 #[.val (.int n), .val (.int a), .val (.int b), .val (.int c), .val (.int k), .val (.int x), .val (.int y), .val (.int z), .val (.ref ns), .val (.int v0), .val (.int v1), .val (.int v2), .val (.int (1 : Int32)), .val (.int (0 : Int32)), .val (.int (2 : Int32))] []
                      refine OwnKit.aload K at_195 rfl rfl ?_
                      show OwnKit.Go κ h C T 197 #[.val (.int n), .val (.int a), .val (.int b), .val (.int c), .val (.int k), .val (.int x), .val (.int y), .val (.int z), .val (.ref ns), .val (.int v0), .val (.int v1), .val (.int v2), .val (.int (1 : Int32)), .val (.int (0 : Int32)), .val (.int (2 : Int32))] [.ref ns]
                      refine OwnKit.invV (y := (⟨"com/example/greasan/greasan/reasoner/NodeSet", "size", "()I"⟩ : MethodName)) (z := (⟨"com/example/greasan/greasan/reasoner/NodeSet", "size", "()I"⟩ : MethodName)) (argsL := []) (rest := []) K (c_size l Z a0 hw n0 h ns (own_add (own_add [x] y) z) L N) at_197 E_ns (hw _ (List.mem_of_getElem? (i := 44) rfl)) (hw _ (List.mem_of_getElem? (i := 45) rfl)) (OwnKit.nfS (hw _ (List.mem_of_getElem? (i := 47) rfl))) (hw _ (List.mem_of_getElem? (i := 47) rfl)) (hw _ (List.mem_of_getElem? (i := 46) rfl)) (hw _ (List.mem_of_getElem? (i := 48) rfl)) (hw _ (List.mem_of_getElem? (i := 3) rfl)) (by decide) (lenOf (by decide +kernel : parseMethodDescriptor "()I" = some ⟨[], some .int⟩) rfl) rfl rfl (W := 0) (Nat.le_of_ble_eq_true rfl) (Nat.le_of_ble_eq_true rfl) (Nat.le_of_ble_eq_true rfl) hC hT ?_
                      rintro _ h43 ⟨rfl, rfl⟩ g44
                      show OwnKit.Go κ h C T 200 #[.val (.int n), .val (.int a), .val (.int b), .val (.int c), .val (.int k), .val (.int x), .val (.int y), .val (.int z), .val (.ref ns), .val (.int v0), .val (.int v1), .val (.int v2), .val (.int (1 : Int32)), .val (.int (0 : Int32)), .val (.int (2 : Int32))] [.int (Int32.ofNat (own_add (own_add [x] y) z).length)]
                      refine OwnKit.iload K at_200 rfl ?_
                      show OwnKit.Go κ h C T 202 #[.val (.int n), .val (.int a), .val (.int b), .val (.int c), .val (.int k), .val (.int x), .val (.int y), .val (.int z), .val (.ref ns), .val (.int v0), .val (.int v1), .val (.int v2), .val (.int (1 : Int32)), .val (.int (0 : Int32)), .val (.int (2 : Int32))] [.int (2 : Int32), .int (Int32.ofNat (own_add (own_add [x] y) z).length)]
                      refine OwnKit.icmpne K at_202 (by decide) (pc' := 209) rfl  (fun b45 => ?_) (fun b45 => ?_)
                      · exact absurd (own_s3 b1 (Or.inr b37)) b45
                      · show OwnKit.Go κ h C T 205 #[.val (.int n), .val (.int a), .val (.int b), .val (.int c), .val (.int k), .val (.int x), .val (.int y), .val (.int z), .val (.ref ns), .val (.int v0), .val (.int v1), .val (.int v2), .val (.int (1 : Int32)), .val (.int (0 : Int32)), .val (.int (2 : Int32))] []
                        refine OwnKit.iconst K at_205 ?_
                        show OwnKit.Go κ h C T 206 #[.val (.int n), .val (.int a), .val (.int b), .val (.int c), .val (.int k), .val (.int x), .val (.int y), .val (.int z), .val (.ref ns), .val (.int v0), .val (.int v1), .val (.int v2), .val (.int (1 : Int32)), .val (.int (0 : Int32)), .val (.int (2 : Int32))] [.int (1 : Int32)]
                        refine OwnKit.goto K at_206 (by decide) (pc' := 210) rfl ?_
                        show OwnKit.Go κ h C T 210 #[.val (.int n), .val (.int a), .val (.int b), .val (.int c), .val (.int k), .val (.int x), .val (.int y), .val (.int z), .val (.ref ns), .val (.int v0), .val (.int v1), .val (.int v2), .val (.int (1 : Int32)), .val (.int (0 : Int32)), .val (.int (2 : Int32))] [.int (1 : Int32)]
                        refine OwnKit.ireturn K at_210 (Or.inr (Or.inl rfl)) rfl ?_ hC hT
                        exact rfl
              · exact absurd b39 (by decide)
          · show OwnKit.Go κ h C T 144 #[.val (.int n), .val (.int a), .val (.int b), .val (.int c), .val (.int k), .val (.int x), .val (.int y), .val (.int z), .val (.ref ns), .val (.int v0), .val (.int v1), .val (.int v2), .val (.int (1 : Int32)), .unset, .unset] []
            refine OwnKit.iconst K at_144 ?_
            show OwnKit.Go κ h C T 145 #[.val (.int n), .val (.int a), .val (.int b), .val (.int c), .val (.int k), .val (.int x), .val (.int y), .val (.int z), .val (.ref ns), .val (.int v0), .val (.int v1), .val (.int v2), .val (.int (1 : Int32)), .unset, .unset] [.int (1 : Int32)]
            refine OwnKit.goto K at_145 (by decide) (pc' := 149) rfl ?_
            show OwnKit.Go κ h C T 149 #[.val (.int n), .val (.int a), .val (.int b), .val (.int c), .val (.int k), .val (.int x), .val (.int y), .val (.int z), .val (.ref ns), .val (.int v0), .val (.int v1), .val (.int v2), .val (.int (1 : Int32)), .unset, .unset] [.int (1 : Int32)]
            refine OwnKit.istore K at_149 (l' := #[.val (.int n), .val (.int a), .val (.int b), .val (.int c), .val (.int k), .val (.int x), .val (.int y), .val (.int z), .val (.ref ns), .val (.int v0), .val (.int v1), .val (.int v2), .val (.int (1 : Int32)), .val (.int (1 : Int32)), .unset]) rfl ?_
            show OwnKit.Go κ h C T 151 #[.val (.int n), .val (.int a), .val (.int b), .val (.int c), .val (.int k), .val (.int x), .val (.int y), .val (.int z), .val (.ref ns), .val (.int v0), .val (.int v1), .val (.int v2), .val (.int (1 : Int32)), .val (.int (1 : Int32)), .unset] []
            refine OwnKit.iconst K at_151 ?_
            show OwnKit.Go κ h C T 152 #[.val (.int n), .val (.int a), .val (.int b), .val (.int c), .val (.int k), .val (.int x), .val (.int y), .val (.int z), .val (.ref ns), .val (.int v0), .val (.int v1), .val (.int v2), .val (.int (1 : Int32)), .val (.int (1 : Int32)), .unset] [.int (1 : Int32)]
            refine OwnKit.iload K at_152 rfl ?_
            show OwnKit.Go κ h C T 154 #[.val (.int n), .val (.int a), .val (.int b), .val (.int c), .val (.int k), .val (.int x), .val (.int y), .val (.int z), .val (.ref ns), .val (.int v0), .val (.int v1), .val (.int v2), .val (.int (1 : Int32)), .val (.int (1 : Int32)), .unset] [.int (1 : Int32), .int (1 : Int32)]
            refine OwnKit.ifeq K at_154 (by decide) (pc' := 161) rfl  (fun b46 => ?_) (fun b46 => ?_)
            · exact absurd b46 (by decide)
            · show OwnKit.Go κ h C T 157 #[.val (.int n), .val (.int a), .val (.int b), .val (.int c), .val (.int k), .val (.int x), .val (.int y), .val (.int z), .val (.ref ns), .val (.int v0), .val (.int v1), .val (.int v2), .val (.int (1 : Int32)), .val (.int (1 : Int32)), .unset] [.int (1 : Int32)]
              refine OwnKit.iconst K at_157 ?_
              show OwnKit.Go κ h C T 158 #[.val (.int n), .val (.int a), .val (.int b), .val (.int c), .val (.int k), .val (.int x), .val (.int y), .val (.int z), .val (.ref ns), .val (.int v0), .val (.int v1), .val (.int v2), .val (.int (1 : Int32)), .val (.int (1 : Int32)), .unset] [.int (1 : Int32), .int (1 : Int32)]
              refine OwnKit.goto K at_158 (by decide) (pc' := 162) rfl ?_
              show OwnKit.Go κ h C T 162 #[.val (.int n), .val (.int a), .val (.int b), .val (.int c), .val (.int k), .val (.int x), .val (.int y), .val (.int z), .val (.ref ns), .val (.int v0), .val (.int v1), .val (.int v2), .val (.int (1 : Int32)), .val (.int (1 : Int32)), .unset] [.int (1 : Int32), .int (1 : Int32)]
              refine OwnKit.iadd K at_162 ?_
              show OwnKit.Go κ h C T 163 #[.val (.int n), .val (.int a), .val (.int b), .val (.int c), .val (.int k), .val (.int x), .val (.int y), .val (.int z), .val (.ref ns), .val (.int v0), .val (.int v1), .val (.int v2), .val (.int (1 : Int32)), .val (.int (1 : Int32)), .unset] [.int (2 : Int32)]
              show OwnKit.Go κ h C T 163 #[.val (.int n), .val (.int a), .val (.int b), .val (.int c), .val (.int k), .val (.int x), .val (.int y), .val (.int z), .val (.ref ns), .val (.int v0), .val (.int v1), .val (.int v2), .val (.int (1 : Int32)), .val (.int (1 : Int32)), .unset] [.int (2 : Int32)]
              refine OwnKit.iload K at_163 rfl ?_
              show OwnKit.Go κ h C T 165 #[.val (.int n), .val (.int a), .val (.int b), .val (.int c), .val (.int k), .val (.int x), .val (.int y), .val (.int z), .val (.ref ns), .val (.int v0), .val (.int v1), .val (.int v2), .val (.int (1 : Int32)), .val (.int (1 : Int32)), .unset] [.int (1 : Int32), .int (2 : Int32)]
              refine OwnKit.ifeq K at_165 (by decide) (pc' := 172) rfl  (fun b47 => ?_) (fun b47 => ?_)
              · exact absurd b47 (by decide)
              · show OwnKit.Go κ h C T 168 #[.val (.int n), .val (.int a), .val (.int b), .val (.int c), .val (.int k), .val (.int x), .val (.int y), .val (.int z), .val (.ref ns), .val (.int v0), .val (.int v1), .val (.int v2), .val (.int (1 : Int32)), .val (.int (1 : Int32)), .unset] [.int (2 : Int32)]
                refine OwnKit.iconst K at_168 ?_
                show OwnKit.Go κ h C T 169 #[.val (.int n), .val (.int a), .val (.int b), .val (.int c), .val (.int k), .val (.int x), .val (.int y), .val (.int z), .val (.ref ns), .val (.int v0), .val (.int v1), .val (.int v2), .val (.int (1 : Int32)), .val (.int (1 : Int32)), .unset] [.int (1 : Int32), .int (2 : Int32)]
                refine OwnKit.goto K at_169 (by decide) (pc' := 173) rfl ?_
                show OwnKit.Go κ h C T 173 #[.val (.int n), .val (.int a), .val (.int b), .val (.int c), .val (.int k), .val (.int x), .val (.int y), .val (.int z), .val (.ref ns), .val (.int v0), .val (.int v1), .val (.int v2), .val (.int (1 : Int32)), .val (.int (1 : Int32)), .unset] [.int (1 : Int32), .int (2 : Int32)]
                refine OwnKit.iadd K at_173 ?_
                show OwnKit.Go κ h C T 174 #[.val (.int n), .val (.int a), .val (.int b), .val (.int c), .val (.int k), .val (.int x), .val (.int y), .val (.int z), .val (.ref ns), .val (.int v0), .val (.int v1), .val (.int v2), .val (.int (1 : Int32)), .val (.int (1 : Int32)), .unset] [.int (3 : Int32)]
                show OwnKit.Go κ h C T 174 #[.val (.int n), .val (.int a), .val (.int b), .val (.int c), .val (.int k), .val (.int x), .val (.int y), .val (.int z), .val (.ref ns), .val (.int v0), .val (.int v1), .val (.int v2), .val (.int (1 : Int32)), .val (.int (1 : Int32)), .unset] [.int (3 : Int32)]
                refine OwnKit.istore K at_174 (l' := #[.val (.int n), .val (.int a), .val (.int b), .val (.int c), .val (.int k), .val (.int x), .val (.int y), .val (.int z), .val (.ref ns), .val (.int v0), .val (.int v1), .val (.int v2), .val (.int (1 : Int32)), .val (.int (1 : Int32)), .val (.int (3 : Int32))]) rfl ?_
                show OwnKit.Go κ h C T 176 #[.val (.int n), .val (.int a), .val (.int b), .val (.int c), .val (.int k), .val (.int x), .val (.int y), .val (.int z), .val (.ref ns), .val (.int v0), .val (.int v1), .val (.int v2), .val (.int (1 : Int32)), .val (.int (1 : Int32)), .val (.int (3 : Int32))] []
                refine OwnKit.iload K at_176 rfl ?_
                show OwnKit.Go κ h C T 178 #[.val (.int n), .val (.int a), .val (.int b), .val (.int c), .val (.int k), .val (.int x), .val (.int y), .val (.int z), .val (.ref ns), .val (.int v0), .val (.int v1), .val (.int v2), .val (.int (1 : Int32)), .val (.int (1 : Int32)), .val (.int (3 : Int32))] [.int v0]
                refine OwnKit.ifeq K at_178 (by decide) (pc' := 209) rfl  (fun b48 => ?_) (fun b48 => ?_)
                · exact absurd b48 (own_n0 hv0)
                · show OwnKit.Go κ h C T 181 #[.val (.int n), .val (.int a), .val (.int b), .val (.int c), .val (.int k), .val (.int x), .val (.int y), .val (.int z), .val (.ref ns), .val (.int v0), .val (.int v1), .val (.int v2), .val (.int (1 : Int32)), .val (.int (1 : Int32)), .val (.int (3 : Int32))] []
                  refine OwnKit.iload K at_181 rfl ?_
                  show OwnKit.Go κ h C T 183 #[.val (.int n), .val (.int a), .val (.int b), .val (.int c), .val (.int k), .val (.int x), .val (.int y), .val (.int z), .val (.ref ns), .val (.int v0), .val (.int v1), .val (.int v2), .val (.int (1 : Int32)), .val (.int (1 : Int32)), .val (.int (3 : Int32))] [.int v1]
                  refine OwnKit.iload K at_183 rfl ?_
                  show OwnKit.Go κ h C T 185 #[.val (.int n), .val (.int a), .val (.int b), .val (.int c), .val (.int k), .val (.int x), .val (.int y), .val (.int z), .val (.ref ns), .val (.int v0), .val (.int v1), .val (.int v2), .val (.int (1 : Int32)), .val (.int (1 : Int32)), .val (.int (3 : Int32))] [.int (1 : Int32), .int v1]
                  refine OwnKit.icmpne K at_185 (by decide) (pc' := 209) rfl  (fun b49 => ?_) (fun b49 => ?_)
                  · exact absurd (own_v1f hv1 b1) b49
                  · show OwnKit.Go κ h C T 188 #[.val (.int n), .val (.int a), .val (.int b), .val (.int c), .val (.int k), .val (.int x), .val (.int y), .val (.int z), .val (.ref ns), .val (.int v0), .val (.int v1), .val (.int v2), .val (.int (1 : Int32)), .val (.int (1 : Int32)), .val (.int (3 : Int32))] []
                    refine OwnKit.iload K at_188 rfl ?_
                    show OwnKit.Go κ h C T 190 #[.val (.int n), .val (.int a), .val (.int b), .val (.int c), .val (.int k), .val (.int x), .val (.int y), .val (.int z), .val (.ref ns), .val (.int v0), .val (.int v1), .val (.int v2), .val (.int (1 : Int32)), .val (.int (1 : Int32)), .val (.int (3 : Int32))] [.int v2]
                    refine OwnKit.iload K at_190 rfl ?_
                    show OwnKit.Go κ h C T 192 #[.val (.int n), .val (.int a), .val (.int b), .val (.int c), .val (.int k), .val (.int x), .val (.int y), .val (.int z), .val (.ref ns), .val (.int v0), .val (.int v1), .val (.int v2), .val (.int (1 : Int32)), .val (.int (1 : Int32)), .val (.int (3 : Int32))] [.int (1 : Int32), .int v2]
                    refine OwnKit.icmpne K at_192 (by decide) (pc' := 209) rfl  (fun b50 => ?_) (fun b50 => ?_)
                    · exact absurd (own_v2c hv2 b28 b37) b50
                    · show OwnKit.Go κ h C T 195 #[.val (.int n), .val (.int a), .val (.int b), .val (.int c), .val (.int k), .val (.int x), .val (.int y), .val (.int z), .val (.ref ns), .val (.int v0), .val (.int v1), .val (.int v2), .val (.int (1 : Int32)), .val (.int (1 : Int32)), .val (.int (3 : Int32))] []
                      refine OwnKit.aload K at_195 rfl rfl ?_
                      show OwnKit.Go κ h C T 197 #[.val (.int n), .val (.int a), .val (.int b), .val (.int c), .val (.int k), .val (.int x), .val (.int y), .val (.int z), .val (.ref ns), .val (.int v0), .val (.int v1), .val (.int v2), .val (.int (1 : Int32)), .val (.int (1 : Int32)), .val (.int (3 : Int32))] [.ref ns]
                      refine OwnKit.invV (y := (⟨"com/example/greasan/greasan/reasoner/NodeSet", "size", "()I"⟩ : MethodName)) (z := (⟨"com/example/greasan/greasan/reasoner/NodeSet", "size", "()I"⟩ : MethodName)) (argsL := []) (rest := []) K (c_size l Z a0 hw n0 h ns (own_add (own_add [x] y) z) L N) at_197 E_ns (hw _ (List.mem_of_getElem? (i := 44) rfl)) (hw _ (List.mem_of_getElem? (i := 45) rfl)) (OwnKit.nfS (hw _ (List.mem_of_getElem? (i := 47) rfl))) (hw _ (List.mem_of_getElem? (i := 47) rfl)) (hw _ (List.mem_of_getElem? (i := 46) rfl)) (hw _ (List.mem_of_getElem? (i := 48) rfl)) (hw _ (List.mem_of_getElem? (i := 3) rfl)) (by decide) (lenOf (by decide +kernel : parseMethodDescriptor "()I" = some ⟨[], some .int⟩) rfl) rfl rfl (W := 0) (Nat.le_of_ble_eq_true rfl) (Nat.le_of_ble_eq_true rfl) (Nat.le_of_ble_eq_true rfl) hC hT ?_
                      rintro _ h51 ⟨rfl, rfl⟩ g52
                      show OwnKit.Go κ h C T 200 #[.val (.int n), .val (.int a), .val (.int b), .val (.int c), .val (.int k), .val (.int x), .val (.int y), .val (.int z), .val (.ref ns), .val (.int v0), .val (.int v1), .val (.int v2), .val (.int (1 : Int32)), .val (.int (1 : Int32)), .val (.int (3 : Int32))] [.int (Int32.ofNat (own_add (own_add [x] y) z).length)]
                      refine OwnKit.iload K at_200 rfl ?_
                      show OwnKit.Go κ h C T 202 #[.val (.int n), .val (.int a), .val (.int b), .val (.int c), .val (.int k), .val (.int x), .val (.int y), .val (.int z), .val (.ref ns), .val (.int v0), .val (.int v1), .val (.int v2), .val (.int (1 : Int32)), .val (.int (1 : Int32)), .val (.int (3 : Int32))] [.int (3 : Int32), .int (Int32.ofNat (own_add (own_add [x] y) z).length)]
                      refine OwnKit.icmpne K at_202 (by decide) (pc' := 209) rfl  (fun b53 => ?_) (fun b53 => ?_)
                      · exact absurd (own_s4 b1 b28 b37) b53
                      · show OwnKit.Go κ h C T 205 #[.val (.int n), .val (.int a), .val (.int b), .val (.int c), .val (.int k), .val (.int x), .val (.int y), .val (.int z), .val (.ref ns), .val (.int v0), .val (.int v1), .val (.int v2), .val (.int (1 : Int32)), .val (.int (1 : Int32)), .val (.int (3 : Int32))] []
                        refine OwnKit.iconst K at_205 ?_
                        show OwnKit.Go κ h C T 206 #[.val (.int n), .val (.int a), .val (.int b), .val (.int c), .val (.int k), .val (.int x), .val (.int y), .val (.int z), .val (.ref ns), .val (.int v0), .val (.int v1), .val (.int v2), .val (.int (1 : Int32)), .val (.int (1 : Int32)), .val (.int (3 : Int32))] [.int (1 : Int32)]
                        refine OwnKit.goto K at_206 (by decide) (pc' := 210) rfl ?_
                        show OwnKit.Go κ h C T 210 #[.val (.int n), .val (.int a), .val (.int b), .val (.int c), .val (.int k), .val (.int x), .val (.int y), .val (.int z), .val (.ref ns), .val (.int v0), .val (.int v1), .val (.int v2), .val (.int (1 : Int32)), .val (.int (1 : Int32)), .val (.int (3 : Int32))] [.int (1 : Int32)]
                        refine OwnKit.ireturn K at_210 (Or.inr (Or.inl rfl)) rfl ?_ hC hT
                        exact rfl
    have J74 : ∀ (h : Heap) (C T L : Nat) (k x y z : Int32) (ns : Addr) (xs : List Int32), C ≤ 8 → T ≤ 23 + 2 * L → L ≤ 2048 → own_ok x → own_ok y → own_ok z → NSE Z h n0 ns xs L → OwnKit.Go κ h C T 74 #[.val (.int n), .val (.int a), .val (.int b), .val (.int c), .val (.int k), .val (.int x), .val (.int y), .val (.int z), .val (.ref ns), .unset, .unset, .unset, .unset, .unset, .unset] [] := by
      intro h C T L k x y z ns xs hC hT hL hx hy hz N
      have E_ns := N.exa
      show OwnKit.Go κ h C T 74 #[.val (.int n), .val (.int a), .val (.int b), .val (.int c), .val (.int k), .val (.int x), .val (.int y), .val (.int z), .val (.ref ns), .unset, .unset, .unset, .unset, .unset, .unset] []
      refine OwnKit.aload K at_74 rfl rfl ?_
      show OwnKit.Go κ h C T 76 #[.val (.int n), .val (.int a), .val (.int b), .val (.int c), .val (.int k), .val (.int x), .val (.int y), .val (.int z), .val (.ref ns), .unset, .unset, .unset, .unset, .unset, .unset] [.ref ns]
      refine OwnKit.invV (y := (⟨"com/example/greasan/greasan/reasoner/NodeSet", "clear", "()V"⟩ : MethodName)) (z := (⟨"com/example/greasan/greasan/reasoner/NodeSet", "clear", "()V"⟩ : MethodName)) (argsL := []) (rest := []) K (c_nclr l Z a0 hw n0 h ns xs L  N S__assertionsDisabled) at_76 E_ns (hw _ (List.mem_of_getElem? (i := 37) rfl)) (hw _ (List.mem_of_getElem? (i := 38) rfl)) (OwnKit.nfS (hw _ (List.mem_of_getElem? (i := 40) rfl))) (hw _ (List.mem_of_getElem? (i := 40) rfl)) (hw _ (List.mem_of_getElem? (i := 39) rfl)) (hw _ (List.mem_of_getElem? (i := 41) rfl)) (hw _ (List.mem_of_getElem? (i := 3) rfl)) (by decide) (lenOf (by decide +kernel : parseMethodDescriptor "()V" = some ⟨[], none⟩) rfl) rfl rfl (W := 0) (Nat.le_of_ble_eq_true rfl) (Nat.le_of_ble_eq_true rfl) (Nat.le_of_ble_eq_true rfl) (by show C + 0 ≤ 24; omega) (by show T + 0 ≤ 6592; omega) ?_
      rintro _ h54 ⟨rfl, M⟩ g55
      have E_m := M.exa
      show OwnKit.Go κ h54 C T 79 #[.val (.int n), .val (.int a), .val (.int b), .val (.int c), .val (.int k), .val (.int x), .val (.int y), .val (.int z), .val (.ref ns), .unset, .unset, .unset, .unset, .unset, .unset] []
      refine OwnKit.aload K at_79 rfl rfl ?_
      show OwnKit.Go κ h54 C T 81 #[.val (.int n), .val (.int a), .val (.int b), .val (.int c), .val (.int k), .val (.int x), .val (.int y), .val (.int z), .val (.ref ns), .unset, .unset, .unset, .unset, .unset, .unset] [.ref ns]
      refine OwnKit.invV (y := (⟨"com/example/greasan/greasan/reasoner/NodeSet", "size", "()I"⟩ : MethodName)) (z := (⟨"com/example/greasan/greasan/reasoner/NodeSet", "size", "()I"⟩ : MethodName)) (argsL := []) (rest := []) K (c_size l Z a0 hw n0 h54 ns [] L M) at_81 E_m (hw _ (List.mem_of_getElem? (i := 44) rfl)) (hw _ (List.mem_of_getElem? (i := 45) rfl)) (OwnKit.nfS (hw _ (List.mem_of_getElem? (i := 47) rfl))) (hw _ (List.mem_of_getElem? (i := 47) rfl)) (hw _ (List.mem_of_getElem? (i := 46) rfl)) (hw _ (List.mem_of_getElem? (i := 48) rfl)) (hw _ (List.mem_of_getElem? (i := 3) rfl)) (by decide) (lenOf (by decide +kernel : parseMethodDescriptor "()I" = some ⟨[], some .int⟩) rfl) rfl rfl (W := 0) (Nat.le_of_ble_eq_true rfl) (Nat.le_of_ble_eq_true rfl) (Nat.le_of_ble_eq_true rfl) (by show C + 0 ≤ 24; omega) (by show T + 0 ≤ 6592; omega) ?_
      rintro _ h56 ⟨rfl, rfl⟩ g57
      show OwnKit.Go κ h54 C T 84 #[.val (.int n), .val (.int a), .val (.int b), .val (.int c), .val (.int k), .val (.int x), .val (.int y), .val (.int z), .val (.ref ns), .unset, .unset, .unset, .unset, .unset, .unset] [.int (0 : Int32)]
      refine OwnKit.ifeq K at_84 (by decide) (pc' := 89) rfl  (fun b58 => ?_) (fun b58 => ?_)
      · show OwnKit.Go κ h54 C T 89 #[.val (.int n), .val (.int a), .val (.int b), .val (.int c), .val (.int k), .val (.int x), .val (.int y), .val (.int z), .val (.ref ns), .unset, .unset, .unset, .unset, .unset, .unset] []
        refine OwnKit.aload K at_89 rfl rfl ?_
        show OwnKit.Go κ h54 C T 91 #[.val (.int n), .val (.int a), .val (.int b), .val (.int c), .val (.int k), .val (.int x), .val (.int y), .val (.int z), .val (.ref ns), .unset, .unset, .unset, .unset, .unset, .unset] [.ref ns]
        refine OwnKit.iload K at_91 rfl ?_
        show OwnKit.Go κ h54 C T 93 #[.val (.int n), .val (.int a), .val (.int b), .val (.int c), .val (.int k), .val (.int x), .val (.int y), .val (.int z), .val (.ref ns), .unset, .unset, .unset, .unset, .unset, .unset] [.int x, .ref ns]
        have PP0 := own_pay L (own_wi x + 1)
        have QQ0 := own_lenB2 (L := L) (by omega) (own_wiB2 hx.1 hx.2)
        refine OwnKit.invV (y := (⟨"com/example/greasan/greasan/reasoner/NodeSet", "add", "(I)Z"⟩ : MethodName)) (z := (⟨"com/example/greasan/greasan/reasoner/NodeSet", "add", "(I)Z"⟩ : MethodName)) (argsL := [.int x]) (rest := []) K (c_add l Z a0 hw n0 h54 ns ([]) L x  hx.1 (by have := hx.2; omega) (by decide) M S__assertionsDisabled) at_93 E_m (hw _ (List.mem_of_getElem? (i := 49) rfl)) (hw _ (List.mem_of_getElem? (i := 50) rfl)) (OwnKit.nfS (hw _ (List.mem_of_getElem? (i := 52) rfl))) (hw _ (List.mem_of_getElem? (i := 52) rfl)) (hw _ (List.mem_of_getElem? (i := 51) rfl)) (hw _ (List.mem_of_getElem? (i := 53) rfl)) (hw _ (List.mem_of_getElem? (i := 3) rfl)) (by decide) (lenOf (by decide +kernel : parseMethodDescriptor "(I)Z" = some ⟨[.int], some .boolean⟩) rfl) rfl rfl (W := 0) (Nat.le_of_ble_eq_true rfl) (Nat.le_of_ble_eq_true rfl) (Nat.le_of_ble_eq_true rfl) (by show C + 1 ≤ 24; omega) (by show T + own_grow L (own_wi x + 1) ≤ 6592; omega) ?_
        rintro _ h59 ⟨v0, rfl, M0, hv0⟩ g60
        generalize hL0 : own_len L (own_wi x + 1) = M0L at *
        rw [own_addNil] at M0
        have E_0 := M0.exa
        show OwnKit.Go κ h59 (C + 1) (T + own_grow L (own_wi x + 1)) 96 #[.val (.int n), .val (.int a), .val (.int b), .val (.int c), .val (.int k), .val (.int x), .val (.int y), .val (.int z), .val (.ref ns), .unset, .unset, .unset, .unset, .unset, .unset] [.int v0]
        refine OwnKit.istore K at_96 (l' := #[.val (.int n), .val (.int a), .val (.int b), .val (.int c), .val (.int k), .val (.int x), .val (.int y), .val (.int z), .val (.ref ns), .val (.int v0), .unset, .unset, .unset, .unset, .unset]) rfl ?_
        show OwnKit.Go κ h59 (C + 1) (T + own_grow L (own_wi x + 1)) 98 #[.val (.int n), .val (.int a), .val (.int b), .val (.int c), .val (.int k), .val (.int x), .val (.int y), .val (.int z), .val (.ref ns), .val (.int v0), .unset, .unset, .unset, .unset, .unset] []
        refine OwnKit.aload K at_98 rfl rfl ?_
        show OwnKit.Go κ h59 (C + 1) (T + own_grow L (own_wi x + 1)) 100 #[.val (.int n), .val (.int a), .val (.int b), .val (.int c), .val (.int k), .val (.int x), .val (.int y), .val (.int z), .val (.ref ns), .val (.int v0), .unset, .unset, .unset, .unset, .unset] [.ref ns]
        refine OwnKit.iload K at_100 rfl ?_
        show OwnKit.Go κ h59 (C + 1) (T + own_grow L (own_wi x + 1)) 102 #[.val (.int n), .val (.int a), .val (.int b), .val (.int c), .val (.int k), .val (.int x), .val (.int y), .val (.int z), .val (.ref ns), .val (.int v0), .unset, .unset, .unset, .unset, .unset] [.int y, .ref ns]
        have PP1 := own_pay M0L (own_wi y + 1)
        have QQ1 := own_lenB2 (L := M0L) (by omega) (own_wiB2 hy.1 hy.2)
        refine OwnKit.invV (y := (⟨"com/example/greasan/greasan/reasoner/NodeSet", "add", "(I)Z"⟩ : MethodName)) (z := (⟨"com/example/greasan/greasan/reasoner/NodeSet", "add", "(I)Z"⟩ : MethodName)) (argsL := [.int y]) (rest := []) K (c_add l Z a0 hw n0 h59 ns ([x]) M0L y  hy.1 (by have := hy.2; omega) (by have := own_addLen [x] y; first | (simp at *; done) | (simp at *; omega)) M0 S__assertionsDisabled) at_102 E_0 (hw _ (List.mem_of_getElem? (i := 49) rfl)) (hw _ (List.mem_of_getElem? (i := 50) rfl)) (OwnKit.nfS (hw _ (List.mem_of_getElem? (i := 52) rfl))) (hw _ (List.mem_of_getElem? (i := 52) rfl)) (hw _ (List.mem_of_getElem? (i := 51) rfl)) (hw _ (List.mem_of_getElem? (i := 53) rfl)) (hw _ (List.mem_of_getElem? (i := 3) rfl)) (by decide) (lenOf (by decide +kernel : parseMethodDescriptor "(I)Z" = some ⟨[.int], some .boolean⟩) rfl) rfl rfl (W := 0) (Nat.le_of_ble_eq_true rfl) (Nat.le_of_ble_eq_true rfl) (Nat.le_of_ble_eq_true rfl) (by show C + 1 + 1 ≤ 24; omega) (by show T + own_grow L (own_wi x + 1) + own_grow M0L (own_wi y + 1) ≤ 6592; omega) ?_
        rintro _ h61 ⟨v1, rfl, M1, hv1⟩ g62
        generalize hL1 : own_len M0L (own_wi y + 1) = M1L at *
        have E_1 := M1.exa
        show OwnKit.Go κ h61 (C + 1 + 1) (T + own_grow L (own_wi x + 1) + own_grow M0L (own_wi y + 1)) 105 #[.val (.int n), .val (.int a), .val (.int b), .val (.int c), .val (.int k), .val (.int x), .val (.int y), .val (.int z), .val (.ref ns), .val (.int v0), .unset, .unset, .unset, .unset, .unset] [.int v1]
        refine OwnKit.istore K at_105 (l' := #[.val (.int n), .val (.int a), .val (.int b), .val (.int c), .val (.int k), .val (.int x), .val (.int y), .val (.int z), .val (.ref ns), .val (.int v0), .val (.int v1), .unset, .unset, .unset, .unset]) rfl ?_
        show OwnKit.Go κ h61 (C + 1 + 1) (T + own_grow L (own_wi x + 1) + own_grow M0L (own_wi y + 1)) 107 #[.val (.int n), .val (.int a), .val (.int b), .val (.int c), .val (.int k), .val (.int x), .val (.int y), .val (.int z), .val (.ref ns), .val (.int v0), .val (.int v1), .unset, .unset, .unset, .unset] []
        refine OwnKit.aload K at_107 rfl rfl ?_
        show OwnKit.Go κ h61 (C + 1 + 1) (T + own_grow L (own_wi x + 1) + own_grow M0L (own_wi y + 1)) 109 #[.val (.int n), .val (.int a), .val (.int b), .val (.int c), .val (.int k), .val (.int x), .val (.int y), .val (.int z), .val (.ref ns), .val (.int v0), .val (.int v1), .unset, .unset, .unset, .unset] [.ref ns]
        refine OwnKit.iload K at_109 rfl ?_
        show OwnKit.Go κ h61 (C + 1 + 1) (T + own_grow L (own_wi x + 1) + own_grow M0L (own_wi y + 1)) 111 #[.val (.int n), .val (.int a), .val (.int b), .val (.int c), .val (.int k), .val (.int x), .val (.int y), .val (.int z), .val (.ref ns), .val (.int v0), .val (.int v1), .unset, .unset, .unset, .unset] [.int z, .ref ns]
        have PP2 := own_pay M1L (own_wi z + 1)
        have QQ2 := own_lenB2 (L := M1L) (by omega) (own_wiB2 hz.1 hz.2)
        refine OwnKit.invV (y := (⟨"com/example/greasan/greasan/reasoner/NodeSet", "add", "(I)Z"⟩ : MethodName)) (z := (⟨"com/example/greasan/greasan/reasoner/NodeSet", "add", "(I)Z"⟩ : MethodName)) (argsL := [.int z]) (rest := []) K (c_add l Z a0 hw n0 h61 ns (own_add ([x]) y) M1L z  hz.1 (by have := hz.2; omega) (by have := own_addLen [x] y; first | (simp at *; done) | (simp at *; omega)) M1 S__assertionsDisabled) at_111 E_1 (hw _ (List.mem_of_getElem? (i := 49) rfl)) (hw _ (List.mem_of_getElem? (i := 50) rfl)) (OwnKit.nfS (hw _ (List.mem_of_getElem? (i := 52) rfl))) (hw _ (List.mem_of_getElem? (i := 52) rfl)) (hw _ (List.mem_of_getElem? (i := 51) rfl)) (hw _ (List.mem_of_getElem? (i := 53) rfl)) (hw _ (List.mem_of_getElem? (i := 3) rfl)) (by decide) (lenOf (by decide +kernel : parseMethodDescriptor "(I)Z" = some ⟨[.int], some .boolean⟩) rfl) rfl rfl (W := 0) (Nat.le_of_ble_eq_true rfl) (Nat.le_of_ble_eq_true rfl) (Nat.le_of_ble_eq_true rfl) (by show C + 1 + 1 + 1 ≤ 24; omega) (by show T + own_grow L (own_wi x + 1) + own_grow M0L (own_wi y + 1) + own_grow M1L (own_wi z + 1) ≤ 6592; omega) ?_
        rintro _ h63 ⟨v2, rfl, M2, hv2⟩ g64
        generalize hL2 : own_len M1L (own_wi z + 1) = M2L at *
        have E_2 := M2.exa
        show OwnKit.Go κ h63 (C + 1 + 1 + 1) (T + own_grow L (own_wi x + 1) + own_grow M0L (own_wi y + 1) + own_grow M1L (own_wi z + 1)) 114 #[.val (.int n), .val (.int a), .val (.int b), .val (.int c), .val (.int k), .val (.int x), .val (.int y), .val (.int z), .val (.ref ns), .val (.int v0), .val (.int v1), .unset, .unset, .unset, .unset] [.int v2]
        refine OwnKit.istore K at_114 (l' := #[.val (.int n), .val (.int a), .val (.int b), .val (.int c), .val (.int k), .val (.int x), .val (.int y), .val (.int z), .val (.ref ns), .val (.int v0), .val (.int v1), .val (.int v2), .unset, .unset, .unset]) rfl ?_
        show OwnKit.Go κ h63 (C + 1 + 1 + 1) (T + own_grow L (own_wi x + 1) + own_grow M0L (own_wi y + 1) + own_grow M1L (own_wi z + 1)) 116 #[.val (.int n), .val (.int a), .val (.int b), .val (.int c), .val (.int k), .val (.int x), .val (.int y), .val (.int z), .val (.ref ns), .val (.int v0), .val (.int v1), .val (.int v2), .unset, .unset, .unset] []
        exact J116 h63 (C + 1 + 1 + 1) (T + own_grow L (own_wi x + 1) + own_grow M0L (own_wi y + 1) + own_grow M1L (own_wi z + 1)) M2L k x y z ns v0 v1 v2 (by omega) (by omega) M2 hv0 hv1 hv2
      · exact absurd b58 (by decide)
    have J60 : ∀ (h : Heap) (C T L : Nat) (k x y z : Int32) (ns : Addr) (xs : List Int32), C ≤ 7 → T ≤ 23 + 2 * L → L ≤ 2048 → own_ok x → own_ok y → own_ok z → xs.length ≤ 2 → NSE Z h n0 ns xs L → OwnKit.Go κ h C T 60 #[.val (.int n), .val (.int a), .val (.int b), .val (.int c), .val (.int k), .val (.int x), .val (.int y), .val (.int z), .val (.ref ns), .unset, .unset, .unset, .unset, .unset, .unset] [] := by
      intro h C T L k x y z ns xs hC hT hL hx hy hz hlen N
      have E_ns := N.exa
      show OwnKit.Go κ h C T 60 #[.val (.int n), .val (.int a), .val (.int b), .val (.int c), .val (.int k), .val (.int x), .val (.int y), .val (.int z), .val (.ref ns), .unset, .unset, .unset, .unset, .unset, .unset] []
      refine OwnKit.iload K at_60 rfl ?_
      show OwnKit.Go κ h C T 62 #[.val (.int n), .val (.int a), .val (.int b), .val (.int c), .val (.int k), .val (.int x), .val (.int y), .val (.int z), .val (.ref ns), .unset, .unset, .unset, .unset, .unset, .unset] [.int k]
      refine OwnKit.iconst K at_62 ?_
      show OwnKit.Go κ h C T 63 #[.val (.int n), .val (.int a), .val (.int b), .val (.int c), .val (.int k), .val (.int x), .val (.int y), .val (.int z), .val (.ref ns), .unset, .unset, .unset, .unset, .unset, .unset] [.int (3 : Int32), .int k]
      refine OwnKit.icmplt K at_63 (by decide) (pc' := 74) rfl  (fun b65 => ?_) (fun b65 => ?_)
      · show OwnKit.Go κ h C T 74 #[.val (.int n), .val (.int a), .val (.int b), .val (.int c), .val (.int k), .val (.int x), .val (.int y), .val (.int z), .val (.ref ns), .unset, .unset, .unset, .unset, .unset, .unset] []
        exact J74 h C T L k x y z ns xs (by omega) hT hL hx hy hz N
      · show OwnKit.Go κ h C T 66 #[.val (.int n), .val (.int a), .val (.int b), .val (.int c), .val (.int k), .val (.int x), .val (.int y), .val (.int z), .val (.ref ns), .unset, .unset, .unset, .unset, .unset, .unset] []
        refine OwnKit.aload K at_66 rfl rfl ?_
        show OwnKit.Go κ h C T 68 #[.val (.int n), .val (.int a), .val (.int b), .val (.int c), .val (.int k), .val (.int x), .val (.int y), .val (.int z), .val (.ref ns), .unset, .unset, .unset, .unset, .unset, .unset] [.ref ns]
        refine OwnKit.iload K at_68 rfl ?_
        show OwnKit.Go κ h C T 70 #[.val (.int n), .val (.int a), .val (.int b), .val (.int c), .val (.int k), .val (.int x), .val (.int y), .val (.int z), .val (.ref ns), .unset, .unset, .unset, .unset, .unset, .unset] [.int z, .ref ns]
        have PP0 := own_pay L (own_wi z + 1)
        have QQ0 := own_lenB2 (L := L) (by omega) (own_wiB2 hz.1 hz.2)
        refine OwnKit.invV (y := (⟨"com/example/greasan/greasan/reasoner/NodeSet", "add", "(I)Z"⟩ : MethodName)) (z := (⟨"com/example/greasan/greasan/reasoner/NodeSet", "add", "(I)Z"⟩ : MethodName)) (argsL := [.int z]) (rest := []) K (c_add l Z a0 hw n0 h ns xs L z  hz.1 (by have := hz.2; omega) (by omega) N S__assertionsDisabled) at_70 E_ns (hw _ (List.mem_of_getElem? (i := 49) rfl)) (hw _ (List.mem_of_getElem? (i := 50) rfl)) (OwnKit.nfS (hw _ (List.mem_of_getElem? (i := 52) rfl))) (hw _ (List.mem_of_getElem? (i := 52) rfl)) (hw _ (List.mem_of_getElem? (i := 51) rfl)) (hw _ (List.mem_of_getElem? (i := 53) rfl)) (hw _ (List.mem_of_getElem? (i := 3) rfl)) (by decide) (lenOf (by decide +kernel : parseMethodDescriptor "(I)Z" = some ⟨[.int], some .boolean⟩) rfl) rfl rfl (W := 0) (Nat.le_of_ble_eq_true rfl) (Nat.le_of_ble_eq_true rfl) (Nat.le_of_ble_eq_true rfl) (by show C + 1 ≤ 24; omega) (by show T + own_grow L (own_wi z + 1) ≤ 6592; omega) ?_
        rintro _ h66 ⟨v0, rfl, M0, hv0⟩ g67
        generalize hL0 : own_len L (own_wi z + 1) = M0L at *
        have E_0 := M0.exa
        show OwnKit.Go κ h66 (C + 1) (T + own_grow L (own_wi z + 1)) 73 #[.val (.int n), .val (.int a), .val (.int b), .val (.int c), .val (.int k), .val (.int x), .val (.int y), .val (.int z), .val (.ref ns), .unset, .unset, .unset, .unset, .unset, .unset] [.int v0]
        refine OwnKit.pop K at_73 rfl ?_
        show OwnKit.Go κ h66 (C + 1) (T + own_grow L (own_wi z + 1)) 74 #[.val (.int n), .val (.int a), .val (.int b), .val (.int c), .val (.int k), .val (.int x), .val (.int y), .val (.int z), .val (.ref ns), .unset, .unset, .unset, .unset, .unset, .unset] []
        exact J74 h66 (C + 1) (T + own_grow L (own_wi z + 1)) M0L k x y z ns (own_add xs z) (by omega) (by omega) (by omega) hx hy hz (by exact M0)
    have J46 : ∀ (h : Heap) (C T L : Nat) (k x y z : Int32) (ns : Addr) (xs : List Int32), C ≤ 6 → T ≤ 23 + 2 * L → L ≤ 2048 → own_ok x → own_ok y → own_ok z → xs.length ≤ 1 → NSE Z h n0 ns xs L → OwnKit.Go κ h C T 46 #[.val (.int n), .val (.int a), .val (.int b), .val (.int c), .val (.int k), .val (.int x), .val (.int y), .val (.int z), .val (.ref ns), .unset, .unset, .unset, .unset, .unset, .unset] [] := by
      intro h C T L k x y z ns xs hC hT hL hx hy hz hlen N
      have E_ns := N.exa
      show OwnKit.Go κ h C T 46 #[.val (.int n), .val (.int a), .val (.int b), .val (.int c), .val (.int k), .val (.int x), .val (.int y), .val (.int z), .val (.ref ns), .unset, .unset, .unset, .unset, .unset, .unset] []
      refine OwnKit.iload K at_46 rfl ?_
      show OwnKit.Go κ h C T 48 #[.val (.int n), .val (.int a), .val (.int b), .val (.int c), .val (.int k), .val (.int x), .val (.int y), .val (.int z), .val (.ref ns), .unset, .unset, .unset, .unset, .unset, .unset] [.int k]
      refine OwnKit.iconst K at_48 ?_
      show OwnKit.Go κ h C T 49 #[.val (.int n), .val (.int a), .val (.int b), .val (.int c), .val (.int k), .val (.int x), .val (.int y), .val (.int z), .val (.ref ns), .unset, .unset, .unset, .unset, .unset, .unset] [.int (2 : Int32), .int k]
      refine OwnKit.icmplt K at_49 (by decide) (pc' := 60) rfl  (fun b68 => ?_) (fun b68 => ?_)
      · show OwnKit.Go κ h C T 60 #[.val (.int n), .val (.int a), .val (.int b), .val (.int c), .val (.int k), .val (.int x), .val (.int y), .val (.int z), .val (.ref ns), .unset, .unset, .unset, .unset, .unset, .unset] []
        exact J60 h C T L k x y z ns xs (by omega) hT hL hx hy hz (by omega) N
      · show OwnKit.Go κ h C T 52 #[.val (.int n), .val (.int a), .val (.int b), .val (.int c), .val (.int k), .val (.int x), .val (.int y), .val (.int z), .val (.ref ns), .unset, .unset, .unset, .unset, .unset, .unset] []
        refine OwnKit.aload K at_52 rfl rfl ?_
        show OwnKit.Go κ h C T 54 #[.val (.int n), .val (.int a), .val (.int b), .val (.int c), .val (.int k), .val (.int x), .val (.int y), .val (.int z), .val (.ref ns), .unset, .unset, .unset, .unset, .unset, .unset] [.ref ns]
        refine OwnKit.iload K at_54 rfl ?_
        show OwnKit.Go κ h C T 56 #[.val (.int n), .val (.int a), .val (.int b), .val (.int c), .val (.int k), .val (.int x), .val (.int y), .val (.int z), .val (.ref ns), .unset, .unset, .unset, .unset, .unset, .unset] [.int y, .ref ns]
        have PP0 := own_pay L (own_wi y + 1)
        have QQ0 := own_lenB2 (L := L) (by omega) (own_wiB2 hy.1 hy.2)
        refine OwnKit.invV (y := (⟨"com/example/greasan/greasan/reasoner/NodeSet", "add", "(I)Z"⟩ : MethodName)) (z := (⟨"com/example/greasan/greasan/reasoner/NodeSet", "add", "(I)Z"⟩ : MethodName)) (argsL := [.int y]) (rest := []) K (c_add l Z a0 hw n0 h ns xs L y  hy.1 (by have := hy.2; omega) (by omega) N S__assertionsDisabled) at_56 E_ns (hw _ (List.mem_of_getElem? (i := 49) rfl)) (hw _ (List.mem_of_getElem? (i := 50) rfl)) (OwnKit.nfS (hw _ (List.mem_of_getElem? (i := 52) rfl))) (hw _ (List.mem_of_getElem? (i := 52) rfl)) (hw _ (List.mem_of_getElem? (i := 51) rfl)) (hw _ (List.mem_of_getElem? (i := 53) rfl)) (hw _ (List.mem_of_getElem? (i := 3) rfl)) (by decide) (lenOf (by decide +kernel : parseMethodDescriptor "(I)Z" = some ⟨[.int], some .boolean⟩) rfl) rfl rfl (W := 0) (Nat.le_of_ble_eq_true rfl) (Nat.le_of_ble_eq_true rfl) (Nat.le_of_ble_eq_true rfl) (by show C + 1 ≤ 24; omega) (by show T + own_grow L (own_wi y + 1) ≤ 6592; omega) ?_
        rintro _ h69 ⟨v0, rfl, M0, hv0⟩ g70
        generalize hL0 : own_len L (own_wi y + 1) = M0L at *
        have E_0 := M0.exa
        show OwnKit.Go κ h69 (C + 1) (T + own_grow L (own_wi y + 1)) 59 #[.val (.int n), .val (.int a), .val (.int b), .val (.int c), .val (.int k), .val (.int x), .val (.int y), .val (.int z), .val (.ref ns), .unset, .unset, .unset, .unset, .unset, .unset] [.int v0]
        refine OwnKit.pop K at_59 rfl ?_
        show OwnKit.Go κ h69 (C + 1) (T + own_grow L (own_wi y + 1)) 60 #[.val (.int n), .val (.int a), .val (.int b), .val (.int c), .val (.int k), .val (.int x), .val (.int y), .val (.int z), .val (.ref ns), .unset, .unset, .unset, .unset, .unset, .unset] []
        exact J60 h69 (C + 1) (T + own_grow L (own_wi y + 1)) M0L k x y z ns (own_add xs y) (by omega) (by omega) (by omega) hx hy hz (by have := own_addLen xs y; omega) (by exact M0)
    have J32 : ∀ (h : Heap) (C T L : Nat) (k x y z : Int32) (ns : Addr) (xs : List Int32), C ≤ 5 → T ≤ 23 + 2 * L → L ≤ 2048 → own_ok x → own_ok y → own_ok z → xs.length ≤ 0 → NSE Z h n0 ns xs L → OwnKit.Go κ h C T 32 #[.val (.int n), .val (.int a), .val (.int b), .val (.int c), .val (.int k), .val (.int x), .val (.int y), .val (.int z), .val (.ref ns), .unset, .unset, .unset, .unset, .unset, .unset] [] := by
      intro h C T L k x y z ns xs hC hT hL hx hy hz hlen N
      have E_ns := N.exa
      show OwnKit.Go κ h C T 32 #[.val (.int n), .val (.int a), .val (.int b), .val (.int c), .val (.int k), .val (.int x), .val (.int y), .val (.int z), .val (.ref ns), .unset, .unset, .unset, .unset, .unset, .unset] []
      refine OwnKit.iload K at_32 rfl ?_
      show OwnKit.Go κ h C T 34 #[.val (.int n), .val (.int a), .val (.int b), .val (.int c), .val (.int k), .val (.int x), .val (.int y), .val (.int z), .val (.ref ns), .unset, .unset, .unset, .unset, .unset, .unset] [.int k]
      refine OwnKit.iconst K at_34 ?_
      show OwnKit.Go κ h C T 35 #[.val (.int n), .val (.int a), .val (.int b), .val (.int c), .val (.int k), .val (.int x), .val (.int y), .val (.int z), .val (.ref ns), .unset, .unset, .unset, .unset, .unset, .unset] [.int (1 : Int32), .int k]
      refine OwnKit.icmplt K at_35 (by decide) (pc' := 46) rfl  (fun b71 => ?_) (fun b71 => ?_)
      · show OwnKit.Go κ h C T 46 #[.val (.int n), .val (.int a), .val (.int b), .val (.int c), .val (.int k), .val (.int x), .val (.int y), .val (.int z), .val (.ref ns), .unset, .unset, .unset, .unset, .unset, .unset] []
        exact J46 h C T L k x y z ns xs (by omega) hT hL hx hy hz (by omega) N
      · show OwnKit.Go κ h C T 38 #[.val (.int n), .val (.int a), .val (.int b), .val (.int c), .val (.int k), .val (.int x), .val (.int y), .val (.int z), .val (.ref ns), .unset, .unset, .unset, .unset, .unset, .unset] []
        refine OwnKit.aload K at_38 rfl rfl ?_
        show OwnKit.Go κ h C T 40 #[.val (.int n), .val (.int a), .val (.int b), .val (.int c), .val (.int k), .val (.int x), .val (.int y), .val (.int z), .val (.ref ns), .unset, .unset, .unset, .unset, .unset, .unset] [.ref ns]
        refine OwnKit.iload K at_40 rfl ?_
        show OwnKit.Go κ h C T 42 #[.val (.int n), .val (.int a), .val (.int b), .val (.int c), .val (.int k), .val (.int x), .val (.int y), .val (.int z), .val (.ref ns), .unset, .unset, .unset, .unset, .unset, .unset] [.int x, .ref ns]
        have PP0 := own_pay L (own_wi x + 1)
        have QQ0 := own_lenB2 (L := L) (by omega) (own_wiB2 hx.1 hx.2)
        refine OwnKit.invV (y := (⟨"com/example/greasan/greasan/reasoner/NodeSet", "add", "(I)Z"⟩ : MethodName)) (z := (⟨"com/example/greasan/greasan/reasoner/NodeSet", "add", "(I)Z"⟩ : MethodName)) (argsL := [.int x]) (rest := []) K (c_add l Z a0 hw n0 h ns xs L x  hx.1 (by have := hx.2; omega) (by omega) N S__assertionsDisabled) at_42 E_ns (hw _ (List.mem_of_getElem? (i := 49) rfl)) (hw _ (List.mem_of_getElem? (i := 50) rfl)) (OwnKit.nfS (hw _ (List.mem_of_getElem? (i := 52) rfl))) (hw _ (List.mem_of_getElem? (i := 52) rfl)) (hw _ (List.mem_of_getElem? (i := 51) rfl)) (hw _ (List.mem_of_getElem? (i := 53) rfl)) (hw _ (List.mem_of_getElem? (i := 3) rfl)) (by decide) (lenOf (by decide +kernel : parseMethodDescriptor "(I)Z" = some ⟨[.int], some .boolean⟩) rfl) rfl rfl (W := 0) (Nat.le_of_ble_eq_true rfl) (Nat.le_of_ble_eq_true rfl) (Nat.le_of_ble_eq_true rfl) (by show C + 1 ≤ 24; omega) (by show T + own_grow L (own_wi x + 1) ≤ 6592; omega) ?_
        rintro _ h72 ⟨v0, rfl, M0, hv0⟩ g73
        generalize hL0 : own_len L (own_wi x + 1) = M0L at *
        have E_0 := M0.exa
        show OwnKit.Go κ h72 (C + 1) (T + own_grow L (own_wi x + 1)) 45 #[.val (.int n), .val (.int a), .val (.int b), .val (.int c), .val (.int k), .val (.int x), .val (.int y), .val (.int z), .val (.ref ns), .unset, .unset, .unset, .unset, .unset, .unset] [.int v0]
        refine OwnKit.pop K at_45 rfl ?_
        show OwnKit.Go κ h72 (C + 1) (T + own_grow L (own_wi x + 1)) 46 #[.val (.int n), .val (.int a), .val (.int b), .val (.int c), .val (.int k), .val (.int x), .val (.int y), .val (.int z), .val (.ref ns), .unset, .unset, .unset, .unset, .unset, .unset] []
        exact J46 h72 (C + 1) (T + own_grow L (own_wi x + 1)) M0L k x y z ns (own_add xs x) (by omega) (by omega) (by omega) hx hy hz (by have := own_addLen xs x; omega) (by exact M0)
    show OwnKit.Go κ h0 0 0 0 #[.val (.int n), .val (.int a), .val (.int b), .val (.int c), .unset, .unset, .unset, .unset, .unset, .unset, .unset, .unset, .unset, .unset, .unset] []
    refine OwnKit.iloadN K at_0 rfl ?_
    show OwnKit.Go κ h0 0 0 1 #[.val (.int n), .val (.int a), .val (.int b), .val (.int c), .unset, .unset, .unset, .unset, .unset, .unset, .unset, .unset, .unset, .unset, .unset] [.int n]
    refine OwnKit.iconst K at_1 ?_
    show OwnKit.Go κ h0 0 0 2 #[.val (.int n), .val (.int a), .val (.int b), .val (.int c), .unset, .unset, .unset, .unset, .unset, .unset, .unset, .unset, .unset, .unset, .unset] [.int (3 : Int32), .int n]
    refine OwnKit.iand K at_2 ?_
    show OwnKit.Go κ h0 0 0 3 #[.val (.int n), .val (.int a), .val (.int b), .val (.int c), .unset, .unset, .unset, .unset, .unset, .unset, .unset, .unset, .unset, .unset, .unset] [.int (n &&& (3 : Int32))]
    refine OwnKit.istore K at_3 (l' := #[.val (.int n), .val (.int a), .val (.int b), .val (.int c), .val (.int (n &&& (3 : Int32))), .unset, .unset, .unset, .unset, .unset, .unset, .unset, .unset, .unset, .unset]) rfl ?_
    show OwnKit.Go κ h0 0 0 5 #[.val (.int n), .val (.int a), .val (.int b), .val (.int c), .val (.int (n &&& (3 : Int32))), .unset, .unset, .unset, .unset, .unset, .unset, .unset, .unset, .unset, .unset] []
    refine OwnKit.iloadN K at_5 rfl ?_
    show OwnKit.Go κ h0 0 0 6 #[.val (.int n), .val (.int a), .val (.int b), .val (.int c), .val (.int (n &&& (3 : Int32))), .unset, .unset, .unset, .unset, .unset, .unset, .unset, .unset, .unset, .unset] [.int a]
    refine OwnKit.ldcI K at_6 (hw _ (List.mem_of_getElem? (i := 0) rfl)) ?_
    show OwnKit.Go κ h0 0 0 8 #[.val (.int n), .val (.int a), .val (.int b), .val (.int c), .val (.int (n &&& (3 : Int32))), .unset, .unset, .unset, .unset, .unset, .unset, .unset, .unset, .unset, .unset] [.int (65535 : Int32), .int a]
    refine OwnKit.iand K at_8 ?_
    show OwnKit.Go κ h0 0 0 9 #[.val (.int n), .val (.int a), .val (.int b), .val (.int c), .val (.int (n &&& (3 : Int32))), .unset, .unset, .unset, .unset, .unset, .unset, .unset, .unset, .unset, .unset] [.int (a &&& (65535 : Int32))]
    refine OwnKit.istore K at_9 (l' := #[.val (.int n), .val (.int a), .val (.int b), .val (.int c), .val (.int (n &&& (3 : Int32))), .val (.int (a &&& (65535 : Int32))), .unset, .unset, .unset, .unset, .unset, .unset, .unset, .unset, .unset]) rfl ?_
    show OwnKit.Go κ h0 0 0 11 #[.val (.int n), .val (.int a), .val (.int b), .val (.int c), .val (.int (n &&& (3 : Int32))), .val (.int (a &&& (65535 : Int32))), .unset, .unset, .unset, .unset, .unset, .unset, .unset, .unset, .unset] []
    refine OwnKit.iloadN K at_11 rfl ?_
    show OwnKit.Go κ h0 0 0 12 #[.val (.int n), .val (.int a), .val (.int b), .val (.int c), .val (.int (n &&& (3 : Int32))), .val (.int (a &&& (65535 : Int32))), .unset, .unset, .unset, .unset, .unset, .unset, .unset, .unset, .unset] [.int b]
    refine OwnKit.ldcI K at_12 (hw _ (List.mem_of_getElem? (i := 0) rfl)) ?_
    show OwnKit.Go κ h0 0 0 14 #[.val (.int n), .val (.int a), .val (.int b), .val (.int c), .val (.int (n &&& (3 : Int32))), .val (.int (a &&& (65535 : Int32))), .unset, .unset, .unset, .unset, .unset, .unset, .unset, .unset, .unset] [.int (65535 : Int32), .int b]
    refine OwnKit.iand K at_14 ?_
    show OwnKit.Go κ h0 0 0 15 #[.val (.int n), .val (.int a), .val (.int b), .val (.int c), .val (.int (n &&& (3 : Int32))), .val (.int (a &&& (65535 : Int32))), .unset, .unset, .unset, .unset, .unset, .unset, .unset, .unset, .unset] [.int (b &&& (65535 : Int32))]
    refine OwnKit.istore K at_15 (l' := #[.val (.int n), .val (.int a), .val (.int b), .val (.int c), .val (.int (n &&& (3 : Int32))), .val (.int (a &&& (65535 : Int32))), .val (.int (b &&& (65535 : Int32))), .unset, .unset, .unset, .unset, .unset, .unset, .unset, .unset]) rfl ?_
    show OwnKit.Go κ h0 0 0 17 #[.val (.int n), .val (.int a), .val (.int b), .val (.int c), .val (.int (n &&& (3 : Int32))), .val (.int (a &&& (65535 : Int32))), .val (.int (b &&& (65535 : Int32))), .unset, .unset, .unset, .unset, .unset, .unset, .unset, .unset] []
    refine OwnKit.iloadN K at_17 rfl ?_
    show OwnKit.Go κ h0 0 0 18 #[.val (.int n), .val (.int a), .val (.int b), .val (.int c), .val (.int (n &&& (3 : Int32))), .val (.int (a &&& (65535 : Int32))), .val (.int (b &&& (65535 : Int32))), .unset, .unset, .unset, .unset, .unset, .unset, .unset, .unset] [.int c]
    refine OwnKit.ldcI K at_18 (hw _ (List.mem_of_getElem? (i := 0) rfl)) ?_
    show OwnKit.Go κ h0 0 0 20 #[.val (.int n), .val (.int a), .val (.int b), .val (.int c), .val (.int (n &&& (3 : Int32))), .val (.int (a &&& (65535 : Int32))), .val (.int (b &&& (65535 : Int32))), .unset, .unset, .unset, .unset, .unset, .unset, .unset, .unset] [.int (65535 : Int32), .int c]
    refine OwnKit.iand K at_20 ?_
    show OwnKit.Go κ h0 0 0 21 #[.val (.int n), .val (.int a), .val (.int b), .val (.int c), .val (.int (n &&& (3 : Int32))), .val (.int (a &&& (65535 : Int32))), .val (.int (b &&& (65535 : Int32))), .unset, .unset, .unset, .unset, .unset, .unset, .unset, .unset] [.int (c &&& (65535 : Int32))]
    refine OwnKit.istore K at_21 (l' := #[.val (.int n), .val (.int a), .val (.int b), .val (.int c), .val (.int (n &&& (3 : Int32))), .val (.int (a &&& (65535 : Int32))), .val (.int (b &&& (65535 : Int32))), .val (.int (c &&& (65535 : Int32))), .unset, .unset, .unset, .unset, .unset, .unset, .unset]) rfl ?_
    show OwnKit.Go κ h0 0 0 23 #[.val (.int n), .val (.int a), .val (.int b), .val (.int c), .val (.int (n &&& (3 : Int32))), .val (.int (a &&& (65535 : Int32))), .val (.int (b &&& (65535 : Int32))), .val (.int (c &&& (65535 : Int32))), .unset, .unset, .unset, .unset, .unset, .unset, .unset] []
    refine OwnKit.newObj K at_23 (hw _ (List.mem_of_getElem? (i := 1) rfl)) (hw _ (List.mem_of_getElem? (i := 2) rfl)) (hw _ (List.mem_of_getElem? (i := 3) rfl)) (Nat.le_of_ble_eq_true rfl) (Nat.le_of_ble_eq_true rfl) ?_
    intro h74 a75 g76 G77 Ex78 E79 D80 U81
    have F82 : Fld Z h74 a75 "com/example/greasan/greasan/reasoner/NodeSet" "held" "Ljava/util/BitSet;" (.null) := D80 (Or.inr (hw _ (List.mem_of_getElem? (i := 33) rfl))) (show parseFieldDescriptor "Ljava/util/BitSet;" = some ((.object "java/util/BitSet")) from by decide +kernel)
    have F83 : Fld Z h74 a75 "com/example/greasan/greasan/reasoner/NodeSet" "added" "[I" (.null) := D80 (Or.inl (hw _ (List.mem_of_getElem? (i := 36) rfl))) (show parseFieldDescriptor "[I" = some ((.array .int)) from by decide +kernel)
    have F84 : Fld Z h74 a75 "com/example/greasan/greasan/reasoner/NodeSet" "size" "I" (.int (0 : Int32)) := D80 (Or.inl (hw _ (List.mem_of_getElem? (i := 43) rfl))) (show parseFieldDescriptor "I" = some (.int) from by decide +kernel)
    show OwnKit.Go κ h74 1 3 26 #[.val (.int n), .val (.int a), .val (.int b), .val (.int c), .val (.int (n &&& (3 : Int32))), .val (.int (a &&& (65535 : Int32))), .val (.int (b &&& (65535 : Int32))), .val (.int (c &&& (65535 : Int32))), .unset, .unset, .unset, .unset, .unset, .unset, .unset] [.ref a75]
    refine OwnKit.dup K at_26 rfl ?_
    show OwnKit.Go κ h74 1 3 27 #[.val (.int n), .val (.int a), .val (.int b), .val (.int c), .val (.int (n &&& (3 : Int32))), .val (.int (a &&& (65535 : Int32))), .val (.int (b &&& (65535 : Int32))), .val (.int (c &&& (65535 : Int32))), .unset, .unset, .unset, .unset, .unset, .unset, .unset] [.ref a75, .ref a75]
    refine OwnKit.invC (y := (⟨"com/example/greasan/greasan/reasoner/NodeSet", "<init>", "()V"⟩ : MethodName)) (argsL := []) (rest := [.ref a75]) K (c_ns0 l Z a0 hw n0 h74 a75 E79 G77 F82 F83 F84) at_27 rfl (hw _ (List.mem_of_getElem? (i := 4) rfl)) (hw _ (List.mem_of_getElem? (i := 5) rfl)) (hw _ (List.mem_of_getElem? (i := 6) rfl)) (hw _ (List.mem_of_getElem? (i := 3) rfl)) (by decide) (lenOf (by decide +kernel : parseMethodDescriptor "()V" = some ⟨[], none⟩) rfl) rfl rfl (W := 1) (Nat.le_of_ble_eq_true rfl) (Nat.le_of_ble_eq_true rfl) (Nat.le_of_ble_eq_true rfl) (Nat.le_of_ble_eq_true rfl) (Nat.le_of_ble_eq_true rfl) ?_
    rintro _ h85 ⟨rfl, N0⟩ g86
    show OwnKit.Go κ h85 4 23 30 #[.val (.int n), .val (.int a), .val (.int b), .val (.int c), .val (.int (n &&& (3 : Int32))), .val (.int (a &&& (65535 : Int32))), .val (.int (b &&& (65535 : Int32))), .val (.int (c &&& (65535 : Int32))), .unset, .unset, .unset, .unset, .unset, .unset, .unset] [.ref a75]
    refine OwnKit.astore K at_30 rfl (l' := #[.val (.int n), .val (.int a), .val (.int b), .val (.int c), .val (.int (n &&& (3 : Int32))), .val (.int (a &&& (65535 : Int32))), .val (.int (b &&& (65535 : Int32))), .val (.int (c &&& (65535 : Int32))), .val (.ref a75), .unset, .unset, .unset, .unset, .unset, .unset]) rfl ?_
    show OwnKit.Go κ h85 4 23 32 #[.val (.int n), .val (.int a), .val (.int b), .val (.int c), .val (.int (n &&& (3 : Int32))), .val (.int (a &&& (65535 : Int32))), .val (.int (b &&& (65535 : Int32))), .val (.int (c &&& (65535 : Int32))), .val (.ref a75), .unset, .unset, .unset, .unset, .unset, .unset] []
    exact J32 h85 4 23 1 _ _ _ _ _ [] (by decide) (by decide) (by decide) (own_okM _) (own_okM _) (own_okM _) (by decide) N0
  · intro m; first | rfl | (simp [entryFrame, mkF, argsToLocals, Value.category, maxLocals]; done)

set_option maxRecDepth 65536 in
set_option maxHeartbeats 40000000 in
theorem comes_1 {Post : Tables → Env → Array Value → State → Outcome → State → Prop} (hpost : ∀ tb e args s v u, (limb_1_1.after args s (.returned v) u = true ∧ limb_1_2.after args s (.returned v) u = true ∧ True) → FrameEnd s (.returned v) u (Jvm.fieldLocs frame_1_writes args s ++ Jvm.arrayLocs frame_1_arrays args s ++ Jvm.staticLocs frame_1_statics s) 24 6592 → Post tb e args s (.returned v) u) :
    ArmFor flags0 classFile x code maxLocals ret World_1 tables_1 room_1 Calls_1 rest_1 Pre_1 Post := by
  intro l hfl _ _ p e ha hc hk s m args below hf hA hF happ hP
  obtain ⟨hcalls, hrest, hpre⟩ := hP
  obtain ⟨-, -, -, hnamed, -, -, -, hat⟩ := (Spec.applies_iff hf).mp happ
  obtain ⟨hg, hn⟩ := and_e (Cond.before_iff.mp (show (Jvm.Cond.and given_1 narrow_1).before args s = true from hpre))
  obtain ⟨hg0, hg1⟩ := and_e hg
  obtain ⟨hk1, hg2⟩ := and_e hg1
  obtain ⟨hk2, hg3⟩ := and_e hg2
  obtain ⟨hk3, hg4⟩ := and_e hg3
  obtain ⟨w0, w1, w2, w3, rfl⟩ : ∃ w0 w1 w2 w3 : Value, args = #[w0, w1, w2, w3] := by
    have hs : args.size = 4 := by simpa [Cond.value, given_1] using hg0
    obtain ⟨L⟩ := args
    match L, hs with
    | [w0, w1, w2, w3], _ => exact ⟨w0, w1, w2, w3, rfl⟩
  have hw := fun d (hd : d ∈ tables_1) => atoms_spec (ws := Jvm.Cond.code x code maxLocals ret :: tables_1) hat d (List.mem_cons_of_mem _ hd)
  obtain ⟨hsets, hown0⟩ := atoms_of _ (rest_1_c_eq ▸ (show rest_1_c.before _ s = true from hrest))
  have hfit : Fit s := fun {y c} hc i hi => by
    obtain ⟨ha, rfl⟩ := Array.getElem?_eq_some_iff.mp hc
    have q := List.all_eq_true.mp ((Array.all_eq_true_iff_forall_mem.mp hF) _ (Array.getElem_mem ha)) i (List.mem_range.mpr hi)
    simpa [Array.getElem?_eq_getElem hi] using q
  obtain ⟨p0, ep0⟩ := is_v hk1
  obtain rfl : w0 = (.int p0) := Option.some.inj ep0
  obtain ⟨p1, ep1⟩ := is_v hk2
  obtain rfl : w1 = (.int p1) := Option.some.inj ep1
  obtain ⟨p2, ep2⟩ := is_v hk3
  obtain rfl : w2 = (.int p2) := Option.some.inj ep2
  obtain ⟨p3, ep3⟩ := is_v hg4
  obtain rfl : w3 = (.int p3) := Option.some.inj ep3
  have ev__assertionsDisabled := OwnKit.staI (Cond.before_iff.mp (hsets _ (List.mem_of_getElem? (i := 2) rfl)))
  have S__assertionsDisabled := Sta.start ev__assertionsDisabled (Or.inl (hsets _ (List.mem_of_getElem? (i := 1) rfl)))
  obtain ⟨n, o, h1, h2, h3, v, L, rfl, ⟨q1, N, -, -⟩, hq⟩ := (c_law l s _ hw _ s.heap p0 p1 p2 p3  S__assertionsDisabled) (Old.start s) tables_1 p e ha hc hk s m _ below hf ((Spec.applies_iff_loose hf).mp happ).1 ⟨rfl, State.Warmed39.refl s, rfl⟩ trivial
  obtain rfl : v = some (.int 1) := q1
  refine ⟨n, _, h1, h2, h3, hpost _ _ _ _ _ _ ⟨Cond.after_iff.mpr rfl, Cond.after_iff.mpr (eq_i res_at (Term.int_eval (1)) rfl), trivial⟩ ⟨(hq.1 rfl).1, (hq.1 rfl).2.1, ((hq.1 rfl).2.2.sift fun y hy => Or.inr (N y hy)).mono (by decide) (by decide)⟩⟩
theorem main_1_1 : Claimed_1_1 := comes_1 fun _ _ _ _ _ _ h hF => ⟨h.1, hF⟩
theorem main_1_2 : Claimed_1_2 := comes_1 fun _ _ _ _ _ _ h hF => ⟨h.2.1, hF⟩
end Jvm.Pilot.@@N@@
namespace Jvm.Pilot.@@N@@
open Jvm Jvm.ClassFile Sem Op Lib Jvm.Free Jvm.Stand Jvm.Pilot.@@N@@.Jvm.D
/-! MADE BY PROGRAM (witnessworld.py) out of the Statement's table words and the real class files: 15 classes; the members and pool entries that the words name. The judged class is class 1, her method 1. -/
namespace start1
open Jvm.ClassFile
def u (s : String) : CpInfo := .utf8 (stringToUtf16 s)
/-- a pool by its gaps: so many unusable entries, then the entry; so many at the end -/
def gap : Nat → List CpInfo → List CpInfo
  | 0, r => r
  | n + 1, r => .unusable :: gap n r
def poolList (es : List (Nat × CpInfo)) (last : Nat) : List CpInfo := es.foldr (fun e r => gap e.1 (e.2 :: r)) (gap last [])
def pool (es : List (Nat × CpInfo)) (last : Nat) : Array CpInfo := ⟨poolList es last⟩
def fileOf (pool : Array CpInfo) (this : Nat) (attrs : Array Attribute := #[]) (ms : Array MethodInfo := #[]) (fl : Nat := 33) (sup : Nat := 0) (ifs : Array Nat := #[]) (fds : Array FieldInfo := #[]) : ClassFile where
  minorVersion := 0
  majorVersion := 65
  constantPool := pool
  accessFlags := fl
  thisClass := this
  superClass := sup
  interfaces := ifs
  fields := fds
  methods := ms
  attributes := attrs
def plain (name : String) (sup : Option ClassId) : Class where
  name := name
  kind := .ordinary
  loader := none
  accessFlags := 33
  super := sup
  interfaces := #[]
  cf := none
  fields := #[]
  methods := #[]
  instanceTypes := #[]
  staticTypes := #[]
  resolved := #[]
  callSites := []
  init := .initialized
  statics := none
  mirror := none

def pool0 : Array CpInfo := pool [(5, u "<init>"), (0, u "()V"), (1, .class_ 10), (1, u "java/lang/Object")] 113

def k0c0 : Code := { maxStack := 0, maxLocals := 1, code := object_method_1_code, exceptionTable := #[], attributes := #[] }
def k0m0 : Method := { name := "<init>", desc := "()V", sig := { parameters := [], returnType := none }, accessFlags := 1, code := some k0c0 }
/-- java/lang/Object -/
def k0 : Class := { plain "java/lang/Object" none with
  accessFlags := 33
  interfaces := #[]
  cf := some (fileOf pool0 8 #[] #[{ accessFlags := 1, nameIndex := 5, descriptorIndex := 6, attributes := #[] }] 33 0 #[] #[])
  fields := #[]
  methods := #[k0m0]
  instanceTypes := #[]
  staticTypes := #[]
  resolved := Array.replicate 124 none
  statics := none }

def pool1 : Array CpInfo := pool [(2, .class_ 4), (0, .nameAndType 5 6), (0, u "java/lang/Object"), (0, u "<init>"), (0, u "()V"), (0, .integer 65535), (0, .class_ 9), (0, u "com/example/greasan/greasan/reasoner/NodeSet"), (0, .methodref 8 3), (0, .methodref 8 12), (0, .nameAndType 13 14), (0, u "add"), (0, u "(I)Z"), (0, .methodref 8 16), (0, .nameAndType 17 6), (0, u "clear"), (0, .methodref 8 19), (0, .nameAndType 20 21), (0, u "size"), (0, u "()I"), (0, .class_ 23), (0, u "com/example/greasan/greasan/reasoner/NodeSetClearPinLaw"), (2, u "law"), (0, u "(IIII)Z")] 3

def k1m0 : Method := { name := "<init>", desc := "()V", sig := { parameters := [], returnType := none }, accessFlags := 1, code := none }
def k1c1 : Code := { maxStack := 2, maxLocals := 15, code := code, exceptionTable := #[], attributes := #[] }
def k1m1 : Method := { name := "law", desc := "(IIII)Z", sig := { parameters := [.int, .int, .int, .int], returnType := some .boolean }, accessFlags := 9, code := some k1c1 }
/-- com/example/greasan/greasan/reasoner/NodeSetClearPinLaw -/
def k1 : Class := { plain "com/example/greasan/greasan/reasoner/NodeSetClearPinLaw" (some 0) with
  accessFlags := 49
  interfaces := #[]
  cf := some (fileOf pool1 22 #[] #[{ accessFlags := 1, nameIndex := 5, descriptorIndex := 6, attributes := #[] }, { accessFlags := 9, nameIndex := 26, descriptorIndex := 27, attributes := #[] }] 49 2 #[] #[])
  fields := #[]
  methods := #[k1m0, k1m1]
  instanceTypes := #[]
  staticTypes := #[]
  resolved := Array.replicate 31 none
  statics := none }

def pool2 : Array CpInfo := pool [(1, .methodref 2 3), (0, .class_ 4), (0, .nameAndType 5 6), (0, u "java/lang/Object"), (0, u "<init>"), (0, u "()V"), (0, .class_ 8), (0, u "java/util/BitSet"), (0, .methodref 7 3), (0, .fieldref 11 12), (0, .class_ 13), (0, .nameAndType 14 15), (0, u "com/example/greasan/greasan/reasoner/NodeSet"), (0, u "held"), (0, u "Ljava/util/BitSet;"), (0, .fieldref 11 17), (0, .nameAndType 18 19), (0, u "added"), (0, u "[I"), (0, .methodref 7 21), (0, .nameAndType 22 23), (0, u "get"), (0, u "(I)Z"), (0, .methodref 7 25), (0, .nameAndType 26 27), (0, u "set"), (0, u "(I)V"), (0, .fieldref 11 29), (0, .nameAndType 30 31), (0, u "size"), (0, u "I"), (6, .methodref 7 39), (0, .nameAndType 40 27), (0, u "clear"), (2, u "add"), (1, u "()I")] 3

def k2c0 : Code := { maxStack := 3, maxLocals := 1, code := prog_13_method_1_code, exceptionTable := #[], attributes := #[] }
def k2m0 : Method := { name := "<init>", desc := "()V", sig := { parameters := [], returnType := none }, accessFlags := 0, code := some k2c0 }
def k2c1 : Code := { maxStack := 5, maxLocals := 2, code := prog_13_method_2_code, exceptionTable := #[], attributes := #[] }
def k2m1 : Method := { name := "add", desc := "(I)Z", sig := { parameters := [.int], returnType := some .boolean }, accessFlags := 0, code := some k2c1 }
def k2c2 : Code := { maxStack := 1, maxLocals := 1, code := prog_13_method_3_code, exceptionTable := #[], attributes := #[] }
def k2m2 : Method := { name := "size", desc := "()I", sig := { parameters := [], returnType := some .int }, accessFlags := 0, code := some k2c2 }
def k2c3 : Code := { maxStack := 3, maxLocals := 2, code := prog_13_method_5_code, exceptionTable := #[], attributes := #[] }
def k2m3 : Method := { name := "clear", desc := "()V", sig := { parameters := [], returnType := none }, accessFlags := 0, code := some k2c3 }
/-- com/example/greasan/greasan/reasoner/NodeSet -/
def k2 : Class := { plain "com/example/greasan/greasan/reasoner/NodeSet" (some 0) with
  accessFlags := 32
  interfaces := #[]
  cf := some (fileOf pool2 11 #[] #[{ accessFlags := 0, nameIndex := 5, descriptorIndex := 6, attributes := #[] }, { accessFlags := 0, nameIndex := 43, descriptorIndex := 23, attributes := #[] }, { accessFlags := 0, nameIndex := 30, descriptorIndex := 45, attributes := #[] }, { accessFlags := 0, nameIndex := 40, descriptorIndex := 6, attributes := #[] }] 32 2 #[] #[{ accessFlags := 18, nameIndex := 14, descriptorIndex := 15, attributes := #[] }, { accessFlags := 2, nameIndex := 18, descriptorIndex := 19, attributes := #[] }, { accessFlags := 2, nameIndex := 30, descriptorIndex := 31, attributes := #[] }])
  fields := #[{ name := "held", type := (.object "java/util/BitSet"), accessFlags := 18, slot := 0, constantValue := 0 }, { name := "added", type := (.array .int), accessFlags := 2, slot := 1, constantValue := 0 }, { name := "size", type := .int, accessFlags := 2, slot := 2, constantValue := 0 }]
  methods := #[k2m0, k2m1, k2m2, k2m3]
  instanceTypes := #[(.object "java/util/BitSet"), (.array .int), .int]
  staticTypes := #[]
  resolved := Array.replicate 49 none
  statics := none }

def pool3 : Array CpInfo := pool [(1, .class_ 2), (0, u "java/lang/Cloneable"), (0, .class_ 4), (0, u "java/lang/Object")] 2

/-- java/lang/Cloneable -/
def k3 : Class := { plain "java/lang/Cloneable" (some 0) with
  accessFlags := 1537
  interfaces := #[]
  cf := some (fileOf pool3 1 #[] #[] 1537 3 #[] #[])
  fields := #[]
  methods := #[]
  instanceTypes := #[]
  staticTypes := #[]
  resolved := Array.replicate 7 none
  statics := none }

def pool4 : Array CpInfo := pool [(1, .class_ 2), (0, u "java/io/Serializable"), (0, .class_ 4), (0, u "java/lang/Object")] 2

/-- java/io/Serializable -/
def k4 : Class := { plain "java/io/Serializable" (some 0) with
  accessFlags := 1537
  interfaces := #[]
  cf := some (fileOf pool4 1 #[] #[] 1537 3 #[] #[])
  fields := #[]
  methods := #[]
  instanceTypes := #[]
  staticTypes := #[]
  resolved := Array.replicate 7 none
  statics := none }

def pool5 : Array CpInfo := pool [(1, .class_ 2), (0, u "java/util/BitSet"), (0, .fieldref 1 4), (0, .nameAndType 5 6), (0, u "$assertionsDisabled"), (0, u "Z"), (0, .fieldref 1 8), (0, .nameAndType 9 10), (0, u "wordsInUse"), (0, u "I"), (0, .fieldref 1 12), (0, .nameAndType 13 14), (0, u "words"), (0, u "[J"), (3, .nameAndType 19 20), (0, u "<init>"), (0, u "()V"), (0, .methodref 22 18), (0, .class_ 23), (0, u "java/lang/Object"), (0, .fieldref 1 25), (0, .nameAndType 26 6), (0, u "sizeIsSticky"), (0, .methodref 1 28), (0, .nameAndType 29 30), (0, u "initWords"), (0, u "(I)V"), (21, .methodref 1 53), (0, .nameAndType 54 55), (0, u "wordIndex"), (0, u "(I)I"), (0, .methodref 1 57), (0, .nameAndType 58 20), (0, u "checkInvariants"), (0, .methodref 60 61), (0, .class_ 62), (0, .nameAndType 63 64), (0, u "java/util/Arrays"), (0, u "copyOf"), (0, u "([JI)[J"), (15, u "get"), (52, .methodref 134 135), (0, .class_ 136), (0, .nameAndType 137 138), (0, u "java/lang/Math"), (0, u "max"), (0, u "(II)I"), (0, .methodref 1 140), (0, .nameAndType 141 30), (0, u "ensureCapacity"), (13, .methodref 1 156), (0, .nameAndType 157 30), (0, u "expandTo"), (0, .methodref 1 159), (0, .nameAndType 160 20), (0, u "recalculateWordsInUse"), (4, .long 18446744073709551615), (3, u "set"), (2, u "clear"), (96, .class_ 270), (0, u "java/util/BitSet$1BitSetSpliterator"), (22, u "serialPersistentFields"), (0, u "[Ljava/io/ObjectStreamField;"), (0, .class_ 296), (0, u "java/lang/Cloneable"), (0, .class_ 298), (0, u "java/io/Serializable"), (0, u "ADDRESS_BITS_PER_WORD"), (2, u "BITS_PER_WORD"), (1, u "BIT_INDEX_MASK"), (1, u "WORD_MASK"), (0, u "J"), (0, u "serialVersionUID"), (42, u "(I)Z")] 65

def k5c0 : Code := { maxStack := 2, maxLocals := 1, code := jdk_92_method_1_code, exceptionTable := #[], attributes := #[] }
def k5m0 : Method := { name := "wordIndex", desc := "(I)I", sig := { parameters := [.int], returnType := some .int }, accessFlags := 10, code := some k5c0 }
def k5c1 : Code := { maxStack := 4, maxLocals := 1, code := jdk_92_method_2_code, exceptionTable := #[], attributes := #[] }
def k5m1 : Method := { name := "checkInvariants", desc := "()V", sig := { parameters := [], returnType := none }, accessFlags := 2, code := some k5c1 }
def k5c2 : Code := { maxStack := 4, maxLocals := 2, code := jdk_92_method_3_code, exceptionTable := #[], attributes := #[] }
def k5m2 : Method := { name := "recalculateWordsInUse", desc := "()V", sig := { parameters := [], returnType := none }, accessFlags := 2, code := some k5c2 }
def k5c3 : Code := { maxStack := 2, maxLocals := 1, code := jdk_92_method_4_code, exceptionTable := #[], attributes := #[] }
def k5m3 : Method := { name := "<init>", desc := "()V", sig := { parameters := [], returnType := none }, accessFlags := 1, code := some k5c3 }
def k5c4 : Code := { maxStack := 3, maxLocals := 2, code := jdk_92_method_6_code, exceptionTable := #[], attributes := #[] }
def k5m4 : Method := { name := "initWords", desc := "(I)V", sig := { parameters := [.int], returnType := none }, accessFlags := 2, code := some k5c4 }
def k5c5 : Code := { maxStack := 3, maxLocals := 3, code := jdk_92_method_14_code, exceptionTable := #[], attributes := #[] }
def k5m5 : Method := { name := "ensureCapacity", desc := "(I)V", sig := { parameters := [.int], returnType := none }, accessFlags := 2, code := some k5c5 }
def k5c6 : Code := { maxStack := 2, maxLocals := 3, code := jdk_92_method_15_code, exceptionTable := #[], attributes := #[] }
def k5m6 : Method := { name := "expandTo", desc := "(I)V", sig := { parameters := [.int], returnType := none }, accessFlags := 2, code := some k5c6 }
def k5c7 : Code := { maxStack := 7, maxLocals := 3, code := jdk_92_method_19_code, exceptionTable := #[], attributes := #[] }
def k5m7 : Method := { name := "set", desc := "(I)V", sig := { parameters := [.int], returnType := none }, accessFlags := 1, code := some k5c7 }
def k5c8 : Code := { maxStack := 8, maxLocals := 3, code := jdk_92_method_23_code, exceptionTable := #[], attributes := #[] }
def k5m8 : Method := { name := "clear", desc := "(I)V", sig := { parameters := [.int], returnType := none }, accessFlags := 1, code := some k5c8 }
def k5c9 : Code := { maxStack := 5, maxLocals := 3, code := jdk_92_method_26_code, exceptionTable := #[], attributes := #[] }
def k5m9 : Method := { name := "get", desc := "(I)Z", sig := { parameters := [.int], returnType := some .boolean }, accessFlags := 1, code := some k5c9 }
/-- java/util/BitSet -/
def k5 : Class := { plain "java/util/BitSet" (some 0) with
  accessFlags := 33
  interfaces := #[3, 4]
  cf := some (fileOf pool5 1 #[.nestMembers #[269]] #[{ accessFlags := 10, nameIndex := 54, descriptorIndex := 55, attributes := #[] }, { accessFlags := 2, nameIndex := 58, descriptorIndex := 20, attributes := #[] }, { accessFlags := 2, nameIndex := 160, descriptorIndex := 20, attributes := #[] }, { accessFlags := 1, nameIndex := 19, descriptorIndex := 20, attributes := #[] }, { accessFlags := 2, nameIndex := 29, descriptorIndex := 30, attributes := #[] }, { accessFlags := 2, nameIndex := 141, descriptorIndex := 30, attributes := #[] }, { accessFlags := 2, nameIndex := 157, descriptorIndex := 30, attributes := #[] }, { accessFlags := 1, nameIndex := 169, descriptorIndex := 30, attributes := #[] }, { accessFlags := 1, nameIndex := 172, descriptorIndex := 30, attributes := #[] }, { accessFlags := 1, nameIndex := 80, descriptorIndex := 351, attributes := #[] }] 33 22 #[295, 297] #[{ accessFlags := 26, nameIndex := 299, descriptorIndex := 10, attributes := #[] }, { accessFlags := 26, nameIndex := 302, descriptorIndex := 10, attributes := #[] }, { accessFlags := 26, nameIndex := 304, descriptorIndex := 10, attributes := #[] }, { accessFlags := 26, nameIndex := 306, descriptorIndex := 307, attributes := #[] }, { accessFlags := 26, nameIndex := 293, descriptorIndex := 294, attributes := #[] }, { accessFlags := 2, nameIndex := 13, descriptorIndex := 14, attributes := #[] }, { accessFlags := 130, nameIndex := 9, descriptorIndex := 10, attributes := #[] }, { accessFlags := 130, nameIndex := 26, descriptorIndex := 6, attributes := #[] }, { accessFlags := 26, nameIndex := 308, descriptorIndex := 307, attributes := #[] }, { accessFlags := 4120, nameIndex := 5, descriptorIndex := 6, attributes := #[] }])
  fields := #[{ name := "ADDRESS_BITS_PER_WORD", type := .int, accessFlags := 26, slot := 0, constantValue := 0 }, { name := "BITS_PER_WORD", type := .int, accessFlags := 26, slot := 1, constantValue := 0 }, { name := "BIT_INDEX_MASK", type := .int, accessFlags := 26, slot := 2, constantValue := 0 }, { name := "WORD_MASK", type := .long, accessFlags := 26, slot := 3, constantValue := 0 }, { name := "serialPersistentFields", type := (.array (.object "java/io/ObjectStreamField")), accessFlags := 26, slot := 4, constantValue := 0 }, { name := "words", type := (.array .long), accessFlags := 2, slot := 0, constantValue := 0 }, { name := "wordsInUse", type := .int, accessFlags := 130, slot := 1, constantValue := 0 }, { name := "sizeIsSticky", type := .boolean, accessFlags := 130, slot := 2, constantValue := 0 }, { name := "serialVersionUID", type := .long, accessFlags := 26, slot := 5, constantValue := 0 }, { name := "$assertionsDisabled", type := .boolean, accessFlags := 4120, slot := 6, constantValue := 0 }]
  methods := #[k5m0, k5m1, k5m2, k5m3, k5m4, k5m5, k5m6, k5m7, k5m8, k5m9]
  instanceTypes := #[(.array .long), .int, .boolean]
  staticTypes := #[.int, .int, .int, .long, (.array (.object "java/io/ObjectStreamField")), .long, .boolean]
  resolved := Array.replicate 417 none
  statics := some 0 }

def pool6 : Array CpInfo := pool [(1, .class_ 2), (0, u "java/lang/Math"), (1, .class_ 6), (1, u "java/lang/Object"), (0, u "<init>"), (0, u "()V"), (89, .class_ 100), (1, u "java/lang/Math$RandomNumberGeneratorHolder"), (71, u "negativeZeroFloatBits"), (0, u "J"), (2, u "negativeZeroDoubleBits"), (21, u "max"), (2, u "min"), (43, u "$assertionsDisabled"), (0, u "Z"), (88, u "(II)I"), (2, u "twoToTheDoubleScaleDown"), (0, u "D"), (4, u "twoToTheDoubleScaleUp"), (9, u "E"), (3, u "PI"), (2, u "TAU"), (2, u "DEGREES_TO_RADIANS"), (0, u "RADIANS_TO_DEGREES")] 94

def k6m0 : Method := { name := "<init>", desc := "()V", sig := { parameters := [], returnType := none }, accessFlags := 2, code := none }
def k6c1 : Code := { maxStack := 2, maxLocals := 2, code := jdk_29_method_65_code, exceptionTable := #[], attributes := #[] }
def k6m1 : Method := { name := "max", desc := "(II)I", sig := { parameters := [.int, .int], returnType := some .int }, accessFlags := 9, code := some k6c1 }
def k6c2 : Code := { maxStack := 2, maxLocals := 2, code := jdk_29_method_69_code, exceptionTable := #[], attributes := #[] }
def k6m2 : Method := { name := "min", desc := "(II)I", sig := { parameters := [.int, .int], returnType := some .int }, accessFlags := 9, code := some k6c2 }
/-- java/lang/Math -/
def k6 : Class := { plain "java/lang/Math" (some 0) with
  accessFlags := 49
  interfaces := #[]
  cf := some (fileOf pool6 1 #[.nestMembers #[98]] #[{ accessFlags := 2, nameIndex := 7, descriptorIndex := 8, attributes := #[] }, { accessFlags := 9, nameIndex := 198, descriptorIndex := 335, attributes := #[] }, { accessFlags := 9, nameIndex := 201, descriptorIndex := 335, attributes := #[] }] 49 4 #[] #[{ accessFlags := 25, nameIndex := 354, descriptorIndex := 339, attributes := #[] }, { accessFlags := 25, nameIndex := 358, descriptorIndex := 339, attributes := #[] }, { accessFlags := 25, nameIndex := 361, descriptorIndex := 339, attributes := #[] }, { accessFlags := 26, nameIndex := 364, descriptorIndex := 339, attributes := #[] }, { accessFlags := 26, nameIndex := 365, descriptorIndex := 339, attributes := #[] }, { accessFlags := 26, nameIndex := 172, descriptorIndex := 173, attributes := #[] }, { accessFlags := 26, nameIndex := 176, descriptorIndex := 173, attributes := #[] }, { accessFlags := 8, nameIndex := 344, descriptorIndex := 339, attributes := #[] }, { accessFlags := 8, nameIndex := 338, descriptorIndex := 339, attributes := #[] }, { accessFlags := 4120, nameIndex := 245, descriptorIndex := 246, attributes := #[] }])
  fields := #[{ name := "E", type := .double, accessFlags := 25, slot := 0, constantValue := 0 }, { name := "PI", type := .double, accessFlags := 25, slot := 1, constantValue := 0 }, { name := "TAU", type := .double, accessFlags := 25, slot := 2, constantValue := 0 }, { name := "DEGREES_TO_RADIANS", type := .double, accessFlags := 26, slot := 3, constantValue := 0 }, { name := "RADIANS_TO_DEGREES", type := .double, accessFlags := 26, slot := 4, constantValue := 0 }, { name := "negativeZeroFloatBits", type := .long, accessFlags := 26, slot := 5, constantValue := 0 }, { name := "negativeZeroDoubleBits", type := .long, accessFlags := 26, slot := 6, constantValue := 0 }, { name := "twoToTheDoubleScaleUp", type := .double, accessFlags := 8, slot := 7, constantValue := 0 }, { name := "twoToTheDoubleScaleDown", type := .double, accessFlags := 8, slot := 8, constantValue := 0 }, { name := "$assertionsDisabled", type := .boolean, accessFlags := 4120, slot := 9, constantValue := 0 }]
  methods := #[k6m0, k6m1, k6m2]
  instanceTypes := #[]
  staticTypes := #[.double, .double, .double, .double, .double, .long, .long, .double, .double, .boolean]
  resolved := Array.replicate 460 none
  statics := none }

def pool7 : Array CpInfo := pool [(2, .class_ 4), (1, u "java/lang/Object"), (0, u "<init>"), (0, u "()V"), (7, .class_ 16), (1, u "java/util/Arrays"), (57, .class_ 76), (1, u "java/util/Arrays$NaturalOrder"), (36, .class_ 115), (1, u "java/util/Arrays$LegacyMergeSort"), (1, u "Z"), (32, .methodref 151 152), (0, .class_ 153), (0, .nameAndType 154 155), (0, u "java/lang/System"), (0, u "arraycopy"), (0, u "(Ljava/lang/Object;ILjava/lang/Object;II)V"), (146, u "copyOf"), (1, .methodref 305 306), (0, .class_ 307), (0, .nameAndType 308 309), (0, u "java/lang/Math"), (0, u "min"), (0, u "(II)I"), (65, .class_ 376), (0, u "java/util/Arrays$ArrayList"), (68, u "$assertionsDisabled"), (269, u "MIN_ARRAY_SORT_GRAN"), (0, u "I"), (2, u "INSERTIONSORT_THRESHOLD"), (152, u "([JI)[J"), (102, .class_ 976), (0, u "java/util/Arrays$ArrayItr")] 52

def k7m0 : Method := { name := "<init>", desc := "()V", sig := { parameters := [], returnType := none }, accessFlags := 2, code := none }
def k7c1 : Code := { maxStack := 6, maxLocals := 3, code := jdk_65_method_124_code, exceptionTable := #[], attributes := #[] }
def k7m1 : Method := { name := "copyOf", desc := "([JI)[J", sig := { parameters := [(.array .long), .int], returnType := some (.array .long) }, accessFlags := 9, code := some k7c1 }
/-- java/util/Arrays -/
def k7 : Class := { plain "java/util/Arrays" (some 0) with
  accessFlags := 49
  interfaces := #[]
  cf := some (fileOf pool7 14 #[.nestMembers #[975, 375, 113, 74]] #[{ accessFlags := 2, nameIndex := 5, descriptorIndex := 6, attributes := #[] }, { accessFlags := 9, nameIndex := 302, descriptorIndex := 872, attributes := #[] }] 49 2 #[] #[{ accessFlags := 26, nameIndex := 715, descriptorIndex := 716, attributes := #[] }, { accessFlags := 26, nameIndex := 719, descriptorIndex := 716, attributes := #[] }, { accessFlags := 4120, nameIndex := 445, descriptorIndex := 117, attributes := #[] }])
  fields := #[{ name := "MIN_ARRAY_SORT_GRAN", type := .int, accessFlags := 26, slot := 0, constantValue := 0 }, { name := "INSERTIONSORT_THRESHOLD", type := .int, accessFlags := 26, slot := 1, constantValue := 0 }, { name := "$assertionsDisabled", type := .boolean, accessFlags := 4120, slot := 2, constantValue := 0 }]
  methods := #[k7m0, k7m1]
  instanceTypes := #[]
  staticTypes := #[.int, .int, .boolean]
  resolved := Array.replicate 1029 none
  statics := none }

def pool8 : Array CpInfo := pool [(2, .class_ 4), (1, u "java/lang/Object"), (0, u "<init>"), (0, u "()V"), (1, .class_ 10), (1, u "java/lang/System"), (0, u "allowSecurityManager"), (0, u "I"), (16, u "cons"), (0, u "Ljava/io/Console;"), (77, .class_ 110), (1, u "java/lang/System$CallersHolder"), (43, u "initialErrStream"), (0, u "Ljava/io/PrintStream;"), (19, u "security"), (0, u "Ljava/lang/SecurityManager;"), (31, .class_ 209), (0, u "java/lang/System$1"), (7, u "props"), (0, u "Ljava/util/Properties;"), (2, u "lineSeparator"), (0, u "Ljava/lang/String;"), (96, .class_ 321), (1, u "java/lang/System$LoggerFinder"), (5, .class_ 328), (0, u "java/lang/System$Logger"), (67, u "err"), (2, u "out"), (91, u "notSupportedJnuEncoding"), (15, u "in"), (17, u "initialIn"), (0, u "Ljava/io/InputStream;"), (35, u "bootLayer"), (0, u "Ljava/lang/ModuleLayer;"), (99, .class_ 664), (0, u "java/lang/System$2"), (9, u "NEVER"), (2, u "MAYBE"), (49, u "arraycopy"), (0, u "(Ljava/lang/Object;ILjava/lang/Object;II)V"), (72, .class_ 802), (0, u "java/lang/System$Logger$Level")] 31

def k8m0 : Method := { name := "<init>", desc := "()V", sig := { parameters := [], returnType := none }, accessFlags := 2, code := none }
def k8m1 : Method := { name := "arraycopy", desc := "(Ljava/lang/Object;ILjava/lang/Object;II)V", sig := { parameters := [(.object "java/lang/Object"), .int, (.object "java/lang/Object"), .int, .int], returnType := none }, accessFlags := 265, code := none }
/-- java/lang/System -/
def k8 : Class := { plain "java/lang/System" (some 0) with
  accessFlags := 49
  interfaces := #[]
  cf := some (fileOf pool8 8 #[.nestMembers #[319, 327, 801, 108, 663, 208]] #[{ accessFlags := 2, nameIndex := 5, descriptorIndex := 6, attributes := #[] }, { accessFlags := 265, nameIndex := 727, descriptorIndex := 728, attributes := #[] }] 49 2 #[] #[{ accessFlags := 25, nameIndex := 507, descriptorIndex := 526, attributes := #[] }, { accessFlags := 25, nameIndex := 399, descriptorIndex := 155, attributes := #[] }, { accessFlags := 25, nameIndex := 396, descriptorIndex := 155, attributes := #[] }, { accessFlags := 10, nameIndex := 525, descriptorIndex := 526, attributes := #[] }, { accessFlags := 26, nameIndex := 674, descriptorIndex := 12, attributes := #[] }, { accessFlags := 26, nameIndex := 677, descriptorIndex := 12, attributes := #[] }, { accessFlags := 10, nameIndex := 11, descriptorIndex := 12, attributes := #[] }, { accessFlags := 74, nameIndex := 175, descriptorIndex := 176, attributes := #[] }, { accessFlags := 10, nameIndex := 491, descriptorIndex := 222, attributes := #[] }, { accessFlags := 74, nameIndex := 29, descriptorIndex := 30, attributes := #[] }, { accessFlags := 74, nameIndex := 154, descriptorIndex := 155, attributes := #[] }, { accessFlags := 10, nameIndex := 217, descriptorIndex := 218, attributes := #[] }, { accessFlags := 10, nameIndex := 221, descriptorIndex := 222, attributes := #[] }, { accessFlags := 8, nameIndex := 562, descriptorIndex := 563, attributes := #[] }])
  fields := #[{ name := "in", type := (.object "java/io/InputStream"), accessFlags := 25, slot := 0, constantValue := 0 }, { name := "out", type := (.object "java/io/PrintStream"), accessFlags := 25, slot := 1, constantValue := 0 }, { name := "err", type := (.object "java/io/PrintStream"), accessFlags := 25, slot := 2, constantValue := 0 }, { name := "initialIn", type := (.object "java/io/InputStream"), accessFlags := 10, slot := 3, constantValue := 0 }, { name := "NEVER", type := .int, accessFlags := 26, slot := 4, constantValue := 0 }, { name := "MAYBE", type := .int, accessFlags := 26, slot := 5, constantValue := 0 }, { name := "allowSecurityManager", type := .int, accessFlags := 10, slot := 6, constantValue := 0 }, { name := "security", type := (.object "java/lang/SecurityManager"), accessFlags := 74, slot := 7, constantValue := 0 }, { name := "notSupportedJnuEncoding", type := (.object "java/lang/String"), accessFlags := 10, slot := 8, constantValue := 0 }, { name := "cons", type := (.object "java/io/Console"), accessFlags := 74, slot := 9, constantValue := 0 }, { name := "initialErrStream", type := (.object "java/io/PrintStream"), accessFlags := 74, slot := 10, constantValue := 0 }, { name := "props", type := (.object "java/util/Properties"), accessFlags := 10, slot := 11, constantValue := 0 }, { name := "lineSeparator", type := (.object "java/lang/String"), accessFlags := 10, slot := 12, constantValue := 0 }, { name := "bootLayer", type := (.object "java/lang/ModuleLayer"), accessFlags := 8, slot := 13, constantValue := 0 }]
  methods := #[k8m0, k8m1]
  instanceTypes := #[]
  staticTypes := #[(.object "java/io/InputStream"), (.object "java/io/PrintStream"), (.object "java/io/PrintStream"), (.object "java/io/InputStream"), .int, .int, .int, (.object "java/lang/SecurityManager"), (.object "java/lang/String"), (.object "java/io/Console"), (.object "java/io/PrintStream"), (.object "java/util/Properties"), (.object "java/lang/String"), (.object "java/lang/ModuleLayer")]
  resolved := Array.replicate 834 none
  statics := none }

/-- the primitive byte -/
def k9 : Class := { plain "byte" none with kind := .primitive 'B', accessFlags := 0x411 }
/-- [B -/
def k10 : Class := { plain "[B" (some 0) with kind := .array 9 .byte, interfaces := #[3, 4], accessFlags := 1041 }

/-- the primitive int -/
def k11 : Class := { plain "int" none with kind := .primitive 'I', accessFlags := 0x411 }
/-- [I -/
def k12 : Class := { plain "[I" (some 0) with kind := .array 11 .int, interfaces := #[3, 4], accessFlags := 1041 }

/-- the primitive long -/
def k13 : Class := { plain "long" none with kind := .primitive 'J', accessFlags := 0x411 }
/-- [J -/
def k14 : Class := { plain "[J" (some 0) with kind := .array 13 .long, interfaces := #[3, 4], accessFlags := 1041 }

def heap : Heap := #[{ cls := 5, slots := #[.int 0, .int 0, .int 0, .long 0, .null, .long 0, .int 1], vm := .statics 5 }]
def classes : Array Class := #[k0, k1, k2, k3, k4, k5, k6, k7, k8, k9, k10, k11, k12, k13, k14]
def interned : List (Array UInt16 × Addr) := []
def slotsUsed : Nat := 7
def theMethod : MethodId := ⟨1, 1⟩
def args0 : Array Value := #[.int 5, .int 5, .int 5, .int 5]
def aboutOver (below : List Frame) : State where
  vm := { classes := classes, interned := interned.toArray }
  heap := heap
  slotsUsed := slotsUsed
  threads := #[{ frames := .invoking theMethod args0 :: below }]
def below0 : List Frame := [.native { method := ⟨0, 0⟩, args := #[] }]
def about1 : State := aboutOver below0
def p0 : Program := .bare "" "" ""
def e0 : Env := launch0.env 0 0 0
theorem w_frames : about1.frames = Frame.invoking theMethod args0 :: below0 := rfl
set_option maxRecDepth 65536 in
theorem w_args : argsFit about1.vm theMethod args0 = true := by decide +kernel
set_option maxRecDepth 65536 in
theorem w_heap : heapFits about1 = true := by decide +kernel
set_option maxRecDepth 65536 in
theorem w_runnable : about1.curStatus? = some .runnable := by decide +kernel
set_option maxRecDepth 65536 in
theorem w_alone : about1.alone = true := by decide +kernel
set_option maxRecDepth 65536 in
theorem w_named : about1.methodNamed? x = some theMethod := by decide +kernel
set_option maxRecDepth 65536 in
theorem w_hears : about1.hears theMethod below0 = true := by decide +kernel
set_option maxRecDepth 65536 in
theorem w_ripe : about1.ripe theMethod args0 below0 = true := by decide +kernel
theorem w_running : about1.status = .running := rfl
set_option maxRecDepth 65536 in
theorem w_room : about1.hasRoom e0.platform room_1 = true :=
  launch0.hasRoom_least _ room_1 (by decide +kernel) (by decide +kernel) (by decide +kernel) (by decide +kernel) (by decide +kernel) (by decide +kernel)
theorem allAtoms_all (ts : List Jvm.Cond) (a : Array Jvm.Value) (st : Jvm.State) : (allAtoms ts).before a st = ts.all (fun c => c.before a st) := by
  induction ts with
  | nil => rfl
  | cons c t ih =>
    show (Jvm.Cond.and c (allAtoms t)).before a st = _
    rw [Jvm.Cond.before_and, ih, List.all_cons]
def words1 : List Jvm.Cond := Jvm.Cond.code x code maxLocals ret :: tables_1
/-- a 'code' word, met by the world's own term for the bytes: nothing is compared byte by byte -/
theorem code_word {y : MethodName} {bytes : ByteArray} {mx : Nat} {rt : Option FieldType} {a : Array Value} {s : State} {m : MethodId} {meth : Method} {c : Code} (h1 : s.methodNamed? y = some m) (h2 : s.vm.method? m = some meth) (h3 : meth.code = some c) (h4 : c.code = bytes)
    (h5 : (c.maxLocals == mx && c.exceptionTable.isEmpty && decide (c.maxStack ≤ mostOperands) && decide (meth.sig.returnType = rt) && !meth.locks && decide (parseMethodDescriptor y.desc = some meth.sig)) = true) : (Jvm.Cond.code y bytes mx rt).before a s = true := by
  simp only [Bool.and_eq_true, beq_iff_eq, Bool.not_eq_true', decide_eq_true_eq] at h5
  obtain ⟨⟨⟨⟨⟨g1, g2⟩, g3⟩, g4⟩, g5⟩, g6⟩ := h5
  simp [Cond.before, Cond.holds, Cond.value, h1, h2, h3, h4, g1, g2, g3, g4, g5, g6]
def isCode : Jvm.Cond → Bool
  | .code _ _ _ _ => true
  | _ => false
theorem all_split {L : List Jvm.Cond} {P : Jvm.Cond → Bool} (h1 : L.all (fun c => isCode c || P c) = true) (h2 : ∀ c ∈ L.filter isCode, P c = true) : L.all P = true := by
  refine List.all_eq_true.mpr fun c hc => ?_
  have h := List.all_eq_true.mp h1 c hc
  rcases Bool.eq_false_or_eq_true (isCode c) with hi | hi
  · exact h2 c (List.mem_filter.mpr ⟨hc, hi⟩)
  · simpa [hi] using h
set_option maxRecDepth 65536 in
theorem w_c0 : (Jvm.Cond.code x code maxLocals ret).before args0 about1 = true := code_word (m := ⟨1, 1⟩) (meth := k1m1) (c := k1c1) (by decide +kernel) rfl rfl rfl (by decide +kernel)
set_option maxRecDepth 65536 in
theorem w_c1 : (Jvm.Cond.code ({ cls := "com/example/greasan/greasan/reasoner/NodeSet", name := "<init>", desc := "()V" } : Jvm.MethodName) prog_13_method_1_code (1 : Nat) (Option.none : Option Jvm.ClassFile.FieldType)).before args0 about1 = true := code_word (m := ⟨2, 0⟩) (meth := k2m0) (c := k2c0) (by decide +kernel) rfl rfl rfl (by decide +kernel)
set_option maxRecDepth 65536 in
theorem w_c2 : (Jvm.Cond.code ({ cls := "java/lang/Object", name := "<init>", desc := "()V" } : Jvm.MethodName) object_method_1_code (1 : Nat) (Option.none : Option Jvm.ClassFile.FieldType)).before args0 about1 = true := code_word (m := ⟨0, 0⟩) (meth := k0m0) (c := k0c0) (by decide +kernel) rfl rfl rfl (by decide +kernel)
set_option maxRecDepth 65536 in
theorem w_c3 : (Jvm.Cond.code ({ cls := "java/util/BitSet", name := "<init>", desc := "()V" } : Jvm.MethodName) jdk_92_method_4_code (1 : Nat) (Option.none : Option Jvm.ClassFile.FieldType)).before args0 about1 = true := code_word (m := ⟨5, 3⟩) (meth := k5m3) (c := k5c3) (by decide +kernel) rfl rfl rfl (by decide +kernel)
set_option maxRecDepth 65536 in
theorem w_c4 : (Jvm.Cond.code ({ cls := "java/util/BitSet", name := "initWords", desc := "(I)V" } : Jvm.MethodName) jdk_92_method_6_code (2 : Nat) (Option.none : Option Jvm.ClassFile.FieldType)).before args0 about1 = true := code_word (m := ⟨5, 4⟩) (meth := k5m4) (c := k5c4) (by decide +kernel) rfl rfl rfl (by decide +kernel)
set_option maxRecDepth 65536 in
theorem w_c5 : (Jvm.Cond.code ({ cls := "java/util/BitSet", name := "wordIndex", desc := "(I)I" } : Jvm.MethodName) jdk_92_method_1_code (1 : Nat) (Option.some Jvm.ClassFile.FieldType.int)).before args0 about1 = true := code_word (m := ⟨5, 0⟩) (meth := k5m0) (c := k5c0) (by decide +kernel) rfl rfl rfl (by decide +kernel)
set_option maxRecDepth 65536 in
theorem w_c6 : (Jvm.Cond.code ({ cls := "com/example/greasan/greasan/reasoner/NodeSet", name := "clear", desc := "()V" } : Jvm.MethodName) prog_13_method_5_code (2 : Nat) (Option.none : Option Jvm.ClassFile.FieldType)).before args0 about1 = true := code_word (m := ⟨2, 3⟩) (meth := k2m3) (c := k2c3) (by decide +kernel) rfl rfl rfl (by decide +kernel)
set_option maxRecDepth 65536 in
theorem w_c7 : (Jvm.Cond.code ({ cls := "com/example/greasan/greasan/reasoner/NodeSet", name := "size", desc := "()I" } : Jvm.MethodName) prog_13_method_3_code (1 : Nat) (Option.some Jvm.ClassFile.FieldType.int)).before args0 about1 = true := code_word (m := ⟨2, 2⟩) (meth := k2m2) (c := k2c2) (by decide +kernel) rfl rfl rfl (by decide +kernel)
set_option maxRecDepth 65536 in
theorem w_c8 : (Jvm.Cond.code ({ cls := "com/example/greasan/greasan/reasoner/NodeSet", name := "add", desc := "(I)Z" } : Jvm.MethodName) prog_13_method_2_code (2 : Nat) (Option.some Jvm.ClassFile.FieldType.boolean)).before args0 about1 = true := code_word (m := ⟨2, 1⟩) (meth := k2m1) (c := k2c1) (by decide +kernel) rfl rfl rfl (by decide +kernel)
set_option maxRecDepth 65536 in
theorem w_c9 : (Jvm.Cond.code ({ cls := "java/util/BitSet", name := "get", desc := "(I)Z" } : Jvm.MethodName) jdk_92_method_26_code (3 : Nat) (Option.some Jvm.ClassFile.FieldType.boolean)).before args0 about1 = true := code_word (m := ⟨5, 9⟩) (meth := k5m9) (c := k5c9) (by decide +kernel) rfl rfl rfl (by decide +kernel)
set_option maxRecDepth 65536 in
theorem w_c10 : (Jvm.Cond.code ({ cls := "java/util/BitSet", name := "checkInvariants", desc := "()V" } : Jvm.MethodName) jdk_92_method_2_code (1 : Nat) (Option.none : Option Jvm.ClassFile.FieldType)).before args0 about1 = true := code_word (m := ⟨5, 1⟩) (meth := k5m1) (c := k5c1) (by decide +kernel) rfl rfl rfl (by decide +kernel)
set_option maxRecDepth 65536 in
theorem w_c11 : (Jvm.Cond.code ({ cls := "java/util/BitSet", name := "set", desc := "(I)V" } : Jvm.MethodName) jdk_92_method_19_code (3 : Nat) (Option.none : Option Jvm.ClassFile.FieldType)).before args0 about1 = true := code_word (m := ⟨5, 7⟩) (meth := k5m7) (c := k5c7) (by decide +kernel) rfl rfl rfl (by decide +kernel)
set_option maxRecDepth 65536 in
theorem w_c12 : (Jvm.Cond.code ({ cls := "java/util/BitSet", name := "expandTo", desc := "(I)V" } : Jvm.MethodName) jdk_92_method_15_code (3 : Nat) (Option.none : Option Jvm.ClassFile.FieldType)).before args0 about1 = true := code_word (m := ⟨5, 6⟩) (meth := k5m6) (c := k5c6) (by decide +kernel) rfl rfl rfl (by decide +kernel)
set_option maxRecDepth 65536 in
theorem w_c13 : (Jvm.Cond.code ({ cls := "java/util/BitSet", name := "ensureCapacity", desc := "(I)V" } : Jvm.MethodName) jdk_92_method_14_code (3 : Nat) (Option.none : Option Jvm.ClassFile.FieldType)).before args0 about1 = true := code_word (m := ⟨5, 5⟩) (meth := k5m5) (c := k5c5) (by decide +kernel) rfl rfl rfl (by decide +kernel)
set_option maxRecDepth 65536 in
theorem w_c14 : (Jvm.Cond.code ({ cls := "java/lang/Math", name := "max", desc := "(II)I" } : Jvm.MethodName) jdk_29_method_65_code (2 : Nat) (Option.some Jvm.ClassFile.FieldType.int)).before args0 about1 = true := code_word (m := ⟨6, 1⟩) (meth := k6m1) (c := k6c1) (by decide +kernel) rfl rfl rfl (by decide +kernel)
set_option maxRecDepth 65536 in
theorem w_c15 : (Jvm.Cond.code ({ cls := "java/util/Arrays", name := "copyOf", desc := "([JI)[J" } : Jvm.MethodName) jdk_65_method_124_code (3 : Nat) (Option.some (Jvm.ClassFile.FieldType.array Jvm.ClassFile.FieldType.long))).before args0 about1 = true := code_word (m := ⟨7, 1⟩) (meth := k7m1) (c := k7c1) (by decide +kernel) rfl rfl rfl (by decide +kernel)
set_option maxRecDepth 65536 in
theorem w_c16 : (Jvm.Cond.code ({ cls := "java/lang/Math", name := "min", desc := "(II)I" } : Jvm.MethodName) jdk_29_method_69_code (2 : Nat) (Option.some Jvm.ClassFile.FieldType.int)).before args0 about1 = true := code_word (m := ⟨6, 2⟩) (meth := k6m2) (c := k6c2) (by decide +kernel) rfl rfl rfl (by decide +kernel)
set_option maxRecDepth 65536 in
theorem w_c17 : (Jvm.Cond.code ({ cls := "java/util/BitSet", name := "clear", desc := "(I)V" } : Jvm.MethodName) jdk_92_method_23_code (3 : Nat) (Option.none : Option Jvm.ClassFile.FieldType)).before args0 about1 = true := code_word (m := ⟨5, 8⟩) (meth := k5m8) (c := k5c8) (by decide +kernel) rfl rfl rfl (by decide +kernel)
set_option maxRecDepth 65536 in
theorem w_c18 : (Jvm.Cond.code ({ cls := "java/util/BitSet", name := "recalculateWordsInUse", desc := "()V" } : Jvm.MethodName) jdk_92_method_3_code (2 : Nat) (Option.none : Option Jvm.ClassFile.FieldType)).before args0 about1 = true := code_word (m := ⟨5, 2⟩) (meth := k5m2) (c := k5c2) (by decide +kernel) rfl rfl rfl (by decide +kernel)
def codes1 : List Jvm.Cond := [Jvm.Cond.code x code maxLocals ret, Jvm.Cond.code ({ cls := "com/example/greasan/greasan/reasoner/NodeSet", name := "<init>", desc := "()V" } : Jvm.MethodName) prog_13_method_1_code (1 : Nat) (Option.none : Option Jvm.ClassFile.FieldType), Jvm.Cond.code ({ cls := "java/lang/Object", name := "<init>", desc := "()V" } : Jvm.MethodName) object_method_1_code (1 : Nat) (Option.none : Option Jvm.ClassFile.FieldType), Jvm.Cond.code ({ cls := "java/util/BitSet", name := "<init>", desc := "()V" } : Jvm.MethodName) jdk_92_method_4_code (1 : Nat) (Option.none : Option Jvm.ClassFile.FieldType), Jvm.Cond.code ({ cls := "java/util/BitSet", name := "initWords", desc := "(I)V" } : Jvm.MethodName) jdk_92_method_6_code (2 : Nat) (Option.none : Option Jvm.ClassFile.FieldType), Jvm.Cond.code ({ cls := "java/util/BitSet", name := "wordIndex", desc := "(I)I" } : Jvm.MethodName) jdk_92_method_1_code (1 : Nat) (Option.some Jvm.ClassFile.FieldType.int), Jvm.Cond.code ({ cls := "com/example/greasan/greasan/reasoner/NodeSet", name := "clear", desc := "()V" } : Jvm.MethodName) prog_13_method_5_code (2 : Nat) (Option.none : Option Jvm.ClassFile.FieldType), Jvm.Cond.code ({ cls := "com/example/greasan/greasan/reasoner/NodeSet", name := "size", desc := "()I" } : Jvm.MethodName) prog_13_method_3_code (1 : Nat) (Option.some Jvm.ClassFile.FieldType.int), Jvm.Cond.code ({ cls := "com/example/greasan/greasan/reasoner/NodeSet", name := "add", desc := "(I)Z" } : Jvm.MethodName) prog_13_method_2_code (2 : Nat) (Option.some Jvm.ClassFile.FieldType.boolean), Jvm.Cond.code ({ cls := "java/util/BitSet", name := "get", desc := "(I)Z" } : Jvm.MethodName) jdk_92_method_26_code (3 : Nat) (Option.some Jvm.ClassFile.FieldType.boolean), Jvm.Cond.code ({ cls := "java/util/BitSet", name := "checkInvariants", desc := "()V" } : Jvm.MethodName) jdk_92_method_2_code (1 : Nat) (Option.none : Option Jvm.ClassFile.FieldType), Jvm.Cond.code ({ cls := "java/util/BitSet", name := "set", desc := "(I)V" } : Jvm.MethodName) jdk_92_method_19_code (3 : Nat) (Option.none : Option Jvm.ClassFile.FieldType), Jvm.Cond.code ({ cls := "java/util/BitSet", name := "expandTo", desc := "(I)V" } : Jvm.MethodName) jdk_92_method_15_code (3 : Nat) (Option.none : Option Jvm.ClassFile.FieldType), Jvm.Cond.code ({ cls := "java/util/BitSet", name := "ensureCapacity", desc := "(I)V" } : Jvm.MethodName) jdk_92_method_14_code (3 : Nat) (Option.none : Option Jvm.ClassFile.FieldType), Jvm.Cond.code ({ cls := "java/lang/Math", name := "max", desc := "(II)I" } : Jvm.MethodName) jdk_29_method_65_code (2 : Nat) (Option.some Jvm.ClassFile.FieldType.int), Jvm.Cond.code ({ cls := "java/util/Arrays", name := "copyOf", desc := "([JI)[J" } : Jvm.MethodName) jdk_65_method_124_code (3 : Nat) (Option.some (Jvm.ClassFile.FieldType.array Jvm.ClassFile.FieldType.long)), Jvm.Cond.code ({ cls := "java/lang/Math", name := "min", desc := "(II)I" } : Jvm.MethodName) jdk_29_method_69_code (2 : Nat) (Option.some Jvm.ClassFile.FieldType.int), Jvm.Cond.code ({ cls := "java/util/BitSet", name := "clear", desc := "(I)V" } : Jvm.MethodName) jdk_92_method_23_code (3 : Nat) (Option.none : Option Jvm.ClassFile.FieldType), Jvm.Cond.code ({ cls := "java/util/BitSet", name := "recalculateWordsInUse", desc := "()V" } : Jvm.MethodName) jdk_92_method_3_code (2 : Nat) (Option.none : Option Jvm.ClassFile.FieldType)]
set_option maxRecDepth 65536 in
theorem codes_eq : words1.filter isCode = codes1 := rfl
theorem w_codes : ∀ c ∈ words1.filter isCode, c.before args0 about1 = true := by
  rw [codes_eq]
  intro c hc
  simp only [codes1, List.mem_cons, List.not_mem_nil, or_false] at hc
  rcases hc with rfl | rfl | rfl | rfl | rfl | rfl | rfl | rfl | rfl | rfl | rfl | rfl | rfl | rfl | rfl | rfl | rfl | rfl | rfl
  · exact w_c0
  · exact w_c1
  · exact w_c2
  · exact w_c3
  · exact w_c4
  · exact w_c5
  · exact w_c6
  · exact w_c7
  · exact w_c8
  · exact w_c9
  · exact w_c10
  · exact w_c11
  · exact w_c12
  · exact w_c13
  · exact w_c14
  · exact w_c15
  · exact w_c16
  · exact w_c17
  · exact w_c18
set_option maxRecDepth 65536 in
theorem w_t1 : (words1.take 24).all (fun c => isCode c || c.before args0 about1) = true := by decide +kernel
set_option maxRecDepth 65536 in
theorem w_t2 : ((words1.drop 24).take 24).all (fun c => isCode c || c.before args0 about1) = true := by decide +kernel
set_option maxRecDepth 65536 in
theorem w_t3 : (((words1.drop 24).drop 24).take 24).all (fun c => isCode c || c.before args0 about1) = true := by decide +kernel
set_option maxRecDepth 65536 in
theorem w_t4 : ((((words1.drop 24).drop 24).drop 24).take 24).all (fun c => isCode c || c.before args0 about1) = true := by decide +kernel
set_option maxRecDepth 65536 in
theorem w_t5 : ((((words1.drop 24).drop 24).drop 24).drop 24).all (fun c => isCode c || c.before args0 about1) = true := by decide +kernel
theorem w_tables : (allAtoms (Jvm.Cond.code x code maxLocals ret :: tables_1)).before args0 about1 = true := by
  rw [allAtoms_all]
  show words1.all (fun c => c.before args0 about1) = true
  refine all_split ?_ w_codes
  rw [← List.take_append_drop 24 words1, List.all_append, w_t1, ← List.take_append_drop 24 (words1.drop 24), List.all_append, w_t2, ← List.take_append_drop 24 ((words1.drop 24).drop 24), List.all_append, w_t3, ← List.take_append_drop 24 (((words1.drop 24).drop 24).drop 24), List.all_append, w_t4, w_t5]
  rfl
set_option maxRecDepth 65536 in
theorem w_rest : rest_1_c.before args0 about1 = true := by decide +kernel
set_option maxRecDepth 65536 in
theorem w_case : (Jvm.Cond.and given_1 narrow_1).before args0 about1 = true := by decide +kernel
theorem w_applies : (headSpec (Jvm.Cond.code x code maxLocals ret :: tables_1) room_1).applies x e0.platform about1 = true :=
  (Spec.applies_iff w_frames).mpr ⟨w_running, w_runnable, w_alone, w_named, w_hears, w_ripe, w_room, w_tables⟩
theorem atStart : AtStart classFile x code maxLocals ret World_1 tables_1 room_1 Calls_1 rest_1 Pre_1 launch0 p0 e0 about1 theMethod args0 below0 :=
  ⟨lists_1, trivial, launch0.admits_env _ _ _, launch0.least_env, fairChoices_fair.cas, fairChoices_fair.clock, w_frames, w_args, w_heap, w_applies, trivial, w_rest, w_case⟩
end start1
theorem witness_1 : WitnessClaimed_1 := ⟨start1.p0, start1.e0, start1.about1, start1.theMethod, start1.args0, start1.below0, start1.atStart⟩
end Jvm.Pilot.@@N@@
