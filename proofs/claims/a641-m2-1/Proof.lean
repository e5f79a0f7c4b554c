import JvmDerived
import JvmDerived.Pilot.@@N@@Statement
import JvmDerived.Pilot.@@N@@Code
set_option linter.unusedVariables false
set_option linter.unusedSimpArgs false
namespace Jvm.OwnKit
open Sem ClassFile Op Lib Jvm.Stand Jvm.Free Jvm.LawKit Jvm.RoadKit
/-! A WALK THAT IS DIRECTED BY ITS GOAL. Cx: what one invocation holds fixed. Go κ h cells slots pc Ls st: from the place pc, with these variables and this operand stack, over the heap h, the invocation returns as κ promises. -/
abbrev Cx : Type := (Program × Launch × Env × Room × State × MethodId × Array Value × List Frame × Method × Code) × (Bool × State × Nat × (Option Value → Heap → Prop))
abbrev Cx.p (κ : Cx) : Program := κ.1.1
abbrev Cx.l (κ : Cx) : Launch := κ.1.2.1
abbrev Cx.e (κ : Cx) : Env := κ.1.2.2.1
abbrev Cx.R (κ : Cx) : Room := κ.1.2.2.2.1
abbrev Cx.s (κ : Cx) : State := κ.1.2.2.2.2.1
abbrev Cx.m (κ : Cx) : MethodId := κ.1.2.2.2.2.2.1
abbrev Cx.args (κ : Cx) : Array Value := κ.1.2.2.2.2.2.2.1
abbrev Cx.below (κ : Cx) : List Frame := κ.1.2.2.2.2.2.2.2.1
abbrev Cx.meth (κ : Cx) : Method := κ.1.2.2.2.2.2.2.2.2.1
abbrev Cx.c (κ : Cx) : Code := κ.1.2.2.2.2.2.2.2.2.2
/-- may string constants be resolved on the way? -/
abbrev Cx.wide (κ : Cx) : Bool := κ.2.1
abbrev Cx.Z (κ : Cx) : State := κ.2.2.1
abbrev Cx.n0 (κ : Cx) : Nat := κ.2.2.2.1
abbrev Cx.Q (κ : Cx) : Option Value → Heap → Prop := κ.2.2.2.2
/-- the tables over which the walk stands now -/
def Cx.adm (κ : Cx) (vm0 : Vm) (n : Nat) : Prop := (∃ k0, κ.s.Since vm0 k0 ∧ k0 ≤ n) ∧ (κ.wide = false → vm0 = κ.s.vm)
/-- how an invocation ends -/
def Ends (wide : Bool) (s : State) (o : Outcome) (t : State) (L : List Loc) (k n : Nat) : Prop := (wide = false → FrameEnd s o t L k n) ∧ ReturnedEndW s o t L k n
def Go (κ : Cx) (h : Heap) (cells slots pc : Nat) (Ls : Array Slot) (st : List Value) : Prop :=
  ∀ (T : State) (locs : List Loc) (vm0 : Vm), Stand κ.p κ.l κ.e κ.R (κ.s.setVm vm0) κ.m κ.args κ.below κ.meth κ.c T locs cells slots → κ.adm vm0 h.size → κ.Z.Warmed39 vm0 → Fr κ.n0 locs → Old κ.Z κ.n0 h → T.heap = h →
    ∃ s₂ o, Steps κ.p.tables κ.e κ.below (T.setTop (mkF κ.m pc Ls st)) s₂ ∧ s₂.status = .running ∧ Ended s₂ κ.below o ∧ ∃ v L, o = .returned v ∧ (κ.Q v s₂.heap ∧ Fr κ.n0 L ∧ κ.s.heap.size ≤ s₂.heap.size ∧ Old κ.Z κ.n0 s₂.heap) ∧ Ends κ.wide κ.s o s₂ L κ.R.cells κ.R.slots
def Ok (κ : Cx) (l : Launch) (Z : State) (n0 : Nat) (own nm : String) (bytes : ByteArray) (maxL : Nat) (ret : Option FieldType) (rm : Room) (Q : Option Value → Heap → Prop) : Prop :=
  κ.l = l ∧ κ.Z = Z ∧ κ.n0 = n0 ∧ κ.R = rm ∧ κ.p.tables.exec = Jvm.exec ∧ κ.s.vm.findClass own = some κ.m.cls ∧ κ.c.code = bytes ∧ κ.c.maxLocals = maxL ∧ κ.meth.sig.returnType = ret ∧ κ.meth.name = nm ∧ κ.meth.locks = false ∧ κ.Q = Q
/-- a callee's contract: called with these arguments over the heap h0 it returns, and Q holds of what it returns and of the heap that it leaves; what it wrote lies at or above n0 -/
def Con (wide : Bool) (l : Launch) (Z : State) (n0 : Nat) (y : MethodName) (bytes : ByteArray) (maxL : Nat) (ret : Option FieldType) (rm : Room) (as' : Array Value) (h0 : Heap) (Q : Option Value → Heap → Prop) : Prop :=
  Old Z n0 h0 → ∀ ws : List Cond, MetFree l y (head1 (Cond.code y bytes maxL ret :: ws) rm) (fun a U => a = as' ∧ Z.Warmed39 U.vm ∧ U.heap = h0) (fun _ _ _ _ _ => True)
    (fun _ U o U' => ∃ v L, o = .returned v ∧ (Q v U'.heap ∧ Fr n0 L ∧ U.heap.size ≤ U'.heap.size ∧ Old Z n0 U'.heap) ∧ Ends wide U o U' L rm.cells rm.slots)
section Laws
variable {κ : Cx} {t : FieldType} {l : Launch} {Z : State} {n0 : Nat} {own nm : String} {bytes : ByteArray} {maxL : Nat} {ret : Option FieldType} {rm : Room} {Q : Option Value → Heap → Prop} {h : Heap} {cells slots pc : Nat} {Ls : Array Slot} {st : List Value}
theorem Ok.exec (K : Ok κ l Z n0 own nm bytes maxL ret rm Q) : κ.p.tables.exec = Jvm.exec := K.2.2.2.2.1
theorem Ok.kb (K : Ok κ l Z n0 own nm bytes maxL ret rm Q) : κ.c.code = bytes := K.2.2.2.2.2.2.1
theorem Ok.kl (K : Ok κ l Z n0 own nm bytes maxL ret rm Q) : κ.c.maxLocals = maxL := K.2.2.2.2.2.2.2.1
theorem Ok.kr (K : Ok κ l Z n0 own nm bytes maxL ret rm Q) : κ.meth.sig.returnType = ret := K.2.2.2.2.2.2.2.2.1
theorem Ok.name (K : Ok κ l Z n0 own nm bytes maxL ret rm Q) : κ.meth.name = nm := K.2.2.2.2.2.2.2.2.2.1
theorem Ok.locks (K : Ok κ l Z n0 own nm bytes maxL ret rm Q) : κ.meth.locks = false := K.2.2.2.2.2.2.2.2.2.2.1
theorem Ok.eQ (K : Ok κ l Z n0 own nm bytes maxL ret rm Q) : κ.Q = Q := K.2.2.2.2.2.2.2.2.2.2.2
theorem Ok.eZ (K : Ok κ l Z n0 own nm bytes maxL ret rm Q) : κ.Z = Z := K.2.1
theorem Ok.en (K : Ok κ l Z n0 own nm bytes maxL ret rm Q) : κ.n0 = n0 := K.2.2.1
theorem Ok.eR (K : Ok κ l Z n0 own nm bytes maxL ret rm Q) : κ.R = rm := K.2.2.2.1
theorem Ok.el (K : Ok κ l Z n0 own nm bytes maxL ret rm Q) : κ.l = l := K.1
theorem Ok.ko (K : Ok κ l Z n0 own nm bytes maxL ret rm Q) {vm0 : Vm} {n : Nat} (A : κ.adm vm0 n) : (κ.s.setVm vm0).vm.findClass own = some κ.m.cls := by
  obtain ⟨⟨k0, hS, -⟩, -⟩ := A
  show vm0.findClass own = _
  rw [hS.1.alike.findClass]; exact K.2.2.2.2.2.1
theorem Ok.warm (K : Ok κ l Z n0 own nm bytes maxL ret rm Q) {vm0 : Vm} (hZ : κ.Z.Warmed39 vm0) : Z.Warmed39 (κ.s.setVm vm0).vm := by rw [← K.eZ]; exact hZ
theorem Cx.adm.mono {vm0 : Vm} {n n' : Nat} (A : κ.adm vm0 n) (q : n ≤ n') : κ.adm vm0 n' := by
  obtain ⟨⟨k0, hS, hk⟩, w⟩ := A
  exact ⟨⟨k0, hS, Nat.le_trans hk q⟩, w⟩
theorem Ok.old (K : Ok κ l Z n0 own nm bytes maxL ret rm Q) (B : Old κ.Z κ.n0 h) : Old Z n0 h := by rw [← K.eZ, ← K.en]; exact B
theorem Ok.oldS (K : Ok κ l Z n0 own nm bytes maxL ret rm Q) (B : Old Z n0 h) : Old κ.Z κ.n0 h := by rw [K.eZ, K.en]; exact B
theorem low_of (B : Old Z n0 h) : n0 ≤ h.size := B.1 ▸ B.2.1
/-- what was there at the law's start is there still -/
theorem old (K : Ok κ l Z n0 own nm bytes maxL ret rm Q) (hr : Old Z n0 h → Go κ h cells slots pc Ls st) : Go κ h cells slots pc Ls st := fun T locs vm0 X A hZ N B eT =>
  hr (K.old B) T locs vm0 X A hZ N B eT
theorem more {cells' slots' : Nat} (hc : cells ≤ cells') (hs : slots ≤ slots') (hr : Go κ h cells' slots' pc Ls st) : Go κ h cells slots pc Ls st := fun T locs vm0 X A hZ N B eT =>
  hr T locs vm0 (X.mono hc hs) A hZ N B eT
theorem Ends.mono {wide : Bool} {s t : State} {o : Outcome} {L : List Loc} {k n k' n' : Nat} (E : Ends wide s o t L k n) (hk : k ≤ k') (hn : n ≤ n') : Ends wide s o t L k' n' :=
  ⟨fun w => ⟨(E.1 w).1, (E.1 w).2.1, (E.1 w).2.2.mono hk hn⟩, E.2.1, E.2.2.1, E.2.2.2.1, E.2.2.2.2.mono hk hn⟩
/-! ## the end of a walk -/
theorem out (K : Ok κ l Z n0 own nm bytes maxL ret rm Q) {v : Option Value} (hv : ret = none → v = none) (hq : Q v h) (hc : cells ≤ rm.cells) (hs : slots ≤ rm.slots)
    (st1 : ∀ (T : State) (locs : List Loc) (vm0 : Vm) (fs : List Frame), Stand κ.p κ.l κ.e κ.R (κ.s.setVm vm0) κ.m κ.args κ.below κ.meth κ.c T locs cells slots → (∀ (f : JFrame) (acts : List Action), f.method = κ.m → f.locked = none → f.entered = [] → (doReturn κ.e (T.setTop f) acts v).1 = T.setFrames fs) →
      Steps κ.p.tables κ.e κ.below (T.setTop (mkF κ.m pc Ls st)) (T.setFrames fs)) : Go κ h cells slots pc Ls st := fun T locs vm0 X A hZ N B eT => by
  obtain ⟨⟨k0, hS, hk⟩, hw⟩ := A
  have hlk := K.locks
  obtain ⟨fs, hr, hrun, hended, hW, hsame⟩ := X.leave (v := v) (fun q => hv (K.kr ▸ q))
  have hR : ReturnedEndW κ.s (.returned v) (T.setFrames fs) locs cells slots := by
    obtain ⟨a, b, c'⟩ := hS.ended (U := T.setFrames fs) hW (by show k0 ≤ T.heap.size; rw [eT]; exact hk) hsame
    exact ⟨⟨v, rfl⟩, a, b, c'⟩
  refine ⟨_, _, st1 T locs vm0 fs X hr, hrun, hended, v, locs, rfl, ⟨?_, N, hR.2.2.2.2.1, by show Old κ.Z κ.n0 T.heap; rw [eT]; exact B⟩, Ends.mono ⟨fun w => ?_, hR⟩ (by rw [K.eR]; exact hc) (by rw [K.eR]; exact hs)⟩
  · show κ.Q v T.heap
    rw [K.eQ, eT]; exact hq
  · have e0 := hw w
    subst e0
    exact ⟨⟨v, rfl⟩, hW, hsame⟩
theorem retOf (K : Ok κ l Z n0 own nm bytes maxL (some t) rm Q) {w : Value} {i : Instr} (hd : decode bytes pc = .ok (i, 1)) (hn : narrow t w = w)
    (hi : (i = .ireturn ∧ (t = .int ∨ t = .boolean ∨ t = .byte ∨ t = .char ∨ t = .short) ∧ ∃ z, w = .int z) ∨ (i = .lreturn ∧ t = .long ∧ ∃ z, w = .long z) ∨ (i = .dreturn ∧ t = .double ∧ ∃ z, w = .double z) ∨ (i = .freturn ∧ t = .float ∧ ∃ z, w = .float z) ∨ (i = .areturn ∧ t.isReference = true ∧ w.isRef = true))
    (hq : Q (some w) h) (hc : cells ≤ rm.cells) (hs : slots ≤ rm.slots) : Go κ h cells slots pc Ls (w :: st) :=
  out K (fun q => nomatch q) hq hc hs fun T locs vm0 fs X hr => retOut X K.exec K.kr hn hi (hb K.kb hd) hr
theorem ireturn (K : Ok κ l Z n0 own nm bytes maxL (some t) rm Q) {z : Int32} (hd : decode bytes pc = .ok (.ireturn, 1)) (ht : t = .int ∨ t = .boolean ∨ t = .byte ∨ t = .char ∨ t = .short) (hn : narrow t (.int z) = .int z)
    (hq : Q (some (.int z)) h) (hc : cells ≤ rm.cells) (hs : slots ≤ rm.slots) : Go κ h cells slots pc Ls (.int z :: st) := retOf K hd hn (Or.inl ⟨rfl, ht, z, rfl⟩) hq hc hs
theorem lreturn (K : Ok κ l Z n0 own nm bytes maxL (some .long) rm Q) {z : Int64} (hd : decode bytes pc = .ok (.lreturn, 1)) (hq : Q (some (.long z)) h) (hc : cells ≤ rm.cells) (hs : slots ≤ rm.slots) : Go κ h cells slots pc Ls (.long z :: st) :=
  retOf K hd rfl (Or.inr (Or.inl ⟨rfl, rfl, z, rfl⟩)) hq hc hs
theorem areturn (K : Ok κ l Z n0 own nm bytes maxL (some t) rm Q) {w : Value} (hd : decode bytes pc = .ok (.areturn, 1)) (ht : t.isReference = true) (hw : w.isRef = true) (hq : Q (some w) h) (hc : cells ≤ rm.cells) (hs : slots ≤ rm.slots) : Go κ h cells slots pc Ls (w :: st) := by
  refine retOf K hd ?_ (Or.inr (Or.inr (Or.inr (Or.inr ⟨rfl, ht, hw⟩)))) hq hc hs
  cases t <;> first | (exact Bool.noConfusion ht; done) | (rcases ref_cases hw with rfl | ⟨a, rfl⟩ <;> rfl)
theorem return0 (K : Ok κ l Z n0 own nm bytes maxL none rm Q) (hd : decode bytes pc = .ok (.return_, 1)) (hq : Q none h) (hc : cells ≤ rm.cells) (hs : slots ≤ rm.slots) : Go κ h cells slots pc Ls [] :=
  out K (fun _ => rfl) hq hc hs fun T locs vm0 fs X hr => X.returnOut K.exec K.kr (hb K.kb hd) hr

theorem iloadN {k : Fin 4} {v : Int32} (K : Ok κ l Z n0 own nm bytes maxL ret rm Q) (hd : decode bytes pc = .ok (.iload_n k, 1)) (hl : Ls[k.val]? = some (.val (.int v))) (hr : Go κ h cells slots (pc + 1) Ls ((.int v) :: st)) : Go κ h cells slots pc Ls (st) := fun T locs vm0 X A hZ N B eT => by
  obtain ⟨s₂, o, hs, r⟩ := hr T locs vm0 X A hZ N B eT
  exact ⟨s₂, o, XS.iloadN X.here K.exec rfl (hb K.kb hd) hl hs, r⟩
theorem iload {k : Nat} {v : Int32} (K : Ok κ l Z n0 own nm bytes maxL ret rm Q) (hd : decode bytes pc = .ok (.iload k, 2)) (hl : Ls[k]? = some (.val (.int v))) (hr : Go κ h cells slots (pc + 2) Ls ((.int v) :: st)) : Go κ h cells slots pc Ls (st) := fun T locs vm0 X A hZ N B eT => by
  obtain ⟨s₂, o, hs, r⟩ := hr T locs vm0 X A hZ N B eT
  exact ⟨s₂, o, XS.iload X.here K.exec rfl (hb K.kb hd) hl hs, r⟩
theorem lloadN {k : Fin 4} {v : Int64} (K : Ok κ l Z n0 own nm bytes maxL ret rm Q) (hd : decode bytes pc = .ok (.lload_n k, 1)) (hl : Ls[k.val]? = some (.val (.long v))) (hr : Go κ h cells slots (pc + 1) Ls ((.long v) :: st)) : Go κ h cells slots pc Ls (st) := fun T locs vm0 X A hZ N B eT => by
  obtain ⟨s₂, o, hs, r⟩ := hr T locs vm0 X A hZ N B eT
  exact ⟨s₂, o, XT.lloadN X.here K.exec rfl (hb K.kb hd) hl hs, r⟩
theorem lload {k : Nat} {v : Int64} (K : Ok κ l Z n0 own nm bytes maxL ret rm Q) (hd : decode bytes pc = .ok (.lload k, 2)) (hl : Ls[k]? = some (.val (.long v))) (hr : Go κ h cells slots (pc + 2) Ls ((.long v) :: st)) : Go κ h cells slots pc Ls (st) := fun T locs vm0 X A hZ N B eT => by
  obtain ⟨s₂, o, hs, r⟩ := hr T locs vm0 X A hZ N B eT
  exact ⟨s₂, o, XT.lload X.here K.exec rfl (hb K.kb hd) hl hs, r⟩
theorem aloadN {k : Fin 4} {v : Value} (K : Ok κ l Z n0 own nm bytes maxL ret rm Q) (hd : decode bytes pc = .ok (.aload_n k, 1)) (hl : Ls[k.val]? = some (.val v)) (hv : v.isRef = true) (hr : Go κ h cells slots (pc + 1) Ls (v :: st)) : Go κ h cells slots pc Ls (st) := fun T locs vm0 X A hZ N B eT => by
  obtain ⟨s₂, o, hs, r⟩ := hr T locs vm0 X A hZ N B eT
  exact ⟨s₂, o, XS.aloadN X.here K.exec rfl (hb K.kb hd) hl hv hs, r⟩
theorem aload {k : Nat} {v : Value} (K : Ok κ l Z n0 own nm bytes maxL ret rm Q) (hd : decode bytes pc = .ok (.aload k, 2)) (hl : Ls[k]? = some (.val v)) (hv : v.isRef = true) (hr : Go κ h cells slots (pc + 2) Ls (v :: st)) : Go κ h cells slots pc Ls (st) := fun T locs vm0 X A hZ N B eT => by
  obtain ⟨s₂, o, hs, r⟩ := hr T locs vm0 X A hZ N B eT
  exact ⟨s₂, o, XS.aload X.here K.exec rfl (hb K.kb hd) hl hv hs, r⟩
theorem istoreN {k : Fin 4} {x : Int32} {l' : Array Slot} (K : Ok κ l Z n0 own nm bytes maxL ret rm Q) (hd : decode bytes pc = .ok (.istore_n k, 1)) (hl : storeLocals Ls k.val (.int x) = some l') (hr : Go κ h cells slots (pc + 1) l' (st)) : Go κ h cells slots pc Ls ((.int x) :: st) := fun T locs vm0 X A hZ N B eT => by
  obtain ⟨s₂, o, hs, r⟩ := hr T locs vm0 X A hZ N B eT
  exact ⟨s₂, o, XS.istoreN X.here K.exec rfl (hb K.kb hd) rfl hl hs, r⟩
theorem istore {k : Nat} {x : Int32} {l' : Array Slot} (K : Ok κ l Z n0 own nm bytes maxL ret rm Q) (hd : decode bytes pc = .ok (.istore k, 2)) (hl : storeLocals Ls k (.int x) = some l') (hr : Go κ h cells slots (pc + 2) l' (st)) : Go κ h cells slots pc Ls ((.int x) :: st) := fun T locs vm0 X A hZ N B eT => by
  obtain ⟨s₂, o, hs, r⟩ := hr T locs vm0 X A hZ N B eT
  exact ⟨s₂, o, XS.istore X.here K.exec rfl (hb K.kb hd) rfl hl hs, r⟩
theorem lstoreN {k : Fin 4} {x : Int64} {l' : Array Slot} (K : Ok κ l Z n0 own nm bytes maxL ret rm Q) (hd : decode bytes pc = .ok (.lstore_n k, 1)) (hl : storeLocals Ls k.val (.long x) = some l') (hr : Go κ h cells slots (pc + 1) l' (st)) : Go κ h cells slots pc Ls ((.long x) :: st) := fun T locs vm0 X A hZ N B eT => by
  obtain ⟨s₂, o, hs, r⟩ := hr T locs vm0 X A hZ N B eT
  exact ⟨s₂, o, XT.lstoreN X.here K.exec rfl (hb K.kb hd) rfl hl hs, r⟩
theorem lstore {k : Nat} {x : Int64} {l' : Array Slot} (K : Ok κ l Z n0 own nm bytes maxL ret rm Q) (hd : decode bytes pc = .ok (.lstore k, 2)) (hl : storeLocals Ls k (.long x) = some l') (hr : Go κ h cells slots (pc + 2) l' (st)) : Go κ h cells slots pc Ls ((.long x) :: st) := fun T locs vm0 X A hZ N B eT => by
  obtain ⟨s₂, o, hs, r⟩ := hr T locs vm0 X A hZ N B eT
  exact ⟨s₂, o, XT.lstore X.here K.exec rfl (hb K.kb hd) rfl hl hs, r⟩
theorem astoreN {k : Fin 4} {x : Value} {l' : Array Slot} (K : Ok κ l Z n0 own nm bytes maxL ret rm Q) (hd : decode bytes pc = .ok (.astore_n k, 1)) (hv : x.isRef = true) (hl : storeLocals Ls k.val x = some l') (hr : Go κ h cells slots (pc + 1) l' (st)) : Go κ h cells slots pc Ls (x :: st) := fun T locs vm0 X A hZ N B eT => by
  obtain ⟨s₂, o, hs, r⟩ := hr T locs vm0 X A hZ N B eT
  exact ⟨s₂, o, XS.astoreN X.here K.exec rfl (hb K.kb hd) rfl hv hl hs, r⟩
theorem astore {k : Nat} {x : Value} {l' : Array Slot} (K : Ok κ l Z n0 own nm bytes maxL ret rm Q) (hd : decode bytes pc = .ok (.astore k, 2)) (hv : x.isRef = true) (hl : storeLocals Ls k x = some l') (hr : Go κ h cells slots (pc + 2) l' (st)) : Go κ h cells slots pc Ls (x :: st) := fun T locs vm0 X A hZ N B eT => by
  obtain ⟨s₂, o, hs, r⟩ := hr T locs vm0 X A hZ N B eT
  exact ⟨s₂, o, XS.astore X.here K.exec rfl (hb K.kb hd) rfl hv hl hs, r⟩
theorem iconst {i : Int} (K : Ok κ l Z n0 own nm bytes maxL ret rm Q) (hd : decode bytes pc = .ok (.iconst i, 1))  (hr : Go κ h cells slots (pc + 1) Ls (.int (Int32.ofInt i) :: st)) : Go κ h cells slots pc Ls (st) := fun T locs vm0 X A hZ N B eT => by
  obtain ⟨s₂, o, hs, r⟩ := hr T locs vm0 X A hZ N B eT
  exact ⟨s₂, o, XS.iconst X.here K.exec rfl (hb K.kb hd)  hs, r⟩
theorem bipush {i : Int} (K : Ok κ l Z n0 own nm bytes maxL ret rm Q) (hd : decode bytes pc = .ok (.bipush i, 2))  (hr : Go κ h cells slots (pc + 2) Ls (.int (Int8.ofInt i).toInt32 :: st)) : Go κ h cells slots pc Ls (st) := fun T locs vm0 X A hZ N B eT => by
  obtain ⟨s₂, o, hs, r⟩ := hr T locs vm0 X A hZ N B eT
  exact ⟨s₂, o, XS.bipush X.here K.exec rfl (hb K.kb hd)  hs, r⟩
theorem sipush {i : Int} (K : Ok κ l Z n0 own nm bytes maxL ret rm Q) (hd : decode bytes pc = .ok (.sipush i, 3))  (hr : Go κ h cells slots (pc + 3) Ls (.int (Int16.ofInt i).toInt32 :: st)) : Go κ h cells slots pc Ls (st) := fun T locs vm0 X A hZ N B eT => by
  obtain ⟨s₂, o, hs, r⟩ := hr T locs vm0 X A hZ N B eT
  exact ⟨s₂, o, XS.sipush X.here K.exec rfl (hb K.kb hd)  hs, r⟩
theorem lconst {k : Fin 2} (K : Ok κ l Z n0 own nm bytes maxL ret rm Q) (hd : decode bytes pc = .ok (.lconst k, 1))  (hr : Go κ h cells slots (pc + 1) Ls (.long (Int64.ofNat k) :: st)) : Go κ h cells slots pc Ls (st) := fun T locs vm0 X A hZ N B eT => by
  obtain ⟨s₂, o, hs, r⟩ := hr T locs vm0 X A hZ N B eT
  exact ⟨s₂, o, XT.lconst X.here K.exec rfl (hb K.kb hd)  hs, r⟩
theorem aconstNull  (K : Ok κ l Z n0 own nm bytes maxL ret rm Q) (hd : decode bytes pc = .ok (.aconst_null, 1))  (hr : Go κ h cells slots (pc + 1) Ls (.null :: st)) : Go κ h cells slots pc Ls (st) := fun T locs vm0 X A hZ N B eT => by
  obtain ⟨s₂, o, hs, r⟩ := hr T locs vm0 X A hZ N B eT
  exact ⟨s₂, o, XS.aconstNull X.here K.exec rfl (hb K.kb hd)  hs, r⟩
theorem iadd {x y : Int32} (K : Ok κ l Z n0 own nm bytes maxL ret rm Q) (hd : decode bytes pc = .ok (.iadd, 1))  (hr : Go κ h cells slots (pc + 1) Ls (.int (x + y) :: st)) : Go κ h cells slots pc Ls (.int y :: .int x :: st) := fun T locs vm0 X A hZ N B eT => by
  obtain ⟨s₂, o, hs, r⟩ := hr T locs vm0 X A hZ N B eT
  exact ⟨s₂, o, XS.iadd X.here K.exec rfl (hb K.kb hd) rfl hs, r⟩
theorem isub {x y : Int32} (K : Ok κ l Z n0 own nm bytes maxL ret rm Q) (hd : decode bytes pc = .ok (.isub, 1))  (hr : Go κ h cells slots (pc + 1) Ls (.int (x - y) :: st)) : Go κ h cells slots pc Ls (.int y :: .int x :: st) := fun T locs vm0 X A hZ N B eT => by
  obtain ⟨s₂, o, hs, r⟩ := hr T locs vm0 X A hZ N B eT
  exact ⟨s₂, o, XS.isub X.here K.exec rfl (hb K.kb hd) rfl hs, r⟩
theorem imul {x y : Int32} (K : Ok κ l Z n0 own nm bytes maxL ret rm Q) (hd : decode bytes pc = .ok (.imul, 1))  (hr : Go κ h cells slots (pc + 1) Ls (.int (x * y) :: st)) : Go κ h cells slots pc Ls (.int y :: .int x :: st) := fun T locs vm0 X A hZ N B eT => by
  obtain ⟨s₂, o, hs, r⟩ := hr T locs vm0 X A hZ N B eT
  exact ⟨s₂, o, XS.imul X.here K.exec rfl (hb K.kb hd) rfl hs, r⟩
theorem iand {x y : Int32} (K : Ok κ l Z n0 own nm bytes maxL ret rm Q) (hd : decode bytes pc = .ok (.iand, 1))  (hr : Go κ h cells slots (pc + 1) Ls (.int (x &&& y) :: st)) : Go κ h cells slots pc Ls (.int y :: .int x :: st) := fun T locs vm0 X A hZ N B eT => by
  obtain ⟨s₂, o, hs, r⟩ := hr T locs vm0 X A hZ N B eT
  exact ⟨s₂, o, XS.iand X.here K.exec rfl (hb K.kb hd) rfl hs, r⟩
theorem ior {x y : Int32} (K : Ok κ l Z n0 own nm bytes maxL ret rm Q) (hd : decode bytes pc = .ok (.ior, 1))  (hr : Go κ h cells slots (pc + 1) Ls (.int (x ||| y) :: st)) : Go κ h cells slots pc Ls (.int y :: .int x :: st) := fun T locs vm0 X A hZ N B eT => by
  obtain ⟨s₂, o, hs, r⟩ := hr T locs vm0 X A hZ N B eT
  exact ⟨s₂, o, XT.ior X.here K.exec rfl (hb K.kb hd) rfl hs, r⟩
theorem ixor {x y : Int32} (K : Ok κ l Z n0 own nm bytes maxL ret rm Q) (hd : decode bytes pc = .ok (.ixor, 1))  (hr : Go κ h cells slots (pc + 1) Ls (.int (x ^^^ y) :: st)) : Go κ h cells slots pc Ls (.int y :: .int x :: st) := fun T locs vm0 X A hZ N B eT => by
  obtain ⟨s₂, o, hs, r⟩ := hr T locs vm0 X A hZ N B eT
  exact ⟨s₂, o, XT.ixor X.here K.exec rfl (hb K.kb hd) rfl hs, r⟩
theorem ishl {x y : Int32} (K : Ok κ l Z n0 own nm bytes maxL ret rm Q) (hd : decode bytes pc = .ok (.ishl, 1))  (hr : Go κ h cells slots (pc + 1) Ls (.int (x <<< (y &&& 31)) :: st)) : Go κ h cells slots pc Ls (.int y :: .int x :: st) := fun T locs vm0 X A hZ N B eT => by
  obtain ⟨s₂, o, hs, r⟩ := hr T locs vm0 X A hZ N B eT
  exact ⟨s₂, o, XT.ishl X.here K.exec rfl (hb K.kb hd) rfl hs, r⟩
theorem ishr {x y : Int32} (K : Ok κ l Z n0 own nm bytes maxL ret rm Q) (hd : decode bytes pc = .ok (.ishr, 1))  (hr : Go κ h cells slots (pc + 1) Ls (.int (x >>> (y &&& 31)) :: st)) : Go κ h cells slots pc Ls (.int y :: .int x :: st) := fun T locs vm0 X A hZ N B eT => by
  obtain ⟨s₂, o, hs, r⟩ := hr T locs vm0 X A hZ N B eT
  exact ⟨s₂, o, XT.ishr X.here K.exec rfl (hb K.kb hd) rfl hs, r⟩
theorem iushr {x y : Int32} (K : Ok κ l Z n0 own nm bytes maxL ret rm Q) (hd : decode bytes pc = .ok (.iushr, 1))  (hr : Go κ h cells slots (pc + 1) Ls (.int (XT.ushr x y) :: st)) : Go κ h cells slots pc Ls (.int y :: .int x :: st) := fun T locs vm0 X A hZ N B eT => by
  obtain ⟨s₂, o, hs, r⟩ := hr T locs vm0 X A hZ N B eT
  exact ⟨s₂, o, XT.iushr X.here K.exec rfl (hb K.kb hd) rfl hs, r⟩
theorem idiv {x y : Int32} (K : Ok κ l Z n0 own nm bytes maxL ret rm Q) (hd : decode bytes pc = .ok (.idiv, 1)) (hy : y ≠ 0) (hr : Go κ h cells slots (pc + 1) Ls (.int (x / y) :: st)) : Go κ h cells slots pc Ls (.int y :: .int x :: st) := fun T locs vm0 X A hZ N B eT => by
  obtain ⟨s₂, o, hs, r⟩ := hr T locs vm0 X A hZ N B eT
  exact ⟨s₂, o, XS.idiv X.here K.exec rfl (hb K.kb hd) rfl hy hs, r⟩
theorem ineg {x : Int32} (K : Ok κ l Z n0 own nm bytes maxL ret rm Q) (hd : decode bytes pc = .ok (.ineg, 1))  (hr : Go κ h cells slots (pc + 1) Ls (.int (-x) :: st)) : Go κ h cells slots pc Ls (.int x :: st) := fun T locs vm0 X A hZ N B eT => by
  obtain ⟨s₂, o, hs, r⟩ := hr T locs vm0 X A hZ N B eT
  exact ⟨s₂, o, XS.ineg X.here K.exec rfl (hb K.kb hd) rfl hs, r⟩
theorem ladd {x y : Int64} (K : Ok κ l Z n0 own nm bytes maxL ret rm Q) (hd : decode bytes pc = .ok (.ladd, 1))  (hr : Go κ h cells slots (pc + 1) Ls (.long (x + y) :: st)) : Go κ h cells slots pc Ls (.long y :: .long x :: st) := fun T locs vm0 X A hZ N B eT => by
  obtain ⟨s₂, o, hs, r⟩ := hr T locs vm0 X A hZ N B eT
  exact ⟨s₂, o, XT.ladd X.here K.exec rfl (hb K.kb hd) rfl hs, r⟩
theorem lsub {x y : Int64} (K : Ok κ l Z n0 own nm bytes maxL ret rm Q) (hd : decode bytes pc = .ok (.lsub, 1))  (hr : Go κ h cells slots (pc + 1) Ls (.long (x - y) :: st)) : Go κ h cells slots pc Ls (.long y :: .long x :: st) := fun T locs vm0 X A hZ N B eT => by
  obtain ⟨s₂, o, hs, r⟩ := hr T locs vm0 X A hZ N B eT
  exact ⟨s₂, o, XT.lsub X.here K.exec rfl (hb K.kb hd) rfl hs, r⟩
theorem lmul {x y : Int64} (K : Ok κ l Z n0 own nm bytes maxL ret rm Q) (hd : decode bytes pc = .ok (.lmul, 1))  (hr : Go κ h cells slots (pc + 1) Ls (.long (x * y) :: st)) : Go κ h cells slots pc Ls (.long y :: .long x :: st) := fun T locs vm0 X A hZ N B eT => by
  obtain ⟨s₂, o, hs, r⟩ := hr T locs vm0 X A hZ N B eT
  exact ⟨s₂, o, XT.lmul X.here K.exec rfl (hb K.kb hd) rfl hs, r⟩
theorem land {x y : Int64} (K : Ok κ l Z n0 own nm bytes maxL ret rm Q) (hd : decode bytes pc = .ok (.land, 1))  (hr : Go κ h cells slots (pc + 1) Ls (.long (x &&& y) :: st)) : Go κ h cells slots pc Ls (.long y :: .long x :: st) := fun T locs vm0 X A hZ N B eT => by
  obtain ⟨s₂, o, hs, r⟩ := hr T locs vm0 X A hZ N B eT
  exact ⟨s₂, o, XT.land X.here K.exec rfl (hb K.kb hd) rfl hs, r⟩
theorem lor {x y : Int64} (K : Ok κ l Z n0 own nm bytes maxL ret rm Q) (hd : decode bytes pc = .ok (.lor, 1))  (hr : Go κ h cells slots (pc + 1) Ls (.long (x ||| y) :: st)) : Go κ h cells slots pc Ls (.long y :: .long x :: st) := fun T locs vm0 X A hZ N B eT => by
  obtain ⟨s₂, o, hs, r⟩ := hr T locs vm0 X A hZ N B eT
  exact ⟨s₂, o, XT.lor X.here K.exec rfl (hb K.kb hd) rfl hs, r⟩
theorem lxor {x y : Int64} (K : Ok κ l Z n0 own nm bytes maxL ret rm Q) (hd : decode bytes pc = .ok (.lxor, 1))  (hr : Go κ h cells slots (pc + 1) Ls (.long (x ^^^ y) :: st)) : Go κ h cells slots pc Ls (.long y :: .long x :: st) := fun T locs vm0 X A hZ N B eT => by
  obtain ⟨s₂, o, hs, r⟩ := hr T locs vm0 X A hZ N B eT
  exact ⟨s₂, o, XT.lxor X.here K.exec rfl (hb K.kb hd) rfl hs, r⟩
theorem ldiv {x y : Int64} (K : Ok κ l Z n0 own nm bytes maxL ret rm Q) (hd : decode bytes pc = .ok (.ldiv, 1)) (hy : y ≠ 0) (hr : Go κ h cells slots (pc + 1) Ls (.long (x / y) :: st)) : Go κ h cells slots pc Ls (.long y :: .long x :: st) := fun T locs vm0 X A hZ N B eT => by
  obtain ⟨s₂, o, hs, r⟩ := hr T locs vm0 X A hZ N B eT
  exact ⟨s₂, o, XT.ldiv X.here K.exec rfl (hb K.kb hd) rfl hy hs, r⟩
theorem lshl {x : Int64} {y : Int32} (K : Ok κ l Z n0 own nm bytes maxL ret rm Q) (hd : decode bytes pc = .ok (.lshl, 1))  (hr : Go κ h cells slots (pc + 1) Ls (.long (x <<< (y.toInt64 &&& 63)) :: st)) : Go κ h cells slots pc Ls (.int y :: .long x :: st) := fun T locs vm0 X A hZ N B eT => by
  obtain ⟨s₂, o, hs, r⟩ := hr T locs vm0 X A hZ N B eT
  exact ⟨s₂, o, XT.lshl X.here K.exec rfl (hb K.kb hd) rfl hs, r⟩
theorem lshr {x : Int64} {y : Int32} (K : Ok κ l Z n0 own nm bytes maxL ret rm Q) (hd : decode bytes pc = .ok (.lshr, 1))  (hr : Go κ h cells slots (pc + 1) Ls (.long (x >>> (y.toInt64 &&& 63)) :: st)) : Go κ h cells slots pc Ls (.int y :: .long x :: st) := fun T locs vm0 X A hZ N B eT => by
  obtain ⟨s₂, o, hs, r⟩ := hr T locs vm0 X A hZ N B eT
  exact ⟨s₂, o, XT.lshr X.here K.exec rfl (hb K.kb hd) rfl hs, r⟩
theorem lushr {x : Int64} {y : Int32} (K : Ok κ l Z n0 own nm bytes maxL ret rm Q) (hd : decode bytes pc = .ok (.lushr, 1))  (hr : Go κ h cells slots (pc + 1) Ls (.long (XT.ushrL x y) :: st)) : Go κ h cells slots pc Ls (.int y :: .long x :: st) := fun T locs vm0 X A hZ N B eT => by
  obtain ⟨s₂, o, hs, r⟩ := hr T locs vm0 X A hZ N B eT
  exact ⟨s₂, o, XT.lushr X.here K.exec rfl (hb K.kb hd) rfl hs, r⟩
theorem lneg {x : Int64} (K : Ok κ l Z n0 own nm bytes maxL ret rm Q) (hd : decode bytes pc = .ok (.lneg, 1))  (hr : Go κ h cells slots (pc + 1) Ls (.long (-x) :: st)) : Go κ h cells slots pc Ls (.long x :: st) := fun T locs vm0 X A hZ N B eT => by
  obtain ⟨s₂, o, hs, r⟩ := hr T locs vm0 X A hZ N B eT
  exact ⟨s₂, o, XT.lneg X.here K.exec rfl (hb K.kb hd) rfl hs, r⟩
theorem i2l {x : Int32} (K : Ok κ l Z n0 own nm bytes maxL ret rm Q) (hd : decode bytes pc = .ok (.i2l, 1))  (hr : Go κ h cells slots (pc + 1) Ls (.long x.toInt64 :: st)) : Go κ h cells slots pc Ls (.int x :: st) := fun T locs vm0 X A hZ N B eT => by
  obtain ⟨s₂, o, hs, r⟩ := hr T locs vm0 X A hZ N B eT
  exact ⟨s₂, o, XT.i2l X.here K.exec rfl (hb K.kb hd) rfl hs, r⟩
theorem l2i {x : Int64} (K : Ok κ l Z n0 own nm bytes maxL ret rm Q) (hd : decode bytes pc = .ok (.l2i, 1))  (hr : Go κ h cells slots (pc + 1) Ls (.int x.toInt32 :: st)) : Go κ h cells slots pc Ls (.long x :: st) := fun T locs vm0 X A hZ N B eT => by
  obtain ⟨s₂, o, hs, r⟩ := hr T locs vm0 X A hZ N B eT
  exact ⟨s₂, o, XT.l2i X.here K.exec rfl (hb K.kb hd) rfl hs, r⟩
theorem i2b {x : Int32} (K : Ok κ l Z n0 own nm bytes maxL ret rm Q) (hd : decode bytes pc = .ok (.i2b, 1))  (hr : Go κ h cells slots (pc + 1) Ls (.int x.toInt8.toInt32 :: st)) : Go κ h cells slots pc Ls (.int x :: st) := fun T locs vm0 X A hZ N B eT => by
  obtain ⟨s₂, o, hs, r⟩ := hr T locs vm0 X A hZ N B eT
  exact ⟨s₂, o, XT.i2b X.here K.exec rfl (hb K.kb hd) rfl hs, r⟩
theorem i2c {x : Int32} (K : Ok κ l Z n0 own nm bytes maxL ret rm Q) (hd : decode bytes pc = .ok (.i2c, 1))  (hr : Go κ h cells slots (pc + 1) Ls (.int x.toUInt32.toUInt16.toUInt32.toInt32 :: st)) : Go κ h cells slots pc Ls (.int x :: st) := fun T locs vm0 X A hZ N B eT => by
  obtain ⟨s₂, o, hs, r⟩ := hr T locs vm0 X A hZ N B eT
  exact ⟨s₂, o, XT.i2c X.here K.exec rfl (hb K.kb hd) rfl hs, r⟩
theorem i2s {x : Int32} (K : Ok κ l Z n0 own nm bytes maxL ret rm Q) (hd : decode bytes pc = .ok (.i2s, 1))  (hr : Go κ h cells slots (pc + 1) Ls (.int x.toInt16.toInt32 :: st)) : Go κ h cells slots pc Ls (.int x :: st) := fun T locs vm0 X A hZ N B eT => by
  obtain ⟨s₂, o, hs, r⟩ := hr T locs vm0 X A hZ N B eT
  exact ⟨s₂, o, XT.i2s X.here K.exec rfl (hb K.kb hd) rfl hs, r⟩
theorem lcmp {x y : Int64} (K : Ok κ l Z n0 own nm bytes maxL ret rm Q) (hd : decode bytes pc = .ok (.lcmp, 1))  (hr : Go κ h cells slots (pc + 1) Ls (.int (XT.cmpL x y) :: st)) : Go κ h cells slots pc Ls (.long y :: .long x :: st) := fun T locs vm0 X A hZ N B eT => by
  obtain ⟨s₂, o, hs, r⟩ := hr T locs vm0 X A hZ N B eT
  exact ⟨s₂, o, XT.lcmp X.here K.exec rfl (hb K.kb hd) rfl hs, r⟩
theorem dup {x : Value} (K : Ok κ l Z n0 own nm bytes maxL ret rm Q) (hd : decode bytes pc = .ok (.dup, 1)) (hc : x.category = 1) (hr : Go κ h cells slots (pc + 1) Ls (x :: x :: st)) : Go κ h cells slots pc Ls (x :: st) := fun T locs vm0 X A hZ N B eT => by
  obtain ⟨s₂, o, hs, r⟩ := hr T locs vm0 X A hZ N B eT
  exact ⟨s₂, o, XS.dup X.here K.exec rfl (hb K.kb hd) rfl hc hs, r⟩
theorem pop {x : Value} (K : Ok κ l Z n0 own nm bytes maxL ret rm Q) (hd : decode bytes pc = .ok (.pop, 1)) (hc : x.category = 1) (hr : Go κ h cells slots (pc + 1) Ls (st)) : Go κ h cells slots pc Ls (x :: st) := fun T locs vm0 X A hZ N B eT => by
  obtain ⟨s₂, o, hs, r⟩ := hr T locs vm0 X A hZ N B eT
  exact ⟨s₂, o, XT.pop X.here K.exec rfl (hb K.kb hd) rfl hc hs, r⟩
theorem dupX1 {x y : Value} (K : Ok κ l Z n0 own nm bytes maxL ret rm Q) (hd : decode bytes pc = .ok (.dup_x1, 1)) (hc : x.category = 1) (hc' : y.category = 1) (hr : Go κ h cells slots (pc + 1) Ls (x :: y :: x :: st)) : Go κ h cells slots pc Ls (x :: y :: st) := fun T locs vm0 X A hZ N B eT => by
  obtain ⟨s₂, o, hs, r⟩ := hr T locs vm0 X A hZ N B eT
  exact ⟨s₂, o, XT.dupX1 X.here K.exec rfl (hb K.kb hd) rfl hc hc' hs, r⟩
theorem dup2 {x y : Value} (K : Ok κ l Z n0 own nm bytes maxL ret rm Q) (hd : decode bytes pc = .ok (.dup2, 1)) (hc : x.category = 1) (hc' : y.category = 1) (hr : Go κ h cells slots (pc + 1) Ls (x :: y :: x :: y :: st)) : Go κ h cells slots pc Ls (x :: y :: st) := fun T locs vm0 X A hZ N B eT => by
  obtain ⟨s₂, o, hs, r⟩ := hr T locs vm0 X A hZ N B eT
  exact ⟨s₂, o, XT.dup2 X.here K.exec rfl (hb K.kb hd) rfl hc hc' hs, r⟩
theorem dup2L {x : Int64} (K : Ok κ l Z n0 own nm bytes maxL ret rm Q) (hd : decode bytes pc = .ok (.dup2, 1))  (hr : Go κ h cells slots (pc + 1) Ls (.long x :: .long x :: st)) : Go κ h cells slots pc Ls (.long x :: st) := fun T locs vm0 X A hZ N B eT => by
  obtain ⟨s₂, o, hs, r⟩ := hr T locs vm0 X A hZ N B eT
  exact ⟨s₂, o, XT.dup2L X.here K.exec rfl (hb K.kb hd) rfl hs, r⟩
theorem iinc {k : Nat} {cst : Int} {x : Int32} {l' : Array Slot} (K : Ok κ l Z n0 own nm bytes maxL ret rm Q) (hd : decode bytes pc = .ok (.iinc k cst, 3)) (hl : Ls[k]? = some (.val (.int x))) (hl' : storeLocals Ls k (.int (x + Int32.ofInt cst)) = some l') (hr : Go κ h cells slots (pc + 3) l' (st)) : Go κ h cells slots pc Ls (st) := fun T locs vm0 X A hZ N B eT => by
  obtain ⟨s₂, o, hs, r⟩ := hr T locs vm0 X A hZ N B eT
  exact ⟨s₂, o, XS.iinc X.here K.exec rfl (hb K.kb hd) hl hl' hs, r⟩
theorem irem {x y : Int32} (K : Ok κ l Z n0 own nm bytes maxL ret rm Q) (hd : decode bytes pc = .ok (.irem, 1)) (hy : y ≠ 0) (hr : Go κ h cells slots (pc + 1) Ls (.int (x % y) :: st)) : Go κ h cells slots pc Ls (.int y :: .int x :: st) := fun T locs vm0 X A hZ N B eT => by
  obtain ⟨s₂, o, hs, r⟩ := hr T locs vm0 X A hZ N B eT
  exact ⟨s₂, o, iremM X K.exec rfl (hb K.kb hd) rfl hy hs, r⟩
theorem lrem {x y : Int64} (K : Ok κ l Z n0 own nm bytes maxL ret rm Q) (hd : decode bytes pc = .ok (.lrem, 1)) (hy : y ≠ 0) (hr : Go κ h cells slots (pc + 1) Ls (.long (x % y) :: st)) : Go κ h cells slots pc Ls (.long y :: .long x :: st) := fun T locs vm0 X A hZ N B eT => by
  obtain ⟨s₂, o, hs, r⟩ := hr T locs vm0 X A hZ N B eT
  exact ⟨s₂, o, XT.lrem X.here K.exec rfl (hb K.kb hd) rfl hy (by rw [lrem_mod]; exact hs), r⟩
theorem goto {o' : Int} {pc' : Nat} (K : Ok κ l Z n0 own nm bytes maxL ret rm Q) (hd : decode bytes pc = .ok (.goto o', 3)) (ho : 0 ≤ (pc : Int) + o') (hp : ((pc : Int) + o').toNat = pc') (hr : Go κ h cells slots pc' Ls st) : Go κ h cells slots pc Ls st := fun T locs vm0 X A hZ N B eT => by
  obtain ⟨s₂, o, hs, r⟩ := hr T locs vm0 X A hZ N B eT
  exact ⟨s₂, o, XS.goto X.here K.exec rfl rfl (hb K.kb hd) ho hp hs, r⟩
/-! ## branches: both roads, each with what is known on it -/
theorem ifB {cd : ClassFile.Cond} {x : Int32} {o' : Int} {pc' : Nat} (K : Ok κ l Z n0 own nm bytes maxL ret rm Q) (hd : decode bytes pc = .ok (.ifCond cd o', 3)) (ho : 0 ≤ (pc : Int) + o') (hp : ((pc : Int) + o').toNat = pc')
    (hy : if_icmp.holds cd x 0 = true → Go κ h cells slots pc' Ls st) (hn : if_icmp.holds cd x 0 = false → Go κ h cells slots (pc + 3) Ls st) : Go κ h cells slots pc Ls (.int x :: st) := fun T locs vm0 X A hZ N B eT => by
  cases hc : if_icmp.holds cd x 0 with
  | true => obtain ⟨s₂, o, hs, r⟩ := hy hc T locs vm0 X A hZ N B eT; exact ⟨s₂, o, XS.ifYes X.here K.exec rfl rfl (hb K.kb hd) rfl ((if0 _ _).trans hc) ho hp hs, r⟩
  | false => obtain ⟨s₂, o, hs, r⟩ := hn hc T locs vm0 X A hZ N B eT; exact ⟨s₂, o, XS.ifNo X.here K.exec rfl (hb K.kb hd) rfl ((if0 _ _).trans hc) hs, r⟩
theorem icB {cd : ClassFile.Cond} {x y : Int32} {o' : Int} {pc' : Nat} (K : Ok κ l Z n0 own nm bytes maxL ret rm Q) (hd : decode bytes pc = .ok (.if_icmp cd o', 3)) (ho : 0 ≤ (pc : Int) + o') (hp : ((pc : Int) + o').toNat = pc')
    (hy : if_icmp.holds cd x y = true → Go κ h cells slots pc' Ls st) (hn : if_icmp.holds cd x y = false → Go κ h cells slots (pc + 3) Ls st) : Go κ h cells slots pc Ls (.int y :: .int x :: st) := fun T locs vm0 X A hZ N B eT => by
  cases hc : if_icmp.holds cd x y with
  | true => obtain ⟨s₂, o, hs, r⟩ := hy hc T locs vm0 X A hZ N B eT; exact ⟨s₂, o, XS.icmpYes X.here K.exec rfl rfl (hb K.kb hd) rfl hc ho hp hs, r⟩
  | false => obtain ⟨s₂, o, hs, r⟩ := hn hc T locs vm0 X A hZ N B eT; exact ⟨s₂, o, XS.icmpNo X.here K.exec rfl (hb K.kb hd) rfl hc hs, r⟩
theorem h_eq (x y : Int32) : (if_icmp.holds .eq x y = true ↔ x = y) ∧ (if_icmp.holds .eq x y = false ↔ ¬ x = y) := by simp [if_icmp.holds]
theorem h_ne (x y : Int32) : (if_icmp.holds .ne x y = true ↔ ¬ x = y) ∧ (if_icmp.holds .ne x y = false ↔ x = y) := by simp [if_icmp.holds]
theorem h_lt (x y : Int32) : (if_icmp.holds .lt x y = true ↔ x.toInt < y.toInt) ∧ (if_icmp.holds .lt x y = false ↔ y.toInt ≤ x.toInt) := by simp [if_icmp.holds, Int32.lt_iff_toInt_lt]
theorem h_ge (x y : Int32) : (if_icmp.holds .ge x y = true ↔ y.toInt ≤ x.toInt) ∧ (if_icmp.holds .ge x y = false ↔ x.toInt < y.toInt) := by simp [if_icmp.holds, Int32.le_iff_toInt_le]
theorem h_gt (x y : Int32) : (if_icmp.holds .gt x y = true ↔ y.toInt < x.toInt) ∧ (if_icmp.holds .gt x y = false ↔ x.toInt ≤ y.toInt) := by simp [if_icmp.holds, Int32.lt_iff_toInt_lt]
theorem h_le (x y : Int32) : (if_icmp.holds .le x y = true ↔ x.toInt ≤ y.toInt) ∧ (if_icmp.holds .le x y = false ↔ y.toInt < x.toInt) := by simp [if_icmp.holds, Int32.le_iff_toInt_le]
theorem ifeq {x : Int32} {o' : Int} {pc' : Nat} (K : Ok κ l Z n0 own nm bytes maxL ret rm Q) (hd : decode bytes pc = .ok (.ifCond .eq o', 3)) (ho : 0 ≤ (pc : Int) + o') (hp : ((pc : Int) + o').toNat = pc')
    (hy : x = (0 : Int32) → Go κ h cells slots pc' Ls st) (hn : ¬ x = (0 : Int32) → Go κ h cells slots (pc + 3) Ls st) : Go κ h cells slots pc Ls (.int x :: st) :=
  ifB K hd ho hp (fun q => hy ((h_eq _ _).1.mp q)) (fun q => hn ((h_eq _ _).2.mp q))
theorem icmpeq {x y : Int32} {o' : Int} {pc' : Nat} (K : Ok κ l Z n0 own nm bytes maxL ret rm Q) (hd : decode bytes pc = .ok (.if_icmp .eq o', 3)) (ho : 0 ≤ (pc : Int) + o') (hp : ((pc : Int) + o').toNat = pc')
    (hy : x = y → Go κ h cells slots pc' Ls st) (hn : ¬ x = y → Go κ h cells slots (pc + 3) Ls st) : Go κ h cells slots pc Ls (.int y :: .int x :: st) :=
  icB K hd ho hp (fun q => hy ((h_eq _ _).1.mp q)) (fun q => hn ((h_eq _ _).2.mp q))
theorem ifne {x : Int32} {o' : Int} {pc' : Nat} (K : Ok κ l Z n0 own nm bytes maxL ret rm Q) (hd : decode bytes pc = .ok (.ifCond .ne o', 3)) (ho : 0 ≤ (pc : Int) + o') (hp : ((pc : Int) + o').toNat = pc')
    (hy : ¬ x = (0 : Int32) → Go κ h cells slots pc' Ls st) (hn : x = (0 : Int32) → Go κ h cells slots (pc + 3) Ls st) : Go κ h cells slots pc Ls (.int x :: st) :=
  ifB K hd ho hp (fun q => hy ((h_ne _ _).1.mp q)) (fun q => hn ((h_ne _ _).2.mp q))
theorem icmpne {x y : Int32} {o' : Int} {pc' : Nat} (K : Ok κ l Z n0 own nm bytes maxL ret rm Q) (hd : decode bytes pc = .ok (.if_icmp .ne o', 3)) (ho : 0 ≤ (pc : Int) + o') (hp : ((pc : Int) + o').toNat = pc')
    (hy : ¬ x = y → Go κ h cells slots pc' Ls st) (hn : x = y → Go κ h cells slots (pc + 3) Ls st) : Go κ h cells slots pc Ls (.int y :: .int x :: st) :=
  icB K hd ho hp (fun q => hy ((h_ne _ _).1.mp q)) (fun q => hn ((h_ne _ _).2.mp q))
theorem iflt {x : Int32} {o' : Int} {pc' : Nat} (K : Ok κ l Z n0 own nm bytes maxL ret rm Q) (hd : decode bytes pc = .ok (.ifCond .lt o', 3)) (ho : 0 ≤ (pc : Int) + o') (hp : ((pc : Int) + o').toNat = pc')
    (hy : x.toInt < (0 : Int) → Go κ h cells slots pc' Ls st) (hn : (0 : Int) ≤ x.toInt → Go κ h cells slots (pc + 3) Ls st) : Go κ h cells slots pc Ls (.int x :: st) :=
  ifB K hd ho hp (fun q => hy ((h_lt _ _).1.mp q)) (fun q => hn ((h_lt _ _).2.mp q))
theorem icmplt {x y : Int32} {o' : Int} {pc' : Nat} (K : Ok κ l Z n0 own nm bytes maxL ret rm Q) (hd : decode bytes pc = .ok (.if_icmp .lt o', 3)) (ho : 0 ≤ (pc : Int) + o') (hp : ((pc : Int) + o').toNat = pc')
    (hy : x.toInt < y.toInt → Go κ h cells slots pc' Ls st) (hn : y.toInt ≤ x.toInt → Go κ h cells slots (pc + 3) Ls st) : Go κ h cells slots pc Ls (.int y :: .int x :: st) :=
  icB K hd ho hp (fun q => hy ((h_lt _ _).1.mp q)) (fun q => hn ((h_lt _ _).2.mp q))
theorem ifge {x : Int32} {o' : Int} {pc' : Nat} (K : Ok κ l Z n0 own nm bytes maxL ret rm Q) (hd : decode bytes pc = .ok (.ifCond .ge o', 3)) (ho : 0 ≤ (pc : Int) + o') (hp : ((pc : Int) + o').toNat = pc')
    (hy : (0 : Int) ≤ x.toInt → Go κ h cells slots pc' Ls st) (hn : x.toInt < (0 : Int) → Go κ h cells slots (pc + 3) Ls st) : Go κ h cells slots pc Ls (.int x :: st) :=
  ifB K hd ho hp (fun q => hy ((h_ge _ _).1.mp q)) (fun q => hn ((h_ge _ _).2.mp q))
theorem icmpge {x y : Int32} {o' : Int} {pc' : Nat} (K : Ok κ l Z n0 own nm bytes maxL ret rm Q) (hd : decode bytes pc = .ok (.if_icmp .ge o', 3)) (ho : 0 ≤ (pc : Int) + o') (hp : ((pc : Int) + o').toNat = pc')
    (hy : y.toInt ≤ x.toInt → Go κ h cells slots pc' Ls st) (hn : x.toInt < y.toInt → Go κ h cells slots (pc + 3) Ls st) : Go κ h cells slots pc Ls (.int y :: .int x :: st) :=
  icB K hd ho hp (fun q => hy ((h_ge _ _).1.mp q)) (fun q => hn ((h_ge _ _).2.mp q))
theorem ifgt {x : Int32} {o' : Int} {pc' : Nat} (K : Ok κ l Z n0 own nm bytes maxL ret rm Q) (hd : decode bytes pc = .ok (.ifCond .gt o', 3)) (ho : 0 ≤ (pc : Int) + o') (hp : ((pc : Int) + o').toNat = pc')
    (hy : (0 : Int) < x.toInt → Go κ h cells slots pc' Ls st) (hn : x.toInt ≤ (0 : Int) → Go κ h cells slots (pc + 3) Ls st) : Go κ h cells slots pc Ls (.int x :: st) :=
  ifB K hd ho hp (fun q => hy ((h_gt _ _).1.mp q)) (fun q => hn ((h_gt _ _).2.mp q))
theorem icmpgt {x y : Int32} {o' : Int} {pc' : Nat} (K : Ok κ l Z n0 own nm bytes maxL ret rm Q) (hd : decode bytes pc = .ok (.if_icmp .gt o', 3)) (ho : 0 ≤ (pc : Int) + o') (hp : ((pc : Int) + o').toNat = pc')
    (hy : y.toInt < x.toInt → Go κ h cells slots pc' Ls st) (hn : x.toInt ≤ y.toInt → Go κ h cells slots (pc + 3) Ls st) : Go κ h cells slots pc Ls (.int y :: .int x :: st) :=
  icB K hd ho hp (fun q => hy ((h_gt _ _).1.mp q)) (fun q => hn ((h_gt _ _).2.mp q))
theorem ifle {x : Int32} {o' : Int} {pc' : Nat} (K : Ok κ l Z n0 own nm bytes maxL ret rm Q) (hd : decode bytes pc = .ok (.ifCond .le o', 3)) (ho : 0 ≤ (pc : Int) + o') (hp : ((pc : Int) + o').toNat = pc')
    (hy : x.toInt ≤ (0 : Int) → Go κ h cells slots pc' Ls st) (hn : (0 : Int) < x.toInt → Go κ h cells slots (pc + 3) Ls st) : Go κ h cells slots pc Ls (.int x :: st) :=
  ifB K hd ho hp (fun q => hy ((h_le _ _).1.mp q)) (fun q => hn ((h_le _ _).2.mp q))
theorem icmple {x y : Int32} {o' : Int} {pc' : Nat} (K : Ok κ l Z n0 own nm bytes maxL ret rm Q) (hd : decode bytes pc = .ok (.if_icmp .le o', 3)) (ho : 0 ≤ (pc : Int) + o') (hp : ((pc : Int) + o').toNat = pc')
    (hy : x.toInt ≤ y.toInt → Go κ h cells slots pc' Ls st) (hn : y.toInt < x.toInt → Go κ h cells slots (pc + 3) Ls st) : Go κ h cells slots pc Ls (.int y :: .int x :: st) :=
  icB K hd ho hp (fun q => hy ((h_le _ _).1.mp q)) (fun q => hn ((h_le _ _).2.mp q))
theorem ifnull {x : Value} {o' : Int} {pc' : Nat} (K : Ok κ l Z n0 own nm bytes maxL ret rm Q) (hd : decode bytes pc = .ok (.ifnull o', 3)) (ho : 0 ≤ (pc : Int) + o') (hp : ((pc : Int) + o').toNat = pc') (hx : x.isRef = true)
    (hy : x = .null → Go κ h cells slots pc' Ls st) (hn : ∀ a, x = .ref a → Go κ h cells slots (pc + 3) Ls st) : Go κ h cells slots pc Ls (x :: st) := fun T locs vm0 X A hZ N B eT => by
  rcases ref_cases hx with rfl | ⟨a, rfl⟩
  · obtain ⟨s₂, o, hs, r⟩ := hy rfl T locs vm0 X A hZ N B eT; exact ⟨s₂, o, XS.ifnullYes X.here K.exec rfl rfl (hb K.kb hd) rfl ho hp hs, r⟩
  · obtain ⟨s₂, o, hs, r⟩ := hn a rfl T locs vm0 X A hZ N B eT; exact ⟨s₂, o, XS.ifnullNo X.here K.exec rfl (hb K.kb hd) rfl hs, r⟩
theorem ifnonnull {x : Value} {o' : Int} {pc' : Nat} (K : Ok κ l Z n0 own nm bytes maxL ret rm Q) (hd : decode bytes pc = .ok (.ifnonnull o', 3)) (ho : 0 ≤ (pc : Int) + o') (hp : ((pc : Int) + o').toNat = pc') (hx : x.isRef = true)
    (hy : ∀ a, x = .ref a → Go κ h cells slots pc' Ls st) (hn : x = .null → Go κ h cells slots (pc + 3) Ls st) : Go κ h cells slots pc Ls (x :: st) := fun T locs vm0 X A hZ N B eT => by
  rcases ref_cases hx with rfl | ⟨a, rfl⟩
  · obtain ⟨s₂, o, hs, r⟩ := hn rfl T locs vm0 X A hZ N B eT; exact ⟨s₂, o, XT.ifnonnullNo X.here K.exec rfl (hb K.kb hd) rfl hs, r⟩
  · obtain ⟨s₂, o, hs, r⟩ := hy a rfl T locs vm0 X A hZ N B eT; exact ⟨s₂, o, XT.ifnonnullYes X.here K.exec rfl rfl (hb K.kb hd) rfl ho hp hs, r⟩
theorem acB {cd : ACond} {x y : Value} {o' : Int} {pc' : Nat} (K : Ok κ l Z n0 own nm bytes maxL ret rm Q) (hd : decode bytes pc = .ok (.if_acmp cd o', 3)) (ho : 0 ≤ (pc : Int) + o') (hp : ((pc : Int) + o').toNat = pc') (hx : x.isRef = true) (hy : y.isRef = true)
    (ht : acV cd (decide (x = y)) = true → Go κ h cells slots pc' Ls st) (hn : acV cd (decide (x = y)) = false → Go κ h cells slots (pc + 3) Ls st) : Go κ h cells slots pc Ls (y :: x :: st) := fun T locs vm0 X A hZ N B eT => by
  cases hc : acV cd (decide (x = y)) with
  | true => obtain ⟨s₂, o, hs, r⟩ := ht hc T locs vm0 X A hZ N B eT; exact ⟨s₂, o, acmp X K.exec rfl hx hy rfl (hb K.kb hd) rfl rfl ho (by rw [hc, if_pos rfl, hp]) hs, r⟩
  | false => obtain ⟨s₂, o, hs, r⟩ := hn hc T locs vm0 X A hZ N B eT; exact ⟨s₂, o, acmp X K.exec rfl hx hy rfl (hb K.kb hd) rfl rfl ho (by rw [hc]; simp) hs, r⟩
theorem acmpeq {x y : Value} {o' : Int} {pc' : Nat} (K : Ok κ l Z n0 own nm bytes maxL ret rm Q) (hd : decode bytes pc = .ok (.if_acmp .eq o', 3)) (ho : 0 ≤ (pc : Int) + o') (hp : ((pc : Int) + o').toNat = pc') (hx : x.isRef = true) (hy : y.isRef = true)
    (ht : x = y → Go κ h cells slots pc' Ls st) (hn : ¬ x = y → Go κ h cells slots (pc + 3) Ls st) : Go κ h cells slots pc Ls (y :: x :: st) :=
  acB K hd ho hp hx hy (fun q => ht (by simpa [acV] using q)) (fun q => hn (by simpa [acV] using q))
theorem acmpne {x y : Value} {o' : Int} {pc' : Nat} (K : Ok κ l Z n0 own nm bytes maxL ret rm Q) (hd : decode bytes pc = .ok (.if_acmp .ne o', 3)) (ho : 0 ≤ (pc : Int) + o') (hp : ((pc : Int) + o').toNat = pc') (hx : x.isRef = true) (hy : y.isRef = true)
    (ht : ¬ x = y → Go κ h cells slots pc' Ls st) (hn : x = y → Go κ h cells slots (pc + 3) Ls st) : Go κ h cells slots pc Ls (y :: x :: st) :=
  acB K hd ho hp hx hy (fun q => ht (by simpa [acV] using q)) (fun q => hn (by simpa [acV] using q))
/-! ## constants of the pool -/
variable {a0 : Array Value}
theorem ldcI {index : Nat} {v : Int32} (K : Ok κ l Z n0 own nm bytes maxL ret rm Q) (hd : decode bytes pc = .ok (.ldc index, 2)) (w : (Cond.constant own index v).before a0 Z = true) (hr : Go κ h cells slots (pc + 2) Ls (.int v :: st)) : Go κ h cells slots pc Ls st := fun T locs vm0 X A hZ N B eT => by
  obtain ⟨s₂, o, hs, r⟩ := hr T locs vm0 X A hZ N B eT
  exact ⟨s₂, o, Jvm.Stand.ldcI X K.exec (K.ko A) (mvT (K.warm hZ) w) rfl (hb K.kb hd) hs, r⟩
theorem ldc2J {index : Nat} {v : Int64} (K : Ok κ l Z n0 own nm bytes maxL ret rm Q) (hd : decode bytes pc = .ok (.ldc2_w index, 3)) (w : (Cond.constantLong own index v).before a0 Z = true) (hr : Go κ h cells slots (pc + 3) Ls (.long v :: st)) : Go κ h cells slots pc Ls st := fun T locs vm0 X A hZ N B eT => by
  obtain ⟨s₂, o, hs, r⟩ := hr T locs vm0 X A hZ N B eT
  exact ⟨s₂, o, Jvm.Stand.ldc2J X K.exec (K.ko A) (mvT (K.warm hZ) w) rfl (hb K.kb hd) hs, r⟩
/-! ## the heap -/
theorem getfield {R0 O n d host : String} {index : Nat} {a : Addr} {v : Value} (K : Ok κ l Z n0 own nm bytes maxL ret rm Q) (hd : decode bytes pc = .ok (.getfield index, 3))
    (w : (Cond.fieldLink own index R0 n d).before a0 Z = true ∨ (Cond.fieldLinkNest own index R0 n d host).before a0 Z = true) (via : Via Z R0 O n d) (F : Fld Z h a O n d v) (hr : Go κ h cells slots (pc + 3) Ls (v :: st)) : Go κ h cells slots pc Ls (.ref a :: st) := fun T locs vm0 X A hZ N B eT => by
  obtain ⟨T', X', e', st1⟩ := getF X K.exec (K.warm hZ) (K.ko A) w via eT F (g := mkF κ.m pc Ls (.ref a :: st)) rfl rfl (hb K.kb hd)
  obtain ⟨s₂, o, hs, r⟩ := hr T' locs vm0 X' A hZ N B e'
  exact ⟨s₂, o, st1 _ hs, r⟩
theorem getstatic {R0 O n d host : String} {index : Nat} {v : Value} (K : Ok κ l Z n0 own nm bytes maxL ret rm Q) (hd : decode bytes pc = .ok (.getstatic index, 3))
    (w : (Cond.fieldLink own index R0 n d).before a0 Z = true ∨ (Cond.fieldLinkNest own index R0 n d host).before a0 Z = true) (via : Via Z R0 O n d) (F : Sta Z h O n d v) (hr : Go κ h cells slots (pc + 3) Ls (v :: st)) : Go κ h cells slots pc Ls st := fun T locs vm0 X A hZ N B eT => by
  obtain ⟨T', X', e', st1⟩ := getS2 X K.exec (K.warm hZ) (K.ko A) w via eT F (g := mkF κ.m pc Ls st) rfl (hb K.kb hd)
  obtain ⟨s₂, o, hs, r⟩ := hr T' locs vm0 X' A hZ N B e'
  exact ⟨s₂, o, st1 _ hs, r⟩
theorem putfield {R0 O n d host C : String} {index kk : Nat} {ty : FieldType} {a : Addr} {v old : Value} (K : Ok κ l Z n0 own nm bytes maxL ret rm Q) (hd : decode bytes pc = .ok (.putfield index, 3))
    (w : (Cond.fieldLink own index R0 n d).before a0 Z = true ∨ (Cond.fieldLinkNest own index R0 n d host).before a0 Z = true) (via : Via Z R0 O n d) (F : Fld Z h a O n d old) (E : Exa Z h a C) (L : (Cond.lays C O n d).before a0 Z = true ∨ ((Cond.laysFinal C O n d).before a0 Z = true ∧ own = O ∧ nm = "<init>")) (wi : (Cond.instantiable C kk).before a0 Z = true)
    (hty : parseFieldDescriptor d = some ty) (hn : narrow ty v = v) (hf : fits ty v = true) (ge : n0 ≤ a) (hr : ∀ h', Wr h h' a (Jvm.RoadKit.slotOf Z O n d) v → Go κ h' cells slots (pc + 3) Ls st) : Go κ h cells slots pc Ls (v :: .ref a :: st) := fun T locs vm0 X A hZ N B eT => by
  obtain ⟨T', h', X', e', W, st1⟩ := putF X K.exec (K.warm hZ) (K.ko A) w via eT F E (L.imp id fun q => ⟨q.1, q.2.1, K.name.trans q.2.2⟩) wi hty hn hf (g := mkF κ.m pc Ls (v :: .ref a :: st)) rfl rfl (hb K.kb hd)
  obtain ⟨s₂, o, hs, r⟩ := hr h' W T' _ vm0 X' (A.mono (Nat.le_of_eq W.size.symm)) hZ (Fr.snoc X' N (by rw [K.en]; exact ge)) (B.wr W (by rw [K.en]; exact ge)) e'
  exact ⟨s₂, o, st1 _ hs, r⟩
theorem newObj {C : String} {index n : Nat} (K : Ok κ l Z n0 own nm bytes maxL ret rm Q) (hd : decode bytes pc = .ok (.new index, 3)) (w : (Cond.classLink own index C).before a0 Z = true) (wi : (Cond.instantiable C n).before a0 Z = true) (wz : (Cond.initialized C).before a0 Z = true)
    (hc : cells + 1 ≤ rm.cells) (hl : slots + n ≤ rm.slots)
    (hr : ∀ h' a, a = h.size → n0 ≤ a → Ext h h' → Exa Z h' a C → (∀ {O nm d : String} {ty : FieldType}, Laid Z a0 C O nm d → parseFieldDescriptor d = some ty → Fld Z h' a O nm d (defaultValue ty)) → Unt h' a → Go κ h' (cells + 1) (slots + n) (pc + 3) Ls (.ref a :: st)) : Go κ h cells slots pc Ls st := fun T locs vm0 X A hZ N B eT => by
  obtain ⟨T', h', X', e', E, EX, D, U, st1⟩ := newO X K.exec (K.warm hZ) (K.ko A) w wi wz eT (g := mkF κ.m pc Ls st) rfl (hb K.kb hd) (by rw [K.eR]; exact hc) (by rw [K.eR]; exact hl)
  obtain ⟨s₂, o, hs, r⟩ := hr h' h.size rfl (low_of (K.old B)) E EX D U T' _ vm0 X' (A.mono E.1) hZ N (B.ext E) e'
  exact ⟨s₂, o, st1 _ hs, r⟩
theorem newArr {aty : ArrayType} {n : Int32} {cap : Nat} {ad : String} (K : Ok κ l Z n0 own nm bytes maxL ret rm Q) (hd : decode bytes pc = .ok (.newarray aty, 2)) (w : (Cond.arrayClass (newarray.typeOf aty)).before a0 Z = true) (hn : ¬ n < 0) (hcap : n.toNatClampNeg ≤ cap) (hb8 : cap * 8 ≤ 536870912) (had : "[" ++ (newarray.typeOf aty).toString = ad)
    (hc : cells + 1 ≤ rm.cells) (hl : slots + cap ≤ rm.slots)
    (hr : ∀ h' a cA, a = h.size → n0 ≤ a → Ext h h' → Arr Z h' a (newA cA (newarray.typeOf aty) n) (newarray.typeOf aty) → Exa Z h' a ad → Go κ h' (cells + 1) (slots + cap) (pc + 2) Ls (.ref a :: st)) : Go κ h cells slots pc Ls (.int n :: st) := fun T locs vm0 X A hZ N B eT => by
  obtain ⟨T', h', cA, X', e', E, AR, EX, st1⟩ := newPE X K.exec (K.warm hZ) w eT (g := mkF κ.m pc Ls (.int n :: st)) rfl (hb K.kb hd) rfl hn hcap hb8 (by rw [K.eR]; exact hc) (by rw [K.eR]; exact hl) had
  obtain ⟨s₂, o, hs, r⟩ := hr h' h.size cA rfl (low_of (K.old B)) E AR EX T' _ vm0 X' (A.mono E.1) hZ N (B.ext E) e'
  exact ⟨s₂, o, st1 _ hs, r⟩
theorem anewArr {C : String} {index : Nat} {n : Int32} {cap : Nat} (K : Ok κ l Z n0 own nm bytes maxL ret rm Q) (hd : decode bytes pc = .ok (.anewarray index, 3)) (w1 : (Cond.classLink own index C).before a0 Z = true) (w2 : (Cond.arrayOver (.object C)).before a0 Z = true) (hn : ¬ n < 0) (hcap : n.toNatClampNeg ≤ cap) (hb8 : cap * 8 ≤ 536870912)
    (hc : cells + 1 ≤ rm.cells) (hl : slots + cap ≤ rm.slots)
    (hr : ∀ h' a cA, a = h.size → n0 ≤ a → Ext h h' → Arr Z h' a (newA cA (.object C) n) (.object C) → Ovr Z cA C → Go κ h' (cells + 1) (slots + cap) (pc + 3) Ls (.ref a :: st)) : Go κ h cells slots pc Ls (.int n :: st) := fun T locs vm0 X A hZ N B eT => by
  obtain ⟨T', h', cA, X', e', E, AR, OV, st1⟩ := newR X K.exec (K.warm hZ) (K.ko A) w1 w2 eT (g := mkF κ.m pc Ls (.int n :: st)) rfl (hb K.kb hd) rfl hn hcap hb8 (by rw [K.eR]; exact hc) (by rw [K.eR]; exact hl)
  obtain ⟨s₂, o, hs, r⟩ := hr h' h.size cA rfl (low_of (K.old B)) E AR OV T' _ vm0 X' (A.mono E.1) hZ N (B.ext E) e'
  exact ⟨s₂, o, st1 _ hs, r⟩
theorem arrLen {ty : FieldType} {a : Addr} {cl : Cell} {z : Int32} (K : Ok κ l Z n0 own nm bytes maxL ret rm Q) (hd : decode bytes pc = .ok (.arraylength, 1)) (A1 : Arr Z h a cl ty) (hz : cl.slots.size.toInt32 = z) (hr : Go κ h cells slots (pc + 1) Ls (.int z :: st)) : Go κ h cells slots pc Ls (.ref a :: st) := fun T locs vm0 X A hZ N B eT => by
  obtain ⟨s₂, o, hs, r⟩ := hr T locs vm0 X A hZ N B eT
  exact ⟨s₂, o, X.arraylength K.exec (by rw [eT]; exact A1.1) (State.isArrayOf_alike (K.warm hZ).alike A1.2.1) (g := mkF κ.m pc Ls (.ref a :: st)) rfl rfl (hb K.kb hd) _ (by rw [hz]; exact hs), r⟩
theorem iaload {a : Addr} {cl : Cell} {j : Int32} {v : Value} (K : Ok κ l Z n0 own nm bytes maxL ret rm Q) (hd : decode bytes pc = .ok (.iaload, 1)) (A1 : Arr Z h a cl .int) (hin : ¬ (j < 0 ∨ cl.slots.size ≤ j.toNatClampNeg)) (hv : cl.slots[j.toNatClampNeg]? = some v)
    (hr : Go κ h cells slots (pc + 1) Ls (v :: st)) : Go κ h cells slots pc Ls (.int j :: .ref a :: st) := fun T locs vm0 X A hZ N B eT => by
  obtain ⟨s₂, o, hs, r⟩ := hr T locs vm0 X A hZ N B eT
  exact ⟨s₂, o, X.iaload K.exec (by rw [eT]; exact A1.1) (State.isArrayOf_alike (K.warm hZ).alike A1.2.1) A1.2.2 hin hv (g := mkF κ.m pc Ls (.int j :: .ref a :: st)) rfl rfl (hb K.kb hd) _ hs, r⟩
theorem laload {a : Addr} {cl : Cell} {j : Int32} {v : Value} (K : Ok κ l Z n0 own nm bytes maxL ret rm Q) (hd : decode bytes pc = .ok (.laload, 1)) (A1 : Arr Z h a cl .long) (hin : ¬ (j < 0 ∨ cl.slots.size ≤ j.toNatClampNeg)) (hv : cl.slots[j.toNatClampNeg]? = some v)
    (hr : Go κ h cells slots (pc + 1) Ls (v :: st)) : Go κ h cells slots pc Ls (.int j :: .ref a :: st) := fun T locs vm0 X A hZ N B eT => by
  obtain ⟨s₂, o, hs, r⟩ := hr T locs vm0 X A hZ N B eT
  exact ⟨s₂, o, X.laload K.exec (by rw [eT]; exact A1.1) (State.isArrayOf_alike (K.warm hZ).alike A1.2.1) A1.2.2 hin hv (g := mkF κ.m pc Ls (.int j :: .ref a :: st)) rfl rfl (hb K.kb hd) _ hs, r⟩
theorem caload {a : Addr} {cl : Cell} {j : Int32} {v : Value} (K : Ok κ l Z n0 own nm bytes maxL ret rm Q) (hd : decode bytes pc = .ok (.caload, 1)) (A1 : Arr Z h a cl .char) (hin : ¬ (j < 0 ∨ cl.slots.size ≤ j.toNatClampNeg)) (hv : cl.slots[j.toNatClampNeg]? = some v)
    (hr : Go κ h cells slots (pc + 1) Ls (v :: st)) : Go κ h cells slots pc Ls (.int j :: .ref a :: st) := fun T locs vm0 X A hZ N B eT => by
  obtain ⟨s₂, o, hs, r⟩ := hr T locs vm0 X A hZ N B eT
  exact ⟨s₂, o, X.caload K.exec (by rw [eT]; exact A1.1) (State.isArrayOf_alike (K.warm hZ).alike A1.2.1) A1.2.2 hin hv (g := mkF κ.m pc Ls (.int j :: .ref a :: st)) rfl rfl (hb K.kb hd) _ hs, r⟩
theorem baload {a : Addr} {cl : Cell} {j : Int32} {v : Value} (K : Ok κ l Z n0 own nm bytes maxL ret rm Q) (hd : decode bytes pc = .ok (.baload, 1)) (A1 : Arr Z h a cl .byte) (hin : ¬ (j < 0 ∨ cl.slots.size ≤ j.toNatClampNeg)) (hv : cl.slots[j.toNatClampNeg]? = some v)
    (hr : Go κ h cells slots (pc + 1) Ls (v :: st)) : Go κ h cells slots pc Ls (.int j :: .ref a :: st) := fun T locs vm0 X A hZ N B eT => by
  obtain ⟨s₂, o, hs, r⟩ := hr T locs vm0 X A hZ N B eT
  exact ⟨s₂, o, X.baloadBytes K.exec (by rw [eT]; exact A1.1) (State.isArrayOf_alike (K.warm hZ).alike A1.2.1) A1.2.2 hin hv (g := mkF κ.m pc Ls (.int j :: .ref a :: st)) rfl rfl (hb K.kb hd) _ hs, r⟩
theorem iastore {a : Addr} {cl : Cell} {j : Int32} {x : Int32} (K : Ok κ l Z n0 own nm bytes maxL ret rm Q) (hd : decode bytes pc = .ok (.iastore, 1)) (A1 : Arr Z h a cl .int) (hj : ¬ (j < 0 ∨ cl.slots.size ≤ j.toNatClampNeg)) (ge : n0 ≤ a)
    (hr : ∀ h', Wr h h' a j.toNatClampNeg (.int x) → Go κ h' cells slots (pc + 1) Ls st) : Go κ h cells slots pc Ls (.int x :: .int j :: .ref a :: st) := fun T locs vm0 X A hZ N B eT => by
  obtain ⟨T', h', X', e', W, st1⟩ := stI X K.exec (K.warm hZ) eT A1 hj (g := mkF κ.m pc Ls (.int x :: .int j :: .ref a :: st)) rfl rfl (hb K.kb hd)
  obtain ⟨s₂, o, hs, r⟩ := hr h' W T' _ vm0 X' (A.mono (Nat.le_of_eq W.size.symm)) hZ (Fr.snoc X' N (by rw [K.en]; exact ge)) (B.wr W (by rw [K.en]; exact ge)) e'
  exact ⟨s₂, o, st1 _ hs, r⟩
theorem lastore {a : Addr} {cl : Cell} {j : Int32} {x : Int64} (K : Ok κ l Z n0 own nm bytes maxL ret rm Q) (hd : decode bytes pc = .ok (.lastore, 1)) (A1 : Arr Z h a cl .long) (hj : ¬ (j < 0 ∨ cl.slots.size ≤ j.toNatClampNeg)) (ge : n0 ≤ a)
    (hr : ∀ h', Wr h h' a j.toNatClampNeg (.long x) → Go κ h' cells slots (pc + 1) Ls st) : Go κ h cells slots pc Ls (.long x :: .int j :: .ref a :: st) := fun T locs vm0 X A hZ N B eT => by
  obtain ⟨T', h', X', e', W, st1⟩ := stJ X K.exec (K.warm hZ) eT A1 hj (g := mkF κ.m pc Ls (.long x :: .int j :: .ref a :: st)) rfl rfl (hb K.kb hd)
  obtain ⟨s₂, o, hs, r⟩ := hr h' W T' _ vm0 X' (A.mono (Nat.le_of_eq W.size.symm)) hZ (Fr.snoc X' N (by rw [K.en]; exact ge)) (B.wr W (by rw [K.en]; exact ge)) e'
  exact ⟨s₂, o, st1 _ hs, r⟩
theorem castore {a : Addr} {cl : Cell} {j : Int32} {x : Int32} (K : Ok κ l Z n0 own nm bytes maxL ret rm Q) (hd : decode bytes pc = .ok (.castore, 1)) (A1 : Arr Z h a cl .char) (hj : ¬ (j < 0 ∨ cl.slots.size ≤ j.toNatClampNeg)) (ge : n0 ≤ a)
    (hr : ∀ h', Wr h h' a j.toNatClampNeg (.int (nar .char x)) → Go κ h' cells slots (pc + 1) Ls st) : Go κ h cells slots pc Ls (.int x :: .int j :: .ref a :: st) := fun T locs vm0 X A hZ N B eT => by
  obtain ⟨T', h', X', e', W, st1⟩ := stC X K.exec (K.warm hZ) eT A1 hj (g := mkF κ.m pc Ls (.int x :: .int j :: .ref a :: st)) rfl rfl (hb K.kb hd)
  obtain ⟨s₂, o, hs, r⟩ := hr h' W T' _ vm0 X' (A.mono (Nat.le_of_eq W.size.symm)) hZ (Fr.snoc X' N (by rw [K.en]; exact ge)) (B.wr W (by rw [K.en]; exact ge)) e'
  exact ⟨s₂, o, st1 _ hs, r⟩
theorem bastore {a : Addr} {cl : Cell} {j : Int32} {x : Int32} (K : Ok κ l Z n0 own nm bytes maxL ret rm Q) (hd : decode bytes pc = .ok (.bastore, 1)) (A1 : Arr Z h a cl .byte) (hj : ¬ (j < 0 ∨ cl.slots.size ≤ j.toNatClampNeg)) (ge : n0 ≤ a)
    (hr : ∀ h', Wr h h' a j.toNatClampNeg (.int x.toInt8.toInt32) → Go κ h' cells slots (pc + 1) Ls st) : Go κ h cells slots pc Ls (.int x :: .int j :: .ref a :: st) := fun T locs vm0 X A hZ N B eT => by
  obtain ⟨T', h', X', e', W, st1⟩ := stB X K.exec (K.warm hZ) eT A1 hj (g := mkF κ.m pc Ls (.int x :: .int j :: .ref a :: st)) rfl rfl (hb K.kb hd)
  obtain ⟨s₂, o, hs, r⟩ := hr h' W T' _ vm0 X' (A.mono (Nat.le_of_eq W.size.symm)) hZ (Fr.snoc X' N (by rw [K.en]; exact ge)) (B.wr W (by rw [K.en]; exact ge)) e'
  exact ⟨s₂, o, st1 _ hs, r⟩
theorem aaload {ty : FieldType} {a : Addr} {cl : Cell} {j : Int32} {v : Value} (K : Ok κ l Z n0 own nm bytes maxL ret rm Q) (hd : decode bytes pc = .ok (.aaload, 1)) (A1 : Arr Z h a cl ty) (hty : ty.isReference = true) (hin : ¬ (j < 0 ∨ cl.slots.size ≤ j.toNatClampNeg)) (hv : cl.slots[j.toNatClampNeg]? = some v)
    (hr : Go κ h cells slots (pc + 1) Ls (v :: st)) : Go κ h cells slots pc Ls (.int j :: .ref a :: st) := fun T locs vm0 X A hZ N B eT => by
  obtain ⟨s₂, o, hs, r⟩ := hr T locs vm0 X A hZ N B eT
  exact ⟨s₂, o, X.aaload K.exec (by rw [eT]; exact A1.1) (State.isArrayOf_alike (K.warm hZ).alike A1.2.1) hty A1.2.2 hin hv (g := mkF κ.m pc Ls (.int j :: .ref a :: st)) rfl rfl (hb K.kb hd) _ hs, r⟩
theorem aastore {ty : FieldType} {a : Addr} {cl : Cell} {j : Int32} {v : Value} (K : Ok κ l Z n0 own nm bytes maxL ret rm Q) (hd : decode bytes pc = .ok (.aastore, 1)) (A1 : Arr Z h a cl ty) (hj : ¬ (j < 0 ∨ cl.slots.size ≤ j.toNatClampNeg)) (hty : ty.isReference = true) (F : Sto Z h a v) (ge : n0 ≤ a)
    (hr : ∀ h', Wr h h' a j.toNatClampNeg v → Go κ h' cells slots (pc + 1) Ls st) : Go κ h cells slots pc Ls (v :: .int j :: .ref a :: st) := fun T locs vm0 X A hZ N B eT => by
  obtain ⟨T', h', X', e', W, st1⟩ := stR X K.exec (K.warm hZ) eT A1 hj hty F (g := mkF κ.m pc Ls (v :: .int j :: .ref a :: st)) rfl rfl (hb K.kb hd)
  obtain ⟨s₂, o, hs, r⟩ := hr h' W T' _ vm0 X' (A.mono (Nat.le_of_eq W.size.symm)) hZ (Fr.snoc X' N (by rw [K.en]; exact ge)) (B.wr W (by rw [K.en]; exact ge)) e'
  exact ⟨s₂, o, st1 _ hs, r⟩
theorem castOk {C : String} {index : Nat} {a : Addr} (K : Ok κ l Z n0 own nm bytes maxL ret rm Q) (hd : decode bytes pc = .ok (.checkcast index, 3)) (w : (Cond.classLink own index C).before a0 Z = true) (F : Ins Z h a C true) (hr : Go κ h cells slots (pc + 3) Ls (.ref a :: st)) : Go κ h cells slots pc Ls (.ref a :: st) := fun T locs vm0 X A hZ N B eT => by
  obtain ⟨T', X', e', st1⟩ := castY X K.exec (K.warm hZ) (K.ko A) w eT F (g := mkF κ.m pc Ls (.ref a :: st)) rfl rfl (hb K.kb hd)
  obtain ⟨s₂, o, hs, r⟩ := hr T' locs vm0 X' A hZ N B e'
  exact ⟨s₂, o, st1 _ hs, r⟩
theorem instYes {C : String} {index : Nat} {a : Addr} (K : Ok κ l Z n0 own nm bytes maxL ret rm Q) (hd : decode bytes pc = .ok (.instanceof index, 3)) (w : (Cond.classLink own index C).before a0 Z = true) (F : Ins Z h a C true) (hr : Go κ h cells slots (pc + 3) Ls (.int 1 :: st)) : Go κ h cells slots pc Ls (.ref a :: st) := fun T locs vm0 X A hZ N B eT => by
  obtain ⟨T', X', e', st1⟩ := instY X K.exec (K.warm hZ) (K.ko A) w eT F (g := mkF κ.m pc Ls (.ref a :: st)) rfl rfl (hb K.kb hd)
  obtain ⟨s₂, o, hs, r⟩ := hr T' locs vm0 X' A hZ N B e'
  exact ⟨s₂, o, st1 _ hs, r⟩
theorem instNot {C C' : String} {index : Nat} {a : Addr} (K : Ok κ l Z n0 own nm bytes maxL ret rm Q) (hd : decode bytes pc = .ok (.instanceof index, 3)) (w : (Cond.classLink own index C).before a0 Z = true) (E : Exa Z h a C') (F : ∃ c t, Z.vm.findClass C' = some c ∧ Z.vm.findClass C = some t ∧ Z.vm.assignable c t = false)
    (hr : Go κ h cells slots (pc + 3) Ls (.int 0 :: st)) : Go κ h cells slots pc Ls (.ref a :: st) := fun T locs vm0 X A hZ N B eT => by
  obtain ⟨T', X', e', st1⟩ := instNo X K.exec (K.warm hZ) (K.ko A) w eT E F (g := mkF κ.m pc Ls (.ref a :: st)) rfl rfl (hb K.kb hd)
  obtain ⟨s₂, o, hs, r⟩ := hr T' locs vm0 X' A hZ N B e'
  exact ⟨s₂, o, st1 _ hs, r⟩
theorem getfieldZ {R0 O n d host : String} {index : Nat} {a : Addr} {v : Value} (K : Ok κ l Z n0 own nm bytes maxL ret rm Q) (hd : decode bytes pc = .ok (.getfield index, 3))
    (w : (Cond.fieldLink own index R0 n d).before a0 Z = true ∨ (Cond.fieldLinkNest own index R0 n d host).before a0 Z = true) (via : Via Z R0 O n d) (F : Fld Z Z.heap a O n d v) (hr : Go κ h cells slots (pc + 3) Ls (v :: st)) : Go κ h cells slots pc Ls (.ref a :: st) :=
  old K fun B => getfield K hd w via (F.ext B.2) hr
theorem getstaticZ {R0 O n d host : String} {index : Nat} {v : Value} (K : Ok κ l Z n0 own nm bytes maxL ret rm Q) (hd : decode bytes pc = .ok (.getstatic index, 3))
    (w : (Cond.fieldLink own index R0 n d).before a0 Z = true ∨ (Cond.fieldLinkNest own index R0 n d host).before a0 Z = true) (via : Via Z R0 O n d) (F : Sta Z Z.heap O n d v) (hr : Go κ h cells slots (pc + 3) Ls (v :: st)) : Go κ h cells slots pc Ls st :=
  old K fun B => getstatic K hd w via (F.ext B.2) hr
/-! ## calls -/
section Calls
variable {y z : MethodName} {bytes' : ByteArray} {maxL' W index : Nat} {ret' : Option FieldType} {rm' : Room} {Q' : Option Value → Heap → Prop} {argsL rest : List Value} {as' : Array Value}
theorem Con.narrow (C : Con false l Z n0 y bytes' maxL' ret' rm' as' h Q') (g : Old Z n0 h) : MetFree l y (head1 [Cond.code y bytes' maxL' ret'] rm') (fun a U => a = as' ∧ Z.Warmed39 U.vm ∧ U.heap = h) (fun _ _ _ _ _ => True)
    (fun _ U o U' => ∃ v L, o = .returned v ∧ (Q' v U'.heap ∧ Fr n0 L ∧ h.size ≤ U'.heap.size ∧ Old Z n0 U'.heap) ∧ FrameEnd U o U' L rm'.cells rm'.slots) := fun p e ha hc hk s m args below hf happ hP hK => by
  obtain ⟨n, o, a1, a2, a3, v, L, e1, ⟨q1, q2, q3⟩, E⟩ := C g [] p e ha hc hk s m args below hf happ hP hK
  exact ⟨n, o, a1, a2, a3, v, L, e1, ⟨q1, q2, hP.2.2 ▸ q3.1, q3.2⟩, E.1 rfl⟩
theorem Con.mono {wide : Bool} {Q2 : Option Value → Heap → Prop} (C : Con wide l Z n0 y bytes' maxL' ret' rm' as' h Q') (hq : ∀ v h', Q' v h' → Q2 v h') : Con wide l Z n0 y bytes' maxL' ret' rm' as' h Q2 := fun g ws p e ha hc hk s m args below hf happ hP hK => by
  obtain ⟨n, o, a1, a2, a3, v, L, e1, ⟨q1, q2, q3⟩, E⟩ := C g ws p e ha hc hk s m args below hf happ hP hK
  exact ⟨n, o, a1, a2, a3, v, L, e1, ⟨hq _ _ q1, q2, q3⟩, E⟩
theorem finish (K : Ok κ l Z n0 own nm bytes maxL ret rm Q) {T U0 : State} {locs : List Loc} {vm0 : Vm} {pc' : Nat} (A : κ.adm vm0 h.size) (hZ : κ.Z.Warmed39 vm0) (N : Fr κ.n0 locs)
    (hr : ∀ v h', Q' v h' → h.size ≤ h'.size → Go κ h' (cells + rm'.cells) (slots + rm'.slots) pc' Ls (v.toList ++ rest)) {v : Option Value} {B : Pt} (X' : Stand κ.p κ.l κ.e κ.R (κ.s.setVm vm0) κ.m κ.args κ.below κ.meth κ.c B.U B.locs B.cells B.slots)
    (P : ∃ L, (Q' v B.U.heap ∧ Fr n0 L ∧ h.size ≤ B.U.heap.size ∧ Old Z n0 B.U.heap) ∧ B.locs = locs ++ L ∧ B.cells = cells + rm'.cells ∧ B.slots = slots + rm'.slots) (st1 : ∀ target, Steps κ.p.tables κ.e κ.below (B.U.setTop (mkF κ.m pc' Ls (v.toList ++ rest))) target → Steps κ.p.tables κ.e κ.below U0 target) :
    ∃ s₂ o, Steps κ.p.tables κ.e κ.below U0 s₂ ∧ s₂.status = .running ∧ Ended s₂ κ.below o ∧ ∃ v L, o = .returned v ∧ (κ.Q v s₂.heap ∧ Fr κ.n0 L ∧ κ.s.heap.size ≤ s₂.heap.size ∧ Old κ.Z κ.n0 s₂.heap) ∧ Ends κ.wide κ.s o s₂ L κ.R.cells κ.R.slots := by
  obtain ⟨L, ⟨q1, q2, q3, q4⟩, e1, e2, e3⟩ := P
  rw [e1, e2, e3] at X'
  obtain ⟨s₂, o, hs, r⟩ := hr v _ q1 q3 B.U _ vm0 X' (A.mono q3) hZ (N.app (by rw [K.en]; exact q2)) (K.oldS q4) rfl
  exact ⟨s₂, o, st1 _ hs, r⟩
theorem W0 {m : MethodId} {g : List Value} (hW : (rest.map fun v => v.category).sum ≤ W) : 2 * (mkF m pc Ls g).monitorRoom + (rest.map fun v => v.category).sum ≤ W := by
  show 2 * 0 + _ ≤ _; omega
theorem invS (K : Ok κ l Z n0 own nm bytes maxL ret rm Q) (C : Con false l Z n0 y bytes' maxL' ret' rm' argsL.toArray h Q') (hd : decode bytes pc = .ok (.invokestatic index, 3))
    (w1 : (Cond.methodLink own index y).before a0 Z = true) (w2 : (Cond.static y).before a0 Z = true) (w3 : (Cond.initialized y.cls).before a0 Z = true) (w4 : (Cond.code y bytes' maxL' ret').before a0 Z = true) (hy : y.cls ≠ "java/lang/invoke/MethodHandle" ∧ y.cls ≠ "java/lang/invoke/VarHandle")
    (hlen : ∀ sig, parseMethodDescriptor y.desc = some sig → argsL.length = sig.parameters.length) (hst : st = argsL.reverse ++ rest) (hsz : Ls.size = maxL) (hW : (rest.map fun v => v.category).sum ≤ W) (hf : rm'.frames + 1 ≤ rm.frames) (hl : W + (maxL' + 11) + rm'.locals ≤ rm.locals) (hc : cells + rm'.cells ≤ rm.cells) (hs : slots + rm'.slots ≤ rm.slots)
    (hr : ∀ v h', Q' v h' → h.size ≤ h'.size → Go κ h' (cells + rm'.cells) (slots + rm'.slots) (pc + 3) Ls (v.toList ++ rest)) : Go κ h cells slots pc Ls st := fun T locs vm0 X A hZ N OB eT => by
  have hZ' := K.warm hZ
  have eR := K.eR
  obtain ⟨v, vm₁, B, -, X', P, st1⟩ := Jvm.LawKit.callS X K.exec (K.ko A) (mvT hZ' w1) (mvT hZ' w2) (mvT hZ' w3) (mvT hZ' w4) hy (backOf (W := W) (R := κ.R) (rm := rm') (Q := fun v h' L => Q' v h' ∧ Fr n0 L ∧ h.size ≤ h'.size ∧ Old Z n0 h') (by rw [K.el]; exact C.narrow (K.old OB)) hZ' w4 w3 (by rw [eR]; exact hf) (by rw [eR]; exact hl)) (g := mkF κ.m pc Ls st) rfl (by rw [K.kl]; exact hsz) hlen hst (W0 hW) (hb K.kb hd)
    (fun _ _ => ⟨rfl, eT, by rw [eR]; exact hc, by rw [eR]; exact hs⟩)
  exact finish K (T := T) A hZ N hr X' P st1
theorem invV {CC : String} {b : Addr} (K : Ok κ l Z n0 own nm bytes maxL ret rm Q) (C : Con false l Z n0 z bytes' maxL' ret' rm' (.ref b :: argsL).toArray h Q') (hd : decode bytes pc = .ok (.invokevirtual index, 3)) (E : Exa Z h b CC)
    (w1 : (Cond.methodLink own index y).before a0 Z = true) (w2 : (Cond.declares y).before a0 Z = true) (hnf : ∀ s : State, Z.Warmed39 s.vm → NotFace s y) (w3 : (Cond.selects CC y z).before a0 Z = true) (w4 : (Cond.instanceMethod z).before a0 Z = true) (w5 : (Cond.code z bytes' maxL' ret').before a0 Z = true) (w6 : (Cond.initialized z.cls).before a0 Z = true)
    (hy : y.cls ≠ "java/lang/invoke/MethodHandle" ∧ y.cls ≠ "java/lang/invoke/VarHandle")
    (hlen : ∀ sig, parseMethodDescriptor y.desc = some sig → argsL.length = sig.parameters.length) (hst : st = argsL.reverse ++ .ref b :: rest) (hsz : Ls.size = maxL) (hW : (rest.map fun v => v.category).sum ≤ W) (hf : rm'.frames + 1 ≤ rm.frames) (hl : W + (maxL' + 11) + rm'.locals ≤ rm.locals) (hc : cells + rm'.cells ≤ rm.cells) (hs : slots + rm'.slots ≤ rm.slots)
    (hr : ∀ v h', Q' v h' → h.size ≤ h'.size → Go κ h' (cells + rm'.cells) (slots + rm'.slots) (pc + 3) Ls (v.toList ++ rest)) : Go κ h cells slots pc Ls st := fun T locs vm0 X A hZ N OB eT => by
  have hZ' := K.warm hZ
  have eR := K.eR
  obtain ⟨cB, kB, q1, -, q3⟩ := isOf hZ' eT E
  obtain ⟨v, vm₁, B, -, X', P, st1⟩ := X.virtualBack K.exec (y := y) (z := z) (K.ko A) (mvT hZ' w1) (mvT hZ' w2) (hnf _ hZ') (mvT hZ' w3) (mvT hZ' w4) hy (backOf (W := W) (R := κ.R) (rm := rm') (Q := fun v h' L => Q' v h' ∧ Fr n0 L ∧ h.size ≤ h'.size ∧ Old Z n0 h') (by rw [K.el]; exact C.narrow (K.old OB)) hZ' w5 w6 (by rw [eR]; exact hf) (by rw [eR]; exact hl)) q1 q3 (g := mkF κ.m pc Ls st) rfl (by rw [K.kl]; exact hsz) (Steps.refl _) hlen hst (W0 hW) (hb K.kb hd)
    (fun _ _ => ⟨rfl, eT, by rw [eR]; exact hc, by rw [eR]; exact hs⟩)
  exact finish K (T := T) A hZ N hr X' P (fun _ k => st1.trans k)
theorem nfS {CC : String} (w : (Cond.selects CC y y).before a0 Z = true) : ∀ s : State, Z.Warmed39 s.vm → NotFace s y := fun s hZ => notFace_of_selects (args := #[]) (mvT hZ w)
theorem nfU {S : String} (w : (Cond.superclass y.cls S).before a0 Z = true) : ∀ s : State, Z.Warmed39 s.vm → NotFace s y := fun s hZ => nf_super (args := #[]) (mvT hZ w)
theorem invVU {CC owner : String} {b : Addr} (K : Ok κ l Z n0 own nm bytes maxL ret rm Q) (C : Con false l Z n0 z bytes' maxL' ret' rm' (.ref b :: argsL).toArray h Q') (hd : decode bytes pc = .ok (.invokevirtual index, 3)) (E : Exa Z h b CC)
    (w1 : (Cond.methodLink own index y).before a0 Z = true) (w2 : (Cond.sameMethod y.cls owner y.name y.desc).before a0 Z = true) (w2' : (Cond.declares ⟨owner, y.name, y.desc⟩).before a0 Z = true) (hy : owner ≠ "java/lang/invoke/MethodHandle" ∧ owner ≠ "java/lang/invoke/VarHandle")
    (w3 : (Cond.selects CC y z).before a0 Z = true) (w4 : (Cond.instanceMethod z).before a0 Z = true) (w5 : (Cond.code z bytes' maxL' ret').before a0 Z = true) (w6 : (Cond.initialized z.cls).before a0 Z = true)
    (hlen : ∀ sig, parseMethodDescriptor y.desc = some sig → argsL.length = sig.parameters.length) (hst : st = argsL.reverse ++ .ref b :: rest) (hsz : Ls.size = maxL) (hW : (rest.map fun v => v.category).sum ≤ W) (hf : rm'.frames + 1 ≤ rm.frames) (hl : W + (maxL' + 11) + rm'.locals ≤ rm.locals) (hc : cells + rm'.cells ≤ rm.cells) (hs : slots + rm'.slots ≤ rm.slots)
    (hr : ∀ v h', Q' v h' → h.size ≤ h'.size → Go κ h' (cells + rm'.cells) (slots + rm'.slots) (pc + 3) Ls (v.toList ++ rest)) : Go κ h cells slots pc Ls st := fun T locs vm0 X A hZ N OB eT => by
  have hZ' := K.warm hZ
  have eR := K.eR
  obtain ⟨cB, kB, q1, -, q3⟩ := isOf hZ' eT E
  obtain ⟨v, vm₁, B, -, X', P, st1⟩ := X.virtualBackUp K.exec (x := y) (y := z) (K.ko A) (mvT hZ' w1) (mvT hZ' w2) (mvT hZ' w2') hy (mvT hZ' w3) (mvT hZ' w4) (backOf (W := W) (R := κ.R) (rm := rm') (Q := fun v h' L => Q' v h' ∧ Fr n0 L ∧ h.size ≤ h'.size ∧ Old Z n0 h') (by rw [K.el]; exact C.narrow (K.old OB)) hZ' w5 w6 (by rw [eR]; exact hf) (by rw [eR]; exact hl)) q1 q3 (g := mkF κ.m pc Ls st) rfl (by rw [K.kl]; exact hsz) (Steps.refl _) hlen hst (W0 hW) (hb K.kb hd)
    (fun _ _ => ⟨rfl, eT, by rw [eR]; exact hc, by rw [eR]; exact hs⟩)
  exact finish K (T := T) A hZ N hr X' P (fun _ k => st1.trans k)
theorem invP {CC : String} {b : Addr} (K : Ok κ l Z n0 own nm bytes maxL ret rm Q) (C : Con false l Z n0 y bytes' maxL' ret' rm' (.ref b :: argsL).toArray h Q') (hd : decode bytes pc = .ok (.invokevirtual index, 3)) (E : Exa Z h b CC)
    (w1 : (Cond.methodLink own index y).before a0 Z = true) (w2 : (Cond.instanceMethod y).before a0 Z = true) (w3 : (Cond.selects y.cls y y).before a0 Z = true) (w4 : (Cond.privateMethod y).before a0 Z = true) (w5 : (Cond.code y bytes' maxL' ret').before a0 Z = true) (w6 : (Cond.initialized y.cls).before a0 Z = true)
    (hy : y.cls ≠ "java/lang/invoke/MethodHandle" ∧ y.cls ≠ "java/lang/invoke/VarHandle")
    (hlen : ∀ sig, parseMethodDescriptor y.desc = some sig → argsL.length = sig.parameters.length) (hst : st = argsL.reverse ++ .ref b :: rest) (hsz : Ls.size = maxL) (hW : (rest.map fun v => v.category).sum ≤ W) (hf : rm'.frames + 1 ≤ rm.frames) (hl : W + (maxL' + 11) + rm'.locals ≤ rm.locals) (hc : cells + rm'.cells ≤ rm.cells) (hs : slots + rm'.slots ≤ rm.slots)
    (hr : ∀ v h', Q' v h' → h.size ≤ h'.size → Go κ h' (cells + rm'.cells) (slots + rm'.slots) (pc + 3) Ls (v.toList ++ rest)) : Go κ h cells slots pc Ls st := fun T locs vm0 X A hZ N OB eT => by
  have hZ' := K.warm hZ
  have eR := K.eR
  obtain ⟨cell, hcell, hobj⟩ := E.cell
  obtain ⟨v, vm₁, B, -, X', P, st1⟩ := X.privateBack K.exec (y := y) (K.ko A) (mvT hZ' w1) (mvT hZ' w2) (mvT hZ' w3) (Cond.privateMethod_at (mvP (args := #[]) hZ' w4)) (mvT hZ' w5) hy (backOf (W := W) (R := κ.R) (rm := rm') (Q := fun v h' L => Q' v h' ∧ Fr n0 L ∧ h.size ≤ h'.size ∧ Old Z n0 h') (by rw [K.el]; exact C.narrow (K.old OB)) hZ' w5 w6 (by rw [eR]; exact hf) (by rw [eR]; exact hl)) (g := mkF κ.m pc Ls st) rfl (by rw [K.kl]; exact hsz) (Steps.refl _) (a := b) (cell := cell) (by rw [eT]; exact hcell) hobj hlen hst (W0 hW) (hb K.kb hd)
    (fun _ _ => ⟨rfl, eT, by rw [eR]; exact hc, by rw [eR]; exact hs⟩)
  exact finish K (T := T) A hZ N hr X' P (fun _ k => st1.trans k)
theorem invI {CC : String} {b : Addr} {count : Nat} (K : Ok κ l Z n0 own nm bytes maxL ret rm Q) (C : Con false l Z n0 z bytes' maxL' ret' rm' (.ref b :: argsL).toArray h Q') (hd : decode bytes pc = .ok (.invokeinterface index count, 5)) (E : Exa Z h b CC)
    (w1 : (Cond.methodLink own index y).before a0 Z = true) (w2 : (Cond.declares y).before a0 Z = true) (w2' : (Cond.interfaceMethod y.cls y.cls y.name y.desc).before a0 Z = true) (w3 : (Cond.selects CC y z).before a0 Z = true) (w4 : (Cond.instanceMethod z).before a0 Z = true) (w4' : (Cond.publicMethod z).before a0 Z = true) (w4'' : (Cond.unhidden CC y.name y.desc).before a0 Z = true) (w7 : (Cond.castable CC y.cls).before a0 Z = true)
    (w5 : (Cond.code z bytes' maxL' ret').before a0 Z = true) (w6 : (Cond.initialized z.cls).before a0 Z = true)
    (hy : y.cls ≠ "java/lang/invoke/MethodHandle" ∧ y.cls ≠ "java/lang/invoke/VarHandle")
    (hlen : ∀ sig, parseMethodDescriptor y.desc = some sig → argsL.length = sig.parameters.length) (hst : st = argsL.reverse ++ .ref b :: rest) (hsz : Ls.size = maxL) (hW : (rest.map fun v => v.category).sum ≤ W) (hf : rm'.frames + 1 ≤ rm.frames) (hl : W + (maxL' + 11) + rm'.locals ≤ rm.locals) (hc : cells + rm'.cells ≤ rm.cells) (hs : slots + rm'.slots ≤ rm.slots)
    (hr : ∀ v h', Q' v h' → h.size ≤ h'.size → Go κ h' (cells + rm'.cells) (slots + rm'.slots) (pc + 5) Ls (v.toList ++ rest)) : Go κ h cells slots pc Ls st := fun T locs vm0 X A hZ N OB eT => by
  have hZ' := K.warm hZ
  have eR := K.eR
  obtain ⟨cB, kB, q1, q2, q3⟩ := isOf hZ' eT E
  obtain ⟨v, vm₁, B, -, X', P, st1⟩ := X.interfaceBack K.exec (xi := y) (y := z) (K.ko A) (mvT hZ' w1) (mvT hZ' w2) (Jvm.Free.ULB.iface_rides hZ'.alike w2') (mvT hZ' w3) (mvT hZ' w4) (mvT hZ' w4') (mvT hZ' w4'') (mvT hZ' w7) hy (backOf (W := W) (R := κ.R) (rm := rm') (Q := fun v h' L => Q' v h' ∧ Fr n0 L ∧ h.size ≤ h'.size ∧ Old Z n0 h') (by rw [K.el]; exact C.narrow (K.old OB)) hZ' w5 w6 (by rw [eR]; exact hf) (by rw [eR]; exact hl)) q1 q2 q3 (g := mkF κ.m pc Ls st) rfl (by rw [K.kl]; exact hsz) (Steps.refl _) hlen hst (W0 hW) (hb K.kb hd)
    (fun _ _ => ⟨rfl, eT, by rw [eR]; exact hc, by rw [eR]; exact hs⟩)
  exact finish K (T := T) A hZ N hr X' P (fun _ k => st1.trans k)
theorem invC {b : Addr} (K : Ok κ l Z n0 own nm bytes maxL ret rm Q) (C : Con false l Z n0 y bytes' maxL' none rm' (.ref b :: argsL).toArray h Q') (hd : decode bytes pc = .ok (.invokespecial index, 3)) (hy1 : y.name = "<init>")
    (w1 : (Cond.methodLink own index y).before a0 Z = true) (w2 : (Cond.instanceMethod y).before a0 Z = true) (w5 : (Cond.code y bytes' maxL' none).before a0 Z = true) (w6 : (Cond.initialized y.cls).before a0 Z = true)
    (hy : y.cls ≠ "java/lang/invoke/MethodHandle" ∧ y.cls ≠ "java/lang/invoke/VarHandle")
    (hlen : ∀ sig, parseMethodDescriptor y.desc = some sig → argsL.length = sig.parameters.length) (hst : st = argsL.reverse ++ .ref b :: rest) (hsz : Ls.size = maxL) (hW : (rest.map fun v => v.category).sum ≤ W) (hf : rm'.frames + 1 ≤ rm.frames) (hl : W + (maxL' + 11) + rm'.locals ≤ rm.locals) (hc : cells + rm'.cells ≤ rm.cells) (hs : slots + rm'.slots ≤ rm.slots)
    (hr : ∀ v h', Q' v h' → h.size ≤ h'.size → Go κ h' (cells + rm'.cells) (slots + rm'.slots) (pc + 3) Ls (v.toList ++ rest)) : Go κ h cells slots pc Ls st := fun T locs vm0 X A hZ N OB eT => by
  have hZ' := K.warm hZ
  have eR := K.eR
  obtain ⟨v, vm₁, B, -, X', P, st1⟩ := X.specialBack K.exec (y := y) hy1 (K.ko A) (mvT hZ' w1) (mvT hZ' w2) (mvT hZ' w5) hy (backOf (W := W) (R := κ.R) (rm := rm') (Q := fun v h' L => Q' v h' ∧ Fr n0 L ∧ h.size ≤ h'.size ∧ Old Z n0 h') (by rw [K.el]; exact C.narrow (K.old OB)) hZ' w5 w6 (by rw [eR]; exact hf) (by rw [eR]; exact hl)) (g := mkF κ.m pc Ls st) rfl (by rw [K.kl]; exact hsz) (Steps.refl _) (a := b) hlen hst (W0 hW) (hb K.kb hd)
    (fun _ _ => ⟨rfl, eT, by rw [eR]; exact hc, by rw [eR]; exact hs⟩)
  exact finish K (T := T) A hZ N hr X' P (fun _ k => st1.trans k)
theorem mvMN {s : State} {args : Array Value} {own' host : String} {i : Nat} (hZ : Z.Warmed39 s.vm) (w : (Cond.methodLinkNest own' i y host).before a0 Z = true) : (Cond.methodLinkNest own' i y host).before args s = true := (Cond.methodLinkNest_wide hZ w :)
theorem invCN {host : String} {b : Addr} (K : Ok κ l Z n0 own nm bytes maxL ret rm Q) (C : Con false l Z n0 y bytes' maxL' none rm' (.ref b :: argsL).toArray h Q') (hd : decode bytes pc = .ok (.invokespecial index, 3)) (hy1 : y.name = "<init>")
    (w1 : (Cond.methodLinkNest own index y host).before a0 Z = true) (w2 : (Cond.instanceMethod y).before a0 Z = true) (w5 : (Cond.code y bytes' maxL' none).before a0 Z = true) (w6 : (Cond.initialized y.cls).before a0 Z = true)
    (hy : y.cls ≠ "java/lang/invoke/MethodHandle" ∧ y.cls ≠ "java/lang/invoke/VarHandle")
    (hlen : ∀ sig, parseMethodDescriptor y.desc = some sig → argsL.length = sig.parameters.length) (hst : st = argsL.reverse ++ .ref b :: rest) (hsz : Ls.size = maxL) (hW : (rest.map fun v => v.category).sum ≤ W) (hf : rm'.frames + 1 ≤ rm.frames) (hl : W + (maxL' + 11) + rm'.locals ≤ rm.locals) (hc : cells + rm'.cells ≤ rm.cells) (hs : slots + rm'.slots ≤ rm.slots)
    (hr : ∀ v h', Q' v h' → h.size ≤ h'.size → Go κ h' (cells + rm'.cells) (slots + rm'.slots) (pc + 3) Ls (v.toList ++ rest)) : Go κ h cells slots pc Ls st := fun T locs vm0 X A hZ N OB eT => by
  have hZ' := K.warm hZ
  have eR := K.eR
  obtain ⟨v, vm₁, B, -, X', P, st1⟩ := X.specialBackNest K.exec (y := y) hy1 (K.ko A) (mvMN hZ' w1) (mvT hZ' w2) (mvT hZ' w5) hy (backOf (W := W) (R := κ.R) (rm := rm') (Q := fun v h' L => Q' v h' ∧ Fr n0 L ∧ h.size ≤ h'.size ∧ Old Z n0 h') (by rw [K.el]; exact C.narrow (K.old OB)) hZ' w5 w6 (by rw [eR]; exact hf) (by rw [eR]; exact hl)) (g := mkF κ.m pc Ls st) rfl (by rw [K.kl]; exact hsz) (Steps.refl _) (a := b) hlen hst (W0 hW) (hb K.kb hd)
    (fun _ _ => ⟨rfl, eT, by rw [eR]; exact hc, by rw [eR]; exact hs⟩)
  exact finish K (T := T) A hZ N hr X' P (fun _ k => st1.trans k)
theorem invO {a : Addr} (K : Ok κ l Z n0 own nm bytes maxL ret rm Q) (hd : decode bytes pc = .ok (.invokespecial index, 3)) (w1 : (Cond.methodLink own index Lib.objectInit).before a0 Z = true) (w2 : (Cond.instanceMethod Lib.objectInit).before a0 Z = true) (w3 : (Cond.code Lib.objectInit ⟨#[0xb1]⟩ 1 none).before a0 Z = true)
    (hsz : Ls.size = maxL) (hf : 1 ≤ rm.frames) (hW : (st.map fun v => v.category).sum ≤ W) (hl : W + 12 ≤ rm.locals) (hr : Go κ h cells slots (pc + 3) Ls st) : Go κ h cells slots pc Ls (.ref a :: st) := fun T locs vm0 X A hZ N B eT => by
  obtain ⟨T', X', e', st1⟩ := initO X K.exec (K.warm hZ) (K.ko A) w1 w2 w3 eT (g := mkF κ.m pc Ls (.ref a :: st)) rfl (by rw [K.kl]; exact hsz) rfl (hb K.kb hd) (by rw [K.eR]; exact hf) (W := W) (W0 hW) (by rw [K.eR]; exact hl)
  obtain ⟨s₂, o, hs, r⟩ := hr T' locs vm0 X' A hZ N B e'
  exact ⟨s₂, o, st1 _ hs, r⟩
/-- a body's walk makes the contract -/
theorem Con.of {wide : Bool} (hpn : plainFor y = true)
    (H : ∀ κ : Cx, κ.wide = wide → Ok κ l Z n0 y.cls y.name bytes' maxL' ret' rm' Q' → Go κ h 0 0 0 (entryFrame κ.m as' maxL').locals []) (hfr : ∀ m : MethodId, entryFrame m as' maxL' = mkF m 0 (entryFrame m as' maxL').locals [] := by intro m; rfl) : Con wide l Z n0 y bytes' maxL' ret' rm' as' h Q' := by
  intro hn ws
  refine MetFree.of_bodySF hpn hisR ?_
  intro p e s m args below meth c s₁ Bd hml0 hP hK
  obtain ⟨rfl, hZ, hh⟩ := hP
  have X0 : Stand p l e rm' s m args below meth c s₁ [] 0 0 := Stand.of_body Bd
  have e0 : s₁.heap = h := by rw [← hh, Bd.state]; rfl
  let κ : Cx := ((p, l, e, rm', s, m, args, below, meth, c), (wide, Z, n0, Q'))
  have K : Ok κ l Z n0 y.cls y.name bytes' maxL' ret' rm' Q' := ⟨rfl, rfl, rfl, rfl, Bd.exec, findClass_of_methodNamed Bd.named, Bd.bytes, hml0, Bd.returns, (name_of_methodNamed Bd.named Bd.method).1, Bd.notSynchronized, rfl⟩
  obtain ⟨s₂, o, hs, r1, r2, v, L, e1, q, E⟩ := H κ rfl K s₁ [] s.vm X0 ⟨⟨s.heap.size, (State.WarmedH.refl s).since _, by rw [← hh]; exact Nat.le_refl _⟩, fun _ => rfl⟩ hZ (Fr.nil _) hn e0
  exact ⟨s₂, o, castTop (hfr m) hs, r1, r2, v, L, e1, q, E⟩
end Calls
theorem catR {v : Value} (h : v.isRef = true) : v.category = 1 := by rcases ref_cases h with rfl | ⟨a, rfl⟩ <;> rfl
/-! ## lcmp -/
theorem cmp_lt (x y : Int64) : (XT.cmpL x y).toInt < 0 ↔ x.toInt < y.toInt := by
  unfold XT.cmpL; rw [← Int64.lt_iff_toInt_lt]
  by_cases h1 : y < x
  · simp only [h1, if_true]; constructor
    · intro h; exact absurd h (by decide)
    · intro h; rw [Int64.lt_iff_toInt_lt] at h h1; omega
  · by_cases h2 : x = y
    · subst h2; simp only [h1, if_true, if_false]; simp
    · simp only [h1, h2, if_false]
      have h3 : x < y := by rw [Int64.lt_iff_toInt_lt] at h1 ⊢; rw [← Int64.toInt_inj] at h2; omega
      exact ⟨fun _ => h3, fun _ => by decide⟩
theorem cmp_gt (x y : Int64) : 0 < (XT.cmpL x y).toInt ↔ y.toInt < x.toInt := by
  unfold XT.cmpL; rw [← Int64.lt_iff_toInt_lt]
  by_cases h1 : y < x
  · simp only [h1, if_true]; exact ⟨fun _ => trivial, fun _ => by decide⟩
  · by_cases h2 : x = y
    · subst h2; simp only [h1, if_true, if_false]; simp
    · simp only [h1, h2, if_false]; simp
theorem cmp_eq (x y : Int64) : XT.cmpL x y = 0 ↔ x = y := by
  unfold XT.cmpL
  by_cases h1 : y < x
  · simp only [h1, if_true]; constructor
    · intro h; exact absurd h (by decide)
    · intro h; subst h; rw [Int64.lt_iff_toInt_lt] at h1; omega
  · by_cases h2 : x = y
    · subst h2; simp only [h1, if_true, if_false]
    · simp only [h1, h2, if_false]; exact ⟨fun h => absurd h (by decide), fun h => h.elim⟩
/-! ## what a case's words say at the start -/
theorem stZ {s : State} {args : Array Value} {C n d : String} {v : Value} (ev : (Term.static C n d).eval args s none [] s = some v) (wi : (Cond.initialized C).before args s = true) (wl : (Cond.laysStatic C n d).before args s = true) : Sta s s.heap C n d v := Sta.start ev (Or.inr ⟨wi, wl⟩)
theorem fldI {s : State} {args : Array Value} {t : Term} {a : Addr} {O f d : String} {k : Int32} (ev : t.eval args s none [] s = some (.ref a)) (hq : (Cond.eq (.field t O f d) (.int k)).value args s none s [] = some true) : Fld s s.heap a O f d (.int k) := by
  obtain ⟨x, y, e1, e2, k1, k2⟩ := cmp_v (Or.inl hq)
  rw [fld_at ev] at e1
  cases (e2.symm.trans (Term.int_eval k) : some y = some (.int k))
  obtain ⟨z, rfl⟩ := k2
  refine Fld.start ?_
  have e3 : (Term.field t O f d).eval args s none [] s = some (.int z) := (fld_at ev).trans e1
  have := gotT (Cond.eq_ints e3 (Term.int_eval k)) hq
  rw [e1, this]
theorem fldJ {s : State} {args : Array Value} {t : Term} {a : Addr} {O f d : String} {k : Int64} (ev : t.eval args s none [] s = some (.ref a)) (hq : (Cond.eq (.field t O f d) (.long k)).value args s none s [] = some true) : Fld s s.heap a O f d (.long k) := by
  obtain ⟨x, y, e1, e2, k1, k2⟩ := cmp_v (Or.inl hq)
  rw [fld_at ev] at e1
  cases (e2.symm.trans (long_at k) : some y = some (.long k))
  obtain ⟨z, rfl⟩ := k2
  refine Fld.start ?_
  have e3 : (Term.field t O f d).eval args s none [] s = some (.long z) := (fld_at ev).trans e1
  have := gotT (eq_L e3 (long_at k)) hq
  rw [e1, this]
theorem staI {s : State} {args : Array Value} {C n d : String} {k : Int32} (hq : (Cond.eq (.static C n d) (.int k)).value args s none s [] = some true) : (Term.static C n d).eval args s none [] s = some (.int k) := by
  obtain ⟨x, y, e1, e2, k1, k2⟩ := cmp_v (Or.inl hq)
  cases (e2.symm.trans (Term.int_eval k) : some y = some (.int k))
  obtain ⟨z, rfl⟩ := k2
  have := gotT (Cond.eq_ints e1 (Term.int_eval k)) hq
  rw [e1, this]
theorem staJ {s : State} {args : Array Value} {C n d : String} {k : Int64} (hq : (Cond.eq (.static C n d) (.long k)).value args s none s [] = some true) : (Term.static C n d).eval args s none [] s = some (.long k) := by
  obtain ⟨x, y, e1, e2, k1, k2⟩ := cmp_v (Or.inl hq)
  cases (e2.symm.trans (long_at k) : some y = some (.long k))
  obtain ⟨z, rfl⟩ := k2
  have := gotT (eq_L e1 (long_at k)) hq
  rw [e1, this]
theorem ordNe {Z : State} {h : Heap} {a b : Addr} {C n d : String} {v w : Value} (F : Fld Z h a C n d v) (G : Fld Z h b C n d w) (q : v ≠ w) : (Value.ref a) ≠ .ref b := fun e => F.ne G q (by cases e; rfl)
end Laws
end Jvm.OwnKit

namespace Jvm.OwnKit
open Sem ClassFile Op Lib Jvm.Stand Jvm.Free Jvm.LawKit Jvm.RoadKit
/-! ## arrays, by the list of what they hold -/
def Av (Z : State) (h : Heap) (a : Addr) (k : ClassId) (ty : FieldType) (vs : List Value) : Prop := ∃ c : Cell, Arr Z h a c ty ∧ c.cls = k ∧ c.slots.toList = vs ∧ vs.length < 2 ^ 31 ∧ ∀ v ∈ vs, fits ty v = true
section Av
variable {Z : State} {h h' : Heap} {a b : Addr} {k : ClassId} {ty : FieldType} {vs : List Value} {sl : Nat} {v : Value} {ws : List Addr}
theorem Av.lt (F : Av Z h a k ty vs) : a < h.size := by obtain ⟨c, A, -⟩ := F; exact A.lt
theorem Av.ext (F : Av Z h a k ty vs) (E : Ext h h') : Av Z h' a k ty vs := by obtain ⟨c, A, r⟩ := F; exact ⟨c, A.ext E, r⟩
theorem Av.other (F : Av Z h b k ty vs) (W : Wr h h' a sl v) (q : b ≠ a) : Av Z h' b k ty vs := by obtain ⟨c, A, r⟩ := F; exact ⟨c, A.other W q, r⟩
theorem Av.keep (F : Av Z h a k ty vs) (K : Keep h h' ws) (q : a ∉ ws) : Av Z h' a k ty vs := by obtain ⟨c, A, r⟩ := F; exact ⟨c, ⟨K.2.1 a c A.1 q, A.2⟩, r⟩
theorem Av.len (F : Av Z h a k ty vs) : vs.length < 2 ^ 31 := by obtain ⟨c, -, -, -, q, -⟩ := F; exact q
theorem Av.set (F : Av Z h a k ty vs) (W : Wr h h' a sl v) (hv : fits ty v = true) : Av Z h' a k ty (vs.set sl v) := by
  obtain ⟨c, A, e1, e2, e3, e4⟩ := F
  refine ⟨_, A.same W, e1, by simp [Cell.setSlot, e2], by simpa using e3, fun w hw => ?_⟩
  rcases List.mem_or_eq_of_mem_set hw with q | q
  · exact e4 w q
  · exact q ▸ hv
theorem Av.new {cA : ClassId} {n : Int32} (A : Arr Z h a (newA cA ty n) ty) (q : 0 ≤ n.toInt) : Av Z h a cA ty (List.replicate n.toInt.toNat (defaultValue ty)) := by
  have e : n.toNatClampNeg = n.toInt.toNat := rfl
  refine ⟨_, A, rfl, by show (Array.replicate n.toNatClampNeg (defaultValue ty)).toList = _; rw [Array.toList_replicate]; rfl, by have := n.toInt_lt; rw [List.length_replicate]; omega, fun v hv => ?_⟩
  rw [List.mem_replicate] at hv
  rw [hv.2]; cases ty <;> rfl
theorem Av.arv (F : Av Z h a k ty vs) (d : Value) : Arv Z h a k ty (Int32.ofNat vs.length) vs d := by
  obtain ⟨c, A, e1, e2, e3, e4⟩ := F
  have e5 : c.slots.size = vs.length := by rw [← e2]; simp
  have e6 : (Int32.ofNat vs.length).toInt = vs.length := len_toInt e3
  refine ⟨c, A, e1, ?_, ?_, fun i hi => ?_, fun i hi => ?_⟩
  · rw [e5]; show _ = (Int32.ofNat vs.length).toInt.toNat; omega
  · rw [Int32.lt_iff_toInt_lt, e6]; have : (0 : Int32).toInt = 0 := rfl; omega
  · rw [e5] at hi; rw [← e2]; simp [List.getD, ← Array.getElem?_toList]; rw [e2]; simp [hi]
  · rw [e5] at hi; rw [List.getD_eq_getElem?_getD, List.getElem?_eq_getElem hi]; exact e4 _ (List.getElem_mem hi)
theorem Av.of_arv {n : Int32} {d : Value} (F : Arv Z h a k ty n vs d) (hl : n.toInt = vs.length) : Av Z h a k ty vs := by
  obtain ⟨c, A, e1, e2, e3, e4, e5⟩ := F
  have e6 : c.slots.size = vs.length := by rw [e2]; show n.toInt.toNat = _; omega
  have e7 : c.slots.toList = vs := by
    refine List.ext_getElem? fun i => ?_
    rcases Nat.lt_or_ge i vs.length with hi | hi
    · have q := e4 i (by omega)
      rw [Array.getElem?_toList, q, List.getD_eq_getElem?_getD, List.getElem?_eq_getElem hi]; rfl
    · rw [List.getElem?_eq_none hi, List.getElem?_eq_none (by simp; omega)]
  refine ⟨c, A, e1, e7, by have := n.toInt_lt; omega, fun v hv => ?_⟩
  obtain ⟨i, hi, rfl⟩ := List.getElem_of_mem hv
  have q := e5 i (by omega)
  rwa [List.getD_eq_getElem?_getD, List.getElem?_eq_getElem hi] at q
end Av
section ALaws
variable {κ : Cx} {t : FieldType} {l : Launch} {Z : State} {n0 : Nat} {own nm : String} {bytes : ByteArray} {maxL : Nat} {ret : Option FieldType} {rm : Room} {Q : Option Value → Heap → Prop} {h : Heap} {cells slots pc : Nat} {Ls : Array Slot} {st : List Value} {a0 : Array Value}
variable {a : Addr} {k : ClassId} {ty : FieldType} {vs : List Value} {j : Int32} {v : Value}
theorem inV {c : Cell} (e : c.slots.toList = vs) (h0 : 0 ≤ j.toInt) (hj : vs[j.toInt.toNat]? = some v) : ¬ (j < 0 ∨ c.slots.size ≤ j.toNatClampNeg) ∧ c.slots[j.toNatClampNeg]? = some v := by
  have q := (List.getElem?_eq_some_iff.mp hj).1
  have s : c.slots.size = vs.length := by rw [← e]; simp
  have e0 : (0 : Int32).toInt = 0 := rfl
  have e1 : j.toNatClampNeg = j.toInt.toNat := rfl
  refine ⟨?_, ?_⟩
  · rw [Int32.lt_iff_toInt_lt, e0, e1]; omega
  · rw [e1, ← Array.getElem?_toList, e]; exact hj
theorem lenV (K : Ok κ l Z n0 own nm bytes maxL ret rm Q) (hd : decode bytes pc = .ok (.arraylength, 1)) (A : Av Z h a k ty vs) (hr : Go κ h cells slots (pc + 1) Ls (.int (Int32.ofNat vs.length) :: st)) : Go κ h cells slots pc Ls (.ref a :: st) := by
  obtain ⟨c, A1, e1, e2, e3, e4⟩ := A
  exact arrLen K hd A1 (by rw [← e2]; simp) hr
theorem ialoadV (K : Ok κ l Z n0 own nm bytes maxL ret rm Q) (hd : decode bytes pc = .ok (.iaload, 1)) (A : Av Z h a k .int vs) (h0 : 0 ≤ j.toInt) (hj : vs[j.toInt.toNat]? = some v) (hr : Go κ h cells slots (pc + 1) Ls (v :: st)) : Go κ h cells slots pc Ls (.int j :: .ref a :: st) := by
  obtain ⟨c, A1, e1, e2, e3, e4⟩ := A
  obtain ⟨q1, q2⟩ := inV e2 h0 hj
  exact iaload K hd A1 q1 q2 hr
theorem laloadV (K : Ok κ l Z n0 own nm bytes maxL ret rm Q) (hd : decode bytes pc = .ok (.laload, 1)) (A : Av Z h a k .long vs) (h0 : 0 ≤ j.toInt) (hj : vs[j.toInt.toNat]? = some v) (hr : Go κ h cells slots (pc + 1) Ls (v :: st)) : Go κ h cells slots pc Ls (.int j :: .ref a :: st) := by
  obtain ⟨c, A1, e1, e2, e3, e4⟩ := A
  obtain ⟨q1, q2⟩ := inV e2 h0 hj
  exact laload K hd A1 q1 q2 hr
theorem caloadV (K : Ok κ l Z n0 own nm bytes maxL ret rm Q) (hd : decode bytes pc = .ok (.caload, 1)) (A : Av Z h a k .char vs) (h0 : 0 ≤ j.toInt) (hj : vs[j.toInt.toNat]? = some v) (hr : Go κ h cells slots (pc + 1) Ls (v :: st)) : Go κ h cells slots pc Ls (.int j :: .ref a :: st) := by
  obtain ⟨c, A1, e1, e2, e3, e4⟩ := A
  obtain ⟨q1, q2⟩ := inV e2 h0 hj
  exact caload K hd A1 q1 q2 hr
theorem baloadV (K : Ok κ l Z n0 own nm bytes maxL ret rm Q) (hd : decode bytes pc = .ok (.baload, 1)) (A : Av Z h a k .byte vs) (h0 : 0 ≤ j.toInt) (hj : vs[j.toInt.toNat]? = some v) (hr : Go κ h cells slots (pc + 1) Ls (v :: st)) : Go κ h cells slots pc Ls (.int j :: .ref a :: st) := by
  obtain ⟨c, A1, e1, e2, e3, e4⟩ := A
  obtain ⟨q1, q2⟩ := inV e2 h0 hj
  exact baload K hd A1 q1 q2 hr
theorem iastoreV {x : Int32} (K : Ok κ l Z n0 own nm bytes maxL ret rm Q) (hd : decode bytes pc = .ok (.iastore, 1)) (A : Av Z h a k .int vs) (h0 : 0 ≤ j.toInt) (hj : j.toInt < vs.length) (ge : n0 ≤ a)
    (hr : ∀ h', Wr h h' a j.toInt.toNat (.int x) → Av Z h' a k .int (vs.set j.toInt.toNat (.int x)) → Go κ h' cells slots (pc + 1) Ls st) : Go κ h cells slots pc Ls (.int x :: .int j :: .ref a :: st) := by
  obtain ⟨c, A1, e1, e2, e3, e4⟩ := A
  obtain ⟨w, hw⟩ : ∃ w, vs[j.toInt.toNat]? = some w := ⟨_, List.getElem?_eq_getElem (by omega)⟩
  obtain ⟨q1, q2⟩ := inV e2 h0 hw
  exact iastore K hd A1 q1 ge fun h' W => hr h' W (Av.set ⟨c, A1, e1, e2, e3, e4⟩ W rfl)
theorem lastoreV {x : Int64} (K : Ok κ l Z n0 own nm bytes maxL ret rm Q) (hd : decode bytes pc = .ok (.lastore, 1)) (A : Av Z h a k .long vs) (h0 : 0 ≤ j.toInt) (hj : j.toInt < vs.length) (ge : n0 ≤ a)
    (hr : ∀ h', Wr h h' a j.toInt.toNat (.long x) → Av Z h' a k .long (vs.set j.toInt.toNat (.long x)) → Go κ h' cells slots (pc + 1) Ls st) : Go κ h cells slots pc Ls (.long x :: .int j :: .ref a :: st) := by
  obtain ⟨c, A1, e1, e2, e3, e4⟩ := A
  obtain ⟨w, hw⟩ : ∃ w, vs[j.toInt.toNat]? = some w := ⟨_, List.getElem?_eq_getElem (by omega)⟩
  obtain ⟨q1, q2⟩ := inV e2 h0 hw
  exact lastore K hd A1 q1 ge fun h' W => hr h' W (Av.set ⟨c, A1, e1, e2, e3, e4⟩ W rfl)
theorem castoreV {x : Int32} (K : Ok κ l Z n0 own nm bytes maxL ret rm Q) (hd : decode bytes pc = .ok (.castore, 1)) (A : Av Z h a k .char vs) (h0 : 0 ≤ j.toInt) (hj : j.toInt < vs.length) (ge : n0 ≤ a)
    (hr : ∀ h', Wr h h' a j.toInt.toNat (.int (nar .char x)) → Av Z h' a k .char (vs.set j.toInt.toNat (.int (nar .char x))) → Go κ h' cells slots (pc + 1) Ls st) : Go κ h cells slots pc Ls (.int x :: .int j :: .ref a :: st) := by
  obtain ⟨c, A1, e1, e2, e3, e4⟩ := A
  obtain ⟨w, hw⟩ : ∃ w, vs[j.toInt.toNat]? = some w := ⟨_, List.getElem?_eq_getElem (by omega)⟩
  obtain ⟨q1, q2⟩ := inV e2 h0 hw
  exact castore K hd A1 q1 ge fun h' W => hr h' W (Av.set ⟨c, A1, e1, e2, e3, e4⟩ W (fits_nar_char x))
theorem bastoreV {x : Int32} (K : Ok κ l Z n0 own nm bytes maxL ret rm Q) (hd : decode bytes pc = .ok (.bastore, 1)) (A : Av Z h a k .byte vs) (h0 : 0 ≤ j.toInt) (hj : j.toInt < vs.length) (ge : n0 ≤ a)
    (hr : ∀ h', Wr h h' a j.toInt.toNat (.int x.toInt8.toInt32) → Av Z h' a k .byte (vs.set j.toInt.toNat (.int x.toInt8.toInt32)) → Go κ h' cells slots (pc + 1) Ls st) : Go κ h cells slots pc Ls (.int x :: .int j :: .ref a :: st) := by
  obtain ⟨c, A1, e1, e2, e3, e4⟩ := A
  obtain ⟨w, hw⟩ : ∃ w, vs[j.toInt.toNat]? = some w := ⟨_, List.getElem?_eq_getElem (by omega)⟩
  obtain ⟨q1, q2⟩ := inV e2 h0 hw
  exact bastore K hd A1 q1 ge fun h' W => hr h' W (Av.set ⟨c, A1, e1, e2, e3, e4⟩ W (fits_nar_byte x))
theorem aaloadV (K : Ok κ l Z n0 own nm bytes maxL ret rm Q) (hd : decode bytes pc = .ok (.aaload, 1)) (A : Av Z h a k ty vs) (hty : ty.isReference = true) (h0 : 0 ≤ j.toInt) (hj : vs[j.toInt.toNat]? = some v) (hr : Go κ h cells slots (pc + 1) Ls (v :: st)) : Go κ h cells slots pc Ls (.int j :: .ref a :: st) := by
  obtain ⟨c, A1, e1, e2, e3, e4⟩ := A
  obtain ⟨q1, q2⟩ := inV e2 h0 hj
  exact aaload K hd A1 hty q1 q2 hr
theorem aastoreV {C : String} {y : Addr} (K : Ok κ l Z n0 own nm bytes maxL ret rm Q) (hd : decode bytes pc = .ok (.aastore, 1)) (A : Av Z h a k ty vs) (O : Ovr Z k C) (I : Ins Z h y C true) (hty : ty.isReference = true) (h0 : 0 ≤ j.toInt) (hj : j.toInt < vs.length) (ge : n0 ≤ a)
    (hr : ∀ h', Wr h h' a j.toInt.toNat (.ref y) → Av Z h' a k ty (vs.set j.toInt.toNat (.ref y)) → Go κ h' cells slots (pc + 1) Ls st) : Go κ h cells slots pc Ls (.ref y :: .int j :: .ref a :: st) := by
  obtain ⟨c, A1, e1, e2, e3, e4⟩ := A
  obtain ⟨w, hw⟩ : ∃ w, vs[j.toInt.toNat]? = some w := ⟨_, List.getElem?_eq_getElem (by omega)⟩
  obtain ⟨q1, q2⟩ := inV e2 h0 hw
  refine aastore K hd A1 q1 hty (Sto.ofV A1 e1 O I) ge fun h' W => ?_
  exact hr h' W (Av.set ⟨c, A1, e1, e2, e3, e4⟩ W (by cases ty <;> first | (exact Bool.noConfusion hty) | rfl))
theorem newArrV {aty : ArrayType} {n : Int32} {cap : Nat} (K : Ok κ l Z n0 own nm bytes maxL ret rm Q) (hd : decode bytes pc = .ok (.newarray aty, 2)) (w : (Cond.arrayClass (newarray.typeOf aty)).before a0 Z = true) (hn : 0 ≤ n.toInt) (hcap : n.toInt ≤ cap) (hb8 : cap * 8 ≤ 536870912)
    (hc : cells + 1 ≤ rm.cells) (hl : slots + cap ≤ rm.slots)
    (hr : ∀ h' a k, a = h.size → n0 ≤ a → Ext h h' → Av Z h' a k (newarray.typeOf aty) (List.replicate n.toInt.toNat (defaultValue (newarray.typeOf aty))) → Exa Z h' a ("[" ++ (newarray.typeOf aty).toString) → Go κ h' (cells + 1) (slots + cap) (pc + 2) Ls (.ref a :: st)) : Go κ h cells slots pc Ls (.int n :: st) := by
  have e0 : (0 : Int32).toInt = 0 := rfl
  have e1 : n.toNatClampNeg = n.toInt.toNat := rfl
  refine newArr K hd w (by rw [Int32.lt_iff_toInt_lt, e0]; omega) (by rw [e1]; omega) hb8 rfl hc hl fun h' a cA q1 q2 q3 q4 q5 => ?_
  exact hr h' a cA q1 q2 q3 (Av.new q4 hn) q5
theorem anewArrV {C : String} {index : Nat} {n : Int32} {cap : Nat} (K : Ok κ l Z n0 own nm bytes maxL ret rm Q) (hd : decode bytes pc = .ok (.anewarray index, 3)) (w1 : (Cond.classLink own index C).before a0 Z = true) (w2 : (Cond.arrayOver (.object C)).before a0 Z = true) (hn : 0 ≤ n.toInt) (hcap : n.toInt ≤ cap) (hb8 : cap * 8 ≤ 536870912)
    (hc : cells + 1 ≤ rm.cells) (hl : slots + cap ≤ rm.slots)
    (hr : ∀ h' a k, a = h.size → n0 ≤ a → Ext h h' → Av Z h' a k (.object C) (List.replicate n.toInt.toNat .null) → Ovr Z k C → Go κ h' (cells + 1) (slots + cap) (pc + 3) Ls (.ref a :: st)) : Go κ h cells slots pc Ls (.int n :: st) := by
  have e0 : (0 : Int32).toInt = 0 := rfl
  have e1 : n.toNatClampNeg = n.toInt.toNat := rfl
  refine anewArr K hd w1 w2 (by rw [Int32.lt_iff_toInt_lt, e0]; omega) (by rw [e1]; omega) hb8 hc hl fun h' a cA q1 q2 q3 q4 q5 => ?_
  exact hr h' a cA q1 q2 q3 (Av.new q4 hn) q5
/-- System.arraycopy between two arrays of one primitive kind -/
theorem copyV {index : Nat} {b : Addr} {k' : ClassId} {us : List Value} {sp dp nn : Int32} {W : Nat} (K : Ok κ l Z n0 own nm bytes maxL ret rm Q) (hd : decode bytes pc = .ok (.invokestatic index, 3))
    (w1 : (Cond.methodLink own index Jvm.Stand.acN).before a0 Z = true) (w2 : (Cond.native Jvm.Stand.acN).before a0 Z = true) (w3 : (Cond.static Jvm.Stand.acN).before a0 Z = true) (w4 : (Cond.initialized "java/lang/System").before a0 Z = true)
    (A : Av Z h a k ty vs) (B : Av Z h b k' ty us) (hty : refKind ty = false) (h1 : 0 ≤ sp.toInt) (h2 : 0 ≤ dp.toInt) (h3 : 0 ≤ nn.toInt) (h4 : sp.toInt + nn.toInt ≤ vs.length) (h5 : dp.toInt + nn.toInt ≤ us.length) (ge : n0 ≤ b)
    (hsz : Ls.size = maxL) (hW : (st.map fun v => v.category).sum ≤ W) (hf : 1 ≤ rm.frames) (hlo : W + (nativeFrameWords "java/lang/System" "arraycopy" 5 + 11) ≤ rm.locals)
    (hr : ∀ h', Keep h h' [b] → Av Z h' b k' ty (us.take dp.toInt.toNat ++ (vs.drop sp.toInt.toNat).take nn.toInt.toNat ++ us.drop (dp.toInt.toNat + nn.toInt.toNat)) → Go κ h' cells slots (pc + 3) Ls st) :
    Go κ h cells slots pc Ls (.int nn :: .int dp :: .ref b :: .int sp :: .ref a :: st) := fun T locs vm0 X AD hZ N OB eT => by
  have e0 : (0 : Int32).toInt = 0 := rfl
  have eR := K.eR
  have lA := A.len
  have lB := B.len
  have sA : (Int32.ofNat vs.length).toInt = vs.length := len_toInt lA
  have sB : (Int32.ofNat us.length).toInt = us.length := len_toInt lB
  have hus : (vs.drop sp.toInt.toNat).take nn.toInt.toNat = (List.range nn.toNatClampNeg).map fun i => vs.getD (sp.toNatClampNeg + i) .null := by
    refine List.ext_getElem? fun i => ?_
    show _ = ((List.range nn.toInt.toNat).map fun i => vs.getD (sp.toInt.toNat + i) .null)[i]?
    rcases Nat.lt_or_ge i nn.toInt.toNat with hi | hi
    · rw [List.getElem?_take_of_lt hi, List.getElem?_drop, List.getElem?_map, List.getElem?_range hi, Option.map_some, List.getD_eq_getElem?_getD, List.getElem?_eq_getElem (by omega)]; rfl
    · rw [List.getElem?_eq_none (by rw [List.length_take, List.length_drop]; omega), List.getElem?_eq_none (by rw [List.length_map, List.length_range]; omega)]
  obtain ⟨T', h', L, X', e', N', KP, AV, st1⟩ := cpA X K.exec (K.warm hZ) (K.ko AD) w1 w2 w3 w4 eT (A.arv .null) (B.arv .null) (Or.inl ⟨rfl, hty⟩) (sp := sp) (dp := dp) (nn := nn) (by rw [Int32.lt_iff_toInt_lt, e0]; omega) (by rw [Int32.lt_iff_toInt_lt, e0]; omega) (by rw [Int32.lt_iff_toInt_lt, e0]; omega)
    (by show sp.toInt.toNat + nn.toInt.toNat ≤ (Int32.ofNat vs.length).toInt.toNat; omega) (by show dp.toInt.toNat + nn.toInt.toNat ≤ (Int32.ofNat us.length).toInt.toNat; omega) hus (by show dp.toInt.toNat + nn.toInt.toNat ≤ us.length; omega) N (by rw [K.en]; exact ge)
    (g := mkF κ.m pc Ls (.int nn :: .int dp :: .ref b :: .int sp :: .ref a :: st)) rfl (by rw [K.kl]; exact hsz) rfl (hb K.kb hd) (by rw [eR]; exact hf) (W0 hW) (by rw [eR]; exact hlo)
  have AV' : Av Z h' b k' ty (us.take dp.toInt.toNat ++ (vs.drop sp.toInt.toNat).take nn.toInt.toNat ++ us.drop (dp.toInt.toNat + nn.toInt.toNat)) := Av.of_arv AV (by simp only [List.length_append, List.length_take, List.length_drop]; omega)
  obtain ⟨s₂, o, hs, r⟩ := hr h' KP AV' T' L vm0 X' (AD.mono KP.1) hZ N' (OB.keep KP (allS (by rw [K.en]; exact ge) all0)) e'
  exact ⟨s₂, o, st1 _ hs, r⟩
end ALaws
end Jvm.OwnKit

namespace Jvm.Pilot.@@N@@
open Jvm Jvm.ClassFile Sem Op Lib Jvm.Free Jvm.Stand Jvm.LawKit Jvm.RoadKit Bundle Jvm.Pilot.@@N@@.Jvm.D
def QType (h0 : Heap) (v : Option Value) (h : Heap) : Prop := (∃ z : Value, v = some z ∧ z.isRef = true) ∧ h0 = h
def QDec (Z : State) (a : Addr) (h0 : Heap) (v : Option Value) (h : Heap) : Prop := v = none ∧ Wr h0 h a (RoadKit.slotOf Z "com/example/fair_throttle/fairthrottle/reacting/Decision" "abatedBy" "Lcom/example/fair_throttle/fairthrottle/reports/ReportScope;") .null
def QEnt (Z : State) (a : Addr) (v : Option Value) (h : Heap) : Prop := v = none ∧ Exa Z h a "com/example/fair_throttle/fairthrottle/reacting/Entry" ∧ Fld Z h a "com/example/fair_throttle/fairthrottle/reacting/Entry" "type" "Lcom/example/fair_throttle/fairthrottle/reports/ReportType;" .null ∧ Fld Z h a "com/example/fair_throttle/fairthrottle/reacting/Entry" "applicationId" "J" (.long 0)
def QFor (τ : Value) (i : Int64) (h0 : Heap) (v : Option Value) (h : Heap) : Prop := (∃ z : Int32, v = some (.int z) ∧ (τ = .null ∧ i = 0 ∧ z = 1 ∨ ¬ (τ = .null ∧ i = 0) ∧ z = 0)) ∧ h0 = h
def QLaw (v : Option Value) (h : Heap) : Prop := v = some (.int 1)

theorem d_method_2_0 : decode method_2_code 0 = .ok (.iload_n 0, 1) := by decide +kernel
theorem d_method_2_1 : decode method_2_code 1 = .ok (.iconst 3, 1) := by decide +kernel
theorem d_method_2_2 : decode method_2_code 2 = .ok (.iand, 1) := by decide +kernel
theorem d_method_2_3 : decode method_2_code 3 = .ok (.istore_n 1, 1) := by decide +kernel
theorem d_method_2_4 : decode method_2_code 4 = .ok (.iload_n 1, 1) := by decide +kernel
theorem d_method_2_5 : decode method_2_code 5 = .ok (.ifCond .ne 5, 3) := by decide +kernel
theorem d_method_2_8 : decode method_2_code 8 = .ok (.aconst_null, 1) := by decide +kernel
theorem d_method_2_9 : decode method_2_code 9 = .ok (.areturn, 1) := by decide +kernel
theorem d_method_2_10 : decode method_2_code 10 = .ok (.iload_n 1, 1) := by decide +kernel
theorem d_method_2_11 : decode method_2_code 11 = .ok (.iconst 1, 1) := by decide +kernel
theorem d_method_2_12 : decode method_2_code 12 = .ok (.if_icmp .ne 7, 3) := by decide +kernel
theorem d_method_2_15 : decode method_2_code 15 = .ok (.getstatic 7, 3) := by decide +kernel
theorem d_method_2_18 : decode method_2_code 18 = .ok (.areturn, 1) := by decide +kernel
theorem d_method_2_19 : decode method_2_code 19 = .ok (.iload_n 1, 1) := by decide +kernel
theorem d_method_2_20 : decode method_2_code 20 = .ok (.iconst 2, 1) := by decide +kernel
theorem d_method_2_21 : decode method_2_code 21 = .ok (.if_icmp .ne 7, 3) := by decide +kernel
theorem d_method_2_24 : decode method_2_code 24 = .ok (.getstatic 13, 3) := by decide +kernel
theorem d_method_2_27 : decode method_2_code 27 = .ok (.areturn, 1) := by decide +kernel
theorem d_method_2_28 : decode method_2_code 28 = .ok (.getstatic 16, 3) := by decide +kernel
theorem d_method_2_31 : decode method_2_code 31 = .ok (.areturn, 1) := by decide +kernel
set_option maxRecDepth 65536 in
set_option maxHeartbeats 40000000 in
theorem c_type (l : Launch) (Z : State) (a0 : Array Value) (hw : ∀ d ∈ tables_1, d.before a0 Z = true) (n0 : Nat) (h0 : Heap) (p : Int32) (a_PEER : Addr) (a_REALM : Addr) (a_HOST : Addr) (S_PEER : Sta Z Z.heap "com/example/fair_throttle/fairthrottle/reports/ReportType" "PEER" "Lcom/example/fair_throttle/fairthrottle/reports/ReportType;" (.ref a_PEER)) (E_PEER : Exa Z Z.heap a_PEER "com/example/fair_throttle/fairthrottle/reports/ReportType") (S_REALM : Sta Z Z.heap "com/example/fair_throttle/fairthrottle/reports/ReportType" "REALM" "Lcom/example/fair_throttle/fairthrottle/reports/ReportType;" (.ref a_REALM)) (E_REALM : Exa Z Z.heap a_REALM "com/example/fair_throttle/fairthrottle/reports/ReportType") (S_HOST : Sta Z Z.heap "com/example/fair_throttle/fairthrottle/reports/ReportType" "HOST" "Lcom/example/fair_throttle/fairthrottle/reports/ReportType;" (.ref a_HOST)) (E_HOST : Exa Z Z.heap a_HOST "com/example/fair_throttle/fairthrottle/reports/ReportType") :
    OwnKit.Con false l Z n0 (⟨"com/example/fair_throttle/fairthrottle/reacting/EntryIsForPinLaw", "typeOf", "(I)Lcom/example/fair_throttle/fairthrottle/reports/ReportType;"⟩ : MethodName) method_2_code 2 (some (.object "com/example/fair_throttle/fairthrottle/reports/ReportType")) ({ frames := 0, cells := 0, slots := 0, locals := 0 } : Room) #[.int p] h0 (QType h0) := by
  refine OwnKit.Con.of (by first | (refine plainFor_of_name ?_; simp [plainName, overriddenIn]; done) | decide +kernel) ?_ ?_
  · intro κ hwd K0
    have K : OwnKit.Ok κ l Z n0 "com/example/fair_throttle/fairthrottle/reacting/EntryIsForPinLaw" "typeOf" method_2_code 2 (some (.object "com/example/fair_throttle/fairthrottle/reports/ReportType")) ({ frames := 0, cells := 0, slots := 0, locals := 0 } : Room) (QType h0) := K0
    have ef : (entryFrame κ.m #[.int p] 2).locals = #[.val (.int p), .unset] := by first | (simp [entryFrame, argsToLocals, Value.category]; done) | rfl
    rw [ef]; clear ef K0
    show OwnKit.Go κ h0 0 0 0 #[.val (.int p), .unset] []
    refine OwnKit.iloadN K d_method_2_0 rfl ?_
    show OwnKit.Go κ h0 0 0 1 #[.val (.int p), .unset] [.int p]
    refine OwnKit.iconst K d_method_2_1 ?_
    show OwnKit.Go κ h0 0 0 2 #[.val (.int p), .unset] [.int (3 : Int32), .int p]
    refine OwnKit.iand K d_method_2_2 ?_
    show OwnKit.Go κ h0 0 0 3 #[.val (.int p), .unset] [.int (p &&& (3 : Int32))]
    refine OwnKit.istoreN K d_method_2_3 (l' := #[.val (.int p), .val (.int (p &&& (3 : Int32)))]) rfl ?_
    show OwnKit.Go κ h0 0 0 4 #[.val (.int p), .val (.int (p &&& (3 : Int32)))] []
    refine OwnKit.iloadN K d_method_2_4 rfl ?_
    show OwnKit.Go κ h0 0 0 5 #[.val (.int p), .val (.int (p &&& (3 : Int32)))] [.int (p &&& (3 : Int32))]
    refine OwnKit.ifne K d_method_2_5 (by decide) (pc' := 10) rfl  (fun b1 => ?_) (fun b1 => ?_)
    · show OwnKit.Go κ h0 0 0 10 #[.val (.int p), .val (.int (p &&& (3 : Int32)))] []
      refine OwnKit.iloadN K d_method_2_10 rfl ?_
      show OwnKit.Go κ h0 0 0 11 #[.val (.int p), .val (.int (p &&& (3 : Int32)))] [.int (p &&& (3 : Int32))]
      refine OwnKit.iconst K d_method_2_11 ?_
      show OwnKit.Go κ h0 0 0 12 #[.val (.int p), .val (.int (p &&& (3 : Int32)))] [.int (1 : Int32), .int (p &&& (3 : Int32))]
      refine OwnKit.icmpne K d_method_2_12 (by decide) (pc' := 19) rfl  (fun b2 => ?_) (fun b2 => ?_)
      · show OwnKit.Go κ h0 0 0 19 #[.val (.int p), .val (.int (p &&& (3 : Int32)))] []
        refine OwnKit.iloadN K d_method_2_19 rfl ?_
        show OwnKit.Go κ h0 0 0 20 #[.val (.int p), .val (.int (p &&& (3 : Int32)))] [.int (p &&& (3 : Int32))]
        refine OwnKit.iconst K d_method_2_20 ?_
        show OwnKit.Go κ h0 0 0 21 #[.val (.int p), .val (.int (p &&& (3 : Int32)))] [.int (2 : Int32), .int (p &&& (3 : Int32))]
        refine OwnKit.icmpne K d_method_2_21 (by decide) (pc' := 28) rfl  (fun b3 => ?_) (fun b3 => ?_)
        · show OwnKit.Go κ h0 0 0 28 #[.val (.int p), .val (.int (p &&& (3 : Int32)))] []
          refine OwnKit.getstaticZ K d_method_2_28 (host := "") (Or.inl (hw _ (List.mem_of_getElem? (i := 44) rfl))) Via.refl S_PEER ?_
          show OwnKit.Go κ h0 0 0 31 #[.val (.int p), .val (.int (p &&& (3 : Int32)))] [.ref a_PEER]
          refine OwnKit.areturn K d_method_2_31 rfl rfl ?_ (Nat.le_of_ble_eq_true rfl) (Nat.le_of_ble_eq_true rfl)
          exact ⟨⟨_, rfl, rfl⟩, rfl⟩
        · show OwnKit.Go κ h0 0 0 24 #[.val (.int p), .val (.int (p &&& (3 : Int32)))] []
          refine OwnKit.getstaticZ K d_method_2_24 (host := "") (Or.inl (hw _ (List.mem_of_getElem? (i := 47) rfl))) Via.refl S_REALM ?_
          show OwnKit.Go κ h0 0 0 27 #[.val (.int p), .val (.int (p &&& (3 : Int32)))] [.ref a_REALM]
          refine OwnKit.areturn K d_method_2_27 rfl rfl ?_ (Nat.le_of_ble_eq_true rfl) (Nat.le_of_ble_eq_true rfl)
          exact ⟨⟨_, rfl, rfl⟩, rfl⟩
      · show OwnKit.Go κ h0 0 0 15 #[.val (.int p), .val (.int (p &&& (3 : Int32)))] []
        refine OwnKit.getstaticZ K d_method_2_15 (host := "") (Or.inl (hw _ (List.mem_of_getElem? (i := 49) rfl))) Via.refl S_HOST ?_
        show OwnKit.Go κ h0 0 0 18 #[.val (.int p), .val (.int (p &&& (3 : Int32)))] [.ref a_HOST]
        refine OwnKit.areturn K d_method_2_18 rfl rfl ?_ (Nat.le_of_ble_eq_true rfl) (Nat.le_of_ble_eq_true rfl)
        exact ⟨⟨_, rfl, rfl⟩, rfl⟩
    · show OwnKit.Go κ h0 0 0 8 #[.val (.int p), .val (.int (p &&& (3 : Int32)))] []
      refine OwnKit.aconstNull K d_method_2_8 ?_
      show OwnKit.Go κ h0 0 0 9 #[.val (.int p), .val (.int (p &&& (3 : Int32)))] [.null]
      refine OwnKit.areturn K d_method_2_9 rfl rfl ?_ (Nat.le_of_ble_eq_true rfl) (Nat.le_of_ble_eq_true rfl)
      exact ⟨⟨_, rfl, rfl⟩, rfl⟩
  · intro m; first | rfl | (simp [entryFrame, mkF, argsToLocals, Value.category]; done)

theorem d_prog_61m1_0 : decode prog_61_method_1_code 0 = .ok (.aload_n 0, 1) := by decide +kernel
theorem d_prog_61m1_1 : decode prog_61_method_1_code 1 = .ok (.invokespecial 1, 3) := by decide +kernel
theorem d_prog_61m1_4 : decode prog_61_method_1_code 4 = .ok (.aload_n 0, 1) := by decide +kernel
theorem d_prog_61m1_5 : decode prog_61_method_1_code 5 = .ok (.aload_n 1, 1) := by decide +kernel
theorem d_prog_61m1_6 : decode prog_61_method_1_code 6 = .ok (.putfield 7, 3) := by decide +kernel
theorem d_prog_61m1_9 : decode prog_61_method_1_code 9 = .ok (.return_, 1) := by decide +kernel
set_option maxRecDepth 65536 in
set_option maxHeartbeats 40000000 in
theorem c_dec (l : Launch) (Z : State) (a0 : Array Value) (hw : ∀ d ∈ tables_1, d.before a0 Z = true) (n0 : Nat) (h0 : Heap) (a : Addr) (E_a : Exa Z h0 a "com/example/fair_throttle/fairthrottle/reacting/Entry") (G_a : n0 ≤ a) (F_a_abatedBy : Fld Z h0 a "com/example/fair_throttle/fairthrottle/reacting/Decision" "abatedBy" "Lcom/example/fair_throttle/fairthrottle/reports/ReportScope;" (.null)) :
    OwnKit.Con false l Z n0 (⟨"com/example/fair_throttle/fairthrottle/reacting/Decision", "<init>", "(Lcom/example/fair_throttle/fairthrottle/reports/ReportScope;)V"⟩ : MethodName) prog_61_method_1_code 2 none ({ frames := 1, cells := 0, slots := 0, locals := 12 } : Room) #[.ref a, .null] h0 (QDec Z a h0) := by
  refine OwnKit.Con.of (by first | (refine plainFor_of_name ?_; simp [plainName, overriddenIn]; done) | decide +kernel) ?_ ?_
  · intro κ hwd K0
    have K : OwnKit.Ok κ l Z n0 "com/example/fair_throttle/fairthrottle/reacting/Decision" "<init>" prog_61_method_1_code 2 none ({ frames := 1, cells := 0, slots := 0, locals := 12 } : Room) (QDec Z a h0) := K0
    have ef : (entryFrame κ.m #[.ref a, .null] 2).locals = #[.val (.ref a), .val (.null)] := by first | (simp [entryFrame, argsToLocals, Value.category]; done) | rfl
    rw [ef]; clear ef K0
    show OwnKit.Go κ h0 0 0 0 #[.val (.ref a), .val (.null)] []
    refine OwnKit.aloadN K d_prog_61m1_0 rfl rfl ?_
    show OwnKit.Go κ h0 0 0 1 #[.val (.ref a), .val (.null)] [.ref a]
    refine OwnKit.invO (W := 0) K d_prog_61m1_1 (hw _ (List.mem_of_getElem? (i := 15) rfl)) (hw _ (List.mem_of_getElem? (i := 16) rfl)) (hw _ (List.mem_of_getElem? (i := 17) rfl)) rfl (Nat.le_of_ble_eq_true rfl) (Nat.le_of_ble_eq_true rfl) (Nat.le_of_ble_eq_true rfl) ?_
    show OwnKit.Go κ h0 0 0 4 #[.val (.ref a), .val (.null)] []
    refine OwnKit.aloadN K d_prog_61m1_4 rfl rfl ?_
    show OwnKit.Go κ h0 0 0 5 #[.val (.ref a), .val (.null)] [.ref a]
    refine OwnKit.aloadN K d_prog_61m1_5 rfl rfl ?_
    show OwnKit.Go κ h0 0 0 6 #[.val (.ref a), .val (.null)] [.null, .ref a]
    refine OwnKit.putfield K d_prog_61m1_6 (host := "") (Or.inl (hw _ (List.mem_of_getElem? (i := 18) rfl))) Via.refl F_a_abatedBy E_a (Or.inr ⟨(hw _ (List.mem_of_getElem? (i := 19) rfl)), rfl, rfl⟩) (hw _ (List.mem_of_getElem? (i := 5) rfl)) (show parseFieldDescriptor "Lcom/example/fair_throttle/fairthrottle/reports/ReportScope;" = some ((.object "com/example/fair_throttle/fairthrottle/reports/ReportScope")) from by decide +kernel) rfl rfl G_a ?_
    intro h1 W2
    have E3 := E_a.wr W2
    have F4 := Fld.same W2 F_a_abatedBy
    show OwnKit.Go κ h1 0 0 9 #[.val (.ref a), .val (.null)] []
    refine OwnKit.return0 K d_prog_61m1_9  ?_ (Nat.le_of_ble_eq_true rfl) (Nat.le_of_ble_eq_true rfl)
    exact ⟨rfl, W2⟩
  · intro m; first | rfl | (simp [entryFrame, mkF, argsToLocals, Value.category]; done)

theorem d_prog_62m1_0 : decode prog_62_method_1_code 0 = .ok (.aload_n 0, 1) := by decide +kernel
theorem d_prog_62m1_1 : decode prog_62_method_1_code 1 = .ok (.aconst_null, 1) := by decide +kernel
theorem d_prog_62m1_2 : decode prog_62_method_1_code 2 = .ok (.invokespecial 1, 3) := by decide +kernel
theorem d_prog_62m1_5 : decode prog_62_method_1_code 5 = .ok (.aload_n 0, 1) := by decide +kernel
theorem d_prog_62m1_6 : decode prog_62_method_1_code 6 = .ok (.aconst_null, 1) := by decide +kernel
theorem d_prog_62m1_7 : decode prog_62_method_1_code 7 = .ok (.putfield 7, 3) := by decide +kernel
theorem d_prog_62m1_10 : decode prog_62_method_1_code 10 = .ok (.aload_n 0, 1) := by decide +kernel
theorem d_prog_62m1_11 : decode prog_62_method_1_code 11 = .ok (.lconst 0, 1) := by decide +kernel
theorem d_prog_62m1_12 : decode prog_62_method_1_code 12 = .ok (.putfield 13, 3) := by decide +kernel
theorem d_prog_62m1_15 : decode prog_62_method_1_code 15 = .ok (.aload_n 0, 1) := by decide +kernel
theorem d_prog_62m1_16 : decode prog_62_method_1_code 16 = .ok (.aconst_null, 1) := by decide +kernel
theorem d_prog_62m1_17 : decode prog_62_method_1_code 17 = .ok (.putfield 17, 3) := by decide +kernel
theorem d_prog_62m1_20 : decode prog_62_method_1_code 20 = .ok (.aload_n 0, 1) := by decide +kernel
theorem d_prog_62m1_21 : decode prog_62_method_1_code 21 = .ok (.aconst_null, 1) := by decide +kernel
theorem d_prog_62m1_22 : decode prog_62_method_1_code 22 = .ok (.putfield 21, 3) := by decide +kernel
theorem d_prog_62m1_25 : decode prog_62_method_1_code 25 = .ok (.aload_n 0, 1) := by decide +kernel
theorem d_prog_62m1_26 : decode prog_62_method_1_code 26 = .ok (.lconst 0, 1) := by decide +kernel
theorem d_prog_62m1_27 : decode prog_62_method_1_code 27 = .ok (.putfield 25, 3) := by decide +kernel
theorem d_prog_62m1_30 : decode prog_62_method_1_code 30 = .ok (.aload_n 0, 1) := by decide +kernel
theorem d_prog_62m1_31 : decode prog_62_method_1_code 31 = .ok (.aconst_null, 1) := by decide +kernel
theorem d_prog_62m1_32 : decode prog_62_method_1_code 32 = .ok (.putfield 28, 3) := by decide +kernel
theorem d_prog_62m1_35 : decode prog_62_method_1_code 35 = .ok (.aload_n 0, 1) := by decide +kernel
theorem d_prog_62m1_36 : decode prog_62_method_1_code 36 = .ok (.lconst 0, 1) := by decide +kernel
theorem d_prog_62m1_37 : decode prog_62_method_1_code 37 = .ok (.putfield 32, 3) := by decide +kernel
theorem d_prog_62m1_40 : decode prog_62_method_1_code 40 = .ok (.aload_n 0, 1) := by decide +kernel
theorem d_prog_62m1_41 : decode prog_62_method_1_code 41 = .ok (.ldc2_w 35, 3) := by decide +kernel
theorem d_prog_62m1_44 : decode prog_62_method_1_code 44 = .ok (.putfield 37, 3) := by decide +kernel
theorem d_prog_62m1_47 : decode prog_62_method_1_code 47 = .ok (.aload_n 0, 1) := by decide +kernel
theorem d_prog_62m1_48 : decode prog_62_method_1_code 48 = .ok (.aconst_null, 1) := by decide +kernel
theorem d_prog_62m1_49 : decode prog_62_method_1_code 49 = .ok (.putfield 40, 3) := by decide +kernel
theorem d_prog_62m1_52 : decode prog_62_method_1_code 52 = .ok (.return_, 1) := by decide +kernel
set_option maxRecDepth 65536 in
set_option maxHeartbeats 40000000 in
theorem c_ent (l : Launch) (Z : State) (a0 : Array Value) (hw : ∀ d ∈ tables_1, d.before a0 Z = true) (n0 : Nat) (h0 : Heap) (a : Addr) (E_a : Exa Z h0 a "com/example/fair_throttle/fairthrottle/reacting/Entry") (G_a : n0 ≤ a) (F_a_abatedBy : Fld Z h0 a "com/example/fair_throttle/fairthrottle/reacting/Decision" "abatedBy" "Lcom/example/fair_throttle/fairthrottle/reports/ReportScope;" (.null)) (F_a_algorithm : Fld Z h0 a "com/example/fair_throttle/fairthrottle/reacting/Entry" "algorithm" "Lcom/example/fair_throttle/fairthrottle/reports/Algorithm;" (.null)) (F_a_sequenceNumber : Fld Z h0 a "com/example/fair_throttle/fairthrottle/reacting/Entry" "sequenceNumber" "J" (.long (0 : Int64))) (F_a_target : Fld Z h0 a "com/example/fair_throttle/fairthrottle/reacting/Entry" "target" "Ljava/lang/String;" (.null)) (F_a_type : Fld Z h0 a "com/example/fair_throttle/fairthrottle/reacting/Entry" "type" "Lcom/example/fair_throttle/fairthrottle/reports/ReportType;" (.null)) (F_a_applicationId : Fld Z h0 a "com/example/fair_throttle/fairthrottle/reacting/Entry" "applicationId" "J" (.long (0 : Int64))) (F_a_throttle : Fld Z h0 a "com/example/fair_throttle/fairthrottle/reacting/Entry" "throttle" "Lcom/example/fair_throttle/fairthrottle/abatement/Throttle;" (.null)) (F_a_expiresAt : Fld Z h0 a "com/example/fair_throttle/fairthrottle/reacting/Entry" "expiresAt" "J" (.long (0 : Int64))) (F_a_serial : Fld Z h0 a "com/example/fair_throttle/fairthrottle/reacting/Entry" "serial" "J" (.long (0 : Int64))) (F_a_next : Fld Z h0 a "com/example/fair_throttle/fairthrottle/reacting/Entry" "next" "Lcom/example/fair_throttle/fairthrottle/reacting/Entry;" (.null)) :
    OwnKit.Con false l Z n0 (⟨"com/example/fair_throttle/fairthrottle/reacting/Entry", "<init>", "()V"⟩ : MethodName) prog_62_method_1_code 1 none ({ frames := 2, cells := 0, slots := 0, locals := 25 } : Room) #[.ref a] h0 (QEnt Z a) := by
  refine OwnKit.Con.of (by first | (refine plainFor_of_name ?_; simp [plainName, overriddenIn]; done) | decide +kernel) ?_ ?_
  · intro κ hwd K0
    have K : OwnKit.Ok κ l Z n0 "com/example/fair_throttle/fairthrottle/reacting/Entry" "<init>" prog_62_method_1_code 1 none ({ frames := 2, cells := 0, slots := 0, locals := 25 } : Room) (QEnt Z a) := K0
    have ef : (entryFrame κ.m #[.ref a] 1).locals = #[.val (.ref a)] := by first | (simp [entryFrame, argsToLocals, Value.category]; done) | rfl
    rw [ef]; clear ef K0
    show OwnKit.Go κ h0 0 0 0 #[.val (.ref a)] []
    refine OwnKit.aloadN K d_prog_62m1_0 rfl rfl ?_
    show OwnKit.Go κ h0 0 0 1 #[.val (.ref a)] [.ref a]
    refine OwnKit.aconstNull K d_prog_62m1_1 ?_
    show OwnKit.Go κ h0 0 0 2 #[.val (.ref a)] [.null, .ref a]
    refine OwnKit.invC (y := (⟨"com/example/fair_throttle/fairthrottle/reacting/Decision", "<init>", "(Lcom/example/fair_throttle/fairthrottle/reports/ReportScope;)V"⟩ : MethodName)) (argsL := [.null]) (rest := []) K (c_dec l Z a0 hw n0 h0 a E_a G_a F_a_abatedBy) d_prog_62m1_2 rfl (hw _ (List.mem_of_getElem? (i := 10) rfl)) (hw _ (List.mem_of_getElem? (i := 11) rfl)) (hw _ (List.mem_of_getElem? (i := 14) rfl)) (hw _ (List.mem_of_getElem? (i := 13) rfl)) (by decide) (lenOf (by decide +kernel : parseMethodDescriptor "(Lcom/example/fair_throttle/fairthrottle/reports/ReportScope;)V" = some ⟨[(.object "com/example/fair_throttle/fairthrottle/reports/ReportScope")], none⟩) rfl) rfl rfl (W := 0) (Nat.le_of_ble_eq_true rfl) (Nat.le_of_ble_eq_true rfl) (Nat.le_of_ble_eq_true rfl) (Nat.le_of_ble_eq_true rfl) (Nat.le_of_ble_eq_true rfl) ?_
    rintro _ h1 ⟨rfl, Wd⟩ g2
    have E3 := E_a.wr Wd
    have F4 := Fld.same Wd F_a_abatedBy
    have F5 := Fld.other Wd F_a_algorithm (Or.inr (RoadKit.slot_ne (t := (.object "com/example/fair_throttle/fairthrottle/reports/Algorithm")) (t' := (.object "com/example/fair_throttle/fairthrottle/reports/ReportScope")) (Or.inr (hw _ (List.mem_of_getElem? (i := 21) rfl))) (Or.inr (hw _ (List.mem_of_getElem? (i := 19) rfl))) (by decide) (by decide +kernel) (by decide +kernel)))
    have F6 := Fld.other Wd F_a_sequenceNumber (Or.inr (RoadKit.slot_ne (t := .long) (t' := (.object "com/example/fair_throttle/fairthrottle/reports/ReportScope")) (Or.inr (hw _ (List.mem_of_getElem? (i := 23) rfl))) (Or.inr (hw _ (List.mem_of_getElem? (i := 19) rfl))) (by decide) (by decide +kernel) (by decide +kernel)))
    have F7 := Fld.other Wd F_a_target (Or.inr (RoadKit.slot_ne (t := (.object "java/lang/String")) (t' := (.object "com/example/fair_throttle/fairthrottle/reports/ReportScope")) (Or.inr (hw _ (List.mem_of_getElem? (i := 25) rfl))) (Or.inr (hw _ (List.mem_of_getElem? (i := 19) rfl))) (by decide) (by decide +kernel) (by decide +kernel)))
    have F8 := Fld.other Wd F_a_type (Or.inr (RoadKit.slot_ne (t := (.object "com/example/fair_throttle/fairthrottle/reports/ReportType")) (t' := (.object "com/example/fair_throttle/fairthrottle/reports/ReportScope")) (Or.inr (hw _ (List.mem_of_getElem? (i := 27) rfl))) (Or.inr (hw _ (List.mem_of_getElem? (i := 19) rfl))) (by decide) (by decide +kernel) (by decide +kernel)))
    have F9 := Fld.other Wd F_a_applicationId (Or.inr (RoadKit.slot_ne (t := .long) (t' := (.object "com/example/fair_throttle/fairthrottle/reports/ReportScope")) (Or.inr (hw _ (List.mem_of_getElem? (i := 29) rfl))) (Or.inr (hw _ (List.mem_of_getElem? (i := 19) rfl))) (by decide) (by decide +kernel) (by decide +kernel)))
    have F10 := Fld.other Wd F_a_throttle (Or.inr (RoadKit.slot_ne (t := (.object "com/example/fair_throttle/fairthrottle/abatement/Throttle")) (t' := (.object "com/example/fair_throttle/fairthrottle/reports/ReportScope")) (Or.inr (hw _ (List.mem_of_getElem? (i := 31) rfl))) (Or.inr (hw _ (List.mem_of_getElem? (i := 19) rfl))) (by decide) (by decide +kernel) (by decide +kernel)))
    have F11 := Fld.other Wd F_a_expiresAt (Or.inr (RoadKit.slot_ne (t := .long) (t' := (.object "com/example/fair_throttle/fairthrottle/reports/ReportScope")) (Or.inr (hw _ (List.mem_of_getElem? (i := 33) rfl))) (Or.inr (hw _ (List.mem_of_getElem? (i := 19) rfl))) (by decide) (by decide +kernel) (by decide +kernel)))
    have F12 := Fld.other Wd F_a_serial (Or.inr (RoadKit.slot_ne (t := .long) (t' := (.object "com/example/fair_throttle/fairthrottle/reports/ReportScope")) (Or.inr (hw _ (List.mem_of_getElem? (i := 36) rfl))) (Or.inr (hw _ (List.mem_of_getElem? (i := 19) rfl))) (by decide) (by decide +kernel) (by decide +kernel)))
    have F13 := Fld.other Wd F_a_next (Or.inr (RoadKit.slot_ne (t := (.object "com/example/fair_throttle/fairthrottle/reacting/Entry")) (t' := (.object "com/example/fair_throttle/fairthrottle/reports/ReportScope")) (Or.inr (hw _ (List.mem_of_getElem? (i := 38) rfl))) (Or.inr (hw _ (List.mem_of_getElem? (i := 19) rfl))) (by decide) (by decide +kernel) (by decide +kernel)))
    show OwnKit.Go κ h1 0 0 5 #[.val (.ref a)] []
    refine OwnKit.aloadN K d_prog_62m1_5 rfl rfl ?_
    show OwnKit.Go κ h1 0 0 6 #[.val (.ref a)] [.ref a]
    refine OwnKit.aconstNull K d_prog_62m1_6 ?_
    show OwnKit.Go κ h1 0 0 7 #[.val (.ref a)] [.null, .ref a]
    refine OwnKit.putfield K d_prog_62m1_7 (host := "") (Or.inl (hw _ (List.mem_of_getElem? (i := 20) rfl))) Via.refl F5 E3 (Or.inr ⟨(hw _ (List.mem_of_getElem? (i := 21) rfl)), rfl, rfl⟩) (hw _ (List.mem_of_getElem? (i := 5) rfl)) (show parseFieldDescriptor "Lcom/example/fair_throttle/fairthrottle/reports/Algorithm;" = some ((.object "com/example/fair_throttle/fairthrottle/reports/Algorithm")) from by decide +kernel) rfl rfl G_a ?_
    intro h14 W15
    have E16 := E3.wr W15
    have F17 := Fld.other W15 F4 (Or.inr (RoadKit.slot_ne (t := (.object "com/example/fair_throttle/fairthrottle/reports/ReportScope")) (t' := (.object "com/example/fair_throttle/fairthrottle/reports/Algorithm")) (Or.inr (hw _ (List.mem_of_getElem? (i := 19) rfl))) (Or.inr (hw _ (List.mem_of_getElem? (i := 21) rfl))) (by decide) (by decide +kernel) (by decide +kernel)))
    have F18 := Fld.same W15 F5
    have F19 := Fld.other W15 F6 (Or.inr (RoadKit.slot_ne (t := .long) (t' := (.object "com/example/fair_throttle/fairthrottle/reports/Algorithm")) (Or.inr (hw _ (List.mem_of_getElem? (i := 23) rfl))) (Or.inr (hw _ (List.mem_of_getElem? (i := 21) rfl))) (by decide) (by decide +kernel) (by decide +kernel)))
    have F20 := Fld.other W15 F7 (Or.inr (RoadKit.slot_ne (t := (.object "java/lang/String")) (t' := (.object "com/example/fair_throttle/fairthrottle/reports/Algorithm")) (Or.inr (hw _ (List.mem_of_getElem? (i := 25) rfl))) (Or.inr (hw _ (List.mem_of_getElem? (i := 21) rfl))) (by decide) (by decide +kernel) (by decide +kernel)))
    have F21 := Fld.other W15 F8 (Or.inr (RoadKit.slot_ne (t := (.object "com/example/fair_throttle/fairthrottle/reports/ReportType")) (t' := (.object "com/example/fair_throttle/fairthrottle/reports/Algorithm")) (Or.inr (hw _ (List.mem_of_getElem? (i := 27) rfl))) (Or.inr (hw _ (List.mem_of_getElem? (i := 21) rfl))) (by decide) (by decide +kernel) (by decide +kernel)))
    have F22 := Fld.other W15 F9 (Or.inr (RoadKit.slot_ne (t := .long) (t' := (.object "com/example/fair_throttle/fairthrottle/reports/Algorithm")) (Or.inr (hw _ (List.mem_of_getElem? (i := 29) rfl))) (Or.inr (hw _ (List.mem_of_getElem? (i := 21) rfl))) (by decide) (by decide +kernel) (by decide +kernel)))
    have F23 := Fld.other W15 F10 (Or.inr (RoadKit.slot_ne (t := (.object "com/example/fair_throttle/fairthrottle/abatement/Throttle")) (t' := (.object "com/example/fair_throttle/fairthrottle/reports/Algorithm")) (Or.inr (hw _ (List.mem_of_getElem? (i := 31) rfl))) (Or.inr (hw _ (List.mem_of_getElem? (i := 21) rfl))) (by decide) (by decide +kernel) (by decide +kernel)))
    have F24 := Fld.other W15 F11 (Or.inr (RoadKit.slot_ne (t := .long) (t' := (.object "com/example/fair_throttle/fairthrottle/reports/Algorithm")) (Or.inr (hw _ (List.mem_of_getElem? (i := 33) rfl))) (Or.inr (hw _ (List.mem_of_getElem? (i := 21) rfl))) (by decide) (by decide +kernel) (by decide +kernel)))
    have F25 := Fld.other W15 F12 (Or.inr (RoadKit.slot_ne (t := .long) (t' := (.object "com/example/fair_throttle/fairthrottle/reports/Algorithm")) (Or.inr (hw _ (List.mem_of_getElem? (i := 36) rfl))) (Or.inr (hw _ (List.mem_of_getElem? (i := 21) rfl))) (by decide) (by decide +kernel) (by decide +kernel)))
    have F26 := Fld.other W15 F13 (Or.inr (RoadKit.slot_ne (t := (.object "com/example/fair_throttle/fairthrottle/reacting/Entry")) (t' := (.object "com/example/fair_throttle/fairthrottle/reports/Algorithm")) (Or.inr (hw _ (List.mem_of_getElem? (i := 38) rfl))) (Or.inr (hw _ (List.mem_of_getElem? (i := 21) rfl))) (by decide) (by decide +kernel) (by decide +kernel)))
    show OwnKit.Go κ h14 0 0 10 #[.val (.ref a)] []
    refine OwnKit.aloadN K d_prog_62m1_10 rfl rfl ?_
    show OwnKit.Go κ h14 0 0 11 #[.val (.ref a)] [.ref a]
    refine OwnKit.lconst K d_prog_62m1_11 ?_
    show OwnKit.Go κ h14 0 0 12 #[.val (.ref a)] [.long (0 : Int64), .ref a]
    refine OwnKit.putfield K d_prog_62m1_12 (host := "") (Or.inl (hw _ (List.mem_of_getElem? (i := 22) rfl))) Via.refl F19 E16 (Or.inr ⟨(hw _ (List.mem_of_getElem? (i := 23) rfl)), rfl, rfl⟩) (hw _ (List.mem_of_getElem? (i := 5) rfl)) (show parseFieldDescriptor "J" = some (.long) from by decide +kernel) rfl rfl G_a ?_
    intro h27 W28
    have E29 := E16.wr W28
    have F30 := Fld.other W28 F17 (Or.inr (RoadKit.slot_ne (t := (.object "com/example/fair_throttle/fairthrottle/reports/ReportScope")) (t' := .long) (Or.inr (hw _ (List.mem_of_getElem? (i := 19) rfl))) (Or.inr (hw _ (List.mem_of_getElem? (i := 23) rfl))) (by decide) (by decide +kernel) (by decide +kernel)))
    have F31 := Fld.other W28 F18 (Or.inr (RoadKit.slot_ne (t := (.object "com/example/fair_throttle/fairthrottle/reports/Algorithm")) (t' := .long) (Or.inr (hw _ (List.mem_of_getElem? (i := 21) rfl))) (Or.inr (hw _ (List.mem_of_getElem? (i := 23) rfl))) (by decide) (by decide +kernel) (by decide +kernel)))
    have F32 := Fld.same W28 F19
    have F33 := Fld.other W28 F20 (Or.inr (RoadKit.slot_ne (t := (.object "java/lang/String")) (t' := .long) (Or.inr (hw _ (List.mem_of_getElem? (i := 25) rfl))) (Or.inr (hw _ (List.mem_of_getElem? (i := 23) rfl))) (by decide) (by decide +kernel) (by decide +kernel)))
    have F34 := Fld.other W28 F21 (Or.inr (RoadKit.slot_ne (t := (.object "com/example/fair_throttle/fairthrottle/reports/ReportType")) (t' := .long) (Or.inr (hw _ (List.mem_of_getElem? (i := 27) rfl))) (Or.inr (hw _ (List.mem_of_getElem? (i := 23) rfl))) (by decide) (by decide +kernel) (by decide +kernel)))
    have F35 := Fld.other W28 F22 (Or.inr (RoadKit.slot_ne (t := .long) (t' := .long) (Or.inr (hw _ (List.mem_of_getElem? (i := 29) rfl))) (Or.inr (hw _ (List.mem_of_getElem? (i := 23) rfl))) (by decide) (by decide +kernel) (by decide +kernel)))
    have F36 := Fld.other W28 F23 (Or.inr (RoadKit.slot_ne (t := (.object "com/example/fair_throttle/fairthrottle/abatement/Throttle")) (t' := .long) (Or.inr (hw _ (List.mem_of_getElem? (i := 31) rfl))) (Or.inr (hw _ (List.mem_of_getElem? (i := 23) rfl))) (by decide) (by decide +kernel) (by decide +kernel)))
    have F37 := Fld.other W28 F24 (Or.inr (RoadKit.slot_ne (t := .long) (t' := .long) (Or.inr (hw _ (List.mem_of_getElem? (i := 33) rfl))) (Or.inr (hw _ (List.mem_of_getElem? (i := 23) rfl))) (by decide) (by decide +kernel) (by decide +kernel)))
    have F38 := Fld.other W28 F25 (Or.inr (RoadKit.slot_ne (t := .long) (t' := .long) (Or.inr (hw _ (List.mem_of_getElem? (i := 36) rfl))) (Or.inr (hw _ (List.mem_of_getElem? (i := 23) rfl))) (by decide) (by decide +kernel) (by decide +kernel)))
    have F39 := Fld.other W28 F26 (Or.inr (RoadKit.slot_ne (t := (.object "com/example/fair_throttle/fairthrottle/reacting/Entry")) (t' := .long) (Or.inr (hw _ (List.mem_of_getElem? (i := 38) rfl))) (Or.inr (hw _ (List.mem_of_getElem? (i := 23) rfl))) (by decide) (by decide +kernel) (by decide +kernel)))
    show OwnKit.Go κ h27 0 0 15 #[.val (.ref a)] []
    refine OwnKit.aloadN K d_prog_62m1_15 rfl rfl ?_
    show OwnKit.Go κ h27 0 0 16 #[.val (.ref a)] [.ref a]
    refine OwnKit.aconstNull K d_prog_62m1_16 ?_
    show OwnKit.Go κ h27 0 0 17 #[.val (.ref a)] [.null, .ref a]
    refine OwnKit.putfield K d_prog_62m1_17 (host := "") (Or.inl (hw _ (List.mem_of_getElem? (i := 24) rfl))) Via.refl F33 E29 (Or.inr ⟨(hw _ (List.mem_of_getElem? (i := 25) rfl)), rfl, rfl⟩) (hw _ (List.mem_of_getElem? (i := 5) rfl)) (show parseFieldDescriptor "Ljava/lang/String;" = some ((.object "java/lang/String")) from by decide +kernel) rfl rfl G_a ?_
    intro h40 W41
    have E42 := E29.wr W41
    have F43 := Fld.other W41 F30 (Or.inr (RoadKit.slot_ne (t := (.object "com/example/fair_throttle/fairthrottle/reports/ReportScope")) (t' := (.object "java/lang/String")) (Or.inr (hw _ (List.mem_of_getElem? (i := 19) rfl))) (Or.inr (hw _ (List.mem_of_getElem? (i := 25) rfl))) (by decide) (by decide +kernel) (by decide +kernel)))
    have F44 := Fld.other W41 F31 (Or.inr (RoadKit.slot_ne (t := (.object "com/example/fair_throttle/fairthrottle/reports/Algorithm")) (t' := (.object "java/lang/String")) (Or.inr (hw _ (List.mem_of_getElem? (i := 21) rfl))) (Or.inr (hw _ (List.mem_of_getElem? (i := 25) rfl))) (by decide) (by decide +kernel) (by decide +kernel)))
    have F45 := Fld.other W41 F32 (Or.inr (RoadKit.slot_ne (t := .long) (t' := (.object "java/lang/String")) (Or.inr (hw _ (List.mem_of_getElem? (i := 23) rfl))) (Or.inr (hw _ (List.mem_of_getElem? (i := 25) rfl))) (by decide) (by decide +kernel) (by decide +kernel)))
    have F46 := Fld.same W41 F33
    have F47 := Fld.other W41 F34 (Or.inr (RoadKit.slot_ne (t := (.object "com/example/fair_throttle/fairthrottle/reports/ReportType")) (t' := (.object "java/lang/String")) (Or.inr (hw _ (List.mem_of_getElem? (i := 27) rfl))) (Or.inr (hw _ (List.mem_of_getElem? (i := 25) rfl))) (by decide) (by decide +kernel) (by decide +kernel)))
    have F48 := Fld.other W41 F35 (Or.inr (RoadKit.slot_ne (t := .long) (t' := (.object "java/lang/String")) (Or.inr (hw _ (List.mem_of_getElem? (i := 29) rfl))) (Or.inr (hw _ (List.mem_of_getElem? (i := 25) rfl))) (by decide) (by decide +kernel) (by decide +kernel)))
    have F49 := Fld.other W41 F36 (Or.inr (RoadKit.slot_ne (t := (.object "com/example/fair_throttle/fairthrottle/abatement/Throttle")) (t' := (.object "java/lang/String")) (Or.inr (hw _ (List.mem_of_getElem? (i := 31) rfl))) (Or.inr (hw _ (List.mem_of_getElem? (i := 25) rfl))) (by decide) (by decide +kernel) (by decide +kernel)))
    have F50 := Fld.other W41 F37 (Or.inr (RoadKit.slot_ne (t := .long) (t' := (.object "java/lang/String")) (Or.inr (hw _ (List.mem_of_getElem? (i := 33) rfl))) (Or.inr (hw _ (List.mem_of_getElem? (i := 25) rfl))) (by decide) (by decide +kernel) (by decide +kernel)))
    have F51 := Fld.other W41 F38 (Or.inr (RoadKit.slot_ne (t := .long) (t' := (.object "java/lang/String")) (Or.inr (hw _ (List.mem_of_getElem? (i := 36) rfl))) (Or.inr (hw _ (List.mem_of_getElem? (i := 25) rfl))) (by decide) (by decide +kernel) (by decide +kernel)))
    have F52 := Fld.other W41 F39 (Or.inr (RoadKit.slot_ne (t := (.object "com/example/fair_throttle/fairthrottle/reacting/Entry")) (t' := (.object "java/lang/String")) (Or.inr (hw _ (List.mem_of_getElem? (i := 38) rfl))) (Or.inr (hw _ (List.mem_of_getElem? (i := 25) rfl))) (by decide) (by decide +kernel) (by decide +kernel)))
    show OwnKit.Go κ h40 0 0 20 #[.val (.ref a)] []
    refine OwnKit.aloadN K d_prog_62m1_20 rfl rfl ?_
    show OwnKit.Go κ h40 0 0 21 #[.val (.ref a)] [.ref a]
    refine OwnKit.aconstNull K d_prog_62m1_21 ?_
    show OwnKit.Go κ h40 0 0 22 #[.val (.ref a)] [.null, .ref a]
    refine OwnKit.putfield K d_prog_62m1_22 (host := "") (Or.inl (hw _ (List.mem_of_getElem? (i := 26) rfl))) Via.refl F47 E42 (Or.inr ⟨(hw _ (List.mem_of_getElem? (i := 27) rfl)), rfl, rfl⟩) (hw _ (List.mem_of_getElem? (i := 5) rfl)) (show parseFieldDescriptor "Lcom/example/fair_throttle/fairthrottle/reports/ReportType;" = some ((.object "com/example/fair_throttle/fairthrottle/reports/ReportType")) from by decide +kernel) rfl rfl G_a ?_
    intro h53 W54
    have E55 := E42.wr W54
    have F56 := Fld.other W54 F43 (Or.inr (RoadKit.slot_ne (t := (.object "com/example/fair_throttle/fairthrottle/reports/ReportScope")) (t' := (.object "com/example/fair_throttle/fairthrottle/reports/ReportType")) (Or.inr (hw _ (List.mem_of_getElem? (i := 19) rfl))) (Or.inr (hw _ (List.mem_of_getElem? (i := 27) rfl))) (by decide) (by decide +kernel) (by decide +kernel)))
    have F57 := Fld.other W54 F44 (Or.inr (RoadKit.slot_ne (t := (.object "com/example/fair_throttle/fairthrottle/reports/Algorithm")) (t' := (.object "com/example/fair_throttle/fairthrottle/reports/ReportType")) (Or.inr (hw _ (List.mem_of_getElem? (i := 21) rfl))) (Or.inr (hw _ (List.mem_of_getElem? (i := 27) rfl))) (by decide) (by decide +kernel) (by decide +kernel)))
    have F58 := Fld.other W54 F45 (Or.inr (RoadKit.slot_ne (t := .long) (t' := (.object "com/example/fair_throttle/fairthrottle/reports/ReportType")) (Or.inr (hw _ (List.mem_of_getElem? (i := 23) rfl))) (Or.inr (hw _ (List.mem_of_getElem? (i := 27) rfl))) (by decide) (by decide +kernel) (by decide +kernel)))
    have F59 := Fld.other W54 F46 (Or.inr (RoadKit.slot_ne (t := (.object "java/lang/String")) (t' := (.object "com/example/fair_throttle/fairthrottle/reports/ReportType")) (Or.inr (hw _ (List.mem_of_getElem? (i := 25) rfl))) (Or.inr (hw _ (List.mem_of_getElem? (i := 27) rfl))) (by decide) (by decide +kernel) (by decide +kernel)))
    have F60 := Fld.same W54 F47
    have F61 := Fld.other W54 F48 (Or.inr (RoadKit.slot_ne (t := .long) (t' := (.object "com/example/fair_throttle/fairthrottle/reports/ReportType")) (Or.inr (hw _ (List.mem_of_getElem? (i := 29) rfl))) (Or.inr (hw _ (List.mem_of_getElem? (i := 27) rfl))) (by decide) (by decide +kernel) (by decide +kernel)))
    have F62 := Fld.other W54 F49 (Or.inr (RoadKit.slot_ne (t := (.object "com/example/fair_throttle/fairthrottle/abatement/Throttle")) (t' := (.object "com/example/fair_throttle/fairthrottle/reports/ReportType")) (Or.inr (hw _ (List.mem_of_getElem? (i := 31) rfl))) (Or.inr (hw _ (List.mem_of_getElem? (i := 27) rfl))) (by decide) (by decide +kernel) (by decide +kernel)))
    have F63 := Fld.other W54 F50 (Or.inr (RoadKit.slot_ne (t := .long) (t' := (.object "com/example/fair_throttle/fairthrottle/reports/ReportType")) (Or.inr (hw _ (List.mem_of_getElem? (i := 33) rfl))) (Or.inr (hw _ (List.mem_of_getElem? (i := 27) rfl))) (by decide) (by decide +kernel) (by decide +kernel)))
    have F64 := Fld.other W54 F51 (Or.inr (RoadKit.slot_ne (t := .long) (t' := (.object "com/example/fair_throttle/fairthrottle/reports/ReportType")) (Or.inr (hw _ (List.mem_of_getElem? (i := 36) rfl))) (Or.inr (hw _ (List.mem_of_getElem? (i := 27) rfl))) (by decide) (by decide +kernel) (by decide +kernel)))
    have F65 := Fld.other W54 F52 (Or.inr (RoadKit.slot_ne (t := (.object "com/example/fair_throttle/fairthrottle/reacting/Entry")) (t' := (.object "com/example/fair_throttle/fairthrottle/reports/ReportType")) (Or.inr (hw _ (List.mem_of_getElem? (i := 38) rfl))) (Or.inr (hw _ (List.mem_of_getElem? (i := 27) rfl))) (by decide) (by decide +kernel) (by decide +kernel)))
    show OwnKit.Go κ h53 0 0 25 #[.val (.ref a)] []
    refine OwnKit.aloadN K d_prog_62m1_25 rfl rfl ?_
    show OwnKit.Go κ h53 0 0 26 #[.val (.ref a)] [.ref a]
    refine OwnKit.lconst K d_prog_62m1_26 ?_
    show OwnKit.Go κ h53 0 0 27 #[.val (.ref a)] [.long (0 : Int64), .ref a]
    refine OwnKit.putfield K d_prog_62m1_27 (host := "") (Or.inl (hw _ (List.mem_of_getElem? (i := 28) rfl))) Via.refl F61 E55 (Or.inr ⟨(hw _ (List.mem_of_getElem? (i := 29) rfl)), rfl, rfl⟩) (hw _ (List.mem_of_getElem? (i := 5) rfl)) (show parseFieldDescriptor "J" = some (.long) from by decide +kernel) rfl rfl G_a ?_
    intro h66 W67
    have E68 := E55.wr W67
    have F69 := Fld.other W67 F56 (Or.inr (RoadKit.slot_ne (t := (.object "com/example/fair_throttle/fairthrottle/reports/ReportScope")) (t' := .long) (Or.inr (hw _ (List.mem_of_getElem? (i := 19) rfl))) (Or.inr (hw _ (List.mem_of_getElem? (i := 29) rfl))) (by decide) (by decide +kernel) (by decide +kernel)))
    have F70 := Fld.other W67 F57 (Or.inr (RoadKit.slot_ne (t := (.object "com/example/fair_throttle/fairthrottle/reports/Algorithm")) (t' := .long) (Or.inr (hw _ (List.mem_of_getElem? (i := 21) rfl))) (Or.inr (hw _ (List.mem_of_getElem? (i := 29) rfl))) (by decide) (by decide +kernel) (by decide +kernel)))
    have F71 := Fld.other W67 F58 (Or.inr (RoadKit.slot_ne (t := .long) (t' := .long) (Or.inr (hw _ (List.mem_of_getElem? (i := 23) rfl))) (Or.inr (hw _ (List.mem_of_getElem? (i := 29) rfl))) (by decide) (by decide +kernel) (by decide +kernel)))
    have F72 := Fld.other W67 F59 (Or.inr (RoadKit.slot_ne (t := (.object "java/lang/String")) (t' := .long) (Or.inr (hw _ (List.mem_of_getElem? (i := 25) rfl))) (Or.inr (hw _ (List.mem_of_getElem? (i := 29) rfl))) (by decide) (by decide +kernel) (by decide +kernel)))
    have F73 := Fld.other W67 F60 (Or.inr (RoadKit.slot_ne (t := (.object "com/example/fair_throttle/fairthrottle/reports/ReportType")) (t' := .long) (Or.inr (hw _ (List.mem_of_getElem? (i := 27) rfl))) (Or.inr (hw _ (List.mem_of_getElem? (i := 29) rfl))) (by decide) (by decide +kernel) (by decide +kernel)))
    have F74 := Fld.same W67 F61
    have F75 := Fld.other W67 F62 (Or.inr (RoadKit.slot_ne (t := (.object "com/example/fair_throttle/fairthrottle/abatement/Throttle")) (t' := .long) (Or.inr (hw _ (List.mem_of_getElem? (i := 31) rfl))) (Or.inr (hw _ (List.mem_of_getElem? (i := 29) rfl))) (by decide) (by decide +kernel) (by decide +kernel)))
    have F76 := Fld.other W67 F63 (Or.inr (RoadKit.slot_ne (t := .long) (t' := .long) (Or.inr (hw _ (List.mem_of_getElem? (i := 33) rfl))) (Or.inr (hw _ (List.mem_of_getElem? (i := 29) rfl))) (by decide) (by decide +kernel) (by decide +kernel)))
    have F77 := Fld.other W67 F64 (Or.inr (RoadKit.slot_ne (t := .long) (t' := .long) (Or.inr (hw _ (List.mem_of_getElem? (i := 36) rfl))) (Or.inr (hw _ (List.mem_of_getElem? (i := 29) rfl))) (by decide) (by decide +kernel) (by decide +kernel)))
    have F78 := Fld.other W67 F65 (Or.inr (RoadKit.slot_ne (t := (.object "com/example/fair_throttle/fairthrottle/reacting/Entry")) (t' := .long) (Or.inr (hw _ (List.mem_of_getElem? (i := 38) rfl))) (Or.inr (hw _ (List.mem_of_getElem? (i := 29) rfl))) (by decide) (by decide +kernel) (by decide +kernel)))
    show OwnKit.Go κ h66 0 0 30 #[.val (.ref a)] []
    refine OwnKit.aloadN K d_prog_62m1_30 rfl rfl ?_
    show OwnKit.Go κ h66 0 0 31 #[.val (.ref a)] [.ref a]
    refine OwnKit.aconstNull K d_prog_62m1_31 ?_
    show OwnKit.Go κ h66 0 0 32 #[.val (.ref a)] [.null, .ref a]
    refine OwnKit.putfield K d_prog_62m1_32 (host := "") (Or.inl (hw _ (List.mem_of_getElem? (i := 30) rfl))) Via.refl F75 E68 (Or.inr ⟨(hw _ (List.mem_of_getElem? (i := 31) rfl)), rfl, rfl⟩) (hw _ (List.mem_of_getElem? (i := 5) rfl)) (show parseFieldDescriptor "Lcom/example/fair_throttle/fairthrottle/abatement/Throttle;" = some ((.object "com/example/fair_throttle/fairthrottle/abatement/Throttle")) from by decide +kernel) rfl rfl G_a ?_
    intro h79 W80
    have E81 := E68.wr W80
    have F82 := Fld.other W80 F69 (Or.inr (RoadKit.slot_ne (t := (.object "com/example/fair_throttle/fairthrottle/reports/ReportScope")) (t' := (.object "com/example/fair_throttle/fairthrottle/abatement/Throttle")) (Or.inr (hw _ (List.mem_of_getElem? (i := 19) rfl))) (Or.inr (hw _ (List.mem_of_getElem? (i := 31) rfl))) (by decide) (by decide +kernel) (by decide +kernel)))
    have F83 := Fld.other W80 F70 (Or.inr (RoadKit.slot_ne (t := (.object "com/example/fair_throttle/fairthrottle/reports/Algorithm")) (t' := (.object "com/example/fair_throttle/fairthrottle/abatement/Throttle")) (Or.inr (hw _ (List.mem_of_getElem? (i := 21) rfl))) (Or.inr (hw _ (List.mem_of_getElem? (i := 31) rfl))) (by decide) (by decide +kernel) (by decide +kernel)))
    have F84 := Fld.other W80 F71 (Or.inr (RoadKit.slot_ne (t := .long) (t' := (.object "com/example/fair_throttle/fairthrottle/abatement/Throttle")) (Or.inr (hw _ (List.mem_of_getElem? (i := 23) rfl))) (Or.inr (hw _ (List.mem_of_getElem? (i := 31) rfl))) (by decide) (by decide +kernel) (by decide +kernel)))
    have F85 := Fld.other W80 F72 (Or.inr (RoadKit.slot_ne (t := (.object "java/lang/String")) (t' := (.object "com/example/fair_throttle/fairthrottle/abatement/Throttle")) (Or.inr (hw _ (List.mem_of_getElem? (i := 25) rfl))) (Or.inr (hw _ (List.mem_of_getElem? (i := 31) rfl))) (by decide) (by decide +kernel) (by decide +kernel)))
    have F86 := Fld.other W80 F73 (Or.inr (RoadKit.slot_ne (t := (.object "com/example/fair_throttle/fairthrottle/reports/ReportType")) (t' := (.object "com/example/fair_throttle/fairthrottle/abatement/Throttle")) (Or.inr (hw _ (List.mem_of_getElem? (i := 27) rfl))) (Or.inr (hw _ (List.mem_of_getElem? (i := 31) rfl))) (by decide) (by decide +kernel) (by decide +kernel)))
    have F87 := Fld.other W80 F74 (Or.inr (RoadKit.slot_ne (t := .long) (t' := (.object "com/example/fair_throttle/fairthrottle/abatement/Throttle")) (Or.inr (hw _ (List.mem_of_getElem? (i := 29) rfl))) (Or.inr (hw _ (List.mem_of_getElem? (i := 31) rfl))) (by decide) (by decide +kernel) (by decide +kernel)))
    have F88 := Fld.same W80 F75
    have F89 := Fld.other W80 F76 (Or.inr (RoadKit.slot_ne (t := .long) (t' := (.object "com/example/fair_throttle/fairthrottle/abatement/Throttle")) (Or.inr (hw _ (List.mem_of_getElem? (i := 33) rfl))) (Or.inr (hw _ (List.mem_of_getElem? (i := 31) rfl))) (by decide) (by decide +kernel) (by decide +kernel)))
    have F90 := Fld.other W80 F77 (Or.inr (RoadKit.slot_ne (t := .long) (t' := (.object "com/example/fair_throttle/fairthrottle/abatement/Throttle")) (Or.inr (hw _ (List.mem_of_getElem? (i := 36) rfl))) (Or.inr (hw _ (List.mem_of_getElem? (i := 31) rfl))) (by decide) (by decide +kernel) (by decide +kernel)))
    have F91 := Fld.other W80 F78 (Or.inr (RoadKit.slot_ne (t := (.object "com/example/fair_throttle/fairthrottle/reacting/Entry")) (t' := (.object "com/example/fair_throttle/fairthrottle/abatement/Throttle")) (Or.inr (hw _ (List.mem_of_getElem? (i := 38) rfl))) (Or.inr (hw _ (List.mem_of_getElem? (i := 31) rfl))) (by decide) (by decide +kernel) (by decide +kernel)))
    show OwnKit.Go κ h79 0 0 35 #[.val (.ref a)] []
    refine OwnKit.aloadN K d_prog_62m1_35 rfl rfl ?_
    show OwnKit.Go κ h79 0 0 36 #[.val (.ref a)] [.ref a]
    refine OwnKit.lconst K d_prog_62m1_36 ?_
    show OwnKit.Go κ h79 0 0 37 #[.val (.ref a)] [.long (0 : Int64), .ref a]
    refine OwnKit.putfield K d_prog_62m1_37 (host := "") (Or.inl (hw _ (List.mem_of_getElem? (i := 32) rfl))) Via.refl F89 E81 (Or.inr ⟨(hw _ (List.mem_of_getElem? (i := 33) rfl)), rfl, rfl⟩) (hw _ (List.mem_of_getElem? (i := 5) rfl)) (show parseFieldDescriptor "J" = some (.long) from by decide +kernel) rfl rfl G_a ?_
    intro h92 W93
    have E94 := E81.wr W93
    have F95 := Fld.other W93 F82 (Or.inr (RoadKit.slot_ne (t := (.object "com/example/fair_throttle/fairthrottle/reports/ReportScope")) (t' := .long) (Or.inr (hw _ (List.mem_of_getElem? (i := 19) rfl))) (Or.inr (hw _ (List.mem_of_getElem? (i := 33) rfl))) (by decide) (by decide +kernel) (by decide +kernel)))
    have F96 := Fld.other W93 F83 (Or.inr (RoadKit.slot_ne (t := (.object "com/example/fair_throttle/fairthrottle/reports/Algorithm")) (t' := .long) (Or.inr (hw _ (List.mem_of_getElem? (i := 21) rfl))) (Or.inr (hw _ (List.mem_of_getElem? (i := 33) rfl))) (by decide) (by decide +kernel) (by decide +kernel)))
    have F97 := Fld.other W93 F84 (Or.inr (RoadKit.slot_ne (t := .long) (t' := .long) (Or.inr (hw _ (List.mem_of_getElem? (i := 23) rfl))) (Or.inr (hw _ (List.mem_of_getElem? (i := 33) rfl))) (by decide) (by decide +kernel) (by decide +kernel)))
    have F98 := Fld.other W93 F85 (Or.inr (RoadKit.slot_ne (t := (.object "java/lang/String")) (t' := .long) (Or.inr (hw _ (List.mem_of_getElem? (i := 25) rfl))) (Or.inr (hw _ (List.mem_of_getElem? (i := 33) rfl))) (by decide) (by decide +kernel) (by decide +kernel)))
    have F99 := Fld.other W93 F86 (Or.inr (RoadKit.slot_ne (t := (.object "com/example/fair_throttle/fairthrottle/reports/ReportType")) (t' := .long) (Or.inr (hw _ (List.mem_of_getElem? (i := 27) rfl))) (Or.inr (hw _ (List.mem_of_getElem? (i := 33) rfl))) (by decide) (by decide +kernel) (by decide +kernel)))
    have F100 := Fld.other W93 F87 (Or.inr (RoadKit.slot_ne (t := .long) (t' := .long) (Or.inr (hw _ (List.mem_of_getElem? (i := 29) rfl))) (Or.inr (hw _ (List.mem_of_getElem? (i := 33) rfl))) (by decide) (by decide +kernel) (by decide +kernel)))
    have F101 := Fld.other W93 F88 (Or.inr (RoadKit.slot_ne (t := (.object "com/example/fair_throttle/fairthrottle/abatement/Throttle")) (t' := .long) (Or.inr (hw _ (List.mem_of_getElem? (i := 31) rfl))) (Or.inr (hw _ (List.mem_of_getElem? (i := 33) rfl))) (by decide) (by decide +kernel) (by decide +kernel)))
    have F102 := Fld.same W93 F89
    have F103 := Fld.other W93 F90 (Or.inr (RoadKit.slot_ne (t := .long) (t' := .long) (Or.inr (hw _ (List.mem_of_getElem? (i := 36) rfl))) (Or.inr (hw _ (List.mem_of_getElem? (i := 33) rfl))) (by decide) (by decide +kernel) (by decide +kernel)))
    have F104 := Fld.other W93 F91 (Or.inr (RoadKit.slot_ne (t := (.object "com/example/fair_throttle/fairthrottle/reacting/Entry")) (t' := .long) (Or.inr (hw _ (List.mem_of_getElem? (i := 38) rfl))) (Or.inr (hw _ (List.mem_of_getElem? (i := 33) rfl))) (by decide) (by decide +kernel) (by decide +kernel)))
    show OwnKit.Go κ h92 0 0 40 #[.val (.ref a)] []
    refine OwnKit.aloadN K d_prog_62m1_40 rfl rfl ?_
    show OwnKit.Go κ h92 0 0 41 #[.val (.ref a)] [.ref a]
    refine OwnKit.ldc2J K d_prog_62m1_41 (hw _ (List.mem_of_getElem? (i := 34) rfl)) ?_
    show OwnKit.Go κ h92 0 0 44 #[.val (.ref a)] [.long (-1 : Int64), .ref a]
    refine OwnKit.putfield K d_prog_62m1_44 (host := "") (Or.inl (hw _ (List.mem_of_getElem? (i := 35) rfl))) Via.refl F103 E94 (Or.inr ⟨(hw _ (List.mem_of_getElem? (i := 36) rfl)), rfl, rfl⟩) (hw _ (List.mem_of_getElem? (i := 5) rfl)) (show parseFieldDescriptor "J" = some (.long) from by decide +kernel) rfl rfl G_a ?_
    intro h105 W106
    have E107 := E94.wr W106
    have F108 := Fld.other W106 F95 (Or.inr (RoadKit.slot_ne (t := (.object "com/example/fair_throttle/fairthrottle/reports/ReportScope")) (t' := .long) (Or.inr (hw _ (List.mem_of_getElem? (i := 19) rfl))) (Or.inr (hw _ (List.mem_of_getElem? (i := 36) rfl))) (by decide) (by decide +kernel) (by decide +kernel)))
    have F109 := Fld.other W106 F96 (Or.inr (RoadKit.slot_ne (t := (.object "com/example/fair_throttle/fairthrottle/reports/Algorithm")) (t' := .long) (Or.inr (hw _ (List.mem_of_getElem? (i := 21) rfl))) (Or.inr (hw _ (List.mem_of_getElem? (i := 36) rfl))) (by decide) (by decide +kernel) (by decide +kernel)))
    have F110 := Fld.other W106 F97 (Or.inr (RoadKit.slot_ne (t := .long) (t' := .long) (Or.inr (hw _ (List.mem_of_getElem? (i := 23) rfl))) (Or.inr (hw _ (List.mem_of_getElem? (i := 36) rfl))) (by decide) (by decide +kernel) (by decide +kernel)))
    have F111 := Fld.other W106 F98 (Or.inr (RoadKit.slot_ne (t := (.object "java/lang/String")) (t' := .long) (Or.inr (hw _ (List.mem_of_getElem? (i := 25) rfl))) (Or.inr (hw _ (List.mem_of_getElem? (i := 36) rfl))) (by decide) (by decide +kernel) (by decide +kernel)))
    have F112 := Fld.other W106 F99 (Or.inr (RoadKit.slot_ne (t := (.object "com/example/fair_throttle/fairthrottle/reports/ReportType")) (t' := .long) (Or.inr (hw _ (List.mem_of_getElem? (i := 27) rfl))) (Or.inr (hw _ (List.mem_of_getElem? (i := 36) rfl))) (by decide) (by decide +kernel) (by decide +kernel)))
    have F113 := Fld.other W106 F100 (Or.inr (RoadKit.slot_ne (t := .long) (t' := .long) (Or.inr (hw _ (List.mem_of_getElem? (i := 29) rfl))) (Or.inr (hw _ (List.mem_of_getElem? (i := 36) rfl))) (by decide) (by decide +kernel) (by decide +kernel)))
    have F114 := Fld.other W106 F101 (Or.inr (RoadKit.slot_ne (t := (.object "com/example/fair_throttle/fairthrottle/abatement/Throttle")) (t' := .long) (Or.inr (hw _ (List.mem_of_getElem? (i := 31) rfl))) (Or.inr (hw _ (List.mem_of_getElem? (i := 36) rfl))) (by decide) (by decide +kernel) (by decide +kernel)))
    have F115 := Fld.other W106 F102 (Or.inr (RoadKit.slot_ne (t := .long) (t' := .long) (Or.inr (hw _ (List.mem_of_getElem? (i := 33) rfl))) (Or.inr (hw _ (List.mem_of_getElem? (i := 36) rfl))) (by decide) (by decide +kernel) (by decide +kernel)))
    have F116 := Fld.same W106 F103
    have F117 := Fld.other W106 F104 (Or.inr (RoadKit.slot_ne (t := (.object "com/example/fair_throttle/fairthrottle/reacting/Entry")) (t' := .long) (Or.inr (hw _ (List.mem_of_getElem? (i := 38) rfl))) (Or.inr (hw _ (List.mem_of_getElem? (i := 36) rfl))) (by decide) (by decide +kernel) (by decide +kernel)))
    show OwnKit.Go κ h105 0 0 47 #[.val (.ref a)] []
    refine OwnKit.aloadN K d_prog_62m1_47 rfl rfl ?_
    show OwnKit.Go κ h105 0 0 48 #[.val (.ref a)] [.ref a]
    refine OwnKit.aconstNull K d_prog_62m1_48 ?_
    show OwnKit.Go κ h105 0 0 49 #[.val (.ref a)] [.null, .ref a]
    refine OwnKit.putfield K d_prog_62m1_49 (host := "") (Or.inl (hw _ (List.mem_of_getElem? (i := 37) rfl))) Via.refl F117 E107 (Or.inr ⟨(hw _ (List.mem_of_getElem? (i := 38) rfl)), rfl, rfl⟩) (hw _ (List.mem_of_getElem? (i := 5) rfl)) (show parseFieldDescriptor "Lcom/example/fair_throttle/fairthrottle/reacting/Entry;" = some ((.object "com/example/fair_throttle/fairthrottle/reacting/Entry")) from by decide +kernel) rfl rfl G_a ?_
    intro h118 W119
    have E120 := E107.wr W119
    have F121 := Fld.other W119 F108 (Or.inr (RoadKit.slot_ne (t := (.object "com/example/fair_throttle/fairthrottle/reports/ReportScope")) (t' := (.object "com/example/fair_throttle/fairthrottle/reacting/Entry")) (Or.inr (hw _ (List.mem_of_getElem? (i := 19) rfl))) (Or.inr (hw _ (List.mem_of_getElem? (i := 38) rfl))) (by decide) (by decide +kernel) (by decide +kernel)))
    have F122 := Fld.other W119 F109 (Or.inr (RoadKit.slot_ne (t := (.object "com/example/fair_throttle/fairthrottle/reports/Algorithm")) (t' := (.object "com/example/fair_throttle/fairthrottle/reacting/Entry")) (Or.inr (hw _ (List.mem_of_getElem? (i := 21) rfl))) (Or.inr (hw _ (List.mem_of_getElem? (i := 38) rfl))) (by decide) (by decide +kernel) (by decide +kernel)))
    have F123 := Fld.other W119 F110 (Or.inr (RoadKit.slot_ne (t := .long) (t' := (.object "com/example/fair_throttle/fairthrottle/reacting/Entry")) (Or.inr (hw _ (List.mem_of_getElem? (i := 23) rfl))) (Or.inr (hw _ (List.mem_of_getElem? (i := 38) rfl))) (by decide) (by decide +kernel) (by decide +kernel)))
    have F124 := Fld.other W119 F111 (Or.inr (RoadKit.slot_ne (t := (.object "java/lang/String")) (t' := (.object "com/example/fair_throttle/fairthrottle/reacting/Entry")) (Or.inr (hw _ (List.mem_of_getElem? (i := 25) rfl))) (Or.inr (hw _ (List.mem_of_getElem? (i := 38) rfl))) (by decide) (by decide +kernel) (by decide +kernel)))
    have F125 := Fld.other W119 F112 (Or.inr (RoadKit.slot_ne (t := (.object "com/example/fair_throttle/fairthrottle/reports/ReportType")) (t' := (.object "com/example/fair_throttle/fairthrottle/reacting/Entry")) (Or.inr (hw _ (List.mem_of_getElem? (i := 27) rfl))) (Or.inr (hw _ (List.mem_of_getElem? (i := 38) rfl))) (by decide) (by decide +kernel) (by decide +kernel)))
    have F126 := Fld.other W119 F113 (Or.inr (RoadKit.slot_ne (t := .long) (t' := (.object "com/example/fair_throttle/fairthrottle/reacting/Entry")) (Or.inr (hw _ (List.mem_of_getElem? (i := 29) rfl))) (Or.inr (hw _ (List.mem_of_getElem? (i := 38) rfl))) (by decide) (by decide +kernel) (by decide +kernel)))
    have F127 := Fld.other W119 F114 (Or.inr (RoadKit.slot_ne (t := (.object "com/example/fair_throttle/fairthrottle/abatement/Throttle")) (t' := (.object "com/example/fair_throttle/fairthrottle/reacting/Entry")) (Or.inr (hw _ (List.mem_of_getElem? (i := 31) rfl))) (Or.inr (hw _ (List.mem_of_getElem? (i := 38) rfl))) (by decide) (by decide +kernel) (by decide +kernel)))
    have F128 := Fld.other W119 F115 (Or.inr (RoadKit.slot_ne (t := .long) (t' := (.object "com/example/fair_throttle/fairthrottle/reacting/Entry")) (Or.inr (hw _ (List.mem_of_getElem? (i := 33) rfl))) (Or.inr (hw _ (List.mem_of_getElem? (i := 38) rfl))) (by decide) (by decide +kernel) (by decide +kernel)))
    have F129 := Fld.other W119 F116 (Or.inr (RoadKit.slot_ne (t := .long) (t' := (.object "com/example/fair_throttle/fairthrottle/reacting/Entry")) (Or.inr (hw _ (List.mem_of_getElem? (i := 36) rfl))) (Or.inr (hw _ (List.mem_of_getElem? (i := 38) rfl))) (by decide) (by decide +kernel) (by decide +kernel)))
    have F130 := Fld.same W119 F117
    show OwnKit.Go κ h118 0 0 52 #[.val (.ref a)] []
    refine OwnKit.return0 K d_prog_62m1_52  ?_ (Nat.le_of_ble_eq_true rfl) (Nat.le_of_ble_eq_true rfl)
    exact ⟨rfl, E120, F125, F126⟩
  · intro m; first | rfl | (simp [entryFrame, mkF, argsToLocals, Value.category]; done)

theorem d_prog_62m6_0 : decode prog_62_method_6_code 0 = .ok (.aload_n 0, 1) := by decide +kernel
theorem d_prog_62m6_1 : decode prog_62_method_6_code 1 = .ok (.getfield 21, 3) := by decide +kernel
theorem d_prog_62m6_4 : decode prog_62_method_6_code 4 = .ok (.aload_n 1, 1) := by decide +kernel
theorem d_prog_62m6_5 : decode prog_62_method_6_code 5 = .ok (.if_acmp .ne 16, 3) := by decide +kernel
theorem d_prog_62m6_8 : decode prog_62_method_6_code 8 = .ok (.aload_n 0, 1) := by decide +kernel
theorem d_prog_62m6_9 : decode prog_62_method_6_code 9 = .ok (.getfield 25, 3) := by decide +kernel
theorem d_prog_62m6_12 : decode prog_62_method_6_code 12 = .ok (.lload_n 2, 1) := by decide +kernel
theorem d_prog_62m6_13 : decode prog_62_method_6_code 13 = .ok (.lcmp, 1) := by decide +kernel
theorem d_prog_62m6_14 : decode prog_62_method_6_code 14 = .ok (.ifCond .ne 7, 3) := by decide +kernel
theorem d_prog_62m6_17 : decode prog_62_method_6_code 17 = .ok (.iconst 1, 1) := by decide +kernel
theorem d_prog_62m6_18 : decode prog_62_method_6_code 18 = .ok (.goto 4, 3) := by decide +kernel
theorem d_prog_62m6_21 : decode prog_62_method_6_code 21 = .ok (.iconst 0, 1) := by decide +kernel
theorem d_prog_62m6_22 : decode prog_62_method_6_code 22 = .ok (.ireturn, 1) := by decide +kernel
set_option maxRecDepth 65536 in
set_option maxHeartbeats 40000000 in
theorem c_for (l : Launch) (Z : State) (a0 : Array Value) (hw : ∀ d ∈ tables_1, d.before a0 Z = true) (n0 : Nat) (h0 : Heap) (a : Addr) (τ : Value) (hr_τ : τ.isRef = true) (i : Int64) (E_a : Exa Z h0 a "com/example/fair_throttle/fairthrottle/reacting/Entry") (F_a_type : Fld Z h0 a "com/example/fair_throttle/fairthrottle/reacting/Entry" "type" "Lcom/example/fair_throttle/fairthrottle/reports/ReportType;" (.null)) (F_a_applicationId : Fld Z h0 a "com/example/fair_throttle/fairthrottle/reacting/Entry" "applicationId" "J" (.long (0 : Int64))) :
    OwnKit.Con false l Z n0 (⟨"com/example/fair_throttle/fairthrottle/reacting/Entry", "isFor", "(Lcom/example/fair_throttle/fairthrottle/reports/ReportType;J)Z"⟩ : MethodName) prog_62_method_6_code 4 (some .boolean) ({ frames := 0, cells := 0, slots := 0, locals := 0 } : Room) #[.ref a, τ, .long i] h0 (QFor τ i h0) := by
  refine OwnKit.Con.of (by first | (refine plainFor_of_name ?_; simp [plainName, overriddenIn]; done) | decide +kernel) ?_ ?_
  · intro κ hwd K0
    have K : OwnKit.Ok κ l Z n0 "com/example/fair_throttle/fairthrottle/reacting/Entry" "isFor" prog_62_method_6_code 4 (some .boolean) ({ frames := 0, cells := 0, slots := 0, locals := 0 } : Room) (QFor τ i h0) := K0
    have hc_τ := OwnKit.catR hr_τ
    have ef : (entryFrame κ.m #[.ref a, τ, .long i] 4).locals = #[.val (.ref a), .val (τ), .val (.long i), .second] := by first | (simp [entryFrame, argsToLocals, Value.category, hc_τ]; done) | rfl | ((rcases ref_cases hr_τ with rfl | ⟨_, rfl⟩) <;> rfl)
    rw [ef]; clear ef K0
    show OwnKit.Go κ h0 0 0 0 #[.val (.ref a), .val (τ), .val (.long i), .second] []
    refine OwnKit.aloadN K d_prog_62m6_0 rfl rfl ?_
    show OwnKit.Go κ h0 0 0 1 #[.val (.ref a), .val (τ), .val (.long i), .second] [.ref a]
    refine OwnKit.getfield K d_prog_62m6_1 (host := "") (Or.inl (hw _ (List.mem_of_getElem? (i := 26) rfl))) Via.refl F_a_type ?_
    show OwnKit.Go κ h0 0 0 4 #[.val (.ref a), .val (τ), .val (.long i), .second] [.null]
    refine OwnKit.aloadN K d_prog_62m6_4 rfl hr_τ ?_
    show OwnKit.Go κ h0 0 0 5 #[.val (.ref a), .val (τ), .val (.long i), .second] [τ, .null]
    refine OwnKit.acmpne K d_prog_62m6_5 (by decide) (pc' := 21) rfl rfl hr_τ (fun b1 => ?_) (fun b1 => ?_)
    · show OwnKit.Go κ h0 0 0 21 #[.val (.ref a), .val (τ), .val (.long i), .second] []
      refine OwnKit.iconst K d_prog_62m6_21 ?_
      show OwnKit.Go κ h0 0 0 22 #[.val (.ref a), .val (τ), .val (.long i), .second] [.int (0 : Int32)]
      refine OwnKit.ireturn K d_prog_62m6_22 (Or.inr (Or.inl rfl)) rfl ?_ (Nat.le_of_ble_eq_true rfl) (Nat.le_of_ble_eq_true rfl)
      · have q := OwnKit.cmp_eq 0 i
        refine ⟨⟨_, rfl, ?_⟩, rfl⟩
        first | exact Or.inl ⟨b1.symm, (q.mp b2).symm, rfl⟩ | exact Or.inr ⟨fun z => b1 z.1.symm, rfl⟩ | exact Or.inr ⟨fun z => b2 (q.mpr z.2.symm), rfl⟩
    · show OwnKit.Go κ h0 0 0 8 #[.val (.ref a), .val (τ), .val (.long i), .second] []
      refine OwnKit.aloadN K d_prog_62m6_8 rfl rfl ?_
      show OwnKit.Go κ h0 0 0 9 #[.val (.ref a), .val (τ), .val (.long i), .second] [.ref a]
      refine OwnKit.getfield K d_prog_62m6_9 (host := "") (Or.inl (hw _ (List.mem_of_getElem? (i := 28) rfl))) Via.refl F_a_applicationId ?_
      show OwnKit.Go κ h0 0 0 12 #[.val (.ref a), .val (τ), .val (.long i), .second] [.long (0 : Int64)]
      refine OwnKit.lloadN K d_prog_62m6_12 rfl ?_
      show OwnKit.Go κ h0 0 0 13 #[.val (.ref a), .val (τ), .val (.long i), .second] [.long i, .long (0 : Int64)]
      refine OwnKit.lcmp K d_prog_62m6_13 ?_
      show OwnKit.Go κ h0 0 0 14 #[.val (.ref a), .val (τ), .val (.long i), .second] [.int (XT.cmpL (0 : Int64) i)]
      refine OwnKit.ifne K d_prog_62m6_14 (by decide) (pc' := 21) rfl  (fun b2 => ?_) (fun b2 => ?_)
      · show OwnKit.Go κ h0 0 0 21 #[.val (.ref a), .val (τ), .val (.long i), .second] []
        refine OwnKit.iconst K d_prog_62m6_21 ?_
        show OwnKit.Go κ h0 0 0 22 #[.val (.ref a), .val (τ), .val (.long i), .second] [.int (0 : Int32)]
        refine OwnKit.ireturn K d_prog_62m6_22 (Or.inr (Or.inl rfl)) rfl ?_ (Nat.le_of_ble_eq_true rfl) (Nat.le_of_ble_eq_true rfl)
        · have q := OwnKit.cmp_eq 0 i
          refine ⟨⟨_, rfl, ?_⟩, rfl⟩
          first | exact Or.inl ⟨b1.symm, (q.mp b2).symm, rfl⟩ | exact Or.inr ⟨fun z => b1 z.1.symm, rfl⟩ | exact Or.inr ⟨fun z => b2 (q.mpr z.2.symm), rfl⟩
      · show OwnKit.Go κ h0 0 0 17 #[.val (.ref a), .val (τ), .val (.long i), .second] []
        refine OwnKit.iconst K d_prog_62m6_17 ?_
        show OwnKit.Go κ h0 0 0 18 #[.val (.ref a), .val (τ), .val (.long i), .second] [.int (1 : Int32)]
        refine OwnKit.goto K d_prog_62m6_18 (by decide) (pc' := 22) rfl ?_
        show OwnKit.Go κ h0 0 0 22 #[.val (.ref a), .val (τ), .val (.long i), .second] [.int (1 : Int32)]
        refine OwnKit.ireturn K d_prog_62m6_22 (Or.inr (Or.inl rfl)) rfl ?_ (Nat.le_of_ble_eq_true rfl) (Nat.le_of_ble_eq_true rfl)
        · have q := OwnKit.cmp_eq 0 i
          refine ⟨⟨_, rfl, ?_⟩, rfl⟩
          first | exact Or.inl ⟨b1.symm, (q.mp b2).symm, rfl⟩ | exact Or.inr ⟨fun z => b1 z.1.symm, rfl⟩ | exact Or.inr ⟨fun z => b2 (q.mpr z.2.symm), rfl⟩
  · intro m; first | rfl | ((rcases ref_cases hr_τ with rfl | ⟨_, rfl⟩) <;> rfl) | (simp [entryFrame, mkF, argsToLocals, Value.category]; done)

set_option maxRecDepth 65536 in
set_option maxHeartbeats 40000000 in
theorem c_law (l : Launch) (Z : State) (a0 : Array Value) (hw : ∀ d ∈ tables_1, d.before a0 Z = true) (n0 : Nat) (h0 : Heap) (p k : Int32) (q : Int64) (a_PEER : Addr) (a_REALM : Addr) (a_HOST : Addr) (S_PEER : Sta Z Z.heap "com/example/fair_throttle/fairthrottle/reports/ReportType" "PEER" "Lcom/example/fair_throttle/fairthrottle/reports/ReportType;" (.ref a_PEER)) (E_PEER : Exa Z Z.heap a_PEER "com/example/fair_throttle/fairthrottle/reports/ReportType") (S_REALM : Sta Z Z.heap "com/example/fair_throttle/fairthrottle/reports/ReportType" "REALM" "Lcom/example/fair_throttle/fairthrottle/reports/ReportType;" (.ref a_REALM)) (E_REALM : Exa Z Z.heap a_REALM "com/example/fair_throttle/fairthrottle/reports/ReportType") (S_HOST : Sta Z Z.heap "com/example/fair_throttle/fairthrottle/reports/ReportType" "HOST" "Lcom/example/fair_throttle/fairthrottle/reports/ReportType;" (.ref a_HOST)) (E_HOST : Exa Z Z.heap a_HOST "com/example/fair_throttle/fairthrottle/reports/ReportType") :
    OwnKit.Con false l Z n0 x code maxLocals ret room_1 #[.int p, .int k, .long q] h0 QLaw := by
  refine OwnKit.Con.of (by first | (refine plainFor_of_name ?_; simp [plainName, overriddenIn]; done) | decide +kernel) ?_ ?_
  · intro κ hwd K0
    have K : OwnKit.Ok κ l Z n0 "com/example/fair_throttle/fairthrottle/reacting/EntryIsForPinLaw" "law" code 9 (some .boolean) room_1 QLaw := K0
    have ef : (entryFrame κ.m #[.int p, .int k, .long q] maxLocals).locals = #[.val (.int p), .val (.int k), .val (.long q), .second, .unset, .unset, .unset, .unset, .unset] := by first | (simp [entryFrame, argsToLocals, Value.category, maxLocals]; done) | rfl
    rw [ef]; clear ef K0
    show OwnKit.Go κ h0 0 0 0 #[.val (.int p), .val (.int k), .val (.long q), .second, .unset, .unset, .unset, .unset, .unset] []
    refine OwnKit.iloadN K at_0 rfl ?_
    show OwnKit.Go κ h0 0 0 1 #[.val (.int p), .val (.int k), .val (.long q), .second, .unset, .unset, .unset, .unset, .unset] [.int p]
    refine OwnKit.invS (y := (⟨"com/example/fair_throttle/fairthrottle/reacting/EntryIsForPinLaw", "typeOf", "(I)Lcom/example/fair_throttle/fairthrottle/reports/ReportType;"⟩ : MethodName)) (argsL := [.int p]) (rest := []) K (c_type l Z a0 hw n0 h0 p a_PEER a_REALM a_HOST S_PEER E_PEER S_REALM E_REALM S_HOST E_HOST) at_1 (hw _ (List.mem_of_getElem? (i := 0) rfl)) (hw _ (List.mem_of_getElem? (i := 1) rfl)) (hw _ (List.mem_of_getElem? (i := 2) rfl)) (hw _ (List.mem_of_getElem? (i := 3) rfl)) (by decide) (lenOf (by decide +kernel : parseMethodDescriptor "(I)Lcom/example/fair_throttle/fairthrottle/reports/ReportType;" = some ⟨[.int], some (.object "com/example/fair_throttle/fairthrottle/reports/ReportType")⟩) rfl) rfl rfl (W := 0) (Nat.le_of_ble_eq_true rfl) (Nat.le_of_ble_eq_true rfl) (Nat.le_of_ble_eq_true rfl) (Nat.le_of_ble_eq_true rfl) (Nat.le_of_ble_eq_true rfl) ?_
    rintro _ h1 ⟨⟨τ, rfl, hr_τ⟩, rfl⟩ g2
    have hc_τ := OwnKit.catR hr_τ
    show OwnKit.Go κ h0 0 0 4 #[.val (.int p), .val (.int k), .val (.long q), .second, .unset, .unset, .unset, .unset, .unset] [τ]
    refine OwnKit.astore K at_4 hr_τ (l' := #[.val (.int p), .val (.int k), .val (.long q), .second, .val (τ), .unset, .unset, .unset, .unset]) (XS.store1 rfl (Or.inl rfl) hc_τ) ?_
    show OwnKit.Go κ h0 0 0 6 #[.val (.int p), .val (.int k), .val (.long q), .second, .val (τ), .unset, .unset, .unset, .unset] []
    refine OwnKit.iloadN K at_6 rfl ?_
    show OwnKit.Go κ h0 0 0 7 #[.val (.int p), .val (.int k), .val (.long q), .second, .val (τ), .unset, .unset, .unset, .unset] [.int k]
    refine OwnKit.iconst K at_7 ?_
    show OwnKit.Go κ h0 0 0 8 #[.val (.int p), .val (.int k), .val (.long q), .second, .val (τ), .unset, .unset, .unset, .unset] [.int (1 : Int32), .int k]
    refine OwnKit.iand K at_8 ?_
    show OwnKit.Go κ h0 0 0 9 #[.val (.int p), .val (.int k), .val (.long q), .second, .val (τ), .unset, .unset, .unset, .unset] [.int (k &&& (1 : Int32))]
    refine OwnKit.ifeq K at_9 (by decide) (pc' := 16) rfl  (fun b3 => ?_) (fun b3 => ?_)
    · show OwnKit.Go κ h0 0 0 16 #[.val (.int p), .val (.int k), .val (.long q), .second, .val (τ), .unset, .unset, .unset, .unset] []
      refine OwnKit.lloadN K at_16 rfl ?_
      show OwnKit.Go κ h0 0 0 17 #[.val (.int p), .val (.int k), .val (.long q), .second, .val (τ), .unset, .unset, .unset, .unset] [.long q]
      refine OwnKit.lstore K at_17 (l' := #[.val (.int p), .val (.int k), .val (.long q), .second, .val (τ), .val (.long q), .second, .unset, .unset]) rfl ?_
      show OwnKit.Go κ h0 0 0 19 #[.val (.int p), .val (.int k), .val (.long q), .second, .val (τ), .val (.long q), .second, .unset, .unset] []
      refine OwnKit.newObj K at_19 (hw _ (List.mem_of_getElem? (i := 4) rfl)) (hw _ (List.mem_of_getElem? (i := 5) rfl)) (hw _ (List.mem_of_getElem? (i := 6) rfl)) (Nat.le_of_ble_eq_true rfl) (Nat.le_of_ble_eq_true rfl) ?_
      intro h4 a5 g6 G7 Ex8 E9 D10 U11
      have F12 : Fld Z h4 a5 "com/example/fair_throttle/fairthrottle/reacting/Decision" "abatedBy" "Lcom/example/fair_throttle/fairthrottle/reports/ReportScope;" (.null) := D10 (Or.inr (hw _ (List.mem_of_getElem? (i := 19) rfl))) (show parseFieldDescriptor "Lcom/example/fair_throttle/fairthrottle/reports/ReportScope;" = some ((.object "com/example/fair_throttle/fairthrottle/reports/ReportScope")) from by decide +kernel)
      have F13 : Fld Z h4 a5 "com/example/fair_throttle/fairthrottle/reacting/Entry" "algorithm" "Lcom/example/fair_throttle/fairthrottle/reports/Algorithm;" (.null) := D10 (Or.inr (hw _ (List.mem_of_getElem? (i := 21) rfl))) (show parseFieldDescriptor "Lcom/example/fair_throttle/fairthrottle/reports/Algorithm;" = some ((.object "com/example/fair_throttle/fairthrottle/reports/Algorithm")) from by decide +kernel)
      have F14 : Fld Z h4 a5 "com/example/fair_throttle/fairthrottle/reacting/Entry" "sequenceNumber" "J" (.long (0 : Int64)) := D10 (Or.inr (hw _ (List.mem_of_getElem? (i := 23) rfl))) (show parseFieldDescriptor "J" = some (.long) from by decide +kernel)
      have F15 : Fld Z h4 a5 "com/example/fair_throttle/fairthrottle/reacting/Entry" "target" "Ljava/lang/String;" (.null) := D10 (Or.inr (hw _ (List.mem_of_getElem? (i := 25) rfl))) (show parseFieldDescriptor "Ljava/lang/String;" = some ((.object "java/lang/String")) from by decide +kernel)
      have F16 : Fld Z h4 a5 "com/example/fair_throttle/fairthrottle/reacting/Entry" "type" "Lcom/example/fair_throttle/fairthrottle/reports/ReportType;" (.null) := D10 (Or.inr (hw _ (List.mem_of_getElem? (i := 27) rfl))) (show parseFieldDescriptor "Lcom/example/fair_throttle/fairthrottle/reports/ReportType;" = some ((.object "com/example/fair_throttle/fairthrottle/reports/ReportType")) from by decide +kernel)
      have F17 : Fld Z h4 a5 "com/example/fair_throttle/fairthrottle/reacting/Entry" "applicationId" "J" (.long (0 : Int64)) := D10 (Or.inr (hw _ (List.mem_of_getElem? (i := 29) rfl))) (show parseFieldDescriptor "J" = some (.long) from by decide +kernel)
      have F18 : Fld Z h4 a5 "com/example/fair_throttle/fairthrottle/reacting/Entry" "throttle" "Lcom/example/fair_throttle/fairthrottle/abatement/Throttle;" (.null) := D10 (Or.inr (hw _ (List.mem_of_getElem? (i := 31) rfl))) (show parseFieldDescriptor "Lcom/example/fair_throttle/fairthrottle/abatement/Throttle;" = some ((.object "com/example/fair_throttle/fairthrottle/abatement/Throttle")) from by decide +kernel)
      have F19 : Fld Z h4 a5 "com/example/fair_throttle/fairthrottle/reacting/Entry" "expiresAt" "J" (.long (0 : Int64)) := D10 (Or.inr (hw _ (List.mem_of_getElem? (i := 33) rfl))) (show parseFieldDescriptor "J" = some (.long) from by decide +kernel)
      have F20 : Fld Z h4 a5 "com/example/fair_throttle/fairthrottle/reacting/Entry" "serial" "J" (.long (0 : Int64)) := D10 (Or.inr (hw _ (List.mem_of_getElem? (i := 36) rfl))) (show parseFieldDescriptor "J" = some (.long) from by decide +kernel)
      have F21 : Fld Z h4 a5 "com/example/fair_throttle/fairthrottle/reacting/Entry" "next" "Lcom/example/fair_throttle/fairthrottle/reacting/Entry;" (.null) := D10 (Or.inr (hw _ (List.mem_of_getElem? (i := 38) rfl))) (show parseFieldDescriptor "Lcom/example/fair_throttle/fairthrottle/reacting/Entry;" = some ((.object "com/example/fair_throttle/fairthrottle/reacting/Entry")) from by decide +kernel)
      show OwnKit.Go κ h4 1 11 22 #[.val (.int p), .val (.int k), .val (.long q), .second, .val (τ), .val (.long q), .second, .unset, .unset] [.ref a5]
      refine OwnKit.dup K at_22 rfl ?_
      show OwnKit.Go κ h4 1 11 23 #[.val (.int p), .val (.int k), .val (.long q), .second, .val (τ), .val (.long q), .second, .unset, .unset] [.ref a5, .ref a5]
      refine OwnKit.invC (y := (⟨"com/example/fair_throttle/fairthrottle/reacting/Entry", "<init>", "()V"⟩ : MethodName)) (argsL := []) (rest := [.ref a5]) K (c_ent l Z a0 hw n0 h4 a5 E9 G7 F12 F13 F14 F15 F16 F17 F18 F19 F20 F21) at_23 rfl (hw _ (List.mem_of_getElem? (i := 7) rfl)) (hw _ (List.mem_of_getElem? (i := 8) rfl)) (hw _ (List.mem_of_getElem? (i := 9) rfl)) (hw _ (List.mem_of_getElem? (i := 6) rfl)) (by decide) (lenOf (by decide +kernel : parseMethodDescriptor "()V" = some ⟨[], none⟩) rfl) rfl rfl (W := 1) (Nat.le_of_ble_eq_true rfl) (Nat.le_of_ble_eq_true rfl) (Nat.le_of_ble_eq_true rfl) (Nat.le_of_ble_eq_true rfl) (Nat.le_of_ble_eq_true rfl) ?_
      rintro _ h22 ⟨rfl, Ee, Ft, Fa⟩ g23
      show OwnKit.Go κ h22 1 11 26 #[.val (.int p), .val (.int k), .val (.long q), .second, .val (τ), .val (.long q), .second, .unset, .unset] [.ref a5]
      refine OwnKit.astore K at_26 rfl (l' := #[.val (.int p), .val (.int k), .val (.long q), .second, .val (τ), .val (.long q), .second, .val (.ref a5), .unset]) rfl ?_
      show OwnKit.Go κ h22 1 11 28 #[.val (.int p), .val (.int k), .val (.long q), .second, .val (τ), .val (.long q), .second, .val (.ref a5), .unset] []
      refine OwnKit.aload K at_28 rfl hr_τ ?_
      show OwnKit.Go κ h22 1 11 30 #[.val (.int p), .val (.int k), .val (.long q), .second, .val (τ), .val (.long q), .second, .val (.ref a5), .unset] [τ]
      refine OwnKit.ifnonnull K at_30 (by decide) (pc' := 44) rfl hr_τ (fun ab24 b24 => ?_) (fun b24 => ?_)
      · show OwnKit.Go κ h22 1 11 44 #[.val (.int p), .val (.int k), .val (.long q), .second, .val (τ), .val (.long q), .second, .val (.ref a5), .unset] []
        refine OwnKit.iconst K at_44 ?_
        show OwnKit.Go κ h22 1 11 45 #[.val (.int p), .val (.int k), .val (.long q), .second, .val (τ), .val (.long q), .second, .val (.ref a5), .unset] [.int (0 : Int32)]
        refine OwnKit.istore K at_45 (l' := #[.val (.int p), .val (.int k), .val (.long q), .second, .val (τ), .val (.long q), .second, .val (.ref a5), .val (.int (0 : Int32))]) rfl ?_
        show OwnKit.Go κ h22 1 11 47 #[.val (.int p), .val (.int k), .val (.long q), .second, .val (τ), .val (.long q), .second, .val (.ref a5), .val (.int (0 : Int32))] []
        refine OwnKit.aload K at_47 rfl rfl ?_
        show OwnKit.Go κ h22 1 11 49 #[.val (.int p), .val (.int k), .val (.long q), .second, .val (τ), .val (.long q), .second, .val (.ref a5), .val (.int (0 : Int32))] [.ref a5]
        refine OwnKit.aload K at_49 rfl hr_τ ?_
        show OwnKit.Go κ h22 1 11 51 #[.val (.int p), .val (.int k), .val (.long q), .second, .val (τ), .val (.long q), .second, .val (.ref a5), .val (.int (0 : Int32))] [τ, .ref a5]
        refine OwnKit.lload K at_51 rfl ?_
        show OwnKit.Go κ h22 1 11 53 #[.val (.int p), .val (.int k), .val (.long q), .second, .val (τ), .val (.long q), .second, .val (.ref a5), .val (.int (0 : Int32))] [.long q, τ, .ref a5]
        refine OwnKit.invV (y := (⟨"com/example/fair_throttle/fairthrottle/reacting/Entry", "isFor", "(Lcom/example/fair_throttle/fairthrottle/reports/ReportType;J)Z"⟩ : MethodName)) (z := (⟨"com/example/fair_throttle/fairthrottle/reacting/Entry", "isFor", "(Lcom/example/fair_throttle/fairthrottle/reports/ReportType;J)Z"⟩ : MethodName)) (argsL := [τ, .long q]) (rest := []) K (c_for l Z a0 hw n0 h22 a5 τ hr_τ q Ee Ft Fa) at_53 Ee (hw _ (List.mem_of_getElem? (i := 39) rfl)) (hw _ (List.mem_of_getElem? (i := 40) rfl)) (OwnKit.nfS (hw _ (List.mem_of_getElem? (i := 42) rfl))) (hw _ (List.mem_of_getElem? (i := 42) rfl)) (hw _ (List.mem_of_getElem? (i := 41) rfl)) (hw _ (List.mem_of_getElem? (i := 43) rfl)) (hw _ (List.mem_of_getElem? (i := 6) rfl)) (by decide) (lenOf (by decide +kernel : parseMethodDescriptor "(Lcom/example/fair_throttle/fairthrottle/reports/ReportType;J)Z" = some ⟨[(.object "com/example/fair_throttle/fairthrottle/reports/ReportType"), .long], some .boolean⟩) rfl) rfl rfl (W := 0) (Nat.le_of_ble_eq_true rfl) (Nat.le_of_ble_eq_true rfl) (Nat.le_of_ble_eq_true rfl) (Nat.le_of_ble_eq_true rfl) (Nat.le_of_ble_eq_true rfl) ?_
        rintro _ h25 ⟨⟨z, rfl, hz⟩, rfl⟩ g26
        show OwnKit.Go κ h22 1 11 56 #[.val (.int p), .val (.int k), .val (.long q), .second, .val (τ), .val (.long q), .second, .val (.ref a5), .val (.int (0 : Int32))] [.int z]
        refine OwnKit.iload K at_56 rfl ?_
        show OwnKit.Go κ h22 1 11 58 #[.val (.int p), .val (.int k), .val (.long q), .second, .val (τ), .val (.long q), .second, .val (.ref a5), .val (.int (0 : Int32))] [.int (0 : Int32), .int z]
        refine OwnKit.icmpne K at_58 (by decide) (pc' := 65) rfl  (fun b27 => ?_) (fun b27 => ?_)
        · exfalso
          rcases hz with ⟨e1, e2, e3⟩ | ⟨e1, e3⟩ <;> simp_all [OwnKit.cmp_eq]
        · show OwnKit.Go κ h22 1 11 61 #[.val (.int p), .val (.int k), .val (.long q), .second, .val (τ), .val (.long q), .second, .val (.ref a5), .val (.int (0 : Int32))] []
          refine OwnKit.iconst K at_61 ?_
          show OwnKit.Go κ h22 1 11 62 #[.val (.int p), .val (.int k), .val (.long q), .second, .val (τ), .val (.long q), .second, .val (.ref a5), .val (.int (0 : Int32))] [.int (1 : Int32)]
          refine OwnKit.goto K at_62 (by decide) (pc' := 66) rfl ?_
          show OwnKit.Go κ h22 1 11 66 #[.val (.int p), .val (.int k), .val (.long q), .second, .val (τ), .val (.long q), .second, .val (.ref a5), .val (.int (0 : Int32))] [.int (1 : Int32)]
          refine OwnKit.ireturn K at_66 (Or.inr (Or.inl rfl)) rfl ?_ (Nat.le_of_ble_eq_true rfl) (Nat.le_of_ble_eq_true rfl)
          exact rfl
      · show OwnKit.Go κ h22 1 11 33 #[.val (.int p), .val (.int k), .val (.long q), .second, .val (τ), .val (.long q), .second, .val (.ref a5), .unset] []
        refine OwnKit.lload K at_33 rfl ?_
        show OwnKit.Go κ h22 1 11 35 #[.val (.int p), .val (.int k), .val (.long q), .second, .val (τ), .val (.long q), .second, .val (.ref a5), .unset] [.long q]
        refine OwnKit.lconst K at_35 ?_
        show OwnKit.Go κ h22 1 11 36 #[.val (.int p), .val (.int k), .val (.long q), .second, .val (τ), .val (.long q), .second, .val (.ref a5), .unset] [.long (0 : Int64), .long q]
        refine OwnKit.lcmp K at_36 ?_
        show OwnKit.Go κ h22 1 11 37 #[.val (.int p), .val (.int k), .val (.long q), .second, .val (τ), .val (.long q), .second, .val (.ref a5), .unset] [.int (XT.cmpL q (0 : Int64))]
        refine OwnKit.ifne K at_37 (by decide) (pc' := 44) rfl  (fun b28 => ?_) (fun b28 => ?_)
        · show OwnKit.Go κ h22 1 11 44 #[.val (.int p), .val (.int k), .val (.long q), .second, .val (τ), .val (.long q), .second, .val (.ref a5), .unset] []
          refine OwnKit.iconst K at_44 ?_
          show OwnKit.Go κ h22 1 11 45 #[.val (.int p), .val (.int k), .val (.long q), .second, .val (τ), .val (.long q), .second, .val (.ref a5), .unset] [.int (0 : Int32)]
          refine OwnKit.istore K at_45 (l' := #[.val (.int p), .val (.int k), .val (.long q), .second, .val (τ), .val (.long q), .second, .val (.ref a5), .val (.int (0 : Int32))]) rfl ?_
          show OwnKit.Go κ h22 1 11 47 #[.val (.int p), .val (.int k), .val (.long q), .second, .val (τ), .val (.long q), .second, .val (.ref a5), .val (.int (0 : Int32))] []
          refine OwnKit.aload K at_47 rfl rfl ?_
          show OwnKit.Go κ h22 1 11 49 #[.val (.int p), .val (.int k), .val (.long q), .second, .val (τ), .val (.long q), .second, .val (.ref a5), .val (.int (0 : Int32))] [.ref a5]
          refine OwnKit.aload K at_49 rfl hr_τ ?_
          show OwnKit.Go κ h22 1 11 51 #[.val (.int p), .val (.int k), .val (.long q), .second, .val (τ), .val (.long q), .second, .val (.ref a5), .val (.int (0 : Int32))] [τ, .ref a5]
          refine OwnKit.lload K at_51 rfl ?_
          show OwnKit.Go κ h22 1 11 53 #[.val (.int p), .val (.int k), .val (.long q), .second, .val (τ), .val (.long q), .second, .val (.ref a5), .val (.int (0 : Int32))] [.long q, τ, .ref a5]
          refine OwnKit.invV (y := (⟨"com/example/fair_throttle/fairthrottle/reacting/Entry", "isFor", "(Lcom/example/fair_throttle/fairthrottle/reports/ReportType;J)Z"⟩ : MethodName)) (z := (⟨"com/example/fair_throttle/fairthrottle/reacting/Entry", "isFor", "(Lcom/example/fair_throttle/fairthrottle/reports/ReportType;J)Z"⟩ : MethodName)) (argsL := [τ, .long q]) (rest := []) K (c_for l Z a0 hw n0 h22 a5 τ hr_τ q Ee Ft Fa) at_53 Ee (hw _ (List.mem_of_getElem? (i := 39) rfl)) (hw _ (List.mem_of_getElem? (i := 40) rfl)) (OwnKit.nfS (hw _ (List.mem_of_getElem? (i := 42) rfl))) (hw _ (List.mem_of_getElem? (i := 42) rfl)) (hw _ (List.mem_of_getElem? (i := 41) rfl)) (hw _ (List.mem_of_getElem? (i := 43) rfl)) (hw _ (List.mem_of_getElem? (i := 6) rfl)) (by decide) (lenOf (by decide +kernel : parseMethodDescriptor "(Lcom/example/fair_throttle/fairthrottle/reports/ReportType;J)Z" = some ⟨[(.object "com/example/fair_throttle/fairthrottle/reports/ReportType"), .long], some .boolean⟩) rfl) rfl rfl (W := 0) (Nat.le_of_ble_eq_true rfl) (Nat.le_of_ble_eq_true rfl) (Nat.le_of_ble_eq_true rfl) (Nat.le_of_ble_eq_true rfl) (Nat.le_of_ble_eq_true rfl) ?_
          rintro _ h29 ⟨⟨z, rfl, hz⟩, rfl⟩ g30
          show OwnKit.Go κ h22 1 11 56 #[.val (.int p), .val (.int k), .val (.long q), .second, .val (τ), .val (.long q), .second, .val (.ref a5), .val (.int (0 : Int32))] [.int z]
          refine OwnKit.iload K at_56 rfl ?_
          show OwnKit.Go κ h22 1 11 58 #[.val (.int p), .val (.int k), .val (.long q), .second, .val (τ), .val (.long q), .second, .val (.ref a5), .val (.int (0 : Int32))] [.int (0 : Int32), .int z]
          refine OwnKit.icmpne K at_58 (by decide) (pc' := 65) rfl  (fun b31 => ?_) (fun b31 => ?_)
          · exfalso
            rcases hz with ⟨e1, e2, e3⟩ | ⟨e1, e3⟩ <;> simp_all [OwnKit.cmp_eq]
          · show OwnKit.Go κ h22 1 11 61 #[.val (.int p), .val (.int k), .val (.long q), .second, .val (τ), .val (.long q), .second, .val (.ref a5), .val (.int (0 : Int32))] []
            refine OwnKit.iconst K at_61 ?_
            show OwnKit.Go κ h22 1 11 62 #[.val (.int p), .val (.int k), .val (.long q), .second, .val (τ), .val (.long q), .second, .val (.ref a5), .val (.int (0 : Int32))] [.int (1 : Int32)]
            refine OwnKit.goto K at_62 (by decide) (pc' := 66) rfl ?_
            show OwnKit.Go κ h22 1 11 66 #[.val (.int p), .val (.int k), .val (.long q), .second, .val (τ), .val (.long q), .second, .val (.ref a5), .val (.int (0 : Int32))] [.int (1 : Int32)]
            refine OwnKit.ireturn K at_66 (Or.inr (Or.inl rfl)) rfl ?_ (Nat.le_of_ble_eq_true rfl) (Nat.le_of_ble_eq_true rfl)
            exact rfl
        · show OwnKit.Go κ h22 1 11 40 #[.val (.int p), .val (.int k), .val (.long q), .second, .val (τ), .val (.long q), .second, .val (.ref a5), .unset] []
          refine OwnKit.iconst K at_40 ?_
          show OwnKit.Go κ h22 1 11 41 #[.val (.int p), .val (.int k), .val (.long q), .second, .val (τ), .val (.long q), .second, .val (.ref a5), .unset] [.int (1 : Int32)]
          refine OwnKit.goto K at_41 (by decide) (pc' := 45) rfl ?_
          show OwnKit.Go κ h22 1 11 45 #[.val (.int p), .val (.int k), .val (.long q), .second, .val (τ), .val (.long q), .second, .val (.ref a5), .unset] [.int (1 : Int32)]
          refine OwnKit.istore K at_45 (l' := #[.val (.int p), .val (.int k), .val (.long q), .second, .val (τ), .val (.long q), .second, .val (.ref a5), .val (.int (1 : Int32))]) rfl ?_
          show OwnKit.Go κ h22 1 11 47 #[.val (.int p), .val (.int k), .val (.long q), .second, .val (τ), .val (.long q), .second, .val (.ref a5), .val (.int (1 : Int32))] []
          refine OwnKit.aload K at_47 rfl rfl ?_
          show OwnKit.Go κ h22 1 11 49 #[.val (.int p), .val (.int k), .val (.long q), .second, .val (τ), .val (.long q), .second, .val (.ref a5), .val (.int (1 : Int32))] [.ref a5]
          refine OwnKit.aload K at_49 rfl hr_τ ?_
          show OwnKit.Go κ h22 1 11 51 #[.val (.int p), .val (.int k), .val (.long q), .second, .val (τ), .val (.long q), .second, .val (.ref a5), .val (.int (1 : Int32))] [τ, .ref a5]
          refine OwnKit.lload K at_51 rfl ?_
          show OwnKit.Go κ h22 1 11 53 #[.val (.int p), .val (.int k), .val (.long q), .second, .val (τ), .val (.long q), .second, .val (.ref a5), .val (.int (1 : Int32))] [.long q, τ, .ref a5]
          refine OwnKit.invV (y := (⟨"com/example/fair_throttle/fairthrottle/reacting/Entry", "isFor", "(Lcom/example/fair_throttle/fairthrottle/reports/ReportType;J)Z"⟩ : MethodName)) (z := (⟨"com/example/fair_throttle/fairthrottle/reacting/Entry", "isFor", "(Lcom/example/fair_throttle/fairthrottle/reports/ReportType;J)Z"⟩ : MethodName)) (argsL := [τ, .long q]) (rest := []) K (c_for l Z a0 hw n0 h22 a5 τ hr_τ q Ee Ft Fa) at_53 Ee (hw _ (List.mem_of_getElem? (i := 39) rfl)) (hw _ (List.mem_of_getElem? (i := 40) rfl)) (OwnKit.nfS (hw _ (List.mem_of_getElem? (i := 42) rfl))) (hw _ (List.mem_of_getElem? (i := 42) rfl)) (hw _ (List.mem_of_getElem? (i := 41) rfl)) (hw _ (List.mem_of_getElem? (i := 43) rfl)) (hw _ (List.mem_of_getElem? (i := 6) rfl)) (by decide) (lenOf (by decide +kernel : parseMethodDescriptor "(Lcom/example/fair_throttle/fairthrottle/reports/ReportType;J)Z" = some ⟨[(.object "com/example/fair_throttle/fairthrottle/reports/ReportType"), .long], some .boolean⟩) rfl) rfl rfl (W := 0) (Nat.le_of_ble_eq_true rfl) (Nat.le_of_ble_eq_true rfl) (Nat.le_of_ble_eq_true rfl) (Nat.le_of_ble_eq_true rfl) (Nat.le_of_ble_eq_true rfl) ?_
          rintro _ h32 ⟨⟨z, rfl, hz⟩, rfl⟩ g33
          show OwnKit.Go κ h22 1 11 56 #[.val (.int p), .val (.int k), .val (.long q), .second, .val (τ), .val (.long q), .second, .val (.ref a5), .val (.int (1 : Int32))] [.int z]
          refine OwnKit.iload K at_56 rfl ?_
          show OwnKit.Go κ h22 1 11 58 #[.val (.int p), .val (.int k), .val (.long q), .second, .val (τ), .val (.long q), .second, .val (.ref a5), .val (.int (1 : Int32))] [.int (1 : Int32), .int z]
          refine OwnKit.icmpne K at_58 (by decide) (pc' := 65) rfl  (fun b34 => ?_) (fun b34 => ?_)
          · exfalso
            rcases hz with ⟨e1, e2, e3⟩ | ⟨e1, e3⟩ <;> simp_all [OwnKit.cmp_eq]
          · show OwnKit.Go κ h22 1 11 61 #[.val (.int p), .val (.int k), .val (.long q), .second, .val (τ), .val (.long q), .second, .val (.ref a5), .val (.int (1 : Int32))] []
            refine OwnKit.iconst K at_61 ?_
            show OwnKit.Go κ h22 1 11 62 #[.val (.int p), .val (.int k), .val (.long q), .second, .val (τ), .val (.long q), .second, .val (.ref a5), .val (.int (1 : Int32))] [.int (1 : Int32)]
            refine OwnKit.goto K at_62 (by decide) (pc' := 66) rfl ?_
            show OwnKit.Go κ h22 1 11 66 #[.val (.int p), .val (.int k), .val (.long q), .second, .val (τ), .val (.long q), .second, .val (.ref a5), .val (.int (1 : Int32))] [.int (1 : Int32)]
            refine OwnKit.ireturn K at_66 (Or.inr (Or.inl rfl)) rfl ?_ (Nat.le_of_ble_eq_true rfl) (Nat.le_of_ble_eq_true rfl)
            exact rfl
    · show OwnKit.Go κ h0 0 0 12 #[.val (.int p), .val (.int k), .val (.long q), .second, .val (τ), .unset, .unset, .unset, .unset] []
      refine OwnKit.lconst K at_12 ?_
      show OwnKit.Go κ h0 0 0 13 #[.val (.int p), .val (.int k), .val (.long q), .second, .val (τ), .unset, .unset, .unset, .unset] [.long (0 : Int64)]
      refine OwnKit.goto K at_13 (by decide) (pc' := 17) rfl ?_
      show OwnKit.Go κ h0 0 0 17 #[.val (.int p), .val (.int k), .val (.long q), .second, .val (τ), .unset, .unset, .unset, .unset] [.long (0 : Int64)]
      refine OwnKit.lstore K at_17 (l' := #[.val (.int p), .val (.int k), .val (.long q), .second, .val (τ), .val (.long (0 : Int64)), .second, .unset, .unset]) rfl ?_
      show OwnKit.Go κ h0 0 0 19 #[.val (.int p), .val (.int k), .val (.long q), .second, .val (τ), .val (.long (0 : Int64)), .second, .unset, .unset] []
      refine OwnKit.newObj K at_19 (hw _ (List.mem_of_getElem? (i := 4) rfl)) (hw _ (List.mem_of_getElem? (i := 5) rfl)) (hw _ (List.mem_of_getElem? (i := 6) rfl)) (Nat.le_of_ble_eq_true rfl) (Nat.le_of_ble_eq_true rfl) ?_
      intro h35 a36 g37 G38 Ex39 E40 D41 U42
      have F43 : Fld Z h35 a36 "com/example/fair_throttle/fairthrottle/reacting/Decision" "abatedBy" "Lcom/example/fair_throttle/fairthrottle/reports/ReportScope;" (.null) := D41 (Or.inr (hw _ (List.mem_of_getElem? (i := 19) rfl))) (show parseFieldDescriptor "Lcom/example/fair_throttle/fairthrottle/reports/ReportScope;" = some ((.object "com/example/fair_throttle/fairthrottle/reports/ReportScope")) from by decide +kernel)
      have F44 : Fld Z h35 a36 "com/example/fair_throttle/fairthrottle/reacting/Entry" "algorithm" "Lcom/example/fair_throttle/fairthrottle/reports/Algorithm;" (.null) := D41 (Or.inr (hw _ (List.mem_of_getElem? (i := 21) rfl))) (show parseFieldDescriptor "Lcom/example/fair_throttle/fairthrottle/reports/Algorithm;" = some ((.object "com/example/fair_throttle/fairthrottle/reports/Algorithm")) from by decide +kernel)
      have F45 : Fld Z h35 a36 "com/example/fair_throttle/fairthrottle/reacting/Entry" "sequenceNumber" "J" (.long (0 : Int64)) := D41 (Or.inr (hw _ (List.mem_of_getElem? (i := 23) rfl))) (show parseFieldDescriptor "J" = some (.long) from by decide +kernel)
      have F46 : Fld Z h35 a36 "com/example/fair_throttle/fairthrottle/reacting/Entry" "target" "Ljava/lang/String;" (.null) := D41 (Or.inr (hw _ (List.mem_of_getElem? (i := 25) rfl))) (show parseFieldDescriptor "Ljava/lang/String;" = some ((.object "java/lang/String")) from by decide +kernel)
      have F47 : Fld Z h35 a36 "com/example/fair_throttle/fairthrottle/reacting/Entry" "type" "Lcom/example/fair_throttle/fairthrottle/reports/ReportType;" (.null) := D41 (Or.inr (hw _ (List.mem_of_getElem? (i := 27) rfl))) (show parseFieldDescriptor "Lcom/example/fair_throttle/fairthrottle/reports/ReportType;" = some ((.object "com/example/fair_throttle/fairthrottle/reports/ReportType")) from by decide +kernel)
      have F48 : Fld Z h35 a36 "com/example/fair_throttle/fairthrottle/reacting/Entry" "applicationId" "J" (.long (0 : Int64)) := D41 (Or.inr (hw _ (List.mem_of_getElem? (i := 29) rfl))) (show parseFieldDescriptor "J" = some (.long) from by decide +kernel)
      have F49 : Fld Z h35 a36 "com/example/fair_throttle/fairthrottle/reacting/Entry" "throttle" "Lcom/example/fair_throttle/fairthrottle/abatement/Throttle;" (.null) := D41 (Or.inr (hw _ (List.mem_of_getElem? (i := 31) rfl))) (show parseFieldDescriptor "Lcom/example/fair_throttle/fairthrottle/abatement/Throttle;" = some ((.object "com/example/fair_throttle/fairthrottle/abatement/Throttle")) from by decide +kernel)
      have F50 : Fld Z h35 a36 "com/example/fair_throttle/fairthrottle/reacting/Entry" "expiresAt" "J" (.long (0 : Int64)) := D41 (Or.inr (hw _ (List.mem_of_getElem? (i := 33) rfl))) (show parseFieldDescriptor "J" = some (.long) from by decide +kernel)
      have F51 : Fld Z h35 a36 "com/example/fair_throttle/fairthrottle/reacting/Entry" "serial" "J" (.long (0 : Int64)) := D41 (Or.inr (hw _ (List.mem_of_getElem? (i := 36) rfl))) (show parseFieldDescriptor "J" = some (.long) from by decide +kernel)
      have F52 : Fld Z h35 a36 "com/example/fair_throttle/fairthrottle/reacting/Entry" "next" "Lcom/example/fair_throttle/fairthrottle/reacting/Entry;" (.null) := D41 (Or.inr (hw _ (List.mem_of_getElem? (i := 38) rfl))) (show parseFieldDescriptor "Lcom/example/fair_throttle/fairthrottle/reacting/Entry;" = some ((.object "com/example/fair_throttle/fairthrottle/reacting/Entry")) from by decide +kernel)
      show OwnKit.Go κ h35 1 11 22 #[.val (.int p), .val (.int k), .val (.long q), .second, .val (τ), .val (.long (0 : Int64)), .second, .unset, .unset] [.ref a36]
      refine OwnKit.dup K at_22 rfl ?_
      show OwnKit.Go κ h35 1 11 23 #[.val (.int p), .val (.int k), .val (.long q), .second, .val (τ), .val (.long (0 : Int64)), .second, .unset, .unset] [.ref a36, .ref a36]
      refine OwnKit.invC (y := (⟨"com/example/fair_throttle/fairthrottle/reacting/Entry", "<init>", "()V"⟩ : MethodName)) (argsL := []) (rest := [.ref a36]) K (c_ent l Z a0 hw n0 h35 a36 E40 G38 F43 F44 F45 F46 F47 F48 F49 F50 F51 F52) at_23 rfl (hw _ (List.mem_of_getElem? (i := 7) rfl)) (hw _ (List.mem_of_getElem? (i := 8) rfl)) (hw _ (List.mem_of_getElem? (i := 9) rfl)) (hw _ (List.mem_of_getElem? (i := 6) rfl)) (by decide) (lenOf (by decide +kernel : parseMethodDescriptor "()V" = some ⟨[], none⟩) rfl) rfl rfl (W := 1) (Nat.le_of_ble_eq_true rfl) (Nat.le_of_ble_eq_true rfl) (Nat.le_of_ble_eq_true rfl) (Nat.le_of_ble_eq_true rfl) (Nat.le_of_ble_eq_true rfl) ?_
      rintro _ h53 ⟨rfl, Ee, Ft, Fa⟩ g54
      show OwnKit.Go κ h53 1 11 26 #[.val (.int p), .val (.int k), .val (.long q), .second, .val (τ), .val (.long (0 : Int64)), .second, .unset, .unset] [.ref a36]
      refine OwnKit.astore K at_26 rfl (l' := #[.val (.int p), .val (.int k), .val (.long q), .second, .val (τ), .val (.long (0 : Int64)), .second, .val (.ref a36), .unset]) rfl ?_
      show OwnKit.Go κ h53 1 11 28 #[.val (.int p), .val (.int k), .val (.long q), .second, .val (τ), .val (.long (0 : Int64)), .second, .val (.ref a36), .unset] []
      refine OwnKit.aload K at_28 rfl hr_τ ?_
      show OwnKit.Go κ h53 1 11 30 #[.val (.int p), .val (.int k), .val (.long q), .second, .val (τ), .val (.long (0 : Int64)), .second, .val (.ref a36), .unset] [τ]
      refine OwnKit.ifnonnull K at_30 (by decide) (pc' := 44) rfl hr_τ (fun ab55 b55 => ?_) (fun b55 => ?_)
      · show OwnKit.Go κ h53 1 11 44 #[.val (.int p), .val (.int k), .val (.long q), .second, .val (τ), .val (.long (0 : Int64)), .second, .val (.ref a36), .unset] []
        refine OwnKit.iconst K at_44 ?_
        show OwnKit.Go κ h53 1 11 45 #[.val (.int p), .val (.int k), .val (.long q), .second, .val (τ), .val (.long (0 : Int64)), .second, .val (.ref a36), .unset] [.int (0 : Int32)]
        refine OwnKit.istore K at_45 (l' := #[.val (.int p), .val (.int k), .val (.long q), .second, .val (τ), .val (.long (0 : Int64)), .second, .val (.ref a36), .val (.int (0 : Int32))]) rfl ?_
        show OwnKit.Go κ h53 1 11 47 #[.val (.int p), .val (.int k), .val (.long q), .second, .val (τ), .val (.long (0 : Int64)), .second, .val (.ref a36), .val (.int (0 : Int32))] []
        refine OwnKit.aload K at_47 rfl rfl ?_
        show OwnKit.Go κ h53 1 11 49 #[.val (.int p), .val (.int k), .val (.long q), .second, .val (τ), .val (.long (0 : Int64)), .second, .val (.ref a36), .val (.int (0 : Int32))] [.ref a36]
        refine OwnKit.aload K at_49 rfl hr_τ ?_
        show OwnKit.Go κ h53 1 11 51 #[.val (.int p), .val (.int k), .val (.long q), .second, .val (τ), .val (.long (0 : Int64)), .second, .val (.ref a36), .val (.int (0 : Int32))] [τ, .ref a36]
        refine OwnKit.lload K at_51 rfl ?_
        show OwnKit.Go κ h53 1 11 53 #[.val (.int p), .val (.int k), .val (.long q), .second, .val (τ), .val (.long (0 : Int64)), .second, .val (.ref a36), .val (.int (0 : Int32))] [.long (0 : Int64), τ, .ref a36]
        refine OwnKit.invV (y := (⟨"com/example/fair_throttle/fairthrottle/reacting/Entry", "isFor", "(Lcom/example/fair_throttle/fairthrottle/reports/ReportType;J)Z"⟩ : MethodName)) (z := (⟨"com/example/fair_throttle/fairthrottle/reacting/Entry", "isFor", "(Lcom/example/fair_throttle/fairthrottle/reports/ReportType;J)Z"⟩ : MethodName)) (argsL := [τ, .long (0 : Int64)]) (rest := []) K (c_for l Z a0 hw n0 h53 a36 τ hr_τ (0 : Int64) Ee Ft Fa) at_53 Ee (hw _ (List.mem_of_getElem? (i := 39) rfl)) (hw _ (List.mem_of_getElem? (i := 40) rfl)) (OwnKit.nfS (hw _ (List.mem_of_getElem? (i := 42) rfl))) (hw _ (List.mem_of_getElem? (i := 42) rfl)) (hw _ (List.mem_of_getElem? (i := 41) rfl)) (hw _ (List.mem_of_getElem? (i := 43) rfl)) (hw _ (List.mem_of_getElem? (i := 6) rfl)) (by decide) (lenOf (by decide +kernel : parseMethodDescriptor "(Lcom/example/fair_throttle/fairthrottle/reports/ReportType;J)Z" = some ⟨[(.object "com/example/fair_throttle/fairthrottle/reports/ReportType"), .long], some .boolean⟩) rfl) rfl rfl (W := 0) (Nat.le_of_ble_eq_true rfl) (Nat.le_of_ble_eq_true rfl) (Nat.le_of_ble_eq_true rfl) (Nat.le_of_ble_eq_true rfl) (Nat.le_of_ble_eq_true rfl) ?_
        rintro _ h56 ⟨⟨z, rfl, hz⟩, rfl⟩ g57
        show OwnKit.Go κ h53 1 11 56 #[.val (.int p), .val (.int k), .val (.long q), .second, .val (τ), .val (.long (0 : Int64)), .second, .val (.ref a36), .val (.int (0 : Int32))] [.int z]
        refine OwnKit.iload K at_56 rfl ?_
        show OwnKit.Go κ h53 1 11 58 #[.val (.int p), .val (.int k), .val (.long q), .second, .val (τ), .val (.long (0 : Int64)), .second, .val (.ref a36), .val (.int (0 : Int32))] [.int (0 : Int32), .int z]
        refine OwnKit.icmpne K at_58 (by decide) (pc' := 65) rfl  (fun b58 => ?_) (fun b58 => ?_)
        · exfalso
          rcases hz with ⟨e1, e2, e3⟩ | ⟨e1, e3⟩ <;> simp_all [OwnKit.cmp_eq]
        · show OwnKit.Go κ h53 1 11 61 #[.val (.int p), .val (.int k), .val (.long q), .second, .val (τ), .val (.long (0 : Int64)), .second, .val (.ref a36), .val (.int (0 : Int32))] []
          refine OwnKit.iconst K at_61 ?_
          show OwnKit.Go κ h53 1 11 62 #[.val (.int p), .val (.int k), .val (.long q), .second, .val (τ), .val (.long (0 : Int64)), .second, .val (.ref a36), .val (.int (0 : Int32))] [.int (1 : Int32)]
          refine OwnKit.goto K at_62 (by decide) (pc' := 66) rfl ?_
          show OwnKit.Go κ h53 1 11 66 #[.val (.int p), .val (.int k), .val (.long q), .second, .val (τ), .val (.long (0 : Int64)), .second, .val (.ref a36), .val (.int (0 : Int32))] [.int (1 : Int32)]
          refine OwnKit.ireturn K at_66 (Or.inr (Or.inl rfl)) rfl ?_ (Nat.le_of_ble_eq_true rfl) (Nat.le_of_ble_eq_true rfl)
          exact rfl
      · show OwnKit.Go κ h53 1 11 33 #[.val (.int p), .val (.int k), .val (.long q), .second, .val (τ), .val (.long (0 : Int64)), .second, .val (.ref a36), .unset] []
        refine OwnKit.lload K at_33 rfl ?_
        show OwnKit.Go κ h53 1 11 35 #[.val (.int p), .val (.int k), .val (.long q), .second, .val (τ), .val (.long (0 : Int64)), .second, .val (.ref a36), .unset] [.long (0 : Int64)]
        refine OwnKit.lconst K at_35 ?_
        show OwnKit.Go κ h53 1 11 36 #[.val (.int p), .val (.int k), .val (.long q), .second, .val (τ), .val (.long (0 : Int64)), .second, .val (.ref a36), .unset] [.long (0 : Int64), .long (0 : Int64)]
        refine OwnKit.lcmp K at_36 ?_
        show OwnKit.Go κ h53 1 11 37 #[.val (.int p), .val (.int k), .val (.long q), .second, .val (τ), .val (.long (0 : Int64)), .second, .val (.ref a36), .unset] [.int (XT.cmpL (0 : Int64) (0 : Int64))]
        refine OwnKit.ifne K at_37 (by decide) (pc' := 44) rfl  (fun b59 => ?_) (fun b59 => ?_)
        · show OwnKit.Go κ h53 1 11 44 #[.val (.int p), .val (.int k), .val (.long q), .second, .val (τ), .val (.long (0 : Int64)), .second, .val (.ref a36), .unset] []
          refine OwnKit.iconst K at_44 ?_
          show OwnKit.Go κ h53 1 11 45 #[.val (.int p), .val (.int k), .val (.long q), .second, .val (τ), .val (.long (0 : Int64)), .second, .val (.ref a36), .unset] [.int (0 : Int32)]
          refine OwnKit.istore K at_45 (l' := #[.val (.int p), .val (.int k), .val (.long q), .second, .val (τ), .val (.long (0 : Int64)), .second, .val (.ref a36), .val (.int (0 : Int32))]) rfl ?_
          show OwnKit.Go κ h53 1 11 47 #[.val (.int p), .val (.int k), .val (.long q), .second, .val (τ), .val (.long (0 : Int64)), .second, .val (.ref a36), .val (.int (0 : Int32))] []
          refine OwnKit.aload K at_47 rfl rfl ?_
          show OwnKit.Go κ h53 1 11 49 #[.val (.int p), .val (.int k), .val (.long q), .second, .val (τ), .val (.long (0 : Int64)), .second, .val (.ref a36), .val (.int (0 : Int32))] [.ref a36]
          refine OwnKit.aload K at_49 rfl hr_τ ?_
          show OwnKit.Go κ h53 1 11 51 #[.val (.int p), .val (.int k), .val (.long q), .second, .val (τ), .val (.long (0 : Int64)), .second, .val (.ref a36), .val (.int (0 : Int32))] [τ, .ref a36]
          refine OwnKit.lload K at_51 rfl ?_
          show OwnKit.Go κ h53 1 11 53 #[.val (.int p), .val (.int k), .val (.long q), .second, .val (τ), .val (.long (0 : Int64)), .second, .val (.ref a36), .val (.int (0 : Int32))] [.long (0 : Int64), τ, .ref a36]
          refine OwnKit.invV (y := (⟨"com/example/fair_throttle/fairthrottle/reacting/Entry", "isFor", "(Lcom/example/fair_throttle/fairthrottle/reports/ReportType;J)Z"⟩ : MethodName)) (z := (⟨"com/example/fair_throttle/fairthrottle/reacting/Entry", "isFor", "(Lcom/example/fair_throttle/fairthrottle/reports/ReportType;J)Z"⟩ : MethodName)) (argsL := [τ, .long (0 : Int64)]) (rest := []) K (c_for l Z a0 hw n0 h53 a36 τ hr_τ (0 : Int64) Ee Ft Fa) at_53 Ee (hw _ (List.mem_of_getElem? (i := 39) rfl)) (hw _ (List.mem_of_getElem? (i := 40) rfl)) (OwnKit.nfS (hw _ (List.mem_of_getElem? (i := 42) rfl))) (hw _ (List.mem_of_getElem? (i := 42) rfl)) (hw _ (List.mem_of_getElem? (i := 41) rfl)) (hw _ (List.mem_of_getElem? (i := 43) rfl)) (hw _ (List.mem_of_getElem? (i := 6) rfl)) (by decide) (lenOf (by decide +kernel : parseMethodDescriptor "(Lcom/example/fair_throttle/fairthrottle/reports/ReportType;J)Z" = some ⟨[(.object "com/example/fair_throttle/fairthrottle/reports/ReportType"), .long], some .boolean⟩) rfl) rfl rfl (W := 0) (Nat.le_of_ble_eq_true rfl) (Nat.le_of_ble_eq_true rfl) (Nat.le_of_ble_eq_true rfl) (Nat.le_of_ble_eq_true rfl) (Nat.le_of_ble_eq_true rfl) ?_
          rintro _ h60 ⟨⟨z, rfl, hz⟩, rfl⟩ g61
          show OwnKit.Go κ h53 1 11 56 #[.val (.int p), .val (.int k), .val (.long q), .second, .val (τ), .val (.long (0 : Int64)), .second, .val (.ref a36), .val (.int (0 : Int32))] [.int z]
          refine OwnKit.iload K at_56 rfl ?_
          show OwnKit.Go κ h53 1 11 58 #[.val (.int p), .val (.int k), .val (.long q), .second, .val (τ), .val (.long (0 : Int64)), .second, .val (.ref a36), .val (.int (0 : Int32))] [.int (0 : Int32), .int z]
          refine OwnKit.icmpne K at_58 (by decide) (pc' := 65) rfl  (fun b62 => ?_) (fun b62 => ?_)
          · exfalso
            rcases hz with ⟨e1, e2, e3⟩ | ⟨e1, e3⟩ <;> simp_all [OwnKit.cmp_eq]
          · show OwnKit.Go κ h53 1 11 61 #[.val (.int p), .val (.int k), .val (.long q), .second, .val (τ), .val (.long (0 : Int64)), .second, .val (.ref a36), .val (.int (0 : Int32))] []
            refine OwnKit.iconst K at_61 ?_
            show OwnKit.Go κ h53 1 11 62 #[.val (.int p), .val (.int k), .val (.long q), .second, .val (τ), .val (.long (0 : Int64)), .second, .val (.ref a36), .val (.int (0 : Int32))] [.int (1 : Int32)]
            refine OwnKit.goto K at_62 (by decide) (pc' := 66) rfl ?_
            show OwnKit.Go κ h53 1 11 66 #[.val (.int p), .val (.int k), .val (.long q), .second, .val (τ), .val (.long (0 : Int64)), .second, .val (.ref a36), .val (.int (0 : Int32))] [.int (1 : Int32)]
            refine OwnKit.ireturn K at_66 (Or.inr (Or.inl rfl)) rfl ?_ (Nat.le_of_ble_eq_true rfl) (Nat.le_of_ble_eq_true rfl)
            exact rfl
        · show OwnKit.Go κ h53 1 11 40 #[.val (.int p), .val (.int k), .val (.long q), .second, .val (τ), .val (.long (0 : Int64)), .second, .val (.ref a36), .unset] []
          refine OwnKit.iconst K at_40 ?_
          show OwnKit.Go κ h53 1 11 41 #[.val (.int p), .val (.int k), .val (.long q), .second, .val (τ), .val (.long (0 : Int64)), .second, .val (.ref a36), .unset] [.int (1 : Int32)]
          refine OwnKit.goto K at_41 (by decide) (pc' := 45) rfl ?_
          show OwnKit.Go κ h53 1 11 45 #[.val (.int p), .val (.int k), .val (.long q), .second, .val (τ), .val (.long (0 : Int64)), .second, .val (.ref a36), .unset] [.int (1 : Int32)]
          refine OwnKit.istore K at_45 (l' := #[.val (.int p), .val (.int k), .val (.long q), .second, .val (τ), .val (.long (0 : Int64)), .second, .val (.ref a36), .val (.int (1 : Int32))]) rfl ?_
          show OwnKit.Go κ h53 1 11 47 #[.val (.int p), .val (.int k), .val (.long q), .second, .val (τ), .val (.long (0 : Int64)), .second, .val (.ref a36), .val (.int (1 : Int32))] []
          refine OwnKit.aload K at_47 rfl rfl ?_
          show OwnKit.Go κ h53 1 11 49 #[.val (.int p), .val (.int k), .val (.long q), .second, .val (τ), .val (.long (0 : Int64)), .second, .val (.ref a36), .val (.int (1 : Int32))] [.ref a36]
          refine OwnKit.aload K at_49 rfl hr_τ ?_
          show OwnKit.Go κ h53 1 11 51 #[.val (.int p), .val (.int k), .val (.long q), .second, .val (τ), .val (.long (0 : Int64)), .second, .val (.ref a36), .val (.int (1 : Int32))] [τ, .ref a36]
          refine OwnKit.lload K at_51 rfl ?_
          show OwnKit.Go κ h53 1 11 53 #[.val (.int p), .val (.int k), .val (.long q), .second, .val (τ), .val (.long (0 : Int64)), .second, .val (.ref a36), .val (.int (1 : Int32))] [.long (0 : Int64), τ, .ref a36]
          refine OwnKit.invV (y := (⟨"com/example/fair_throttle/fairthrottle/reacting/Entry", "isFor", "(Lcom/example/fair_throttle/fairthrottle/reports/ReportType;J)Z"⟩ : MethodName)) (z := (⟨"com/example/fair_throttle/fairthrottle/reacting/Entry", "isFor", "(Lcom/example/fair_throttle/fairthrottle/reports/ReportType;J)Z"⟩ : MethodName)) (argsL := [τ, .long (0 : Int64)]) (rest := []) K (c_for l Z a0 hw n0 h53 a36 τ hr_τ (0 : Int64) Ee Ft Fa) at_53 Ee (hw _ (List.mem_of_getElem? (i := 39) rfl)) (hw _ (List.mem_of_getElem? (i := 40) rfl)) (OwnKit.nfS (hw _ (List.mem_of_getElem? (i := 42) rfl))) (hw _ (List.mem_of_getElem? (i := 42) rfl)) (hw _ (List.mem_of_getElem? (i := 41) rfl)) (hw _ (List.mem_of_getElem? (i := 43) rfl)) (hw _ (List.mem_of_getElem? (i := 6) rfl)) (by decide) (lenOf (by decide +kernel : parseMethodDescriptor "(Lcom/example/fair_throttle/fairthrottle/reports/ReportType;J)Z" = some ⟨[(.object "com/example/fair_throttle/fairthrottle/reports/ReportType"), .long], some .boolean⟩) rfl) rfl rfl (W := 0) (Nat.le_of_ble_eq_true rfl) (Nat.le_of_ble_eq_true rfl) (Nat.le_of_ble_eq_true rfl) (Nat.le_of_ble_eq_true rfl) (Nat.le_of_ble_eq_true rfl) ?_
          rintro _ h63 ⟨⟨z, rfl, hz⟩, rfl⟩ g64
          show OwnKit.Go κ h53 1 11 56 #[.val (.int p), .val (.int k), .val (.long q), .second, .val (τ), .val (.long (0 : Int64)), .second, .val (.ref a36), .val (.int (1 : Int32))] [.int z]
          refine OwnKit.iload K at_56 rfl ?_
          show OwnKit.Go κ h53 1 11 58 #[.val (.int p), .val (.int k), .val (.long q), .second, .val (τ), .val (.long (0 : Int64)), .second, .val (.ref a36), .val (.int (1 : Int32))] [.int (1 : Int32), .int z]
          refine OwnKit.icmpne K at_58 (by decide) (pc' := 65) rfl  (fun b65 => ?_) (fun b65 => ?_)
          · exfalso
            rcases hz with ⟨e1, e2, e3⟩ | ⟨e1, e3⟩ <;> simp_all [OwnKit.cmp_eq]
          · show OwnKit.Go κ h53 1 11 61 #[.val (.int p), .val (.int k), .val (.long q), .second, .val (τ), .val (.long (0 : Int64)), .second, .val (.ref a36), .val (.int (1 : Int32))] []
            refine OwnKit.iconst K at_61 ?_
            show OwnKit.Go κ h53 1 11 62 #[.val (.int p), .val (.int k), .val (.long q), .second, .val (τ), .val (.long (0 : Int64)), .second, .val (.ref a36), .val (.int (1 : Int32))] [.int (1 : Int32)]
            refine OwnKit.goto K at_62 (by decide) (pc' := 66) rfl ?_
            show OwnKit.Go κ h53 1 11 66 #[.val (.int p), .val (.int k), .val (.long q), .second, .val (τ), .val (.long (0 : Int64)), .second, .val (.ref a36), .val (.int (1 : Int32))] [.int (1 : Int32)]
            refine OwnKit.ireturn K at_66 (Or.inr (Or.inl rfl)) rfl ?_ (Nat.le_of_ble_eq_true rfl) (Nat.le_of_ble_eq_true rfl)
            exact rfl
  · intro m; first | rfl | (simp [entryFrame, mkF, argsToLocals, Value.category, maxLocals]; done)

set_option maxRecDepth 65536 in
set_option maxHeartbeats 40000000 in
theorem comes_1 {Post : Tables → Env → Array Value → State → Outcome → State → Prop} (hpost : ∀ tb e args s v u, (limb_1_1.after args s (.returned v) u = true ∧ limb_1_2.after args s (.returned v) u = true ∧ True) → FrameEnd s (.returned v) u (Jvm.fieldLocs frame_1_writes args s ++ Jvm.arrayLocs frame_1_arrays args s ++ Jvm.staticLocs frame_1_statics s) 16 128 → Post tb e args s (.returned v) u) :
    ArmFor flags0 classFile x code maxLocals ret World_1 tables_1 room_1 Calls_1 rest_1 Pre_1 Post := by
  intro l hfl _ _ p e ha hc hk s m args below hf hA hF happ hP
  obtain ⟨hcalls, hrest, hpre⟩ := hP
  obtain ⟨-, -, -, hnamed, -, -, -, hat⟩ := (Spec.applies_iff hf).mp happ
  obtain ⟨hg, hn⟩ := and_e (Cond.before_iff.mp (show (Jvm.Cond.and given_1 narrow_1).before args s = true from hpre))
  obtain ⟨hg0, hg1⟩ := and_e hg
  obtain ⟨hk1, hg2⟩ := and_e hg1
  obtain ⟨hk2, hg3⟩ := and_e hg2
  obtain ⟨w0, w1, w2, rfl⟩ : ∃ w0 w1 w2 : Value, args = #[w0, w1, w2] := by
    have hs : args.size = 3 := by simpa [Cond.value, given_1] using hg0
    obtain ⟨L⟩ := args
    match L, hs with
    | [w0, w1, w2], _ => exact ⟨w0, w1, w2, rfl⟩
  have hw := fun d (hd : d ∈ tables_1) => atoms_spec (ws := Jvm.Cond.code x code maxLocals ret :: tables_1) hat d (List.mem_cons_of_mem _ hd)
  have hfit : Fit s := fun {y c} hc i hi => by
    obtain ⟨ha, rfl⟩ := Array.getElem?_eq_some_iff.mp hc
    have q := List.all_eq_true.mp ((Array.all_eq_true_iff_forall_mem.mp hF) _ (Array.getElem_mem ha)) i (List.mem_range.mpr hi)
    simpa [Array.getElem?_eq_getElem hi] using q
  obtain ⟨p0, ep0⟩ := is_v hk1
  obtain rfl : w0 = (.int p0) := Option.some.inj ep0
  obtain ⟨p1, ep1⟩ := is_v hk2
  obtain rfl : w1 = (.int p1) := Option.some.inj ep1
  obtain ⟨p2, ep2⟩ := isL_v hg3
  obtain rfl : w2 = (.long p2) := Option.some.inj ep2
  obtain ⟨cn0, rn0⟩ := and_e hn
  obtain ⟨cn1, rn1⟩ := and_e rn0
  obtain ⟨a_PEER, ev_PEER⟩ := exa_v cn0
  have S_PEER := OwnKit.stZ ev_PEER (hw _ (List.mem_of_getElem? (i := 45) rfl)) (hw _ (List.mem_of_getElem? (i := 46) rfl))
  have E_PEER := Exa.start ev_PEER cn0
  obtain ⟨a_REALM, ev_REALM⟩ := exa_v cn1
  have S_REALM := OwnKit.stZ ev_REALM (hw _ (List.mem_of_getElem? (i := 45) rfl)) (hw _ (List.mem_of_getElem? (i := 48) rfl))
  have E_REALM := Exa.start ev_REALM cn1
  obtain ⟨a_HOST, ev_HOST⟩ := exa_v rn1
  have S_HOST := OwnKit.stZ ev_HOST (hw _ (List.mem_of_getElem? (i := 45) rfl)) (hw _ (List.mem_of_getElem? (i := 50) rfl))
  have E_HOST := Exa.start ev_HOST rn1
  obtain ⟨n, o, h1, h2, h3, v, L, rfl, ⟨q1, N, -, -⟩, hq⟩ := (c_law l s _ hw _ s.heap p0 p1 p2 a_PEER a_REALM a_HOST S_PEER E_PEER S_REALM E_REALM S_HOST E_HOST) (Old.start s) tables_1 p e ha hc hk s m _ below hf ((Spec.applies_iff_loose hf).mp happ).1 ⟨rfl, State.Warmed39.refl s, rfl⟩ trivial
  obtain rfl : v = some (.int 1) := q1
  refine ⟨n, _, h1, h2, h3, hpost _ _ _ _ _ _ ⟨Cond.after_iff.mpr rfl, Cond.after_iff.mpr (eq_i res_at (Term.int_eval (1)) rfl), trivial⟩ ⟨(hq.1 rfl).1, (hq.1 rfl).2.1, ((hq.1 rfl).2.2.sift fun y hy => Or.inr (N y hy)).mono (by decide) (by decide)⟩⟩
theorem main_1_1 : Claimed_1_1 := comes_1 fun _ _ _ _ _ _ h hF => ⟨h.1, hF⟩
theorem main_1_2 : Claimed_1_2 := comes_1 fun _ _ _ _ _ _ h hF => ⟨h.2.1, hF⟩
end Jvm.Pilot.@@N@@
namespace Jvm.Pilot.@@N@@
open Jvm Jvm.ClassFile Sem Op Lib Jvm.Free Jvm.Stand Jvm.Pilot.@@N@@.Jvm.D
/-! MADE BY PROGRAM (witnessworld.py) out of the Statement's table words and the real class files: 14 classes; the members and pool entries that the words name. The judged class is class 1, her method 2. -/
namespace start1
open Jvm.ClassFile
def u (s : String) : CpInfo := .utf8 (stringToUtf16 s)
/-- a pool by its gaps: so many unusable entries, then the entry; so many at the end -/
def gap : Nat → List CpInfo → List CpInfo
  | 0, r => r
  | n + 1, r => .unusable :: gap n r
def poolList (es : List (Nat × CpInfo)) (last : Nat) : List CpInfo := es.foldr (fun e r => gap e.1 (e.2 :: r)) (gap last [])
def pool (es : List (Nat × CpInfo)) (last : Nat) : Array CpInfo := ⟨poolList es last⟩
def fileOf (pool : Array CpInfo) (this : Nat) (attrs : Array Attribute := #[]) (ms : Array MethodInfo := #[]) (fl : Nat := 33) (sup : Nat := 0) (ifs : Array Nat := #[]) (fds : Array FieldInfo := #[]) : ClassFile where
  minorVersion := 0
  majorVersion := 65
  constantPool := pool
  accessFlags := fl
  thisClass := this
  superClass := sup
  interfaces := ifs
  fields := fds
  methods := ms
  attributes := attrs
def plain (name : String) (sup : Option ClassId) : Class where
  name := name
  kind := .ordinary
  loader := none
  accessFlags := 33
  super := sup
  interfaces := #[]
  cf := none
  fields := #[]
  methods := #[]
  instanceTypes := #[]
  staticTypes := #[]
  resolved := #[]
  callSites := []
  init := .initialized
  statics := none
  mirror := none

def pool0 : Array CpInfo := pool [(5, u "<init>"), (0, u "()V"), (1, .class_ 10), (1, u "java/lang/Object")] 113

def k0c0 : Code := { maxStack := 0, maxLocals := 1, code := object_method_1_code, exceptionTable := #[], attributes := #[] }
def k0m0 : Method := { name := "<init>", desc := "()V", sig := { parameters := [], returnType := none }, accessFlags := 1, code := some k0c0 }
/-- java/lang/Object -/
def k0 : Class := { plain "java/lang/Object" none with
  accessFlags := 33
  interfaces := #[]
  cf := some (fileOf pool0 8 #[] #[{ accessFlags := 1, nameIndex := 5, descriptorIndex := 6, attributes := #[] }] 33 0 #[] #[])
  fields := #[]
  methods := #[k0m0]
  instanceTypes := #[]
  staticTypes := #[]
  resolved := Array.replicate 124 none
  statics := none }

def pool1 : Array CpInfo := pool [(2, .class_ 4), (0, .nameAndType 5 6), (0, u "java/lang/Object"), (0, u "<init>"), (0, u "()V"), (0, .fieldref 8 9), (0, .class_ 10), (0, .nameAndType 11 12), (0, u "com/example/fair_throttle/fairthrottle/reports/ReportType"), (0, u "HOST"), (0, u "Lcom/example/fair_throttle/fairthrottle/reports/ReportType;"), (0, .fieldref 8 14), (0, .nameAndType 15 12), (0, u "REALM"), (0, .fieldref 8 17), (0, .nameAndType 18 12), (0, u "PEER"), (0, .methodref 20 21), (0, .class_ 22), (0, .nameAndType 23 24), (0, u "com/example/fair_throttle/fairthrottle/reacting/EntryIsForPinLaw"), (0, u "typeOf"), (0, u "(I)Lcom/example/fair_throttle/fairthrottle/reports/ReportType;"), (0, .class_ 26), (0, u "com/example/fair_throttle/fairthrottle/reacting/Entry"), (0, .methodref 25 3), (0, .methodref 25 29), (0, .nameAndType 30 31), (0, u "isFor"), (0, u "(Lcom/example/fair_throttle/fairthrottle/reports/ReportType;J)Z"), (3, u "law"), (0, u "(IIJ)Z")] 2

def k1m0 : Method := { name := "<init>", desc := "()V", sig := { parameters := [], returnType := none }, accessFlags := 1, code := none }
def k1c1 : Code := { maxStack := 2, maxLocals := 2, code := method_2_code, exceptionTable := #[], attributes := #[] }
def k1m1 : Method := { name := "typeOf", desc := "(I)Lcom/example/fair_throttle/fairthrottle/reports/ReportType;", sig := { parameters := [.int], returnType := some (.object "com/example/fair_throttle/fairthrottle/reports/ReportType") }, accessFlags := 10, code := some k1c1 }
def k1c2 : Code := { maxStack := 4, maxLocals := 9, code := code, exceptionTable := #[], attributes := #[] }
def k1m2 : Method := { name := "law", desc := "(IIJ)Z", sig := { parameters := [.int, .int, .long], returnType := some .boolean }, accessFlags := 9, code := some k1c2 }
/-- com/example/fair_throttle/fairthrottle/reacting/EntryIsForPinLaw -/
def k1 : Class := { plain "com/example/fair_throttle/fairthrottle/reacting/EntryIsForPinLaw" (some 0) with
  accessFlags := 49
  interfaces := #[]
  cf := some (fileOf pool1 20 #[] #[{ accessFlags := 1, nameIndex := 5, descriptorIndex := 6, attributes := #[] }, { accessFlags := 10, nameIndex := 23, descriptorIndex := 24, attributes := #[] }, { accessFlags := 9, nameIndex := 35, descriptorIndex := 36, attributes := #[] }] 49 2 #[] #[])
  fields := #[]
  methods := #[k1m0, k1m1, k1m2]
  instanceTypes := #[]
  staticTypes := #[]
  resolved := Array.replicate 39 none
  statics := none }

def pool2 : Array CpInfo := pool [(1, .methodref 2 3), (0, .class_ 4), (0, .nameAndType 5 6), (0, u "java/lang/Object"), (0, u "<init>"), (0, u "()V"), (0, .fieldref 8 9), (0, .class_ 10), (0, .nameAndType 11 12), (0, u "com/example/fair_throttle/fairthrottle/reacting/Decision"), (0, u "abatedBy"), (0, u "Lcom/example/fair_throttle/fairthrottle/reports/ReportScope;"), (35, u "(Lcom/example/fair_throttle/fairthrottle/reports/ReportScope;)V"), (2, u "ADMIT"), (0, u "Lcom/example/fair_throttle/fairthrottle/reacting/Decision;")] 42

def k2c0 : Code := { maxStack := 2, maxLocals := 2, code := prog_61_method_1_code, exceptionTable := #[], attributes := #[] }
def k2m0 : Method := { name := "<init>", desc := "(Lcom/example/fair_throttle/fairthrottle/reports/ReportScope;)V", sig := { parameters := [(.object "com/example/fair_throttle/fairthrottle/reports/ReportScope")], returnType := none }, accessFlags := 0, code := some k2c0 }
/-- com/example/fair_throttle/fairthrottle/reacting/Decision -/
def k2 : Class := { plain "com/example/fair_throttle/fairthrottle/reacting/Decision" (some 0) with
  accessFlags := 33
  interfaces := #[]
  cf := some (fileOf pool2 8 #[] #[{ accessFlags := 0, nameIndex := 5, descriptorIndex := 48, attributes := #[] }] 33 2 #[] #[{ accessFlags := 24, nameIndex := 51, descriptorIndex := 52, attributes := #[] }, { accessFlags := 18, nameIndex := 11, descriptorIndex := 12, attributes := #[] }])
  fields := #[{ name := "ADMIT", type := (.object "com/example/fair_throttle/fairthrottle/reacting/Decision"), accessFlags := 24, slot := 0, constantValue := 0 }, { name := "abatedBy", type := (.object "com/example/fair_throttle/fairthrottle/reports/ReportScope"), accessFlags := 18, slot := 0, constantValue := 0 }]
  methods := #[k2m0]
  instanceTypes := #[(.object "com/example/fair_throttle/fairthrottle/reports/ReportScope")]
  staticTypes := #[(.object "com/example/fair_throttle/fairthrottle/reacting/Decision")]
  resolved := Array.replicate 95 none
  statics := none }

def pool3 : Array CpInfo := pool [(1, .methodref 2 3), (0, .class_ 4), (0, .nameAndType 5 6), (0, u "com/example/fair_throttle/fairthrottle/reacting/Decision"), (0, u "<init>"), (0, u "(Lcom/example/fair_throttle/fairthrottle/reports/ReportScope;)V"), (0, .fieldref 8 9), (0, .class_ 10), (0, .nameAndType 11 12), (0, u "com/example/fair_throttle/fairthrottle/reacting/Entry"), (0, u "algorithm"), (0, u "Lcom/example/fair_throttle/fairthrottle/reports/Algorithm;"), (0, .fieldref 8 14), (0, .nameAndType 15 16), (0, u "sequenceNumber"), (0, u "J"), (0, .fieldref 8 18), (0, .nameAndType 19 20), (0, u "target"), (0, u "Ljava/lang/String;"), (0, .fieldref 8 22), (0, .nameAndType 23 24), (0, u "type"), (0, u "Lcom/example/fair_throttle/fairthrottle/reports/ReportType;"), (0, .fieldref 8 26), (0, .nameAndType 27 16), (0, u "applicationId"), (0, .fieldref 8 29), (0, .nameAndType 30 31), (0, u "throttle"), (0, u "Lcom/example/fair_throttle/fairthrottle/abatement/Throttle;"), (0, .fieldref 8 33), (0, .nameAndType 34 16), (0, u "expiresAt"), (0, .long 18446744073709551615), (1, .fieldref 8 38), (0, .nameAndType 39 16), (0, u "serial"), (0, .fieldref 8 41), (0, .nameAndType 42 43), (0, u "next"), (0, u "Lcom/example/fair_throttle/fairthrottle/reacting/Entry;"), (28, u "superseded"), (0, u "Z"), (0, u "()V"), (8, u "isFor"), (0, u "(Lcom/example/fair_throttle/fairthrottle/reports/ReportType;J)Z")] 5

def k3c0 : Code := { maxStack := 3, maxLocals := 1, code := prog_62_method_1_code, exceptionTable := #[], attributes := #[] }
def k3m0 : Method := { name := "<init>", desc := "()V", sig := { parameters := [], returnType := none }, accessFlags := 0, code := some k3c0 }
def k3c1 : Code := { maxStack := 4, maxLocals := 4, code := prog_62_method_6_code, exceptionTable := #[], attributes := #[] }
def k3m1 : Method := { name := "isFor", desc := "(Lcom/example/fair_throttle/fairthrottle/reports/ReportType;J)Z", sig := { parameters := [(.object "com/example/fair_throttle/fairthrottle/reports/ReportType"), .long], returnType := some .boolean }, accessFlags := 0, code := some k3c1 }
/-- com/example/fair_throttle/fairthrottle/reacting/Entry -/
def k3 : Class := { plain "com/example/fair_throttle/fairthrottle/reacting/Entry" (some 2) with
  accessFlags := 32
  interfaces := #[]
  cf := some (fileOf pool3 8 #[] #[{ accessFlags := 0, nameIndex := 5, descriptorIndex := 74, attributes := #[] }, { accessFlags := 0, nameIndex := 83, descriptorIndex := 84, attributes := #[] }] 32 2 #[] #[{ accessFlags := 66, nameIndex := 72, descriptorIndex := 73, attributes := #[] }, { accessFlags := 16, nameIndex := 11, descriptorIndex := 12, attributes := #[] }, { accessFlags := 16, nameIndex := 15, descriptorIndex := 16, attributes := #[] }, { accessFlags := 16, nameIndex := 19, descriptorIndex := 20, attributes := #[] }, { accessFlags := 16, nameIndex := 23, descriptorIndex := 24, attributes := #[] }, { accessFlags := 16, nameIndex := 27, descriptorIndex := 16, attributes := #[] }, { accessFlags := 16, nameIndex := 30, descriptorIndex := 31, attributes := #[] }, { accessFlags := 16, nameIndex := 34, descriptorIndex := 16, attributes := #[] }, { accessFlags := 16, nameIndex := 39, descriptorIndex := 16, attributes := #[] }, { accessFlags := 16, nameIndex := 42, descriptorIndex := 43, attributes := #[] }])
  fields := #[{ name := "superseded", type := .boolean, accessFlags := 66, slot := 1, constantValue := 0 }, { name := "algorithm", type := (.object "com/example/fair_throttle/fairthrottle/reports/Algorithm"), accessFlags := 16, slot := 2, constantValue := 0 }, { name := "sequenceNumber", type := .long, accessFlags := 16, slot := 3, constantValue := 0 }, { name := "target", type := (.object "java/lang/String"), accessFlags := 16, slot := 4, constantValue := 0 }, { name := "type", type := (.object "com/example/fair_throttle/fairthrottle/reports/ReportType"), accessFlags := 16, slot := 5, constantValue := 0 }, { name := "applicationId", type := .long, accessFlags := 16, slot := 6, constantValue := 0 }, { name := "throttle", type := (.object "com/example/fair_throttle/fairthrottle/abatement/Throttle"), accessFlags := 16, slot := 7, constantValue := 0 }, { name := "expiresAt", type := .long, accessFlags := 16, slot := 8, constantValue := 0 }, { name := "serial", type := .long, accessFlags := 16, slot := 9, constantValue := 0 }, { name := "next", type := (.object "com/example/fair_throttle/fairthrottle/reacting/Entry"), accessFlags := 16, slot := 10, constantValue := 0 }]
  methods := #[k3m0, k3m1]
  instanceTypes := #[(.object "com/example/fair_throttle/fairthrottle/reports/ReportScope"), .boolean, (.object "com/example/fair_throttle/fairthrottle/reports/Algorithm"), .long, (.object "java/lang/String"), (.object "com/example/fair_throttle/fairthrottle/reports/ReportType"), .long, (.object "com/example/fair_throttle/fairthrottle/abatement/Throttle"), .long, .long, (.object "com/example/fair_throttle/fairthrottle/reacting/Entry")]
  staticTypes := #[]
  resolved := Array.replicate 90 none
  statics := none }

def pool4 : Array CpInfo := pool [(1, .class_ 2), (0, u "java/lang/constant/Constable"), (0, .class_ 4), (0, u "java/lang/Object")] 6

/-- java/lang/constant/Constable -/
def k4 : Class := { plain "java/lang/constant/Constable" (some 0) with
  accessFlags := 1537
  interfaces := #[]
  cf := some (fileOf pool4 1 #[] #[] 1537 3 #[] #[])
  fields := #[]
  methods := #[]
  instanceTypes := #[]
  staticTypes := #[]
  resolved := Array.replicate 11 none
  statics := none }

def pool5 : Array CpInfo := pool [(1, .class_ 2), (0, u "java/lang/Comparable"), (0, .class_ 4), (0, u "java/lang/Object")] 7

/-- java/lang/Comparable -/
def k5 : Class := { plain "java/lang/Comparable" (some 0) with
  accessFlags := 1537
  interfaces := #[]
  cf := some (fileOf pool5 1 #[] #[] 1537 3 #[] #[])
  fields := #[]
  methods := #[]
  instanceTypes := #[]
  staticTypes := #[]
  resolved := Array.replicate 12 none
  statics := none }

def pool6 : Array CpInfo := pool [(1, .class_ 2), (0, u "java/io/Serializable"), (0, .class_ 4), (0, u "java/lang/Object")] 2

/-- java/io/Serializable -/
def k6 : Class := { plain "java/io/Serializable" (some 0) with
  accessFlags := 1537
  interfaces := #[]
  cf := some (fileOf pool6 1 #[] #[] 1537 3 #[] #[])
  fields := #[]
  methods := #[]
  instanceTypes := #[]
  staticTypes := #[]
  resolved := Array.replicate 7 none
  statics := none }

def pool7 : Array CpInfo := pool [(2, .class_ 4), (1, u "java/lang/Enum"), (0, u "name"), (0, u "Ljava/lang/String;"), (2, u "ordinal"), (0, u "I"), (1, .class_ 14), (1, u "java/lang/Object"), (4, u "hash"), (86, .class_ 108), (1, u "java/lang/Enum$EnumDesc"), (2, .class_ 112), (0, u "java/lang/constant/Constable"), (0, .class_ 114), (0, u "java/lang/Comparable"), (0, .class_ 116), (0, u "java/io/Serializable")] 87

/-- java/lang/Enum -/
def k7 : Class := { plain "java/lang/Enum" (some 0) with
  accessFlags := 1057
  interfaces := #[4, 5, 6]
  cf := some (fileOf pool7 2 #[.nestMembers #[106]] #[] 1057 12 #[111, 113, 115] #[{ accessFlags := 18, nameIndex := 5, descriptorIndex := 6, attributes := #[] }, { accessFlags := 18, nameIndex := 9, descriptorIndex := 10, attributes := #[] }, { accessFlags := 2, nameIndex := 19, descriptorIndex := 10, attributes := #[] }])
  fields := #[{ name := "name", type := (.object "java/lang/String"), accessFlags := 18, slot := 0, constantValue := 0 }, { name := "ordinal", type := .int, accessFlags := 18, slot := 1, constantValue := 0 }, { name := "hash", type := .int, accessFlags := 2, slot := 2, constantValue := 0 }]
  methods := #[]
  instanceTypes := #[(.object "java/lang/String"), .int, .int]
  staticTypes := #[]
  resolved := Array.replicate 204 none
  statics := none }

def pool8 : Array CpInfo := pool [(1, .class_ 2), (0, u "com/example/fair_throttle/fairthrottle/reports/ReportType"), (2, u "HOST"), (0, u "Lcom/example/fair_throttle/fairthrottle/reports/ReportType;"), (2, u "REALM"), (2, u "PEER"), (2, u "$VALUES"), (0, u "[Lcom/example/fair_throttle/fairthrottle/reports/ReportType;"), (6, .class_ 25), (1, u "java/lang/Enum")] 42

/-- com/example/fair_throttle/fairthrottle/reports/ReportType -/
def k8 : Class := { plain "com/example/fair_throttle/fairthrottle/reports/ReportType" (some 7) with
  accessFlags := 16433
  interfaces := #[]
  cf := some (fileOf pool8 1 #[] #[] 16433 23 #[] #[{ accessFlags := 16409, nameIndex := 5, descriptorIndex := 6, attributes := #[] }, { accessFlags := 16409, nameIndex := 9, descriptorIndex := 6, attributes := #[] }, { accessFlags := 16409, nameIndex := 12, descriptorIndex := 6, attributes := #[] }, { accessFlags := 4122, nameIndex := 15, descriptorIndex := 16, attributes := #[] }])
  fields := #[{ name := "HOST", type := (.object "com/example/fair_throttle/fairthrottle/reports/ReportType"), accessFlags := 16409, slot := 0, constantValue := 0 }, { name := "REALM", type := (.object "com/example/fair_throttle/fairthrottle/reports/ReportType"), accessFlags := 16409, slot := 1, constantValue := 0 }, { name := "PEER", type := (.object "com/example/fair_throttle/fairthrottle/reports/ReportType"), accessFlags := 16409, slot := 2, constantValue := 0 }, { name := "$VALUES", type := (.array (.object "com/example/fair_throttle/fairthrottle/reports/ReportType")), accessFlags := 4122, slot := 3, constantValue := 0 }]
  methods := #[]
  instanceTypes := #[(.object "java/lang/String"), .int, .int]
  staticTypes := #[(.object "com/example/fair_throttle/fairthrottle/reports/ReportType"), (.object "com/example/fair_throttle/fairthrottle/reports/ReportType"), (.object "com/example/fair_throttle/fairthrottle/reports/ReportType"), (.array (.object "com/example/fair_throttle/fairthrottle/reports/ReportType"))]
  resolved := Array.replicate 68 none
  statics := some 0 }

def pool9 : Array CpInfo := pool [(1, u "java/lang/Cloneable"), (0, .class_ 1), (0, u "java/lang/Object"), (0, .class_ 3)] 3

/-- java/lang/Cloneable -/
def k9 : Class := { plain "java/lang/Cloneable" (some 0) with
  accessFlags := 1537
  interfaces := #[]
  cf := some (fileOf pool9 2 #[] #[] 1537 4 #[] #[])
  fields := #[]
  methods := #[]
  instanceTypes := #[]
  staticTypes := #[]
  resolved := Array.replicate 8 none
  statics := none }

/-- the primitive byte -/
def k10 : Class := { plain "byte" none with kind := .primitive 'B', accessFlags := 0x411 }
/-- [B -/
def k11 : Class := { plain "[B" (some 0) with kind := .array 10 .byte, interfaces := #[9, 6], accessFlags := 1041 }

/-- the primitive int -/
def k12 : Class := { plain "int" none with kind := .primitive 'I', accessFlags := 0x411 }
/-- [I -/
def k13 : Class := { plain "[I" (some 0) with kind := .array 12 .int, interfaces := #[9, 6], accessFlags := 1041 }

def heap : Heap := #[{ cls := 8, slots := #[.ref 3, .ref 2, .ref 1, .null], vm := .statics 8 },
  { cls := 8, slots := #[.null, .int 0, .int 0], vm := .none },
  { cls := 8, slots := #[.null, .int 1, .int 0], vm := .none },
  { cls := 8, slots := #[.null, .int 2, .int 0], vm := .none }]
def classes : Array Class := #[k0, k1, k2, k3, k4, k5, k6, k7, k8, k9, k10, k11, k12, k13]
def interned : List (Array UInt16 × Addr) := []
def slotsUsed : Nat := 13
def theMethod : MethodId := ⟨1, 2⟩
def args0 : Array Value := #[.int 5, .int 5, .long 5]
def aboutOver (below : List Frame) : State where
  vm := { classes := classes, interned := interned.toArray }
  heap := heap
  slotsUsed := slotsUsed
  threads := #[{ frames := .invoking theMethod args0 :: below }]
def below0 : List Frame := [.native { method := ⟨0, 0⟩, args := #[] }]
def about1 : State := aboutOver below0
def p0 : Program := .bare "" "" ""
def e0 : Env := launch0.env 0 0 0
theorem w_frames : about1.frames = Frame.invoking theMethod args0 :: below0 := rfl
set_option maxRecDepth 65536 in
theorem w_args : argsFit about1.vm theMethod args0 = true := by decide +kernel
set_option maxRecDepth 65536 in
theorem w_heap : heapFits about1 = true := by decide +kernel
set_option maxRecDepth 65536 in
theorem w_runnable : about1.curStatus? = some .runnable := by decide +kernel
set_option maxRecDepth 65536 in
theorem w_alone : about1.alone = true := by decide +kernel
set_option maxRecDepth 65536 in
theorem w_named : about1.methodNamed? x = some theMethod := by decide +kernel
set_option maxRecDepth 65536 in
theorem w_hears : about1.hears theMethod below0 = true := by decide +kernel
set_option maxRecDepth 65536 in
theorem w_ripe : about1.ripe theMethod args0 below0 = true := by decide +kernel
theorem w_running : about1.status = .running := rfl
set_option maxRecDepth 65536 in
theorem w_room : about1.hasRoom e0.platform room_1 = true :=
  launch0.hasRoom_least _ room_1 (by decide +kernel) (by decide +kernel) (by decide +kernel) (by decide +kernel) (by decide +kernel) (by decide +kernel)
theorem allAtoms_all (ts : List Jvm.Cond) (a : Array Jvm.Value) (st : Jvm.State) : (allAtoms ts).before a st = ts.all (fun c => c.before a st) := by
  induction ts with
  | nil => rfl
  | cons c t ih =>
    show (Jvm.Cond.and c (allAtoms t)).before a st = _
    rw [Jvm.Cond.before_and, ih, List.all_cons]
def words1 : List Jvm.Cond := Jvm.Cond.code x code maxLocals ret :: tables_1
/-- a 'code' word, met by the world's own term for the bytes: nothing is compared byte by byte -/
theorem code_word {y : MethodName} {bytes : ByteArray} {mx : Nat} {rt : Option FieldType} {a : Array Value} {s : State} {m : MethodId} {meth : Method} {c : Code} (h1 : s.methodNamed? y = some m) (h2 : s.vm.method? m = some meth) (h3 : meth.code = some c) (h4 : c.code = bytes)
    (h5 : (c.maxLocals == mx && c.exceptionTable.isEmpty && decide (c.maxStack ≤ mostOperands) && decide (meth.sig.returnType = rt) && !meth.locks && decide (parseMethodDescriptor y.desc = some meth.sig)) = true) : (Jvm.Cond.code y bytes mx rt).before a s = true := by
  simp only [Bool.and_eq_true, beq_iff_eq, Bool.not_eq_true', decide_eq_true_eq] at h5
  obtain ⟨⟨⟨⟨⟨g1, g2⟩, g3⟩, g4⟩, g5⟩, g6⟩ := h5
  simp [Cond.before, Cond.holds, Cond.value, h1, h2, h3, h4, g1, g2, g3, g4, g5, g6]
def isCode : Jvm.Cond → Bool
  | .code _ _ _ _ => true
  | _ => false
theorem all_split {L : List Jvm.Cond} {P : Jvm.Cond → Bool} (h1 : L.all (fun c => isCode c || P c) = true) (h2 : ∀ c ∈ L.filter isCode, P c = true) : L.all P = true := by
  refine List.all_eq_true.mpr fun c hc => ?_
  have h := List.all_eq_true.mp h1 c hc
  rcases Bool.eq_false_or_eq_true (isCode c) with hi | hi
  · exact h2 c (List.mem_filter.mpr ⟨hc, hi⟩)
  · simpa [hi] using h
set_option maxRecDepth 65536 in
theorem w_c0 : (Jvm.Cond.code x code maxLocals ret).before args0 about1 = true := code_word (m := ⟨1, 2⟩) (meth := k1m2) (c := k1c2) (by decide +kernel) rfl rfl rfl (by decide +kernel)
set_option maxRecDepth 65536 in
theorem w_c1 : (Jvm.Cond.code ({ cls := "com/example/fair_throttle/fairthrottle/reacting/EntryIsForPinLaw", name := "typeOf", desc := "(I)Lcom/example/fair_throttle/fairthrottle/reports/ReportType;" } : Jvm.MethodName) method_2_code (2 : Nat) (Option.some (Jvm.ClassFile.FieldType.object "com/example/fair_throttle/fairthrottle/reports/ReportType"))).before args0 about1 = true := code_word (m := ⟨1, 1⟩) (meth := k1m1) (c := k1c1) (by decide +kernel) rfl rfl rfl (by decide +kernel)
set_option maxRecDepth 65536 in
theorem w_c2 : (Jvm.Cond.code ({ cls := "com/example/fair_throttle/fairthrottle/reacting/Entry", name := "<init>", desc := "()V" } : Jvm.MethodName) prog_62_method_1_code (1 : Nat) (Option.none : Option Jvm.ClassFile.FieldType)).before args0 about1 = true := code_word (m := ⟨3, 0⟩) (meth := k3m0) (c := k3c0) (by decide +kernel) rfl rfl rfl (by decide +kernel)
set_option maxRecDepth 65536 in
theorem w_c3 : (Jvm.Cond.code ({ cls := "com/example/fair_throttle/fairthrottle/reacting/Decision", name := "<init>", desc := "(Lcom/example/fair_throttle/fairthrottle/reports/ReportScope;)V" } : Jvm.MethodName) prog_61_method_1_code (2 : Nat) (Option.none : Option Jvm.ClassFile.FieldType)).before args0 about1 = true := code_word (m := ⟨2, 0⟩) (meth := k2m0) (c := k2c0) (by decide +kernel) rfl rfl rfl (by decide +kernel)
set_option maxRecDepth 65536 in
theorem w_c4 : (Jvm.Cond.code ({ cls := "java/lang/Object", name := "<init>", desc := "()V" } : Jvm.MethodName) object_method_1_code (1 : Nat) (Option.none : Option Jvm.ClassFile.FieldType)).before args0 about1 = true := code_word (m := ⟨0, 0⟩) (meth := k0m0) (c := k0c0) (by decide +kernel) rfl rfl rfl (by decide +kernel)
set_option maxRecDepth 65536 in
theorem w_c5 : (Jvm.Cond.code ({ cls := "com/example/fair_throttle/fairthrottle/reacting/Entry", name := "isFor", desc := "(Lcom/example/fair_throttle/fairthrottle/reports/ReportType;J)Z" } : Jvm.MethodName) prog_62_method_6_code (4 : Nat) (Option.some Jvm.ClassFile.FieldType.boolean)).before args0 about1 = true := code_word (m := ⟨3, 1⟩) (meth := k3m1) (c := k3c1) (by decide +kernel) rfl rfl rfl (by decide +kernel)
def codes1 : List Jvm.Cond := [Jvm.Cond.code x code maxLocals ret, Jvm.Cond.code ({ cls := "com/example/fair_throttle/fairthrottle/reacting/EntryIsForPinLaw", name := "typeOf", desc := "(I)Lcom/example/fair_throttle/fairthrottle/reports/ReportType;" } : Jvm.MethodName) method_2_code (2 : Nat) (Option.some (Jvm.ClassFile.FieldType.object "com/example/fair_throttle/fairthrottle/reports/ReportType")), Jvm.Cond.code ({ cls := "com/example/fair_throttle/fairthrottle/reacting/Entry", name := "<init>", desc := "()V" } : Jvm.MethodName) prog_62_method_1_code (1 : Nat) (Option.none : Option Jvm.ClassFile.FieldType), Jvm.Cond.code ({ cls := "com/example/fair_throttle/fairthrottle/reacting/Decision", name := "<init>", desc := "(Lcom/example/fair_throttle/fairthrottle/reports/ReportScope;)V" } : Jvm.MethodName) prog_61_method_1_code (2 : Nat) (Option.none : Option Jvm.ClassFile.FieldType), Jvm.Cond.code ({ cls := "java/lang/Object", name := "<init>", desc := "()V" } : Jvm.MethodName) object_method_1_code (1 : Nat) (Option.none : Option Jvm.ClassFile.FieldType), Jvm.Cond.code ({ cls := "com/example/fair_throttle/fairthrottle/reacting/Entry", name := "isFor", desc := "(Lcom/example/fair_throttle/fairthrottle/reports/ReportType;J)Z" } : Jvm.MethodName) prog_62_method_6_code (4 : Nat) (Option.some Jvm.ClassFile.FieldType.boolean)]
set_option maxRecDepth 65536 in
theorem codes_eq : words1.filter isCode = codes1 := rfl
theorem w_codes : ∀ c ∈ words1.filter isCode, c.before args0 about1 = true := by
  rw [codes_eq]
  intro c hc
  simp only [codes1, List.mem_cons, List.not_mem_nil, or_false] at hc
  rcases hc with rfl | rfl | rfl | rfl | rfl | rfl
  · exact w_c0
  · exact w_c1
  · exact w_c2
  · exact w_c3
  · exact w_c4
  · exact w_c5
set_option maxRecDepth 65536 in
theorem w_t1 : (words1.take 24).all (fun c => isCode c || c.before args0 about1) = true := by decide +kernel
set_option maxRecDepth 65536 in
theorem w_t2 : ((words1.drop 24).take 24).all (fun c => isCode c || c.before args0 about1) = true := by decide +kernel
set_option maxRecDepth 65536 in
theorem w_t3 : ((words1.drop 24).drop 24).all (fun c => isCode c || c.before args0 about1) = true := by decide +kernel
theorem w_tables : (allAtoms (Jvm.Cond.code x code maxLocals ret :: tables_1)).before args0 about1 = true := by
  rw [allAtoms_all]
  show words1.all (fun c => c.before args0 about1) = true
  refine all_split ?_ w_codes
  rw [← List.take_append_drop 24 words1, List.all_append, w_t1, ← List.take_append_drop 24 (words1.drop 24), List.all_append, w_t2, w_t3]
  rfl
set_option maxRecDepth 65536 in
theorem w_case : (Jvm.Cond.and given_1 narrow_1).before args0 about1 = true := by decide +kernel
theorem w_applies : (headSpec (Jvm.Cond.code x code maxLocals ret :: tables_1) room_1).applies x e0.platform about1 = true :=
  (Spec.applies_iff w_frames).mpr ⟨w_running, w_runnable, w_alone, w_named, w_hears, w_ripe, w_room, w_tables⟩
theorem atStart : AtStart classFile x code maxLocals ret World_1 tables_1 room_1 Calls_1 rest_1 Pre_1 launch0 p0 e0 about1 theMethod args0 below0 :=
  ⟨lists_1, trivial, launch0.admits_env _ _ _, launch0.least_env, fairChoices_fair.cas, fairChoices_fair.clock, w_frames, w_args, w_heap, w_applies, trivial, trivial, w_case⟩
end start1
theorem witness_1 : WitnessClaimed_1 := ⟨start1.p0, start1.e0, start1.about1, start1.theMethod, start1.args0, start1.below0, start1.atStart⟩
end Jvm.Pilot.@@N@@
