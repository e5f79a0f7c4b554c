import JvmDerived
import JvmDerived.Pilot.@@N@@Statement
import JvmDerived.Pilot.@@N@@Code
set_option linter.unusedVariables false
set_option linter.unusedSimpArgs false
namespace Jvm.OwnKit
open Sem ClassFile Op Lib Jvm.Stand Jvm.Free Jvm.LawKit Jvm.RoadKit
/-! A WALK THAT IS DIRECTED BY ITS GOAL. Cx: what one invocation holds fixed. Go κ h cells slots pc Ls st: from the place pc, with these variables and this operand stack, over the heap h, the invocation returns as κ promises. -/
abbrev Cx : Type := (Program × Launch × Env × Room × State × MethodId × Array Value × List Frame × Method × Code) × (Bool × State × Nat × (Option Value → Heap → Prop))
abbrev Cx.p (κ : Cx) : Program := κ.1.1
abbrev Cx.l (κ : Cx) : Launch := κ.1.2.1
abbrev Cx.e (κ : Cx) : Env := κ.1.2.2.1
abbrev Cx.R (κ : Cx) : Room := κ.1.2.2.2.1
abbrev Cx.s (κ : Cx) : State := κ.1.2.2.2.2.1
abbrev Cx.m (κ : Cx) : MethodId := κ.1.2.2.2.2.2.1
abbrev Cx.args (κ : Cx) : Array Value := κ.1.2.2.2.2.2.2.1
abbrev Cx.below (κ : Cx) : List Frame := κ.1.2.2.2.2.2.2.2.1
abbrev Cx.meth (κ : Cx) : Method := κ.1.2.2.2.2.2.2.2.2.1
abbrev Cx.c (κ : Cx) : Code := κ.1.2.2.2.2.2.2.2.2.2
/-- may string constants be resolved on the way? -/
abbrev Cx.wide (κ : Cx) : Bool := κ.2.1
abbrev Cx.Z (κ : Cx) : State := κ.2.2.1
abbrev Cx.n0 (κ : Cx) : Nat := κ.2.2.2.1
abbrev Cx.Q (κ : Cx) : Option Value → Heap → Prop := κ.2.2.2.2
/-- the tables over which the walk stands now -/
def Cx.adm (κ : Cx) (vm0 : Vm) (n : Nat) : Prop := (∃ k0, κ.s.Since vm0 k0 ∧ k0 ≤ n) ∧ (κ.wide = false → vm0 = κ.s.vm)
/-- how an invocation ends -/
def Ends (wide : Bool) (s : State) (o : Outcome) (t : State) (L : List Loc) (k n : Nat) : Prop := (wide = false → FrameEnd s o t L k n) ∧ ReturnedEndW s o t L k n
def Go (κ : Cx) (h : Heap) (cells slots pc : Nat) (Ls : Array Slot) (st : List Value) : Prop :=
  ∀ (T : State) (locs : List Loc) (vm0 : Vm), Stand κ.p κ.l κ.e κ.R (κ.s.setVm vm0) κ.m κ.args κ.below κ.meth κ.c T locs cells slots → κ.adm vm0 h.size → κ.Z.Warmed39 vm0 → Fr κ.n0 locs → Old κ.Z κ.n0 h → T.heap = h →
    ∃ s₂ o, Steps κ.p.tables κ.e κ.below (T.setTop (mkF κ.m pc Ls st)) s₂ ∧ s₂.status = .running ∧ Ended s₂ κ.below o ∧ ∃ v L, o = .returned v ∧ (κ.Q v s₂.heap ∧ Fr κ.n0 L ∧ κ.s.heap.size ≤ s₂.heap.size ∧ Old κ.Z κ.n0 s₂.heap) ∧ Ends κ.wide κ.s o s₂ L κ.R.cells κ.R.slots
def Ok (κ : Cx) (l : Launch) (Z : State) (n0 : Nat) (own nm : String) (bytes : ByteArray) (maxL : Nat) (ret : Option FieldType) (rm : Room) (Q : Option Value → Heap → Prop) : Prop :=
  κ.l = l ∧ κ.Z = Z ∧ κ.n0 = n0 ∧ κ.R = rm ∧ κ.p.tables.exec = Jvm.exec ∧ κ.s.vm.findClass own = some κ.m.cls ∧ κ.c.code = bytes ∧ κ.c.maxLocals = maxL ∧ κ.meth.sig.returnType = ret ∧ κ.meth.name = nm ∧ κ.meth.locks = false ∧ κ.Q = Q
/-- a callee's contract: called with these arguments over the heap h0 it returns, and Q holds of what it returns and of the heap that it leaves; what it wrote lies at or above n0 -/
def Con (wide : Bool) (l : Launch) (Z : State) (n0 : Nat) (y : MethodName) (bytes : ByteArray) (maxL : Nat) (ret : Option FieldType) (rm : Room) (as' : Array Value) (h0 : Heap) (Q : Option Value → Heap → Prop) : Prop :=
  Old Z n0 h0 → ∀ ws : List Cond, MetFree l y (head1 (Cond.code y bytes maxL ret :: ws) rm) (fun a U => a = as' ∧ Z.Warmed39 U.vm ∧ U.heap = h0) (fun _ _ _ _ _ => True)
    (fun _ U o U' => ∃ v L, o = .returned v ∧ (Q v U'.heap ∧ Fr n0 L ∧ U.heap.size ≤ U'.heap.size ∧ Old Z n0 U'.heap) ∧ Ends wide U o U' L rm.cells rm.slots)
section Laws
variable {κ : Cx} {t : FieldType} {l : Launch} {Z : State} {n0 : Nat} {own nm : String} {bytes : ByteArray} {maxL : Nat} {ret : Option FieldType} {rm : Room} {Q : Option Value → Heap → Prop} {h : Heap} {cells slots pc : Nat} {Ls : Array Slot} {st : List Value}
theorem Ok.exec (K : Ok κ l Z n0 own nm bytes maxL ret rm Q) : κ.p.tables.exec = Jvm.exec := K.2.2.2.2.1
theorem Ok.kb (K : Ok κ l Z n0 own nm bytes maxL ret rm Q) : κ.c.code = bytes := K.2.2.2.2.2.2.1
theorem Ok.kl (K : Ok κ l Z n0 own nm bytes maxL ret rm Q) : κ.c.maxLocals = maxL := K.2.2.2.2.2.2.2.1
theorem Ok.kr (K : Ok κ l Z n0 own nm bytes maxL ret rm Q) : κ.meth.sig.returnType = ret := K.2.2.2.2.2.2.2.2.1
theorem Ok.name (K : Ok κ l Z n0 own nm bytes maxL ret rm Q) : κ.meth.name = nm := K.2.2.2.2.2.2.2.2.2.1
theorem Ok.locks (K : Ok κ l Z n0 own nm bytes maxL ret rm Q) : κ.meth.locks = false := K.2.2.2.2.2.2.2.2.2.2.1
theorem Ok.eQ (K : Ok κ l Z n0 own nm bytes maxL ret rm Q) : κ.Q = Q := K.2.2.2.2.2.2.2.2.2.2.2
theorem Ok.eZ (K : Ok κ l Z n0 own nm bytes maxL ret rm Q) : κ.Z = Z := K.2.1
theorem Ok.en (K : Ok κ l Z n0 own nm bytes maxL ret rm Q) : κ.n0 = n0 := K.2.2.1
theorem Ok.eR (K : Ok κ l Z n0 own nm bytes maxL ret rm Q) : κ.R = rm := K.2.2.2.1
theorem Ok.el (K : Ok κ l Z n0 own nm bytes maxL ret rm Q) : κ.l = l := K.1
theorem Ok.ko (K : Ok κ l Z n0 own nm bytes maxL ret rm Q) {vm0 : Vm} {n : Nat} (A : κ.adm vm0 n) : (κ.s.setVm vm0).vm.findClass own = some κ.m.cls := by
  obtain ⟨⟨k0, hS, -⟩, -⟩ := A
  show vm0.findClass own = _
  rw [hS.1.alike.findClass]; exact K.2.2.2.2.2.1
theorem Ok.warm (K : Ok κ l Z n0 own nm bytes maxL ret rm Q) {vm0 : Vm} (hZ : κ.Z.Warmed39 vm0) : Z.Warmed39 (κ.s.setVm vm0).vm := by rw [← K.eZ]; exact hZ
theorem Cx.adm.mono {vm0 : Vm} {n n' : Nat} (A : κ.adm vm0 n) (q : n ≤ n') : κ.adm vm0 n' := by
  obtain ⟨⟨k0, hS, hk⟩, w⟩ := A
  exact ⟨⟨k0, hS, Nat.le_trans hk q⟩, w⟩
theorem Ok.old (K : Ok κ l Z n0 own nm bytes maxL ret rm Q) (B : Old κ.Z κ.n0 h) : Old Z n0 h := by rw [← K.eZ, ← K.en]; exact B
theorem Ok.oldS (K : Ok κ l Z n0 own nm bytes maxL ret rm Q) (B : Old Z n0 h) : Old κ.Z κ.n0 h := by rw [K.eZ, K.en]; exact B
theorem low_of (B : Old Z n0 h) : n0 ≤ h.size := B.1 ▸ B.2.1
/-- what was there at the law's start is there still -/
theorem old (K : Ok κ l Z n0 own nm bytes maxL ret rm Q) (hr : Old Z n0 h → Go κ h cells slots pc Ls st) : Go κ h cells slots pc Ls st := fun T locs vm0 X A hZ N B eT =>
  hr (K.old B) T locs vm0 X A hZ N B eT
theorem more {cells' slots' : Nat} (hc : cells ≤ cells') (hs : slots ≤ slots') (hr : Go κ h cells' slots' pc Ls st) : Go κ h cells slots pc Ls st := fun T locs vm0 X A hZ N B eT =>
  hr T locs vm0 (X.mono hc hs) A hZ N B eT
theorem Ends.mono {wide : Bool} {s t : State} {o : Outcome} {L : List Loc} {k n k' n' : Nat} (E : Ends wide s o t L k n) (hk : k ≤ k') (hn : n ≤ n') : Ends wide s o t L k' n' :=
  ⟨fun w => ⟨(E.1 w).1, (E.1 w).2.1, (E.1 w).2.2.mono hk hn⟩, E.2.1, E.2.2.1, E.2.2.2.1, E.2.2.2.2.mono hk hn⟩
/-! ## the end of a walk -/
theorem out (K : Ok κ l Z n0 own nm bytes maxL ret rm Q) {v : Option Value} (hv : ret = none → v = none) (hq : Q v h) (hc : cells ≤ rm.cells) (hs : slots ≤ rm.slots)
    (st1 : ∀ (T : State) (locs : List Loc) (vm0 : Vm) (fs : List Frame), Stand κ.p κ.l κ.e κ.R (κ.s.setVm vm0) κ.m κ.args κ.below κ.meth κ.c T locs cells slots → (∀ (f : JFrame) (acts : List Action), f.method = κ.m → f.locked = none → f.entered = [] → (doReturn κ.e (T.setTop f) acts v).1 = T.setFrames fs) →
      Steps κ.p.tables κ.e κ.below (T.setTop (mkF κ.m pc Ls st)) (T.setFrames fs)) : Go κ h cells slots pc Ls st := fun T locs vm0 X A hZ N B eT => by
  obtain ⟨⟨k0, hS, hk⟩, hw⟩ := A
  have hlk := K.locks
  obtain ⟨fs, hr, hrun, hended, hW, hsame⟩ := X.leave (v := v) (fun q => hv (K.kr ▸ q))
  have hR : ReturnedEndW κ.s (.returned v) (T.setFrames fs) locs cells slots := by
    obtain ⟨a, b, c'⟩ := hS.ended (U := T.setFrames fs) hW (by show k0 ≤ T.heap.size; rw [eT]; exact hk) hsame
    exact ⟨⟨v, rfl⟩, a, b, c'⟩
  refine ⟨_, _, st1 T locs vm0 fs X hr, hrun, hended, v, locs, rfl, ⟨?_, N, hR.2.2.2.2.1, by show Old κ.Z κ.n0 T.heap; rw [eT]; exact B⟩, Ends.mono ⟨fun w => ?_, hR⟩ (by rw [K.eR]; exact hc) (by rw [K.eR]; exact hs)⟩
  · show κ.Q v T.heap
    rw [K.eQ, eT]; exact hq
  · have e0 := hw w
    subst e0
    exact ⟨⟨v, rfl⟩, hW, hsame⟩
theorem retOf (K : Ok κ l Z n0 own nm bytes maxL (some t) rm Q) {w : Value} {i : Instr} (hd : decode bytes pc = .ok (i, 1)) (hn : narrow t w = w)
    (hi : (i = .ireturn ∧ (t = .int ∨ t = .boolean ∨ t = .byte ∨ t = .char ∨ t = .short) ∧ ∃ z, w = .int z) ∨ (i = .lreturn ∧ t = .long ∧ ∃ z, w = .long z) ∨ (i = .dreturn ∧ t = .double ∧ ∃ z, w = .double z) ∨ (i = .freturn ∧ t = .float ∧ ∃ z, w = .float z) ∨ (i = .areturn ∧ t.isReference = true ∧ w.isRef = true))
    (hq : Q (some w) h) (hc : cells ≤ rm.cells) (hs : slots ≤ rm.slots) : Go κ h cells slots pc Ls (w :: st) :=
  out K (fun q => nomatch q) hq hc hs fun T locs vm0 fs X hr => retOut X K.exec K.kr hn hi (hb K.kb hd) hr
theorem ireturn (K : Ok κ l Z n0 own nm bytes maxL (some t) rm Q) {z : Int32} (hd : decode bytes pc = .ok (.ireturn, 1)) (ht : t = .int ∨ t = .boolean ∨ t = .byte ∨ t = .char ∨ t = .short) (hn : narrow t (.int z) = .int z)
    (hq : Q (some (.int z)) h) (hc : cells ≤ rm.cells) (hs : slots ≤ rm.slots) : Go κ h cells slots pc Ls (.int z :: st) := retOf K hd hn (Or.inl ⟨rfl, ht, z, rfl⟩) hq hc hs
theorem lreturn (K : Ok κ l Z n0 own nm bytes maxL (some .long) rm Q) {z : Int64} (hd : decode bytes pc = .ok (.lreturn, 1)) (hq : Q (some (.long z)) h) (hc : cells ≤ rm.cells) (hs : slots ≤ rm.slots) : Go κ h cells slots pc Ls (.long z :: st) :=
  retOf K hd rfl (Or.inr (Or.inl ⟨rfl, rfl, z, rfl⟩)) hq hc hs
theorem areturn (K : Ok κ l Z n0 own nm bytes maxL (some t) rm Q) {w : Value} (hd : decode bytes pc = .ok (.areturn, 1)) (ht : t.isReference = true) (hw : w.isRef = true) (hq : Q (some w) h) (hc : cells ≤ rm.cells) (hs : slots ≤ rm.slots) : Go κ h cells slots pc Ls (w :: st) := by
  refine retOf K hd ?_ (Or.inr (Or.inr (Or.inr (Or.inr ⟨rfl, ht, hw⟩)))) hq hc hs
  cases t <;> first | (exact Bool.noConfusion ht; done) | (rcases ref_cases hw with rfl | ⟨a, rfl⟩ <;> rfl)
theorem return0 (K : Ok κ l Z n0 own nm bytes maxL none rm Q) (hd : decode bytes pc = .ok (.return_, 1)) (hq : Q none h) (hc : cells ≤ rm.cells) (hs : slots ≤ rm.slots) : Go κ h cells slots pc Ls [] :=
  out K (fun _ => rfl) hq hc hs fun T locs vm0 fs X hr => X.returnOut K.exec K.kr (hb K.kb hd) hr

theorem iloadN {k : Fin 4} {v : Int32} (K : Ok κ l Z n0 own nm bytes maxL ret rm Q) (hd : decode bytes pc = .ok (.iload_n k, 1)) (hl : Ls[k.val]? = some (.val (.int v))) (hr : Go κ h cells slots (pc + 1) Ls ((.int v) :: st)) : Go κ h cells slots pc Ls (st) := fun T locs vm0 X A hZ N B eT => by
  obtain ⟨s₂, o, hs, r⟩ := hr T locs vm0 X A hZ N B eT
  exact ⟨s₂, o, XS.iloadN X.here K.exec rfl (hb K.kb hd) hl hs, r⟩
theorem iload {k : Nat} {v : Int32} (K : Ok κ l Z n0 own nm bytes maxL ret rm Q) (hd : decode bytes pc = .ok (.iload k, 2)) (hl : Ls[k]? = some (.val (.int v))) (hr : Go κ h cells slots (pc + 2) Ls ((.int v) :: st)) : Go κ h cells slots pc Ls (st) := fun T locs vm0 X A hZ N B eT => by
  obtain ⟨s₂, o, hs, r⟩ := hr T locs vm0 X A hZ N B eT
  exact ⟨s₂, o, XS.iload X.here K.exec rfl (hb K.kb hd) hl hs, r⟩
theorem lloadN {k : Fin 4} {v : Int64} (K : Ok κ l Z n0 own nm bytes maxL ret rm Q) (hd : decode bytes pc = .ok (.lload_n k, 1)) (hl : Ls[k.val]? = some (.val (.long v))) (hr : Go κ h cells slots (pc + 1) Ls ((.long v) :: st)) : Go κ h cells slots pc Ls (st) := fun T locs vm0 X A hZ N B eT => by
  obtain ⟨s₂, o, hs, r⟩ := hr T locs vm0 X A hZ N B eT
  exact ⟨s₂, o, XT.lloadN X.here K.exec rfl (hb K.kb hd) hl hs, r⟩
theorem lload {k : Nat} {v : Int64} (K : Ok κ l Z n0 own nm bytes maxL ret rm Q) (hd : decode bytes pc = .ok (.lload k, 2)) (hl : Ls[k]? = some (.val (.long v))) (hr : Go κ h cells slots (pc + 2) Ls ((.long v) :: st)) : Go κ h cells slots pc Ls (st) := fun T locs vm0 X A hZ N B eT => by
  obtain ⟨s₂, o, hs, r⟩ := hr T locs vm0 X A hZ N B eT
  exact ⟨s₂, o, XT.lload X.here K.exec rfl (hb K.kb hd) hl hs, r⟩
theorem aloadN {k : Fin 4} {v : Value} (K : Ok κ l Z n0 own nm bytes maxL ret rm Q) (hd : decode bytes pc = .ok (.aload_n k, 1)) (hl : Ls[k.val]? = some (.val v)) (hv : v.isRef = true) (hr : Go κ h cells slots (pc + 1) Ls (v :: st)) : Go κ h cells slots pc Ls (st) := fun T locs vm0 X A hZ N B eT => by
  obtain ⟨s₂, o, hs, r⟩ := hr T locs vm0 X A hZ N B eT
  exact ⟨s₂, o, XS.aloadN X.here K.exec rfl (hb K.kb hd) hl hv hs, r⟩
theorem aload {k : Nat} {v : Value} (K : Ok κ l Z n0 own nm bytes maxL ret rm Q) (hd : decode bytes pc = .ok (.aload k, 2)) (hl : Ls[k]? = some (.val v)) (hv : v.isRef = true) (hr : Go κ h cells slots (pc + 2) Ls (v :: st)) : Go κ h cells slots pc Ls (st) := fun T locs vm0 X A hZ N B eT => by
  obtain ⟨s₂, o, hs, r⟩ := hr T locs vm0 X A hZ N B eT
  exact ⟨s₂, o, XS.aload X.here K.exec rfl (hb K.kb hd) hl hv hs, r⟩
theorem istoreN {k : Fin 4} {x : Int32} {l' : Array Slot} (K : Ok κ l Z n0 own nm bytes maxL ret rm Q) (hd : decode bytes pc = .ok (.istore_n k, 1)) (hl : storeLocals Ls k.val (.int x) = some l') (hr : Go κ h cells slots (pc + 1) l' (st)) : Go κ h cells slots pc Ls ((.int x) :: st) := fun T locs vm0 X A hZ N B eT => by
  obtain ⟨s₂, o, hs, r⟩ := hr T locs vm0 X A hZ N B eT
  exact ⟨s₂, o, XS.istoreN X.here K.exec rfl (hb K.kb hd) rfl hl hs, r⟩
theorem istore {k : Nat} {x : Int32} {l' : Array Slot} (K : Ok κ l Z n0 own nm bytes maxL ret rm Q) (hd : decode bytes pc = .ok (.istore k, 2)) (hl : storeLocals Ls k (.int x) = some l') (hr : Go κ h cells slots (pc + 2) l' (st)) : Go κ h cells slots pc Ls ((.int x) :: st) := fun T locs vm0 X A hZ N B eT => by
  obtain ⟨s₂, o, hs, r⟩ := hr T locs vm0 X A hZ N B eT
  exact ⟨s₂, o, XS.istore X.here K.exec rfl (hb K.kb hd) rfl hl hs, r⟩
theorem lstoreN {k : Fin 4} {x : Int64} {l' : Array Slot} (K : Ok κ l Z n0 own nm bytes maxL ret rm Q) (hd : decode bytes pc = .ok (.lstore_n k, 1)) (hl : storeLocals Ls k.val (.long x) = some l') (hr : Go κ h cells slots (pc + 1) l' (st)) : Go κ h cells slots pc Ls ((.long x) :: st) := fun T locs vm0 X A hZ N B eT => by
  obtain ⟨s₂, o, hs, r⟩ := hr T locs vm0 X A hZ N B eT
  exact ⟨s₂, o, XT.lstoreN X.here K.exec rfl (hb K.kb hd) rfl hl hs, r⟩
theorem lstore {k : Nat} {x : Int64} {l' : Array Slot} (K : Ok κ l Z n0 own nm bytes maxL ret rm Q) (hd : decode bytes pc = .ok (.lstore k, 2)) (hl : storeLocals Ls k (.long x) = some l') (hr : Go κ h cells slots (pc + 2) l' (st)) : Go κ h cells slots pc Ls ((.long x) :: st) := fun T locs vm0 X A hZ N B eT => by
  obtain ⟨s₂, o, hs, r⟩ := hr T locs vm0 X A hZ N B eT
  exact ⟨s₂, o, XT.lstore X.here K.exec rfl (hb K.kb hd) rfl hl hs, r⟩
theorem astoreN {k : Fin 4} {x : Value} {l' : Array Slot} (K : Ok κ l Z n0 own nm bytes maxL ret rm Q) (hd : decode bytes pc = .ok (.astore_n k, 1)) (hv : x.isRef = true) (hl : storeLocals Ls k.val x = some l') (hr : Go κ h cells slots (pc + 1) l' (st)) : Go κ h cells slots pc Ls (x :: st) := fun T locs vm0 X A hZ N B eT => by
  obtain ⟨s₂, o, hs, r⟩ := hr T locs vm0 X A hZ N B eT
  exact ⟨s₂, o, XS.astoreN X.here K.exec rfl (hb K.kb hd) rfl hv hl hs, r⟩
theorem astore {k : Nat} {x : Value} {l' : Array Slot} (K : Ok κ l Z n0 own nm bytes maxL ret rm Q) (hd : decode bytes pc = .ok (.astore k, 2)) (hv : x.isRef = true) (hl : storeLocals Ls k x = some l') (hr : Go κ h cells slots (pc + 2) l' (st)) : Go κ h cells slots pc Ls (x :: st) := fun T locs vm0 X A hZ N B eT => by
  obtain ⟨s₂, o, hs, r⟩ := hr T locs vm0 X A hZ N B eT
  exact ⟨s₂, o, XS.astore X.here K.exec rfl (hb K.kb hd) rfl hv hl hs, r⟩
theorem iconst {i : Int} (K : Ok κ l Z n0 own nm bytes maxL ret rm Q) (hd : decode bytes pc = .ok (.iconst i, 1))  (hr : Go κ h cells slots (pc + 1) Ls (.int (Int32.ofInt i) :: st)) : Go κ h cells slots pc Ls (st) := fun T locs vm0 X A hZ N B eT => by
  obtain ⟨s₂, o, hs, r⟩ := hr T locs vm0 X A hZ N B eT
  exact ⟨s₂, o, XS.iconst X.here K.exec rfl (hb K.kb hd)  hs, r⟩
theorem bipush {i : Int} (K : Ok κ l Z n0 own nm bytes maxL ret rm Q) (hd : decode bytes pc = .ok (.bipush i, 2))  (hr : Go κ h cells slots (pc + 2) Ls (.int (Int8.ofInt i).toInt32 :: st)) : Go κ h cells slots pc Ls (st) := fun T locs vm0 X A hZ N B eT => by
  obtain ⟨s₂, o, hs, r⟩ := hr T locs vm0 X A hZ N B eT
  exact ⟨s₂, o, XS.bipush X.here K.exec rfl (hb K.kb hd)  hs, r⟩
theorem sipush {i : Int} (K : Ok κ l Z n0 own nm bytes maxL ret rm Q) (hd : decode bytes pc = .ok (.sipush i, 3))  (hr : Go κ h cells slots (pc + 3) Ls (.int (Int16.ofInt i).toInt32 :: st)) : Go κ h cells slots pc Ls (st) := fun T locs vm0 X A hZ N B eT => by
  obtain ⟨s₂, o, hs, r⟩ := hr T locs vm0 X A hZ N B eT
  exact ⟨s₂, o, XS.sipush X.here K.exec rfl (hb K.kb hd)  hs, r⟩
theorem lconst {k : Fin 2} (K : Ok κ l Z n0 own nm bytes maxL ret rm Q) (hd : decode bytes pc = .ok (.lconst k, 1))  (hr : Go κ h cells slots (pc + 1) Ls (.long (Int64.ofNat k) :: st)) : Go κ h cells slots pc Ls (st) := fun T locs vm0 X A hZ N B eT => by
  obtain ⟨s₂, o, hs, r⟩ := hr T locs vm0 X A hZ N B eT
  exact ⟨s₂, o, XT.lconst X.here K.exec rfl (hb K.kb hd)  hs, r⟩
theorem aconstNull  (K : Ok κ l Z n0 own nm bytes maxL ret rm Q) (hd : decode bytes pc = .ok (.aconst_null, 1))  (hr : Go κ h cells slots (pc + 1) Ls (.null :: st)) : Go κ h cells slots pc Ls (st) := fun T locs vm0 X A hZ N B eT => by
  obtain ⟨s₂, o, hs, r⟩ := hr T locs vm0 X A hZ N B eT
  exact ⟨s₂, o, XS.aconstNull X.here K.exec rfl (hb K.kb hd)  hs, r⟩
theorem iadd {x y : Int32} (K : Ok κ l Z n0 own nm bytes maxL ret rm Q) (hd : decode bytes pc = .ok (.iadd, 1))  (hr : Go κ h cells slots (pc + 1) Ls (.int (x + y) :: st)) : Go κ h cells slots pc Ls (.int y :: .int x :: st) := fun T locs vm0 X A hZ N B eT => by
  obtain ⟨s₂, o, hs, r⟩ := hr T locs vm0 X A hZ N B eT
  exact ⟨s₂, o, XS.iadd X.here K.exec rfl (hb K.kb hd) rfl hs, r⟩
theorem isub {x y : Int32} (K : Ok κ l Z n0 own nm bytes maxL ret rm Q) (hd : decode bytes pc = .ok (.isub, 1))  (hr : Go κ h cells slots (pc + 1) Ls (.int (x - y) :: st)) : Go κ h cells slots pc Ls (.int y :: .int x :: st) := fun T locs vm0 X A hZ N B eT => by
  obtain ⟨s₂, o, hs, r⟩ := hr T locs vm0 X A hZ N B eT
  exact ⟨s₂, o, XS.isub X.here K.exec rfl (hb K.kb hd) rfl hs, r⟩
theorem imul {x y : Int32} (K : Ok κ l Z n0 own nm bytes maxL ret rm Q) (hd : decode bytes pc = .ok (.imul, 1))  (hr : Go κ h cells slots (pc + 1) Ls (.int (x * y) :: st)) : Go κ h cells slots pc Ls (.int y :: .int x :: st) := fun T locs vm0 X A hZ N B eT => by
  obtain ⟨s₂, o, hs, r⟩ := hr T locs vm0 X A hZ N B eT
  exact ⟨s₂, o, XS.imul X.here K.exec rfl (hb K.kb hd) rfl hs, r⟩
theorem iand {x y : Int32} (K : Ok κ l Z n0 own nm bytes maxL ret rm Q) (hd : decode bytes pc = .ok (.iand, 1))  (hr : Go κ h cells slots (pc + 1) Ls (.int (x &&& y) :: st)) : Go κ h cells slots pc Ls (.int y :: .int x :: st) := fun T locs vm0 X A hZ N B eT => by
  obtain ⟨s₂, o, hs, r⟩ := hr T locs vm0 X A hZ N B eT
  exact ⟨s₂, o, XS.iand X.here K.exec rfl (hb K.kb hd) rfl hs, r⟩
theorem ior {x y : Int32} (K : Ok κ l Z n0 own nm bytes maxL ret rm Q) (hd : decode bytes pc = .ok (.ior, 1))  (hr : Go κ h cells slots (pc + 1) Ls (.int (x ||| y) :: st)) : Go κ h cells slots pc Ls (.int y :: .int x :: st) := fun T locs vm0 X A hZ N B eT => by
  obtain ⟨s₂, o, hs, r⟩ := hr T locs vm0 X A hZ N B eT
  exact ⟨s₂, o, XT.ior X.here K.exec rfl (hb K.kb hd) rfl hs, r⟩
theorem ixor {x y : Int32} (K : Ok κ l Z n0 own nm bytes maxL ret rm Q) (hd : decode bytes pc = .ok (.ixor, 1))  (hr : Go κ h cells slots (pc + 1) Ls (.int (x ^^^ y) :: st)) : Go κ h cells slots pc Ls (.int y :: .int x :: st) := fun T locs vm0 X A hZ N B eT => by
  obtain ⟨s₂, o, hs, r⟩ := hr T locs vm0 X A hZ N B eT
  exact ⟨s₂, o, XT.ixor X.here K.exec rfl (hb K.kb hd) rfl hs, r⟩
theorem ishl {x y : Int32} (K : Ok κ l Z n0 own nm bytes maxL ret rm Q) (hd : decode bytes pc = .ok (.ishl, 1))  (hr : Go κ h cells slots (pc + 1) Ls (.int (x <<< (y &&& 31)) :: st)) : Go κ h cells slots pc Ls (.int y :: .int x :: st) := fun T locs vm0 X A hZ N B eT => by
  obtain ⟨s₂, o, hs, r⟩ := hr T locs vm0 X A hZ N B eT
  exact ⟨s₂, o, XT.ishl X.here K.exec rfl (hb K.kb hd) rfl hs, r⟩
theorem ishr {x y : Int32} (K : Ok κ l Z n0 own nm bytes maxL ret rm Q) (hd : decode bytes pc = .ok (.ishr, 1))  (hr : Go κ h cells slots (pc + 1) Ls (.int (x >>> (y &&& 31)) :: st)) : Go κ h cells slots pc Ls (.int y :: .int x :: st) := fun T locs vm0 X A hZ N B eT => by
  obtain ⟨s₂, o, hs, r⟩ := hr T locs vm0 X A hZ N B eT
  exact ⟨s₂, o, XT.ishr X.here K.exec rfl (hb K.kb hd) rfl hs, r⟩
theorem iushr {x y : Int32} (K : Ok κ l Z n0 own nm bytes maxL ret rm Q) (hd : decode bytes pc = .ok (.iushr, 1))  (hr : Go κ h cells slots (pc + 1) Ls (.int (XT.ushr x y) :: st)) : Go κ h cells slots pc Ls (.int y :: .int x :: st) := fun T locs vm0 X A hZ N B eT => by
  obtain ⟨s₂, o, hs, r⟩ := hr T locs vm0 X A hZ N B eT
  exact ⟨s₂, o, XT.iushr X.here K.exec rfl (hb K.kb hd) rfl hs, r⟩
theorem idiv {x y : Int32} (K : Ok κ l Z n0 own nm bytes maxL ret rm Q) (hd : decode bytes pc = .ok (.idiv, 1)) (hy : y ≠ 0) (hr : Go κ h cells slots (pc + 1) Ls (.int (x / y) :: st)) : Go κ h cells slots pc Ls (.int y :: .int x :: st) := fun T locs vm0 X A hZ N B eT => by
  obtain ⟨s₂, o, hs, r⟩ := hr T locs vm0 X A hZ N B eT
  exact ⟨s₂, o, XS.idiv X.here K.exec rfl (hb K.kb hd) rfl hy hs, r⟩
theorem ineg {x : Int32} (K : Ok κ l Z n0 own nm bytes maxL ret rm Q) (hd : decode bytes pc = .ok (.ineg, 1))  (hr : Go κ h cells slots (pc + 1) Ls (.int (-x) :: st)) : Go κ h cells slots pc Ls (.int x :: st) := fun T locs vm0 X A hZ N B eT => by
  obtain ⟨s₂, o, hs, r⟩ := hr T locs vm0 X A hZ N B eT
  exact ⟨s₂, o, XS.ineg X.here K.exec rfl (hb K.kb hd) rfl hs, r⟩
theorem ladd {x y : Int64} (K : Ok κ l Z n0 own nm bytes maxL ret rm Q) (hd : decode bytes pc = .ok (.ladd, 1))  (hr : Go κ h cells slots (pc + 1) Ls (.long (x + y) :: st)) : Go κ h cells slots pc Ls (.long y :: .long x :: st) := fun T locs vm0 X A hZ N B eT => by
  obtain ⟨s₂, o, hs, r⟩ := hr T locs vm0 X A hZ N B eT
  exact ⟨s₂, o, XT.ladd X.here K.exec rfl (hb K.kb hd) rfl hs, r⟩
theorem lsub {x y : Int64} (K : Ok κ l Z n0 own nm bytes maxL ret rm Q) (hd : decode bytes pc = .ok (.lsub, 1))  (hr : Go κ h cells slots (pc + 1) Ls (.long (x - y) :: st)) : Go κ h cells slots pc Ls (.long y :: .long x :: st) := fun T locs vm0 X A hZ N B eT => by
  obtain ⟨s₂, o, hs, r⟩ := hr T locs vm0 X A hZ N B eT
  exact ⟨s₂, o, XT.lsub X.here K.exec rfl (hb K.kb hd) rfl hs, r⟩
theorem lmul {x y : Int64} (K : Ok κ l Z n0 own nm bytes maxL ret rm Q) (hd : decode bytes pc = .ok (.lmul, 1))  (hr : Go κ h cells slots (pc + 1) Ls (.long (x * y) :: st)) : Go κ h cells slots pc Ls (.long y :: .long x :: st) := fun T locs vm0 X A hZ N B eT => by
  obtain ⟨s₂, o, hs, r⟩ := hr T locs vm0 X A hZ N B eT
  exact ⟨s₂, o, XT.lmul X.here K.exec rfl (hb K.kb hd) rfl hs, r⟩
theorem land {x y : Int64} (K : Ok κ l Z n0 own nm bytes maxL ret rm Q) (hd : decode bytes pc = .ok (.land, 1))  (hr : Go κ h cells slots (pc + 1) Ls (.long (x &&& y) :: st)) : Go κ h cells slots pc Ls (.long y :: .long x :: st) := fun T locs vm0 X A hZ N B eT => by
  obtain ⟨s₂, o, hs, r⟩ := hr T locs vm0 X A hZ N B eT
  exact ⟨s₂, o, XT.land X.here K.exec rfl (hb K.kb hd) rfl hs, r⟩
theorem lor {x y : Int64} (K : Ok κ l Z n0 own nm bytes maxL ret rm Q) (hd : decode bytes pc = .ok (.lor, 1))  (hr : Go κ h cells slots (pc + 1) Ls (.long (x ||| y) :: st)) : Go κ h cells slots pc Ls (.long y :: .long x :: st) := fun T locs vm0 X A hZ N B eT => by
  obtain ⟨s₂, o, hs, r⟩ := hr T locs vm0 X A hZ N B eT
  exact ⟨s₂, o, XT.lor X.here K.exec rfl (hb K.kb hd) rfl hs, r⟩
theorem lxor {x y : Int64} (K : Ok κ l Z n0 own nm bytes maxL ret rm Q) (hd : decode bytes pc = .ok (.lxor, 1))  (hr : Go κ h cells slots (pc + 1) Ls (.long (x ^^^ y) :: st)) : Go κ h cells slots pc Ls (.long y :: .long x :: st) := fun T locs vm0 X A hZ N B eT => by
  obtain ⟨s₂, o, hs, r⟩ := hr T locs vm0 X A hZ N B eT
  exact ⟨s₂, o, XT.lxor X.here K.exec rfl (hb K.kb hd) rfl hs, r⟩
theorem ldiv {x y : Int64} (K : Ok κ l Z n0 own nm bytes maxL ret rm Q) (hd : decode bytes pc = .ok (.ldiv, 1)) (hy : y ≠ 0) (hr : Go κ h cells slots (pc + 1) Ls (.long (x / y) :: st)) : Go κ h cells slots pc Ls (.long y :: .long x :: st) := fun T locs vm0 X A hZ N B eT => by
  obtain ⟨s₂, o, hs, r⟩ := hr T locs vm0 X A hZ N B eT
  exact ⟨s₂, o, XT.ldiv X.here K.exec rfl (hb K.kb hd) rfl hy hs, r⟩
theorem lshl {x : Int64} {y : Int32} (K : Ok κ l Z n0 own nm bytes maxL ret rm Q) (hd : decode bytes pc = .ok (.lshl, 1))  (hr : Go κ h cells slots (pc + 1) Ls (.long (x <<< (y.toInt64 &&& 63)) :: st)) : Go κ h cells slots pc Ls (.int y :: .long x :: st) := fun T locs vm0 X A hZ N B eT => by
  obtain ⟨s₂, o, hs, r⟩ := hr T locs vm0 X A hZ N B eT
  exact ⟨s₂, o, XT.lshl X.here K.exec rfl (hb K.kb hd) rfl hs, r⟩
theorem lshr {x : Int64} {y : Int32} (K : Ok κ l Z n0 own nm bytes maxL ret rm Q) (hd : decode bytes pc = .ok (.lshr, 1))  (hr : Go κ h cells slots (pc + 1) Ls (.long (x >>> (y.toInt64 &&& 63)) :: st)) : Go κ h cells slots pc Ls (.int y :: .long x :: st) := fun T locs vm0 X A hZ N B eT => by
  obtain ⟨s₂, o, hs, r⟩ := hr T locs vm0 X A hZ N B eT
  exact ⟨s₂, o, XT.lshr X.here K.exec rfl (hb K.kb hd) rfl hs, r⟩
theorem lushr {x : Int64} {y : Int32} (K : Ok κ l Z n0 own nm bytes maxL ret rm Q) (hd : decode bytes pc = .ok (.lushr, 1))  (hr : Go κ h cells slots (pc + 1) Ls (.long (XT.ushrL x y) :: st)) : Go κ h cells slots pc Ls (.int y :: .long x :: st) := fun T locs vm0 X A hZ N B eT => by
  obtain ⟨s₂, o, hs, r⟩ := hr T locs vm0 X A hZ N B eT
  exact ⟨s₂, o, XT.lushr X.here K.exec rfl (hb K.kb hd) rfl hs, r⟩
theorem lneg {x : Int64} (K : Ok κ l Z n0 own nm bytes maxL ret rm Q) (hd : decode bytes pc = .ok (.lneg, 1))  (hr : Go κ h cells slots (pc + 1) Ls (.long (-x) :: st)) : Go κ h cells slots pc Ls (.long x :: st) := fun T locs vm0 X A hZ N B eT => by
  obtain ⟨s₂, o, hs, r⟩ := hr T locs vm0 X A hZ N B eT
  exact ⟨s₂, o, XT.lneg X.here K.exec rfl (hb K.kb hd) rfl hs, r⟩
theorem i2l {x : Int32} (K : Ok κ l Z n0 own nm bytes maxL ret rm Q) (hd : decode bytes pc = .ok (.i2l, 1))  (hr : Go κ h cells slots (pc + 1) Ls (.long x.toInt64 :: st)) : Go κ h cells slots pc Ls (.int x :: st) := fun T locs vm0 X A hZ N B eT => by
  obtain ⟨s₂, o, hs, r⟩ := hr T locs vm0 X A hZ N B eT
  exact ⟨s₂, o, XT.i2l X.here K.exec rfl (hb K.kb hd) rfl hs, r⟩
theorem l2i {x : Int64} (K : Ok κ l Z n0 own nm bytes maxL ret rm Q) (hd : decode bytes pc = .ok (.l2i, 1))  (hr : Go κ h cells slots (pc + 1) Ls (.int x.toInt32 :: st)) : Go κ h cells slots pc Ls (.long x :: st) := fun T locs vm0 X A hZ N B eT => by
  obtain ⟨s₂, o, hs, r⟩ := hr T locs vm0 X A hZ N B eT
  exact ⟨s₂, o, XT.l2i X.here K.exec rfl (hb K.kb hd) rfl hs, r⟩
theorem i2b {x : Int32} (K : Ok κ l Z n0 own nm bytes maxL ret rm Q) (hd : decode bytes pc = .ok (.i2b, 1))  (hr : Go κ h cells slots (pc + 1) Ls (.int x.toInt8.toInt32 :: st)) : Go κ h cells slots pc Ls (.int x :: st) := fun T locs vm0 X A hZ N B eT => by
  obtain ⟨s₂, o, hs, r⟩ := hr T locs vm0 X A hZ N B eT
  exact ⟨s₂, o, XT.i2b X.here K.exec rfl (hb K.kb hd) rfl hs, r⟩
theorem i2c {x : Int32} (K : Ok κ l Z n0 own nm bytes maxL ret rm Q) (hd : decode bytes pc = .ok (.i2c, 1))  (hr : Go κ h cells slots (pc + 1) Ls (.int x.toUInt32.toUInt16.toUInt32.toInt32 :: st)) : Go κ h cells slots pc Ls (.int x :: st) := fun T locs vm0 X A hZ N B eT => by
  obtain ⟨s₂, o, hs, r⟩ := hr T locs vm0 X A hZ N B eT
  exact ⟨s₂, o, XT.i2c X.here K.exec rfl (hb K.kb hd) rfl hs, r⟩
theorem i2s {x : Int32} (K : Ok κ l Z n0 own nm bytes maxL ret rm Q) (hd : decode bytes pc = .ok (.i2s, 1))  (hr : Go κ h cells slots (pc + 1) Ls (.int x.toInt16.toInt32 :: st)) : Go κ h cells slots pc Ls (.int x :: st) := fun T locs vm0 X A hZ N B eT => by
  obtain ⟨s₂, o, hs, r⟩ := hr T locs vm0 X A hZ N B eT
  exact ⟨s₂, o, XT.i2s X.here K.exec rfl (hb K.kb hd) rfl hs, r⟩
theorem lcmp {x y : Int64} (K : Ok κ l Z n0 own nm bytes maxL ret rm Q) (hd : decode bytes pc = .ok (.lcmp, 1))  (hr : Go κ h cells slots (pc + 1) Ls (.int (XT.cmpL x y) :: st)) : Go κ h cells slots pc Ls (.long y :: .long x :: st) := fun T locs vm0 X A hZ N B eT => by
  obtain ⟨s₂, o, hs, r⟩ := hr T locs vm0 X A hZ N B eT
  exact ⟨s₂, o, XT.lcmp X.here K.exec rfl (hb K.kb hd) rfl hs, r⟩
theorem dup {x : Value} (K : Ok κ l Z n0 own nm bytes maxL ret rm Q) (hd : decode bytes pc = .ok (.dup, 1)) (hc : x.category = 1) (hr : Go κ h cells slots (pc + 1) Ls (x :: x :: st)) : Go κ h cells slots pc Ls (x :: st) := fun T locs vm0 X A hZ N B eT => by
  obtain ⟨s₂, o, hs, r⟩ := hr T locs vm0 X A hZ N B eT
  exact ⟨s₂, o, XS.dup X.here K.exec rfl (hb K.kb hd) rfl hc hs, r⟩
theorem pop {x : Value} (K : Ok κ l Z n0 own nm bytes maxL ret rm Q) (hd : decode bytes pc = .ok (.pop, 1)) (hc : x.category = 1) (hr : Go κ h cells slots (pc + 1) Ls (st)) : Go κ h cells slots pc Ls (x :: st) := fun T locs vm0 X A hZ N B eT => by
  obtain ⟨s₂, o, hs, r⟩ := hr T locs vm0 X A hZ N B eT
  exact ⟨s₂, o, XT.pop X.here K.exec rfl (hb K.kb hd) rfl hc hs, r⟩
theorem dupX1 {x y : Value} (K : Ok κ l Z n0 own nm bytes maxL ret rm Q) (hd : decode bytes pc = .ok (.dup_x1, 1)) (hc : x.category = 1) (hc' : y.category = 1) (hr : Go κ h cells slots (pc + 1) Ls (x :: y :: x :: st)) : Go κ h cells slots pc Ls (x :: y :: st) := fun T locs vm0 X A hZ N B eT => by
  obtain ⟨s₂, o, hs, r⟩ := hr T locs vm0 X A hZ N B eT
  exact ⟨s₂, o, XT.dupX1 X.here K.exec rfl (hb K.kb hd) rfl hc hc' hs, r⟩
theorem dup2 {x y : Value} (K : Ok κ l Z n0 own nm bytes maxL ret rm Q) (hd : decode bytes pc = .ok (.dup2, 1)) (hc : x.category = 1) (hc' : y.category = 1) (hr : Go κ h cells slots (pc + 1) Ls (x :: y :: x :: y :: st)) : Go κ h cells slots pc Ls (x :: y :: st) := fun T locs vm0 X A hZ N B eT => by
  obtain ⟨s₂, o, hs, r⟩ := hr T locs vm0 X A hZ N B eT
  exact ⟨s₂, o, XT.dup2 X.here K.exec rfl (hb K.kb hd) rfl hc hc' hs, r⟩
theorem dup2L {x : Int64} (K : Ok κ l Z n0 own nm bytes maxL ret rm Q) (hd : decode bytes pc = .ok (.dup2, 1))  (hr : Go κ h cells slots (pc + 1) Ls (.long x :: .long x :: st)) : Go κ h cells slots pc Ls (.long x :: st) := fun T locs vm0 X A hZ N B eT => by
  obtain ⟨s₂, o, hs, r⟩ := hr T locs vm0 X A hZ N B eT
  exact ⟨s₂, o, XT.dup2L X.here K.exec rfl (hb K.kb hd) rfl hs, r⟩
theorem iinc {k : Nat} {cst : Int} {x : Int32} {l' : Array Slot} (K : Ok κ l Z n0 own nm bytes maxL ret rm Q) (hd : decode bytes pc = .ok (.iinc k cst, 3)) (hl : Ls[k]? = some (.val (.int x))) (hl' : storeLocals Ls k (.int (x + Int32.ofInt cst)) = some l') (hr : Go κ h cells slots (pc + 3) l' (st)) : Go κ h cells slots pc Ls (st) := fun T locs vm0 X A hZ N B eT => by
  obtain ⟨s₂, o, hs, r⟩ := hr T locs vm0 X A hZ N B eT
  exact ⟨s₂, o, XS.iinc X.here K.exec rfl (hb K.kb hd) hl hl' hs, r⟩
theorem irem {x y : Int32} (K : Ok κ l Z n0 own nm bytes maxL ret rm Q) (hd : decode bytes pc = .ok (.irem, 1)) (hy : y ≠ 0) (hr : Go κ h cells slots (pc + 1) Ls (.int (x % y) :: st)) : Go κ h cells slots pc Ls (.int y :: .int x :: st) := fun T locs vm0 X A hZ N B eT => by
  obtain ⟨s₂, o, hs, r⟩ := hr T locs vm0 X A hZ N B eT
  exact ⟨s₂, o, iremM X K.exec rfl (hb K.kb hd) rfl hy hs, r⟩
theorem lrem {x y : Int64} (K : Ok κ l Z n0 own nm bytes maxL ret rm Q) (hd : decode bytes pc = .ok (.lrem, 1)) (hy : y ≠ 0) (hr : Go κ h cells slots (pc + 1) Ls (.long (x % y) :: st)) : Go κ h cells slots pc Ls (.long y :: .long x :: st) := fun T locs vm0 X A hZ N B eT => by
  obtain ⟨s₂, o, hs, r⟩ := hr T locs vm0 X A hZ N B eT
  exact ⟨s₂, o, XT.lrem X.here K.exec rfl (hb K.kb hd) rfl hy (by rw [lrem_mod]; exact hs), r⟩
theorem goto {o' : Int} {pc' : Nat} (K : Ok κ l Z n0 own nm bytes maxL ret rm Q) (hd : decode bytes pc = .ok (.goto o', 3)) (ho : 0 ≤ (pc : Int) + o') (hp : ((pc : Int) + o').toNat = pc') (hr : Go κ h cells slots pc' Ls st) : Go κ h cells slots pc Ls st := fun T locs vm0 X A hZ N B eT => by
  obtain ⟨s₂, o, hs, r⟩ := hr T locs vm0 X A hZ N B eT
  exact ⟨s₂, o, XS.goto X.here K.exec rfl rfl (hb K.kb hd) ho hp hs, r⟩
/-! ## branches: both roads, each with what is known on it -/
theorem ifB {cd : ClassFile.Cond} {x : Int32} {o' : Int} {pc' : Nat} (K : Ok κ l Z n0 own nm bytes maxL ret rm Q) (hd : decode bytes pc = .ok (.ifCond cd o', 3)) (ho : 0 ≤ (pc : Int) + o') (hp : ((pc : Int) + o').toNat = pc')
    (hy : if_icmp.holds cd x 0 = true → Go κ h cells slots pc' Ls st) (hn : if_icmp.holds cd x 0 = false → Go κ h cells slots (pc + 3) Ls st) : Go κ h cells slots pc Ls (.int x :: st) := fun T locs vm0 X A hZ N B eT => by
  cases hc : if_icmp.holds cd x 0 with
  | true => obtain ⟨s₂, o, hs, r⟩ := hy hc T locs vm0 X A hZ N B eT; exact ⟨s₂, o, XS.ifYes X.here K.exec rfl rfl (hb K.kb hd) rfl ((if0 _ _).trans hc) ho hp hs, r⟩
  | false => obtain ⟨s₂, o, hs, r⟩ := hn hc T locs vm0 X A hZ N B eT; exact ⟨s₂, o, XS.ifNo X.here K.exec rfl (hb K.kb hd) rfl ((if0 _ _).trans hc) hs, r⟩
theorem icB {cd : ClassFile.Cond} {x y : Int32} {o' : Int} {pc' : Nat} (K : Ok κ l Z n0 own nm bytes maxL ret rm Q) (hd : decode bytes pc = .ok (.if_icmp cd o', 3)) (ho : 0 ≤ (pc : Int) + o') (hp : ((pc : Int) + o').toNat = pc')
    (hy : if_icmp.holds cd x y = true → Go κ h cells slots pc' Ls st) (hn : if_icmp.holds cd x y = false → Go κ h cells slots (pc + 3) Ls st) : Go κ h cells slots pc Ls (.int y :: .int x :: st) := fun T locs vm0 X A hZ N B eT => by
  cases hc : if_icmp.holds cd x y with
  | true => obtain ⟨s₂, o, hs, r⟩ := hy hc T locs vm0 X A hZ N B eT; exact ⟨s₂, o, XS.icmpYes X.here K.exec rfl rfl (hb K.kb hd) rfl hc ho hp hs, r⟩
  | false => obtain ⟨s₂, o, hs, r⟩ := hn hc T locs vm0 X A hZ N B eT; exact ⟨s₂, o, XS.icmpNo X.here K.exec rfl (hb K.kb hd) rfl hc hs, r⟩
theorem h_eq (x y : Int32) : (if_icmp.holds .eq x y = true ↔ x = y) ∧ (if_icmp.holds .eq x y = false ↔ ¬ x = y) := by simp [if_icmp.holds]
theorem h_ne (x y : Int32) : (if_icmp.holds .ne x y = true ↔ ¬ x = y) ∧ (if_icmp.holds .ne x y = false ↔ x = y) := by simp [if_icmp.holds]
theorem h_lt (x y : Int32) : (if_icmp.holds .lt x y = true ↔ x.toInt < y.toInt) ∧ (if_icmp.holds .lt x y = false ↔ y.toInt ≤ x.toInt) := by simp [if_icmp.holds, Int32.lt_iff_toInt_lt]
theorem h_ge (x y : Int32) : (if_icmp.holds .ge x y = true ↔ y.toInt ≤ x.toInt) ∧ (if_icmp.holds .ge x y = false ↔ x.toInt < y.toInt) := by simp [if_icmp.holds, Int32.le_iff_toInt_le]
theorem h_gt (x y : Int32) : (if_icmp.holds .gt x y = true ↔ y.toInt < x.toInt) ∧ (if_icmp.holds .gt x y = false ↔ x.toInt ≤ y.toInt) := by simp [if_icmp.holds, Int32.lt_iff_toInt_lt]
theorem h_le (x y : Int32) : (if_icmp.holds .le x y = true ↔ x.toInt ≤ y.toInt) ∧ (if_icmp.holds .le x y = false ↔ y.toInt < x.toInt) := by simp [if_icmp.holds, Int32.le_iff_toInt_le]
theorem ifeq {x : Int32} {o' : Int} {pc' : Nat} (K : Ok κ l Z n0 own nm bytes maxL ret rm Q) (hd : decode bytes pc = .ok (.ifCond .eq o', 3)) (ho : 0 ≤ (pc : Int) + o') (hp : ((pc : Int) + o').toNat = pc')
    (hy : x = (0 : Int32) → Go κ h cells slots pc' Ls st) (hn : ¬ x = (0 : Int32) → Go κ h cells slots (pc + 3) Ls st) : Go κ h cells slots pc Ls (.int x :: st) :=
  ifB K hd ho hp (fun q => hy ((h_eq _ _).1.mp q)) (fun q => hn ((h_eq _ _).2.mp q))
theorem icmpeq {x y : Int32} {o' : Int} {pc' : Nat} (K : Ok κ l Z n0 own nm bytes maxL ret rm Q) (hd : decode bytes pc = .ok (.if_icmp .eq o', 3)) (ho : 0 ≤ (pc : Int) + o') (hp : ((pc : Int) + o').toNat = pc')
    (hy : x = y → Go κ h cells slots pc' Ls st) (hn : ¬ x = y → Go κ h cells slots (pc + 3) Ls st) : Go κ h cells slots pc Ls (.int y :: .int x :: st) :=
  icB K hd ho hp (fun q => hy ((h_eq _ _).1.mp q)) (fun q => hn ((h_eq _ _).2.mp q))
theorem ifne {x : Int32} {o' : Int} {pc' : Nat} (K : Ok κ l Z n0 own nm bytes maxL ret rm Q) (hd : decode bytes pc = .ok (.ifCond .ne o', 3)) (ho : 0 ≤ (pc : Int) + o') (hp : ((pc : Int) + o').toNat = pc')
    (hy : ¬ x = (0 : Int32) → Go κ h cells slots pc' Ls st) (hn : x = (0 : Int32) → Go κ h cells slots (pc + 3) Ls st) : Go κ h cells slots pc Ls (.int x :: st) :=
  ifB K hd ho hp (fun q => hy ((h_ne _ _).1.mp q)) (fun q => hn ((h_ne _ _).2.mp q))
theorem icmpne {x y : Int32} {o' : Int} {pc' : Nat} (K : Ok κ l Z n0 own nm bytes maxL ret rm Q) (hd : decode bytes pc = .ok (.if_icmp .ne o', 3)) (ho : 0 ≤ (pc : Int) + o') (hp : ((pc : Int) + o').toNat = pc')
    (hy : ¬ x = y → Go κ h cells slots pc' Ls st) (hn : x = y → Go κ h cells slots (pc + 3) Ls st) : Go κ h cells slots pc Ls (.int y :: .int x :: st) :=
  icB K hd ho hp (fun q => hy ((h_ne _ _).1.mp q)) (fun q => hn ((h_ne _ _).2.mp q))
theorem iflt {x : Int32} {o' : Int} {pc' : Nat} (K : Ok κ l Z n0 own nm bytes maxL ret rm Q) (hd : decode bytes pc = .ok (.ifCond .lt o', 3)) (ho : 0 ≤ (pc : Int) + o') (hp : ((pc : Int) + o').toNat = pc')
    (hy : x.toInt < (0 : Int) → Go κ h cells slots pc' Ls st) (hn : (0 : Int) ≤ x.toInt → Go κ h cells slots (pc + 3) Ls st) : Go κ h cells slots pc Ls (.int x :: st) :=
  ifB K hd ho hp (fun q => hy ((h_lt _ _).1.mp q)) (fun q => hn ((h_lt _ _).2.mp q))
theorem icmplt {x y : Int32} {o' : Int} {pc' : Nat} (K : Ok κ l Z n0 own nm bytes maxL ret rm Q) (hd : decode bytes pc = .ok (.if_icmp .lt o', 3)) (ho : 0 ≤ (pc : Int) + o') (hp : ((pc : Int) + o').toNat = pc')
    (hy : x.toInt < y.toInt → Go κ h cells slots pc' Ls st) (hn : y.toInt ≤ x.toInt → Go κ h cells slots (pc + 3) Ls st) : Go κ h cells slots pc Ls (.int y :: .int x :: st) :=
  icB K hd ho hp (fun q => hy ((h_lt _ _).1.mp q)) (fun q => hn ((h_lt _ _).2.mp q))
theorem ifge {x : Int32} {o' : Int} {pc' : Nat} (K : Ok κ l Z n0 own nm bytes maxL ret rm Q) (hd : decode bytes pc = .ok (.ifCond .ge o', 3)) (ho : 0 ≤ (pc : Int) + o') (hp : ((pc : Int) + o').toNat = pc')
    (hy : (0 : Int) ≤ x.toInt → Go κ h cells slots pc' Ls st) (hn : x.toInt < (0 : Int) → Go κ h cells slots (pc + 3) Ls st) : Go κ h cells slots pc Ls (.int x :: st) :=
  ifB K hd ho hp (fun q => hy ((h_ge _ _).1.mp q)) (fun q => hn ((h_ge _ _).2.mp q))
theorem icmpge {x y : Int32} {o' : Int} {pc' : Nat} (K : Ok κ l Z n0 own nm bytes maxL ret rm Q) (hd : decode bytes pc = .ok (.if_icmp .ge o', 3)) (ho : 0 ≤ (pc : Int) + o') (hp : ((pc : Int) + o').toNat = pc')
    (hy : y.toInt ≤ x.toInt → Go κ h cells slots pc' Ls st) (hn : x.toInt < y.toInt → Go κ h cells slots (pc + 3) Ls st) : Go κ h cells slots pc Ls (.int y :: .int x :: st) :=
  icB K hd ho hp (fun q => hy ((h_ge _ _).1.mp q)) (fun q => hn ((h_ge _ _).2.mp q))
theorem ifgt {x : Int32} {o' : Int} {pc' : Nat} (K : Ok κ l Z n0 own nm bytes maxL ret rm Q) (hd : decode bytes pc = .ok (.ifCond .gt o', 3)) (ho : 0 ≤ (pc : Int) + o') (hp : ((pc : Int) + o').toNat = pc')
    (hy : (0 : Int) < x.toInt → Go κ h cells slots pc' Ls st) (hn : x.toInt ≤ (0 : Int) → Go κ h cells slots (pc + 3) Ls st) : Go κ h cells slots pc Ls (.int x :: st) :=
  ifB K hd ho hp (fun q => hy ((h_gt _ _).1.mp q)) (fun q => hn ((h_gt _ _).2.mp q))
theorem icmpgt {x y : Int32} {o' : Int} {pc' : Nat} (K : Ok κ l Z n0 own nm bytes maxL ret rm Q) (hd : decode bytes pc = .ok (.if_icmp .gt o', 3)) (ho : 0 ≤ (pc : Int) + o') (hp : ((pc : Int) + o').toNat = pc')
    (hy : y.toInt < x.toInt → Go κ h cells slots pc' Ls st) (hn : x.toInt ≤ y.toInt → Go κ h cells slots (pc + 3) Ls st) : Go κ h cells slots pc Ls (.int y :: .int x :: st) :=
  icB K hd ho hp (fun q => hy ((h_gt _ _).1.mp q)) (fun q => hn ((h_gt _ _).2.mp q))
theorem ifle {x : Int32} {o' : Int} {pc' : Nat} (K : Ok κ l Z n0 own nm bytes maxL ret rm Q) (hd : decode bytes pc = .ok (.ifCond .le o', 3)) (ho : 0 ≤ (pc : Int) + o') (hp : ((pc : Int) + o').toNat = pc')
    (hy : x.toInt ≤ (0 : Int) → Go κ h cells slots pc' Ls st) (hn : (0 : Int) < x.toInt → Go κ h cells slots (pc + 3) Ls st) : Go κ h cells slots pc Ls (.int x :: st) :=
  ifB K hd ho hp (fun q => hy ((h_le _ _).1.mp q)) (fun q => hn ((h_le _ _).2.mp q))
theorem icmple {x y : Int32} {o' : Int} {pc' : Nat} (K : Ok κ l Z n0 own nm bytes maxL ret rm Q) (hd : decode bytes pc = .ok (.if_icmp .le o', 3)) (ho : 0 ≤ (pc : Int) + o') (hp : ((pc : Int) + o').toNat = pc')
    (hy : x.toInt ≤ y.toInt → Go κ h cells slots pc' Ls st) (hn : y.toInt < x.toInt → Go κ h cells slots (pc + 3) Ls st) : Go κ h cells slots pc Ls (.int y :: .int x :: st) :=
  icB K hd ho hp (fun q => hy ((h_le _ _).1.mp q)) (fun q => hn ((h_le _ _).2.mp q))
theorem ifnull {x : Value} {o' : Int} {pc' : Nat} (K : Ok κ l Z n0 own nm bytes maxL ret rm Q) (hd : decode bytes pc = .ok (.ifnull o', 3)) (ho : 0 ≤ (pc : Int) + o') (hp : ((pc : Int) + o').toNat = pc') (hx : x.isRef = true)
    (hy : x = .null → Go κ h cells slots pc' Ls st) (hn : ∀ a, x = .ref a → Go κ h cells slots (pc + 3) Ls st) : Go κ h cells slots pc Ls (x :: st) := fun T locs vm0 X A hZ N B eT => by
  rcases ref_cases hx with rfl | ⟨a, rfl⟩
  · obtain ⟨s₂, o, hs, r⟩ := hy rfl T locs vm0 X A hZ N B eT; exact ⟨s₂, o, XS.ifnullYes X.here K.exec rfl rfl (hb K.kb hd) rfl ho hp hs, r⟩
  · obtain ⟨s₂, o, hs, r⟩ := hn a rfl T locs vm0 X A hZ N B eT; exact ⟨s₂, o, XS.ifnullNo X.here K.exec rfl (hb K.kb hd) rfl hs, r⟩
theorem ifnonnull {x : Value} {o' : Int} {pc' : Nat} (K : Ok κ l Z n0 own nm bytes maxL ret rm Q) (hd : decode bytes pc = .ok (.ifnonnull o', 3)) (ho : 0 ≤ (pc : Int) + o') (hp : ((pc : Int) + o').toNat = pc') (hx : x.isRef = true)
    (hy : ∀ a, x = .ref a → Go κ h cells slots pc' Ls st) (hn : x = .null → Go κ h cells slots (pc + 3) Ls st) : Go κ h cells slots pc Ls (x :: st) := fun T locs vm0 X A hZ N B eT => by
  rcases ref_cases hx with rfl | ⟨a, rfl⟩
  · obtain ⟨s₂, o, hs, r⟩ := hn rfl T locs vm0 X A hZ N B eT; exact ⟨s₂, o, XT.ifnonnullNo X.here K.exec rfl (hb K.kb hd) rfl hs, r⟩
  · obtain ⟨s₂, o, hs, r⟩ := hy a rfl T locs vm0 X A hZ N B eT; exact ⟨s₂, o, XT.ifnonnullYes X.here K.exec rfl rfl (hb K.kb hd) rfl ho hp hs, r⟩
theorem acB {cd : ACond} {x y : Value} {o' : Int} {pc' : Nat} (K : Ok κ l Z n0 own nm bytes maxL ret rm Q) (hd : decode bytes pc = .ok (.if_acmp cd o', 3)) (ho : 0 ≤ (pc : Int) + o') (hp : ((pc : Int) + o').toNat = pc') (hx : x.isRef = true) (hy : y.isRef = true)
    (ht : acV cd (decide (x = y)) = true → Go κ h cells slots pc' Ls st) (hn : acV cd (decide (x = y)) = false → Go κ h cells slots (pc + 3) Ls st) : Go κ h cells slots pc Ls (y :: x :: st) := fun T locs vm0 X A hZ N B eT => by
  cases hc : acV cd (decide (x = y)) with
  | true => obtain ⟨s₂, o, hs, r⟩ := ht hc T locs vm0 X A hZ N B eT; exact ⟨s₂, o, acmp X K.exec rfl hx hy rfl (hb K.kb hd) rfl rfl ho (by rw [hc, if_pos rfl, hp]) hs, r⟩
  | false => obtain ⟨s₂, o, hs, r⟩ := hn hc T locs vm0 X A hZ N B eT; exact ⟨s₂, o, acmp X K.exec rfl hx hy rfl (hb K.kb hd) rfl rfl ho (by rw [hc]; simp) hs, r⟩
theorem acmpeq {x y : Value} {o' : Int} {pc' : Nat} (K : Ok κ l Z n0 own nm bytes maxL ret rm Q) (hd : decode bytes pc = .ok (.if_acmp .eq o', 3)) (ho : 0 ≤ (pc : Int) + o') (hp : ((pc : Int) + o').toNat = pc') (hx : x.isRef = true) (hy : y.isRef = true)
    (ht : x = y → Go κ h cells slots pc' Ls st) (hn : ¬ x = y → Go κ h cells slots (pc + 3) Ls st) : Go κ h cells slots pc Ls (y :: x :: st) :=
  acB K hd ho hp hx hy (fun q => ht (by simpa [acV] using q)) (fun q => hn (by simpa [acV] using q))
theorem acmpne {x y : Value} {o' : Int} {pc' : Nat} (K : Ok κ l Z n0 own nm bytes maxL ret rm Q) (hd : decode bytes pc = .ok (.if_acmp .ne o', 3)) (ho : 0 ≤ (pc : Int) + o') (hp : ((pc : Int) + o').toNat = pc') (hx : x.isRef = true) (hy : y.isRef = true)
    (ht : ¬ x = y → Go κ h cells slots pc' Ls st) (hn : x = y → Go κ h cells slots (pc + 3) Ls st) : Go κ h cells slots pc Ls (y :: x :: st) :=
  acB K hd ho hp hx hy (fun q => ht (by simpa [acV] using q)) (fun q => hn (by simpa [acV] using q))
/-! ## constants of the pool -/
variable {a0 : Array Value}
theorem ldcI {index : Nat} {v : Int32} (K : Ok κ l Z n0 own nm bytes maxL ret rm Q) (hd : decode bytes pc = .ok (.ldc index, 2)) (w : (Cond.constant own index v).before a0 Z = true) (hr : Go κ h cells slots (pc + 2) Ls (.int v :: st)) : Go κ h cells slots pc Ls st := fun T locs vm0 X A hZ N B eT => by
  obtain ⟨s₂, o, hs, r⟩ := hr T locs vm0 X A hZ N B eT
  exact ⟨s₂, o, Jvm.Stand.ldcI X K.exec (K.ko A) (mvT (K.warm hZ) w) rfl (hb K.kb hd) hs, r⟩
theorem ldc2J {index : Nat} {v : Int64} (K : Ok κ l Z n0 own nm bytes maxL ret rm Q) (hd : decode bytes pc = .ok (.ldc2_w index, 3)) (w : (Cond.constantLong own index v).before a0 Z = true) (hr : Go κ h cells slots (pc + 3) Ls (.long v :: st)) : Go κ h cells slots pc Ls st := fun T locs vm0 X A hZ N B eT => by
  obtain ⟨s₂, o, hs, r⟩ := hr T locs vm0 X A hZ N B eT
  exact ⟨s₂, o, Jvm.Stand.ldc2J X K.exec (K.ko A) (mvT (K.warm hZ) w) rfl (hb K.kb hd) hs, r⟩
/-! ## the heap -/
theorem getfield {R0 O n d host : String} {index : Nat} {a : Addr} {v : Value} (K : Ok κ l Z n0 own nm bytes maxL ret rm Q) (hd : decode bytes pc = .ok (.getfield index, 3))
    (w : (Cond.fieldLink own index R0 n d).before a0 Z = true ∨ (Cond.fieldLinkNest own index R0 n d host).before a0 Z = true) (via : Via Z R0 O n d) (F : Fld Z h a O n d v) (hr : Go κ h cells slots (pc + 3) Ls (v :: st)) : Go κ h cells slots pc Ls (.ref a :: st) := fun T locs vm0 X A hZ N B eT => by
  obtain ⟨T', X', e', st1⟩ := getF X K.exec (K.warm hZ) (K.ko A) w via eT F (g := mkF κ.m pc Ls (.ref a :: st)) rfl rfl (hb K.kb hd)
  obtain ⟨s₂, o, hs, r⟩ := hr T' locs vm0 X' A hZ N B e'
  exact ⟨s₂, o, st1 _ hs, r⟩
theorem getstatic {R0 O n d host : String} {index : Nat} {v : Value} (K : Ok κ l Z n0 own nm bytes maxL ret rm Q) (hd : decode bytes pc = .ok (.getstatic index, 3))
    (w : (Cond.fieldLink own index R0 n d).before a0 Z = true ∨ (Cond.fieldLinkNest own index R0 n d host).before a0 Z = true) (via : Via Z R0 O n d) (F : Sta Z h O n d v) (hr : Go κ h cells slots (pc + 3) Ls (v :: st)) : Go κ h cells slots pc Ls st := fun T locs vm0 X A hZ N B eT => by
  obtain ⟨T', X', e', st1⟩ := getS2 X K.exec (K.warm hZ) (K.ko A) w via eT F (g := mkF κ.m pc Ls st) rfl (hb K.kb hd)
  obtain ⟨s₂, o, hs, r⟩ := hr T' locs vm0 X' A hZ N B e'
  exact ⟨s₂, o, st1 _ hs, r⟩
theorem putfield {R0 O n d host C : String} {index kk : Nat} {ty : FieldType} {a : Addr} {v old : Value} (K : Ok κ l Z n0 own nm bytes maxL ret rm Q) (hd : decode bytes pc = .ok (.putfield index, 3))
    (w : (Cond.fieldLink own index R0 n d).before a0 Z = true ∨ (Cond.fieldLinkNest own index R0 n d host).before a0 Z = true) (via : Via Z R0 O n d) (F : Fld Z h a O n d old) (E : Exa Z h a C) (L : (Cond.lays C O n d).before a0 Z = true ∨ ((Cond.laysFinal C O n d).before a0 Z = true ∧ own = O ∧ nm = "<init>")) (wi : (Cond.instantiable C kk).before a0 Z = true)
    (hty : parseFieldDescriptor d = some ty) (hn : narrow ty v = v) (hf : fits ty v = true) (ge : n0 ≤ a) (hr : ∀ h', Wr h h' a (Jvm.RoadKit.slotOf Z O n d) v → Go κ h' cells slots (pc + 3) Ls st) : Go κ h cells slots pc Ls (v :: .ref a :: st) := fun T locs vm0 X A hZ N B eT => by
  obtain ⟨T', h', X', e', W, st1⟩ := putF X K.exec (K.warm hZ) (K.ko A) w via eT F E (L.imp id fun q => ⟨q.1, q.2.1, K.name.trans q.2.2⟩) wi hty hn hf (g := mkF κ.m pc Ls (v :: .ref a :: st)) rfl rfl (hb K.kb hd)
  obtain ⟨s₂, o, hs, r⟩ := hr h' W T' _ vm0 X' (A.mono (Nat.le_of_eq W.size.symm)) hZ (Fr.snoc X' N (by rw [K.en]; exact ge)) (B.wr W (by rw [K.en]; exact ge)) e'
  exact ⟨s₂, o, st1 _ hs, r⟩
theorem newObj {C : String} {index n : Nat} (K : Ok κ l Z n0 own nm bytes maxL ret rm Q) (hd : decode bytes pc = .ok (.new index, 3)) (w : (Cond.classLink own index C).before a0 Z = true) (wi : (Cond.instantiable C n).before a0 Z = true) (wz : (Cond.initialized C).before a0 Z = true)
    (hc : cells + 1 ≤ rm.cells) (hl : slots + n ≤ rm.slots)
    (hr : ∀ h' a, a = h.size → n0 ≤ a → Ext h h' → Exa Z h' a C → (∀ {O nm d : String} {ty : FieldType}, Laid Z a0 C O nm d → parseFieldDescriptor d = some ty → Fld Z h' a O nm d (defaultValue ty)) → Unt h' a → Go κ h' (cells + 1) (slots + n) (pc + 3) Ls (.ref a :: st)) : Go κ h cells slots pc Ls st := fun T locs vm0 X A hZ N B eT => by
  obtain ⟨T', h', X', e', E, EX, D, U, st1⟩ := newO X K.exec (K.warm hZ) (K.ko A) w wi wz eT (g := mkF κ.m pc Ls st) rfl (hb K.kb hd) (by rw [K.eR]; exact hc) (by rw [K.eR]; exact hl)
  obtain ⟨s₂, o, hs, r⟩ := hr h' h.size rfl (low_of (K.old B)) E EX D U T' _ vm0 X' (A.mono E.1) hZ N (B.ext E) e'
  exact ⟨s₂, o, st1 _ hs, r⟩
theorem newArr {aty : ArrayType} {n : Int32} {cap : Nat} {ad : String} (K : Ok κ l Z n0 own nm bytes maxL ret rm Q) (hd : decode bytes pc = .ok (.newarray aty, 2)) (w : (Cond.arrayClass (newarray.typeOf aty)).before a0 Z = true) (hn : ¬ n < 0) (hcap : n.toNatClampNeg ≤ cap) (hb8 : cap * 8 ≤ 536870912) (had : "[" ++ (newarray.typeOf aty).toString = ad)
    (hc : cells + 1 ≤ rm.cells) (hl : slots + cap ≤ rm.slots)
    (hr : ∀ h' a cA, a = h.size → n0 ≤ a → Ext h h' → Arr Z h' a (newA cA (newarray.typeOf aty) n) (newarray.typeOf aty) → Exa Z h' a ad → Go κ h' (cells + 1) (slots + cap) (pc + 2) Ls (.ref a :: st)) : Go κ h cells slots pc Ls (.int n :: st) := fun T locs vm0 X A hZ N B eT => by
  obtain ⟨T', h', cA, X', e', E, AR, EX, st1⟩ := newPE X K.exec (K.warm hZ) w eT (g := mkF κ.m pc Ls (.int n :: st)) rfl (hb K.kb hd) rfl hn hcap hb8 (by rw [K.eR]; exact hc) (by rw [K.eR]; exact hl) had
  obtain ⟨s₂, o, hs, r⟩ := hr h' h.size cA rfl (low_of (K.old B)) E AR EX T' _ vm0 X' (A.mono E.1) hZ N (B.ext E) e'
  exact ⟨s₂, o, st1 _ hs, r⟩
theorem anewArr {C : String} {index : Nat} {n : Int32} {cap : Nat} (K : Ok κ l Z n0 own nm bytes maxL ret rm Q) (hd : decode bytes pc = .ok (.anewarray index, 3)) (w1 : (Cond.classLink own index C).before a0 Z = true) (w2 : (Cond.arrayOver (.object C)).before a0 Z = true) (hn : ¬ n < 0) (hcap : n.toNatClampNeg ≤ cap) (hb8 : cap * 8 ≤ 536870912)
    (hc : cells + 1 ≤ rm.cells) (hl : slots + cap ≤ rm.slots)
    (hr : ∀ h' a cA, a = h.size → n0 ≤ a → Ext h h' → Arr Z h' a (newA cA (.object C) n) (.object C) → Ovr Z cA C → Go κ h' (cells + 1) (slots + cap) (pc + 3) Ls (.ref a :: st)) : Go κ h cells slots pc Ls (.int n :: st) := fun T locs vm0 X A hZ N B eT => by
  obtain ⟨T', h', cA, X', e', E, AR, OV, st1⟩ := newR X K.exec (K.warm hZ) (K.ko A) w1 w2 eT (g := mkF κ.m pc Ls (.int n :: st)) rfl (hb K.kb hd) rfl hn hcap hb8 (by rw [K.eR]; exact hc) (by rw [K.eR]; exact hl)
  obtain ⟨s₂, o, hs, r⟩ := hr h' h.size cA rfl (low_of (K.old B)) E AR OV T' _ vm0 X' (A.mono E.1) hZ N (B.ext E) e'
  exact ⟨s₂, o, st1 _ hs, r⟩
theorem arrLen {ty : FieldType} {a : Addr} {cl : Cell} {z : Int32} (K : Ok κ l Z n0 own nm bytes maxL ret rm Q) (hd : decode bytes pc = .ok (.arraylength, 1)) (A1 : Arr Z h a cl ty) (hz : cl.slots.size.toInt32 = z) (hr : Go κ h cells slots (pc + 1) Ls (.int z :: st)) : Go κ h cells slots pc Ls (.ref a :: st) := fun T locs vm0 X A hZ N B eT => by
  obtain ⟨s₂, o, hs, r⟩ := hr T locs vm0 X A hZ N B eT
  exact ⟨s₂, o, X.arraylength K.exec (by rw [eT]; exact A1.1) (State.isArrayOf_alike (K.warm hZ).alike A1.2.1) (g := mkF κ.m pc Ls (.ref a :: st)) rfl rfl (hb K.kb hd) _ (by rw [hz]; exact hs), r⟩
theorem iaload {a : Addr} {cl : Cell} {j : Int32} {v : Value} (K : Ok κ l Z n0 own nm bytes maxL ret rm Q) (hd : decode bytes pc = .ok (.iaload, 1)) (A1 : Arr Z h a cl .int) (hin : ¬ (j < 0 ∨ cl.slots.size ≤ j.toNatClampNeg)) (hv : cl.slots[j.toNatClampNeg]? = some v)
    (hr : Go κ h cells slots (pc + 1) Ls (v :: st)) : Go κ h cells slots pc Ls (.int j :: .ref a :: st) := fun T locs vm0 X A hZ N B eT => by
  obtain ⟨s₂, o, hs, r⟩ := hr T locs vm0 X A hZ N B eT
  exact ⟨s₂, o, X.iaload K.exec (by rw [eT]; exact A1.1) (State.isArrayOf_alike (K.warm hZ).alike A1.2.1) A1.2.2 hin hv (g := mkF κ.m pc Ls (.int j :: .ref a :: st)) rfl rfl (hb K.kb hd) _ hs, r⟩
theorem laload {a : Addr} {cl : Cell} {j : Int32} {v : Value} (K : Ok κ l Z n0 own nm bytes maxL ret rm Q) (hd : decode bytes pc = .ok (.laload, 1)) (A1 : Arr Z h a cl .long) (hin : ¬ (j < 0 ∨ cl.slots.size ≤ j.toNatClampNeg)) (hv : cl.slots[j.toNatClampNeg]? = some v)
    (hr : Go κ h cells slots (pc + 1) Ls (v :: st)) : Go κ h cells slots pc Ls (.int j :: .ref a :: st) := fun T locs vm0 X A hZ N B eT => by
  obtain ⟨s₂, o, hs, r⟩ := hr T locs vm0 X A hZ N B eT
  exact ⟨s₂, o, X.laload K.exec (by rw [eT]; exact A1.1) (State.isArrayOf_alike (K.warm hZ).alike A1.2.1) A1.2.2 hin hv (g := mkF κ.m pc Ls (.int j :: .ref a :: st)) rfl rfl (hb K.kb hd) _ hs, r⟩
theorem caload {a : Addr} {cl : Cell} {j : Int32} {v : Value} (K : Ok κ l Z n0 own nm bytes maxL ret rm Q) (hd : decode bytes pc = .ok (.caload, 1)) (A1 : Arr Z h a cl .char) (hin : ¬ (j < 0 ∨ cl.slots.size ≤ j.toNatClampNeg)) (hv : cl.slots[j.toNatClampNeg]? = some v)
    (hr : Go κ h cells slots (pc + 1) Ls (v :: st)) : Go κ h cells slots pc Ls (.int j :: .ref a :: st) := fun T locs vm0 X A hZ N B eT => by
  obtain ⟨s₂, o, hs, r⟩ := hr T locs vm0 X A hZ N B eT
  exact ⟨s₂, o, X.caload K.exec (by rw [eT]; exact A1.1) (State.isArrayOf_alike (K.warm hZ).alike A1.2.1) A1.2.2 hin hv (g := mkF κ.m pc Ls (.int j :: .ref a :: st)) rfl rfl (hb K.kb hd) _ hs, r⟩
theorem baload {a : Addr} {cl : Cell} {j : Int32} {v : Value} (K : Ok κ l Z n0 own nm bytes maxL ret rm Q) (hd : decode bytes pc = .ok (.baload, 1)) (A1 : Arr Z h a cl .byte) (hin : ¬ (j < 0 ∨ cl.slots.size ≤ j.toNatClampNeg)) (hv : cl.slots[j.toNatClampNeg]? = some v)
    (hr : Go κ h cells slots (pc + 1) Ls (v :: st)) : Go κ h cells slots pc Ls (.int j :: .ref a :: st) := fun T locs vm0 X A hZ N B eT => by
  obtain ⟨s₂, o, hs, r⟩ := hr T locs vm0 X A hZ N B eT
  exact ⟨s₂, o, X.baloadBytes K.exec (by rw [eT]; exact A1.1) (State.isArrayOf_alike (K.warm hZ).alike A1.2.1) A1.2.2 hin hv (g := mkF κ.m pc Ls (.int j :: .ref a :: st)) rfl rfl (hb K.kb hd) _ hs, r⟩
theorem iastore {a : Addr} {cl : Cell} {j : Int32} {x : Int32} (K : Ok κ l Z n0 own nm bytes maxL ret rm Q) (hd : decode bytes pc = .ok (.iastore, 1)) (A1 : Arr Z h a cl .int) (hj : ¬ (j < 0 ∨ cl.slots.size ≤ j.toNatClampNeg)) (ge : n0 ≤ a)
    (hr : ∀ h', Wr h h' a j.toNatClampNeg (.int x) → Go κ h' cells slots (pc + 1) Ls st) : Go κ h cells slots pc Ls (.int x :: .int j :: .ref a :: st) := fun T locs vm0 X A hZ N B eT => by
  obtain ⟨T', h', X', e', W, st1⟩ := stI X K.exec (K.warm hZ) eT A1 hj (g := mkF κ.m pc Ls (.int x :: .int j :: .ref a :: st)) rfl rfl (hb K.kb hd)
  obtain ⟨s₂, o, hs, r⟩ := hr h' W T' _ vm0 X' (A.mono (Nat.le_of_eq W.size.symm)) hZ (Fr.snoc X' N (by rw [K.en]; exact ge)) (B.wr W (by rw [K.en]; exact ge)) e'
  exact ⟨s₂, o, st1 _ hs, r⟩
theorem lastore {a : Addr} {cl : Cell} {j : Int32} {x : Int64} (K : Ok κ l Z n0 own nm bytes maxL ret rm Q) (hd : decode bytes pc = .ok (.lastore, 1)) (A1 : Arr Z h a cl .long) (hj : ¬ (j < 0 ∨ cl.slots.size ≤ j.toNatClampNeg)) (ge : n0 ≤ a)
    (hr : ∀ h', Wr h h' a j.toNatClampNeg (.long x) → Go κ h' cells slots (pc + 1) Ls st) : Go κ h cells slots pc Ls (.long x :: .int j :: .ref a :: st) := fun T locs vm0 X A hZ N B eT => by
  obtain ⟨T', h', X', e', W, st1⟩ := stJ X K.exec (K.warm hZ) eT A1 hj (g := mkF κ.m pc Ls (.long x :: .int j :: .ref a :: st)) rfl rfl (hb K.kb hd)
  obtain ⟨s₂, o, hs, r⟩ := hr h' W T' _ vm0 X' (A.mono (Nat.le_of_eq W.size.symm)) hZ (Fr.snoc X' N (by rw [K.en]; exact ge)) (B.wr W (by rw [K.en]; exact ge)) e'
  exact ⟨s₂, o, st1 _ hs, r⟩
theorem castore {a : Addr} {cl : Cell} {j : Int32} {x : Int32} (K : Ok κ l Z n0 own nm bytes maxL ret rm Q) (hd : decode bytes pc = .ok (.castore, 1)) (A1 : Arr Z h a cl .char) (hj : ¬ (j < 0 ∨ cl.slots.size ≤ j.toNatClampNeg)) (ge : n0 ≤ a)
    (hr : ∀ h', Wr h h' a j.toNatClampNeg (.int (nar .char x)) → Go κ h' cells slots (pc + 1) Ls st) : Go κ h cells slots pc Ls (.int x :: .int j :: .ref a :: st) := fun T locs vm0 X A hZ N B eT => by
  obtain ⟨T', h', X', e', W, st1⟩ := stC X K.exec (K.warm hZ) eT A1 hj (g := mkF κ.m pc Ls (.int x :: .int j :: .ref a :: st)) rfl rfl (hb K.kb hd)
  obtain ⟨s₂, o, hs, r⟩ := hr h' W T' _ vm0 X' (A.mono (Nat.le_of_eq W.size.symm)) hZ (Fr.snoc X' N (by rw [K.en]; exact ge)) (B.wr W (by rw [K.en]; exact ge)) e'
  exact ⟨s₂, o, st1 _ hs, r⟩
theorem bastore {a : Addr} {cl : Cell} {j : Int32} {x : Int32} (K : Ok κ l Z n0 own nm bytes maxL ret rm Q) (hd : decode bytes pc = .ok (.bastore, 1)) (A1 : Arr Z h a cl .byte) (hj : ¬ (j < 0 ∨ cl.slots.size ≤ j.toNatClampNeg)) (ge : n0 ≤ a)
    (hr : ∀ h', Wr h h' a j.toNatClampNeg (.int x.toInt8.toInt32) → Go κ h' cells slots (pc + 1) Ls st) : Go κ h cells slots pc Ls (.int x :: .int j :: .ref a :: st) := fun T locs vm0 X A hZ N B eT => by
  obtain ⟨T', h', X', e', W, st1⟩ := stB X K.exec (K.warm hZ) eT A1 hj (g := mkF κ.m pc Ls (.int x :: .int j :: .ref a :: st)) rfl rfl (hb K.kb hd)
  obtain ⟨s₂, o, hs, r⟩ := hr h' W T' _ vm0 X' (A.mono (Nat.le_of_eq W.size.symm)) hZ (Fr.snoc X' N (by rw [K.en]; exact ge)) (B.wr W (by rw [K.en]; exact ge)) e'
  exact ⟨s₂, o, st1 _ hs, r⟩
theorem aaload {ty : FieldType} {a : Addr} {cl : Cell} {j : Int32} {v : Value} (K : Ok κ l Z n0 own nm bytes maxL ret rm Q) (hd : decode bytes pc = .ok (.aaload, 1)) (A1 : Arr Z h a cl ty) (hty : ty.isReference = true) (hin : ¬ (j < 0 ∨ cl.slots.size ≤ j.toNatClampNeg)) (hv : cl.slots[j.toNatClampNeg]? = some v)
    (hr : Go κ h cells slots (pc + 1) Ls (v :: st)) : Go κ h cells slots pc Ls (.int j :: .ref a :: st) := fun T locs vm0 X A hZ N B eT => by
  obtain ⟨s₂, o, hs, r⟩ := hr T locs vm0 X A hZ N B eT
  exact ⟨s₂, o, X.aaload K.exec (by rw [eT]; exact A1.1) (State.isArrayOf_alike (K.warm hZ).alike A1.2.1) hty A1.2.2 hin hv (g := mkF κ.m pc Ls (.int j :: .ref a :: st)) rfl rfl (hb K.kb hd) _ hs, r⟩
theorem aastore {ty : FieldType} {a : Addr} {cl : Cell} {j : Int32} {v : Value} (K : Ok κ l Z n0 own nm bytes maxL ret rm Q) (hd : decode bytes pc = .ok (.aastore, 1)) (A1 : Arr Z h a cl ty) (hj : ¬ (j < 0 ∨ cl.slots.size ≤ j.toNatClampNeg)) (hty : ty.isReference = true) (F : Sto Z h a v) (ge : n0 ≤ a)
    (hr : ∀ h', Wr h h' a j.toNatClampNeg v → Go κ h' cells slots (pc + 1) Ls st) : Go κ h cells slots pc Ls (v :: .int j :: .ref a :: st) := fun T locs vm0 X A hZ N B eT => by
  obtain ⟨T', h', X', e', W, st1⟩ := stR X K.exec (K.warm hZ) eT A1 hj hty F (g := mkF κ.m pc Ls (v :: .int j :: .ref a :: st)) rfl rfl (hb K.kb hd)
  obtain ⟨s₂, o, hs, r⟩ := hr h' W T' _ vm0 X' (A.mono (Nat.le_of_eq W.size.symm)) hZ (Fr.snoc X' N (by rw [K.en]; exact ge)) (B.wr W (by rw [K.en]; exact ge)) e'
  exact ⟨s₂, o, st1 _ hs, r⟩
theorem castOk {C : String} {index : Nat} {a : Addr} (K : Ok κ l Z n0 own nm bytes maxL ret rm Q) (hd : decode bytes pc = .ok (.checkcast index, 3)) (w : (Cond.classLink own index C).before a0 Z = true) (F : Ins Z h a C true) (hr : Go κ h cells slots (pc + 3) Ls (.ref a :: st)) : Go κ h cells slots pc Ls (.ref a :: st) := fun T locs vm0 X A hZ N B eT => by
  obtain ⟨T', X', e', st1⟩ := castY X K.exec (K.warm hZ) (K.ko A) w eT F (g := mkF κ.m pc Ls (.ref a :: st)) rfl rfl (hb K.kb hd)
  obtain ⟨s₂, o, hs, r⟩ := hr T' locs vm0 X' A hZ N B e'
  exact ⟨s₂, o, st1 _ hs, r⟩
theorem instYes {C : String} {index : Nat} {a : Addr} (K : Ok κ l Z n0 own nm bytes maxL ret rm Q) (hd : decode bytes pc = .ok (.instanceof index, 3)) (w : (Cond.classLink own index C).before a0 Z = true) (F : Ins Z h a C true) (hr : Go κ h cells slots (pc + 3) Ls (.int 1 :: st)) : Go κ h cells slots pc Ls (.ref a :: st) := fun T locs vm0 X A hZ N B eT => by
  obtain ⟨T', X', e', st1⟩ := instY X K.exec (K.warm hZ) (K.ko A) w eT F (g := mkF κ.m pc Ls (.ref a :: st)) rfl rfl (hb K.kb hd)
  obtain ⟨s₂, o, hs, r⟩ := hr T' locs vm0 X' A hZ N B e'
  exact ⟨s₂, o, st1 _ hs, r⟩
theorem instNot {C C' : String} {index : Nat} {a : Addr} (K : Ok κ l Z n0 own nm bytes maxL ret rm Q) (hd : decode bytes pc = .ok (.instanceof index, 3)) (w : (Cond.classLink own index C).before a0 Z = true) (E : Exa Z h a C') (F : ∃ c t, Z.vm.findClass C' = some c ∧ Z.vm.findClass C = some t ∧ Z.vm.assignable c t = false)
    (hr : Go κ h cells slots (pc + 3) Ls (.int 0 :: st)) : Go κ h cells slots pc Ls (.ref a :: st) := fun T locs vm0 X A hZ N B eT => by
  obtain ⟨T', X', e', st1⟩ := instNo X K.exec (K.warm hZ) (K.ko A) w eT E F (g := mkF κ.m pc Ls (.ref a :: st)) rfl rfl (hb K.kb hd)
  obtain ⟨s₂, o, hs, r⟩ := hr T' locs vm0 X' A hZ N B e'
  exact ⟨s₂, o, st1 _ hs, r⟩
theorem getfieldZ {R0 O n d host : String} {index : Nat} {a : Addr} {v : Value} (K : Ok κ l Z n0 own nm bytes maxL ret rm Q) (hd : decode bytes pc = .ok (.getfield index, 3))
    (w : (Cond.fieldLink own index R0 n d).before a0 Z = true ∨ (Cond.fieldLinkNest own index R0 n d host).before a0 Z = true) (via : Via Z R0 O n d) (F : Fld Z Z.heap a O n d v) (hr : Go κ h cells slots (pc + 3) Ls (v :: st)) : Go κ h cells slots pc Ls (.ref a :: st) :=
  old K fun B => getfield K hd w via (F.ext B.2) hr
theorem getstaticZ {R0 O n d host : String} {index : Nat} {v : Value} (K : Ok κ l Z n0 own nm bytes maxL ret rm Q) (hd : decode bytes pc = .ok (.getstatic index, 3))
    (w : (Cond.fieldLink own index R0 n d).before a0 Z = true ∨ (Cond.fieldLinkNest own index R0 n d host).before a0 Z = true) (via : Via Z R0 O n d) (F : Sta Z Z.heap O n d v) (hr : Go κ h cells slots (pc + 3) Ls (v :: st)) : Go κ h cells slots pc Ls st :=
  old K fun B => getstatic K hd w via (F.ext B.2) hr
/-! ## calls -/
section Calls
variable {y z : MethodName} {bytes' : ByteArray} {maxL' W index : Nat} {ret' : Option FieldType} {rm' : Room} {Q' : Option Value → Heap → Prop} {argsL rest : List Value} {as' : Array Value}
theorem Con.narrow (C : Con false l Z n0 y bytes' maxL' ret' rm' as' h Q') (g : Old Z n0 h) : MetFree l y (head1 [Cond.code y bytes' maxL' ret'] rm') (fun a U => a = as' ∧ Z.Warmed39 U.vm ∧ U.heap = h) (fun _ _ _ _ _ => True)
    (fun _ U o U' => ∃ v L, o = .returned v ∧ (Q' v U'.heap ∧ Fr n0 L ∧ h.size ≤ U'.heap.size ∧ Old Z n0 U'.heap) ∧ FrameEnd U o U' L rm'.cells rm'.slots) := fun p e ha hc hk s m args below hf happ hP hK => by
  obtain ⟨n, o, a1, a2, a3, v, L, e1, ⟨q1, q2, q3⟩, E⟩ := C g [] p e ha hc hk s m args below hf happ hP hK
  exact ⟨n, o, a1, a2, a3, v, L, e1, ⟨q1, q2, hP.2.2 ▸ q3.1, q3.2⟩, E.1 rfl⟩
theorem Con.mono {wide : Bool} {Q2 : Option Value → Heap → Prop} (C : Con wide l Z n0 y bytes' maxL' ret' rm' as' h Q') (hq : ∀ v h', Q' v h' → Q2 v h') : Con wide l Z n0 y bytes' maxL' ret' rm' as' h Q2 := fun g ws p e ha hc hk s m args below hf happ hP hK => by
  obtain ⟨n, o, a1, a2, a3, v, L, e1, ⟨q1, q2, q3⟩, E⟩ := C g ws p e ha hc hk s m args below hf happ hP hK
  exact ⟨n, o, a1, a2, a3, v, L, e1, ⟨hq _ _ q1, q2, q3⟩, E⟩
theorem finish (K : Ok κ l Z n0 own nm bytes maxL ret rm Q) {T U0 : State} {locs : List Loc} {vm0 : Vm} {pc' : Nat} (A : κ.adm vm0 h.size) (hZ : κ.Z.Warmed39 vm0) (N : Fr κ.n0 locs)
    (hr : ∀ v h', Q' v h' → h.size ≤ h'.size → Go κ h' (cells + rm'.cells) (slots + rm'.slots) pc' Ls (v.toList ++ rest)) {v : Option Value} {B : Pt} (X' : Stand κ.p κ.l κ.e κ.R (κ.s.setVm vm0) κ.m κ.args κ.below κ.meth κ.c B.U B.locs B.cells B.slots)
    (P : ∃ L, (Q' v B.U.heap ∧ Fr n0 L ∧ h.size ≤ B.U.heap.size ∧ Old Z n0 B.U.heap) ∧ B.locs = locs ++ L ∧ B.cells = cells + rm'.cells ∧ B.slots = slots + rm'.slots) (st1 : ∀ target, Steps κ.p.tables κ.e κ.below (B.U.setTop (mkF κ.m pc' Ls (v.toList ++ rest))) target → Steps κ.p.tables κ.e κ.below U0 target) :
    ∃ s₂ o, Steps κ.p.tables κ.e κ.below U0 s₂ ∧ s₂.status = .running ∧ Ended s₂ κ.below o ∧ ∃ v L, o = .returned v ∧ (κ.Q v s₂.heap ∧ Fr κ.n0 L ∧ κ.s.heap.size ≤ s₂.heap.size ∧ Old κ.Z κ.n0 s₂.heap) ∧ Ends κ.wide κ.s o s₂ L κ.R.cells κ.R.slots := by
  obtain ⟨L, ⟨q1, q2, q3, q4⟩, e1, e2, e3⟩ := P
  rw [e1, e2, e3] at X'
  obtain ⟨s₂, o, hs, r⟩ := hr v _ q1 q3 B.U _ vm0 X' (A.mono q3) hZ (N.app (by rw [K.en]; exact q2)) (K.oldS q4) rfl
  exact ⟨s₂, o, st1 _ hs, r⟩
theorem W0 {m : MethodId} {g : List Value} (hW : (rest.map fun v => v.category).sum ≤ W) : 2 * (mkF m pc Ls g).monitorRoom + (rest.map fun v => v.category).sum ≤ W := by
  show 2 * 0 + _ ≤ _; omega
theorem invS (K : Ok κ l Z n0 own nm bytes maxL ret rm Q) (C : Con false l Z n0 y bytes' maxL' ret' rm' argsL.toArray h Q') (hd : decode bytes pc = .ok (.invokestatic index, 3))
    (w1 : (Cond.methodLink own index y).before a0 Z = true) (w2 : (Cond.static y).before a0 Z = true) (w3 : (Cond.initialized y.cls).before a0 Z = true) (w4 : (Cond.code y bytes' maxL' ret').before a0 Z = true) (hy : y.cls ≠ "java/lang/invoke/MethodHandle" ∧ y.cls ≠ "java/lang/invoke/VarHandle")
    (hlen : ∀ sig, parseMethodDescriptor y.desc = some sig → argsL.length = sig.parameters.length) (hst : st = argsL.reverse ++ rest) (hsz : Ls.size = maxL) (hW : (rest.map fun v => v.category).sum ≤ W) (hf : rm'.frames + 1 ≤ rm.frames) (hl : W + (maxL' + 11) + rm'.locals ≤ rm.locals) (hc : cells + rm'.cells ≤ rm.cells) (hs : slots + rm'.slots ≤ rm.slots)
    (hr : ∀ v h', Q' v h' → h.size ≤ h'.size → Go κ h' (cells + rm'.cells) (slots + rm'.slots) (pc + 3) Ls (v.toList ++ rest)) : Go κ h cells slots pc Ls st := fun T locs vm0 X A hZ N OB eT => by
  have hZ' := K.warm hZ
  have eR := K.eR
  obtain ⟨v, vm₁, B, -, X', P, st1⟩ := Jvm.LawKit.callS X K.exec (K.ko A) (mvT hZ' w1) (mvT hZ' w2) (mvT hZ' w3) (mvT hZ' w4) hy (backOf (W := W) (R := κ.R) (rm := rm') (Q := fun v h' L => Q' v h' ∧ Fr n0 L ∧ h.size ≤ h'.size ∧ Old Z n0 h') (by rw [K.el]; exact C.narrow (K.old OB)) hZ' w4 w3 (by rw [eR]; exact hf) (by rw [eR]; exact hl)) (g := mkF κ.m pc Ls st) rfl (by rw [K.kl]; exact hsz) hlen hst (W0 hW) (hb K.kb hd)
    (fun _ _ => ⟨rfl, eT, by rw [eR]; exact hc, by rw [eR]; exact hs⟩)
  exact finish K (T := T) A hZ N hr X' P st1
theorem invV {CC : String} {b : Addr} (K : Ok κ l Z n0 own nm bytes maxL ret rm Q) (C : Con false l Z n0 z bytes' maxL' ret' rm' (.ref b :: argsL).toArray h Q') (hd : decode bytes pc = .ok (.invokevirtual index, 3)) (E : Exa Z h b CC)
    (w1 : (Cond.methodLink own index y).before a0 Z = true) (w2 : (Cond.declares y).before a0 Z = true) (hnf : ∀ s : State, Z.Warmed39 s.vm → NotFace s y) (w3 : (Cond.selects CC y z).before a0 Z = true) (w4 : (Cond.instanceMethod z).before a0 Z = true) (w5 : (Cond.code z bytes' maxL' ret').before a0 Z = true) (w6 : (Cond.initialized z.cls).before a0 Z = true)
    (hy : y.cls ≠ "java/lang/invoke/MethodHandle" ∧ y.cls ≠ "java/lang/invoke/VarHandle")
    (hlen : ∀ sig, parseMethodDescriptor y.desc = some sig → argsL.length = sig.parameters.length) (hst : st = argsL.reverse ++ .ref b :: rest) (hsz : Ls.size = maxL) (hW : (rest.map fun v => v.category).sum ≤ W) (hf : rm'.frames + 1 ≤ rm.frames) (hl : W + (maxL' + 11) + rm'.locals ≤ rm.locals) (hc : cells + rm'.cells ≤ rm.cells) (hs : slots + rm'.slots ≤ rm.slots)
    (hr : ∀ v h', Q' v h' → h.size ≤ h'.size → Go κ h' (cells + rm'.cells) (slots + rm'.slots) (pc + 3) Ls (v.toList ++ rest)) : Go κ h cells slots pc Ls st := fun T locs vm0 X A hZ N OB eT => by
  have hZ' := K.warm hZ
  have eR := K.eR
  obtain ⟨cB, kB, q1, -, q3⟩ := isOf hZ' eT E
  obtain ⟨v, vm₁, B, -, X', P, st1⟩ := X.virtualBack K.exec (y := y) (z := z) (K.ko A) (mvT hZ' w1) (mvT hZ' w2) (hnf _ hZ') (mvT hZ' w3) (mvT hZ' w4) hy (backOf (W := W) (R := κ.R) (rm := rm') (Q := fun v h' L => Q' v h' ∧ Fr n0 L ∧ h.size ≤ h'.size ∧ Old Z n0 h') (by rw [K.el]; exact C.narrow (K.old OB)) hZ' w5 w6 (by rw [eR]; exact hf) (by rw [eR]; exact hl)) q1 q3 (g := mkF κ.m pc Ls st) rfl (by rw [K.kl]; exact hsz) (Steps.refl _) hlen hst (W0 hW) (hb K.kb hd)
    (fun _ _ => ⟨rfl, eT, by rw [eR]; exact hc, by rw [eR]; exact hs⟩)
  exact finish K (T := T) A hZ N hr X' P (fun _ k => st1.trans k)
theorem nfS {CC : String} (w : (Cond.selects CC y y).before a0 Z = true) : ∀ s : State, Z.Warmed39 s.vm → NotFace s y := fun s hZ => notFace_of_selects (args := #[]) (mvT hZ w)
theorem nfU {S : String} (w : (Cond.superclass y.cls S).before a0 Z = true) : ∀ s : State, Z.Warmed39 s.vm → NotFace s y := fun s hZ => nf_super (args := #[]) (mvT hZ w)
theorem invVU {CC owner : String} {b : Addr} (K : Ok κ l Z n0 own nm bytes maxL ret rm Q) (C : Con false l Z n0 z bytes' maxL' ret' rm' (.ref b :: argsL).toArray h Q') (hd : decode bytes pc = .ok (.invokevirtual index, 3)) (E : Exa Z h b CC)
    (w1 : (Cond.methodLink own index y).before a0 Z = true) (w2 : (Cond.sameMethod y.cls owner y.name y.desc).before a0 Z = true) (w2' : (Cond.declares ⟨owner, y.name, y.desc⟩).before a0 Z = true) (hy : owner ≠ "java/lang/invoke/MethodHandle" ∧ owner ≠ "java/lang/invoke/VarHandle")
    (w3 : (Cond.selects CC y z).before a0 Z = true) (w4 : (Cond.instanceMethod z).before a0 Z = true) (w5 : (Cond.code z bytes' maxL' ret').before a0 Z = true) (w6 : (Cond.initialized z.cls).before a0 Z = true)
    (hlen : ∀ sig, parseMethodDescriptor y.desc = some sig → argsL.length = sig.parameters.length) (hst : st = argsL.reverse ++ .ref b :: rest) (hsz : Ls.size = maxL) (hW : (rest.map fun v => v.category).sum ≤ W) (hf : rm'.frames + 1 ≤ rm.frames) (hl : W + (maxL' + 11) + rm'.locals ≤ rm.locals) (hc : cells + rm'.cells ≤ rm.cells) (hs : slots + rm'.slots ≤ rm.slots)
    (hr : ∀ v h', Q' v h' → h.size ≤ h'.size → Go κ h' (cells + rm'.cells) (slots + rm'.slots) (pc + 3) Ls (v.toList ++ rest)) : Go κ h cells slots pc Ls st := fun T locs vm0 X A hZ N OB eT => by
  have hZ' := K.warm hZ
  have eR := K.eR
  obtain ⟨cB, kB, q1, -, q3⟩ := isOf hZ' eT E
  obtain ⟨v, vm₁, B, -, X', P, st1⟩ := X.virtualBackUp K.exec (x := y) (y := z) (K.ko A) (mvT hZ' w1) (mvT hZ' w2) (mvT hZ' w2') hy (mvT hZ' w3) (mvT hZ' w4) (backOf (W := W) (R := κ.R) (rm := rm') (Q := fun v h' L => Q' v h' ∧ Fr n0 L ∧ h.size ≤ h'.size ∧ Old Z n0 h') (by rw [K.el]; exact C.narrow (K.old OB)) hZ' w5 w6 (by rw [eR]; exact hf) (by rw [eR]; exact hl)) q1 q3 (g := mkF κ.m pc Ls st) rfl (by rw [K.kl]; exact hsz) (Steps.refl _) hlen hst (W0 hW) (hb K.kb hd)
    (fun _ _ => ⟨rfl, eT, by rw [eR]; exact hc, by rw [eR]; exact hs⟩)
  exact finish K (T := T) A hZ N hr X' P (fun _ k => st1.trans k)
theorem invP {CC : String} {b : Addr} (K : Ok κ l Z n0 own nm bytes maxL ret rm Q) (C : Con false l Z n0 y bytes' maxL' ret' rm' (.ref b :: argsL).toArray h Q') (hd : decode bytes pc = .ok (.invokevirtual index, 3)) (E : Exa Z h b CC)
    (w1 : (Cond.methodLink own index y).before a0 Z = true) (w2 : (Cond.instanceMethod y).before a0 Z = true) (w3 : (Cond.selects y.cls y y).before a0 Z = true) (w4 : (Cond.privateMethod y).before a0 Z = true) (w5 : (Cond.code y bytes' maxL' ret').before a0 Z = true) (w6 : (Cond.initialized y.cls).before a0 Z = true)
    (hy : y.cls ≠ "java/lang/invoke/MethodHandle" ∧ y.cls ≠ "java/lang/invoke/VarHandle")
    (hlen : ∀ sig, parseMethodDescriptor y.desc = some sig → argsL.length = sig.parameters.length) (hst : st = argsL.reverse ++ .ref b :: rest) (hsz : Ls.size = maxL) (hW : (rest.map fun v => v.category).sum ≤ W) (hf : rm'.frames + 1 ≤ rm.frames) (hl : W + (maxL' + 11) + rm'.locals ≤ rm.locals) (hc : cells + rm'.cells ≤ rm.cells) (hs : slots + rm'.slots ≤ rm.slots)
    (hr : ∀ v h', Q' v h' → h.size ≤ h'.size → Go κ h' (cells + rm'.cells) (slots + rm'.slots) (pc + 3) Ls (v.toList ++ rest)) : Go κ h cells slots pc Ls st := fun T locs vm0 X A hZ N OB eT => by
  have hZ' := K.warm hZ
  have eR := K.eR
  obtain ⟨cell, hcell, hobj⟩ := E.cell
  obtain ⟨v, vm₁, B, -, X', P, st1⟩ := X.privateBack K.exec (y := y) (K.ko A) (mvT hZ' w1) (mvT hZ' w2) (mvT hZ' w3) (Cond.privateMethod_at (mvP (args := #[]) hZ' w4)) (mvT hZ' w5) hy (backOf (W := W) (R := κ.R) (rm := rm') (Q := fun v h' L => Q' v h' ∧ Fr n0 L ∧ h.size ≤ h'.size ∧ Old Z n0 h') (by rw [K.el]; exact C.narrow (K.old OB)) hZ' w5 w6 (by rw [eR]; exact hf) (by rw [eR]; exact hl)) (g := mkF κ.m pc Ls st) rfl (by rw [K.kl]; exact hsz) (Steps.refl _) (a := b) (cell := cell) (by rw [eT]; exact hcell) hobj hlen hst (W0 hW) (hb K.kb hd)
    (fun _ _ => ⟨rfl, eT, by rw [eR]; exact hc, by rw [eR]; exact hs⟩)
  exact finish K (T := T) A hZ N hr X' P (fun _ k => st1.trans k)
theorem invI {CC : String} {b : Addr} {count : Nat} (K : Ok κ l Z n0 own nm bytes maxL ret rm Q) (C : Con false l Z n0 z bytes' maxL' ret' rm' (.ref b :: argsL).toArray h Q') (hd : decode bytes pc = .ok (.invokeinterface index count, 5)) (E : Exa Z h b CC)
    (w1 : (Cond.methodLink own index y).before a0 Z = true) (w2 : (Cond.declares y).before a0 Z = true) (w2' : (Cond.interfaceMethod y.cls y.cls y.name y.desc).before a0 Z = true) (w3 : (Cond.selects CC y z).before a0 Z = true) (w4 : (Cond.instanceMethod z).before a0 Z = true) (w4' : (Cond.publicMethod z).before a0 Z = true) (w4'' : (Cond.unhidden CC y.name y.desc).before a0 Z = true) (w7 : (Cond.castable CC y.cls).before a0 Z = true)
    (w5 : (Cond.code z bytes' maxL' ret').before a0 Z = true) (w6 : (Cond.initialized z.cls).before a0 Z = true)
    (hy : y.cls ≠ "java/lang/invoke/MethodHandle" ∧ y.cls ≠ "java/lang/invoke/VarHandle")
    (hlen : ∀ sig, parseMethodDescriptor y.desc = some sig → argsL.length = sig.parameters.length) (hst : st = argsL.reverse ++ .ref b :: rest) (hsz : Ls.size = maxL) (hW : (rest.map fun v => v.category).sum ≤ W) (hf : rm'.frames + 1 ≤ rm.frames) (hl : W + (maxL' + 11) + rm'.locals ≤ rm.locals) (hc : cells + rm'.cells ≤ rm.cells) (hs : slots + rm'.slots ≤ rm.slots)
    (hr : ∀ v h', Q' v h' → h.size ≤ h'.size → Go κ h' (cells + rm'.cells) (slots + rm'.slots) (pc + 5) Ls (v.toList ++ rest)) : Go κ h cells slots pc Ls st := fun T locs vm0 X A hZ N OB eT => by
  have hZ' := K.warm hZ
  have eR := K.eR
  obtain ⟨cB, kB, q1, q2, q3⟩ := isOf hZ' eT E
  obtain ⟨v, vm₁, B, -, X', P, st1⟩ := X.interfaceBack K.exec (xi := y) (y := z) (K.ko A) (mvT hZ' w1) (mvT hZ' w2) (Jvm.Free.ULB.iface_rides hZ'.alike w2') (mvT hZ' w3) (mvT hZ' w4) (mvT hZ' w4') (mvT hZ' w4'') (mvT hZ' w7) hy (backOf (W := W) (R := κ.R) (rm := rm') (Q := fun v h' L => Q' v h' ∧ Fr n0 L ∧ h.size ≤ h'.size ∧ Old Z n0 h') (by rw [K.el]; exact C.narrow (K.old OB)) hZ' w5 w6 (by rw [eR]; exact hf) (by rw [eR]; exact hl)) q1 q2 q3 (g := mkF κ.m pc Ls st) rfl (by rw [K.kl]; exact hsz) (Steps.refl _) hlen hst (W0 hW) (hb K.kb hd)
    (fun _ _ => ⟨rfl, eT, by rw [eR]; exact hc, by rw [eR]; exact hs⟩)
  exact finish K (T := T) A hZ N hr X' P (fun _ k => st1.trans k)
theorem invC {b : Addr} (K : Ok κ l Z n0 own nm bytes maxL ret rm Q) (C : Con false l Z n0 y bytes' maxL' none rm' (.ref b :: argsL).toArray h Q') (hd : decode bytes pc = .ok (.invokespecial index, 3)) (hy1 : y.name = "<init>")
    (w1 : (Cond.methodLink own index y).before a0 Z = true) (w2 : (Cond.instanceMethod y).before a0 Z = true) (w5 : (Cond.code y bytes' maxL' none).before a0 Z = true) (w6 : (Cond.initialized y.cls).before a0 Z = true)
    (hy : y.cls ≠ "java/lang/invoke/MethodHandle" ∧ y.cls ≠ "java/lang/invoke/VarHandle")
    (hlen : ∀ sig, parseMethodDescriptor y.desc = some sig → argsL.length = sig.parameters.length) (hst : st = argsL.reverse ++ .ref b :: rest) (hsz : Ls.size = maxL) (hW : (rest.map fun v => v.category).sum ≤ W) (hf : rm'.frames + 1 ≤ rm.frames) (hl : W + (maxL' + 11) + rm'.locals ≤ rm.locals) (hc : cells + rm'.cells ≤ rm.cells) (hs : slots + rm'.slots ≤ rm.slots)
    (hr : ∀ v h', Q' v h' → h.size ≤ h'.size → Go κ h' (cells + rm'.cells) (slots + rm'.slots) (pc + 3) Ls (v.toList ++ rest)) : Go κ h cells slots pc Ls st := fun T locs vm0 X A hZ N OB eT => by
  have hZ' := K.warm hZ
  have eR := K.eR
  obtain ⟨v, vm₁, B, -, X', P, st1⟩ := X.specialBack K.exec (y := y) hy1 (K.ko A) (mvT hZ' w1) (mvT hZ' w2) (mvT hZ' w5) hy (backOf (W := W) (R := κ.R) (rm := rm') (Q := fun v h' L => Q' v h' ∧ Fr n0 L ∧ h.size ≤ h'.size ∧ Old Z n0 h') (by rw [K.el]; exact C.narrow (K.old OB)) hZ' w5 w6 (by rw [eR]; exact hf) (by rw [eR]; exact hl)) (g := mkF κ.m pc Ls st) rfl (by rw [K.kl]; exact hsz) (Steps.refl _) (a := b) hlen hst (W0 hW) (hb K.kb hd)
    (fun _ _ => ⟨rfl, eT, by rw [eR]; exact hc, by rw [eR]; exact hs⟩)
  exact finish K (T := T) A hZ N hr X' P (fun _ k => st1.trans k)
theorem mvMN {s : State} {args : Array Value} {own' host : String} {i : Nat} (hZ : Z.Warmed39 s.vm) (w : (Cond.methodLinkNest own' i y host).before a0 Z = true) : (Cond.methodLinkNest own' i y host).before args s = true := (Cond.methodLinkNest_wide hZ w :)
theorem invCN {host : String} {b : Addr} (K : Ok κ l Z n0 own nm bytes maxL ret rm Q) (C : Con false l Z n0 y bytes' maxL' none rm' (.ref b :: argsL).toArray h Q') (hd : decode bytes pc = .ok (.invokespecial index, 3)) (hy1 : y.name = "<init>")
    (w1 : (Cond.methodLinkNest own index y host).before a0 Z = true) (w2 : (Cond.instanceMethod y).before a0 Z = true) (w5 : (Cond.code y bytes' maxL' none).before a0 Z = true) (w6 : (Cond.initialized y.cls).before a0 Z = true)
    (hy : y.cls ≠ "java/lang/invoke/MethodHandle" ∧ y.cls ≠ "java/lang/invoke/VarHandle")
    (hlen : ∀ sig, parseMethodDescriptor y.desc = some sig → argsL.length = sig.parameters.length) (hst : st = argsL.reverse ++ .ref b :: rest) (hsz : Ls.size = maxL) (hW : (rest.map fun v => v.category).sum ≤ W) (hf : rm'.frames + 1 ≤ rm.frames) (hl : W + (maxL' + 11) + rm'.locals ≤ rm.locals) (hc : cells + rm'.cells ≤ rm.cells) (hs : slots + rm'.slots ≤ rm.slots)
    (hr : ∀ v h', Q' v h' → h.size ≤ h'.size → Go κ h' (cells + rm'.cells) (slots + rm'.slots) (pc + 3) Ls (v.toList ++ rest)) : Go κ h cells slots pc Ls st := fun T locs vm0 X A hZ N OB eT => by
  have hZ' := K.warm hZ
  have eR := K.eR
  obtain ⟨v, vm₁, B, -, X', P, st1⟩ := X.specialBackNest K.exec (y := y) hy1 (K.ko A) (mvMN hZ' w1) (mvT hZ' w2) (mvT hZ' w5) hy (backOf (W := W) (R := κ.R) (rm := rm') (Q := fun v h' L => Q' v h' ∧ Fr n0 L ∧ h.size ≤ h'.size ∧ Old Z n0 h') (by rw [K.el]; exact C.narrow (K.old OB)) hZ' w5 w6 (by rw [eR]; exact hf) (by rw [eR]; exact hl)) (g := mkF κ.m pc Ls st) rfl (by rw [K.kl]; exact hsz) (Steps.refl _) (a := b) hlen hst (W0 hW) (hb K.kb hd)
    (fun _ _ => ⟨rfl, eT, by rw [eR]; exact hc, by rw [eR]; exact hs⟩)
  exact finish K (T := T) A hZ N hr X' P (fun _ k => st1.trans k)
theorem invO {a : Addr} (K : Ok κ l Z n0 own nm bytes maxL ret rm Q) (hd : decode bytes pc = .ok (.invokespecial index, 3)) (w1 : (Cond.methodLink own index Lib.objectInit).before a0 Z = true) (w2 : (Cond.instanceMethod Lib.objectInit).before a0 Z = true) (w3 : (Cond.code Lib.objectInit ⟨#[0xb1]⟩ 1 none).before a0 Z = true)
    (hsz : Ls.size = maxL) (hf : 1 ≤ rm.frames) (hW : (st.map fun v => v.category).sum ≤ W) (hl : W + 12 ≤ rm.locals) (hr : Go κ h cells slots (pc + 3) Ls st) : Go κ h cells slots pc Ls (.ref a :: st) := fun T locs vm0 X A hZ N B eT => by
  obtain ⟨T', X', e', st1⟩ := initO X K.exec (K.warm hZ) (K.ko A) w1 w2 w3 eT (g := mkF κ.m pc Ls (.ref a :: st)) rfl (by rw [K.kl]; exact hsz) rfl (hb K.kb hd) (by rw [K.eR]; exact hf) (W := W) (W0 hW) (by rw [K.eR]; exact hl)
  obtain ⟨s₂, o, hs, r⟩ := hr T' locs vm0 X' A hZ N B e'
  exact ⟨s₂, o, st1 _ hs, r⟩
/-- a body's walk makes the contract -/
theorem Con.of {wide : Bool} (hpn : plainFor y = true)
    (H : ∀ κ : Cx, κ.wide = wide → Ok κ l Z n0 y.cls y.name bytes' maxL' ret' rm' Q' → Go κ h 0 0 0 (entryFrame κ.m as' maxL').locals []) (hfr : ∀ m : MethodId, entryFrame m as' maxL' = mkF m 0 (entryFrame m as' maxL').locals [] := by intro m; rfl) : Con wide l Z n0 y bytes' maxL' ret' rm' as' h Q' := by
  intro hn ws
  refine MetFree.of_bodySF hpn hisR ?_
  intro p e s m args below meth c s₁ Bd hml0 hP hK
  obtain ⟨rfl, hZ, hh⟩ := hP
  have X0 : Stand p l e rm' s m args below meth c s₁ [] 0 0 := Stand.of_body Bd
  have e0 : s₁.heap = h := by rw [← hh, Bd.state]; rfl
  let κ : Cx := ((p, l, e, rm', s, m, args, below, meth, c), (wide, Z, n0, Q'))
  have K : Ok κ l Z n0 y.cls y.name bytes' maxL' ret' rm' Q' := ⟨rfl, rfl, rfl, rfl, Bd.exec, findClass_of_methodNamed Bd.named, Bd.bytes, hml0, Bd.returns, (name_of_methodNamed Bd.named Bd.method).1, Bd.notSynchronized, rfl⟩
  obtain ⟨s₂, o, hs, r1, r2, v, L, e1, q, E⟩ := H κ rfl K s₁ [] s.vm X0 ⟨⟨s.heap.size, (State.WarmedH.refl s).since _, by rw [← hh]; exact Nat.le_refl _⟩, fun _ => rfl⟩ hZ (Fr.nil _) hn e0
  exact ⟨s₂, o, castTop (hfr m) hs, r1, r2, v, L, e1, q, E⟩
end Calls
theorem catR {v : Value} (h : v.isRef = true) : v.category = 1 := by rcases ref_cases h with rfl | ⟨a, rfl⟩ <;> rfl
/-! ## lcmp -/
theorem cmp_lt (x y : Int64) : (XT.cmpL x y).toInt < 0 ↔ x.toInt < y.toInt := by
  unfold XT.cmpL; rw [← Int64.lt_iff_toInt_lt]
  by_cases h1 : y < x
  · simp only [h1, if_true]; constructor
    · intro h; exact absurd h (by decide)
    · intro h; rw [Int64.lt_iff_toInt_lt] at h h1; omega
  · by_cases h2 : x = y
    · subst h2; simp only [h1, if_true, if_false]; simp
    · simp only [h1, h2, if_false]
      have h3 : x < y := by rw [Int64.lt_iff_toInt_lt] at h1 ⊢; rw [← Int64.toInt_inj] at h2; omega
      exact ⟨fun _ => h3, fun _ => by decide⟩
theorem cmp_gt (x y : Int64) : 0 < (XT.cmpL x y).toInt ↔ y.toInt < x.toInt := by
  unfold XT.cmpL; rw [← Int64.lt_iff_toInt_lt]
  by_cases h1 : y < x
  · simp only [h1, if_true]; exact ⟨fun _ => trivial, fun _ => by decide⟩
  · by_cases h2 : x = y
    · subst h2; simp only [h1, if_true, if_false]; simp
    · simp only [h1, h2, if_false]; simp
theorem cmp_eq (x y : Int64) : XT.cmpL x y = 0 ↔ x = y := by
  unfold XT.cmpL
  by_cases h1 : y < x
  · simp only [h1, if_true]; constructor
    · intro h; exact absurd h (by decide)
    · intro h; subst h; rw [Int64.lt_iff_toInt_lt] at h1; omega
  · by_cases h2 : x = y
    · subst h2; simp only [h1, if_true, if_false]
    · simp only [h1, h2, if_false]; exact ⟨fun h => absurd h (by decide), fun h => h.elim⟩
/-! ## what a case's words say at the start -/
theorem stZ {s : State} {args : Array Value} {C n d : String} {v : Value} (ev : (Term.static C n d).eval args s none [] s = some v) (wi : (Cond.initialized C).before args s = true) (wl : (Cond.laysStatic C n d).before args s = true) : Sta s s.heap C n d v := Sta.start ev (Or.inr ⟨wi, wl⟩)
theorem fldI {s : State} {args : Array Value} {t : Term} {a : Addr} {O f d : String} {k : Int32} (ev : t.eval args s none [] s = some (.ref a)) (hq : (Cond.eq (.field t O f d) (.int k)).value args s none s [] = some true) : Fld s s.heap a O f d (.int k) := by
  obtain ⟨x, y, e1, e2, k1, k2⟩ := cmp_v (Or.inl hq)
  rw [fld_at ev] at e1
  cases (e2.symm.trans (Term.int_eval k) : some y = some (.int k))
  obtain ⟨z, rfl⟩ := k2
  refine Fld.start ?_
  have e3 : (Term.field t O f d).eval args s none [] s = some (.int z) := (fld_at ev).trans e1
  have := gotT (Cond.eq_ints e3 (Term.int_eval k)) hq
  rw [e1, this]
theorem fldJ {s : State} {args : Array Value} {t : Term} {a : Addr} {O f d : String} {k : Int64} (ev : t.eval args s none [] s = some (.ref a)) (hq : (Cond.eq (.field t O f d) (.long k)).value args s none s [] = some true) : Fld s s.heap a O f d (.long k) := by
  obtain ⟨x, y, e1, e2, k1, k2⟩ := cmp_v (Or.inl hq)
  rw [fld_at ev] at e1
  cases (e2.symm.trans (long_at k) : some y = some (.long k))
  obtain ⟨z, rfl⟩ := k2
  refine Fld.start ?_
  have e3 : (Term.field t O f d).eval args s none [] s = some (.long z) := (fld_at ev).trans e1
  have := gotT (eq_L e3 (long_at k)) hq
  rw [e1, this]
theorem staI {s : State} {args : Array Value} {C n d : String} {k : Int32} (hq : (Cond.eq (.static C n d) (.int k)).value args s none s [] = some true) : (Term.static C n d).eval args s none [] s = some (.int k) := by
  obtain ⟨x, y, e1, e2, k1, k2⟩ := cmp_v (Or.inl hq)
  cases (e2.symm.trans (Term.int_eval k) : some y = some (.int k))
  obtain ⟨z, rfl⟩ := k2
  have := gotT (Cond.eq_ints e1 (Term.int_eval k)) hq
  rw [e1, this]
theorem staJ {s : State} {args : Array Value} {C n d : String} {k : Int64} (hq : (Cond.eq (.static C n d) (.long k)).value args s none s [] = some true) : (Term.static C n d).eval args s none [] s = some (.long k) := by
  obtain ⟨x, y, e1, e2, k1, k2⟩ := cmp_v (Or.inl hq)
  cases (e2.symm.trans (long_at k) : some y = some (.long k))
  obtain ⟨z, rfl⟩ := k2
  have := gotT (eq_L e1 (long_at k)) hq
  rw [e1, this]
theorem ordNe {Z : State} {h : Heap} {a b : Addr} {C n d : String} {v w : Value} (F : Fld Z h a C n d v) (G : Fld Z h b C n d w) (q : v ≠ w) : (Value.ref a) ≠ .ref b := fun e => F.ne G q (by cases e; rfl)
end Laws
end Jvm.OwnKit

namespace Jvm.OwnKit
open Sem ClassFile Op Lib Jvm.Stand Jvm.Free Jvm.LawKit Jvm.RoadKit
/-! ## arrays, by the list of what they hold -/
def Av (Z : State) (h : Heap) (a : Addr) (k : ClassId) (ty : FieldType) (vs : List Value) : Prop := ∃ c : Cell, Arr Z h a c ty ∧ c.cls = k ∧ c.slots.toList = vs ∧ vs.length < 2 ^ 31 ∧ ∀ v ∈ vs, fits ty v = true
section Av
variable {Z : State} {h h' : Heap} {a b : Addr} {k : ClassId} {ty : FieldType} {vs : List Value} {sl : Nat} {v : Value} {ws : List Addr}
theorem Av.lt (F : Av Z h a k ty vs) : a < h.size := by obtain ⟨c, A, -⟩ := F; exact A.lt
theorem Av.ext (F : Av Z h a k ty vs) (E : Ext h h') : Av Z h' a k ty vs := by obtain ⟨c, A, r⟩ := F; exact ⟨c, A.ext E, r⟩
theorem Av.other (F : Av Z h b k ty vs) (W : Wr h h' a sl v) (q : b ≠ a) : Av Z h' b k ty vs := by obtain ⟨c, A, r⟩ := F; exact ⟨c, A.other W q, r⟩
theorem Av.keep (F : Av Z h a k ty vs) (K : Keep h h' ws) (q : a ∉ ws) : Av Z h' a k ty vs := by obtain ⟨c, A, r⟩ := F; exact ⟨c, ⟨K.2.1 a c A.1 q, A.2⟩, r⟩
theorem Av.len (F : Av Z h a k ty vs) : vs.length < 2 ^ 31 := by obtain ⟨c, -, -, -, q, -⟩ := F; exact q
theorem Av.set (F : Av Z h a k ty vs) (W : Wr h h' a sl v) (hv : fits ty v = true) : Av Z h' a k ty (vs.set sl v) := by
  obtain ⟨c, A, e1, e2, e3, e4⟩ := F
  refine ⟨_, A.same W, e1, by simp [Cell.setSlot, e2], by simpa using e3, fun w hw => ?_⟩
  rcases List.mem_or_eq_of_mem_set hw with q | q
  · exact e4 w q
  · exact q ▸ hv
theorem Av.new {cA : ClassId} {n : Int32} (A : Arr Z h a (newA cA ty n) ty) (q : 0 ≤ n.toInt) : Av Z h a cA ty (List.replicate n.toInt.toNat (defaultValue ty)) := by
  have e : n.toNatClampNeg = n.toInt.toNat := rfl
  refine ⟨_, A, rfl, by show (Array.replicate n.toNatClampNeg (defaultValue ty)).toList = _; rw [Array.toList_replicate]; rfl, by have := n.toInt_lt; rw [List.length_replicate]; omega, fun v hv => ?_⟩
  rw [List.mem_replicate] at hv
  rw [hv.2]; cases ty <;> rfl
theorem Av.arv (F : Av Z h a k ty vs) (d : Value) : Arv Z h a k ty (Int32.ofNat vs.length) vs d := by
  obtain ⟨c, A, e1, e2, e3, e4⟩ := F
  have e5 : c.slots.size = vs.length := by rw [← e2]; simp
  have e6 : (Int32.ofNat vs.length).toInt = vs.length := len_toInt e3
  refine ⟨c, A, e1, ?_, ?_, fun i hi => ?_, fun i hi => ?_⟩
  · rw [e5]; show _ = (Int32.ofNat vs.length).toInt.toNat; omega
  · rw [Int32.lt_iff_toInt_lt, e6]; have : (0 : Int32).toInt = 0 := rfl; omega
  · rw [e5] at hi; rw [← e2]; simp [List.getD, ← Array.getElem?_toList]; rw [e2]; simp [hi]
  · rw [e5] at hi; rw [List.getD_eq_getElem?_getD, List.getElem?_eq_getElem hi]; exact e4 _ (List.getElem_mem hi)
theorem Av.of_arv {n : Int32} {d : Value} (F : Arv Z h a k ty n vs d) (hl : n.toInt = vs.length) : Av Z h a k ty vs := by
  obtain ⟨c, A, e1, e2, e3, e4, e5⟩ := F
  have e6 : c.slots.size = vs.length := by rw [e2]; show n.toInt.toNat = _; omega
  have e7 : c.slots.toList = vs := by
    refine List.ext_getElem? fun i => ?_
    rcases Nat.lt_or_ge i vs.length with hi | hi
    · have q := e4 i (by omega)
      rw [Array.getElem?_toList, q, List.getD_eq_getElem?_getD, List.getElem?_eq_getElem hi]; rfl
    · rw [List.getElem?_eq_none hi, List.getElem?_eq_none (by simp; omega)]
  refine ⟨c, A, e1, e7, by have := n.toInt_lt; omega, fun v hv => ?_⟩
  obtain ⟨i, hi, rfl⟩ := List.getElem_of_mem hv
  have q := e5 i (by omega)
  rwa [List.getD_eq_getElem?_getD, List.getElem?_eq_getElem hi] at q
end Av
section ALaws
variable {κ : Cx} {t : FieldType} {l : Launch} {Z : State} {n0 : Nat} {own nm : String} {bytes : ByteArray} {maxL : Nat} {ret : Option FieldType} {rm : Room} {Q : Option Value → Heap → Prop} {h : Heap} {cells slots pc : Nat} {Ls : Array Slot} {st : List Value} {a0 : Array Value}
variable {a : Addr} {k : ClassId} {ty : FieldType} {vs : List Value} {j : Int32} {v : Value}
theorem inV {c : Cell} (e : c.slots.toList = vs) (h0 : 0 ≤ j.toInt) (hj : vs[j.toInt.toNat]? = some v) : ¬ (j < 0 ∨ c.slots.size ≤ j.toNatClampNeg) ∧ c.slots[j.toNatClampNeg]? = some v := by
  have q := (List.getElem?_eq_some_iff.mp hj).1
  have s : c.slots.size = vs.length := by rw [← e]; simp
  have e0 : (0 : Int32).toInt = 0 := rfl
  have e1 : j.toNatClampNeg = j.toInt.toNat := rfl
  refine ⟨?_, ?_⟩
  · rw [Int32.lt_iff_toInt_lt, e0, e1]; omega
  · rw [e1, ← Array.getElem?_toList, e]; exact hj
theorem lenV (K : Ok κ l Z n0 own nm bytes maxL ret rm Q) (hd : decode bytes pc = .ok (.arraylength, 1)) (A : Av Z h a k ty vs) (hr : Go κ h cells slots (pc + 1) Ls (.int (Int32.ofNat vs.length) :: st)) : Go κ h cells slots pc Ls (.ref a :: st) := by
  obtain ⟨c, A1, e1, e2, e3, e4⟩ := A
  exact arrLen K hd A1 (by rw [← e2]; simp) hr
theorem ialoadV (K : Ok κ l Z n0 own nm bytes maxL ret rm Q) (hd : decode bytes pc = .ok (.iaload, 1)) (A : Av Z h a k .int vs) (h0 : 0 ≤ j.toInt) (hj : vs[j.toInt.toNat]? = some v) (hr : Go κ h cells slots (pc + 1) Ls (v :: st)) : Go κ h cells slots pc Ls (.int j :: .ref a :: st) := by
  obtain ⟨c, A1, e1, e2, e3, e4⟩ := A
  obtain ⟨q1, q2⟩ := inV e2 h0 hj
  exact iaload K hd A1 q1 q2 hr
theorem laloadV (K : Ok κ l Z n0 own nm bytes maxL ret rm Q) (hd : decode bytes pc = .ok (.laload, 1)) (A : Av Z h a k .long vs) (h0 : 0 ≤ j.toInt) (hj : vs[j.toInt.toNat]? = some v) (hr : Go κ h cells slots (pc + 1) Ls (v :: st)) : Go κ h cells slots pc Ls (.int j :: .ref a :: st) := by
  obtain ⟨c, A1, e1, e2, e3, e4⟩ := A
  obtain ⟨q1, q2⟩ := inV e2 h0 hj
  exact laload K hd A1 q1 q2 hr
theorem caloadV (K : Ok κ l Z n0 own nm bytes maxL ret rm Q) (hd : decode bytes pc = .ok (.caload, 1)) (A : Av Z h a k .char vs) (h0 : 0 ≤ j.toInt) (hj : vs[j.toInt.toNat]? = some v) (hr : Go κ h cells slots (pc + 1) Ls (v :: st)) : Go κ h cells slots pc Ls (.int j :: .ref a :: st) := by
  obtain ⟨c, A1, e1, e2, e3, e4⟩ := A
  obtain ⟨q1, q2⟩ := inV e2 h0 hj
  exact caload K hd A1 q1 q2 hr
theorem baloadV (K : Ok κ l Z n0 own nm bytes maxL ret rm Q) (hd : decode bytes pc = .ok (.baload, 1)) (A : Av Z h a k .byte vs) (h0 : 0 ≤ j.toInt) (hj : vs[j.toInt.toNat]? = some v) (hr : Go κ h cells slots (pc + 1) Ls (v :: st)) : Go κ h cells slots pc Ls (.int j :: .ref a :: st) := by
  obtain ⟨c, A1, e1, e2, e3, e4⟩ := A
  obtain ⟨q1, q2⟩ := inV e2 h0 hj
  exact baload K hd A1 q1 q2 hr
theorem iastoreV {x : Int32} (K : Ok κ l Z n0 own nm bytes maxL ret rm Q) (hd : decode bytes pc = .ok (.iastore, 1)) (A : Av Z h a k .int vs) (h0 : 0 ≤ j.toInt) (hj : j.toInt < vs.length) (ge : n0 ≤ a)
    (hr : ∀ h', Wr h h' a j.toInt.toNat (.int x) → Av Z h' a k .int (vs.set j.toInt.toNat (.int x)) → Go κ h' cells slots (pc + 1) Ls st) : Go κ h cells slots pc Ls (.int x :: .int j :: .ref a :: st) := by
  obtain ⟨c, A1, e1, e2, e3, e4⟩ := A
  obtain ⟨w, hw⟩ : ∃ w, vs[j.toInt.toNat]? = some w := ⟨_, List.getElem?_eq_getElem (by omega)⟩
  obtain ⟨q1, q2⟩ := inV e2 h0 hw
  exact iastore K hd A1 q1 ge fun h' W => hr h' W (Av.set ⟨c, A1, e1, e2, e3, e4⟩ W rfl)
theorem lastoreV {x : Int64} (K : Ok κ l Z n0 own nm bytes maxL ret rm Q) (hd : decode bytes pc = .ok (.lastore, 1)) (A : Av Z h a k .long vs) (h0 : 0 ≤ j.toInt) (hj : j.toInt < vs.length) (ge : n0 ≤ a)
    (hr : ∀ h', Wr h h' a j.toInt.toNat (.long x) → Av Z h' a k .long (vs.set j.toInt.toNat (.long x)) → Go κ h' cells slots (pc + 1) Ls st) : Go κ h cells slots pc Ls (.long x :: .int j :: .ref a :: st) := by
  obtain ⟨c, A1, e1, e2, e3, e4⟩ := A
  obtain ⟨w, hw⟩ : ∃ w, vs[j.toInt.toNat]? = some w := ⟨_, List.getElem?_eq_getElem (by omega)⟩
  obtain ⟨q1, q2⟩ := inV e2 h0 hw
  exact lastore K hd A1 q1 ge fun h' W => hr h' W (Av.set ⟨c, A1, e1, e2, e3, e4⟩ W rfl)
theorem castoreV {x : Int32} (K : Ok κ l Z n0 own nm bytes maxL ret rm Q) (hd : decode bytes pc = .ok (.castore, 1)) (A : Av Z h a k .char vs) (h0 : 0 ≤ j.toInt) (hj : j.toInt < vs.length) (ge : n0 ≤ a)
    (hr : ∀ h', Wr h h' a j.toInt.toNat (.int (nar .char x)) → Av Z h' a k .char (vs.set j.toInt.toNat (.int (nar .char x))) → Go κ h' cells slots (pc + 1) Ls st) : Go κ h cells slots pc Ls (.int x :: .int j :: .ref a :: st) := by
  obtain ⟨c, A1, e1, e2, e3, e4⟩ := A
  obtain ⟨w, hw⟩ : ∃ w, vs[j.toInt.toNat]? = some w := ⟨_, List.getElem?_eq_getElem (by omega)⟩
  obtain ⟨q1, q2⟩ := inV e2 h0 hw
  exact castore K hd A1 q1 ge fun h' W => hr h' W (Av.set ⟨c, A1, e1, e2, e3, e4⟩ W (fits_nar_char x))
theorem bastoreV {x : Int32} (K : Ok κ l Z n0 own nm bytes maxL ret rm Q) (hd : decode bytes pc = .ok (.bastore, 1)) (A : Av Z h a k .byte vs) (h0 : 0 ≤ j.toInt) (hj : j.toInt < vs.length) (ge : n0 ≤ a)
    (hr : ∀ h', Wr h h' a j.toInt.toNat (.int x.toInt8.toInt32) → Av Z h' a k .byte (vs.set j.toInt.toNat (.int x.toInt8.toInt32)) → Go κ h' cells slots (pc + 1) Ls st) : Go κ h cells slots pc Ls (.int x :: .int j :: .ref a :: st) := by
  obtain ⟨c, A1, e1, e2, e3, e4⟩ := A
  obtain ⟨w, hw⟩ : ∃ w, vs[j.toInt.toNat]? = some w := ⟨_, List.getElem?_eq_getElem (by omega)⟩
  obtain ⟨q1, q2⟩ := inV e2 h0 hw
  exact bastore K hd A1 q1 ge fun h' W => hr h' W (Av.set ⟨c, A1, e1, e2, e3, e4⟩ W (fits_nar_byte x))
theorem aaloadV (K : Ok κ l Z n0 own nm bytes maxL ret rm Q) (hd : decode bytes pc = .ok (.aaload, 1)) (A : Av Z h a k ty vs) (hty : ty.isReference = true) (h0 : 0 ≤ j.toInt) (hj : vs[j.toInt.toNat]? = some v) (hr : Go κ h cells slots (pc + 1) Ls (v :: st)) : Go κ h cells slots pc Ls (.int j :: .ref a :: st) := by
  obtain ⟨c, A1, e1, e2, e3, e4⟩ := A
  obtain ⟨q1, q2⟩ := inV e2 h0 hj
  exact aaload K hd A1 hty q1 q2 hr
theorem aastoreV {C : String} {y : Addr} (K : Ok κ l Z n0 own nm bytes maxL ret rm Q) (hd : decode bytes pc = .ok (.aastore, 1)) (A : Av Z h a k ty vs) (O : Ovr Z k C) (I : Ins Z h y C true) (hty : ty.isReference = true) (h0 : 0 ≤ j.toInt) (hj : j.toInt < vs.length) (ge : n0 ≤ a)
    (hr : ∀ h', Wr h h' a j.toInt.toNat (.ref y) → Av Z h' a k ty (vs.set j.toInt.toNat (.ref y)) → Go κ h' cells slots (pc + 1) Ls st) : Go κ h cells slots pc Ls (.ref y :: .int j :: .ref a :: st) := by
  obtain ⟨c, A1, e1, e2, e3, e4⟩ := A
  obtain ⟨w, hw⟩ : ∃ w, vs[j.toInt.toNat]? = some w := ⟨_, List.getElem?_eq_getElem (by omega)⟩
  obtain ⟨q1, q2⟩ := inV e2 h0 hw
  refine aastore K hd A1 q1 hty (Sto.ofV A1 e1 O I) ge fun h' W => ?_
  exact hr h' W (Av.set ⟨c, A1, e1, e2, e3, e4⟩ W (by cases ty <;> first | (exact Bool.noConfusion hty) | rfl))
theorem newArrV {aty : ArrayType} {n : Int32} {cap : Nat} (K : Ok κ l Z n0 own nm bytes maxL ret rm Q) (hd : decode bytes pc = .ok (.newarray aty, 2)) (w : (Cond.arrayClass (newarray.typeOf aty)).before a0 Z = true) (hn : 0 ≤ n.toInt) (hcap : n.toInt ≤ cap) (hb8 : cap * 8 ≤ 536870912)
    (hc : cells + 1 ≤ rm.cells) (hl : slots + cap ≤ rm.slots)
    (hr : ∀ h' a k, a = h.size → n0 ≤ a → Ext h h' → Av Z h' a k (newarray.typeOf aty) (List.replicate n.toInt.toNat (defaultValue (newarray.typeOf aty))) → Exa Z h' a ("[" ++ (newarray.typeOf aty).toString) → Go κ h' (cells + 1) (slots + cap) (pc + 2) Ls (.ref a :: st)) : Go κ h cells slots pc Ls (.int n :: st) := by
  have e0 : (0 : Int32).toInt = 0 := rfl
  have e1 : n.toNatClampNeg = n.toInt.toNat := rfl
  refine newArr K hd w (by rw [Int32.lt_iff_toInt_lt, e0]; omega) (by rw [e1]; omega) hb8 rfl hc hl fun h' a cA q1 q2 q3 q4 q5 => ?_
  exact hr h' a cA q1 q2 q3 (Av.new q4 hn) q5
theorem anewArrV {C : String} {index : Nat} {n : Int32} {cap : Nat} (K : Ok κ l Z n0 own nm bytes maxL ret rm Q) (hd : decode bytes pc = .ok (.anewarray index, 3)) (w1 : (Cond.classLink own index C).before a0 Z = true) (w2 : (Cond.arrayOver (.object C)).before a0 Z = true) (hn : 0 ≤ n.toInt) (hcap : n.toInt ≤ cap) (hb8 : cap * 8 ≤ 536870912)
    (hc : cells + 1 ≤ rm.cells) (hl : slots + cap ≤ rm.slots)
    (hr : ∀ h' a k, a = h.size → n0 ≤ a → Ext h h' → Av Z h' a k (.object C) (List.replicate n.toInt.toNat .null) → Ovr Z k C → Go κ h' (cells + 1) (slots + cap) (pc + 3) Ls (.ref a :: st)) : Go κ h cells slots pc Ls (.int n :: st) := by
  have e0 : (0 : Int32).toInt = 0 := rfl
  have e1 : n.toNatClampNeg = n.toInt.toNat := rfl
  refine anewArr K hd w1 w2 (by rw [Int32.lt_iff_toInt_lt, e0]; omega) (by rw [e1]; omega) hb8 hc hl fun h' a cA q1 q2 q3 q4 q5 => ?_
  exact hr h' a cA q1 q2 q3 (Av.new q4 hn) q5
/-- System.arraycopy between two arrays of one primitive kind -/
theorem copyV {index : Nat} {b : Addr} {k' : ClassId} {us : List Value} {sp dp nn : Int32} {W : Nat} (K : Ok κ l Z n0 own nm bytes maxL ret rm Q) (hd : decode bytes pc = .ok (.invokestatic index, 3))
    (w1 : (Cond.methodLink own index Jvm.Stand.acN).before a0 Z = true) (w2 : (Cond.native Jvm.Stand.acN).before a0 Z = true) (w3 : (Cond.static Jvm.Stand.acN).before a0 Z = true) (w4 : (Cond.initialized "java/lang/System").before a0 Z = true)
    (A : Av Z h a k ty vs) (B : Av Z h b k' ty us) (hty : refKind ty = false) (h1 : 0 ≤ sp.toInt) (h2 : 0 ≤ dp.toInt) (h3 : 0 ≤ nn.toInt) (h4 : sp.toInt + nn.toInt ≤ vs.length) (h5 : dp.toInt + nn.toInt ≤ us.length) (ge : n0 ≤ b)
    (hsz : Ls.size = maxL) (hW : (st.map fun v => v.category).sum ≤ W) (hf : 1 ≤ rm.frames) (hlo : W + (nativeFrameWords "java/lang/System" "arraycopy" 5 + 11) ≤ rm.locals)
    (hr : ∀ h', Keep h h' [b] → Av Z h' b k' ty (us.take dp.toInt.toNat ++ (vs.drop sp.toInt.toNat).take nn.toInt.toNat ++ us.drop (dp.toInt.toNat + nn.toInt.toNat)) → Go κ h' cells slots (pc + 3) Ls st) :
    Go κ h cells slots pc Ls (.int nn :: .int dp :: .ref b :: .int sp :: .ref a :: st) := fun T locs vm0 X AD hZ N OB eT => by
  have e0 : (0 : Int32).toInt = 0 := rfl
  have eR := K.eR
  have lA := A.len
  have lB := B.len
  have sA : (Int32.ofNat vs.length).toInt = vs.length := len_toInt lA
  have sB : (Int32.ofNat us.length).toInt = us.length := len_toInt lB
  have hus : (vs.drop sp.toInt.toNat).take nn.toInt.toNat = (List.range nn.toNatClampNeg).map fun i => vs.getD (sp.toNatClampNeg + i) .null := by
    refine List.ext_getElem? fun i => ?_
    show _ = ((List.range nn.toInt.toNat).map fun i => vs.getD (sp.toInt.toNat + i) .null)[i]?
    rcases Nat.lt_or_ge i nn.toInt.toNat with hi | hi
    · rw [List.getElem?_take_of_lt hi, List.getElem?_drop, List.getElem?_map, List.getElem?_range hi, Option.map_some, List.getD_eq_getElem?_getD, List.getElem?_eq_getElem (by omega)]; rfl
    · rw [List.getElem?_eq_none (by rw [List.length_take, List.length_drop]; omega), List.getElem?_eq_none (by rw [List.length_map, List.length_range]; omega)]
  obtain ⟨T', h', L, X', e', N', KP, AV, st1⟩ := cpA X K.exec (K.warm hZ) (K.ko AD) w1 w2 w3 w4 eT (A.arv .null) (B.arv .null) (Or.inl ⟨rfl, hty⟩) (sp := sp) (dp := dp) (nn := nn) (by rw [Int32.lt_iff_toInt_lt, e0]; omega) (by rw [Int32.lt_iff_toInt_lt, e0]; omega) (by rw [Int32.lt_iff_toInt_lt, e0]; omega)
    (by show sp.toInt.toNat + nn.toInt.toNat ≤ (Int32.ofNat vs.length).toInt.toNat; omega) (by show dp.toInt.toNat + nn.toInt.toNat ≤ (Int32.ofNat us.length).toInt.toNat; omega) hus (by show dp.toInt.toNat + nn.toInt.toNat ≤ us.length; omega) N (by rw [K.en]; exact ge)
    (g := mkF κ.m pc Ls (.int nn :: .int dp :: .ref b :: .int sp :: .ref a :: st)) rfl (by rw [K.kl]; exact hsz) rfl (hb K.kb hd) (by rw [eR]; exact hf) (W0 hW) (by rw [eR]; exact hlo)
  have AV' : Av Z h' b k' ty (us.take dp.toInt.toNat ++ (vs.drop sp.toInt.toNat).take nn.toInt.toNat ++ us.drop (dp.toInt.toNat + nn.toInt.toNat)) := Av.of_arv AV (by simp only [List.length_append, List.length_take, List.length_drop]; omega)
  obtain ⟨s₂, o, hs, r⟩ := hr h' KP AV' T' L vm0 X' (AD.mono KP.1) hZ N' (OB.keep KP (allS (by rw [K.en]; exact ge) all0)) e'
  exact ⟨s₂, o, st1 _ hs, r⟩
end ALaws
end Jvm.OwnKit

namespace Jvm.OwnKit
open Sem ClassFile Op Lib Jvm.Stand Jvm.Free Jvm.LawKit Jvm.RoadKit
section Mirs
variable {κ : Cx} {l : Launch} {Z : State} {n0 : Nat} {own nm : String} {bytes : ByteArray} {maxL : Nat} {ret : Option FieldType} {rm : Room} {Q : Option Value → Heap → Prop} {h : Heap} {cells slots pc : Nat} {Ls : Array Slot} {st : List Value} {a0 : Array Value} {index W : Nat}
/-- getClass, where no word says that java/lang/Object has no superclass: 'selects C y y' says that it is no interface -/
theorem getClsS {C : String} {a mr : Addr} (K : Ok κ l Z n0 own nm bytes maxL ret rm Q) (hd : decode bytes pc = .ok (.invokevirtual index, 3))
    (w1 : (Cond.methodLink own index ⟨"java/lang/Object", "getClass", "()Ljava/lang/Class;"⟩).before a0 Z = true) (w2 : (Cond.declares ⟨"java/lang/Object", "getClass", "()Ljava/lang/Class;"⟩).before a0 Z = true) (w4 : (Cond.selects C ⟨"java/lang/Object", "getClass", "()Ljava/lang/Class;"⟩ ⟨"java/lang/Object", "getClass", "()Ljava/lang/Class;"⟩).before a0 Z = true)
    (w5 : (Cond.instanceMethod ⟨"java/lang/Object", "getClass", "()Ljava/lang/Class;"⟩).before a0 Z = true) (w6 : (Cond.native ⟨"java/lang/Object", "getClass", "()Ljava/lang/Class;"⟩).before a0 Z = true) (E : Exa Z h a C) (M : Mir Z C mr)
    (hsz : Ls.size = maxL) (hW : (st.map fun v => v.category).sum ≤ W) (hf : 1 ≤ rm.frames) (hl : W + (nativeFrameWords "java/lang/Object" "getClass" 1 + 11) ≤ rm.locals)
    (hr : Go κ h cells slots (pc + 3) Ls (.ref mr :: st)) : Go κ h cells slots pc Ls (.ref a :: st) := fun T locs vm0 X A hZ N B eT => by
  have hZ' := K.warm hZ
  obtain ⟨cB, kB, i1, i2, i3⟩ := isOf hZ' eT E
  obtain ⟨cc, kc, m1, m2, m3, -⟩ := M
  rw [hZ'.alike.findClass] at i1
  cases i1.symm.trans m1
  obtain ⟨k', q, ek⟩ := hZ'.alike.2.2 _ _ m2
  have hW' : 2 * (mkF κ.m pc Ls (.ref a :: st)).monitorRoom + (st.map fun v => v.category).sum ≤ W := W0 hW
  have hl' : W + (nativeFrameWords "java/lang/Object" "getClass" 1 + 11) ≤ κ.R.locals := by rw [K.eR]; exact hl
  obtain ⟨vm', X', st1⟩ := X.getClassOf K.exec (K.ko A) (mvT hZ' w1) (mvT hZ' w2) (notFace_of_selects (args := #[]) (mvT hZ' w4)) (mvT hZ' w4) (mvT hZ' w5) (mvT hZ' w6) (by rw [hZ'.alike.findClass]; exact m1) i3 q (by rw [ek]; exact m3) (g := mkF κ.m pc Ls (.ref a :: st)) rfl (by rw [K.kl]; exact hsz) rfl (hb K.kb hd) (by rw [K.eR]; exact hf) (by omega)
  obtain ⟨s₂, o, hs, r⟩ := hr _ locs vm0 X' A hZ N B eT
  exact ⟨s₂, o, st1 _ hs, r⟩
end Mirs
end Jvm.OwnKit
namespace Jvm.Pilot.@@N@@
open Jvm Jvm.ClassFile Sem Op Lib Jvm.Free Jvm.Stand Jvm.LawKit Jvm.RoadKit Bundle Jvm.Pilot.@@N@@.Jvm.D
def QCmp (i j : Int32) (h0 : Heap) (v : Option Value) (h : Heap) : Prop := v = some (.int (i - j)) ∧ h0 = h
def QAllow (i : Int32) (h0 : Heap) (v : Option Value) (h : Heap) : Prop := (∃ z : Int32, v = some (.int z) ∧ ((i - 2).toInt < 0 ∧ z = 0 ∨ 0 ≤ (i - 2).toInt ∧ z = 1)) ∧ h0 = h
def QLaw (v : Option Value) (h : Heap) : Prop := v = some (.int 1)

theorem d_jdk_37m8_0 : decode jdk_37_method_8_code 0 = .ok (.aload_n 1, 1) := by decide +kernel
theorem d_jdk_37m8_1 : decode jdk_37_method_8_code 1 = .ok (.astore_n 2, 1) := by decide +kernel
theorem d_jdk_37m8_2 : decode jdk_37_method_8_code 2 = .ok (.aload_n 0, 1) := by decide +kernel
theorem d_jdk_37m8_3 : decode jdk_37_method_8_code 3 = .ok (.astore_n 3, 1) := by decide +kernel
theorem d_jdk_37m8_4 : decode jdk_37_method_8_code 4 = .ok (.aload_n 3, 1) := by decide +kernel
theorem d_jdk_37m8_5 : decode jdk_37_method_8_code 5 = .ok (.invokevirtual 29, 3) := by decide +kernel
theorem d_jdk_37m8_8 : decode jdk_37_method_8_code 8 = .ok (.aload_n 2, 1) := by decide +kernel
theorem d_jdk_37m8_9 : decode jdk_37_method_8_code 9 = .ok (.invokevirtual 29, 3) := by decide +kernel
theorem d_jdk_37m8_12 : decode jdk_37_method_8_code 12 = .ok (.if_acmp .eq 22, 3) := by decide +kernel
theorem d_jdk_37m8_34 : decode jdk_37_method_8_code 34 = .ok (.aload_n 3, 1) := by decide +kernel
theorem d_jdk_37m8_35 : decode jdk_37_method_8_code 35 = .ok (.getfield 7, 3) := by decide +kernel
theorem d_jdk_37m8_38 : decode jdk_37_method_8_code 38 = .ok (.aload_n 2, 1) := by decide +kernel
theorem d_jdk_37m8_39 : decode jdk_37_method_8_code 39 = .ok (.getfield 7, 3) := by decide +kernel
theorem d_jdk_37m8_42 : decode jdk_37_method_8_code 42 = .ok (.isub, 1) := by decide +kernel
theorem d_jdk_37m8_43 : decode jdk_37_method_8_code 43 = .ok (.ireturn, 1) := by decide +kernel
set_option maxRecDepth 65536 in
set_option maxHeartbeats 40000000 in
theorem c_cmp (l : Launch) (Z : State) (a0 : Array Value) (hw : ∀ d ∈ tables_1, d.before a0 Z = true) (n0 : Nat) (h0 : Heap) (a b mr : Addr) (i j : Int32) (M_DV : Mir Z "com/example/rope_bridge/ropebridge/descriptor/DescriptorVersion" mr) (E_a : Exa Z Z.heap a "com/example/rope_bridge/ropebridge/descriptor/DescriptorVersion") (O_a : Fld Z Z.heap a "java/lang/Enum" "ordinal" "I" (.int i)) (E_b : Exa Z Z.heap b "com/example/rope_bridge/ropebridge/descriptor/DescriptorVersion") (O_b : Fld Z Z.heap b "java/lang/Enum" "ordinal" "I" (.int j)) :
    OwnKit.Con false l Z n0 (⟨"java/lang/Enum", "compareTo", "(Ljava/lang/Enum;)I"⟩ : MethodName) jdk_37_method_8_code 4 (some .int) ({ frames := 1, cells := 0, slots := 0, locals := 41 } : Room) #[.ref a, .ref b] h0 (QCmp i j h0) := by
  refine OwnKit.Con.of (by first | (refine plainFor_of_name ?_; simp [plainName, overriddenIn]; done) | decide +kernel) ?_ ?_
  · intro κ hwd K0
    have K : OwnKit.Ok κ l Z n0 "java/lang/Enum" "compareTo" jdk_37_method_8_code 4 (some .int) ({ frames := 1, cells := 0, slots := 0, locals := 41 } : Room) (QCmp i j h0) := K0
    have ef : (entryFrame κ.m #[.ref a, .ref b] 4).locals = #[.val (.ref a), .val (.ref b), .unset, .unset] := by first | (simp [entryFrame, argsToLocals, Value.category]; done) | rfl
    rw [ef]; clear ef K0
    show OwnKit.Go κ h0 0 0 0 #[.val (.ref a), .val (.ref b), .unset, .unset] []
    refine OwnKit.aloadN K d_jdk_37m8_0 rfl rfl ?_
    show OwnKit.Go κ h0 0 0 1 #[.val (.ref a), .val (.ref b), .unset, .unset] [.ref b]
    refine OwnKit.astoreN K d_jdk_37m8_1 rfl (l' := #[.val (.ref a), .val (.ref b), .val (.ref b), .unset]) rfl ?_
    show OwnKit.Go κ h0 0 0 2 #[.val (.ref a), .val (.ref b), .val (.ref b), .unset] []
    refine OwnKit.aloadN K d_jdk_37m8_2 rfl rfl ?_
    show OwnKit.Go κ h0 0 0 3 #[.val (.ref a), .val (.ref b), .val (.ref b), .unset] [.ref a]
    refine OwnKit.astoreN K d_jdk_37m8_3 rfl (l' := #[.val (.ref a), .val (.ref b), .val (.ref b), .val (.ref a)]) rfl ?_
    show OwnKit.Go κ h0 0 0 4 #[.val (.ref a), .val (.ref b), .val (.ref b), .val (.ref a)] []
    refine OwnKit.aloadN K d_jdk_37m8_4 rfl rfl ?_
    show OwnKit.Go κ h0 0 0 5 #[.val (.ref a), .val (.ref b), .val (.ref b), .val (.ref a)] [.ref a]
    refine OwnKit.old K fun O1 => ?_
    refine OwnKit.getClsS (W := 0) K d_jdk_37m8_5 (hw _ (List.mem_of_getElem? (i := 18) rfl)) (hw _ (List.mem_of_getElem? (i := 19) rfl)) (hw _ (List.mem_of_getElem? (i := 21) rfl)) (hw _ (List.mem_of_getElem? (i := 20) rfl)) (hw _ (List.mem_of_getElem? (i := 22) rfl)) (E_a.ext O1.2) M_DV rfl (Nat.le_of_ble_eq_true rfl) (Nat.le_of_ble_eq_true rfl) (Nat.le_of_ble_eq_true rfl) ?_
    show OwnKit.Go κ h0 0 0 8 #[.val (.ref a), .val (.ref b), .val (.ref b), .val (.ref a)] [.ref mr]
    refine OwnKit.aloadN K d_jdk_37m8_8 rfl rfl ?_
    show OwnKit.Go κ h0 0 0 9 #[.val (.ref a), .val (.ref b), .val (.ref b), .val (.ref a)] [.ref b, .ref mr]
    refine OwnKit.old K fun O2 => ?_
    refine OwnKit.getClsS (W := 1) K d_jdk_37m8_9 (hw _ (List.mem_of_getElem? (i := 18) rfl)) (hw _ (List.mem_of_getElem? (i := 19) rfl)) (hw _ (List.mem_of_getElem? (i := 21) rfl)) (hw _ (List.mem_of_getElem? (i := 20) rfl)) (hw _ (List.mem_of_getElem? (i := 22) rfl)) (E_b.ext O2.2) M_DV rfl (Nat.le_of_ble_eq_true rfl) (Nat.le_of_ble_eq_true rfl) (Nat.le_of_ble_eq_true rfl) ?_
    show OwnKit.Go κ h0 0 0 12 #[.val (.ref a), .val (.ref b), .val (.ref b), .val (.ref a)] [.ref mr, .ref mr]
    refine OwnKit.acmpeq K d_jdk_37m8_12 (by decide) (pc' := 34) rfl rfl rfl (fun b3 => ?_) (fun b3 => ?_)
    · show OwnKit.Go κ h0 0 0 34 #[.val (.ref a), .val (.ref b), .val (.ref b), .val (.ref a)] []
      refine OwnKit.aloadN K d_jdk_37m8_34 rfl rfl ?_
      show OwnKit.Go κ h0 0 0 35 #[.val (.ref a), .val (.ref b), .val (.ref b), .val (.ref a)] [.ref a]
      refine OwnKit.getfieldZ K d_jdk_37m8_35 (host := "") (Or.inl (hw _ (List.mem_of_getElem? (i := 24) rfl))) Via.refl O_a ?_
      show OwnKit.Go κ h0 0 0 38 #[.val (.ref a), .val (.ref b), .val (.ref b), .val (.ref a)] [.int i]
      refine OwnKit.aloadN K d_jdk_37m8_38 rfl rfl ?_
      show OwnKit.Go κ h0 0 0 39 #[.val (.ref a), .val (.ref b), .val (.ref b), .val (.ref a)] [.ref b, .int i]
      refine OwnKit.getfieldZ K d_jdk_37m8_39 (host := "") (Or.inl (hw _ (List.mem_of_getElem? (i := 24) rfl))) Via.refl O_b ?_
      show OwnKit.Go κ h0 0 0 42 #[.val (.ref a), .val (.ref b), .val (.ref b), .val (.ref a)] [.int j, .int i]
      refine OwnKit.isub K d_jdk_37m8_42 ?_
      show OwnKit.Go κ h0 0 0 43 #[.val (.ref a), .val (.ref b), .val (.ref b), .val (.ref a)] [.int (i - j)]
      refine OwnKit.ireturn K d_jdk_37m8_43 (Or.inl rfl) rfl ?_ (Nat.le_of_ble_eq_true rfl) (Nat.le_of_ble_eq_true rfl)
      exact ⟨rfl, rfl⟩
    · exact absurd rfl b3
  · intro m; first | rfl | (simp [entryFrame, mkF, argsToLocals, Value.category]; done)

theorem d_prog_18m7_0 : decode prog_18_method_7_code 0 = .ok (.aload_n 0, 1) := by decide +kernel
theorem d_prog_18m7_1 : decode prog_18_method_7_code 1 = .ok (.getstatic 10, 3) := by decide +kernel
theorem d_prog_18m7_4 : decode prog_18_method_7_code 4 = .ok (.invokevirtual 162, 3) := by decide +kernel
theorem d_prog_18m7_7 : decode prog_18_method_7_code 7 = .ok (.ifCond .lt 7, 3) := by decide +kernel
theorem d_prog_18m7_10 : decode prog_18_method_7_code 10 = .ok (.iconst 1, 1) := by decide +kernel
theorem d_prog_18m7_11 : decode prog_18_method_7_code 11 = .ok (.goto 4, 3) := by decide +kernel
theorem d_prog_18m7_14 : decode prog_18_method_7_code 14 = .ok (.iconst 0, 1) := by decide +kernel
theorem d_prog_18m7_15 : decode prog_18_method_7_code 15 = .ok (.ireturn, 1) := by decide +kernel
set_option maxRecDepth 65536 in
set_option maxHeartbeats 40000000 in
theorem c_allow (l : Launch) (Z : State) (a0 : Array Value) (hw : ∀ d ∈ tables_1, d.before a0 Z = true) (n0 : Nat) (h0 : Heap) (a : Addr) (i : Int32) (a_V1_0 : Addr) (a_V1_6 : Addr) (a_V1_7 : Addr) (a_V1_5 : Addr) (a_V2_1 : Addr) (a_V2_0 : Addr) (mr : Addr) (S_V1_0 : Sta Z Z.heap "com/example/rope_bridge/ropebridge/descriptor/DescriptorVersion" "V1_0" "Lcom/example/rope_bridge/ropebridge/descriptor/DescriptorVersion;" (.ref a_V1_0)) (E_V1_0 : Exa Z Z.heap a_V1_0 "com/example/rope_bridge/ropebridge/descriptor/DescriptorVersion") (S_V1_6 : Sta Z Z.heap "com/example/rope_bridge/ropebridge/descriptor/DescriptorVersion" "V1_6" "Lcom/example/rope_bridge/ropebridge/descriptor/DescriptorVersion;" (.ref a_V1_6)) (E_V1_6 : Exa Z Z.heap a_V1_6 "com/example/rope_bridge/ropebridge/descriptor/DescriptorVersion") (F_V1_0_ordinal : Fld Z Z.heap a_V1_0 "java/lang/Enum" "ordinal" "I" (.int (0 : Int32))) (F_V1_6_ordinal : Fld Z Z.heap a_V1_6 "java/lang/Enum" "ordinal" "I" (.int (2 : Int32))) (S_V1_7 : Sta Z Z.heap "com/example/rope_bridge/ropebridge/descriptor/DescriptorVersion" "V1_7" "Lcom/example/rope_bridge/ropebridge/descriptor/DescriptorVersion;" (.ref a_V1_7)) (E_V1_7 : Exa Z Z.heap a_V1_7 "com/example/rope_bridge/ropebridge/descriptor/DescriptorVersion") (F_V1_7_ordinal : Fld Z Z.heap a_V1_7 "java/lang/Enum" "ordinal" "I" (.int (3 : Int32))) (S_V1_5 : Sta Z Z.heap "com/example/rope_bridge/ropebridge/descriptor/DescriptorVersion" "V1_5" "Lcom/example/rope_bridge/ropebridge/descriptor/DescriptorVersion;" (.ref a_V1_5)) (E_V1_5 : Exa Z Z.heap a_V1_5 "com/example/rope_bridge/ropebridge/descriptor/DescriptorVersion") (F_V1_5_ordinal : Fld Z Z.heap a_V1_5 "java/lang/Enum" "ordinal" "I" (.int (1 : Int32))) (S_V2_1 : Sta Z Z.heap "com/example/rope_bridge/ropebridge/descriptor/DescriptorVersion" "V2_1" "Lcom/example/rope_bridge/ropebridge/descriptor/DescriptorVersion;" (.ref a_V2_1)) (E_V2_1 : Exa Z Z.heap a_V2_1 "com/example/rope_bridge/ropebridge/descriptor/DescriptorVersion") (F_V2_1_ordinal : Fld Z Z.heap a_V2_1 "java/lang/Enum" "ordinal" "I" (.int (5 : Int32))) (S_V2_0 : Sta Z Z.heap "com/example/rope_bridge/ropebridge/descriptor/DescriptorVersion" "V2_0" "Lcom/example/rope_bridge/ropebridge/descriptor/DescriptorVersion;" (.ref a_V2_0)) (E_V2_0 : Exa Z Z.heap a_V2_0 "com/example/rope_bridge/ropebridge/descriptor/DescriptorVersion") (F_V2_0_ordinal : Fld Z Z.heap a_V2_0 "java/lang/Enum" "ordinal" "I" (.int (4 : Int32))) (M_DV : Mir Z "com/example/rope_bridge/ropebridge/descriptor/DescriptorVersion" mr) (E_a : Exa Z Z.heap a "com/example/rope_bridge/ropebridge/descriptor/DescriptorVersion") (O_a : Fld Z Z.heap a "java/lang/Enum" "ordinal" "I" (.int i)) :
    OwnKit.Con false l Z n0 (⟨"com/example/rope_bridge/ropebridge/descriptor/DescriptorVersion", "allowsAnnotations", "()Z"⟩ : MethodName) prog_18_method_7_code 1 (some .boolean) ({ frames := 2, cells := 0, slots := 0, locals := 56 } : Room) #[.ref a] h0 (QAllow i h0) := by
  refine OwnKit.Con.of (by first | (refine plainFor_of_name ?_; simp [plainName, overriddenIn]; done) | decide +kernel) ?_ ?_
  · intro κ hwd K0
    have K : OwnKit.Ok κ l Z n0 "com/example/rope_bridge/ropebridge/descriptor/DescriptorVersion" "allowsAnnotations" prog_18_method_7_code 1 (some .boolean) ({ frames := 2, cells := 0, slots := 0, locals := 56 } : Room) (QAllow i h0) := K0
    have ef : (entryFrame κ.m #[.ref a] 1).locals = #[.val (.ref a)] := by first | (simp [entryFrame, argsToLocals, Value.category]; done) | rfl
    rw [ef]; clear ef K0
    show OwnKit.Go κ h0 0 0 0 #[.val (.ref a)] []
    refine OwnKit.aloadN K d_prog_18m7_0 rfl rfl ?_
    show OwnKit.Go κ h0 0 0 1 #[.val (.ref a)] [.ref a]
    refine OwnKit.getstaticZ K d_prog_18m7_1 (host := "") (Or.inl (hw _ (List.mem_of_getElem? (i := 9) rfl))) Via.refl S_V1_6 ?_
    show OwnKit.Go κ h0 0 0 4 #[.val (.ref a)] [.ref a_V1_6, .ref a]
    refine OwnKit.old K fun O1 => ?_
    refine OwnKit.invVU (y := (⟨"com/example/rope_bridge/ropebridge/descriptor/DescriptorVersion", "compareTo", "(Ljava/lang/Enum;)I"⟩ : MethodName)) (z := (⟨"java/lang/Enum", "compareTo", "(Ljava/lang/Enum;)I"⟩ : MethodName)) (argsL := [.ref a_V1_6]) (rest := []) K (c_cmp l Z a0 hw n0 h0 a a_V1_6 mr i (2 : Int32) M_DV E_a O_a E_V1_6 F_V1_6_ordinal) d_prog_18m7_4 (E_a.ext O1.2) (hw _ (List.mem_of_getElem? (i := 11) rfl)) (hw _ (List.mem_of_getElem? (i := 12) rfl)) (hw _ (List.mem_of_getElem? (i := 13) rfl)) (by decide) (hw _ (List.mem_of_getElem? (i := 15) rfl)) (hw _ (List.mem_of_getElem? (i := 14) rfl)) (hw _ (List.mem_of_getElem? (i := 17) rfl)) (hw _ (List.mem_of_getElem? (i := 16) rfl)) (lenOf (by decide +kernel : parseMethodDescriptor "(Ljava/lang/Enum;)I" = some ⟨[(.object "java/lang/Enum")], some .int⟩) rfl) rfl rfl (W := 0) (Nat.le_of_ble_eq_true rfl) (Nat.le_of_ble_eq_true rfl) (Nat.le_of_ble_eq_true rfl) (Nat.le_of_ble_eq_true rfl) (Nat.le_of_ble_eq_true rfl) ?_
    rintro _ h2 ⟨rfl, rfl⟩ g3
    show OwnKit.Go κ h0 0 0 7 #[.val (.ref a)] [.int (i - (2 : Int32))]
    refine OwnKit.iflt K d_prog_18m7_7 (by decide) (pc' := 14) rfl  (fun b4 => ?_) (fun b4 => ?_)
    · show OwnKit.Go κ h0 0 0 14 #[.val (.ref a)] []
      refine OwnKit.iconst K d_prog_18m7_14 ?_
      show OwnKit.Go κ h0 0 0 15 #[.val (.ref a)] [.int (0 : Int32)]
      refine OwnKit.ireturn K d_prog_18m7_15 (Or.inr (Or.inl rfl)) rfl ?_ (Nat.le_of_ble_eq_true rfl) (Nat.le_of_ble_eq_true rfl)
      · refine ⟨⟨_, rfl, ?_⟩, rfl⟩
        first | exact Or.inl ⟨by assumption, rfl⟩ | exact Or.inr ⟨by assumption, rfl⟩
    · show OwnKit.Go κ h0 0 0 10 #[.val (.ref a)] []
      refine OwnKit.iconst K d_prog_18m7_10 ?_
      show OwnKit.Go κ h0 0 0 11 #[.val (.ref a)] [.int (1 : Int32)]
      refine OwnKit.goto K d_prog_18m7_11 (by decide) (pc' := 15) rfl ?_
      show OwnKit.Go κ h0 0 0 15 #[.val (.ref a)] [.int (1 : Int32)]
      refine OwnKit.ireturn K d_prog_18m7_15 (Or.inr (Or.inl rfl)) rfl ?_ (Nat.le_of_ble_eq_true rfl) (Nat.le_of_ble_eq_true rfl)
      · refine ⟨⟨_, rfl, ?_⟩, rfl⟩
        first | exact Or.inl ⟨by assumption, rfl⟩ | exact Or.inr ⟨by assumption, rfl⟩
  · intro m; first | rfl | (simp [entryFrame, mkF, argsToLocals, Value.category]; done)

set_option maxRecDepth 65536 in
set_option maxHeartbeats 40000000 in
theorem c_law (l : Launch) (Z : State) (a0 : Array Value) (hw : ∀ d ∈ tables_1, d.before a0 Z = true) (n0 : Nat) (h0 : Heap) (p : Int32) (a_V1_0 : Addr) (a_V1_6 : Addr) (a_V1_7 : Addr) (a_V1_5 : Addr) (a_V2_1 : Addr) (a_V2_0 : Addr) (mr : Addr) (S_V1_0 : Sta Z Z.heap "com/example/rope_bridge/ropebridge/descriptor/DescriptorVersion" "V1_0" "Lcom/example/rope_bridge/ropebridge/descriptor/DescriptorVersion;" (.ref a_V1_0)) (E_V1_0 : Exa Z Z.heap a_V1_0 "com/example/rope_bridge/ropebridge/descriptor/DescriptorVersion") (S_V1_6 : Sta Z Z.heap "com/example/rope_bridge/ropebridge/descriptor/DescriptorVersion" "V1_6" "Lcom/example/rope_bridge/ropebridge/descriptor/DescriptorVersion;" (.ref a_V1_6)) (E_V1_6 : Exa Z Z.heap a_V1_6 "com/example/rope_bridge/ropebridge/descriptor/DescriptorVersion") (F_V1_0_ordinal : Fld Z Z.heap a_V1_0 "java/lang/Enum" "ordinal" "I" (.int (0 : Int32))) (F_V1_6_ordinal : Fld Z Z.heap a_V1_6 "java/lang/Enum" "ordinal" "I" (.int (2 : Int32))) (S_V1_7 : Sta Z Z.heap "com/example/rope_bridge/ropebridge/descriptor/DescriptorVersion" "V1_7" "Lcom/example/rope_bridge/ropebridge/descriptor/DescriptorVersion;" (.ref a_V1_7)) (E_V1_7 : Exa Z Z.heap a_V1_7 "com/example/rope_bridge/ropebridge/descriptor/DescriptorVersion") (F_V1_7_ordinal : Fld Z Z.heap a_V1_7 "java/lang/Enum" "ordinal" "I" (.int (3 : Int32))) (S_V1_5 : Sta Z Z.heap "com/example/rope_bridge/ropebridge/descriptor/DescriptorVersion" "V1_5" "Lcom/example/rope_bridge/ropebridge/descriptor/DescriptorVersion;" (.ref a_V1_5)) (E_V1_5 : Exa Z Z.heap a_V1_5 "com/example/rope_bridge/ropebridge/descriptor/DescriptorVersion") (F_V1_5_ordinal : Fld Z Z.heap a_V1_5 "java/lang/Enum" "ordinal" "I" (.int (1 : Int32))) (S_V2_1 : Sta Z Z.heap "com/example/rope_bridge/ropebridge/descriptor/DescriptorVersion" "V2_1" "Lcom/example/rope_bridge/ropebridge/descriptor/DescriptorVersion;" (.ref a_V2_1)) (E_V2_1 : Exa Z Z.heap a_V2_1 "com/example/rope_bridge/ropebridge/descriptor/DescriptorVersion") (F_V2_1_ordinal : Fld Z Z.heap a_V2_1 "java/lang/Enum" "ordinal" "I" (.int (5 : Int32))) (S_V2_0 : Sta Z Z.heap "com/example/rope_bridge/ropebridge/descriptor/DescriptorVersion" "V2_0" "Lcom/example/rope_bridge/ropebridge/descriptor/DescriptorVersion;" (.ref a_V2_0)) (E_V2_0 : Exa Z Z.heap a_V2_0 "com/example/rope_bridge/ropebridge/descriptor/DescriptorVersion") (F_V2_0_ordinal : Fld Z Z.heap a_V2_0 "java/lang/Enum" "ordinal" "I" (.int (4 : Int32))) (M_DV : Mir Z "com/example/rope_bridge/ropebridge/descriptor/DescriptorVersion" mr) :
    OwnKit.Con false l Z n0 x code maxLocals ret room_1 #[.int p] h0 QLaw := by
  refine OwnKit.Con.of (by first | (refine plainFor_of_name ?_; simp [plainName, overriddenIn]; done) | decide +kernel) ?_ ?_
  · intro κ hwd K0
    have K : OwnKit.Ok κ l Z n0 "com/example/rope_bridge/ropebridge/descriptor/DescriptorVersionAllowsAnnotationsPinLaw" "law" code 4 (some .boolean) room_1 QLaw := K0
    have ef : (entryFrame κ.m #[.int p] maxLocals).locals = #[.val (.int p), .unset, .unset, .unset] := by first | (simp [entryFrame, argsToLocals, Value.category, maxLocals]; done) | rfl
    rw [ef]; clear ef K0
    show OwnKit.Go κ h0 0 0 0 #[.val (.int p), .unset, .unset, .unset] []
    refine OwnKit.iloadN K at_0 rfl ?_
    show OwnKit.Go κ h0 0 0 1 #[.val (.int p), .unset, .unset, .unset] [.int p]
    refine OwnKit.ldcI K at_1 (hw _ (List.mem_of_getElem? (i := 0) rfl)) ?_
    show OwnKit.Go κ h0 0 0 3 #[.val (.int p), .unset, .unset, .unset] [.int (2147483647 : Int32), .int p]
    refine OwnKit.iand K at_3 ?_
    show OwnKit.Go κ h0 0 0 4 #[.val (.int p), .unset, .unset, .unset] [.int (p &&& (2147483647 : Int32))]
    refine OwnKit.bipush K at_4 ?_
    show OwnKit.Go κ h0 0 0 6 #[.val (.int p), .unset, .unset, .unset] [.int (6 : Int32), .int (p &&& (2147483647 : Int32))]
    refine OwnKit.irem K at_6 (by decide) ?_
    show OwnKit.Go κ h0 0 0 7 #[.val (.int p), .unset, .unset, .unset] [.int ((p &&& (2147483647 : Int32)) % (6 : Int32))]
    refine OwnKit.istoreN K at_7 (l' := #[.val (.int p), .val (.int ((p &&& (2147483647 : Int32)) % (6 : Int32))), .unset, .unset]) rfl ?_
    show OwnKit.Go κ h0 0 0 8 #[.val (.int p), .val (.int ((p &&& (2147483647 : Int32)) % (6 : Int32))), .unset, .unset] []
    refine OwnKit.iloadN K at_8 rfl ?_
    show OwnKit.Go κ h0 0 0 9 #[.val (.int p), .val (.int ((p &&& (2147483647 : Int32)) % (6 : Int32))), .unset, .unset] [.int ((p &&& (2147483647 : Int32)) % (6 : Int32))]
    refine OwnKit.ifne K at_9 (by decide) (pc' := 21) rfl  (fun b1 => ?_) (fun b1 => ?_)
    · show OwnKit.Go κ h0 0 0 21 #[.val (.int p), .val (.int ((p &&& (2147483647 : Int32)) % (6 : Int32))), .unset, .unset] []
      refine OwnKit.iloadN K at_21 rfl ?_
      show OwnKit.Go κ h0 0 0 22 #[.val (.int p), .val (.int ((p &&& (2147483647 : Int32)) % (6 : Int32))), .unset, .unset] [.int ((p &&& (2147483647 : Int32)) % (6 : Int32))]
      refine OwnKit.iconst K at_22 ?_
      show OwnKit.Go κ h0 0 0 23 #[.val (.int p), .val (.int ((p &&& (2147483647 : Int32)) % (6 : Int32))), .unset, .unset] [.int (1 : Int32), .int ((p &&& (2147483647 : Int32)) % (6 : Int32))]
      refine OwnKit.icmpne K at_23 (by decide) (pc' := 35) rfl  (fun b2 => ?_) (fun b2 => ?_)
      · show OwnKit.Go κ h0 0 0 35 #[.val (.int p), .val (.int ((p &&& (2147483647 : Int32)) % (6 : Int32))), .unset, .unset] []
        refine OwnKit.iloadN K at_35 rfl ?_
        show OwnKit.Go κ h0 0 0 36 #[.val (.int p), .val (.int ((p &&& (2147483647 : Int32)) % (6 : Int32))), .unset, .unset] [.int ((p &&& (2147483647 : Int32)) % (6 : Int32))]
        refine OwnKit.iconst K at_36 ?_
        show OwnKit.Go κ h0 0 0 37 #[.val (.int p), .val (.int ((p &&& (2147483647 : Int32)) % (6 : Int32))), .unset, .unset] [.int (2 : Int32), .int ((p &&& (2147483647 : Int32)) % (6 : Int32))]
        refine OwnKit.icmpne K at_37 (by decide) (pc' := 49) rfl  (fun b3 => ?_) (fun b3 => ?_)
        · show OwnKit.Go κ h0 0 0 49 #[.val (.int p), .val (.int ((p &&& (2147483647 : Int32)) % (6 : Int32))), .unset, .unset] []
          refine OwnKit.iloadN K at_49 rfl ?_
          show OwnKit.Go κ h0 0 0 50 #[.val (.int p), .val (.int ((p &&& (2147483647 : Int32)) % (6 : Int32))), .unset, .unset] [.int ((p &&& (2147483647 : Int32)) % (6 : Int32))]
          refine OwnKit.iconst K at_50 ?_
          show OwnKit.Go κ h0 0 0 51 #[.val (.int p), .val (.int ((p &&& (2147483647 : Int32)) % (6 : Int32))), .unset, .unset] [.int (3 : Int32), .int ((p &&& (2147483647 : Int32)) % (6 : Int32))]
          refine OwnKit.icmpne K at_51 (by decide) (pc' := 63) rfl  (fun b4 => ?_) (fun b4 => ?_)
          · show OwnKit.Go κ h0 0 0 63 #[.val (.int p), .val (.int ((p &&& (2147483647 : Int32)) % (6 : Int32))), .unset, .unset] []
            refine OwnKit.iloadN K at_63 rfl ?_
            show OwnKit.Go κ h0 0 0 64 #[.val (.int p), .val (.int ((p &&& (2147483647 : Int32)) % (6 : Int32))), .unset, .unset] [.int ((p &&& (2147483647 : Int32)) % (6 : Int32))]
            refine OwnKit.iconst K at_64 ?_
            show OwnKit.Go κ h0 0 0 65 #[.val (.int p), .val (.int ((p &&& (2147483647 : Int32)) % (6 : Int32))), .unset, .unset] [.int (4 : Int32), .int ((p &&& (2147483647 : Int32)) % (6 : Int32))]
            refine OwnKit.icmpne K at_65 (by decide) (pc' := 77) rfl  (fun b5 => ?_) (fun b5 => ?_)
            · show OwnKit.Go κ h0 0 0 77 #[.val (.int p), .val (.int ((p &&& (2147483647 : Int32)) % (6 : Int32))), .unset, .unset] []
              refine OwnKit.getstaticZ K at_77 (host := "") (Or.inl (hw _ (List.mem_of_getElem? (i := 31) rfl))) Via.refl S_V2_1 ?_
              show OwnKit.Go κ h0 0 0 80 #[.val (.int p), .val (.int ((p &&& (2147483647 : Int32)) % (6 : Int32))), .unset, .unset] [.ref a_V2_1]
              refine OwnKit.astoreN K at_80 rfl (l' := #[.val (.int p), .val (.int ((p &&& (2147483647 : Int32)) % (6 : Int32))), .val (.ref a_V2_1), .unset]) rfl ?_
              show OwnKit.Go κ h0 0 0 81 #[.val (.int p), .val (.int ((p &&& (2147483647 : Int32)) % (6 : Int32))), .val (.ref a_V2_1), .unset] []
              refine OwnKit.iconst K at_81 ?_
              show OwnKit.Go κ h0 0 0 82 #[.val (.int p), .val (.int ((p &&& (2147483647 : Int32)) % (6 : Int32))), .val (.ref a_V2_1), .unset] [.int (1 : Int32)]
              refine OwnKit.istoreN K at_82 (l' := #[.val (.int p), .val (.int ((p &&& (2147483647 : Int32)) % (6 : Int32))), .val (.ref a_V2_1), .val (.int (1 : Int32))]) rfl ?_
              show OwnKit.Go κ h0 0 0 83 #[.val (.int p), .val (.int ((p &&& (2147483647 : Int32)) % (6 : Int32))), .val (.ref a_V2_1), .val (.int (1 : Int32))] []
              refine OwnKit.aloadN K at_83 rfl rfl ?_
              show OwnKit.Go κ h0 0 0 84 #[.val (.int p), .val (.int ((p &&& (2147483647 : Int32)) % (6 : Int32))), .val (.ref a_V2_1), .val (.int (1 : Int32))] [.ref a_V2_1]
              refine OwnKit.old K fun O6 => ?_
              refine OwnKit.invV (y := (⟨"com/example/rope_bridge/ropebridge/descriptor/DescriptorVersion", "allowsAnnotations", "()Z"⟩ : MethodName)) (z := (⟨"com/example/rope_bridge/ropebridge/descriptor/DescriptorVersion", "allowsAnnotations", "()Z"⟩ : MethodName)) (argsL := []) (rest := []) K (c_allow l Z a0 hw n0 h0 a_V2_1 (5 : Int32) a_V1_0 a_V1_6 a_V1_7 a_V1_5 a_V2_1 a_V2_0 mr S_V1_0 E_V1_0 S_V1_6 E_V1_6 F_V1_0_ordinal F_V1_6_ordinal S_V1_7 E_V1_7 F_V1_7_ordinal S_V1_5 E_V1_5 F_V1_5_ordinal S_V2_1 E_V2_1 F_V2_1_ordinal S_V2_0 E_V2_0 F_V2_0_ordinal M_DV E_V2_1 F_V2_1_ordinal) at_84 (E_V2_1.ext O6.2) (hw _ (List.mem_of_getElem? (i := 4) rfl)) (hw _ (List.mem_of_getElem? (i := 5) rfl)) (OwnKit.nfS (hw _ (List.mem_of_getElem? (i := 7) rfl))) (hw _ (List.mem_of_getElem? (i := 7) rfl)) (hw _ (List.mem_of_getElem? (i := 6) rfl)) (hw _ (List.mem_of_getElem? (i := 8) rfl)) (hw _ (List.mem_of_getElem? (i := 2) rfl)) (by decide) (lenOf (by decide +kernel : parseMethodDescriptor "()Z" = some ⟨[], some .boolean⟩) rfl) rfl rfl (W := 0) (Nat.le_of_ble_eq_true rfl) (Nat.le_of_ble_eq_true rfl) (Nat.le_of_ble_eq_true rfl) (Nat.le_of_ble_eq_true rfl) (Nat.le_of_ble_eq_true rfl) ?_
              rintro _ h7 ⟨⟨z, rfl, hz⟩, rfl⟩ g8
              show OwnKit.Go κ h0 0 0 87 #[.val (.int p), .val (.int ((p &&& (2147483647 : Int32)) % (6 : Int32))), .val (.ref a_V2_1), .val (.int (1 : Int32))] [.int z]
              refine OwnKit.iloadN K at_87 rfl ?_
              show OwnKit.Go κ h0 0 0 88 #[.val (.int p), .val (.int ((p &&& (2147483647 : Int32)) % (6 : Int32))), .val (.ref a_V2_1), .val (.int (1 : Int32))] [.int (1 : Int32), .int z]
              refine OwnKit.icmpne K at_88 (by decide) (pc' := 95) rfl  (fun b9 => ?_) (fun b9 => ?_)
              · exfalso
                rcases hz with ⟨h1, rfl⟩ | ⟨h1, rfl⟩ <;> first | exact b9 rfl | exact absurd h1 (by decide)
              · show OwnKit.Go κ h0 0 0 91 #[.val (.int p), .val (.int ((p &&& (2147483647 : Int32)) % (6 : Int32))), .val (.ref a_V2_1), .val (.int (1 : Int32))] []
                refine OwnKit.iconst K at_91 ?_
                show OwnKit.Go κ h0 0 0 92 #[.val (.int p), .val (.int ((p &&& (2147483647 : Int32)) % (6 : Int32))), .val (.ref a_V2_1), .val (.int (1 : Int32))] [.int (1 : Int32)]
                refine OwnKit.goto K at_92 (by decide) (pc' := 96) rfl ?_
                show OwnKit.Go κ h0 0 0 96 #[.val (.int p), .val (.int ((p &&& (2147483647 : Int32)) % (6 : Int32))), .val (.ref a_V2_1), .val (.int (1 : Int32))] [.int (1 : Int32)]
                refine OwnKit.ireturn K at_96 (Or.inr (Or.inl rfl)) rfl ?_ (Nat.le_of_ble_eq_true rfl) (Nat.le_of_ble_eq_true rfl)
                exact rfl
            · show OwnKit.Go κ h0 0 0 68 #[.val (.int p), .val (.int ((p &&& (2147483647 : Int32)) % (6 : Int32))), .unset, .unset] []
              refine OwnKit.getstaticZ K at_68 (host := "") (Or.inl (hw _ (List.mem_of_getElem? (i := 33) rfl))) Via.refl S_V2_0 ?_
              show OwnKit.Go κ h0 0 0 71 #[.val (.int p), .val (.int ((p &&& (2147483647 : Int32)) % (6 : Int32))), .unset, .unset] [.ref a_V2_0]
              refine OwnKit.astoreN K at_71 rfl (l' := #[.val (.int p), .val (.int ((p &&& (2147483647 : Int32)) % (6 : Int32))), .val (.ref a_V2_0), .unset]) rfl ?_
              show OwnKit.Go κ h0 0 0 72 #[.val (.int p), .val (.int ((p &&& (2147483647 : Int32)) % (6 : Int32))), .val (.ref a_V2_0), .unset] []
              refine OwnKit.iconst K at_72 ?_
              show OwnKit.Go κ h0 0 0 73 #[.val (.int p), .val (.int ((p &&& (2147483647 : Int32)) % (6 : Int32))), .val (.ref a_V2_0), .unset] [.int (1 : Int32)]
              refine OwnKit.istoreN K at_73 (l' := #[.val (.int p), .val (.int ((p &&& (2147483647 : Int32)) % (6 : Int32))), .val (.ref a_V2_0), .val (.int (1 : Int32))]) rfl ?_
              show OwnKit.Go κ h0 0 0 74 #[.val (.int p), .val (.int ((p &&& (2147483647 : Int32)) % (6 : Int32))), .val (.ref a_V2_0), .val (.int (1 : Int32))] []
              refine OwnKit.goto K at_74 (by decide) (pc' := 83) rfl ?_
              show OwnKit.Go κ h0 0 0 83 #[.val (.int p), .val (.int ((p &&& (2147483647 : Int32)) % (6 : Int32))), .val (.ref a_V2_0), .val (.int (1 : Int32))] []
              refine OwnKit.aloadN K at_83 rfl rfl ?_
              show OwnKit.Go κ h0 0 0 84 #[.val (.int p), .val (.int ((p &&& (2147483647 : Int32)) % (6 : Int32))), .val (.ref a_V2_0), .val (.int (1 : Int32))] [.ref a_V2_0]
              refine OwnKit.old K fun O10 => ?_
              refine OwnKit.invV (y := (⟨"com/example/rope_bridge/ropebridge/descriptor/DescriptorVersion", "allowsAnnotations", "()Z"⟩ : MethodName)) (z := (⟨"com/example/rope_bridge/ropebridge/descriptor/DescriptorVersion", "allowsAnnotations", "()Z"⟩ : MethodName)) (argsL := []) (rest := []) K (c_allow l Z a0 hw n0 h0 a_V2_0 (4 : Int32) a_V1_0 a_V1_6 a_V1_7 a_V1_5 a_V2_1 a_V2_0 mr S_V1_0 E_V1_0 S_V1_6 E_V1_6 F_V1_0_ordinal F_V1_6_ordinal S_V1_7 E_V1_7 F_V1_7_ordinal S_V1_5 E_V1_5 F_V1_5_ordinal S_V2_1 E_V2_1 F_V2_1_ordinal S_V2_0 E_V2_0 F_V2_0_ordinal M_DV E_V2_0 F_V2_0_ordinal) at_84 (E_V2_0.ext O10.2) (hw _ (List.mem_of_getElem? (i := 4) rfl)) (hw _ (List.mem_of_getElem? (i := 5) rfl)) (OwnKit.nfS (hw _ (List.mem_of_getElem? (i := 7) rfl))) (hw _ (List.mem_of_getElem? (i := 7) rfl)) (hw _ (List.mem_of_getElem? (i := 6) rfl)) (hw _ (List.mem_of_getElem? (i := 8) rfl)) (hw _ (List.mem_of_getElem? (i := 2) rfl)) (by decide) (lenOf (by decide +kernel : parseMethodDescriptor "()Z" = some ⟨[], some .boolean⟩) rfl) rfl rfl (W := 0) (Nat.le_of_ble_eq_true rfl) (Nat.le_of_ble_eq_true rfl) (Nat.le_of_ble_eq_true rfl) (Nat.le_of_ble_eq_true rfl) (Nat.le_of_ble_eq_true rfl) ?_
              rintro _ h11 ⟨⟨z, rfl, hz⟩, rfl⟩ g12
              show OwnKit.Go κ h0 0 0 87 #[.val (.int p), .val (.int ((p &&& (2147483647 : Int32)) % (6 : Int32))), .val (.ref a_V2_0), .val (.int (1 : Int32))] [.int z]
              refine OwnKit.iloadN K at_87 rfl ?_
              show OwnKit.Go κ h0 0 0 88 #[.val (.int p), .val (.int ((p &&& (2147483647 : Int32)) % (6 : Int32))), .val (.ref a_V2_0), .val (.int (1 : Int32))] [.int (1 : Int32), .int z]
              refine OwnKit.icmpne K at_88 (by decide) (pc' := 95) rfl  (fun b13 => ?_) (fun b13 => ?_)
              · exfalso
                rcases hz with ⟨h1, rfl⟩ | ⟨h1, rfl⟩ <;> first | exact b13 rfl | exact absurd h1 (by decide)
              · show OwnKit.Go κ h0 0 0 91 #[.val (.int p), .val (.int ((p &&& (2147483647 : Int32)) % (6 : Int32))), .val (.ref a_V2_0), .val (.int (1 : Int32))] []
                refine OwnKit.iconst K at_91 ?_
                show OwnKit.Go κ h0 0 0 92 #[.val (.int p), .val (.int ((p &&& (2147483647 : Int32)) % (6 : Int32))), .val (.ref a_V2_0), .val (.int (1 : Int32))] [.int (1 : Int32)]
                refine OwnKit.goto K at_92 (by decide) (pc' := 96) rfl ?_
                show OwnKit.Go κ h0 0 0 96 #[.val (.int p), .val (.int ((p &&& (2147483647 : Int32)) % (6 : Int32))), .val (.ref a_V2_0), .val (.int (1 : Int32))] [.int (1 : Int32)]
                refine OwnKit.ireturn K at_96 (Or.inr (Or.inl rfl)) rfl ?_ (Nat.le_of_ble_eq_true rfl) (Nat.le_of_ble_eq_true rfl)
                exact rfl
          · show OwnKit.Go κ h0 0 0 54 #[.val (.int p), .val (.int ((p &&& (2147483647 : Int32)) % (6 : Int32))), .unset, .unset] []
            refine OwnKit.getstaticZ K at_54 (host := "") (Or.inl (hw _ (List.mem_of_getElem? (i := 26) rfl))) Via.refl S_V1_7 ?_
            show OwnKit.Go κ h0 0 0 57 #[.val (.int p), .val (.int ((p &&& (2147483647 : Int32)) % (6 : Int32))), .unset, .unset] [.ref a_V1_7]
            refine OwnKit.astoreN K at_57 rfl (l' := #[.val (.int p), .val (.int ((p &&& (2147483647 : Int32)) % (6 : Int32))), .val (.ref a_V1_7), .unset]) rfl ?_
            show OwnKit.Go κ h0 0 0 58 #[.val (.int p), .val (.int ((p &&& (2147483647 : Int32)) % (6 : Int32))), .val (.ref a_V1_7), .unset] []
            refine OwnKit.iconst K at_58 ?_
            show OwnKit.Go κ h0 0 0 59 #[.val (.int p), .val (.int ((p &&& (2147483647 : Int32)) % (6 : Int32))), .val (.ref a_V1_7), .unset] [.int (1 : Int32)]
            refine OwnKit.istoreN K at_59 (l' := #[.val (.int p), .val (.int ((p &&& (2147483647 : Int32)) % (6 : Int32))), .val (.ref a_V1_7), .val (.int (1 : Int32))]) rfl ?_
            show OwnKit.Go κ h0 0 0 60 #[.val (.int p), .val (.int ((p &&& (2147483647 : Int32)) % (6 : Int32))), .val (.ref a_V1_7), .val (.int (1 : Int32))] []
            refine OwnKit.goto K at_60 (by decide) (pc' := 83) rfl ?_
            show OwnKit.Go κ h0 0 0 83 #[.val (.int p), .val (.int ((p &&& (2147483647 : Int32)) % (6 : Int32))), .val (.ref a_V1_7), .val (.int (1 : Int32))] []
            refine OwnKit.aloadN K at_83 rfl rfl ?_
            show OwnKit.Go κ h0 0 0 84 #[.val (.int p), .val (.int ((p &&& (2147483647 : Int32)) % (6 : Int32))), .val (.ref a_V1_7), .val (.int (1 : Int32))] [.ref a_V1_7]
            refine OwnKit.old K fun O14 => ?_
            refine OwnKit.invV (y := (⟨"com/example/rope_bridge/ropebridge/descriptor/DescriptorVersion", "allowsAnnotations", "()Z"⟩ : MethodName)) (z := (⟨"com/example/rope_bridge/ropebridge/descriptor/DescriptorVersion", "allowsAnnotations", "()Z"⟩ : MethodName)) (argsL := []) (rest := []) K (c_allow l Z a0 hw n0 h0 a_V1_7 (3 : Int32) a_V1_0 a_V1_6 a_V1_7 a_V1_5 a_V2_1 a_V2_0 mr S_V1_0 E_V1_0 S_V1_6 E_V1_6 F_V1_0_ordinal F_V1_6_ordinal S_V1_7 E_V1_7 F_V1_7_ordinal S_V1_5 E_V1_5 F_V1_5_ordinal S_V2_1 E_V2_1 F_V2_1_ordinal S_V2_0 E_V2_0 F_V2_0_ordinal M_DV E_V1_7 F_V1_7_ordinal) at_84 (E_V1_7.ext O14.2) (hw _ (List.mem_of_getElem? (i := 4) rfl)) (hw _ (List.mem_of_getElem? (i := 5) rfl)) (OwnKit.nfS (hw _ (List.mem_of_getElem? (i := 7) rfl))) (hw _ (List.mem_of_getElem? (i := 7) rfl)) (hw _ (List.mem_of_getElem? (i := 6) rfl)) (hw _ (List.mem_of_getElem? (i := 8) rfl)) (hw _ (List.mem_of_getElem? (i := 2) rfl)) (by decide) (lenOf (by decide +kernel : parseMethodDescriptor "()Z" = some ⟨[], some .boolean⟩) rfl) rfl rfl (W := 0) (Nat.le_of_ble_eq_true rfl) (Nat.le_of_ble_eq_true rfl) (Nat.le_of_ble_eq_true rfl) (Nat.le_of_ble_eq_true rfl) (Nat.le_of_ble_eq_true rfl) ?_
            rintro _ h15 ⟨⟨z, rfl, hz⟩, rfl⟩ g16
            show OwnKit.Go κ h0 0 0 87 #[.val (.int p), .val (.int ((p &&& (2147483647 : Int32)) % (6 : Int32))), .val (.ref a_V1_7), .val (.int (1 : Int32))] [.int z]
            refine OwnKit.iloadN K at_87 rfl ?_
            show OwnKit.Go κ h0 0 0 88 #[.val (.int p), .val (.int ((p &&& (2147483647 : Int32)) % (6 : Int32))), .val (.ref a_V1_7), .val (.int (1 : Int32))] [.int (1 : Int32), .int z]
            refine OwnKit.icmpne K at_88 (by decide) (pc' := 95) rfl  (fun b17 => ?_) (fun b17 => ?_)
            · exfalso
              rcases hz with ⟨h1, rfl⟩ | ⟨h1, rfl⟩ <;> first | exact b17 rfl | exact absurd h1 (by decide)
            · show OwnKit.Go κ h0 0 0 91 #[.val (.int p), .val (.int ((p &&& (2147483647 : Int32)) % (6 : Int32))), .val (.ref a_V1_7), .val (.int (1 : Int32))] []
              refine OwnKit.iconst K at_91 ?_
              show OwnKit.Go κ h0 0 0 92 #[.val (.int p), .val (.int ((p &&& (2147483647 : Int32)) % (6 : Int32))), .val (.ref a_V1_7), .val (.int (1 : Int32))] [.int (1 : Int32)]
              refine OwnKit.goto K at_92 (by decide) (pc' := 96) rfl ?_
              show OwnKit.Go κ h0 0 0 96 #[.val (.int p), .val (.int ((p &&& (2147483647 : Int32)) % (6 : Int32))), .val (.ref a_V1_7), .val (.int (1 : Int32))] [.int (1 : Int32)]
              refine OwnKit.ireturn K at_96 (Or.inr (Or.inl rfl)) rfl ?_ (Nat.le_of_ble_eq_true rfl) (Nat.le_of_ble_eq_true rfl)
              exact rfl
        · show OwnKit.Go κ h0 0 0 40 #[.val (.int p), .val (.int ((p &&& (2147483647 : Int32)) % (6 : Int32))), .unset, .unset] []
          refine OwnKit.getstaticZ K at_40 (host := "") (Or.inl (hw _ (List.mem_of_getElem? (i := 28) rfl))) Via.refl S_V1_6 ?_
          show OwnKit.Go κ h0 0 0 43 #[.val (.int p), .val (.int ((p &&& (2147483647 : Int32)) % (6 : Int32))), .unset, .unset] [.ref a_V1_6]
          refine OwnKit.astoreN K at_43 rfl (l' := #[.val (.int p), .val (.int ((p &&& (2147483647 : Int32)) % (6 : Int32))), .val (.ref a_V1_6), .unset]) rfl ?_
          show OwnKit.Go κ h0 0 0 44 #[.val (.int p), .val (.int ((p &&& (2147483647 : Int32)) % (6 : Int32))), .val (.ref a_V1_6), .unset] []
          refine OwnKit.iconst K at_44 ?_
          show OwnKit.Go κ h0 0 0 45 #[.val (.int p), .val (.int ((p &&& (2147483647 : Int32)) % (6 : Int32))), .val (.ref a_V1_6), .unset] [.int (1 : Int32)]
          refine OwnKit.istoreN K at_45 (l' := #[.val (.int p), .val (.int ((p &&& (2147483647 : Int32)) % (6 : Int32))), .val (.ref a_V1_6), .val (.int (1 : Int32))]) rfl ?_
          show OwnKit.Go κ h0 0 0 46 #[.val (.int p), .val (.int ((p &&& (2147483647 : Int32)) % (6 : Int32))), .val (.ref a_V1_6), .val (.int (1 : Int32))] []
          refine OwnKit.goto K at_46 (by decide) (pc' := 83) rfl ?_
          show OwnKit.Go κ h0 0 0 83 #[.val (.int p), .val (.int ((p &&& (2147483647 : Int32)) % (6 : Int32))), .val (.ref a_V1_6), .val (.int (1 : Int32))] []
          refine OwnKit.aloadN K at_83 rfl rfl ?_
          show OwnKit.Go κ h0 0 0 84 #[.val (.int p), .val (.int ((p &&& (2147483647 : Int32)) % (6 : Int32))), .val (.ref a_V1_6), .val (.int (1 : Int32))] [.ref a_V1_6]
          refine OwnKit.old K fun O18 => ?_
          refine OwnKit.invV (y := (⟨"com/example/rope_bridge/ropebridge/descriptor/DescriptorVersion", "allowsAnnotations", "()Z"⟩ : MethodName)) (z := (⟨"com/example/rope_bridge/ropebridge/descriptor/DescriptorVersion", "allowsAnnotations", "()Z"⟩ : MethodName)) (argsL := []) (rest := []) K (c_allow l Z a0 hw n0 h0 a_V1_6 (2 : Int32) a_V1_0 a_V1_6 a_V1_7 a_V1_5 a_V2_1 a_V2_0 mr S_V1_0 E_V1_0 S_V1_6 E_V1_6 F_V1_0_ordinal F_V1_6_ordinal S_V1_7 E_V1_7 F_V1_7_ordinal S_V1_5 E_V1_5 F_V1_5_ordinal S_V2_1 E_V2_1 F_V2_1_ordinal S_V2_0 E_V2_0 F_V2_0_ordinal M_DV E_V1_6 F_V1_6_ordinal) at_84 (E_V1_6.ext O18.2) (hw _ (List.mem_of_getElem? (i := 4) rfl)) (hw _ (List.mem_of_getElem? (i := 5) rfl)) (OwnKit.nfS (hw _ (List.mem_of_getElem? (i := 7) rfl))) (hw _ (List.mem_of_getElem? (i := 7) rfl)) (hw _ (List.mem_of_getElem? (i := 6) rfl)) (hw _ (List.mem_of_getElem? (i := 8) rfl)) (hw _ (List.mem_of_getElem? (i := 2) rfl)) (by decide) (lenOf (by decide +kernel : parseMethodDescriptor "()Z" = some ⟨[], some .boolean⟩) rfl) rfl rfl (W := 0) (Nat.le_of_ble_eq_true rfl) (Nat.le_of_ble_eq_true rfl) (Nat.le_of_ble_eq_true rfl) (Nat.le_of_ble_eq_true rfl) (Nat.le_of_ble_eq_true rfl) ?_
          rintro _ h19 ⟨⟨z, rfl, hz⟩, rfl⟩ g20
          show OwnKit.Go κ h0 0 0 87 #[.val (.int p), .val (.int ((p &&& (2147483647 : Int32)) % (6 : Int32))), .val (.ref a_V1_6), .val (.int (1 : Int32))] [.int z]
          refine OwnKit.iloadN K at_87 rfl ?_
          show OwnKit.Go κ h0 0 0 88 #[.val (.int p), .val (.int ((p &&& (2147483647 : Int32)) % (6 : Int32))), .val (.ref a_V1_6), .val (.int (1 : Int32))] [.int (1 : Int32), .int z]
          refine OwnKit.icmpne K at_88 (by decide) (pc' := 95) rfl  (fun b21 => ?_) (fun b21 => ?_)
          · exfalso
            rcases hz with ⟨h1, rfl⟩ | ⟨h1, rfl⟩ <;> first | exact b21 rfl | exact absurd h1 (by decide)
          · show OwnKit.Go κ h0 0 0 91 #[.val (.int p), .val (.int ((p &&& (2147483647 : Int32)) % (6 : Int32))), .val (.ref a_V1_6), .val (.int (1 : Int32))] []
            refine OwnKit.iconst K at_91 ?_
            show OwnKit.Go κ h0 0 0 92 #[.val (.int p), .val (.int ((p &&& (2147483647 : Int32)) % (6 : Int32))), .val (.ref a_V1_6), .val (.int (1 : Int32))] [.int (1 : Int32)]
            refine OwnKit.goto K at_92 (by decide) (pc' := 96) rfl ?_
            show OwnKit.Go κ h0 0 0 96 #[.val (.int p), .val (.int ((p &&& (2147483647 : Int32)) % (6 : Int32))), .val (.ref a_V1_6), .val (.int (1 : Int32))] [.int (1 : Int32)]
            refine OwnKit.ireturn K at_96 (Or.inr (Or.inl rfl)) rfl ?_ (Nat.le_of_ble_eq_true rfl) (Nat.le_of_ble_eq_true rfl)
            exact rfl
      · show OwnKit.Go κ h0 0 0 26 #[.val (.int p), .val (.int ((p &&& (2147483647 : Int32)) % (6 : Int32))), .unset, .unset] []
        refine OwnKit.getstaticZ K at_26 (host := "") (Or.inl (hw _ (List.mem_of_getElem? (i := 29) rfl))) Via.refl S_V1_5 ?_
        show OwnKit.Go κ h0 0 0 29 #[.val (.int p), .val (.int ((p &&& (2147483647 : Int32)) % (6 : Int32))), .unset, .unset] [.ref a_V1_5]
        refine OwnKit.astoreN K at_29 rfl (l' := #[.val (.int p), .val (.int ((p &&& (2147483647 : Int32)) % (6 : Int32))), .val (.ref a_V1_5), .unset]) rfl ?_
        show OwnKit.Go κ h0 0 0 30 #[.val (.int p), .val (.int ((p &&& (2147483647 : Int32)) % (6 : Int32))), .val (.ref a_V1_5), .unset] []
        refine OwnKit.iconst K at_30 ?_
        show OwnKit.Go κ h0 0 0 31 #[.val (.int p), .val (.int ((p &&& (2147483647 : Int32)) % (6 : Int32))), .val (.ref a_V1_5), .unset] [.int (0 : Int32)]
        refine OwnKit.istoreN K at_31 (l' := #[.val (.int p), .val (.int ((p &&& (2147483647 : Int32)) % (6 : Int32))), .val (.ref a_V1_5), .val (.int (0 : Int32))]) rfl ?_
        show OwnKit.Go κ h0 0 0 32 #[.val (.int p), .val (.int ((p &&& (2147483647 : Int32)) % (6 : Int32))), .val (.ref a_V1_5), .val (.int (0 : Int32))] []
        refine OwnKit.goto K at_32 (by decide) (pc' := 83) rfl ?_
        show OwnKit.Go κ h0 0 0 83 #[.val (.int p), .val (.int ((p &&& (2147483647 : Int32)) % (6 : Int32))), .val (.ref a_V1_5), .val (.int (0 : Int32))] []
        refine OwnKit.aloadN K at_83 rfl rfl ?_
        show OwnKit.Go κ h0 0 0 84 #[.val (.int p), .val (.int ((p &&& (2147483647 : Int32)) % (6 : Int32))), .val (.ref a_V1_5), .val (.int (0 : Int32))] [.ref a_V1_5]
        refine OwnKit.old K fun O22 => ?_
        refine OwnKit.invV (y := (⟨"com/example/rope_bridge/ropebridge/descriptor/DescriptorVersion", "allowsAnnotations", "()Z"⟩ : MethodName)) (z := (⟨"com/example/rope_bridge/ropebridge/descriptor/DescriptorVersion", "allowsAnnotations", "()Z"⟩ : MethodName)) (argsL := []) (rest := []) K (c_allow l Z a0 hw n0 h0 a_V1_5 (1 : Int32) a_V1_0 a_V1_6 a_V1_7 a_V1_5 a_V2_1 a_V2_0 mr S_V1_0 E_V1_0 S_V1_6 E_V1_6 F_V1_0_ordinal F_V1_6_ordinal S_V1_7 E_V1_7 F_V1_7_ordinal S_V1_5 E_V1_5 F_V1_5_ordinal S_V2_1 E_V2_1 F_V2_1_ordinal S_V2_0 E_V2_0 F_V2_0_ordinal M_DV E_V1_5 F_V1_5_ordinal) at_84 (E_V1_5.ext O22.2) (hw _ (List.mem_of_getElem? (i := 4) rfl)) (hw _ (List.mem_of_getElem? (i := 5) rfl)) (OwnKit.nfS (hw _ (List.mem_of_getElem? (i := 7) rfl))) (hw _ (List.mem_of_getElem? (i := 7) rfl)) (hw _ (List.mem_of_getElem? (i := 6) rfl)) (hw _ (List.mem_of_getElem? (i := 8) rfl)) (hw _ (List.mem_of_getElem? (i := 2) rfl)) (by decide) (lenOf (by decide +kernel : parseMethodDescriptor "()Z" = some ⟨[], some .boolean⟩) rfl) rfl rfl (W := 0) (Nat.le_of_ble_eq_true rfl) (Nat.le_of_ble_eq_true rfl) (Nat.le_of_ble_eq_true rfl) (Nat.le_of_ble_eq_true rfl) (Nat.le_of_ble_eq_true rfl) ?_
        rintro _ h23 ⟨⟨z, rfl, hz⟩, rfl⟩ g24
        show OwnKit.Go κ h0 0 0 87 #[.val (.int p), .val (.int ((p &&& (2147483647 : Int32)) % (6 : Int32))), .val (.ref a_V1_5), .val (.int (0 : Int32))] [.int z]
        refine OwnKit.iloadN K at_87 rfl ?_
        show OwnKit.Go κ h0 0 0 88 #[.val (.int p), .val (.int ((p &&& (2147483647 : Int32)) % (6 : Int32))), .val (.ref a_V1_5), .val (.int (0 : Int32))] [.int (0 : Int32), .int z]
        refine OwnKit.icmpne K at_88 (by decide) (pc' := 95) rfl  (fun b25 => ?_) (fun b25 => ?_)
        · exfalso
          rcases hz with ⟨h1, rfl⟩ | ⟨h1, rfl⟩ <;> first | exact b25 rfl | exact absurd h1 (by decide)
        · show OwnKit.Go κ h0 0 0 91 #[.val (.int p), .val (.int ((p &&& (2147483647 : Int32)) % (6 : Int32))), .val (.ref a_V1_5), .val (.int (0 : Int32))] []
          refine OwnKit.iconst K at_91 ?_
          show OwnKit.Go κ h0 0 0 92 #[.val (.int p), .val (.int ((p &&& (2147483647 : Int32)) % (6 : Int32))), .val (.ref a_V1_5), .val (.int (0 : Int32))] [.int (1 : Int32)]
          refine OwnKit.goto K at_92 (by decide) (pc' := 96) rfl ?_
          show OwnKit.Go κ h0 0 0 96 #[.val (.int p), .val (.int ((p &&& (2147483647 : Int32)) % (6 : Int32))), .val (.ref a_V1_5), .val (.int (0 : Int32))] [.int (1 : Int32)]
          refine OwnKit.ireturn K at_96 (Or.inr (Or.inl rfl)) rfl ?_ (Nat.le_of_ble_eq_true rfl) (Nat.le_of_ble_eq_true rfl)
          exact rfl
    · show OwnKit.Go κ h0 0 0 12 #[.val (.int p), .val (.int ((p &&& (2147483647 : Int32)) % (6 : Int32))), .unset, .unset] []
      refine OwnKit.getstaticZ K at_12 (host := "") (Or.inl (hw _ (List.mem_of_getElem? (i := 1) rfl))) Via.refl S_V1_0 ?_
      show OwnKit.Go κ h0 0 0 15 #[.val (.int p), .val (.int ((p &&& (2147483647 : Int32)) % (6 : Int32))), .unset, .unset] [.ref a_V1_0]
      refine OwnKit.astoreN K at_15 rfl (l' := #[.val (.int p), .val (.int ((p &&& (2147483647 : Int32)) % (6 : Int32))), .val (.ref a_V1_0), .unset]) rfl ?_
      show OwnKit.Go κ h0 0 0 16 #[.val (.int p), .val (.int ((p &&& (2147483647 : Int32)) % (6 : Int32))), .val (.ref a_V1_0), .unset] []
      refine OwnKit.iconst K at_16 ?_
      show OwnKit.Go κ h0 0 0 17 #[.val (.int p), .val (.int ((p &&& (2147483647 : Int32)) % (6 : Int32))), .val (.ref a_V1_0), .unset] [.int (0 : Int32)]
      refine OwnKit.istoreN K at_17 (l' := #[.val (.int p), .val (.int ((p &&& (2147483647 : Int32)) % (6 : Int32))), .val (.ref a_V1_0), .val (.int (0 : Int32))]) rfl ?_
      show OwnKit.Go κ h0 0 0 18 #[.val (.int p), .val (.int ((p &&& (2147483647 : Int32)) % (6 : Int32))), .val (.ref a_V1_0), .val (.int (0 : Int32))] []
      refine OwnKit.goto K at_18 (by decide) (pc' := 83) rfl ?_
      show OwnKit.Go κ h0 0 0 83 #[.val (.int p), .val (.int ((p &&& (2147483647 : Int32)) % (6 : Int32))), .val (.ref a_V1_0), .val (.int (0 : Int32))] []
      refine OwnKit.aloadN K at_83 rfl rfl ?_
      show OwnKit.Go κ h0 0 0 84 #[.val (.int p), .val (.int ((p &&& (2147483647 : Int32)) % (6 : Int32))), .val (.ref a_V1_0), .val (.int (0 : Int32))] [.ref a_V1_0]
      refine OwnKit.old K fun O26 => ?_
      refine OwnKit.invV (y := (⟨"com/example/rope_bridge/ropebridge/descriptor/DescriptorVersion", "allowsAnnotations", "()Z"⟩ : MethodName)) (z := (⟨"com/example/rope_bridge/ropebridge/descriptor/DescriptorVersion", "allowsAnnotations", "()Z"⟩ : MethodName)) (argsL := []) (rest := []) K (c_allow l Z a0 hw n0 h0 a_V1_0 (0 : Int32) a_V1_0 a_V1_6 a_V1_7 a_V1_5 a_V2_1 a_V2_0 mr S_V1_0 E_V1_0 S_V1_6 E_V1_6 F_V1_0_ordinal F_V1_6_ordinal S_V1_7 E_V1_7 F_V1_7_ordinal S_V1_5 E_V1_5 F_V1_5_ordinal S_V2_1 E_V2_1 F_V2_1_ordinal S_V2_0 E_V2_0 F_V2_0_ordinal M_DV E_V1_0 F_V1_0_ordinal) at_84 (E_V1_0.ext O26.2) (hw _ (List.mem_of_getElem? (i := 4) rfl)) (hw _ (List.mem_of_getElem? (i := 5) rfl)) (OwnKit.nfS (hw _ (List.mem_of_getElem? (i := 7) rfl))) (hw _ (List.mem_of_getElem? (i := 7) rfl)) (hw _ (List.mem_of_getElem? (i := 6) rfl)) (hw _ (List.mem_of_getElem? (i := 8) rfl)) (hw _ (List.mem_of_getElem? (i := 2) rfl)) (by decide) (lenOf (by decide +kernel : parseMethodDescriptor "()Z" = some ⟨[], some .boolean⟩) rfl) rfl rfl (W := 0) (Nat.le_of_ble_eq_true rfl) (Nat.le_of_ble_eq_true rfl) (Nat.le_of_ble_eq_true rfl) (Nat.le_of_ble_eq_true rfl) (Nat.le_of_ble_eq_true rfl) ?_
      rintro _ h27 ⟨⟨z, rfl, hz⟩, rfl⟩ g28
      show OwnKit.Go κ h0 0 0 87 #[.val (.int p), .val (.int ((p &&& (2147483647 : Int32)) % (6 : Int32))), .val (.ref a_V1_0), .val (.int (0 : Int32))] [.int z]
      refine OwnKit.iloadN K at_87 rfl ?_
      show OwnKit.Go κ h0 0 0 88 #[.val (.int p), .val (.int ((p &&& (2147483647 : Int32)) % (6 : Int32))), .val (.ref a_V1_0), .val (.int (0 : Int32))] [.int (0 : Int32), .int z]
      refine OwnKit.icmpne K at_88 (by decide) (pc' := 95) rfl  (fun b29 => ?_) (fun b29 => ?_)
      · exfalso
        rcases hz with ⟨h1, rfl⟩ | ⟨h1, rfl⟩ <;> first | exact b29 rfl | exact absurd h1 (by decide)
      · show OwnKit.Go κ h0 0 0 91 #[.val (.int p), .val (.int ((p &&& (2147483647 : Int32)) % (6 : Int32))), .val (.ref a_V1_0), .val (.int (0 : Int32))] []
        refine OwnKit.iconst K at_91 ?_
        show OwnKit.Go κ h0 0 0 92 #[.val (.int p), .val (.int ((p &&& (2147483647 : Int32)) % (6 : Int32))), .val (.ref a_V1_0), .val (.int (0 : Int32))] [.int (1 : Int32)]
        refine OwnKit.goto K at_92 (by decide) (pc' := 96) rfl ?_
        show OwnKit.Go κ h0 0 0 96 #[.val (.int p), .val (.int ((p &&& (2147483647 : Int32)) % (6 : Int32))), .val (.ref a_V1_0), .val (.int (0 : Int32))] [.int (1 : Int32)]
        refine OwnKit.ireturn K at_96 (Or.inr (Or.inl rfl)) rfl ?_ (Nat.le_of_ble_eq_true rfl) (Nat.le_of_ble_eq_true rfl)
        exact rfl
  · intro m; first | rfl | (simp [entryFrame, mkF, argsToLocals, Value.category, maxLocals]; done)

set_option maxRecDepth 65536 in
set_option maxHeartbeats 40000000 in
theorem comes_1 {Post : Tables → Env → Array Value → State → Outcome → State → Prop} (hpost : ∀ tb e args s v u, (limb_1_1.after args s (.returned v) u = true ∧ limb_1_2.after args s (.returned v) u = true ∧ True) → FrameEnd s (.returned v) u (Jvm.fieldLocs frame_1_writes args s ++ Jvm.arrayLocs frame_1_arrays args s ++ Jvm.staticLocs frame_1_statics s) 0 0 → Post tb e args s (.returned v) u) :
    ArmFor flags0 classFile x code maxLocals ret World_1 tables_1 room_1 Calls_1 rest_1 Pre_1 Post := by
  intro l hfl _ _ p e ha hc hk s m args below hf hA hF happ hP
  obtain ⟨hcalls, hrest, hpre⟩ := hP
  obtain ⟨-, -, -, hnamed, -, -, -, hat⟩ := (Spec.applies_iff hf).mp happ
  obtain ⟨hg, hn⟩ := and_e (Cond.before_iff.mp (show (Jvm.Cond.and given_1 narrow_1).before args s = true from hpre))
  obtain ⟨hg0, hg1⟩ := and_e hg
  obtain ⟨w0, rfl⟩ : ∃ w0 : Value, args = #[w0] := by
    have hs : args.size = 1 := by simpa [Cond.value, given_1] using hg0
    obtain ⟨L⟩ := args
    match L, hs with
    | [w0], _ => exact ⟨w0, rfl⟩
  have hw := fun d (hd : d ∈ tables_1) => atoms_spec (ws := Jvm.Cond.code x code maxLocals ret :: tables_1) hat d (List.mem_cons_of_mem _ hd)
  have hfit : Fit s := fun {y c} hc i hi => by
    obtain ⟨ha, rfl⟩ := Array.getElem?_eq_some_iff.mp hc
    have q := List.all_eq_true.mp ((Array.all_eq_true_iff_forall_mem.mp hF) _ (Array.getElem_mem ha)) i (List.mem_range.mpr hi)
    simpa [Array.getElem?_eq_getElem hi] using q
  obtain ⟨p0, ep0⟩ := is_v hg1
  obtain rfl : w0 = (.int p0) := Option.some.inj ep0
  obtain ⟨cn0, rn0⟩ := and_e hn
  obtain ⟨cn1, rn1⟩ := and_e rn0
  obtain ⟨cn2, rn2⟩ := and_e rn1
  obtain ⟨cn3, rn3⟩ := and_e rn2
  obtain ⟨cn4, rn4⟩ := and_e rn3
  obtain ⟨cn5, rn5⟩ := and_e rn4
  obtain ⟨cn6, rn6⟩ := and_e rn5
  obtain ⟨cn7, rn7⟩ := and_e rn6
  obtain ⟨cn8, rn8⟩ := and_e rn7
  obtain ⟨cn9, rn9⟩ := and_e rn8
  obtain ⟨cn10, rn10⟩ := and_e rn9
  obtain ⟨a_V1_0, ev_V1_0⟩ := exa_v cn0
  have S_V1_0 := OwnKit.stZ ev_V1_0 (hw _ (List.mem_of_getElem? (i := 2) rfl)) (hw _ (List.mem_of_getElem? (i := 3) rfl))
  have E_V1_0 := Exa.start ev_V1_0 cn0
  obtain ⟨a_V1_6, ev_V1_6⟩ := exa_v cn1
  have S_V1_6 := OwnKit.stZ ev_V1_6 (hw _ (List.mem_of_getElem? (i := 2) rfl)) (hw _ (List.mem_of_getElem? (i := 10) rfl))
  have E_V1_6 := Exa.start ev_V1_6 cn1
  have F_V1_0_ordinal := OwnKit.fldI ev_V1_0 cn2
  have F_V1_6_ordinal := OwnKit.fldI ev_V1_6 cn3
  obtain ⟨a_V1_7, ev_V1_7⟩ := exa_v cn4
  have S_V1_7 := OwnKit.stZ ev_V1_7 (hw _ (List.mem_of_getElem? (i := 2) rfl)) (hw _ (List.mem_of_getElem? (i := 27) rfl))
  have E_V1_7 := Exa.start ev_V1_7 cn4
  have F_V1_7_ordinal := OwnKit.fldI ev_V1_7 cn5
  obtain ⟨a_V1_5, ev_V1_5⟩ := exa_v cn6
  have S_V1_5 := OwnKit.stZ ev_V1_5 (hw _ (List.mem_of_getElem? (i := 2) rfl)) (hw _ (List.mem_of_getElem? (i := 30) rfl))
  have E_V1_5 := Exa.start ev_V1_5 cn6
  have F_V1_5_ordinal := OwnKit.fldI ev_V1_5 cn7
  obtain ⟨a_V2_1, ev_V2_1⟩ := exa_v cn8
  have S_V2_1 := OwnKit.stZ ev_V2_1 (hw _ (List.mem_of_getElem? (i := 2) rfl)) (hw _ (List.mem_of_getElem? (i := 32) rfl))
  have E_V2_1 := Exa.start ev_V2_1 cn8
  have F_V2_1_ordinal := OwnKit.fldI ev_V2_1 cn9
  obtain ⟨a_V2_0, ev_V2_0⟩ := exa_v cn10
  have S_V2_0 := OwnKit.stZ ev_V2_0 (hw _ (List.mem_of_getElem? (i := 2) rfl)) (hw _ (List.mem_of_getElem? (i := 34) rfl))
  have E_V2_0 := Exa.start ev_V2_0 cn10
  have F_V2_0_ordinal := OwnKit.fldI ev_V2_0 rn10
  obtain ⟨⟨cM, kM, mr, m1M, m2M, m3M, m4M⟩, -⟩ := hcalls
  have M_DV : Mir s "com/example/rope_bridge/ropebridge/descriptor/DescriptorVersion" mr := ⟨cM, kM, m1M, m2M, m3M, m4M⟩
  obtain ⟨n, o, h1, h2, h3, v, L, rfl, ⟨q1, N, -, -⟩, hq⟩ := (c_law l s _ hw _ s.heap p0 a_V1_0 a_V1_6 a_V1_7 a_V1_5 a_V2_1 a_V2_0 mr S_V1_0 E_V1_0 S_V1_6 E_V1_6 F_V1_0_ordinal F_V1_6_ordinal S_V1_7 E_V1_7 F_V1_7_ordinal S_V1_5 E_V1_5 F_V1_5_ordinal S_V2_1 E_V2_1 F_V2_1_ordinal S_V2_0 E_V2_0 F_V2_0_ordinal M_DV) (Old.start s) tables_1 p e ha hc hk s m _ below hf ((Spec.applies_iff_loose hf).mp happ).1 ⟨rfl, State.Warmed39.refl s, rfl⟩ trivial
  obtain rfl : v = some (.int 1) := q1
  refine ⟨n, _, h1, h2, h3, hpost _ _ _ _ _ _ ⟨Cond.after_iff.mpr rfl, Cond.after_iff.mpr (eq_i res_at (Term.int_eval (1)) rfl), trivial⟩ ⟨(hq.1 rfl).1, (hq.1 rfl).2.1, ((hq.1 rfl).2.2.sift fun y hy => Or.inr (N y hy)).mono (by decide) (by decide)⟩⟩
theorem main_1_1 : Claimed_1_1 := comes_1 fun _ _ _ _ _ _ h hF => ⟨h.1, hF⟩
theorem main_1_2 : Claimed_1_2 := comes_1 fun _ _ _ _ _ _ h hF => ⟨h.2.1, hF⟩
end Jvm.Pilot.@@N@@
namespace Jvm.Pilot.@@N@@
open Jvm Jvm.ClassFile Sem Op Lib Jvm.Free Jvm.Stand Jvm.Pilot.@@N@@.Jvm.D
/-! MADE BY PROGRAM (witnessworld.py) out of the Statement's table words and the real class files: 12 classes; the members and pool entries that the words name. The judged class is class 1, her method 1. -/
namespace start1
open Jvm.ClassFile
def u (s : String) : CpInfo := .utf8 (stringToUtf16 s)
/-- a pool by its gaps: so many unusable entries, then the entry; so many at the end -/
def gap : Nat → List CpInfo → List CpInfo
  | 0, r => r
  | n + 1, r => .unusable :: gap n r
def poolList (es : List (Nat × CpInfo)) (last : Nat) : List CpInfo := es.foldr (fun e r => gap e.1 (e.2 :: r)) (gap last [])
def pool (es : List (Nat × CpInfo)) (last : Nat) : Array CpInfo := ⟨poolList es last⟩
def fileOf (pool : Array CpInfo) (this : Nat) (attrs : Array Attribute := #[]) (ms : Array MethodInfo := #[]) (fl : Nat := 33) (sup : Nat := 0) (ifs : Array Nat := #[]) (fds : Array FieldInfo := #[]) : ClassFile where
  minorVersion := 0
  majorVersion := 65
  constantPool := pool
  accessFlags := fl
  thisClass := this
  superClass := sup
  interfaces := ifs
  fields := fds
  methods := ms
  attributes := attrs
def plain (name : String) (sup : Option ClassId) : Class where
  name := name
  kind := .ordinary
  loader := none
  accessFlags := 33
  super := sup
  interfaces := #[]
  cf := none
  fields := #[]
  methods := #[]
  instanceTypes := #[]
  staticTypes := #[]
  resolved := #[]
  callSites := []
  init := .initialized
  statics := none
  mirror := none

def pool0 : Array CpInfo := pool [(5, u "<init>"), (0, u "()V"), (1, .class_ 10), (1, u "java/lang/Object"), (0, u "getClass"), (0, u "()Ljava/lang/Class;")] 111

def k0m0 : Method := { name := "<init>", desc := "()V", sig := { parameters := [], returnType := none }, accessFlags := 1, code := none }
def k0m1 : Method := { name := "getClass", desc := "()Ljava/lang/Class;", sig := { parameters := [], returnType := some (.object "java/lang/Class") }, accessFlags := 273, code := none }
/-- java/lang/Object -/
def k0 : Class := { plain "java/lang/Object" none with
  accessFlags := 33
  interfaces := #[]
  cf := some (fileOf pool0 8 #[] #[{ accessFlags := 1, nameIndex := 5, descriptorIndex := 6, attributes := #[] }, { accessFlags := 273, nameIndex := 11, descriptorIndex := 12, attributes := #[] }] 33 0 #[] #[])
  fields := #[]
  methods := #[k0m0, k0m1]
  instanceTypes := #[]
  staticTypes := #[]
  resolved := Array.replicate 124 none
  statics := none }

def pool1 : Array CpInfo := pool [(2, .class_ 4), (1, u "java/lang/Object"), (0, u "<init>"), (0, u "()V"), (0, .integer 2147483647), (0, .fieldref 9 10), (0, .class_ 11), (0, .nameAndType 12 13), (0, u "com/example/rope_bridge/ropebridge/descriptor/DescriptorVersion"), (0, u "V1_0"), (0, u "Lcom/example/rope_bridge/ropebridge/descriptor/DescriptorVersion;"), (0, .fieldref 9 15), (0, .nameAndType 16 13), (0, u "V1_5"), (0, .fieldref 9 18), (0, .nameAndType 19 13), (0, u "V1_6"), (0, .fieldref 9 21), (0, .nameAndType 22 13), (0, u "V1_7"), (0, .fieldref 9 24), (0, .nameAndType 25 13), (0, u "V2_0"), (0, .fieldref 9 27), (0, .nameAndType 28 13), (0, u "V2_1"), (0, .methodref 9 30), (0, .nameAndType 31 32), (0, u "allowsAnnotations"), (0, u "()Z"), (0, .class_ 34), (0, u "com/example/rope_bridge/ropebridge/descriptor/DescriptorVersionAllowsAnnotationsPinLaw"), (2, u "law"), (0, u "(I)Z")] 3

def k1m0 : Method := { name := "<init>", desc := "()V", sig := { parameters := [], returnType := none }, accessFlags := 1, code := none }
def k1c1 : Code := { maxStack := 2, maxLocals := 4, code := code, exceptionTable := #[], attributes := #[] }
def k1m1 : Method := { name := "law", desc := "(I)Z", sig := { parameters := [.int], returnType := some .boolean }, accessFlags := 9, code := some k1c1 }
/-- com/example/rope_bridge/ropebridge/descriptor/DescriptorVersionAllowsAnnotationsPinLaw -/
def k1 : Class := { plain "com/example/rope_bridge/ropebridge/descriptor/DescriptorVersionAllowsAnnotationsPinLaw" (some 0) with
  accessFlags := 49
  interfaces := #[]
  cf := some (fileOf pool1 33 #[] #[{ accessFlags := 1, nameIndex := 5, descriptorIndex := 6, attributes := #[] }, { accessFlags := 9, nameIndex := 37, descriptorIndex := 38, attributes := #[] }] 49 2 #[] #[])
  fields := #[]
  methods := #[k1m0, k1m1]
  instanceTypes := #[]
  staticTypes := #[]
  resolved := Array.replicate 42 none
  statics := none }

def pool2 : Array CpInfo := pool [(1, .class_ 2), (0, u "java/lang/constant/Constable"), (0, .class_ 4), (0, u "java/lang/Object")] 6

/-- java/lang/constant/Constable -/
def k2 : Class := { plain "java/lang/constant/Constable" (some 0) with
  accessFlags := 1537
  interfaces := #[]
  cf := some (fileOf pool2 1 #[] #[] 1537 3 #[] #[])
  fields := #[]
  methods := #[]
  instanceTypes := #[]
  staticTypes := #[]
  resolved := Array.replicate 11 none
  statics := none }

def pool3 : Array CpInfo := pool [(1, .class_ 2), (0, u "java/lang/Comparable"), (0, .class_ 4), (0, u "java/lang/Object")] 7

/-- java/lang/Comparable -/
def k3 : Class := { plain "java/lang/Comparable" (some 0) with
  accessFlags := 1537
  interfaces := #[]
  cf := some (fileOf pool3 1 #[] #[] 1537 3 #[] #[])
  fields := #[]
  methods := #[]
  instanceTypes := #[]
  staticTypes := #[]
  resolved := Array.replicate 12 none
  statics := none }

def pool4 : Array CpInfo := pool [(1, .class_ 2), (0, u "java/io/Serializable"), (0, .class_ 4), (0, u "java/lang/Object")] 2

/-- java/io/Serializable -/
def k4 : Class := { plain "java/io/Serializable" (some 0) with
  accessFlags := 1537
  interfaces := #[]
  cf := some (fileOf pool4 1 #[] #[] 1537 3 #[] #[])
  fields := #[]
  methods := #[]
  instanceTypes := #[]
  staticTypes := #[]
  resolved := Array.replicate 7 none
  statics := none }

def pool5 : Array CpInfo := pool [(2, .class_ 4), (1, u "java/lang/Enum"), (0, u "name"), (0, u "Ljava/lang/String;"), (0, .fieldref 2 8), (0, .nameAndType 9 10), (0, u "ordinal"), (0, u "I"), (1, .class_ 14), (1, u "java/lang/Object"), (4, u "hash"), (9, .methodref 12 30), (0, .nameAndType 31 32), (0, u "getClass"), (0, u "()Ljava/lang/Class;"), (70, u "compareTo"), (0, u "(Ljava/lang/Enum;)I"), (1, .class_ 108), (1, u "java/lang/Enum$EnumDesc"), (2, .class_ 112), (0, u "java/lang/constant/Constable"), (0, .class_ 114), (0, u "java/lang/Comparable"), (0, .class_ 116), (0, u "java/io/Serializable")] 87

def k5c0 : Code := { maxStack := 2, maxLocals := 4, code := jdk_37_method_8_code, exceptionTable := #[], attributes := #[] }
def k5m0 : Method := { name := "compareTo", desc := "(Ljava/lang/Enum;)I", sig := { parameters := [(.object "java/lang/Enum")], returnType := some .int }, accessFlags := 17, code := some k5c0 }
/-- java/lang/Enum -/
def k5 : Class := { plain "java/lang/Enum" (some 0) with
  accessFlags := 1057
  interfaces := #[2, 3, 4]
  cf := some (fileOf pool5 2 #[.nestMembers #[106]] #[{ accessFlags := 17, nameIndex := 103, descriptorIndex := 104, attributes := #[] }] 1057 12 #[111, 113, 115] #[{ accessFlags := 18, nameIndex := 5, descriptorIndex := 6, attributes := #[] }, { accessFlags := 18, nameIndex := 9, descriptorIndex := 10, attributes := #[] }, { accessFlags := 2, nameIndex := 19, descriptorIndex := 10, attributes := #[] }])
  fields := #[{ name := "name", type := (.object "java/lang/String"), accessFlags := 18, slot := 0, constantValue := 0 }, { name := "ordinal", type := .int, accessFlags := 18, slot := 1, constantValue := 0 }, { name := "hash", type := .int, accessFlags := 2, slot := 2, constantValue := 0 }]
  methods := #[k5m0]
  instanceTypes := #[(.object "java/lang/String"), .int, .int]
  staticTypes := #[]
  resolved := Array.replicate 204 none
  statics := none }

def pool6 : Array CpInfo := pool [(1, .class_ 2), (0, u "com/example/rope_bridge/ropebridge/descriptor/DescriptorVersion"), (2, u "V1_0"), (0, u "Lcom/example/rope_bridge/ropebridge/descriptor/DescriptorVersion;"), (2, u "V1_5"), (0, .fieldref 1 11), (0, .nameAndType 12 6), (0, u "V1_6"), (2, u "V1_7"), (2, u "V2_0"), (2, u "V2_1"), (2, u "$VALUES"), (0, u "[Lcom/example/rope_bridge/ropebridge/descriptor/DescriptorVersion;"), (6, .class_ 34), (1, u "java/lang/Enum"), (8, u "number"), (0, u "Ljava/lang/String;"), (2, u "namespace"), (8, u "rootAttributes"), (0, u "Ljava/util/Set;"), (5, u "()Z"), (98, .methodref 1 163), (0, .nameAndType 164 165), (0, u "compareTo"), (0, u "(Ljava/lang/Enum;)I"), (17, u "DESCRIPTIVE"), (83, u "METADATA_COMPLETE"), (1, u "JAKARTA_EE"), (0, u "VERSION"), (0, u "ROOT"), (10, u "allowsAnnotations")] 69

def k6c0 : Code := { maxStack := 2, maxLocals := 1, code := prog_18_method_7_code, exceptionTable := #[], attributes := #[] }
def k6m0 : Method := { name := "allowsAnnotations", desc := "()Z", sig := { parameters := [], returnType := some .boolean }, accessFlags := 0, code := some k6c0 }
/-- com/example/rope_bridge/ropebridge/descriptor/DescriptorVersion -/
def k6 : Class := { plain "com/example/rope_bridge/ropebridge/descriptor/DescriptorVersion" (some 5) with
  accessFlags := 16433
  interfaces := #[]
  cf := some (fileOf pool6 1 #[] #[{ accessFlags := 0, nameIndex := 282, descriptorIndex := 63, attributes := #[] }] 16433 32 #[] #[{ accessFlags := 16409, nameIndex := 5, descriptorIndex := 6, attributes := #[] }, { accessFlags := 16409, nameIndex := 9, descriptorIndex := 6, attributes := #[] }, { accessFlags := 16409, nameIndex := 12, descriptorIndex := 6, attributes := #[] }, { accessFlags := 16409, nameIndex := 15, descriptorIndex := 6, attributes := #[] }, { accessFlags := 16409, nameIndex := 18, descriptorIndex := 6, attributes := #[] }, { accessFlags := 16409, nameIndex := 21, descriptorIndex := 6, attributes := #[] }, { accessFlags := 24, nameIndex := 267, descriptorIndex := 44, attributes := #[] }, { accessFlags := 26, nameIndex := 269, descriptorIndex := 44, attributes := #[] }, { accessFlags := 26, nameIndex := 270, descriptorIndex := 44, attributes := #[] }, { accessFlags := 26, nameIndex := 271, descriptorIndex := 44, attributes := #[] }, { accessFlags := 26, nameIndex := 183, descriptorIndex := 57, attributes := #[] }, { accessFlags := 18, nameIndex := 43, descriptorIndex := 44, attributes := #[] }, { accessFlags := 18, nameIndex := 47, descriptorIndex := 44, attributes := #[] }, { accessFlags := 18, nameIndex := 56, descriptorIndex := 57, attributes := #[] }, { accessFlags := 4122, nameIndex := 24, descriptorIndex := 25, attributes := #[] }])
  fields := #[{ name := "V1_0", type := (.object "com/example/rope_bridge/ropebridge/descriptor/DescriptorVersion"), accessFlags := 16409, slot := 0, constantValue := 0 }, { name := "V1_5", type := (.object "com/example/rope_bridge/ropebridge/descriptor/DescriptorVersion"), accessFlags := 16409, slot := 1, constantValue := 0 }, { name := "V1_6", type := (.object "com/example/rope_bridge/ropebridge/descriptor/DescriptorVersion"), accessFlags := 16409, slot := 2, constantValue := 0 }, { name := "V1_7", type := (.object "com/example/rope_bridge/ropebridge/descriptor/DescriptorVersion"), accessFlags := 16409, slot := 3, constantValue := 0 }, { name := "V2_0", type := (.object "com/example/rope_bridge/ropebridge/descriptor/DescriptorVersion"), accessFlags := 16409, slot := 4, constantValue := 0 }, { name := "V2_1", type := (.object "com/example/rope_bridge/ropebridge/descriptor/DescriptorVersion"), accessFlags := 16409, slot := 5, constantValue := 0 }, { name := "METADATA_COMPLETE", type := (.object "java/lang/String"), accessFlags := 24, slot := 6, constantValue := 0 }, { name := "JAKARTA_EE", type := (.object "java/lang/String"), accessFlags := 26, slot := 7, constantValue := 0 }, { name := "VERSION", type := (.object "java/lang/String"), accessFlags := 26, slot := 8, constantValue := 0 }, { name := "ROOT", type := (.object "java/lang/String"), accessFlags := 26, slot := 9, constantValue := 0 }, { name := "DESCRIPTIVE", type := (.object "java/util/Set"), accessFlags := 26, slot := 10, constantValue := 0 }, { name := "number", type := (.object "java/lang/String"), accessFlags := 18, slot := 3, constantValue := 0 }, { name := "namespace", type := (.object "java/lang/String"), accessFlags := 18, slot := 4, constantValue := 0 }, { name := "rootAttributes", type := (.object "java/util/Set"), accessFlags := 18, slot := 5, constantValue := 0 }, { name := "$VALUES", type := (.array (.object "com/example/rope_bridge/ropebridge/descriptor/DescriptorVersion")), accessFlags := 4122, slot := 11, constantValue := 0 }]
  methods := #[k6m0]
  instanceTypes := #[(.object "java/lang/String"), .int, .int, (.object "java/lang/String"), (.object "java/lang/String"), (.object "java/util/Set")]
  staticTypes := #[(.object "com/example/rope_bridge/ropebridge/descriptor/DescriptorVersion"), (.object "com/example/rope_bridge/ropebridge/descriptor/DescriptorVersion"), (.object "com/example/rope_bridge/ropebridge/descriptor/DescriptorVersion"), (.object "com/example/rope_bridge/ropebridge/descriptor/DescriptorVersion"), (.object "com/example/rope_bridge/ropebridge/descriptor/DescriptorVersion"), (.object "com/example/rope_bridge/ropebridge/descriptor/DescriptorVersion"), (.object "java/lang/String"), (.object "java/lang/String"), (.object "java/lang/String"), (.object "java/lang/String"), (.object "java/util/Set"), (.array (.object "com/example/rope_bridge/ropebridge/descriptor/DescriptorVersion"))]
  resolved := Array.replicate 352 none
  mirror := some 1
  statics := some 0 }

def pool7 : Array CpInfo := pool [(1, u "java/lang/Cloneable"), (0, .class_ 1), (0, u "java/lang/Object"), (0, .class_ 3)] 3

/-- java/lang/Cloneable -/
def k7 : Class := { plain "java/lang/Cloneable" (some 0) with
  accessFlags := 1537
  interfaces := #[]
  cf := some (fileOf pool7 2 #[] #[] 1537 4 #[] #[])
  fields := #[]
  methods := #[]
  instanceTypes := #[]
  staticTypes := #[]
  resolved := Array.replicate 8 none
  statics := none }

/-- the primitive byte -/
def k8 : Class := { plain "byte" none with kind := .primitive 'B', accessFlags := 0x411 }
/-- [B -/
def k9 : Class := { plain "[B" (some 0) with kind := .array 8 .byte, interfaces := #[7, 4], accessFlags := 1041 }

/-- the primitive int -/
def k10 : Class := { plain "int" none with kind := .primitive 'I', accessFlags := 0x411 }
/-- [I -/
def k11 : Class := { plain "[I" (some 0) with kind := .array 10 .int, interfaces := #[7, 4], accessFlags := 1041 }

def heap : Heap := #[{ cls := 6, slots := #[.ref 2, .ref 3, .ref 4, .ref 5, .ref 6, .ref 7, .null, .null, .null, .null, .null, .null], vm := .statics 6 },
  { cls := 0, slots := #[], vm := .mirror 6 },
  { cls := 6, slots := #[.null, .int 0, .int 0, .null, .null, .null], vm := .none },
  { cls := 6, slots := #[.null, .int 1, .int 0, .null, .null, .null], vm := .none },
  { cls := 6, slots := #[.null, .int 2, .int 0, .null, .null, .null], vm := .none },
  { cls := 6, slots := #[.null, .int 3, .int 0, .null, .null, .null], vm := .none },
  { cls := 6, slots := #[.null, .int 4, .int 0, .null, .null, .null], vm := .none },
  { cls := 6, slots := #[.null, .int 5, .int 0, .null, .null, .null], vm := .none }]
def classes : Array Class := #[k0, k1, k2, k3, k4, k5, k6, k7, k8, k9, k10, k11]
def interned : List (Array UInt16 × Addr) := []
def slotsUsed : Nat := 48
def theMethod : MethodId := ⟨1, 1⟩
def args0 : Array Value := #[.int 5]
def aboutOver (below : List Frame) : State where
  vm := { classes := classes, interned := interned.toArray }
  heap := heap
  slotsUsed := slotsUsed
  threads := #[{ frames := .invoking theMethod args0 :: below }]
def below0 : List Frame := [.native { method := ⟨0, 0⟩, args := #[] }]
def about1 : State := aboutOver below0
def p0 : Program := .bare "" "" ""
def e0 : Env := launch0.env 0 0 0
theorem w_frames : about1.frames = Frame.invoking theMethod args0 :: below0 := rfl
set_option maxRecDepth 65536 in
theorem w_args : argsFit about1.vm theMethod args0 = true := by decide +kernel
set_option maxRecDepth 65536 in
theorem w_heap : heapFits about1 = true := by decide +kernel
set_option maxRecDepth 65536 in
theorem w_runnable : about1.curStatus? = some .runnable := by decide +kernel
set_option maxRecDepth 65536 in
theorem w_alone : about1.alone = true := by decide +kernel
set_option maxRecDepth 65536 in
theorem w_named : about1.methodNamed? x = some theMethod := by decide +kernel
set_option maxRecDepth 65536 in
theorem w_hears : about1.hears theMethod below0 = true := by decide +kernel
set_option maxRecDepth 65536 in
theorem w_ripe : about1.ripe theMethod args0 below0 = true := by decide +kernel
theorem w_running : about1.status = .running := rfl
set_option maxRecDepth 65536 in
theorem w_room : about1.hasRoom e0.platform room_1 = true :=
  launch0.hasRoom_least _ room_1 (by decide +kernel) (by decide +kernel) (by decide +kernel) (by decide +kernel) (by decide +kernel) (by decide +kernel)
theorem allAtoms_all (ts : List Jvm.Cond) (a : Array Jvm.Value) (st : Jvm.State) : (allAtoms ts).before a st = ts.all (fun c => c.before a st) := by
  induction ts with
  | nil => rfl
  | cons c t ih =>
    show (Jvm.Cond.and c (allAtoms t)).before a st = _
    rw [Jvm.Cond.before_and, ih, List.all_cons]
def words1 : List Jvm.Cond := Jvm.Cond.code x code maxLocals ret :: tables_1
/-- a 'code' word, met by the world's own term for the bytes: nothing is compared byte by byte -/
theorem code_word {y : MethodName} {bytes : ByteArray} {mx : Nat} {rt : Option FieldType} {a : Array Value} {s : State} {m : MethodId} {meth : Method} {c : Code} (h1 : s.methodNamed? y = some m) (h2 : s.vm.method? m = some meth) (h3 : meth.code = some c) (h4 : c.code = bytes)
    (h5 : (c.maxLocals == mx && c.exceptionTable.isEmpty && decide (c.maxStack ≤ mostOperands) && decide (meth.sig.returnType = rt) && !meth.locks && decide (parseMethodDescriptor y.desc = some meth.sig)) = true) : (Jvm.Cond.code y bytes mx rt).before a s = true := by
  simp only [Bool.and_eq_true, beq_iff_eq, Bool.not_eq_true', decide_eq_true_eq] at h5
  obtain ⟨⟨⟨⟨⟨g1, g2⟩, g3⟩, g4⟩, g5⟩, g6⟩ := h5
  simp [Cond.before, Cond.holds, Cond.value, h1, h2, h3, h4, g1, g2, g3, g4, g5, g6]
def isCode : Jvm.Cond → Bool
  | .code _ _ _ _ => true
  | _ => false
theorem all_split {L : List Jvm.Cond} {P : Jvm.Cond → Bool} (h1 : L.all (fun c => isCode c || P c) = true) (h2 : ∀ c ∈ L.filter isCode, P c = true) : L.all P = true := by
  refine List.all_eq_true.mpr fun c hc => ?_
  have h := List.all_eq_true.mp h1 c hc
  rcases Bool.eq_false_or_eq_true (isCode c) with hi | hi
  · exact h2 c (List.mem_filter.mpr ⟨hc, hi⟩)
  · simpa [hi] using h
set_option maxRecDepth 65536 in
theorem w_c0 : (Jvm.Cond.code x code maxLocals ret).before args0 about1 = true := code_word (m := ⟨1, 1⟩) (meth := k1m1) (c := k1c1) (by decide +kernel) rfl rfl rfl (by decide +kernel)
set_option maxRecDepth 65536 in
theorem w_c1 : (Jvm.Cond.code ({ cls := "com/example/rope_bridge/ropebridge/descriptor/DescriptorVersion", name := "allowsAnnotations", desc := "()Z" } : Jvm.MethodName) prog_18_method_7_code (1 : Nat) (Option.some Jvm.ClassFile.FieldType.boolean)).before args0 about1 = true := code_word (m := ⟨6, 0⟩) (meth := k6m0) (c := k6c0) (by decide +kernel) rfl rfl rfl (by decide +kernel)
set_option maxRecDepth 65536 in
theorem w_c2 : (Jvm.Cond.code ({ cls := "java/lang/Enum", name := "compareTo", desc := "(Ljava/lang/Enum;)I" } : Jvm.MethodName) jdk_37_method_8_code (4 : Nat) (Option.some Jvm.ClassFile.FieldType.int)).before args0 about1 = true := code_word (m := ⟨5, 0⟩) (meth := k5m0) (c := k5c0) (by decide +kernel) rfl rfl rfl (by decide +kernel)
def codes1 : List Jvm.Cond := [Jvm.Cond.code x code maxLocals ret, Jvm.Cond.code ({ cls := "com/example/rope_bridge/ropebridge/descriptor/DescriptorVersion", name := "allowsAnnotations", desc := "()Z" } : Jvm.MethodName) prog_18_method_7_code (1 : Nat) (Option.some Jvm.ClassFile.FieldType.boolean), Jvm.Cond.code ({ cls := "java/lang/Enum", name := "compareTo", desc := "(Ljava/lang/Enum;)I" } : Jvm.MethodName) jdk_37_method_8_code (4 : Nat) (Option.some Jvm.ClassFile.FieldType.int)]
set_option maxRecDepth 65536 in
theorem codes_eq : words1.filter isCode = codes1 := rfl
theorem w_codes : ∀ c ∈ words1.filter isCode, c.before args0 about1 = true := by
  rw [codes_eq]
  intro c hc
  simp only [codes1, List.mem_cons, List.not_mem_nil, or_false] at hc
  rcases hc with rfl | rfl | rfl
  · exact w_c0
  · exact w_c1
  · exact w_c2
set_option maxRecDepth 65536 in
theorem w_t1 : (words1.take 24).all (fun c => isCode c || c.before args0 about1) = true := by decide +kernel
set_option maxRecDepth 65536 in
theorem w_t2 : (words1.drop 24).all (fun c => isCode c || c.before args0 about1) = true := by decide +kernel
theorem w_tables : (allAtoms (Jvm.Cond.code x code maxLocals ret :: tables_1)).before args0 about1 = true := by
  rw [allAtoms_all]
  show words1.all (fun c => c.before args0 about1) = true
  refine all_split ?_ w_codes
  rw [← List.take_append_drop 24 words1, List.all_append, w_t1, w_t2]
  rfl
set_option maxRecDepth 65536 in
theorem w_case : (Jvm.Cond.and given_1 narrow_1).before args0 about1 = true := by decide +kernel
theorem w_applies : (headSpec (Jvm.Cond.code x code maxLocals ret :: tables_1) room_1).applies x e0.platform about1 = true :=
  (Spec.applies_iff w_frames).mpr ⟨w_running, w_runnable, w_alone, w_named, w_hears, w_ripe, w_room, w_tables⟩
theorem atStart : AtStart classFile x code maxLocals ret World_1 tables_1 room_1 Calls_1 rest_1 Pre_1 launch0 p0 e0 about1 theMethod args0 below0 :=
  ⟨lists_1, trivial, launch0.admits_env _ _ _, launch0.least_env, fairChoices_fair.cas, fairChoices_fair.clock, w_frames, w_args, w_heap, w_applies, ⟨⟨6, k6, 1, by decide +kernel, rfl, rfl, _, rfl, rfl⟩, trivial⟩, trivial, w_case⟩
end start1
theorem witness_1 : WitnessClaimed_1 := ⟨start1.p0, start1.e0, start1.about1, start1.theMethod, start1.args0, start1.below0, start1.atStart⟩
end Jvm.Pilot.@@N@@
