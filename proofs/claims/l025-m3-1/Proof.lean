import JvmDerived
import JvmDerived.Pilot.@@N@@Statement
import JvmDerived.Pilot.@@N@@Code
set_option linter.unusedVariables false
set_option linter.unusedSimpArgs false
namespace Jvm.Pilot.@@N@@
open Jvm Jvm.ClassFile Sem Op Lib Jvm.Free Jvm.Stand Jvm.LawKit Jvm.RoadKit Bundle Jvm.Pilot.@@N@@.Jvm.D
/-! THE OWN LAYER (printed by wip/tools/mkown.py): Wp says: from here the body runs to its return and leaves Q. One law an instruction, each read off a law of the library. -/
abbrev Cx : Type := Program × Launch × Env × Room × State × MethodId × Array Value × List Frame × Method × Code × Nat × (Option Value → Heap → Prop)
abbrev Cx.p (X : Cx) : Program := X.1
abbrev Cx.l (X : Cx) : Launch := X.2.1
abbrev Cx.e (X : Cx) : Env := X.2.2.1
abbrev Cx.R (X : Cx) : Room := X.2.2.2.1
abbrev Cx.s (X : Cx) : State := X.2.2.2.2.1
abbrev Cx.m (X : Cx) : MethodId := X.2.2.2.2.2.1
abbrev Cx.args (X : Cx) : Array Value := X.2.2.2.2.2.2.1
abbrev Cx.below (X : Cx) : List Frame := X.2.2.2.2.2.2.2.1
abbrev Cx.meth (X : Cx) : Method := X.2.2.2.2.2.2.2.2.1
abbrev Cx.c (X : Cx) : Code := X.2.2.2.2.2.2.2.2.2.1
abbrev Cx.n0 (X : Cx) : Nat := X.2.2.2.2.2.2.2.2.2.2.1
abbrev Cx.Q (X : Cx) : Option Value → Heap → Prop := X.2.2.2.2.2.2.2.2.2.2.2
abbrev Sd (X : Cx) (T : State) (locs : List Loc) (k n : Nat) : Prop := Stand X.p X.l X.e X.R X.s X.m X.args X.below X.meth X.c T locs k n
abbrev Sp (X : Cx) (T : State) (pc : Nat) (ls : Array Slot) (st : List Value) (t : State) : Prop := Steps X.p.tables X.e X.below (T.setTop (mkF X.m pc ls st)) t
def Hand (X : Cx) (Z : State) (y : MethodName) (bytes : ByteArray) (mx : Nat) (rt : Option FieldType) (R : Room) (n0 : Nat) (Q : Option Value → Heap → Prop) : Prop :=
  X.p.tables.exec = Jvm.exec ∧ Z.Warmed39 X.s.vm ∧ X.s.vm.findClass y.cls = some X.m.cls ∧ X.c.code = bytes ∧ X.c.maxLocals = mx ∧ X.meth.sig.returnType = rt ∧ X.meth.locks = false ∧ X.R = R ∧ n0 ≤ X.s.heap.size ∧ X.meth.name = y.name ∧ X.n0 = n0 ∧ X.Q = Q
def Ct (l : Launch) (Z : State) (y : MethodName) (bytes : ByteArray) (mx : Nat) (rt : Option FieldType) (R : Room) (n0 : Nat) (ws : List Jvm.Cond) (as' : Array Value) (h : Heap) (Q : Option Value → Heap → Prop) : Prop :=
  MetFree l y (head1 (Jvm.Cond.code y bytes mx rt :: ws) R) (fun a U => a = as' ∧ Z.Warmed39 U.vm ∧ U.heap = h) (fun _ _ _ _ _ => True) (fun _ U o U' => ∃ v L, o = .returned v ∧ ((Q v U'.heap ∧ h.size ≤ U'.heap.size) ∧ Fr n0 L) ∧ FrameEnd U o U' L R.cells R.slots)
section OwnLayer
variable {X : Cx} {Z : State} {y : MethodName} {bytes : ByteArray} {mx : Nat} {rt : Option FieldType} {R : Room} {n0 : Nat} {Q : Option Value → Heap → Prop} {a0 : Array Value} {k n : Nat} {h : Heap} {pc pc' : Nat} {ls ls' : Array Slot} {st st' : List Value}
theorem Hand.sz (C : Hand X Z y bytes mx rt R n0 Q) {T : State} {locs : List Loc} (S : Sd X T locs k n) (e : T.heap = h) : n0 ≤ h.size := by
  have q : X.s.heap.size ≤ T.heap.size := S.same.2.1
  rw [← e]; exact Nat.le_trans C.2.2.2.2.2.2.2.2.1 q
theorem own_pop2L {tb : Tables} [Ours tb] {e : Env} {below : List Frame} {T target : State} {m : MethodId} {c : Code} {g : JFrame} (h : At T m c below) (hx : tb.exec = Jvm.exec) (hg : g.method = m) {x : Int64} {rest : List Value} (hd : decode c.code g.pc = .ok (.pop2, 1)) (hs : g.stack = .long x :: rest)
    (hr : Steps tb e below (T.setTop { g with pc := g.pc + 1, stack := rest }) target) : Steps tb e below (T.setTop g) target := by
  subst hg
  jvm_step h [h.top, hx, hd, hs, Value.category]
  exact hr
theorem toL (L : List Loc) : L ++ [] = L := List.append_nil L
end OwnLayer
def Wp (X : Cx) (k n : Nat) (h : Heap) (pc : Nat) (ls : Array Slot) (st : List Value) : Prop :=
  ∀ T locs, Sd X T locs k n → T.heap = h → Fr X.n0 locs →
    ∃ s₂ v L, Sp X T pc ls st s₂ ∧ s₂.status = .running ∧ Ended s₂ X.below (.returned v) ∧ X.Q v s₂.heap ∧ Fr X.n0 L ∧ X.s.WarmedH s₂.vm ∧ X.s.sameButNew ({ s₂ with vm := X.s.vm } : State) L X.R.cells X.R.slots
section OwnNarrow
variable {X : Cx} {Z : State} {y : MethodName} {bytes : ByteArray} {mx : Nat} {rt : Option FieldType} {R : Room} {n0 : Nat} {Q : Option Value → Heap → Prop} {a0 : Array Value} {k n : Nat} {h : Heap} {pc pc' : Nat} {ls ls' : Array Slot} {st st' : List Value}
theorem ct_of {l : Launch} {ws : List Jvm.Cond} {as' : Array Value} (hpl : plainFor y = true) (hn : n0 ≤ h.size) (hef : ∀ m, entryFrame m as' mx = mkF m 0 ls [])
    (hwp : ∀ X : Cx, Hand X Z y bytes mx rt R n0 Q → Wp X 0 0 h 0 ls []) : Ct l Z y bytes mx rt R n0 ws as' h Q := by
  refine MetFree.of_bodySF hpl hisR ?_
  intro p e s m args below meth c s₁ Bd hml0 hP hK
  obtain ⟨rfl, hZ, hh⟩ := hP
  have X0 : Stand p l e R s m args below meth c s₁ [] 0 0 := Stand.of_body Bd
  have e0 : s₁.heap = h := by rw [← hh, Bd.state]; rfl
  obtain ⟨s2, v, L, h1, h2, h3, h4, h5, h6, h7⟩ := hwp (p, l, e, R, s, m, args, below, meth, c, n0, Q) ⟨Bd.exec, hZ, findClass_of_methodNamed Bd.named, Bd.bytes, hml0, Bd.returns, Bd.notSynchronized, rfl, by show n0 ≤ s.heap.size; rw [hh]; exact hn, (name_of_methodNamed Bd.named Bd.method).1, rfl, rfl⟩ s₁ [] X0 e0 (Fr.nil n0)
  exact ⟨s2, _, castTop (hef m) h1, h2, h3, v, L, rfl, ⟨⟨h4, by rw [← hh]; exact h7.2.1⟩, h5⟩, ⟨_, rfl⟩, h6, h7⟩
theorem Wp.go (C : Hand X Z y bytes mx rt R n0 Q) (hs : ∀ X' : Cx, X'.l = X.l → Hand X' Z y bytes mx rt R n0 Q → ∀ T locs, Sd X' T locs k n → T.heap = h → ∀ t, Sp X' T pc' ls' st' t → Sp X' T pc ls st t) (w : Wp X k n h pc' ls' st') : Wp X k n h pc ls st := by
  intro T locs S e F
  obtain ⟨s2, v, L, a, r⟩ := w T locs S e F
  exact ⟨s2, v, L, hs X rfl C T locs S e _ a, r⟩
theorem Wp.to (C : Hand X Z y bytes mx rt R n0 Q) {k' n' : Nat} {P : Heap → List Value → Prop} (hs : ∀ X' : Cx, X'.l = X.l → Hand X' Z y bytes mx rt R n0 Q → ∀ T locs, Sd X' T locs k n → T.heap = h → ∃ T' L h' st', Sd X' T' (locs ++ L) k' n' ∧ T'.heap = h' ∧ Fr X'.n0 L ∧ h.size ≤ h'.size ∧ P h' st' ∧ ∀ t, Sp X' T' pc' ls' st' t → Sp X' T pc ls st t)
    (w : ∀ h' st', P h' st' → Wp X k' n' h' pc' ls' st') : Wp X k n h pc ls st := by
  intro T locs S e F
  obtain ⟨T', L, h', st', S', e', F', -, p, q⟩ := hs X rfl C T locs S e
  obtain ⟨s2, v, L2, a, r⟩ := w h' st' p T' _ S' e' (Fr.app F F')
  exact ⟨s2, v, L2, q _ a, r⟩
/-- what is left is known of the heap: n0 ≤ its size -/
theorem Wp.size (C : Hand X Z y bytes mx rt R n0 Q) (w : n0 ≤ h.size → Wp X k n h pc ls st) : Wp X k n h pc ls st := fun T locs S e F => w (C.sz S e) T locs S e F
theorem Wp.more {k' n' : Nat} (w : Wp X k' n' h pc ls st) (hk : k ≤ k') (hn : n ≤ n') : Wp X k n h pc ls st := fun T locs S e F => w T locs (S.more hk hn) e F
theorem w_done (C : Hand X Z y bytes mx rt R n0 Q) {v : Option Value} (hv : rt = none → v = none) (hk : k ≤ R.cells) (hn : n ≤ R.slots) (q : Q v h)
    (hs : ∀ X' : Cx, Hand X' Z y bytes mx rt R n0 Q → ∀ T locs (fs : List Frame), Sd X' T locs k n → (∀ (f : JFrame) (acts : List Action), f.method = X'.m → f.locked = none → f.entered = [] → (doReturn X'.e (T.setTop f) acts v).1 = T.setFrames fs) → Sp X' T pc ls st (T.setFrames fs)) : Wp X k n h pc ls st := by
  intro T locs S e F
  obtain ⟨fs, hr, hrun, hended, hW, hsame⟩ := S.leave (v := v) (fun z => hv (C.2.2.2.2.2.1 ▸ z)) C.2.2.2.2.2.2.1
  refine ⟨_, v, locs, hs X C T locs fs S hr, hrun, hended, ?_, F, hW, hsame.mono (by rw [C.2.2.2.2.2.2.2.1]; exact hk) (by rw [C.2.2.2.2.2.2.2.1]; exact hn)⟩
  show X.Q v T.heap
  rw [C.2.2.2.2.2.2.2.2.2.2.2, e]; exact q
end OwnNarrow

section OwnLaws
variable {X : Cx} {Z : State} {y : MethodName} {bytes : ByteArray} {mx : Nat} {rt : Option FieldType} {R : Room} {n0 : Nat} {Q : Option Value → Heap → Prop} {a0 : Array Value} {k n : Nat} {h : Heap} {pc pc' : Nat} {ls ls' : Array Slot} {st st' : List Value}
theorem w_iload (C : Hand X Z y bytes mx rt R n0 Q) {j : Nat} {v : Int32} (hd : decode bytes pc = .ok (.iload j, 2)) (hl : ls[j]? = some (.val (.int v))) (hp : pc + 2 = pc') (w : Wp X k n h pc' ls (.int v :: st)) : Wp X k n h pc ls (st) := by
  subst hp; exact Wp.go C (fun X hX C T locs S e t q => XS.iload S.here C.1 rfl (hb C.2.2.2.1 hd) hl q) w
theorem w_iloadN (C : Hand X Z y bytes mx rt R n0 Q) {j : Fin 4} {v : Int32} (hd : decode bytes pc = .ok (.iload_n j, 1)) (hl : ls[j.val]? = some (.val (.int v))) (hp : pc + 1 = pc') (w : Wp X k n h pc' ls (.int v :: st)) : Wp X k n h pc ls (st) := by
  subst hp; exact Wp.go C (fun X hX C T locs S e t q => XS.iloadN S.here C.1 rfl (hb C.2.2.2.1 hd) hl q) w
theorem w_lload (C : Hand X Z y bytes mx rt R n0 Q) {j : Nat} {v : Int64} (hd : decode bytes pc = .ok (.lload j, 2)) (hl : ls[j]? = some (.val (.long v))) (hp : pc + 2 = pc') (w : Wp X k n h pc' ls (.long v :: st)) : Wp X k n h pc ls (st) := by
  subst hp; exact Wp.go C (fun X hX C T locs S e t q => XS.lload S.here C.1 rfl (hb C.2.2.2.1 hd) hl q) w
theorem w_lloadN (C : Hand X Z y bytes mx rt R n0 Q) {j : Fin 4} {v : Int64} (hd : decode bytes pc = .ok (.lload_n j, 1)) (hl : ls[j.val]? = some (.val (.long v))) (hp : pc + 1 = pc') (w : Wp X k n h pc' ls (.long v :: st)) : Wp X k n h pc ls (st) := by
  subst hp; exact Wp.go C (fun X hX C T locs S e t q => XS.lloadN S.here C.1 rfl (hb C.2.2.2.1 hd) hl q) w
theorem w_aload (C : Hand X Z y bytes mx rt R n0 Q) {j : Nat} {v : Value} (hd : decode bytes pc = .ok (.aload j, 2)) (hl : ls[j]? = some (.val v)) (hv : v.isRef = true) (hp : pc + 2 = pc') (w : Wp X k n h pc' ls (v :: st)) : Wp X k n h pc ls (st) := by
  subst hp; exact Wp.go C (fun X hX C T locs S e t q => XS.aload S.here C.1 rfl (hb C.2.2.2.1 hd) hl hv q) w
theorem w_aloadN (C : Hand X Z y bytes mx rt R n0 Q) {j : Fin 4} {v : Value} (hd : decode bytes pc = .ok (.aload_n j, 1)) (hl : ls[j.val]? = some (.val v)) (hv : v.isRef = true) (hp : pc + 1 = pc') (w : Wp X k n h pc' ls (v :: st)) : Wp X k n h pc ls (st) := by
  subst hp; exact Wp.go C (fun X hX C T locs S e t q => XS.aloadN S.here C.1 rfl (hb C.2.2.2.1 hd) hl hv q) w
theorem w_iconst (C : Hand X Z y bytes mx rt R n0 Q) {i : Int} {z : Int32} (hd : decode bytes pc = .ok (.iconst i, 1)) (hz : Int32.ofInt i = z) (hp : pc + 1 = pc') (w : Wp X k n h pc' ls (.int z :: st)) : Wp X k n h pc ls st := by
  subst hp hz; exact Wp.go C (fun X hX C T locs S e t q => XS.iconst S.here C.1 rfl (hb C.2.2.2.1 hd) q) w
theorem w_bipush (C : Hand X Z y bytes mx rt R n0 Q) {i : Int} {z : Int32} (hd : decode bytes pc = .ok (.bipush i, 2)) (hz : (Int8.ofInt i).toInt32 = z) (hp : pc + 2 = pc') (w : Wp X k n h pc' ls (.int z :: st)) : Wp X k n h pc ls st := by
  subst hp hz; exact Wp.go C (fun X hX C T locs S e t q => XS.bipush S.here C.1 rfl (hb C.2.2.2.1 hd) q) w
theorem w_sipush (C : Hand X Z y bytes mx rt R n0 Q) {i : Int} {z : Int32} (hd : decode bytes pc = .ok (.sipush i, 3)) (hz : (Int16.ofInt i).toInt32 = z) (hp : pc + 3 = pc') (w : Wp X k n h pc' ls (.int z :: st)) : Wp X k n h pc ls st := by
  subst hp hz; exact Wp.go C (fun X hX C T locs S e t q => XS.sipush S.here C.1 rfl (hb C.2.2.2.1 hd) q) w
theorem w_lconst (C : Hand X Z y bytes mx rt R n0 Q) {i : Fin 2} {z : Int64} (hd : decode bytes pc = .ok (.lconst i, 1)) (hz : Int64.ofNat i.val = z) (hp : pc + 1 = pc') (w : Wp X k n h pc' ls (.long z :: st)) : Wp X k n h pc ls st := by
  subst hp hz; exact Wp.go C (fun X hX C T locs S e t q => XS.lconst S.here C.1 rfl (hb C.2.2.2.1 hd) q) w
theorem w_anull (C : Hand X Z y bytes mx rt R n0 Q) (hd : decode bytes pc = .ok (.aconst_null, 1)) (hp : pc + 1 = pc') (w : Wp X k n h pc' ls (.null :: st)) : Wp X k n h pc ls (st) := by
  subst hp; exact Wp.go C (fun X hX C T locs S e t q => XS.aconstNull S.here C.1 rfl (hb C.2.2.2.1 hd) q) w
theorem w_ldc (C : Hand X Z y bytes mx rt R n0 Q) {i : Nat} {z : Int32} (hw : (Jvm.Cond.constant y.cls i z).before a0 Z = true) (hd : decode bytes pc = .ok (.ldc i, 2)) (hp : pc + 2 = pc') (w : Wp X k n h pc' ls (.int z :: st)) : Wp X k n h pc ls st := by
  subst hp; exact Wp.go C (fun X hX C T locs S e t q => S.ldcInt C.1 C.2.2.1 (mvT C.2.1 hw) (g := mkF X.m pc ls st) rfl (hb C.2.2.2.1 hd) t q) w
theorem w_ldc2 (C : Hand X Z y bytes mx rt R n0 Q) {i : Nat} {z : Int64} (hw : (Jvm.Cond.constantLong y.cls i z).before a0 Z = true) (hd : decode bytes pc = .ok (.ldc2_w i, 3)) (hp : pc + 3 = pc') (w : Wp X k n h pc' ls (.long z :: st)) : Wp X k n h pc ls st := by
  subst hp; exact Wp.go C (fun X hX C T locs S e t q => S.ldc2Long C.1 C.2.2.1 (mvT C.2.1 hw) (g := mkF X.m pc ls st) rfl (hb C.2.2.2.1 hd) t q) w
theorem w_istore (C : Hand X Z y bytes mx rt R n0 Q) {j : Nat} {x : Int32} (hd : decode bytes pc = .ok (.istore j, 2)) (hl : storeLocals ls j (.int x) = some ls') (hp : pc + 2 = pc') (w : Wp X k n h pc' ls' st) : Wp X k n h pc ls (.int x :: st) := by
  subst hp; exact Wp.go C (fun X hX C T locs S e t q => XS.istore S.here C.1 rfl (hb C.2.2.2.1 hd) rfl hl q) w
theorem w_istoreN (C : Hand X Z y bytes mx rt R n0 Q) {j : Fin 4} {x : Int32} (hd : decode bytes pc = .ok (.istore_n j, 1)) (hl : storeLocals ls j.val (.int x) = some ls') (hp : pc + 1 = pc') (w : Wp X k n h pc' ls' st) : Wp X k n h pc ls (.int x :: st) := by
  subst hp; exact Wp.go C (fun X hX C T locs S e t q => XS.istoreN S.here C.1 rfl (hb C.2.2.2.1 hd) rfl hl q) w
theorem w_lstore (C : Hand X Z y bytes mx rt R n0 Q) {j : Nat} {x : Int64} (hd : decode bytes pc = .ok (.lstore j, 2)) (hl : storeLocals ls j (.long x) = some ls') (hp : pc + 2 = pc') (w : Wp X k n h pc' ls' st) : Wp X k n h pc ls (.long x :: st) := by
  subst hp; exact Wp.go C (fun X hX C T locs S e t q => XS.lstore S.here C.1 rfl (hb C.2.2.2.1 hd) rfl hl q) w
theorem w_lstoreN (C : Hand X Z y bytes mx rt R n0 Q) {j : Fin 4} {x : Int64} (hd : decode bytes pc = .ok (.lstore_n j, 1)) (hl : storeLocals ls j.val (.long x) = some ls') (hp : pc + 1 = pc') (w : Wp X k n h pc' ls' st) : Wp X k n h pc ls (.long x :: st) := by
  subst hp; exact Wp.go C (fun X hX C T locs S e t q => XS.lstoreN S.here C.1 rfl (hb C.2.2.2.1 hd) rfl hl q) w
theorem w_astore (C : Hand X Z y bytes mx rt R n0 Q) {j : Nat} {x : Value} (hd : decode bytes pc = .ok (.astore j, 2)) (hv : x.isRef = true) (hl : storeLocals ls j (x) = some ls') (hp : pc + 2 = pc') (w : Wp X k n h pc' ls' st) : Wp X k n h pc ls (x :: st) := by
  subst hp; exact Wp.go C (fun X hX C T locs S e t q => XS.astore S.here C.1 rfl (hb C.2.2.2.1 hd) rfl hv hl q) w
theorem w_astoreN (C : Hand X Z y bytes mx rt R n0 Q) {j : Fin 4} {x : Value} (hd : decode bytes pc = .ok (.astore_n j, 1)) (hv : x.isRef = true) (hl : storeLocals ls j.val (x) = some ls') (hp : pc + 1 = pc') (w : Wp X k n h pc' ls' st) : Wp X k n h pc ls (x :: st) := by
  subst hp; exact Wp.go C (fun X hX C T locs S e t q => XS.astoreN S.here C.1 rfl (hb C.2.2.2.1 hd) rfl hv hl q) w
theorem w_iinc (C : Hand X Z y bytes mx rt R n0 Q) {j : Nat} {cst : Int} {x z : Int32} (hd : decode bytes pc = .ok (.iinc j cst, 3)) (hl : ls[j]? = some (.val (.int x))) (hz : Int32.ofInt cst = z) (hl' : storeLocals ls j (.int (x + z)) = some ls') (hp : pc + 3 = pc') (w : Wp X k n h pc' ls' st) : Wp X k n h pc ls st := by
  subst hp hz; exact Wp.go C (fun X hX C T locs S e t q => XS.iinc S.here C.1 rfl (hb C.2.2.2.1 hd) hl hl' q) w
theorem w_dup (C : Hand X Z y bytes mx rt R n0 Q) {x : Value} (hd : decode bytes pc = .ok (.dup, 1)) (hc : x.category = 1) (hp : pc + 1 = pc') (w : Wp X k n h pc' ls (x :: x :: st)) : Wp X k n h pc ls (x :: st) := by
  subst hp; exact Wp.go C (fun X hX C T locs S e t q => XS.dup S.here C.1 rfl (hb C.2.2.2.1 hd) rfl hc q) w
theorem w_dup2 (C : Hand X Z y bytes mx rt R n0 Q) {x z : Value} (hd : decode bytes pc = .ok (.dup2, 1)) (hc : x.category = 1) (hc' : z.category = 1) (hp : pc + 1 = pc') (w : Wp X k n h pc' ls (x :: z :: x :: z :: st)) : Wp X k n h pc ls (x :: z :: st) := by
  subst hp; exact Wp.go C (fun X hX C T locs S e t q => XT.dup2 S.here C.1 rfl (hb C.2.2.2.1 hd) rfl hc hc' q) w
theorem w_dupX1 (C : Hand X Z y bytes mx rt R n0 Q) {x z : Value} (hd : decode bytes pc = .ok (.dup_x1, 1)) (hc : x.category = 1) (hc' : z.category = 1) (hp : pc + 1 = pc') (w : Wp X k n h pc' ls (x :: z :: x :: st)) : Wp X k n h pc ls (x :: z :: st) := by
  subst hp; exact Wp.go C (fun X hX C T locs S e t q => XS.dupX1 S.here C.1 rfl (hb C.2.2.2.1 hd) rfl hc hc' q) w
theorem w_dup2L (C : Hand X Z y bytes mx rt R n0 Q) {x : Int64} (hd : decode bytes pc = .ok (.dup2, 1)) (hp : pc + 1 = pc') (w : Wp X k n h pc' ls (.long x :: .long x :: st)) : Wp X k n h pc ls (.long x :: st) := by
  subst hp; exact Wp.go C (fun X hX C T locs S e t q => XT.dup2L S.here C.1 rfl (hb C.2.2.2.1 hd) rfl q) w
theorem w_pop2L (C : Hand X Z y bytes mx rt R n0 Q) {x : Int64} (hd : decode bytes pc = .ok (.pop2, 1)) (hp : pc + 1 = pc') (w : Wp X k n h pc' ls (st)) : Wp X k n h pc ls (.long x :: st) := by
  subst hp; exact Wp.go C (fun X hX C T locs S e t q => own_pop2L S.here C.1 rfl (hb C.2.2.2.1 hd) rfl q) w
theorem w_pop (C : Hand X Z y bytes mx rt R n0 Q) {x : Value} (hd : decode bytes pc = .ok (.pop, 1)) (hc : x.category = 1) (hp : pc + 1 = pc') (w : Wp X k n h pc' ls (st)) : Wp X k n h pc ls (x :: st) := by
  subst hp; exact Wp.go C (fun X hX C T locs S e t q => XS.pop S.here C.1 rfl (hb C.2.2.2.1 hd) rfl hc q) w
theorem w_iadd (C : Hand X Z y bytes mx rt R n0 Q) {x z : Int32} (hd : decode bytes pc = .ok (.iadd, 1)) (hp : pc + 1 = pc') (w : Wp X k n h pc' ls (.int (x + z) :: st)) : Wp X k n h pc ls (.int z :: .int x :: st) := by
  subst hp; exact Wp.go C (fun X hX C T locs S e t q => XS.iadd S.here C.1 rfl (hb C.2.2.2.1 hd) rfl q) w
theorem w_isub (C : Hand X Z y bytes mx rt R n0 Q) {x z : Int32} (hd : decode bytes pc = .ok (.isub, 1)) (hp : pc + 1 = pc') (w : Wp X k n h pc' ls (.int (x - z) :: st)) : Wp X k n h pc ls (.int z :: .int x :: st) := by
  subst hp; exact Wp.go C (fun X hX C T locs S e t q => XS.isub S.here C.1 rfl (hb C.2.2.2.1 hd) rfl q) w
theorem w_imul (C : Hand X Z y bytes mx rt R n0 Q) {x z : Int32} (hd : decode bytes pc = .ok (.imul, 1)) (hp : pc + 1 = pc') (w : Wp X k n h pc' ls (.int (x * z) :: st)) : Wp X k n h pc ls (.int z :: .int x :: st) := by
  subst hp; exact Wp.go C (fun X hX C T locs S e t q => XS.imul S.here C.1 rfl (hb C.2.2.2.1 hd) rfl q) w
theorem w_iand (C : Hand X Z y bytes mx rt R n0 Q) {x z : Int32} (hd : decode bytes pc = .ok (.iand, 1)) (hp : pc + 1 = pc') (w : Wp X k n h pc' ls (.int (x &&& z) :: st)) : Wp X k n h pc ls (.int z :: .int x :: st) := by
  subst hp; exact Wp.go C (fun X hX C T locs S e t q => XS.iand S.here C.1 rfl (hb C.2.2.2.1 hd) rfl q) w
theorem w_ior (C : Hand X Z y bytes mx rt R n0 Q) {x z : Int32} (hd : decode bytes pc = .ok (.ior, 1)) (hp : pc + 1 = pc') (w : Wp X k n h pc' ls (.int (x ||| z) :: st)) : Wp X k n h pc ls (.int z :: .int x :: st) := by
  subst hp; exact Wp.go C (fun X hX C T locs S e t q => XS.ior S.here C.1 rfl (hb C.2.2.2.1 hd) rfl q) w
theorem w_ixor (C : Hand X Z y bytes mx rt R n0 Q) {x z : Int32} (hd : decode bytes pc = .ok (.ixor, 1)) (hp : pc + 1 = pc') (w : Wp X k n h pc' ls (.int (x ^^^ z) :: st)) : Wp X k n h pc ls (.int z :: .int x :: st) := by
  subst hp; exact Wp.go C (fun X hX C T locs S e t q => XS.ixor S.here C.1 rfl (hb C.2.2.2.1 hd) rfl q) w
theorem w_ishl (C : Hand X Z y bytes mx rt R n0 Q) {x z : Int32} (hd : decode bytes pc = .ok (.ishl, 1)) (hp : pc + 1 = pc') (w : Wp X k n h pc' ls (.int (x <<< (z &&& 31)) :: st)) : Wp X k n h pc ls (.int z :: .int x :: st) := by
  subst hp; exact Wp.go C (fun X hX C T locs S e t q => XS.ishl S.here C.1 rfl (hb C.2.2.2.1 hd) rfl q) w
theorem w_ishr (C : Hand X Z y bytes mx rt R n0 Q) {x z : Int32} (hd : decode bytes pc = .ok (.ishr, 1)) (hp : pc + 1 = pc') (w : Wp X k n h pc' ls (.int (x >>> (z &&& 31)) :: st)) : Wp X k n h pc ls (.int z :: .int x :: st) := by
  subst hp; exact Wp.go C (fun X hX C T locs S e t q => XS.ishr S.here C.1 rfl (hb C.2.2.2.1 hd) rfl q) w
theorem w_iushr (C : Hand X Z y bytes mx rt R n0 Q) {x z : Int32} (hd : decode bytes pc = .ok (.iushr, 1)) (hp : pc + 1 = pc') (w : Wp X k n h pc' ls (.int ((x.toUInt32 >>> (z &&& 31).toUInt32).toInt32) :: st)) : Wp X k n h pc ls (.int z :: .int x :: st) := by
  subst hp; exact Wp.go C (fun X hX C T locs S e t q => XS.iushr S.here C.1 rfl (hb C.2.2.2.1 hd) rfl q) w
theorem w_ladd (C : Hand X Z y bytes mx rt R n0 Q) {x z : Int64} (hd : decode bytes pc = .ok (.ladd, 1)) (hp : pc + 1 = pc') (w : Wp X k n h pc' ls (.long (x + z) :: st)) : Wp X k n h pc ls (.long z :: .long x :: st) := by
  subst hp; exact Wp.go C (fun X hX C T locs S e t q => XS.ladd S.here C.1 rfl (hb C.2.2.2.1 hd) rfl q) w
theorem w_lsub (C : Hand X Z y bytes mx rt R n0 Q) {x z : Int64} (hd : decode bytes pc = .ok (.lsub, 1)) (hp : pc + 1 = pc') (w : Wp X k n h pc' ls (.long (x - z) :: st)) : Wp X k n h pc ls (.long z :: .long x :: st) := by
  subst hp; exact Wp.go C (fun X hX C T locs S e t q => XS.lsub S.here C.1 rfl (hb C.2.2.2.1 hd) rfl q) w
theorem w_lmul (C : Hand X Z y bytes mx rt R n0 Q) {x z : Int64} (hd : decode bytes pc = .ok (.lmul, 1)) (hp : pc + 1 = pc') (w : Wp X k n h pc' ls (.long (x * z) :: st)) : Wp X k n h pc ls (.long z :: .long x :: st) := by
  subst hp; exact Wp.go C (fun X hX C T locs S e t q => XS.lmul S.here C.1 rfl (hb C.2.2.2.1 hd) rfl q) w
theorem w_land (C : Hand X Z y bytes mx rt R n0 Q) {x z : Int64} (hd : decode bytes pc = .ok (.land, 1)) (hp : pc + 1 = pc') (w : Wp X k n h pc' ls (.long (x &&& z) :: st)) : Wp X k n h pc ls (.long z :: .long x :: st) := by
  subst hp; exact Wp.go C (fun X hX C T locs S e t q => XS.land S.here C.1 rfl (hb C.2.2.2.1 hd) rfl q) w
theorem w_lor (C : Hand X Z y bytes mx rt R n0 Q) {x z : Int64} (hd : decode bytes pc = .ok (.lor, 1)) (hp : pc + 1 = pc') (w : Wp X k n h pc' ls (.long (x ||| z) :: st)) : Wp X k n h pc ls (.long z :: .long x :: st) := by
  subst hp; exact Wp.go C (fun X hX C T locs S e t q => XS.lor S.here C.1 rfl (hb C.2.2.2.1 hd) rfl q) w
theorem w_lxor (C : Hand X Z y bytes mx rt R n0 Q) {x z : Int64} (hd : decode bytes pc = .ok (.lxor, 1)) (hp : pc + 1 = pc') (w : Wp X k n h pc' ls (.long (x ^^^ z) :: st)) : Wp X k n h pc ls (.long z :: .long x :: st) := by
  subst hp; exact Wp.go C (fun X hX C T locs S e t q => XS.lxor S.here C.1 rfl (hb C.2.2.2.1 hd) rfl q) w
theorem w_lshl (C : Hand X Z y bytes mx rt R n0 Q) {x : Int64} {z : Int32} (hd : decode bytes pc = .ok (.lshl, 1)) (hp : pc + 1 = pc') (w : Wp X k n h pc' ls (.long (x <<< (z &&& 0x3f).toInt64) :: st)) : Wp X k n h pc ls (.int z :: .long x :: st) := by
  subst hp; exact Wp.go C (fun X hX C T locs S e t q => XS.lshl S.here C.1 rfl (hb C.2.2.2.1 hd) rfl q) w
theorem w_lshr (C : Hand X Z y bytes mx rt R n0 Q) {x : Int64} {z : Int32} (hd : decode bytes pc = .ok (.lshr, 1)) (hp : pc + 1 = pc') (w : Wp X k n h pc' ls (.long (x >>> (z &&& 0x3f).toInt64) :: st)) : Wp X k n h pc ls (.int z :: .long x :: st) := by
  subst hp; exact Wp.go C (fun X hX C T locs S e t q => XS.lshr S.here C.1 rfl (hb C.2.2.2.1 hd) rfl q) w
theorem w_lushr (C : Hand X Z y bytes mx rt R n0 Q) {x : Int64} {z : Int32} (hd : decode bytes pc = .ok (.lushr, 1)) (hp : pc + 1 = pc') (w : Wp X k n h pc' ls (.long ((x.toUInt64 >>> (z &&& 0x3f).toInt64.toUInt64).toInt64) :: st)) : Wp X k n h pc ls (.int z :: .long x :: st) := by
  subst hp; exact Wp.go C (fun X hX C T locs S e t q => XS.lushr S.here C.1 rfl (hb C.2.2.2.1 hd) rfl q) w
theorem w_idiv (C : Hand X Z y bytes mx rt R n0 Q) {x z : Int32} (hd : decode bytes pc = .ok (.idiv, 1)) (hz : z ≠ 0) (hp : pc + 1 = pc') (w : Wp X k n h pc' ls (.int (x / z) :: st)) : Wp X k n h pc ls (.int z :: .int x :: st) := by
  subst hp; exact Wp.go C (fun X hX C T locs S e t q => XS.idiv S.here C.1 rfl (hb C.2.2.2.1 hd) rfl hz q) w
theorem w_irem (C : Hand X Z y bytes mx rt R n0 Q) {x z : Int32} (hd : decode bytes pc = .ok (.irem, 1)) (hz : z ≠ 0) (hp : pc + 1 = pc') (w : Wp X k n h pc' ls (.int (x % z) :: st)) : Wp X k n h pc ls (.int z :: .int x :: st) := by
  subst hp; exact Wp.go C (fun X hX C T locs S e t q => iremM S C.1 rfl (hb C.2.2.2.1 hd) rfl hz q) w
theorem w_ineg (C : Hand X Z y bytes mx rt R n0 Q) {x : Int32} (hd : decode bytes pc = .ok (.ineg, 1)) (hp : pc + 1 = pc') (w : Wp X k n h pc' ls (.int (-x) :: st)) : Wp X k n h pc ls (.int x :: st) := by
  subst hp; exact Wp.go C (fun X hX C T locs S e t q => XS.ineg S.here C.1 rfl (hb C.2.2.2.1 hd) rfl q) w
theorem w_lneg (C : Hand X Z y bytes mx rt R n0 Q) {x : Int64} (hd : decode bytes pc = .ok (.lneg, 1)) (hp : pc + 1 = pc') (w : Wp X k n h pc' ls (.long (-x) :: st)) : Wp X k n h pc ls (.long x :: st) := by
  subst hp; exact Wp.go C (fun X hX C T locs S e t q => XS.lneg S.here C.1 rfl (hb C.2.2.2.1 hd) rfl q) w
theorem w_i2l (C : Hand X Z y bytes mx rt R n0 Q) {x : Int32} (hd : decode bytes pc = .ok (.i2l, 1)) (hp : pc + 1 = pc') (w : Wp X k n h pc' ls (.long x.toInt64 :: st)) : Wp X k n h pc ls (.int x :: st) := by
  subst hp; exact Wp.go C (fun X hX C T locs S e t q => XS.i2l S.here C.1 rfl (hb C.2.2.2.1 hd) rfl q) w
theorem w_l2i (C : Hand X Z y bytes mx rt R n0 Q) {x : Int64} (hd : decode bytes pc = .ok (.l2i, 1)) (hp : pc + 1 = pc') (w : Wp X k n h pc' ls (.int x.toInt32 :: st)) : Wp X k n h pc ls (.long x :: st) := by
  subst hp; exact Wp.go C (fun X hX C T locs S e t q => XS.l2i S.here C.1 rfl (hb C.2.2.2.1 hd) rfl q) w
theorem w_i2b (C : Hand X Z y bytes mx rt R n0 Q) {x : Int32} (hd : decode bytes pc = .ok (.i2b, 1)) (hp : pc + 1 = pc') (w : Wp X k n h pc' ls (.int x.toInt8.toInt32 :: st)) : Wp X k n h pc ls (.int x :: st) := by
  subst hp; exact Wp.go C (fun X hX C T locs S e t q => XS.i2b S.here C.1 rfl (hb C.2.2.2.1 hd) rfl q) w
theorem w_i2s (C : Hand X Z y bytes mx rt R n0 Q) {x : Int32} (hd : decode bytes pc = .ok (.i2s, 1)) (hp : pc + 1 = pc') (w : Wp X k n h pc' ls (.int x.toInt16.toInt32 :: st)) : Wp X k n h pc ls (.int x :: st) := by
  subst hp; exact Wp.go C (fun X hX C T locs S e t q => XS.i2s S.here C.1 rfl (hb C.2.2.2.1 hd) rfl q) w
theorem w_i2c (C : Hand X Z y bytes mx rt R n0 Q) {x : Int32} (hd : decode bytes pc = .ok (.i2c, 1)) (hp : pc + 1 = pc') (w : Wp X k n h pc' ls (.int x.toUInt32.toUInt16.toUInt32.toInt32 :: st)) : Wp X k n h pc ls (.int x :: st) := by
  subst hp; exact Wp.go C (fun X hX C T locs S e t q => XS.i2c S.here C.1 rfl (hb C.2.2.2.1 hd) rfl q) w
theorem w_lcmp (C : Hand X Z y bytes mx rt R n0 Q) {x z : Int64} (hd : decode bytes pc = .ok (.lcmp, 1)) (hp : pc + 1 = pc') (w : Wp X k n h pc' ls (.int (lcmpW x z) :: st)) : Wp X k n h pc ls (.long z :: .long x :: st) := by
  subst hp; exact Wp.go C (fun X hX C T locs S e t q => XS.lcmp S.here C.1 rfl (hb C.2.2.2.1 hd) rfl q) w
theorem w_goto (C : Hand X Z y bytes mx rt R n0 Q) {o : Int} (hd : decode bytes pc = .ok (.goto o, 3)) (ho : 0 ≤ (pc : Int) + o) (hp : ((pc : Int) + o).toNat = pc') (w : Wp X k n h pc' ls st) : Wp X k n h pc ls st := by
  exact Wp.go C (fun X hX C T locs S e t q => XS.goto S.here C.1 rfl (pc0 := pc) rfl (hb C.2.2.2.1 hd) ho hp q) w
theorem w_icmp_eq (C : Hand X Z y bytes mx rt R n0 Q) {o : Int} {x z : Int32} {pn : Nat} (hd : decode bytes pc = .ok (.if_icmp .eq o, 3)) (ho : 0 ≤ (pc : Int) + o) (hp : ((pc : Int) + o).toNat = pc') (hn : pc + 3 = pn) (wy : x = z → Wp X k n h pc' ls st) (wn : ¬ x = z → Wp X k n h pn ls st) : Wp X k n h pc ls (.int z :: .int x :: st) := by
  subst hn
  by_cases q : x = z
  · exact Wp.go C (fun X hX C T locs S e t r => XS.icmpYes S.here C.1 rfl (pc0 := pc) rfl (hb C.2.2.2.1 hd) rfl (teq q).1 ho hp r) (wy q)
  · exact Wp.go C (fun X hX C T locs S e t r => XS.icmpNo S.here C.1 rfl (hb C.2.2.2.1 hd) rfl (feq q).1 r) (wn (by first | exact q | exact Decidable.not_not.mp q))
theorem w_if_eq (C : Hand X Z y bytes mx rt R n0 Q) {o : Int} {x : Int32} {pn : Nat} (hd : decode bytes pc = .ok (.ifCond .eq o, 3)) (ho : 0 ≤ (pc : Int) + o) (hp : ((pc : Int) + o).toNat = pc') (hn : pc + 3 = pn) (wy : x = (0 : Int32) → Wp X k n h pc' ls st) (wn : ¬ x = (0 : Int32) → Wp X k n h pn ls st) : Wp X k n h pc ls (.int x :: st) := by
  subst hn
  by_cases q : x = (0 : Int32)
  · exact Wp.go C (fun X hX C T locs S e t r => XS.ifYes S.here C.1 rfl (pc0 := pc) rfl (hb C.2.2.2.1 hd) rfl ((if0 _ _).trans (teq q).1) ho hp r) (wy q)
  · exact Wp.go C (fun X hX C T locs S e t r => XS.ifNo S.here C.1 rfl (hb C.2.2.2.1 hd) rfl ((if0 _ _).trans (feq q).1) r) (wn (by first | exact q | exact Decidable.not_not.mp q))
theorem w_icmp_ne (C : Hand X Z y bytes mx rt R n0 Q) {o : Int} {x z : Int32} {pn : Nat} (hd : decode bytes pc = .ok (.if_icmp .ne o, 3)) (ho : 0 ≤ (pc : Int) + o) (hp : ((pc : Int) + o).toNat = pc') (hn : pc + 3 = pn) (wy : ¬ x = z → Wp X k n h pc' ls st) (wn : x = z → Wp X k n h pn ls st) : Wp X k n h pc ls (.int z :: .int x :: st) := by
  subst hn
  by_cases q : ¬ x = z
  · exact Wp.go C (fun X hX C T locs S e t r => XS.icmpYes S.here C.1 rfl (pc0 := pc) rfl (hb C.2.2.2.1 hd) rfl (feq q).2 ho hp r) (wy q)
  · exact Wp.go C (fun X hX C T locs S e t r => XS.icmpNo S.here C.1 rfl (hb C.2.2.2.1 hd) rfl (teq (Decidable.not_not.mp q)).2 r) (wn (by first | exact q | exact Decidable.not_not.mp q))
theorem w_if_ne (C : Hand X Z y bytes mx rt R n0 Q) {o : Int} {x : Int32} {pn : Nat} (hd : decode bytes pc = .ok (.ifCond .ne o, 3)) (ho : 0 ≤ (pc : Int) + o) (hp : ((pc : Int) + o).toNat = pc') (hn : pc + 3 = pn) (wy : ¬ x = (0 : Int32) → Wp X k n h pc' ls st) (wn : x = (0 : Int32) → Wp X k n h pn ls st) : Wp X k n h pc ls (.int x :: st) := by
  subst hn
  by_cases q : ¬ x = (0 : Int32)
  · exact Wp.go C (fun X hX C T locs S e t r => XS.ifYes S.here C.1 rfl (pc0 := pc) rfl (hb C.2.2.2.1 hd) rfl ((if0 _ _).trans (feq q).2) ho hp r) (wy q)
  · exact Wp.go C (fun X hX C T locs S e t r => XS.ifNo S.here C.1 rfl (hb C.2.2.2.1 hd) rfl ((if0 _ _).trans (teq (Decidable.not_not.mp q)).2) r) (wn (by first | exact q | exact Decidable.not_not.mp q))
theorem w_icmp_lt (C : Hand X Z y bytes mx rt R n0 Q) {o : Int} {x z : Int32} {pn : Nat} (hd : decode bytes pc = .ok (.if_icmp .lt o, 3)) (ho : 0 ≤ (pc : Int) + o) (hp : ((pc : Int) + o).toNat = pc') (hn : pc + 3 = pn) (wy : x < z → Wp X k n h pc' ls st) (wn : ¬ x < z → Wp X k n h pn ls st) : Wp X k n h pc ls (.int z :: .int x :: st) := by
  subst hn
  by_cases q : x < z
  · exact Wp.go C (fun X hX C T locs S e t r => XS.icmpYes S.here C.1 rfl (pc0 := pc) rfl (hb C.2.2.2.1 hd) rfl (tlt q).1 ho hp r) (wy q)
  · exact Wp.go C (fun X hX C T locs S e t r => XS.icmpNo S.here C.1 rfl (hb C.2.2.2.1 hd) rfl (flt q).1 r) (wn (by first | exact q | exact Decidable.not_not.mp q))
theorem w_if_lt (C : Hand X Z y bytes mx rt R n0 Q) {o : Int} {x : Int32} {pn : Nat} (hd : decode bytes pc = .ok (.ifCond .lt o, 3)) (ho : 0 ≤ (pc : Int) + o) (hp : ((pc : Int) + o).toNat = pc') (hn : pc + 3 = pn) (wy : x < (0 : Int32) → Wp X k n h pc' ls st) (wn : ¬ x < (0 : Int32) → Wp X k n h pn ls st) : Wp X k n h pc ls (.int x :: st) := by
  subst hn
  by_cases q : x < (0 : Int32)
  · exact Wp.go C (fun X hX C T locs S e t r => XS.ifYes S.here C.1 rfl (pc0 := pc) rfl (hb C.2.2.2.1 hd) rfl ((if0 _ _).trans (tlt q).1) ho hp r) (wy q)
  · exact Wp.go C (fun X hX C T locs S e t r => XS.ifNo S.here C.1 rfl (hb C.2.2.2.1 hd) rfl ((if0 _ _).trans (flt q).1) r) (wn (by first | exact q | exact Decidable.not_not.mp q))
theorem w_icmp_ge (C : Hand X Z y bytes mx rt R n0 Q) {o : Int} {x z : Int32} {pn : Nat} (hd : decode bytes pc = .ok (.if_icmp .ge o, 3)) (ho : 0 ≤ (pc : Int) + o) (hp : ((pc : Int) + o).toNat = pc') (hn : pc + 3 = pn) (wy : ¬ x < z → Wp X k n h pc' ls st) (wn : x < z → Wp X k n h pn ls st) : Wp X k n h pc ls (.int z :: .int x :: st) := by
  subst hn
  by_cases q : ¬ x < z
  · exact Wp.go C (fun X hX C T locs S e t r => XS.icmpYes S.here C.1 rfl (pc0 := pc) rfl (hb C.2.2.2.1 hd) rfl (flt q).2.1 ho hp r) (wy q)
  · exact Wp.go C (fun X hX C T locs S e t r => XS.icmpNo S.here C.1 rfl (hb C.2.2.2.1 hd) rfl (tlt (Decidable.not_not.mp q)).2.1 r) (wn (by first | exact q | exact Decidable.not_not.mp q))
theorem w_if_ge (C : Hand X Z y bytes mx rt R n0 Q) {o : Int} {x : Int32} {pn : Nat} (hd : decode bytes pc = .ok (.ifCond .ge o, 3)) (ho : 0 ≤ (pc : Int) + o) (hp : ((pc : Int) + o).toNat = pc') (hn : pc + 3 = pn) (wy : ¬ x < (0 : Int32) → Wp X k n h pc' ls st) (wn : x < (0 : Int32) → Wp X k n h pn ls st) : Wp X k n h pc ls (.int x :: st) := by
  subst hn
  by_cases q : ¬ x < (0 : Int32)
  · exact Wp.go C (fun X hX C T locs S e t r => XS.ifYes S.here C.1 rfl (pc0 := pc) rfl (hb C.2.2.2.1 hd) rfl ((if0 _ _).trans (flt q).2.1) ho hp r) (wy q)
  · exact Wp.go C (fun X hX C T locs S e t r => XS.ifNo S.here C.1 rfl (hb C.2.2.2.1 hd) rfl ((if0 _ _).trans (tlt (Decidable.not_not.mp q)).2.1) r) (wn (by first | exact q | exact Decidable.not_not.mp q))
theorem w_icmp_gt (C : Hand X Z y bytes mx rt R n0 Q) {o : Int} {x z : Int32} {pn : Nat} (hd : decode bytes pc = .ok (.if_icmp .gt o, 3)) (ho : 0 ≤ (pc : Int) + o) (hp : ((pc : Int) + o).toNat = pc') (hn : pc + 3 = pn) (wy : z < x → Wp X k n h pc' ls st) (wn : ¬ z < x → Wp X k n h pn ls st) : Wp X k n h pc ls (.int z :: .int x :: st) := by
  subst hn
  by_cases q : z < x
  · exact Wp.go C (fun X hX C T locs S e t r => XS.icmpYes S.here C.1 rfl (pc0 := pc) rfl (hb C.2.2.2.1 hd) rfl (tlt q).2.2.1 ho hp r) (wy q)
  · exact Wp.go C (fun X hX C T locs S e t r => XS.icmpNo S.here C.1 rfl (hb C.2.2.2.1 hd) rfl (flt q).2.2.1 r) (wn (by first | exact q | exact Decidable.not_not.mp q))
theorem w_if_gt (C : Hand X Z y bytes mx rt R n0 Q) {o : Int} {x : Int32} {pn : Nat} (hd : decode bytes pc = .ok (.ifCond .gt o, 3)) (ho : 0 ≤ (pc : Int) + o) (hp : ((pc : Int) + o).toNat = pc') (hn : pc + 3 = pn) (wy : (0 : Int32) < x → Wp X k n h pc' ls st) (wn : ¬ (0 : Int32) < x → Wp X k n h pn ls st) : Wp X k n h pc ls (.int x :: st) := by
  subst hn
  by_cases q : (0 : Int32) < x
  · exact Wp.go C (fun X hX C T locs S e t r => XS.ifYes S.here C.1 rfl (pc0 := pc) rfl (hb C.2.2.2.1 hd) rfl ((if0 _ _).trans (tlt q).2.2.1) ho hp r) (wy q)
  · exact Wp.go C (fun X hX C T locs S e t r => XS.ifNo S.here C.1 rfl (hb C.2.2.2.1 hd) rfl ((if0 _ _).trans (flt q).2.2.1) r) (wn (by first | exact q | exact Decidable.not_not.mp q))
theorem w_icmp_le (C : Hand X Z y bytes mx rt R n0 Q) {o : Int} {x z : Int32} {pn : Nat} (hd : decode bytes pc = .ok (.if_icmp .le o, 3)) (ho : 0 ≤ (pc : Int) + o) (hp : ((pc : Int) + o).toNat = pc') (hn : pc + 3 = pn) (wy : ¬ z < x → Wp X k n h pc' ls st) (wn : z < x → Wp X k n h pn ls st) : Wp X k n h pc ls (.int z :: .int x :: st) := by
  subst hn
  by_cases q : ¬ z < x
  · exact Wp.go C (fun X hX C T locs S e t r => XS.icmpYes S.here C.1 rfl (pc0 := pc) rfl (hb C.2.2.2.1 hd) rfl (flt q).2.2.2 ho hp r) (wy q)
  · exact Wp.go C (fun X hX C T locs S e t r => XS.icmpNo S.here C.1 rfl (hb C.2.2.2.1 hd) rfl (tlt (Decidable.not_not.mp q)).2.2.2 r) (wn (by first | exact q | exact Decidable.not_not.mp q))
theorem w_if_le (C : Hand X Z y bytes mx rt R n0 Q) {o : Int} {x : Int32} {pn : Nat} (hd : decode bytes pc = .ok (.ifCond .le o, 3)) (ho : 0 ≤ (pc : Int) + o) (hp : ((pc : Int) + o).toNat = pc') (hn : pc + 3 = pn) (wy : ¬ (0 : Int32) < x → Wp X k n h pc' ls st) (wn : (0 : Int32) < x → Wp X k n h pn ls st) : Wp X k n h pc ls (.int x :: st) := by
  subst hn
  by_cases q : ¬ (0 : Int32) < x
  · exact Wp.go C (fun X hX C T locs S e t r => XS.ifYes S.here C.1 rfl (pc0 := pc) rfl (hb C.2.2.2.1 hd) rfl ((if0 _ _).trans (flt q).2.2.2) ho hp r) (wy q)
  · exact Wp.go C (fun X hX C T locs S e t r => XS.ifNo S.here C.1 rfl (hb C.2.2.2.1 hd) rfl ((if0 _ _).trans (tlt (Decidable.not_not.mp q)).2.2.2) r) (wn (by first | exact q | exact Decidable.not_not.mp q))
theorem w_lc_eq (C : Hand X Z y bytes mx rt R n0 Q) {o : Int} {x z : Int64} {pm pn : Nat} (hd0 : decode bytes pc = .ok (.lcmp, 1)) (h0 : pc + 1 = pm) (hd : decode bytes pm = .ok (.ifCond .eq o, 3)) (ho : 0 ≤ (pm : Int) + o) (hp : ((pm : Int) + o).toNat = pc') (hn : pm + 3 = pn) (wy : x = z → Wp X k n h pc' ls st) (wn : ¬ x = z → Wp X k n h pn ls st) : Wp X k n h pc ls (.long z :: .long x :: st) :=
  w_lcmp C hd0 h0 (w_if_eq C hd ho hp hn (fun q => wy ((lw_eq x z).mp q)) (fun q => wn ((not_congr (lw_eq x z)).mp q)))
theorem w_lc_ne (C : Hand X Z y bytes mx rt R n0 Q) {o : Int} {x z : Int64} {pm pn : Nat} (hd0 : decode bytes pc = .ok (.lcmp, 1)) (h0 : pc + 1 = pm) (hd : decode bytes pm = .ok (.ifCond .ne o, 3)) (ho : 0 ≤ (pm : Int) + o) (hp : ((pm : Int) + o).toNat = pc') (hn : pm + 3 = pn) (wy : ¬ x = z → Wp X k n h pc' ls st) (wn : x = z → Wp X k n h pn ls st) : Wp X k n h pc ls (.long z :: .long x :: st) :=
  w_lcmp C hd0 h0 (w_if_ne C hd ho hp hn (fun q => wy ((not_congr (lw_eq x z)).mp q)) (fun q => wn ((lw_eq x z).mp q)))
theorem w_lc_lt (C : Hand X Z y bytes mx rt R n0 Q) {o : Int} {x z : Int64} {pm pn : Nat} (hd0 : decode bytes pc = .ok (.lcmp, 1)) (h0 : pc + 1 = pm) (hd : decode bytes pm = .ok (.ifCond .lt o, 3)) (ho : 0 ≤ (pm : Int) + o) (hp : ((pm : Int) + o).toNat = pc') (hn : pm + 3 = pn) (wy : x < z → Wp X k n h pc' ls st) (wn : ¬ x < z → Wp X k n h pn ls st) : Wp X k n h pc ls (.long z :: .long x :: st) :=
  w_lcmp C hd0 h0 (w_if_lt C hd ho hp hn (fun q => wy ((lw_lt x z).mp q)) (fun q => wn ((not_congr (lw_lt x z)).mp q)))
theorem w_lc_ge (C : Hand X Z y bytes mx rt R n0 Q) {o : Int} {x z : Int64} {pm pn : Nat} (hd0 : decode bytes pc = .ok (.lcmp, 1)) (h0 : pc + 1 = pm) (hd : decode bytes pm = .ok (.ifCond .ge o, 3)) (ho : 0 ≤ (pm : Int) + o) (hp : ((pm : Int) + o).toNat = pc') (hn : pm + 3 = pn) (wy : ¬ x < z → Wp X k n h pc' ls st) (wn : x < z → Wp X k n h pn ls st) : Wp X k n h pc ls (.long z :: .long x :: st) :=
  w_lcmp C hd0 h0 (w_if_ge C hd ho hp hn (fun q => wy ((not_congr (lw_lt x z)).mp q)) (fun q => wn ((lw_lt x z).mp q)))
theorem w_lc_gt (C : Hand X Z y bytes mx rt R n0 Q) {o : Int} {x z : Int64} {pm pn : Nat} (hd0 : decode bytes pc = .ok (.lcmp, 1)) (h0 : pc + 1 = pm) (hd : decode bytes pm = .ok (.ifCond .gt o, 3)) (ho : 0 ≤ (pm : Int) + o) (hp : ((pm : Int) + o).toNat = pc') (hn : pm + 3 = pn) (wy : z < x → Wp X k n h pc' ls st) (wn : ¬ z < x → Wp X k n h pn ls st) : Wp X k n h pc ls (.long z :: .long x :: st) :=
  w_lcmp C hd0 h0 (w_if_gt C hd ho hp hn (fun q => wy ((lw_gt x z).mp q)) (fun q => wn ((not_congr (lw_gt x z)).mp q)))
theorem w_lc_le (C : Hand X Z y bytes mx rt R n0 Q) {o : Int} {x z : Int64} {pm pn : Nat} (hd0 : decode bytes pc = .ok (.lcmp, 1)) (h0 : pc + 1 = pm) (hd : decode bytes pm = .ok (.ifCond .le o, 3)) (ho : 0 ≤ (pm : Int) + o) (hp : ((pm : Int) + o).toNat = pc') (hn : pm + 3 = pn) (wy : ¬ z < x → Wp X k n h pc' ls st) (wn : z < x → Wp X k n h pn ls st) : Wp X k n h pc ls (.long z :: .long x :: st) :=
  w_lcmp C hd0 h0 (w_if_le C hd ho hp hn (fun q => wy ((not_congr (lw_gt x z)).mp q)) (fun q => wn ((lw_gt x z).mp q)))
theorem w_jcmp_eq (C : Hand X Z y bytes mx rt R n0 Q) {o : Int} {x z : Int32} {pn : Nat} (hd : decode bytes pc = .ok (.if_icmp .eq o, 3)) (ho : 0 ≤ (pc : Int) + o) (hp : ((pc : Int) + o).toNat = pc') (hn : pc + 3 = pn) (wy : x.toInt = z.toInt → Wp X k n h pc' ls st) (wn : ¬ x.toInt = z.toInt → Wp X k n h pn ls st) : Wp X k n h pc ls (.int z :: .int x :: st) :=
  w_icmp_eq C hd ho hp hn (fun q => wy (Int32.toInt_inj.mpr q)) (fun q => wn (fun r => q (Int32.toInt_inj.mp r)))
theorem w_jf_eq (C : Hand X Z y bytes mx rt R n0 Q) {o : Int} {x : Int32} {pn : Nat} (hd : decode bytes pc = .ok (.ifCond .eq o, 3)) (ho : 0 ≤ (pc : Int) + o) (hp : ((pc : Int) + o).toNat = pc') (hn : pc + 3 = pn) (wy : x.toInt = 0 → Wp X k n h pc' ls st) (wn : ¬ x.toInt = 0 → Wp X k n h pn ls st) : Wp X k n h pc ls (.int x :: st) :=
  w_if_eq C hd ho hp hn (fun q => wy (Int32.toInt_inj.mpr q)) (fun q => wn (fun r => q (Int32.toInt_inj.mp r)))
theorem w_jc_eq (C : Hand X Z y bytes mx rt R n0 Q) {o : Int} {x z : Int64} {pm pn : Nat} (hd0 : decode bytes pc = .ok (.lcmp, 1)) (h0 : pc + 1 = pm) (hd : decode bytes pm = .ok (.ifCond .eq o, 3)) (ho : 0 ≤ (pm : Int) + o) (hp : ((pm : Int) + o).toNat = pc') (hn : pm + 3 = pn) (wy : x.toInt = z.toInt → Wp X k n h pc' ls st) (wn : ¬ x.toInt = z.toInt → Wp X k n h pn ls st) : Wp X k n h pc ls (.long z :: .long x :: st) :=
  w_lc_eq C hd0 h0 hd ho hp hn (fun q => wy (Int64.toInt_inj.mpr q)) (fun q => wn (fun r => q (Int64.toInt_inj.mp r)))
theorem w_jcmp_ne (C : Hand X Z y bytes mx rt R n0 Q) {o : Int} {x z : Int32} {pn : Nat} (hd : decode bytes pc = .ok (.if_icmp .ne o, 3)) (ho : 0 ≤ (pc : Int) + o) (hp : ((pc : Int) + o).toNat = pc') (hn : pc + 3 = pn) (wy : ¬ x.toInt = z.toInt → Wp X k n h pc' ls st) (wn : x.toInt = z.toInt → Wp X k n h pn ls st) : Wp X k n h pc ls (.int z :: .int x :: st) :=
  w_icmp_ne C hd ho hp hn (fun q => wy (fun r => q (Int32.toInt_inj.mp r))) (fun q => wn (Int32.toInt_inj.mpr q))
theorem w_jf_ne (C : Hand X Z y bytes mx rt R n0 Q) {o : Int} {x : Int32} {pn : Nat} (hd : decode bytes pc = .ok (.ifCond .ne o, 3)) (ho : 0 ≤ (pc : Int) + o) (hp : ((pc : Int) + o).toNat = pc') (hn : pc + 3 = pn) (wy : ¬ x.toInt = 0 → Wp X k n h pc' ls st) (wn : x.toInt = 0 → Wp X k n h pn ls st) : Wp X k n h pc ls (.int x :: st) :=
  w_if_ne C hd ho hp hn (fun q => wy (fun r => q (Int32.toInt_inj.mp r))) (fun q => wn (Int32.toInt_inj.mpr q))
theorem w_jc_ne (C : Hand X Z y bytes mx rt R n0 Q) {o : Int} {x z : Int64} {pm pn : Nat} (hd0 : decode bytes pc = .ok (.lcmp, 1)) (h0 : pc + 1 = pm) (hd : decode bytes pm = .ok (.ifCond .ne o, 3)) (ho : 0 ≤ (pm : Int) + o) (hp : ((pm : Int) + o).toNat = pc') (hn : pm + 3 = pn) (wy : ¬ x.toInt = z.toInt → Wp X k n h pc' ls st) (wn : x.toInt = z.toInt → Wp X k n h pn ls st) : Wp X k n h pc ls (.long z :: .long x :: st) :=
  w_lc_ne C hd0 h0 hd ho hp hn (fun q => wy (fun r => q (Int64.toInt_inj.mp r))) (fun q => wn (Int64.toInt_inj.mpr q))
theorem w_jcmp_lt (C : Hand X Z y bytes mx rt R n0 Q) {o : Int} {x z : Int32} {pn : Nat} (hd : decode bytes pc = .ok (.if_icmp .lt o, 3)) (ho : 0 ≤ (pc : Int) + o) (hp : ((pc : Int) + o).toNat = pc') (hn : pc + 3 = pn) (wy : x.toInt < z.toInt → Wp X k n h pc' ls st) (wn : z.toInt ≤ x.toInt → Wp X k n h pn ls st) : Wp X k n h pc ls (.int z :: .int x :: st) :=
  w_icmp_lt C hd ho hp hn (fun q => wy (Int32.lt_iff_toInt_lt.mp q)) (fun q => wn (Int.not_lt.mp (fun r => q (Int32.lt_iff_toInt_lt.mpr r))))
theorem w_jf_lt (C : Hand X Z y bytes mx rt R n0 Q) {o : Int} {x : Int32} {pn : Nat} (hd : decode bytes pc = .ok (.ifCond .lt o, 3)) (ho : 0 ≤ (pc : Int) + o) (hp : ((pc : Int) + o).toNat = pc') (hn : pc + 3 = pn) (wy : x.toInt < 0 → Wp X k n h pc' ls st) (wn : 0 ≤ x.toInt → Wp X k n h pn ls st) : Wp X k n h pc ls (.int x :: st) :=
  w_if_lt C hd ho hp hn (fun q => wy (Int32.lt_iff_toInt_lt.mp q)) (fun q => wn (Int.not_lt.mp (fun r => q (Int32.lt_iff_toInt_lt.mpr r))))
theorem w_jc_lt (C : Hand X Z y bytes mx rt R n0 Q) {o : Int} {x z : Int64} {pm pn : Nat} (hd0 : decode bytes pc = .ok (.lcmp, 1)) (h0 : pc + 1 = pm) (hd : decode bytes pm = .ok (.ifCond .lt o, 3)) (ho : 0 ≤ (pm : Int) + o) (hp : ((pm : Int) + o).toNat = pc') (hn : pm + 3 = pn) (wy : x.toInt < z.toInt → Wp X k n h pc' ls st) (wn : z.toInt ≤ x.toInt → Wp X k n h pn ls st) : Wp X k n h pc ls (.long z :: .long x :: st) :=
  w_lc_lt C hd0 h0 hd ho hp hn (fun q => wy (Int64.lt_iff_toInt_lt.mp q)) (fun q => wn (Int.not_lt.mp (fun r => q (Int64.lt_iff_toInt_lt.mpr r))))
theorem w_jcmp_ge (C : Hand X Z y bytes mx rt R n0 Q) {o : Int} {x z : Int32} {pn : Nat} (hd : decode bytes pc = .ok (.if_icmp .ge o, 3)) (ho : 0 ≤ (pc : Int) + o) (hp : ((pc : Int) + o).toNat = pc') (hn : pc + 3 = pn) (wy : z.toInt ≤ x.toInt → Wp X k n h pc' ls st) (wn : x.toInt < z.toInt → Wp X k n h pn ls st) : Wp X k n h pc ls (.int z :: .int x :: st) :=
  w_icmp_ge C hd ho hp hn (fun q => wy (Int.not_lt.mp (fun r => q (Int32.lt_iff_toInt_lt.mpr r)))) (fun q => wn (Int32.lt_iff_toInt_lt.mp q))
theorem w_jf_ge (C : Hand X Z y bytes mx rt R n0 Q) {o : Int} {x : Int32} {pn : Nat} (hd : decode bytes pc = .ok (.ifCond .ge o, 3)) (ho : 0 ≤ (pc : Int) + o) (hp : ((pc : Int) + o).toNat = pc') (hn : pc + 3 = pn) (wy : 0 ≤ x.toInt → Wp X k n h pc' ls st) (wn : x.toInt < 0 → Wp X k n h pn ls st) : Wp X k n h pc ls (.int x :: st) :=
  w_if_ge C hd ho hp hn (fun q => wy (Int.not_lt.mp (fun r => q (Int32.lt_iff_toInt_lt.mpr r)))) (fun q => wn (Int32.lt_iff_toInt_lt.mp q))
theorem w_jc_ge (C : Hand X Z y bytes mx rt R n0 Q) {o : Int} {x z : Int64} {pm pn : Nat} (hd0 : decode bytes pc = .ok (.lcmp, 1)) (h0 : pc + 1 = pm) (hd : decode bytes pm = .ok (.ifCond .ge o, 3)) (ho : 0 ≤ (pm : Int) + o) (hp : ((pm : Int) + o).toNat = pc') (hn : pm + 3 = pn) (wy : z.toInt ≤ x.toInt → Wp X k n h pc' ls st) (wn : x.toInt < z.toInt → Wp X k n h pn ls st) : Wp X k n h pc ls (.long z :: .long x :: st) :=
  w_lc_ge C hd0 h0 hd ho hp hn (fun q => wy (Int.not_lt.mp (fun r => q (Int64.lt_iff_toInt_lt.mpr r)))) (fun q => wn (Int64.lt_iff_toInt_lt.mp q))
theorem w_jcmp_gt (C : Hand X Z y bytes mx rt R n0 Q) {o : Int} {x z : Int32} {pn : Nat} (hd : decode bytes pc = .ok (.if_icmp .gt o, 3)) (ho : 0 ≤ (pc : Int) + o) (hp : ((pc : Int) + o).toNat = pc') (hn : pc + 3 = pn) (wy : z.toInt < x.toInt → Wp X k n h pc' ls st) (wn : x.toInt ≤ z.toInt → Wp X k n h pn ls st) : Wp X k n h pc ls (.int z :: .int x :: st) :=
  w_icmp_gt C hd ho hp hn (fun q => wy (Int32.lt_iff_toInt_lt.mp q)) (fun q => wn (Int.not_lt.mp (fun r => q (Int32.lt_iff_toInt_lt.mpr r))))
theorem w_jf_gt (C : Hand X Z y bytes mx rt R n0 Q) {o : Int} {x : Int32} {pn : Nat} (hd : decode bytes pc = .ok (.ifCond .gt o, 3)) (ho : 0 ≤ (pc : Int) + o) (hp : ((pc : Int) + o).toNat = pc') (hn : pc + 3 = pn) (wy : 0 < x.toInt → Wp X k n h pc' ls st) (wn : x.toInt ≤ 0 → Wp X k n h pn ls st) : Wp X k n h pc ls (.int x :: st) :=
  w_if_gt C hd ho hp hn (fun q => wy (Int32.lt_iff_toInt_lt.mp q)) (fun q => wn (Int.not_lt.mp (fun r => q (Int32.lt_iff_toInt_lt.mpr r))))
theorem w_jc_gt (C : Hand X Z y bytes mx rt R n0 Q) {o : Int} {x z : Int64} {pm pn : Nat} (hd0 : decode bytes pc = .ok (.lcmp, 1)) (h0 : pc + 1 = pm) (hd : decode bytes pm = .ok (.ifCond .gt o, 3)) (ho : 0 ≤ (pm : Int) + o) (hp : ((pm : Int) + o).toNat = pc') (hn : pm + 3 = pn) (wy : z.toInt < x.toInt → Wp X k n h pc' ls st) (wn : x.toInt ≤ z.toInt → Wp X k n h pn ls st) : Wp X k n h pc ls (.long z :: .long x :: st) :=
  w_lc_gt C hd0 h0 hd ho hp hn (fun q => wy (Int64.lt_iff_toInt_lt.mp q)) (fun q => wn (Int.not_lt.mp (fun r => q (Int64.lt_iff_toInt_lt.mpr r))))
theorem w_jcmp_le (C : Hand X Z y bytes mx rt R n0 Q) {o : Int} {x z : Int32} {pn : Nat} (hd : decode bytes pc = .ok (.if_icmp .le o, 3)) (ho : 0 ≤ (pc : Int) + o) (hp : ((pc : Int) + o).toNat = pc') (hn : pc + 3 = pn) (wy : x.toInt ≤ z.toInt → Wp X k n h pc' ls st) (wn : z.toInt < x.toInt → Wp X k n h pn ls st) : Wp X k n h pc ls (.int z :: .int x :: st) :=
  w_icmp_le C hd ho hp hn (fun q => wy (Int.not_lt.mp (fun r => q (Int32.lt_iff_toInt_lt.mpr r)))) (fun q => wn (Int32.lt_iff_toInt_lt.mp q))
theorem w_jf_le (C : Hand X Z y bytes mx rt R n0 Q) {o : Int} {x : Int32} {pn : Nat} (hd : decode bytes pc = .ok (.ifCond .le o, 3)) (ho : 0 ≤ (pc : Int) + o) (hp : ((pc : Int) + o).toNat = pc') (hn : pc + 3 = pn) (wy : x.toInt ≤ 0 → Wp X k n h pc' ls st) (wn : 0 < x.toInt → Wp X k n h pn ls st) : Wp X k n h pc ls (.int x :: st) :=
  w_if_le C hd ho hp hn (fun q => wy (Int.not_lt.mp (fun r => q (Int32.lt_iff_toInt_lt.mpr r)))) (fun q => wn (Int32.lt_iff_toInt_lt.mp q))
theorem w_jc_le (C : Hand X Z y bytes mx rt R n0 Q) {o : Int} {x z : Int64} {pm pn : Nat} (hd0 : decode bytes pc = .ok (.lcmp, 1)) (h0 : pc + 1 = pm) (hd : decode bytes pm = .ok (.ifCond .le o, 3)) (ho : 0 ≤ (pm : Int) + o) (hp : ((pm : Int) + o).toNat = pc') (hn : pm + 3 = pn) (wy : x.toInt ≤ z.toInt → Wp X k n h pc' ls st) (wn : z.toInt < x.toInt → Wp X k n h pn ls st) : Wp X k n h pc ls (.long z :: .long x :: st) :=
  w_lc_le C hd0 h0 hd ho hp hn (fun q => wy (Int.not_lt.mp (fun r => q (Int64.lt_iff_toInt_lt.mpr r)))) (fun q => wn (Int64.lt_iff_toInt_lt.mp q))
theorem w_ifnonnullY (C : Hand X Z y bytes mx rt R n0 Q) {o : Int} {b : Addr} (hd : decode bytes pc = .ok (.ifnonnull o, 3)) (ho : 0 ≤ (pc : Int) + o) (hp : ((pc : Int) + o).toNat = pc') (w : Wp X k n h pc' ls st) : Wp X k n h pc ls (.ref b :: st) :=
  Wp.go C (fun X hX C T locs S e t r => XS.ifnonnullYes S.here C.1 rfl (pc0 := pc) rfl (hb C.2.2.2.1 hd) rfl ho hp r) w
theorem w_ifnonnullN (C : Hand X Z y bytes mx rt R n0 Q) {o : Int} (hd : decode bytes pc = .ok (.ifnonnull o, 3)) (hp : pc + 3 = pc') (w : Wp X k n h pc' ls st) : Wp X k n h pc ls (.null :: st) := by
  subst hp; exact Wp.go C (fun X hX C T locs S e t r => XS.ifnonnullNo S.here C.1 rfl (hb C.2.2.2.1 hd) rfl r) w
theorem w_ifnullN (C : Hand X Z y bytes mx rt R n0 Q) {o : Int} {b : Addr} (hd : decode bytes pc = .ok (.ifnull o, 3)) (hp : pc + 3 = pc') (w : Wp X k n h pc' ls st) : Wp X k n h pc ls (.ref b :: st) := by
  subst hp; exact Wp.go C (fun X hX C T locs S e t r => XS.ifnullNo S.here C.1 rfl (hb C.2.2.2.1 hd) rfl r) w
theorem w_ifnullY (C : Hand X Z y bytes mx rt R n0 Q) {o : Int} (hd : decode bytes pc = .ok (.ifnull o, 3)) (ho : 0 ≤ (pc : Int) + o) (hp : ((pc : Int) + o).toNat = pc') (w : Wp X k n h pc' ls st) : Wp X k n h pc ls (.null :: st) :=
  Wp.go C (fun X hX C T locs S e t r => XS.ifnullYes S.here C.1 rfl (pc0 := pc) rfl (hb C.2.2.2.1 hd) rfl ho hp r) w
theorem w_acmp_eq (C : Hand X Z y bytes mx rt R n0 Q) {o : Int} {x z : Value} {pn : Nat} (h1 : x.isRef = true) (h2 : z.isRef = true) (hd : decode bytes pc = .ok (.if_acmp .eq o, 3)) (ho : 0 ≤ (pc : Int) + o) (hp : ((pc : Int) + o).toNat = pc') (hn : pc + 3 = pn) (wy : x = z → Wp X k n h pc' ls st) (wn : ¬ x = z → Wp X k n h pn ls st) : Wp X k n h pc ls (z :: x :: st) := by
  by_cases q : x = z
  · exact Wp.go C (fun X hX C T locs S e t r => acmp S C.1 rfl h1 h2 (pc0 := pc) (same := true) rfl (hb C.2.2.2.1 hd) rfl (by simp [q]) ho (by simp [acV, hp]) r) (wy q)
  · exact Wp.go C (fun X hX C T locs S e t r => acmp S C.1 rfl h1 h2 (pc0 := pc) (same := false) rfl (hb C.2.2.2.1 hd) rfl (by simp [q]) ho (by simp [acV, hn]) r) (wn q)
theorem w_acmp_ne (C : Hand X Z y bytes mx rt R n0 Q) {o : Int} {x z : Value} {pn : Nat} (h1 : x.isRef = true) (h2 : z.isRef = true) (hd : decode bytes pc = .ok (.if_acmp .ne o, 3)) (ho : 0 ≤ (pc : Int) + o) (hp : ((pc : Int) + o).toNat = pc') (hn : pc + 3 = pn) (wy : ¬ x = z → Wp X k n h pc' ls st) (wn : x = z → Wp X k n h pn ls st) : Wp X k n h pc ls (z :: x :: st) := by
  by_cases q : x = z
  · exact Wp.go C (fun X hX C T locs S e t r => acmp S C.1 rfl h1 h2 (pc0 := pc) (same := true) rfl (hb C.2.2.2.1 hd) rfl (by simp [q]) ho (by simp [acV, hn]) r) (wn q)
  · exact Wp.go C (fun X hX C T locs S e t r => acmp S C.1 rfl h1 h2 (pc0 := pc) (same := false) rfl (hb C.2.2.2.1 hd) rfl (by simp [q]) ho (by simp [acV, hp]) r) (wy q)
/-! returns -/
theorem w_iret {t : FieldType} (C : Hand X Z y bytes mx (some t) R n0 Q) {z : Int32} (hd : decode bytes pc = .ok (.ireturn, 1)) (ht : t = .int ∨ t = .boolean ∨ t = .byte ∨ t = .char ∨ t = .short) (hz : narrow t (.int z) = .int z) (hk : k ≤ R.cells) (hn : n ≤ R.slots) (q : Q (some (.int z)) h) : Wp X k n h pc ls (.int z :: st) :=
  w_done C (fun z => by cases z) hk hn q fun X C T locs fs S hr => retOut S C.1 C.2.2.2.2.2.1 hz (Or.inl ⟨rfl, ht, z, rfl⟩) (hb C.2.2.2.1 hd) hr
theorem w_lret (C : Hand X Z y bytes mx (some .long) R n0 Q) {z : Int64} (hd : decode bytes pc = .ok (.lreturn, 1)) (hk : k ≤ R.cells) (hn : n ≤ R.slots) (q : Q (some (.long z)) h) : Wp X k n h pc ls (.long z :: st) :=
  w_done C (fun z => by cases z) hk hn q fun X C T locs fs S hr => retOut S C.1 C.2.2.2.2.2.1 rfl (Or.inr (Or.inl ⟨rfl, rfl, z, rfl⟩)) (hb C.2.2.2.1 hd) hr
theorem w_aret {t : FieldType} (C : Hand X Z y bytes mx (some t) R n0 Q) {a : Addr} (hd : decode bytes pc = .ok (.areturn, 1)) (ht : t.isReference = true) (hz : narrow t (.ref a) = .ref a) (hk : k ≤ R.cells) (hn : n ≤ R.slots) (q : Q (some (.ref a)) h) : Wp X k n h pc ls (.ref a :: st) :=
  w_done C (fun z => by cases z) hk hn q fun X C T locs fs S hr => retOut S C.1 C.2.2.2.2.2.1 hz (Or.inr (Or.inr (Or.inr (Or.inr ⟨rfl, ht, rfl⟩)))) (hb C.2.2.2.1 hd) hr
theorem w_vret (C : Hand X Z y bytes mx none R n0 Q) (hd : decode bytes pc = .ok (.return_, 1)) (hk : k ≤ R.cells) (hn : n ≤ R.slots) (q : Q none h) : Wp X k n h pc ls [] :=
  w_done C (fun _ => rfl) hk hn q fun X C T locs fs S hr => S.returnOut C.1 C.2.2.2.2.2.1 (hb C.2.2.2.1 hd) hr
/-! arrays -/
def Ars (Z : State) (h : Heap) (a : Addr) (ty : FieldType) (vs : List Value) : Prop := ∃ c : Cell, Arr Z h a c ty ∧ c.slots.toList = vs ∧ vs.length < 2 ^ 31
variable {h' : Heap} {a b : Addr} {ty : FieldType} {vs : List Value}
theorem Ars.lt (F : Ars Z h a ty vs) : a < h.size := by obtain ⟨c, A, -⟩ := F; exact A.lt
theorem Ars.ext (F : Ars Z h a ty vs) (E : Ext h h') : Ars Z h' a ty vs := by obtain ⟨c, A, r⟩ := F; exact ⟨c, A.ext E, r⟩
theorem Ars.other {sl : Nat} {v : Value} (F : Ars Z h b ty vs) (W : Wr h h' a sl v) (q : b ≠ a) : Ars Z h' b ty vs := by obtain ⟨c, A, r⟩ := F; exact ⟨c, A.other W q, r⟩
theorem Ars.same {i : Nat} {v : Value} (F : Ars Z h a ty vs) (W : Wr h h' a i v) : Ars Z h' a ty (vs.set i v) := by
  obtain ⟨c, A, rfl, r⟩ := F
  exact ⟨_, A.same W, by simp [Cell.setSlot], by simpa using r⟩
theorem Ars.keep {ws : List Addr} (F : Ars Z h a ty vs) (K : Keep h h' ws) (q : a ∉ ws) : Ars Z h' a ty vs := by obtain ⟨c, A, r⟩ := F; exact ⟨c, ⟨K.2.1 a c A.1 q, A.2⟩, r⟩
theorem Ars.inb {c : Cell} {j : Int32} {i : Nat} (e : c.slots.toList = vs) (hj : ¬ j < 0) (hi : j.toNatClampNeg = i) (hl : i < vs.length) : ¬ (j < 0 ∨ c.slots.size ≤ j.toNatClampNeg) := by
  subst e hi; intro q; rcases q with q | q
  · exact hj q
  · simp at hl; omega
theorem w_iastore (C : Hand X Z y bytes mx rt R n0 Q) {j : Int32} {x : Int32} {i : Nat} (hd : decode bytes pc = .ok (.iastore, 1)) (A : Ars Z h a .int vs) (hn : n0 ≤ a) (hj : ¬ j < 0) (hi : j.toNatClampNeg = i) (hl : i < vs.length) (hp : pc + 1 = pc')
    (w : ∀ h', Wr h h' a i (.int x) → Ars Z h' a .int (vs.set i (.int x)) → Wp X k n h' pc' ls st) : Wp X k n h pc ls (.int x :: .int j :: .ref a :: st) := by
  subst hp hi
  refine Wp.to C (P := fun h' st' => st' = st ∧ Wr h h' a j.toNatClampNeg (.int x)) (fun X hX C T locs S e => ?_) (fun h' st' q => by obtain ⟨rfl, W⟩ := q; exact w h' W (A.same W))
  obtain ⟨c, Ac, ec, -⟩ := A
  obtain ⟨T', h', S', e', W', st⟩ := stI S C.1 C.2.1 e Ac (j := j) (x := x) (Ars.inb ec hj rfl hl) (g := mkF X.m pc ls (.int x :: .int j :: .ref a :: st)) rfl rfl (hb C.2.2.2.1 hd)
  exact ⟨T', _, h', _, S', e', fun q hq => by cases List.mem_singleton.mp hq; rw [C.2.2.2.2.2.2.2.2.2.2.1]; exact hn, Nat.le_of_eq W'.size.symm, ⟨rfl, W'⟩, st⟩
theorem w_lastore (C : Hand X Z y bytes mx rt R n0 Q) {j : Int32} {x : Int64} {i : Nat} (hd : decode bytes pc = .ok (.lastore, 1)) (A : Ars Z h a .long vs) (hn : n0 ≤ a) (hj : ¬ j < 0) (hi : j.toNatClampNeg = i) (hl : i < vs.length) (hp : pc + 1 = pc')
    (w : ∀ h', Wr h h' a i (.long x) → Ars Z h' a .long (vs.set i (.long x)) → Wp X k n h' pc' ls st) : Wp X k n h pc ls (.long x :: .int j :: .ref a :: st) := by
  subst hp hi
  refine Wp.to C (P := fun h' st' => st' = st ∧ Wr h h' a j.toNatClampNeg (.long x)) (fun X hX C T locs S e => ?_) (fun h' st' q => by obtain ⟨rfl, W⟩ := q; exact w h' W (A.same W))
  obtain ⟨c, Ac, ec, -⟩ := A
  obtain ⟨T', h', S', e', W', st⟩ := stJ S C.1 C.2.1 e Ac (j := j) (x := x) (Ars.inb ec hj rfl hl) (g := mkF X.m pc ls (.long x :: .int j :: .ref a :: st)) rfl rfl (hb C.2.2.2.1 hd)
  exact ⟨T', _, h', _, S', e', fun q hq => by cases List.mem_singleton.mp hq; rw [C.2.2.2.2.2.2.2.2.2.2.1]; exact hn, Nat.le_of_eq W'.size.symm, ⟨rfl, W'⟩, st⟩
theorem w_bastore (C : Hand X Z y bytes mx rt R n0 Q) {j : Int32} {x : Int32} {i : Nat} (hd : decode bytes pc = .ok (.bastore, 1)) (A : Ars Z h a .byte vs) (hn : n0 ≤ a) (hj : ¬ j < 0) (hi : j.toNatClampNeg = i) (hl : i < vs.length) (hp : pc + 1 = pc')
    (w : ∀ h', Wr h h' a i (.int x.toInt8.toInt32) → Ars Z h' a .byte (vs.set i (.int x.toInt8.toInt32)) → Wp X k n h' pc' ls st) : Wp X k n h pc ls (.int x :: .int j :: .ref a :: st) := by
  subst hp hi
  refine Wp.to C (P := fun h' st' => st' = st ∧ Wr h h' a j.toNatClampNeg (.int x.toInt8.toInt32)) (fun X hX C T locs S e => ?_) (fun h' st' q => by obtain ⟨rfl, W⟩ := q; exact w h' W (A.same W))
  obtain ⟨c, Ac, ec, -⟩ := A
  obtain ⟨T', h', S', e', W', st⟩ := stB S C.1 C.2.1 e Ac (j := j) (x := x) (Ars.inb ec hj rfl hl) (g := mkF X.m pc ls (.int x :: .int j :: .ref a :: st)) rfl rfl (hb C.2.2.2.1 hd)
  exact ⟨T', _, h', _, S', e', fun q hq => by cases List.mem_singleton.mp hq; rw [C.2.2.2.2.2.2.2.2.2.2.1]; exact hn, Nat.le_of_eq W'.size.symm, ⟨rfl, W'⟩, st⟩
theorem w_iaload (C : Hand X Z y bytes mx rt R n0 Q) {j : Int32} {v : Value} {i : Nat} (hd : decode bytes pc = .ok (.iaload, 1)) (A : Ars Z h a .int vs) (hj : ¬ j < 0) (hi : j.toNatClampNeg = i) (hv : vs[i]? = some v) (hp : pc + 1 = pc') (w : Wp X k n h pc' ls (v :: st)) : Wp X k n h pc ls (.int j :: .ref a :: st) := by
  subst hp hi
  obtain ⟨c, Ac, ec, -⟩ := A
  have hl : j.toNatClampNeg < vs.length := (List.getElem?_eq_some_iff.mp hv).1
  refine Wp.go C (fun X hX C T locs S e t q => S.iaload C.1 (j := j) (v := v) (by rw [e]; exact Ac.1) (State.isArrayOf_alike C.2.1.alike Ac.2.1) Ac.2.2 (Ars.inb ec hj rfl hl) (by subst ec; simpa using hv) (g := mkF X.m pc ls (.int j :: .ref a :: st)) rfl rfl (hb C.2.2.2.1 hd) t q) w
theorem w_laload (C : Hand X Z y bytes mx rt R n0 Q) {j : Int32} {v : Value} {i : Nat} (hd : decode bytes pc = .ok (.laload, 1)) (A : Ars Z h a .long vs) (hj : ¬ j < 0) (hi : j.toNatClampNeg = i) (hv : vs[i]? = some v) (hp : pc + 1 = pc') (w : Wp X k n h pc' ls (v :: st)) : Wp X k n h pc ls (.int j :: .ref a :: st) := by
  subst hp hi
  obtain ⟨c, Ac, ec, -⟩ := A
  have hl : j.toNatClampNeg < vs.length := (List.getElem?_eq_some_iff.mp hv).1
  refine Wp.go C (fun X hX C T locs S e t q => S.laload C.1 (j := j) (v := v) (by rw [e]; exact Ac.1) (State.isArrayOf_alike C.2.1.alike Ac.2.1) Ac.2.2 (Ars.inb ec hj rfl hl) (by subst ec; simpa using hv) (g := mkF X.m pc ls (.int j :: .ref a :: st)) rfl rfl (hb C.2.2.2.1 hd) t q) w
theorem w_baload (C : Hand X Z y bytes mx rt R n0 Q) {j : Int32} {v : Value} {i : Nat} (hd : decode bytes pc = .ok (.baload, 1)) (A : Ars Z h a .byte vs) (hj : ¬ j < 0) (hi : j.toNatClampNeg = i) (hv : vs[i]? = some v) (hp : pc + 1 = pc') (w : Wp X k n h pc' ls (v :: st)) : Wp X k n h pc ls (.int j :: .ref a :: st) := by
  subst hp hi
  obtain ⟨c, Ac, ec, -⟩ := A
  have hl : j.toNatClampNeg < vs.length := (List.getElem?_eq_some_iff.mp hv).1
  refine Wp.go C (fun X hX C T locs S e t q => S.baloadBytes C.1 (j := j) (v := v) (by rw [e]; exact Ac.1) (State.isArrayOf_alike C.2.1.alike Ac.2.1) Ac.2.2 (Ars.inb ec hj rfl hl) (by subst ec; simpa using hv) (g := mkF X.m pc ls (.int j :: .ref a :: st)) rfl rfl (hb C.2.2.2.1 hd) t q) w
theorem w_alen (C : Hand X Z y bytes mx rt R n0 Q) {z : Int32} (hd : decode bytes pc = .ok (.arraylength, 1)) (A : Ars Z h a ty vs) (hz : vs.length.toInt32 = z) (hp : pc + 1 = pc') (w : Wp X k n h pc' ls (.int z :: st)) : Wp X k n h pc ls (.ref a :: st) := by
  subst hp hz
  obtain ⟨c, Ac, rfl, -⟩ := A
  refine Wp.go C (fun X hX C T locs S e t q => S.arraylength C.1 (by rw [e]; exact Ac.1) (State.isArrayOf_alike C.2.1.alike Ac.2.1) (g := mkF X.m pc ls (.ref a :: st)) rfl rfl (hb C.2.2.2.1 hd) t (by simpa using q)) w
theorem w_newarray (C : Hand X Z y bytes mx rt R n0 Q) {aty : ArrayType} {z : Int32} {cap : Nat} (hw : (Jvm.Cond.arrayClass (newarray.typeOf aty)).before a0 Z = true) (hd : decode bytes pc = .ok (.newarray aty, 2)) (hz : ¬ z < 0) (hcap : z.toNatClampNeg ≤ cap) (hb8 : cap * 8 ≤ 536870912) (hc : k + 1 ≤ R.cells) (hl : n + cap ≤ R.slots) (hp : pc + 2 = pc')
    (w : ∀ h' a, a = h.size → n0 ≤ a → Ext h h' → Ars Z h' a (newarray.typeOf aty) (List.replicate z.toNatClampNeg (defaultValue (newarray.typeOf aty))) → Wp X (k + 1) (n + cap) h' pc' ls (.ref a :: st)) : Wp X k n h pc ls (.int z :: st) := by
  subst hp
  refine Wp.size C fun hsz => Wp.to C (P := fun h' st' => st' = .ref h.size :: st ∧ Ext h h' ∧ Ars Z h' h.size (newarray.typeOf aty) (List.replicate z.toNatClampNeg (defaultValue (newarray.typeOf aty)))) (fun X hX C T locs S e => ?_) (fun h' st' q => by obtain ⟨rfl, E, A⟩ := q; exact w h' _ rfl hsz E A)
  obtain ⟨T', h', cA, S', e', E', A', st⟩ := newP S C.1 C.2.1 hw e (g := mkF X.m pc ls (.int z :: st)) rfl (hb C.2.2.2.1 hd) rfl hz hcap hb8 (by rw [C.2.2.2.2.2.2.2.1]; exact hc) (by rw [C.2.2.2.2.2.2.2.1]; exact hl)
  exact ⟨T', [], h', _, by rw [toL]; exact S', e', Fr.nil _, E'.1, ⟨rfl, E', _, A', by simp [newA], by simpa using (back32 hz).2⟩, st⟩
/-! objects -/
theorem w_new (C : Hand X Z y bytes mx rt R n0 Q) {i nn : Nat} {K : String} (hw : (Jvm.Cond.classLink y.cls i K).before a0 Z = true) (wi : (Jvm.Cond.instantiable K nn).before a0 Z = true) (wz : (Jvm.Cond.initialized K).before a0 Z = true) (hd : decode bytes pc = .ok (.new i, 3)) (hc : k + 1 ≤ R.cells) (hl : n + nn ≤ R.slots) (hp : pc + 3 = pc')
    (w : ∀ h' a, a = h.size → n0 ≤ a → Ext h h' → Exa Z h' a K → (∀ {O nm d : String} {ty : FieldType}, Laid Z a0 K O nm d → parseFieldDescriptor d = some ty → Fld Z h' a O nm d (defaultValue ty)) → Wp X (k + 1) (n + nn) h' pc' ls (.ref a :: st)) : Wp X k n h pc ls st := by
  subst hp
  refine Wp.size C fun hsz => Wp.to C (P := fun h' st' => st' = .ref h.size :: st ∧ Ext h h' ∧ Exa Z h' h.size K ∧ ∀ {O nm d : String} {ty : FieldType}, Laid Z a0 K O nm d → parseFieldDescriptor d = some ty → Fld Z h' h.size O nm d (defaultValue ty)) (fun X hX C T locs S e => ?_) (fun h' st' q => by obtain ⟨rfl, E, A, D⟩ := q; exact w h' _ rfl hsz E A D)
  obtain ⟨T', h', S', e', E', A', D', -, st⟩ := newO S C.1 C.2.1 C.2.2.1 hw wi wz e (g := mkF X.m pc ls st) rfl (hb C.2.2.2.1 hd) (by rw [C.2.2.2.2.2.2.2.1]; exact hc) (by rw [C.2.2.2.2.2.2.2.1]; exact hl)
  exact ⟨T', [], h', _, by rw [toL]; exact S', e', Fr.nil _, E'.1, ⟨rfl, E', A', D'⟩, st⟩
theorem w_initO (C : Hand X Z y bytes mx rt R n0 Q) {i W : Nat} (w1 : (Jvm.Cond.methodLink y.cls i Lib.objectInit).before a0 Z = true) (w2 : (Jvm.Cond.instanceMethod Lib.objectInit).before a0 Z = true) (w3 : (Jvm.Cond.code Lib.objectInit ⟨#[0xb1]⟩ 1 none).before a0 Z = true)
    (hd : decode bytes pc = .ok (.invokespecial i, 3)) (hls : ls.size = mx) (hf : 1 ≤ R.frames) (hW : (st.map fun v => v.category).sum = W) (hl : W + 12 ≤ R.locals) (hp : pc + 3 = pc') (w : Wp X k n h pc' ls st) : Wp X k n h pc ls (.ref a :: st) := by
  subst hp hW
  refine Wp.to C (P := fun h' st' => h' = h ∧ st' = st) (fun X hX C T locs S e => ?_) (fun h' st' q => by obtain ⟨rfl, rfl⟩ := q; exact w)
  obtain ⟨T', S', e', st⟩ := initO S C.1 C.2.1 C.2.2.1 w1 w2 w3 e (g := mkF X.m pc ls (.ref a :: st)) rfl (by rw [C.2.2.2.2.1]; exact hls) rfl (hb C.2.2.2.1 hd) (by rw [C.2.2.2.2.2.2.2.1]; exact hf) (W := (st.map fun v => v.category).sum) (by show 2 * 0 + _ ≤ _; omega) (by rw [C.2.2.2.2.2.2.2.1]; exact hl)
  exact ⟨T', [], h, _, by rw [toL]; exact S', e', Fr.nil _, Nat.le_refl _, ⟨rfl, rfl⟩, st⟩
theorem w_getfield (C : Hand X Z y bytes mx rt R n0 Q) {i : Nat} {O f d : String} {v : Value} (hw : (Jvm.Cond.fieldLink y.cls i O f d).before a0 Z = true) (hd : decode bytes pc = .ok (.getfield i, 3)) (F : Fld Z h a O f d v) (hp : pc + 3 = pc') (w : Wp X k n h pc' ls (v :: st)) : Wp X k n h pc ls (.ref a :: st) := by
  subst hp
  refine Wp.to C (P := fun h' st' => h' = h ∧ st' = v :: st) (fun X hX C T locs S e => ?_) (fun h' st' q => by obtain ⟨rfl, rfl⟩ := q; exact w)
  obtain ⟨T', S', e', st⟩ := getF S C.1 C.2.1 (host := "") C.2.2.1 (Or.inl hw) Via.refl e F (g := mkF X.m pc ls (.ref a :: st)) rfl rfl (hb C.2.2.2.1 hd)
  exact ⟨T', [], h, _, by rw [toL]; exact S', e', Fr.nil _, Nat.le_refl _, ⟨rfl, rfl⟩, st⟩
theorem w_getstatic (C : Hand X Z y bytes mx rt R n0 Q) {i : Nat} {O f d : String} {v : Value} (hw : (Jvm.Cond.fieldLink y.cls i O f d).before a0 Z = true) (hd : decode bytes pc = .ok (.getstatic i, 3)) (F : Sta Z h O f d v) (hp : pc + 3 = pc') (w : Wp X k n h pc' ls (v :: st)) : Wp X k n h pc ls st := by
  subst hp
  refine Wp.to C (P := fun h' st' => h' = h ∧ st' = v :: st) (fun X hX C T locs S e => ?_) (fun h' st' q => by obtain ⟨rfl, rfl⟩ := q; exact w)
  obtain ⟨T', S', e', st⟩ := getS S C.1 C.2.1 (host := "") C.2.2.1 hw Via.refl e F (g := mkF X.m pc ls st) rfl (hb C.2.2.2.1 hd)
  exact ⟨T', [], h, _, by rw [toL]; exact S', e', Fr.nil _, Nat.le_refl _, ⟨rfl, rfl⟩, st⟩
theorem w_putfield (C : Hand X Z y bytes mx rt R n0 Q) {i kk : Nat} {O f d K : String} {t : FieldType} {v old : Value} (hw : (Jvm.Cond.fieldLink y.cls i O f d).before a0 Z = true) (L : (Jvm.Cond.lays K O f d).before a0 Z = true ∨ ((Jvm.Cond.laysFinal K O f d).before a0 Z = true ∧ y.cls = O ∧ y.name = "<init>")) (wi : (Jvm.Cond.instantiable K kk).before a0 Z = true)
    (hd : decode bytes pc = .ok (.putfield i, 3)) (F : Fld Z h a O f d old) (E : Exa Z h a K) (hn : n0 ≤ a) (ht : parseFieldDescriptor d = some t) (hv : narrow t v = v) (hf : fits t v = true) (hp : pc + 3 = pc')
    (w : ∀ h', Wr h h' a (Jvm.RoadKit.slotOf Z O f d) v → Fld Z h' a O f d v → Exa Z h' a K → Wp X k n h' pc' ls st) : Wp X k n h pc ls (v :: .ref a :: st) := by
  subst hp
  refine Wp.to C (P := fun h' st' => st' = st ∧ Wr h h' a (Jvm.RoadKit.slotOf Z O f d) v) (fun X hX C T locs S e => ?_) (fun h' st' q => by obtain ⟨rfl, W⟩ := q; exact w h' W (F.same W) (E.wr W))
  obtain ⟨T', h', S', e', W', st⟩ := putF S C.1 C.2.1 (host := "") C.2.2.1 (Or.inl hw) Via.refl e F E (L.imp id fun q => ⟨q.1, q.2.1, C.2.2.2.2.2.2.2.2.2.1.trans q.2.2⟩) wi ht hv hf (g := mkF X.m pc ls (v :: .ref a :: st)) rfl rfl (hb C.2.2.2.1 hd)
  exact ⟨T', _, h', _, S', e', fun q hq => by cases List.mem_singleton.mp hq; rw [C.2.2.2.2.2.2.2.2.2.2.1]; exact hn, Nat.le_of_eq W'.size.symm, ⟨rfl, W'⟩, st⟩
/-! calls -/
variable {i W : Nat} {y' z : MethodName} {bytes' : ByteArray} {mx' : Nat} {rt' : Option FieldType} {R' : Room} {Q' : Option Value → Heap → Prop} {argsL rest : List Value} {ps : List FieldType}
theorem w_static (C : Hand X Z y bytes mx rt R n0 Q) (hw1 : (Jvm.Cond.methodLink y.cls i y').before a0 Z = true) (hw2 : (Jvm.Cond.static y').before a0 Z = true) (hw3 : (Jvm.Cond.initialized y'.cls).before a0 Z = true) (hw4 : (Jvm.Cond.code y' bytes' mx' rt').before a0 Z = true)
    (hy : y'.cls ≠ "java/lang/invoke/MethodHandle" ∧ y'.cls ≠ "java/lang/invoke/VarHandle") (hpd : parseMethodDescriptor y'.desc = some ⟨ps, rt'⟩) (hd : decode bytes pc = .ok (.invokestatic i, 3)) (K : Ct X.l Z y' bytes' mx' rt' R' n0 [] argsL.toArray h Q')
    (hlen : argsL.length = ps.length) (hst : st = argsL.reverse ++ rest) (hls : ls.size = mx) (hf : R'.frames + 1 ≤ R.frames) (hW : (rest.map fun v => v.category).sum = W) (hl : W + (mx' + 11) + R'.locals ≤ R.locals) (hc : k + R'.cells ≤ R.cells) (hs : n + R'.slots ≤ R.slots) (hp : pc + 3 = pc')
    (w : ∀ v h', Q' v h' → Wp X (k + R'.cells) (n + R'.slots) h' pc' ls (v.toList ++ rest)) : Wp X k n h pc ls st := by
  subst hp hst hW
  refine Wp.to C (P := fun h' st' => ∃ v, st' = v.toList ++ rest ∧ Q' v h') (fun X hX C T locs S e => ?_) (fun h' st' q => by obtain ⟨v, rfl, q⟩ := q; exact w v h' q)
  have K : Ct X.l Z y' bytes' mx' rt' R' n0 [] argsL.toArray h Q' := by rw [hX]; exact K
  have eR := C.2.2.2.2.2.2.2.1
  obtain ⟨v, _, ⟨T', L', k', n'⟩, -, S', ⟨Lc, hQ, l1, y1, z1⟩, st⟩ := Jvm.LawKit.callS S C.1 (y := y') C.2.2.1 (mvT C.2.1 hw1) (mvT C.2.1 hw2) (mvT C.2.1 hw3) (mvT C.2.1 hw4) hy (backOf (W := (rest.map fun v => v.category).sum) (Q := fun v h' L => (Q' v h' ∧ h.size ≤ h'.size) ∧ Fr n0 L) K C.2.1 hw4 hw3 (by rw [eR]; exact hf) (by rw [eR]; exact hl)) (g := mkF X.m pc ls (argsL.reverse ++ rest)) rfl (by rw [C.2.2.2.2.1]; exact hls) (argsL := argsL) (rest := rest) (lenOf hpd hlen) rfl (by show 2 * 0 + _ ≤ _; omega) (hb C.2.2.2.1 hd) (fun _ _ => ⟨rfl, e, by rw [eR]; exact hc, by rw [eR]; exact hs⟩)
  dsimp only [Pt.U, Pt.locs, Pt.cells, Pt.slots] at S' l1 y1 z1 st hQ
  subst l1 y1 z1
  exact ⟨T', Lc, T'.heap, _, S', rfl, by rw [C.2.2.2.2.2.2.2.2.2.2.1]; exact hQ.2, hQ.1.2, ⟨v, rfl, hQ.1.1⟩, st⟩
theorem w_special (C : Hand X Z y bytes mx rt R n0 Q) (hw1 : (Jvm.Cond.methodLink y.cls i y').before a0 Z = true) (hw2 : (Jvm.Cond.instanceMethod y').before a0 Z = true) (hw3 : (Jvm.Cond.initialized y'.cls).before a0 Z = true) (hw4 : (Jvm.Cond.code y' bytes' mx' none).before a0 Z = true)
    (hy1 : y'.name = "<init>") (hy : y'.cls ≠ "java/lang/invoke/MethodHandle" ∧ y'.cls ≠ "java/lang/invoke/VarHandle") (hpd : parseMethodDescriptor y'.desc = some ⟨ps, none⟩) (hd : decode bytes pc = .ok (.invokespecial i, 3)) (K : Ct X.l Z y' bytes' mx' none R' n0 [] (.ref a :: argsL).toArray h Q')
    (hlen : argsL.length = ps.length) (hst : st = argsL.reverse ++ .ref a :: rest) (hls : ls.size = mx) (hf : R'.frames + 1 ≤ R.frames) (hW : (rest.map fun v => v.category).sum = W) (hl : W + (mx' + 11) + R'.locals ≤ R.locals) (hc : k + R'.cells ≤ R.cells) (hs : n + R'.slots ≤ R.slots) (hp : pc + 3 = pc')
    (w : ∀ v h', Q' v h' → Wp X (k + R'.cells) (n + R'.slots) h' pc' ls (v.toList ++ rest)) : Wp X k n h pc ls st := by
  subst hp hst hW
  refine Wp.to C (P := fun h' st' => ∃ v, st' = v.toList ++ rest ∧ Q' v h') (fun X hX C T locs S e => ?_) (fun h' st' q => by obtain ⟨v, rfl, q⟩ := q; exact w v h' q)
  have K : Ct X.l Z y' bytes' mx' none R' n0 [] (.ref a :: argsL).toArray h Q' := by rw [hX]; exact K
  have eR := C.2.2.2.2.2.2.2.1
  obtain ⟨v, _, ⟨T', L', k', n'⟩, -, S', ⟨Lc, hQ, l1, y1, z1⟩, st⟩ := S.specialBack C.1 (y := y') hy1 C.2.2.1 (mvT C.2.1 hw1) (mvT C.2.1 hw2) (mvT C.2.1 hw4) hy (backOf (W := (rest.map fun v => v.category).sum) (Q := fun v h' L => (Q' v h' ∧ h.size ≤ h'.size) ∧ Fr n0 L) K C.2.1 hw4 hw3 (by rw [eR]; exact hf) (by rw [eR]; exact hl)) (g := mkF X.m pc ls (argsL.reverse ++ .ref a :: rest)) rfl (by rw [C.2.2.2.2.1]; exact hls) (Steps.refl _) (a := a) (argsL := argsL) (rest := rest) (lenOf hpd hlen) rfl (by show 2 * 0 + _ ≤ _; omega) (hb C.2.2.2.1 hd) (fun _ _ => ⟨rfl, e, by rw [eR]; exact hc, by rw [eR]; exact hs⟩)
  dsimp only [Pt.U, Pt.locs, Pt.cells, Pt.slots] at S' l1 y1 z1 st hQ
  subst l1 y1 z1
  exact ⟨T', Lc, T'.heap, _, S', rfl, by rw [C.2.2.2.2.2.2.2.2.2.2.1]; exact hQ.2, hQ.1.2, ⟨v, rfl, hQ.1.1⟩, fun t q => st.trans q⟩
theorem w_virtual (C : Hand X Z y bytes mx rt R n0 Q) {K0 : String} (hw1 : (Jvm.Cond.methodLink y.cls i y').before a0 Z = true) (hw2 : (Jvm.Cond.declares y').before a0 Z = true) (hw5 : (Jvm.Cond.selects K0 y' y').before a0 Z = true) (hw6 : (Jvm.Cond.instanceMethod y').before a0 Z = true) (hw3 : (Jvm.Cond.initialized y'.cls).before a0 Z = true) (hw4 : (Jvm.Cond.code y' bytes' mx' rt').before a0 Z = true)
    (hy : y'.cls ≠ "java/lang/invoke/MethodHandle" ∧ y'.cls ≠ "java/lang/invoke/VarHandle") (hpd : parseMethodDescriptor y'.desc = some ⟨ps, rt'⟩) (hd : decode bytes pc = .ok (.invokevirtual i, 3)) (E : Exa Z h a K0) (K : Ct X.l Z y' bytes' mx' rt' R' n0 [] (.ref a :: argsL).toArray h Q')
    (hlen : argsL.length = ps.length) (hst : st = argsL.reverse ++ .ref a :: rest) (hls : ls.size = mx) (hf : R'.frames + 1 ≤ R.frames) (hW : (rest.map fun v => v.category).sum = W) (hl : W + (mx' + 11) + R'.locals ≤ R.locals) (hc : k + R'.cells ≤ R.cells) (hs : n + R'.slots ≤ R.slots) (hp : pc + 3 = pc')
    (w : ∀ v h', Q' v h' → Wp X (k + R'.cells) (n + R'.slots) h' pc' ls (v.toList ++ rest)) : Wp X k n h pc ls st := by
  subst hp hst hW
  refine Wp.to C (P := fun h' st' => ∃ v, st' = v.toList ++ rest ∧ Q' v h') (fun X hX C T locs S e => ?_) (fun h' st' q => by obtain ⟨v, rfl, q⟩ := q; exact w v h' q)
  have K : Ct X.l Z y' bytes' mx' rt' R' n0 [] (.ref a :: argsL).toArray h Q' := by rw [hX]; exact K
  have eR := C.2.2.2.2.2.2.2.1
  obtain ⟨cq, kq, qa, qb, qc⟩ := isOf C.2.1 e E
  obtain ⟨v, _, ⟨T', L', k', n'⟩, -, S', ⟨Lc, hQ, l1, y1, z1⟩, st⟩ := S.virtualBack C.1 (y := y') (z := y') C.2.2.1 (mvT C.2.1 hw1) (mvT C.2.1 hw2) (notFace_of_selects (args := #[]) (mvT C.2.1 hw5)) (mvT C.2.1 hw5) (mvT C.2.1 hw6) hy (backOf (W := (rest.map fun v => v.category).sum) (Q := fun v h' L => (Q' v h' ∧ h.size ≤ h'.size) ∧ Fr n0 L) K C.2.1 hw4 hw3 (by rw [eR]; exact hf) (by rw [eR]; exact hl)) qa qc (g := mkF X.m pc ls (argsL.reverse ++ .ref a :: rest)) rfl (by rw [C.2.2.2.2.1]; exact hls) (Steps.refl _) (argsL := argsL) (rest := rest) (lenOf hpd hlen) rfl (by show 2 * 0 + _ ≤ _; omega) (hb C.2.2.2.1 hd) (fun _ _ => ⟨rfl, e, by rw [eR]; exact hc, by rw [eR]; exact hs⟩)
  dsimp only [Pt.U, Pt.locs, Pt.cells, Pt.slots] at S' l1 y1 z1 st hQ
  subst l1 y1 z1
  exact ⟨T', Lc, T'.heap, _, S', rfl, by rw [C.2.2.2.2.2.2.2.2.2.2.1]; exact hQ.2, hQ.1.2, ⟨v, rfl, hQ.1.1⟩, fun t q => st.trans q⟩
theorem w_private (C : Hand X Z y bytes mx rt R n0 Q) {K0 : String} {nn : Nat} (hw1 : (Jvm.Cond.methodLink y.cls i y').before a0 Z = true) (hw6 : (Jvm.Cond.instanceMethod y').before a0 Z = true) (wp : (Jvm.Cond.privateMethod y').before a0 Z = true) (wi : (Jvm.Cond.instantiable y'.cls nn).before a0 Z = true) (hw3 : (Jvm.Cond.initialized y'.cls).before a0 Z = true) (hw4 : (Jvm.Cond.code y' bytes' mx' rt').before a0 Z = true)
    (hy : y'.cls ≠ "java/lang/invoke/MethodHandle" ∧ y'.cls ≠ "java/lang/invoke/VarHandle") (hpd : parseMethodDescriptor y'.desc = some ⟨ps, rt'⟩) (hd : decode bytes pc = .ok (.invokevirtual i, 3)) (E : Exa Z h a K0) (K : Ct X.l Z y' bytes' mx' rt' R' n0 [] (.ref a :: argsL).toArray h Q')
    (hlen : argsL.length = ps.length) (hst : st = argsL.reverse ++ .ref a :: rest) (hls : ls.size = mx) (hf : R'.frames + 1 ≤ R.frames) (hW : (rest.map fun v => v.category).sum = W) (hl : W + (mx' + 11) + R'.locals ≤ R.locals) (hc : k + R'.cells ≤ R.cells) (hs : n + R'.slots ≤ R.slots) (hp : pc + 3 = pc')
    (w : ∀ v h', Q' v h' → Wp X (k + R'.cells) (n + R'.slots) h' pc' ls (v.toList ++ rest)) : Wp X k n h pc ls st := by
  subst hp hst hW
  refine Wp.to C (P := fun h' st' => ∃ v, st' = v.toList ++ rest ∧ Q' v h') (fun X hX C T locs S e => ?_) (fun h' st' q => by obtain ⟨v, rfl, q⟩ := q; exact w v h' q)
  have K : Ct X.l Z y' bytes' mx' rt' R' n0 [] (.ref a :: argsL).toArray h Q' := by rw [hX]; exact K
  have eR := C.2.2.2.2.2.2.2.1
  have pv : X.s.PrivateAt y' := Cond.privateMethod_at (mvP C.2.1 wp (args := X.args))
  have hin : (Jvm.Cond.instanceMethod y').before X.args X.s = true := mvT C.2.1 hw6
  obtain ⟨ck, kk, f1, f2, -, f4, -⟩ := Cond.instantiable_spec (mvT (args := X.args) C.2.1 wi)
  have hsel := selects_self_of_private f1 f2 (by rw [Bool.or_eq_false_iff] at f4; exact f4.1) pv hin hy
  obtain ⟨cq, qa, qb⟩ := E.cell
  obtain ⟨v, _, ⟨T', L', k', n'⟩, -, S', ⟨Lc, hQ, l1, y1, z1⟩, st⟩ := S.privateBack C.1 (y := y') C.2.2.1 (mvT C.2.1 hw1) hin hsel pv (mvT C.2.1 hw4) hy (backOf (W := (rest.map fun v => v.category).sum) (Q := fun v h' L => (Q' v h' ∧ h.size ≤ h'.size) ∧ Fr n0 L) K C.2.1 hw4 hw3 (by rw [eR]; exact hf) (by rw [eR]; exact hl)) (g := mkF X.m pc ls (argsL.reverse ++ .ref a :: rest)) rfl (by rw [C.2.2.2.2.1]; exact hls) (Steps.refl _) (a := a) (by rw [e]; exact qa) qb (argsL := argsL) (rest := rest) (lenOf hpd hlen) rfl (by show 2 * 0 + _ ≤ _; omega) (hb C.2.2.2.1 hd) (fun _ _ => ⟨rfl, e, by rw [eR]; exact hc, by rw [eR]; exact hs⟩)
  dsimp only [Pt.U, Pt.locs, Pt.cells, Pt.slots] at S' l1 y1 z1 st hQ
  subst l1 y1 z1
  exact ⟨T', Lc, T'.heap, _, S', rfl, by rw [C.2.2.2.2.2.2.2.2.2.2.1]; exact hQ.2, hQ.1.2, ⟨v, rfl, hQ.1.1⟩, fun t q => st.trans q⟩
end OwnLaws
theorem tw {a0 : Array Value} {Z : State} (hw : ∀ d ∈ tables_1, d.before a0 Z = true) (i : Nat) {d : Jvm.Cond} (q : tables_1[i]? = some d) : d.before a0 Z = true := hw d (List.mem_of_getElem? q)
theorem pn_0 : plainFor (⟨"com/example/signpost/signpost/store/HandleSetBytesPinLaw", "law", "(IIII)Z"⟩ : MethodName) = true := plainFor_of_name (by first | (simp [plainName, overriddenIn]; done) | decide +kernel)
abbrev y0 : MethodName := ⟨"com/example/signpost/signpost/store/HandleSetBytesPinLaw", "law", "(IIII)Z"⟩
theorem ef_0 (x0 : Int32) (x1 : Int32) (x2 : Int32) (x3 : Int32) (m : MethodId) : entryFrame m #[(.int x0), (.int x1), (.int x2), (.int x3)] maxLocals = mkF m 0 #[.val (.int x0), .val (.int x1), .val (.int x2), .val (.int x3), .unset, .unset, .unset, .unset, .unset, .unset, .unset, .unset, .unset, .unset, .unset, .unset, .unset, .unset, .unset] [] := by first | (simp [entryFrame, mkF, argsToLocals, Value.category, maxLocals]; done) | rfl
theorem d1_0 : decode jdk_29_method_69_code 0 = .ok (.iload_n 0, 1) := by decide +kernel
theorem d1_1 : decode jdk_29_method_69_code 1 = .ok (.iload_n 1, 1) := by decide +kernel
theorem d1_2 : decode jdk_29_method_69_code 2 = .ok (.if_icmp .gt 7, 3) := by decide +kernel
theorem d1_5 : decode jdk_29_method_69_code 5 = .ok (.iload_n 0, 1) := by decide +kernel
theorem d1_6 : decode jdk_29_method_69_code 6 = .ok (.goto 4, 3) := by decide +kernel
theorem d1_9 : decode jdk_29_method_69_code 9 = .ok (.iload_n 1, 1) := by decide +kernel
theorem d1_10 : decode jdk_29_method_69_code 10 = .ok (.ireturn, 1) := by decide +kernel
theorem pn_1 : plainFor (⟨"java/lang/Math", "min", "(II)I"⟩ : MethodName) = true := Jvm.Free.JP.mathPlain rfl (by decide +kernel)
abbrev y1 : MethodName := ⟨"java/lang/Math", "min", "(II)I"⟩
theorem ef_1 (x0 : Int32) (x1 : Int32) (m : MethodId) : entryFrame m #[(.int x0), (.int x1)] 2 = mkF m 0 #[.val (.int x0), .val (.int x1)] [] := by first | (simp [entryFrame, mkF, argsToLocals, Value.category]; done) | rfl
theorem d2_0 : decode prog_80_method_1_code 0 = .ok (.aload_n 0, 1) := by decide +kernel
theorem d2_1 : decode prog_80_method_1_code 1 = .ok (.invokespecial 7, 3) := by decide +kernel
theorem d2_4 : decode prog_80_method_1_code 4 = .ok (.aload_n 0, 1) := by decide +kernel
theorem d2_5 : decode prog_80_method_1_code 5 = .ok (.bipush 16, 2) := by decide +kernel
theorem d2_7 : decode prog_80_method_1_code 7 = .ok (.newarray .int, 2) := by decide +kernel
theorem d2_9 : decode prog_80_method_1_code 9 = .ok (.putfield 13, 3) := by decide +kernel
theorem d2_12 : decode prog_80_method_1_code 12 = .ok (.return_, 1) := by decide +kernel
theorem pn_2 : plainFor (⟨"com/example/signpost/signpost/store/HandleSet", "<init>", "()V"⟩ : MethodName) = true := plainFor_of_name (by first | (simp [plainName, overriddenIn]; done) | decide +kernel)
abbrev y2 : MethodName := ⟨"com/example/signpost/signpost/store/HandleSet", "<init>", "()V"⟩
theorem ef_2 (x0 : Addr) (m : MethodId) : entryFrame m #[(.ref x0)] 1 = mkF m 0 #[.val (.ref x0)] [] := by first | (simp [entryFrame, mkF, argsToLocals, Value.category]; done) | rfl
theorem d3_0 : decode object_method_1_code 0 = .ok (.return_, 1) := by decide +kernel
abbrev y3 : MethodName := ⟨"java/lang/Object", "<init>", "()V"⟩
theorem ef_3 (x0 : Addr) (m : MethodId) : entryFrame m #[(.ref x0)] 1 = mkF m 0 #[.val (.ref x0)] [] := by first | (simp [entryFrame, mkF, argsToLocals, Value.category]; done) | rfl
theorem d4_0 : decode prog_80_method_9_code 0 = .ok (.aload_n 0, 1) := by decide +kernel
theorem d4_1 : decode prog_80_method_9_code 1 = .ok (.getfield 131, 3) := by decide +kernel
theorem d4_4 : decode prog_80_method_9_code 4 = .ok (.ifnull 13, 3) := by decide +kernel
theorem d4_7 : decode prog_80_method_9_code 7 = .ok (.ldc2_w 143, 3) := by decide +kernel
theorem d4_10 : decode prog_80_method_9_code 10 = .ok (.aload_n 0, 1) := by decide +kernel
theorem d4_11 : decode prog_80_method_9_code 11 = .ok (.getfield 145, 3) := by decide +kernel
theorem d4_14 : decode prog_80_method_9_code 14 = .ok (.i2l, 1) := by decide +kernel
theorem d4_15 : decode prog_80_method_9_code 15 = .ok (.lmul, 1) := by decide +kernel
theorem d4_16 : decode prog_80_method_9_code 16 = .ok (.lreturn, 1) := by decide +kernel
theorem d4_17 : decode prog_80_method_9_code 17 = .ok (.ldc2_w 148, 3) := by decide +kernel
theorem d4_20 : decode prog_80_method_9_code 20 = .ok (.aload_n 0, 1) := by decide +kernel
theorem d4_21 : decode prog_80_method_9_code 21 = .ok (.getfield 13, 3) := by decide +kernel
theorem d4_24 : decode prog_80_method_9_code 24 = .ok (.arraylength, 1) := by decide +kernel
theorem d4_25 : decode prog_80_method_9_code 25 = .ok (.i2l, 1) := by decide +kernel
theorem d4_26 : decode prog_80_method_9_code 26 = .ok (.lmul, 1) := by decide +kernel
theorem d4_27 : decode prog_80_method_9_code 27 = .ok (.lreturn, 1) := by decide +kernel
theorem pn_4 : plainFor (⟨"com/example/signpost/signpost/store/HandleSet", "bytes", "()J"⟩ : MethodName) = true := plainFor_of_name (by first | (simp [plainName, overriddenIn]; done) | decide +kernel)
abbrev y4 : MethodName := ⟨"com/example/signpost/signpost/store/HandleSet", "bytes", "()J"⟩
theorem ef_4 (x0 : Addr) (m : MethodId) : entryFrame m #[(.ref x0)] 1 = mkF m 0 #[.val (.ref x0)] [] := by first | (simp [entryFrame, mkF, argsToLocals, Value.category]; done) | rfl
theorem d5_0 : decode prog_80_method_10_code 0 = .ok (.aload_n 0, 1) := by decide +kernel
theorem d5_1 : decode prog_80_method_10_code 1 = .ok (.getfield 131, 3) := by decide +kernel
theorem d5_4 : decode prog_80_method_10_code 4 = .ok (.ifnull 53, 3) := by decide +kernel
theorem d5_7 : decode prog_80_method_10_code 7 = .ok (.aload_n 0, 1) := by decide +kernel
theorem d5_8 : decode prog_80_method_10_code 8 = .ok (.iload_n 1, 1) := by decide +kernel
theorem d5_9 : decode prog_80_method_10_code 9 = .ok (.invokevirtual 150, 3) := by decide +kernel
theorem d5_12 : decode prog_80_method_10_code 12 = .ok (.astore_n 2, 1) := by decide +kernel
theorem d5_13 : decode prog_80_method_10_code 13 = .ok (.iload_n 1, 1) := by decide +kernel
theorem d5_14 : decode prog_80_method_10_code 14 = .ok (.bipush 6, 2) := by decide +kernel
theorem d5_16 : decode prog_80_method_10_code 16 = .ok (.iushr, 1) := by decide +kernel
theorem d5_17 : decode prog_80_method_10_code 17 = .ok (.sipush 1023, 3) := by decide +kernel
theorem d5_20 : decode prog_80_method_10_code 20 = .ok (.iand, 1) := by decide +kernel
theorem d5_21 : decode prog_80_method_10_code 21 = .ok (.istore_n 3, 1) := by decide +kernel
theorem d5_22 : decode prog_80_method_10_code 22 = .ok (.lconst 1, 1) := by decide +kernel
theorem d5_23 : decode prog_80_method_10_code 23 = .ok (.iload_n 1, 1) := by decide +kernel
theorem d5_24 : decode prog_80_method_10_code 24 = .ok (.lshl, 1) := by decide +kernel
theorem d5_25 : decode prog_80_method_10_code 25 = .ok (.lstore 4, 2) := by decide +kernel
theorem d5_27 : decode prog_80_method_10_code 27 = .ok (.aload_n 2, 1) := by decide +kernel
theorem d5_28 : decode prog_80_method_10_code 28 = .ok (.iload_n 3, 1) := by decide +kernel
theorem d5_29 : decode prog_80_method_10_code 29 = .ok (.laload, 1) := by decide +kernel
theorem d5_30 : decode prog_80_method_10_code 30 = .ok (.lload 4, 2) := by decide +kernel
theorem d5_32 : decode prog_80_method_10_code 32 = .ok (.land, 1) := by decide +kernel
theorem d5_33 : decode prog_80_method_10_code 33 = .ok (.lconst 0, 1) := by decide +kernel
theorem d5_34 : decode prog_80_method_10_code 34 = .ok (.lcmp, 1) := by decide +kernel
theorem d5_35 : decode prog_80_method_10_code 35 = .ok (.ifCond .ne 21, 3) := by decide +kernel
theorem d5_38 : decode prog_80_method_10_code 38 = .ok (.aload_n 2, 1) := by decide +kernel
theorem d5_39 : decode prog_80_method_10_code 39 = .ok (.iload_n 3, 1) := by decide +kernel
theorem d5_40 : decode prog_80_method_10_code 40 = .ok (.dup2, 1) := by decide +kernel
theorem d5_41 : decode prog_80_method_10_code 41 = .ok (.laload, 1) := by decide +kernel
theorem d5_42 : decode prog_80_method_10_code 42 = .ok (.lload 4, 2) := by decide +kernel
theorem d5_44 : decode prog_80_method_10_code 44 = .ok (.lor, 1) := by decide +kernel
theorem d5_45 : decode prog_80_method_10_code 45 = .ok (.lastore, 1) := by decide +kernel
theorem d5_46 : decode prog_80_method_10_code 46 = .ok (.aload_n 0, 1) := by decide +kernel
theorem d5_47 : decode prog_80_method_10_code 47 = .ok (.dup, 1) := by decide +kernel
theorem d5_48 : decode prog_80_method_10_code 48 = .ok (.getfield 128, 3) := by decide +kernel
theorem d5_51 : decode prog_80_method_10_code 51 = .ok (.iconst 1, 1) := by decide +kernel
theorem d5_52 : decode prog_80_method_10_code 52 = .ok (.iadd, 1) := by decide +kernel
theorem d5_53 : decode prog_80_method_10_code 53 = .ok (.putfield 128, 3) := by decide +kernel
theorem d5_56 : decode prog_80_method_10_code 56 = .ok (.return_, 1) := by decide +kernel
theorem d5_57 : decode prog_80_method_10_code 57 = .ok (.aload_n 0, 1) := by decide +kernel
theorem d5_58 : decode prog_80_method_10_code 58 = .ok (.getfield 128, 3) := by decide +kernel
theorem d5_61 : decode prog_80_method_10_code 61 = .ok (.iconst 1, 1) := by decide +kernel
theorem d5_62 : decode prog_80_method_10_code 62 = .ok (.iadd, 1) := by decide +kernel
theorem d5_63 : decode prog_80_method_10_code 63 = .ok (.iconst 2, 1) := by decide +kernel
theorem d5_64 : decode prog_80_method_10_code 64 = .ok (.imul, 1) := by decide +kernel
theorem d5_65 : decode prog_80_method_10_code 65 = .ok (.aload_n 0, 1) := by decide +kernel
theorem d5_66 : decode prog_80_method_10_code 66 = .ok (.getfield 13, 3) := by decide +kernel
theorem d5_69 : decode prog_80_method_10_code 69 = .ok (.arraylength, 1) := by decide +kernel
theorem d5_70 : decode prog_80_method_10_code 70 = .ok (.if_icmp .le 156, 3) := by decide +kernel
theorem d5_73 : decode prog_80_method_10_code 73 = .ok (.aload_n 0, 1) := by decide +kernel
theorem d5_74 : decode prog_80_method_10_code 74 = .ok (.getfield 13, 3) := by decide +kernel
theorem d5_77 : decode prog_80_method_10_code 77 = .ok (.astore_n 2, 1) := by decide +kernel
theorem d5_78 : decode prog_80_method_10_code 78 = .ok (.aload_n 0, 1) := by decide +kernel
theorem d5_79 : decode prog_80_method_10_code 79 = .ok (.getfield 128, 3) := by decide +kernel
theorem d5_82 : decode prog_80_method_10_code 82 = .ok (.sipush 16384, 3) := by decide +kernel
theorem d5_85 : decode prog_80_method_10_code 85 = .ok (.if_icmp .lt 89, 3) := by decide +kernel
theorem d5_88 : decode prog_80_method_10_code 88 = .ok (.ldc2_w 143, 3) := by decide +kernel
theorem d5_91 : decode prog_80_method_10_code 91 = .ok (.aload_n 0, 1) := by decide +kernel
theorem d5_92 : decode prog_80_method_10_code 92 = .ok (.iload_n 1, 1) := by decide +kernel
theorem d5_93 : decode prog_80_method_10_code 93 = .ok (.invokevirtual 154, 3) := by decide +kernel
theorem d5_96 : decode prog_80_method_10_code 96 = .ok (.i2l, 1) := by decide +kernel
theorem d5_97 : decode prog_80_method_10_code 97 = .ok (.lmul, 1) := by decide +kernel
theorem d5_98 : decode prog_80_method_10_code 98 = .ok (.ldc2_w 157, 3) := by decide +kernel
theorem d5_101 : decode prog_80_method_10_code 101 = .ok (.aload_n 2, 1) := by decide +kernel
theorem d5_102 : decode prog_80_method_10_code 102 = .ok (.arraylength, 1) := by decide +kernel
theorem d5_103 : decode prog_80_method_10_code 103 = .ok (.i2l, 1) := by decide +kernel
theorem d5_104 : decode prog_80_method_10_code 104 = .ok (.lmul, 1) := by decide +kernel
theorem d5_105 : decode prog_80_method_10_code 105 = .ok (.lcmp, 1) := by decide +kernel
theorem d5_106 : decode prog_80_method_10_code 106 = .ok (.ifCond .gt 68, 3) := by decide +kernel
theorem d5_109 : decode prog_80_method_10_code 109 = .ok (.aload_n 0, 1) := by decide +kernel
theorem d5_110 : decode prog_80_method_10_code 110 = .ok (.aconst_null, 1) := by decide +kernel
theorem d5_111 : decode prog_80_method_10_code 111 = .ok (.putfield 13, 3) := by decide +kernel
theorem d5_114 : decode prog_80_method_10_code 114 = .ok (.aload_n 0, 1) := by decide +kernel
theorem d5_115 : decode prog_80_method_10_code 115 = .ok (.iconst 1, 1) := by decide +kernel
theorem d5_116 : decode prog_80_method_10_code 116 = .ok (.anewarray 159, 3) := by decide +kernel
theorem d5_119 : decode prog_80_method_10_code 119 = .ok (.putfield 131, 3) := by decide +kernel
theorem d5_122 : decode prog_80_method_10_code 122 = .ok (.aload_n 0, 1) := by decide +kernel
theorem d5_123 : decode prog_80_method_10_code 123 = .ok (.iconst 0, 1) := by decide +kernel
theorem d5_124 : decode prog_80_method_10_code 124 = .ok (.putfield 128, 3) := by decide +kernel
theorem d5_127 : decode prog_80_method_10_code 127 = .ok (.aload_n 2, 1) := by decide +kernel
theorem d5_128 : decode prog_80_method_10_code 128 = .ok (.astore_n 3, 1) := by decide +kernel
theorem d5_129 : decode prog_80_method_10_code 129 = .ok (.aload_n 3, 1) := by decide +kernel
theorem d5_130 : decode prog_80_method_10_code 130 = .ok (.arraylength, 1) := by decide +kernel
theorem d5_131 : decode prog_80_method_10_code 131 = .ok (.istore 4, 2) := by decide +kernel
theorem d5_133 : decode prog_80_method_10_code 133 = .ok (.iconst 0, 1) := by decide +kernel
theorem d5_134 : decode prog_80_method_10_code 134 = .ok (.istore 5, 2) := by decide +kernel
theorem d5_136 : decode prog_80_method_10_code 136 = .ok (.iload 5, 2) := by decide +kernel
theorem d5_138 : decode prog_80_method_10_code 138 = .ok (.iload 4, 2) := by decide +kernel
theorem d5_140 : decode prog_80_method_10_code 140 = .ok (.if_icmp .ge 28, 3) := by decide +kernel
theorem d5_143 : decode prog_80_method_10_code 143 = .ok (.aload_n 3, 1) := by decide +kernel
theorem d5_144 : decode prog_80_method_10_code 144 = .ok (.iload 5, 2) := by decide +kernel
theorem d5_146 : decode prog_80_method_10_code 146 = .ok (.iaload, 1) := by decide +kernel
theorem d5_147 : decode prog_80_method_10_code 147 = .ok (.istore 6, 2) := by decide +kernel
theorem d5_149 : decode prog_80_method_10_code 149 = .ok (.iload 6, 2) := by decide +kernel
theorem d5_151 : decode prog_80_method_10_code 151 = .ok (.ifCond .eq 11, 3) := by decide +kernel
theorem d5_154 : decode prog_80_method_10_code 154 = .ok (.aload_n 0, 1) := by decide +kernel
theorem d5_155 : decode prog_80_method_10_code 155 = .ok (.iload 6, 2) := by decide +kernel
theorem d5_157 : decode prog_80_method_10_code 157 = .ok (.iconst 1, 1) := by decide +kernel
theorem d5_158 : decode prog_80_method_10_code 158 = .ok (.isub, 1) := by decide +kernel
theorem d5_159 : decode prog_80_method_10_code 159 = .ok (.invokevirtual 161, 3) := by decide +kernel
theorem d5_162 : decode prog_80_method_10_code 162 = .ok (.iinc 5 1, 3) := by decide +kernel
theorem d5_165 : decode prog_80_method_10_code 165 = .ok (.goto (-29), 3) := by decide +kernel
theorem d5_168 : decode prog_80_method_10_code 168 = .ok (.aload_n 0, 1) := by decide +kernel
theorem d5_169 : decode prog_80_method_10_code 169 = .ok (.iload_n 1, 1) := by decide +kernel
theorem d5_170 : decode prog_80_method_10_code 170 = .ok (.invokevirtual 161, 3) := by decide +kernel
theorem d5_173 : decode prog_80_method_10_code 173 = .ok (.return_, 1) := by decide +kernel
theorem d5_174 : decode prog_80_method_10_code 174 = .ok (.aload_n 0, 1) := by decide +kernel
theorem d5_175 : decode prog_80_method_10_code 175 = .ok (.aload_n 2, 1) := by decide +kernel
theorem d5_176 : decode prog_80_method_10_code 176 = .ok (.arraylength, 1) := by decide +kernel
theorem d5_177 : decode prog_80_method_10_code 177 = .ok (.iconst 2, 1) := by decide +kernel
theorem d5_178 : decode prog_80_method_10_code 178 = .ok (.imul, 1) := by decide +kernel
theorem d5_179 : decode prog_80_method_10_code 179 = .ok (.newarray .int, 2) := by decide +kernel
theorem d5_181 : decode prog_80_method_10_code 181 = .ok (.putfield 13, 3) := by decide +kernel
theorem d5_184 : decode prog_80_method_10_code 184 = .ok (.aload_n 2, 1) := by decide +kernel
theorem d5_185 : decode prog_80_method_10_code 185 = .ok (.astore_n 3, 1) := by decide +kernel
theorem d5_186 : decode prog_80_method_10_code 186 = .ok (.aload_n 3, 1) := by decide +kernel
theorem d5_187 : decode prog_80_method_10_code 187 = .ok (.arraylength, 1) := by decide +kernel
theorem d5_188 : decode prog_80_method_10_code 188 = .ok (.istore 4, 2) := by decide +kernel
theorem d5_190 : decode prog_80_method_10_code 190 = .ok (.iconst 0, 1) := by decide +kernel
theorem d5_191 : decode prog_80_method_10_code 191 = .ok (.istore 5, 2) := by decide +kernel
theorem d5_193 : decode prog_80_method_10_code 193 = .ok (.iload 5, 2) := by decide +kernel
theorem d5_195 : decode prog_80_method_10_code 195 = .ok (.iload 4, 2) := by decide +kernel
theorem d5_197 : decode prog_80_method_10_code 197 = .ok (.if_icmp .ge 29, 3) := by decide +kernel
theorem d5_200 : decode prog_80_method_10_code 200 = .ok (.aload_n 3, 1) := by decide +kernel
theorem d5_201 : decode prog_80_method_10_code 201 = .ok (.iload 5, 2) := by decide +kernel
theorem d5_203 : decode prog_80_method_10_code 203 = .ok (.iaload, 1) := by decide +kernel
theorem d5_204 : decode prog_80_method_10_code 204 = .ok (.istore 6, 2) := by decide +kernel
theorem d5_206 : decode prog_80_method_10_code 206 = .ok (.iload 6, 2) := by decide +kernel
theorem d5_208 : decode prog_80_method_10_code 208 = .ok (.ifCond .eq 12, 3) := by decide +kernel
theorem d5_211 : decode prog_80_method_10_code 211 = .ok (.aload_n 0, 1) := by decide +kernel
theorem d5_212 : decode prog_80_method_10_code 212 = .ok (.iload 6, 2) := by decide +kernel
theorem d5_214 : decode prog_80_method_10_code 214 = .ok (.iconst 1, 1) := by decide +kernel
theorem d5_215 : decode prog_80_method_10_code 215 = .ok (.isub, 1) := by decide +kernel
theorem d5_216 : decode prog_80_method_10_code 216 = .ok (.invokevirtual 163, 3) := by decide +kernel
theorem d5_219 : decode prog_80_method_10_code 219 = .ok (.pop, 1) := by decide +kernel
theorem d5_220 : decode prog_80_method_10_code 220 = .ok (.iinc 5 1, 3) := by decide +kernel
theorem d5_223 : decode prog_80_method_10_code 223 = .ok (.goto (-30), 3) := by decide +kernel
theorem d5_226 : decode prog_80_method_10_code 226 = .ok (.aload_n 0, 1) := by decide +kernel
theorem d5_227 : decode prog_80_method_10_code 227 = .ok (.iload_n 1, 1) := by decide +kernel
theorem d5_228 : decode prog_80_method_10_code 228 = .ok (.invokevirtual 163, 3) := by decide +kernel
theorem d5_231 : decode prog_80_method_10_code 231 = .ok (.ifCond .eq 13, 3) := by decide +kernel
theorem d5_234 : decode prog_80_method_10_code 234 = .ok (.aload_n 0, 1) := by decide +kernel
theorem d5_235 : decode prog_80_method_10_code 235 = .ok (.dup, 1) := by decide +kernel
theorem d5_236 : decode prog_80_method_10_code 236 = .ok (.getfield 128, 3) := by decide +kernel
theorem d5_239 : decode prog_80_method_10_code 239 = .ok (.iconst 1, 1) := by decide +kernel
theorem d5_240 : decode prog_80_method_10_code 240 = .ok (.iadd, 1) := by decide +kernel
theorem d5_241 : decode prog_80_method_10_code 241 = .ok (.putfield 128, 3) := by decide +kernel
theorem d5_244 : decode prog_80_method_10_code 244 = .ok (.return_, 1) := by decide +kernel
theorem pn_5 : plainFor (⟨"com/example/signpost/signpost/store/HandleSet", "add", "(I)V"⟩ : MethodName) = true := plainFor_of_name (by first | (simp [plainName, overriddenIn]; done) | decide +kernel)
abbrev y5 : MethodName := ⟨"com/example/signpost/signpost/store/HandleSet", "add", "(I)V"⟩
theorem ef_5 (x0 : Addr) (x1 : Int32) (m : MethodId) : entryFrame m #[(.ref x0), (.int x1)] 7 = mkF m 0 #[.val (.ref x0), .val (.int x1), .unset, .unset, .unset, .unset, .unset] [] := by first | (simp [entryFrame, mkF, argsToLocals, Value.category]; done) | rfl
theorem d6_0 : decode prog_80_method_19_code 0 = .ok (.aload_n 0, 1) := by decide +kernel
theorem d6_1 : decode prog_80_method_19_code 1 = .ok (.iload_n 1, 1) := by decide +kernel
theorem d6_2 : decode prog_80_method_19_code 2 = .ok (.invokevirtual 171, 3) := by decide +kernel
theorem d6_5 : decode prog_80_method_19_code 5 = .ok (.istore_n 2, 1) := by decide +kernel
theorem d6_6 : decode prog_80_method_19_code 6 = .ok (.aload_n 0, 1) := by decide +kernel
theorem d6_7 : decode prog_80_method_19_code 7 = .ok (.getfield 13, 3) := by decide +kernel
theorem d6_10 : decode prog_80_method_19_code 10 = .ok (.iload_n 2, 1) := by decide +kernel
theorem d6_11 : decode prog_80_method_19_code 11 = .ok (.iaload, 1) := by decide +kernel
theorem d6_12 : decode prog_80_method_19_code 12 = .ok (.iload_n 1, 1) := by decide +kernel
theorem d6_13 : decode prog_80_method_19_code 13 = .ok (.iconst 1, 1) := by decide +kernel
theorem d6_14 : decode prog_80_method_19_code 14 = .ok (.iadd, 1) := by decide +kernel
theorem d6_15 : decode prog_80_method_19_code 15 = .ok (.if_icmp .ne 5, 3) := by decide +kernel
theorem d6_18 : decode prog_80_method_19_code 18 = .ok (.iconst 0, 1) := by decide +kernel
theorem d6_19 : decode prog_80_method_19_code 19 = .ok (.ireturn, 1) := by decide +kernel
theorem d6_20 : decode prog_80_method_19_code 20 = .ok (.aload_n 0, 1) := by decide +kernel
theorem d6_21 : decode prog_80_method_19_code 21 = .ok (.getfield 13, 3) := by decide +kernel
theorem d6_24 : decode prog_80_method_19_code 24 = .ok (.iload_n 2, 1) := by decide +kernel
theorem d6_25 : decode prog_80_method_19_code 25 = .ok (.iload_n 1, 1) := by decide +kernel
theorem d6_26 : decode prog_80_method_19_code 26 = .ok (.iconst 1, 1) := by decide +kernel
theorem d6_27 : decode prog_80_method_19_code 27 = .ok (.iadd, 1) := by decide +kernel
theorem d6_28 : decode prog_80_method_19_code 28 = .ok (.iastore, 1) := by decide +kernel
theorem d6_29 : decode prog_80_method_19_code 29 = .ok (.iconst 1, 1) := by decide +kernel
theorem d6_30 : decode prog_80_method_19_code 30 = .ok (.ireturn, 1) := by decide +kernel
theorem pn_6 : plainFor (⟨"com/example/signpost/signpost/store/HandleSet", "put", "(I)Z"⟩ : MethodName) = true := plainFor_of_name (by first | (simp [plainName, overriddenIn]; done) | decide +kernel)
abbrev y6 : MethodName := ⟨"com/example/signpost/signpost/store/HandleSet", "put", "(I)Z"⟩
theorem ef_6 (x0 : Addr) (x1 : Int32) (m : MethodId) : entryFrame m #[(.ref x0), (.int x1)] 3 = mkF m 0 #[.val (.ref x0), .val (.int x1), .unset] [] := by first | (simp [entryFrame, mkF, argsToLocals, Value.category]; done) | rfl
theorem d7_0 : decode prog_80_method_20_code 0 = .ok (.iload_n 1, 1) := by decide +kernel
theorem d7_1 : decode prog_80_method_20_code 1 = .ok (.iconst 1, 1) := by decide +kernel
theorem d7_2 : decode prog_80_method_20_code 2 = .ok (.iadd, 1) := by decide +kernel
theorem d7_3 : decode prog_80_method_20_code 3 = .ok (.istore_n 2, 1) := by decide +kernel
theorem d7_4 : decode prog_80_method_20_code 4 = .ok (.aload_n 0, 1) := by decide +kernel
theorem d7_5 : decode prog_80_method_20_code 5 = .ok (.getfield 13, 3) := by decide +kernel
theorem d7_8 : decode prog_80_method_20_code 8 = .ok (.arraylength, 1) := by decide +kernel
theorem d7_9 : decode prog_80_method_20_code 9 = .ok (.iconst 1, 1) := by decide +kernel
theorem d7_10 : decode prog_80_method_20_code 10 = .ok (.isub, 1) := by decide +kernel
theorem d7_11 : decode prog_80_method_20_code 11 = .ok (.istore_n 3, 1) := by decide +kernel
theorem d7_12 : decode prog_80_method_20_code 12 = .ok (.iload_n 1, 1) := by decide +kernel
theorem d7_13 : decode prog_80_method_20_code 13 = .ok (.invokestatic 192, 3) := by decide +kernel
theorem d7_16 : decode prog_80_method_20_code 16 = .ok (.iload_n 3, 1) := by decide +kernel
theorem d7_17 : decode prog_80_method_20_code 17 = .ok (.iand, 1) := by decide +kernel
theorem d7_18 : decode prog_80_method_20_code 18 = .ok (.istore 4, 2) := by decide +kernel
theorem d7_20 : decode prog_80_method_20_code 20 = .ok (.aload_n 0, 1) := by decide +kernel
theorem d7_21 : decode prog_80_method_20_code 21 = .ok (.getfield 13, 3) := by decide +kernel
theorem d7_24 : decode prog_80_method_20_code 24 = .ok (.iload 4, 2) := by decide +kernel
theorem d7_26 : decode prog_80_method_20_code 26 = .ok (.iaload, 1) := by decide +kernel
theorem d7_27 : decode prog_80_method_20_code 27 = .ok (.iload_n 2, 1) := by decide +kernel
theorem d7_28 : decode prog_80_method_20_code 28 = .ok (.if_icmp .eq 24, 3) := by decide +kernel
theorem d7_31 : decode prog_80_method_20_code 31 = .ok (.aload_n 0, 1) := by decide +kernel
theorem d7_32 : decode prog_80_method_20_code 32 = .ok (.getfield 13, 3) := by decide +kernel
theorem d7_35 : decode prog_80_method_20_code 35 = .ok (.iload 4, 2) := by decide +kernel
theorem d7_37 : decode prog_80_method_20_code 37 = .ok (.iaload, 1) := by decide +kernel
theorem d7_38 : decode prog_80_method_20_code 38 = .ok (.ifCond .eq 14, 3) := by decide +kernel
theorem d7_41 : decode prog_80_method_20_code 41 = .ok (.iload 4, 2) := by decide +kernel
theorem d7_43 : decode prog_80_method_20_code 43 = .ok (.iconst 1, 1) := by decide +kernel
theorem d7_44 : decode prog_80_method_20_code 44 = .ok (.iadd, 1) := by decide +kernel
theorem d7_45 : decode prog_80_method_20_code 45 = .ok (.iload_n 3, 1) := by decide +kernel
theorem d7_46 : decode prog_80_method_20_code 46 = .ok (.iand, 1) := by decide +kernel
theorem d7_47 : decode prog_80_method_20_code 47 = .ok (.istore 4, 2) := by decide +kernel
theorem d7_49 : decode prog_80_method_20_code 49 = .ok (.goto (-29), 3) := by decide +kernel
theorem d7_52 : decode prog_80_method_20_code 52 = .ok (.iload 4, 2) := by decide +kernel
theorem d7_54 : decode prog_80_method_20_code 54 = .ok (.ireturn, 1) := by decide +kernel
theorem pn_7 : plainFor (⟨"com/example/signpost/signpost/store/HandleSet", "slot", "(I)I"⟩ : MethodName) = true := plainFor_of_name (by first | (simp [plainName, overriddenIn]; done) | decide +kernel)
abbrev y7 : MethodName := ⟨"com/example/signpost/signpost/store/HandleSet", "slot", "(I)I"⟩
theorem ef_7 (x0 : Addr) (x1 : Int32) (m : MethodId) : entryFrame m #[(.ref x0), (.int x1)] 5 = mkF m 0 #[.val (.ref x0), .val (.int x1), .unset, .unset, .unset] [] := by first | (simp [entryFrame, mkF, argsToLocals, Value.category]; done) | rfl
theorem d8_0 : decode prog_80_method_21_code 0 = .ok (.iload_n 0, 1) := by decide +kernel
theorem d8_1 : decode prog_80_method_21_code 1 = .ok (.ldc 195, 2) := by decide +kernel
theorem d8_3 : decode prog_80_method_21_code 3 = .ok (.imul, 1) := by decide +kernel
theorem d8_4 : decode prog_80_method_21_code 4 = .ok (.istore_n 1, 1) := by decide +kernel
theorem d8_5 : decode prog_80_method_21_code 5 = .ok (.iload_n 1, 1) := by decide +kernel
theorem d8_6 : decode prog_80_method_21_code 6 = .ok (.iload_n 1, 1) := by decide +kernel
theorem d8_7 : decode prog_80_method_21_code 7 = .ok (.bipush 16, 2) := by decide +kernel
theorem d8_9 : decode prog_80_method_21_code 9 = .ok (.iushr, 1) := by decide +kernel
theorem d8_10 : decode prog_80_method_21_code 10 = .ok (.ixor, 1) := by decide +kernel
theorem d8_11 : decode prog_80_method_21_code 11 = .ok (.ireturn, 1) := by decide +kernel
theorem pn_8 : plainFor (⟨"com/example/signpost/signpost/store/HandleSet", "spread", "(I)I"⟩ : MethodName) = true := plainFor_of_name (by first | (simp [plainName, overriddenIn]; done) | decide +kernel)
abbrev y8 : MethodName := ⟨"com/example/signpost/signpost/store/HandleSet", "spread", "(I)I"⟩
theorem ef_8 (x0 : Int32) (m : MethodId) : entryFrame m #[(.int x0)] 2 = mkF m 0 #[.val (.int x0), .unset] [] := by first | (simp [entryFrame, mkF, argsToLocals, Value.category]; done) | rfl
theorem pd_0 : parseMethodDescriptor "(II)I" = some ⟨[.int, .int], some .int⟩ := by decide +kernel
theorem pd_1 : parseMethodDescriptor "()V" = some ⟨[], none⟩ := by decide +kernel
theorem pd_2 : parseMethodDescriptor "()J" = some ⟨[], some .long⟩ := by decide +kernel
theorem pd_3 : parseMethodDescriptor "(I)V" = some ⟨[.int], none⟩ := by decide +kernel
theorem pd_4 : parseMethodDescriptor "(I)Z" = some ⟨[.int], some .boolean⟩ := by decide +kernel
theorem pd_5 : parseMethodDescriptor "(I)I" = some ⟨[.int], some .int⟩ := by decide +kernel
/-! shifts as shifts of bit vectors -/
theorem b_and31 (q : Int32) (k : Nat) (hk : q.toBitVec.toNat % 32 = k) : (q &&& 31).toBitVec.toNat = k := by
  show (q.toBitVec &&& (31 : Int32).toBitVec).toNat = _
  rw [BitVec.toNat_and, show (31 : Int32).toBitVec.toNat = 2 ^ 5 - 1 from by decide, Nat.and_two_pow_sub_one_eq_mod]; exact hk
theorem b_ishl (x q : Int32) (k : Nat) (hk : q.toBitVec.toNat % 32 = k) : (x <<< (q &&& 31)).toBitVec = x.toBitVec <<< k := by
  show x.toBitVec <<< ((q &&& 31).toBitVec.smod 32) = _
  rw [BitVec.shiftLeft_eq', sm32 q k hk]
theorem b_ishr (x q : Int32) (k : Nat) (hk : q.toBitVec.toNat % 32 = k) : (x >>> (q &&& 31)).toBitVec = x.toBitVec.sshiftRight k := by
  show x.toBitVec.sshiftRight' ((q &&& 31).toBitVec.smod 32) = _
  rw [BitVec.sshiftRight_eq', sm32 q k hk]
theorem b_iushr (x q : Int32) (k : Nat) (hk : q.toBitVec.toNat % 32 = k) : ((x.toUInt32 >>> (q &&& 31).toUInt32).toInt32).toBitVec = x.toBitVec >>> k := by
  show x.toBitVec >>> ((q &&& 31).toBitVec % 32) = _
  rw [BitVec.ushiftRight_eq', BitVec.toNat_umod, b_and31 q k hk]
  congr 1; exact Nat.mod_eq_of_lt (by show k < 32; omega)
theorem b_lshl (x : Int64) (q : Int32) (k : Nat) (hk : q.toBitVec.toNat % 64 = k) : (x <<< (q &&& 0x3f).toInt64).toBitVec = x.toBitVec <<< k := by
  show x.toBitVec <<< ((q &&& 0x3f).toInt64.toBitVec.smod 64) = _
  rw [BitVec.shiftLeft_eq', (sm64 q k hk).1, smod64 k (sm64 q k hk).2]
theorem b_lshr (x : Int64) (q : Int32) (k : Nat) (hk : q.toBitVec.toNat % 64 = k) : (x >>> (q &&& 0x3f).toInt64).toBitVec = x.toBitVec.sshiftRight k := by
  show x.toBitVec.sshiftRight' ((q &&& 0x3f).toInt64.toBitVec.smod 64) = _
  rw [BitVec.sshiftRight_eq', (sm64 q k hk).1, smod64 k (sm64 q k hk).2]
theorem b_lushr (x : Int64) (q : Int32) (k : Nat) (hk : q.toBitVec.toNat % 64 = k) : ((x.toUInt64 >>> (q &&& 0x3f).toInt64.toUInt64).toInt64).toBitVec = x.toBitVec >>> k := by
  have h5 := (sm64 q k hk).2
  show x.toBitVec >>> ((q &&& 0x3f).toInt64.toBitVec % 64) = _
  rw [BitVec.ushiftRight_eq', BitVec.toNat_umod, (sm64 q k hk).1, BitVec.toNat_ofNat]
  congr 1; show k % 2 ^ 64 % 64 = k; omega
theorem nat32 {x : Int32} (hx : 0 ≤ x.toInt) : (x.toBitVec.toNat : Int) = x.toInt := by
  have h2 := x.toBitVec.isLt
  have h3 : x.toInt = x.toBitVec.toInt := rfl
  rw [BitVec.toInt_eq_toNat_cond] at h3
  split at h3 <;> omega
theorem clamp32 {x : Int32} (hx : 0 ≤ x.toInt) : (x.toNatClampNeg : Int) = x.toInt := by
  show (x.toInt.toNat : Int) = x.toInt
  omega
theorem nlt32 {x : Int32} (hx : 0 ≤ x.toInt) : ¬ x < 0 := by
  rw [Int32.lt_iff_toInt_lt, show (0 : Int32).toInt = 0 from by decide]; omega
theorem c_imulR (x k : Int32) (K : Int) (hk : k.toInt = K) : ((x * k).toInt - x.toInt * K) % 4294967296 = 0 := hk ▸ c_imul x k
theorem c_imulL (k x : Int32) (K : Int) (hk : k.toInt = K) : ((k * x).toInt - K * x.toInt) % 4294967296 = 0 := hk ▸ c_imul k x
theorem mulL (k x : Int32) (K : Int) (hk : k.toInt = K) (h1 : -2147483648 ≤ K * x.toInt) (h2 : K * x.toInt < 2147483648) : (k * x).toInt = K * x.toInt := by
  have a := c_imulL k x K hk
  have g := rng32 (k * x)
  generalize K * x.toInt = P at *
  omega
theorem mulR (x k : Int32) (K : Int) (hk : k.toInt = K) (h1 : -2147483648 ≤ x.toInt * K) (h2 : x.toInt * K < 2147483648) : (x * k).toInt = x.toInt * K := by
  have a := c_imulR x k K hk
  have g := rng32 (x * k)
  generalize x.toInt * K = P at *
  omega
/-! a table of ints with open addressing: L places, 0 an empty one -/
def tb (T : List Int32) (p : Nat) : Int32 := (T[p]?).getD 0
/-- the first place from p on (d steps behind it) that holds v or nothing -/
def Hit (T : List Int32) (p : Nat) (v : Int32) (d : Nat) : Prop := (tb T ((p + d) % T.length) = v ∨ tb T ((p + d) % T.length) = 0) ∧ ∀ d', d' < d → tb T ((p + d') % T.length) ≠ v ∧ tb T ((p + d') % T.length) ≠ 0
/-- every entry is found from its home on -/
def Well (home : Int32 → Nat) (T : List Int32) : Prop := ∀ u : Int32, u ≠ 0 → ∀ r, r < T.length → tb T r = u → ∃ d, d < T.length ∧ r = (home u + d) % T.length ∧ ∀ d', d' < d → tb T ((home u + d') % T.length) ≠ 0
theorem tb_of {T : List Int32} {p : Nat} (h : p < T.length) : T[p]? = some (tb T p) := by simp [tb, List.getElem?_eq_getElem h]
theorem tb_set {T : List Int32} {p : Nat} {v : Int32} (h : p < T.length) (q : Nat) : tb (T.set p v) q = if q = p then v else tb T q := by
  simp only [tb, List.getElem?_set]
  by_cases e : p = q
  · subst e; simp [h]
  · rw [if_neg e, if_neg (fun z => e z.symm)]
theorem hit_old {home : Int32 → Nat} {T : List Int32} {v : Int32} {d r : Nat} (W : Well home T) (hv : v ≠ 0) (H : Hit T (home v) v d) (hr : r < T.length) (e : tb T r = v) : tb T ((home v + d) % T.length) = v := by
  obtain ⟨d0, hd0, rfl, hz⟩ := W v hv r hr e
  rcases Nat.lt_trichotomy d d0 with q | q | q
  · rcases H.1 with z | z
    · exact z
    · exact absurd z (hz d q)
  · subst q; exact e
  · exact absurd e (H.2 d0 q).1
theorem well_set {home : Int32 → Nat} {T : List Int32} {v : Int32} {d : Nat} (W : Well home T) (hv : v ≠ 0) (H : Hit T (home v) v d) (hd : d < T.length) (h0 : tb T ((home v + d) % T.length) = 0) : Well home (T.set ((home v + d) % T.length) v) := by
  have hL : 0 < T.length := by omega
  have hp : (home v + d) % T.length < T.length := Nat.mod_lt _ hL
  intro u hu r hr e
  rw [List.length_set] at hr ⊢
  rw [tb_set hp] at e
  by_cases c : r = (home v + d) % T.length
  · rw [if_pos c] at e
    subst e
    refine ⟨d, hd, c, fun d' q => ?_⟩
    rw [tb_set hp]
    split
    · exact hv
    · exact (H.2 d' q).2
  · rw [if_neg c] at e
    obtain ⟨d0, hd0, q, hz⟩ := W u hu r hr e
    refine ⟨d0, hd0, q, fun d' q' => ?_⟩
    rw [tb_set hp]
    split
    · exact hv
    · exact hz d' q'
def cnt (T : List Int32) : Nat := T.countP (· ≠ 0)
theorem cnt_set {T : List Int32} {p : Nat} {v : Int32} (h : p < T.length) (h0 : tb T p = 0) (hv : v ≠ 0) : cnt (T.set p v) = cnt T + 1 := by
  induction T generalizing p with
  | nil => simp at h
  | cons a t ih =>
    cases p with
    | zero =>
      have ha : a = 0 := by simpa [tb] using h0
      simp [cnt, List.countP_cons, ha, hv]
    | succ p =>
      have := ih (p := p) (by simpa using h) (by simpa [tb] using h0)
      simp only [cnt, List.set_cons_succ, List.countP_cons] at this ⊢
      omega
theorem zero_of {T : List Int32} (h : cnt T < T.length) : ∃ p, p < T.length ∧ tb T p = 0 := by
  induction T with
  | nil => simp [cnt] at h
  | cons a t ih =>
    by_cases ha : a = 0
    · exact ⟨0, by simp, by simp [tb, ha]⟩
    · have : cnt t < t.length := by simp [cnt, List.countP_cons, ha] at h ⊢; omega
      obtain ⟨p, h1, h2⟩ := ih this
      exact ⟨p + 1, by simp; omega, by simpa [tb] using h2⟩
/-- some step meets an empty place -/
theorem mod_hits {L p r : Nat} (hr : r < L) : ∃ d, d < L ∧ (p + d) % L = r := by
  have hL : 0 < L := by omega
  have hp : p % L < L := Nat.mod_lt _ hL
  by_cases c : p % L ≤ r
  · refine ⟨r - p % L, by omega, ?_⟩
    rw [Nat.add_mod, Nat.mod_eq_of_lt (a := r - p % L) (by omega)]
    rw [show p % L + (r - p % L) = r by omega]; exact Nat.mod_eq_of_lt hr
  · refine ⟨L + r - p % L, by omega, ?_⟩
    rw [Nat.add_mod, Nat.mod_eq_of_lt (a := L + r - p % L) (by omega)]
    rw [show p % L + (L + r - p % L) = L + r by omega, Nat.add_mod_left]; exact Nat.mod_eq_of_lt hr
abbrev rm00 : Room := { frames := 0, cells := 0, slots := 0, locals := 0 }
abbrev rmI : Room := { frames := 1, cells := 1, slots := 16, locals := 12 }
abbrev rm1 : Room := { frames := 1, cells := 0, slots := 0, locals := 13 }
abbrev rm2 : Room := { frames := 2, cells := 0, slots := 0, locals := 29 }
abbrev rm3 : Room := { frames := 3, cells := 0, slots := 0, locals := 43 }
abbrev rm4 : Room := { frames := 3, cells := 1, slots := 32, locals := 43 }
abbrev HN : String := "com/example/signpost/signpost/store/HandleSet"
def HS (Z : State) (h : Heap) (o a : Addr) (sz : Int32) (T : List Int32) : Prop := Exa Z h o HN ∧ Fld Z h o HN "slots" "[I" (.ref a) ∧ Fld Z h o HN "size" "I" (.int sz) ∧ Fld Z h o HN "pages" "[[J" .null ∧ Ars Z h a .int (T.map Value.int) ∧ a ≠ o
section Slots
variable {Z : State} {a0 : Array Value}
theorem laS (hw : ∀ d ∈ tables_1, d.before a0 Z = true) : Laid Z a0 HN HN "slots" "[I" := Or.inl (tw hw 18 rfl)
theorem laZ (hw : ∀ d ∈ tables_1, d.before a0 Z = true) : Laid Z a0 HN HN "size" "I" := Or.inl (tw hw 34 rfl)
theorem laP (hw : ∀ d ∈ tables_1, d.before a0 Z = true) : Laid Z a0 HN HN "pages" "[[J" := Or.inl (tw hw 26 rfl)
theorem sSZ (hw : ∀ d ∈ tables_1, d.before a0 Z = true) : Jvm.RoadKit.slotOf Z HN "slots" "[I" ≠ Jvm.RoadKit.slotOf Z HN "size" "I" := slot_ne (laS hw) (laZ hw) (by decide) (t := .array .int) (t' := .int) (by decide) (by decide)
theorem sSP (hw : ∀ d ∈ tables_1, d.before a0 Z = true) : Jvm.RoadKit.slotOf Z HN "slots" "[I" ≠ Jvm.RoadKit.slotOf Z HN "pages" "[[J" := slot_ne (laS hw) (laP hw) (by decide) (t := .array .int) (t' := .array (.array .long)) (by decide) (by decide)
theorem sZP (hw : ∀ d ∈ tables_1, d.before a0 Z = true) : Jvm.RoadKit.slotOf Z HN "size" "I" ≠ Jvm.RoadKit.slotOf Z HN "pages" "[[J" := slot_ne (laZ hw) (laP hw) (by decide) (t := .int) (t' := .array (.array .long)) (by decide) (by decide)
end Slots
theorem map_at {T : List Int32} {p : Nat} (h : p < T.length) : (T.map Value.int)[p]? = some (.int (tb T p)) := by
  rw [List.getElem?_map, tb_of h]; rfl
theorem map_set (T : List Int32) (p : Nat) (v : Int32) : (T.map Value.int).set p (.int v) = (T.set p v).map Value.int := by
  rw [List.map_set]
/-- L places, their number and their mask as the code has them -/
def Lok (L : Nat) (Li ml : Int32) : Prop := Nat.toInt32 L = Li ∧ Li - 1 = ml ∧ 16 ≤ L ∧ L ≤ 32 ∧ ∀ x : Int32, (x &&& ml).toInt = x.toInt % (L : Int)
theorem lok16 : Lok 16 16 15 := ⟨by decide, by decide, by decide, by decide, fun x => c_mask x 15 4 (by decide) (by decide)⟩
theorem lok32 : Lok 32 32 31 := ⟨by decide, by decide, by decide, by decide, fun x => c_mask x 31 5 (by decide) (by decide)⟩
abbrev spr (x : Int32) : Int32 := (x * (-1640531527)) ^^^ ((x * (-1640531527)).toUInt32 >>> ((16 : Int32) &&& 31).toUInt32).toInt32
abbrev hm (ml : Int32) (u : Int32) : Nat := (spr (u - 1) &&& ml).toInt.toNat
theorem toInt_nat {L : Nat} (h : L ≤ 100) : (Nat.toInt32 L).toInt = L := by
  have : ∀ k : Fin 101, (Nat.toInt32 k.val).toInt = (k.val : Int) := by decide +kernel
  exact this ⟨L, by omega⟩
theorem hm_add (ml x : Int32) : hm ml (x + 1) = (spr x &&& ml).toInt.toNat := by
  show (spr (x + 1 - 1) &&& ml).toInt.toNat = _
  rw [Int32.add_sub_cancel]
set_option maxRecDepth 65536 in
set_option maxHeartbeats 40000000 in
theorem c_8 (l : Launch) (Z : State) (a0 : Array Value) (hw : ∀ d ∈ tables_1, d.before a0 Z = true) (x0 : Int32) (n0 : Nat) (h : Heap) (hn : n0 ≤ h.size) :
    Ct l Z y8 prog_80_method_21_code 2 (some .int) rm00 n0 [] #[.int x0] h (fun v h' => v = some (.int (spr x0)) ∧ h' = h) := by
  refine ct_of pn_8 hn (ef_8 x0) fun X C => ?_
  refine w_iloadN C (pc' := 1) d8_0 rfl rfl ?_
  refine w_ldc C (pc' := 3) (tw hw 46 rfl) d8_1 rfl ?_
  refine w_imul C (pc' := 4) d8_3 rfl ?_
  refine w_istoreN C (pc' := 5) (ls' := #[_, _]) d8_4 rfl rfl ?_
  refine w_iloadN C (pc' := 6) d8_5 rfl rfl ?_
  refine w_iloadN C (pc' := 7) d8_6 rfl rfl ?_
  refine w_bipush C (pc' := 9) (z := 16) d8_7 rfl rfl ?_
  refine w_iushr C (pc' := 10) d8_9 rfl ?_
  refine w_ixor C (pc' := 11) d8_10 rfl ?_
  exact w_iret C d8_11 (by simp) rfl (by decide) (by decide) ⟨rfl, rfl⟩
set_option maxRecDepth 65536 in
set_option maxHeartbeats 40000000 in
theorem c_7 (l : Launch) (Z : State) (a0 : Array Value) (hw : ∀ d ∈ tables_1, d.before a0 Z = true) (o a : Addr) (x1 sz Li ml : Int32) (T : List Int32) (n0 : Nat) (h : Heap) (hn : n0 ≤ h.size) (B : HS Z h o a sz T) (hL : Lok T.length Li ml) (hc : cnt T < T.length) :
    Ct l Z y7 prog_80_method_20_code 5 (some .int) rm1 n0 [] #[.ref o, .int x1] h (fun v h' => (∃ (r : Int32) (d : Nat), v = some (.int r) ∧ d < T.length ∧ r.toInt = ((hm ml (x1 + 1) + d) % T.length : Nat) ∧ Hit T (hm ml (x1 + 1)) (x1 + 1) d) ∧ h' = h) := by
  refine ct_of pn_7 hn (ef_7 o x1) fun X C => ?_
  obtain ⟨E, F1, F2, F3, A, hne⟩ := B
  obtain ⟨hL1, hL2, hL3, hL4, hm1⟩ := hL
  subst hL2
  have z1 : (1 : Int32).toInt = 1 := by decide
  obtain ⟨zp, hz1, hz2⟩ := zero_of hc
  obtain ⟨dz, hdz, hdz2⟩ := mod_hits (p := hm (Li - 1) (x1 + 1)) hz1
  have J20 : ∀ (m d : Nat) (at' : Int32), d + m = T.length → at'.toInt = ((hm (Li - 1) (x1 + 1) + d) % T.length : Nat) → (∀ d', d' < d → tb T ((hm (Li - 1) (x1 + 1) + d') % T.length) ≠ x1 + 1 ∧ tb T ((hm (Li - 1) (x1 + 1) + d') % T.length) ≠ 0) →
      Wp X 0 0 h 20 #[.val (.ref o), .val (.int x1), .val (.int (x1 + 1)), .val (.int (Li - 1)), .val (.int at')] [] := by
    intro m
    induction m with
    | zero =>
      intro d at' hd hat hall
      exact absurd hz2 (by have := (hall dz (by omega)).2; rw [hdz2] at this; exact this)
    | succ m ih =>
      intro d at' hd hat hall
      have hp : (hm (Li - 1) (x1 + 1) + d) % T.length < T.length := Nat.mod_lt _ (by omega)
      have cl := clamp32 (x := at') (by omega)
      have hv := map_at hp
      have a1 := c_iadd at' 1
      have g1 := rng32 (at' + 1)
      have nx : ((at' + 1) &&& (Li - 1)).toInt = ((hm (Li - 1) (x1 + 1) + (d + 1)) % T.length : Nat) := by
        rw [hm1, show (at' + 1).toInt = (((hm (Li - 1) (x1 + 1) + d) % T.length + 1 : Nat) : Int) by omega, ← Nat.add_assoc, ← Int.natCast_emod]
        congr 1
        exact Nat.mod_add_mod _ _ _
      refine w_aloadN C (pc' := 21) d7_20 rfl rfl rfl ?_
      refine w_getfield C (pc' := 24) (tw hw 17 rfl) d7_21 F1 rfl ?_
      refine w_iload C (pc' := 26) d7_24 rfl rfl ?_
      refine w_iaload C (pc' := 27) d7_26 A (nlt32 (by omega)) (i := (hm (Li - 1) (x1 + 1) + d) % T.length) (by omega) hv rfl ?_
      refine w_iloadN C (pc' := 28) d7_27 rfl rfl ?_
      refine w_icmp_eq C (pc' := 52) (pn := 31) d7_28 (by decide) (by decide) rfl (fun c28 => ?_) (fun c28 => ?_)
      · refine w_iload C (pc' := 54) d7_52 rfl rfl ?_
        exact w_iret C d7_54 (by simp) rfl (by decide) (by decide) ⟨⟨_, d, rfl, by omega, hat, Or.inl c28, hall⟩, rfl⟩
      · refine w_aloadN C (pc' := 32) d7_31 rfl rfl rfl ?_
        refine w_getfield C (pc' := 35) (tw hw 17 rfl) d7_32 F1 rfl ?_
        refine w_iload C (pc' := 37) d7_35 rfl rfl ?_
        refine w_iaload C (pc' := 38) d7_37 A (nlt32 (by omega)) (i := (hm (Li - 1) (x1 + 1) + d) % T.length) (by omega) hv rfl ?_
        refine w_if_eq C (pc' := 52) (pn := 41) d7_38 (by decide) (by decide) rfl (fun c38 => ?_) (fun c38 => ?_)
        · refine w_iload C (pc' := 54) d7_52 rfl rfl ?_
          exact w_iret C d7_54 (by simp) rfl (by decide) (by decide) ⟨⟨_, d, rfl, by omega, hat, Or.inr c38, hall⟩, rfl⟩
        · refine w_iload C (pc' := 43) d7_41 rfl rfl ?_
          refine w_iconst C (pc' := 44) (z := 1) d7_43 rfl rfl ?_
          refine w_iadd C (pc' := 45) d7_44 rfl ?_
          refine w_iloadN C (pc' := 46) d7_45 rfl rfl ?_
          refine w_iand C (pc' := 47) d7_46 rfl ?_
          refine w_istore C (pc' := 49) (ls' := #[_, _, _, _, _]) d7_47 rfl rfl ?_
          refine w_goto C (pc' := 20) d7_49 (by decide) (by decide) ?_
          exact ih (d + 1) _ (by omega) nx (fun d' q => if z : d' < d then hall d' z else by obtain rfl : d' = d := (by omega); exact ⟨c28, c38⟩)
  have hlen : (T.map Value.int).length.toInt32 = Li := by rw [List.length_map]; exact hL1
  have st0 : (spr x1 &&& (Li - 1)).toInt = ((hm (Li - 1) (x1 + 1) + 0) % T.length : Nat) := by
    rw [Nat.add_zero, hm_add, hm1]
    have : 0 ≤ (spr x1).toInt % (T.length : Int) := Int.emod_nonneg _ (by omega)
    have h2 : (spr x1).toInt % (T.length : Int) < T.length := Int.emod_lt_of_pos _ (by omega)
    rw [Nat.mod_eq_of_lt (by omega)]; omega
  refine w_iloadN C (pc' := 1) d7_0 rfl rfl ?_
  refine w_iconst C (pc' := 2) (z := 1) d7_1 rfl rfl ?_
  refine w_iadd C (pc' := 3) d7_2 rfl ?_
  refine w_istoreN C (pc' := 4) (ls' := #[_, _, _, _, _]) d7_3 rfl rfl ?_
  refine w_aloadN C (pc' := 5) d7_4 rfl rfl rfl ?_
  refine w_getfield C (pc' := 8) (tw hw 17 rfl) d7_5 F1 rfl ?_
  refine w_alen C (pc' := 9) d7_8 A (z := Li) hlen rfl ?_
  refine w_iconst C (pc' := 10) (z := 1) d7_9 rfl rfl ?_
  refine w_isub C (pc' := 11) d7_10 rfl ?_
  refine w_istoreN C (pc' := 12) (ls' := #[_, _, _, _, _]) d7_11 rfl rfl ?_
  refine w_iloadN C (pc' := 13) d7_12 rfl rfl ?_
  refine Wp.size C fun sz13 => ?_
  refine w_static C (pc' := 16) (W := 0) (tw hw 43 rfl) (tw hw 44 rfl) (tw hw 9 rfl) (tw hw 45 rfl) (by decide) pd_5 d7_13 (c_8 X.l Z a0 hw x1 n0 h sz13) rfl rfl rfl (by decide) rfl (by decide) (by decide) (by decide) rfl (fun v13 h13 q13 => ?_)
  obtain ⟨rfl, rfl⟩ := q13
  show Wp X _ _ _ 16 _ [_]
  refine w_iloadN C (pc' := 17) d7_16 rfl rfl ?_
  refine w_iand C (pc' := 18) d7_17 rfl ?_
  refine w_istore C (pc' := 20) (ls' := #[_, _, _, _, _]) d7_18 rfl rfl ?_
  -- STOP at 20
  exact J20 T.length 0 _ (by omega) st0 (fun d' q => absurd q (by omega))
/-- what a put does to the table -/
def Put (T : List Int32) (ml v r : Int32) (T' : List Int32) : Prop := ∃ d : Nat, d < T.length ∧ Hit T (hm ml v) v d ∧ ((r = 0 ∧ tb T ((hm ml v + d) % T.length) = v ∧ T' = T) ∨ (r = 1 ∧ ¬ tb T ((hm ml v + d) % T.length) = v ∧ T' = T.set ((hm ml v + d) % T.length) v))
theorem Put.len {T T' : List Int32} {ml v r : Int32} (P : Put T ml v r T') : T'.length = T.length := by
  obtain ⟨d, -, -, ⟨-, -, rfl⟩ | ⟨-, -, rfl⟩⟩ := P
  · rfl
  · rw [List.length_set]
theorem Put.cnt {T T' : List Int32} {ml v r : Int32} (P : Put T ml v r T') (hv : v ≠ 0) : cnt T' ≤ cnt T + 1 := by
  obtain ⟨d, hd, H, ⟨-, -, rfl⟩ | ⟨-, q, rfl⟩⟩ := P
  · omega
  · rcases H.1 with z | z
    · exact absurd z q
    · rw [cnt_set (Nat.mod_lt _ (by omega)) z hv]; omega
set_option maxRecDepth 65536 in
set_option maxHeartbeats 40000000 in
theorem c_6 (l : Launch) (Z : State) (a0 : Array Value) (hw : ∀ d ∈ tables_1, d.before a0 Z = true) (o a : Addr) (x1 sz Li ml : Int32) (T : List Int32) (n0 : Nat) (h : Heap) (hn : n0 ≤ h.size) (g : n0 ≤ a) (B : HS Z h o a sz T) (hL : Lok T.length Li ml) (hc : cnt T < T.length) :
    Ct l Z y6 prog_80_method_19_code 3 (some .boolean) rm2 n0 [] #[.ref o, .int x1] h (fun v h' => (∃ (r : Int32) (T' : List Int32), v = some (.int r) ∧ Put T ml (x1 + 1) r T' ∧ HS Z h' o a sz T') ∧ Keep h h' [a]) := by
  refine ct_of pn_6 hn (ef_6 o x1) fun X C => ?_
  obtain ⟨E, F1, F2, F3, A, hne⟩ := id B
  refine w_aloadN C (pc' := 1) d6_0 rfl rfl rfl ?_
  refine w_iloadN C (pc' := 2) d6_1 rfl rfl ?_
  refine Wp.size C fun sz2 => ?_
  refine w_private C (pc' := 5) (W := 0) (tw hw 39 rfl) (tw hw 40 rfl) (tw hw 41 rfl) (tw hw 8 rfl) (tw hw 9 rfl) (tw hw 42 rfl) (by decide) pd_5 d6_2 E (c_7 X.l Z a0 hw o a x1 sz Li ml T n0 h sz2 B hL hc) rfl rfl rfl (by decide) rfl (by decide) (by decide) (by decide) rfl (fun v2 h2 q2 => ?_)
  obtain ⟨⟨p, d, rfl, hd, hp, H⟩, rfl⟩ := q2
  show Wp X _ _ _ 5 _ [_]
  refine w_istoreN C (pc' := 6) (ls' := #[_, _, _]) d6_5 rfl rfl ?_
  have hlt : (hm ml (x1 + 1) + d) % T.length < T.length := Nat.mod_lt _ (by omega)
  have hv := map_at hlt
  have hL4 := hL.2.2.2.1
  have cl := clamp32 (x := p) (by omega)
  refine w_aloadN C (pc' := 7) d6_6 rfl rfl rfl ?_
  refine w_getfield C (pc' := 10) (tw hw 17 rfl) d6_7 F1 rfl ?_
  refine w_iloadN C (pc' := 11) d6_10 rfl rfl ?_
  refine w_iaload C (pc' := 12) d6_11 A (nlt32 (by omega)) (i := (hm ml (x1 + 1) + d) % T.length) (by omega) hv rfl ?_
  refine w_iloadN C (pc' := 13) d6_12 rfl rfl ?_
  refine w_iconst C (pc' := 14) (z := 1) d6_13 rfl rfl ?_
  refine w_iadd C (pc' := 15) d6_14 rfl ?_
  refine w_icmp_ne C (pc' := 20) (pn := 18) d6_15 (by decide) (by decide) rfl (fun c15 => ?_) (fun c15 => ?_)
  · refine w_aloadN C (pc' := 21) d6_20 rfl rfl rfl ?_
    refine w_getfield C (pc' := 24) (tw hw 17 rfl) d6_21 F1 rfl ?_
    refine w_iloadN C (pc' := 25) d6_24 rfl rfl ?_
    refine w_iloadN C (pc' := 26) d6_25 rfl rfl ?_
    refine w_iconst C (pc' := 27) (z := 1) d6_26 rfl rfl ?_
    refine w_iadd C (pc' := 28) d6_27 rfl ?_
    refine w_iastore C (pc' := 29) d6_28 A g (nlt32 (by omega)) (i := (hm ml (x1 + 1) + d) % T.length) (by omega) (by rw [List.length_map]; exact hlt) rfl (fun h28 W28 A28 => ?_)
    rw [map_set] at A28
    refine w_iconst C (pc' := 30) (z := 1) d6_29 rfl rfl ?_
    exact w_iret C d6_30 (by simp) rfl (by decide) (by decide) ⟨⟨1, _, rfl, ⟨d, hd, H, Or.inr ⟨rfl, c15, rfl⟩⟩, E.wr W28, F1.other W28 (Or.inl hne.symm), F2.other W28 (Or.inl hne.symm), F3.other W28 (Or.inl hne.symm), A28, hne⟩, Keep.of_wr W28⟩
  · refine w_iconst C (pc' := 19) (z := 0) d6_18 rfl rfl ?_
    exact w_iret C d6_19 (by simp) rfl (by decide) (by decide) ⟨⟨0, T, rfl, ⟨d, hd, H, Or.inl ⟨rfl, c15, rfl⟩⟩, B⟩, Keep.refl _ _⟩
set_option maxRecDepth 65536 in
set_option maxHeartbeats 40000000 in
theorem c_5 (l : Launch) (Z : State) (a0 : Array Value) (hw : ∀ d ∈ tables_1, d.before a0 Z = true) (o a : Addr) (x1 sz Li ml : Int32) (T : List Int32) (n0 : Nat) (h : Heap) (hn : n0 ≤ h.size) (g : n0 ≤ a) (go : n0 ≤ o) (B : HS Z h o a sz T) (hL : Lok T.length Li ml) (hc : cnt T < T.length) (hs : 0 ≤ sz.toInt ∧ (sz.toInt + 1) * 2 ≤ T.length) :
    Ct l Z y5 prog_80_method_10_code 7 none rm3 n0 [] #[.ref o, .int x1] h (fun v h' => v = none ∧ ∃ (r : Int32) (T' : List Int32), Put T ml (x1 + 1) r T' ∧ HS Z h' o a (if r = 0 then sz else sz + 1) T') := by
  refine ct_of pn_5 hn (ef_5 o x1) fun X C => ?_
  obtain ⟨E, F1, F2, F3, A, hne⟩ := id B
  have z1 : (1 : Int32).toInt = 1 := by decide
  have z2 : (2 : Int32).toInt = 2 := by decide
  have hL4 := hL.2.2.2.1
  have hlen : (T.map Value.int).length.toInt32 = Li := by rw [List.length_map]; exact hL.1
  have hLi : Li.toInt = T.length := by
    rw [← hL.1]
    exact toInt_nat (by omega)
  have s1 := c_iadd sz 1
  have g1 := rng32 (sz + 1)
  have s2 := c_imulR (sz + 1) 2 2 (by decide)
  have g2 := rng32 ((sz + 1) * 2)
  refine w_aloadN C (pc' := 1) d5_0 rfl rfl rfl ?_
  refine w_getfield C (pc' := 4) (tw hw 25 rfl) d5_1 F3 rfl ?_
  refine w_ifnullY C (pc' := 57) d5_4 (by decide) (by decide) ?_
  refine w_aloadN C (pc' := 58) d5_57 rfl rfl rfl ?_
  refine w_getfield C (pc' := 61) (tw hw 33 rfl) d5_58 F2 rfl ?_
  refine w_iconst C (pc' := 62) (z := 1) d5_61 rfl rfl ?_
  refine w_iadd C (pc' := 63) d5_62 rfl ?_
  refine w_iconst C (pc' := 64) (z := 2) d5_63 rfl rfl ?_
  refine w_imul C (pc' := 65) d5_64 rfl ?_
  refine w_aloadN C (pc' := 66) d5_65 rfl rfl rfl ?_
  refine w_getfield C (pc' := 69) (tw hw 17 rfl) d5_66 F1 rfl ?_
  refine w_alen C (pc' := 70) d5_69 A (z := Li) hlen rfl ?_
  refine w_jcmp_le C (pc' := 226) (pn := 73) d5_70 (by decide) (by decide) rfl (fun c70 => ?_) (fun c70 => ?_)
  rotate_left
  · exact absurd c70 (by omega)
  refine w_aloadN C (pc' := 227) d5_226 rfl rfl rfl ?_
  refine w_iloadN C (pc' := 228) d5_227 rfl rfl ?_
  refine Wp.size C fun sz228 => ?_
  refine w_private C (pc' := 231) (W := 0) (tw hw 35 rfl) (tw hw 36 rfl) (tw hw 37 rfl) (tw hw 8 rfl) (tw hw 9 rfl) (tw hw 38 rfl) (by decide) pd_4 d5_228 E (c_6 X.l Z a0 hw o a x1 sz Li ml T n0 h sz228 g B hL hc) rfl rfl rfl (by decide) rfl (by decide) (by decide) (by decide) rfl (fun v228 h228 q228 => ?_)
  obtain ⟨⟨r, T', rfl, P, B'⟩, Kp⟩ := q228
  show Wp X _ _ _ 231 _ [_]
  obtain ⟨E', F1', F2', F3', A', hne'⟩ := id B'
  refine w_if_eq C (pc' := 244) (pn := 234) d5_231 (by decide) (by decide) rfl (fun c231 => ?_) (fun c231 => ?_)
  · (rw [c231] at P; exact w_vret C d5_244 (by decide) (by decide) ⟨rfl, 0, T', P, B'⟩)
  refine w_aloadN C (pc' := 235) d5_234 rfl rfl rfl ?_
  refine w_dup C (pc' := 236) d5_235 rfl rfl ?_
  refine w_getfield C (pc' := 239) (tw hw 33 rfl) d5_236 F2' rfl ?_
  refine w_iconst C (pc' := 240) (z := 1) d5_239 rfl rfl ?_
  refine w_iadd C (pc' := 241) d5_240 rfl ?_
  refine w_putfield C (pc' := 244) (tw hw 33 rfl) (Or.inl (tw hw 34 rfl)) (tw hw 8 rfl) d5_241 F2' E' go (t := .int) (by decide) rfl rfl rfl (fun h241 W241 F241 E241 => ?_)
  exact w_vret C d5_244 (by decide) (by decide) ⟨rfl, r, T', P, by rw [if_neg c231]; exact ⟨E241, F1'.other W241 (Or.inr (sSZ hw)), F241, F3'.other W241 (Or.inr (sZP hw).symm), A'.other W241 hne', hne'⟩⟩
set_option maxRecDepth 65536 in
set_option maxHeartbeats 40000000 in
theorem c_5b (l : Launch) (Z : State) (a0 : Array Value) (hw : ∀ d ∈ tables_1, d.before a0 Z = true) (o a : Addr) (x1 sz : Int32) (T : List Int32) (n0 : Nat) (h : Heap) (hn : n0 ≤ h.size) (g : n0 ≤ a) (go : n0 ≤ o) (B : HS Z h o a sz T) (hT : T.length = 16) (hs : sz.toInt = 8) :
    Ct l Z y5 prog_80_method_10_code 7 none rm4 n0 [] #[.ref o, .int x1] h (fun v h' => v = none ∧ ∃ (a' : Addr) (sz' : Int32) (T' : List Int32), T'.length = 32 ∧ HS Z h' o a' sz' T') := by
  refine ct_of pn_5 hn (ef_5 o x1) fun X C => ?_
  obtain ⟨E, F1, F2, F3, A, hne⟩ := id B
  have z1 : (1 : Int32).toInt = 1 := by decide
  have z2 : (2 : Int32).toInt = 2 := by decide
  have z16 : (16 : Int32).toInt = 16 := by decide
  have zk : (16384 : Int32).toInt = 16384 := by decide
  have hlen : (T.map Value.int).length.toInt32 = 16 := by rw [List.length_map, hT]; rfl
  have s1 := c_iadd sz 1
  have g1 := rng32 (sz + 1)
  have s2 := c_imulR (sz + 1) 2 2 (by decide)
  have g2 := rng32 ((sz + 1) * 2)
  refine w_aloadN C (pc' := 1) d5_0 rfl rfl rfl ?_
  refine w_getfield C (pc' := 4) (tw hw 25 rfl) d5_1 F3 rfl ?_
  refine w_ifnullY C (pc' := 57) d5_4 (by decide) (by decide) ?_
  refine w_aloadN C (pc' := 58) d5_57 rfl rfl rfl ?_
  refine w_getfield C (pc' := 61) (tw hw 33 rfl) d5_58 F2 rfl ?_
  refine w_iconst C (pc' := 62) (z := 1) d5_61 rfl rfl ?_
  refine w_iadd C (pc' := 63) d5_62 rfl ?_
  refine w_iconst C (pc' := 64) (z := 2) d5_63 rfl rfl ?_
  refine w_imul C (pc' := 65) d5_64 rfl ?_
  refine w_aloadN C (pc' := 66) d5_65 rfl rfl rfl ?_
  refine w_getfield C (pc' := 69) (tw hw 17 rfl) d5_66 F1 rfl ?_
  refine w_alen C (pc' := 70) d5_69 A (z := 16) hlen rfl ?_
  refine w_jcmp_le C (pc' := 226) (pn := 73) d5_70 (by decide) (by decide) rfl (fun c70 => ?_) (fun c70 => ?_)
  · exact absurd c70 (by omega)
  refine w_aloadN C (pc' := 74) d5_73 rfl rfl rfl ?_
  refine w_getfield C (pc' := 77) (tw hw 17 rfl) d5_74 F1 rfl ?_
  refine w_astoreN C (pc' := 78) (ls' := #[_, _, _, _, _, _, _]) d5_77 rfl rfl rfl ?_
  refine w_aloadN C (pc' := 79) d5_78 rfl rfl rfl ?_
  refine w_getfield C (pc' := 82) (tw hw 33 rfl) d5_79 F2 rfl ?_
  refine w_sipush C (pc' := 85) (z := 16384) d5_82 rfl rfl ?_
  refine w_jcmp_lt C (pc' := 174) (pn := 88) d5_85 (by decide) (by decide) rfl (fun c85 => ?_) (fun c85 => ?_)
  rotate_left
  · exact absurd c85 (by omega)
  refine w_aloadN C (pc' := 175) d5_174 rfl rfl rfl ?_
  refine w_aloadN C (pc' := 176) d5_175 rfl rfl rfl ?_
  refine w_alen C (pc' := 177) d5_176 A (z := 16) hlen rfl ?_
  refine w_iconst C (pc' := 178) (z := 2) d5_177 rfl rfl ?_
  refine w_imul C (pc' := 179) d5_178 rfl ?_
  refine w_newarray C (pc' := 181) (cap := 32) (tw hw 16 rfl) d5_179 (by decide) (by decide) (by decide) (by decide) (by decide) rfl (fun h179 a179 e179 g179 E179 A179 => ?_)
  have no : o ≠ a179 := Nat.ne_of_lt (by rw [e179]; exact E.lt)
  have na : a ≠ a179 := Nat.ne_of_lt (by rw [e179]; exact A.lt)
  refine w_putfield C (pc' := 184) (tw hw 17 rfl) (Or.inl (tw hw 18 rfl)) (tw hw 8 rfl) d5_181 (F1.ext E179) (E.ext E179) go (t := (.array .int)) (by decide) rfl rfl rfl (fun h181 W181 F181 E181 => ?_)
  have B0 : HS Z h181 o a179 sz (List.replicate 32 (0 : Int32)) := ⟨E181, F181, (F2.ext E179).other W181 (Or.inr (sSZ hw).symm), (F3.ext E179).other W181 (Or.inr (sSP hw).symm), A179.other W181 no.symm, no.symm⟩
  have A0 : Ars Z h181 a .int (T.map Value.int) := (A.ext E179).other W181 hne
  have J226 : ∀ (h' : Heap) (T' : List Int32) (s2 s3 s4 s5 s6 : Slot), HS Z h' o a179 sz T' → T'.length = 32 → cnt T' < 32 → Wp X 1 32 h' 226 #[.val (.ref o), .val (.int x1), s2, s3, s4, s5, s6] [] := by
    intro h' T' s2 s3 s4 s5 s6 B' hT' hc'
    refine w_aloadN C (pc' := 227) d5_226 rfl rfl rfl ?_
    refine w_iloadN C (pc' := 228) d5_227 rfl rfl ?_
    refine Wp.size C fun sz228 => ?_
    refine w_private C (pc' := 231) (W := 0) (tw hw 35 rfl) (tw hw 36 rfl) (tw hw 37 rfl) (tw hw 8 rfl) (tw hw 9 rfl) (tw hw 38 rfl) (by decide) pd_4 d5_228 B'.1 (c_6 X.l Z a0 hw o a179 x1 sz 32 31 T' n0 h' sz228 g179 B' (by rw [hT']; exact lok32) (by omega)) rfl rfl rfl (by decide) rfl (by decide) (by decide) (by decide) rfl (fun v228 h228 q228 => ?_)
    obtain ⟨⟨r, T2, rfl, P, B2⟩, Kp⟩ := q228
    show Wp X _ _ _ 231 _ [_]
    obtain ⟨E', F1', F2', F3', A', hne'⟩ := id B2
    refine w_if_eq C (pc' := 244) (pn := 234) d5_231 (by decide) (by decide) rfl (fun c231 => ?_) (fun c231 => ?_)
    · exact w_vret C d5_244 (by decide) (by decide) ⟨rfl, a179, _, T2, P.len.trans hT', B2⟩
    refine w_aloadN C (pc' := 235) d5_234 rfl rfl rfl ?_
    refine w_dup C (pc' := 236) d5_235 rfl rfl ?_
    refine w_getfield C (pc' := 239) (tw hw 33 rfl) d5_236 F2' rfl ?_
    refine w_iconst C (pc' := 240) (z := 1) d5_239 rfl rfl ?_
    refine w_iadd C (pc' := 241) d5_240 rfl ?_
    refine w_putfield C (pc' := 244) (tw hw 33 rfl) (Or.inl (tw hw 34 rfl)) (tw hw 8 rfl) d5_241 F2' E' go (t := .int) (by decide) rfl rfl rfl (fun h241 W241 F241 E241 => ?_)
    exact w_vret C d5_244 (by decide) (by decide) ⟨rfl, a179, _, T2, P.len.trans hT', E241, F1'.other W241 (Or.inr (sSZ hw)), F241, F3'.other W241 (Or.inr (sZP hw).symm), A'.other W241 hne', hne'⟩
  have J193 : ∀ (m i : Nat) (ii : Int32) (h' : Heap) (T' : List Int32) (s6 : Slot), i + m = 16 → ii.toInt = i → HS Z h' o a179 sz T' → T'.length = 32 → cnt T' ≤ i → Ars Z h' a .int (T.map Value.int) → (s6 = .unset ∨ ∃ v : Int32, s6 = .val (.int v)) →
      Wp X 1 32 h' 193 #[.val (.ref o), .val (.int x1), .val (.ref a), .val (.ref a), .val (.int 16), .val (.int ii), s6] [] := by
    intro m
    induction m with
    | zero =>
      intro i ii h' T' s6 hm hii B' hT' hc' A' h6
      refine w_iload C (pc' := 195) d5_193 rfl rfl ?_
      refine w_iload C (pc' := 197) d5_195 rfl rfl ?_
      refine w_jcmp_ge C (pc' := 226) (pn := 200) d5_197 (by decide) (by decide) rfl (fun c197 => ?_) (fun c197 => ?_)
      rotate_left
      · exact absurd c197 (by omega)
      -- STOP at 226
      exact J226 _ _ _ _ _ _ _ B' hT' (by omega)
    | succ m ih =>
      intro i ii h' T' s6 hm hii B' hT' hc' A' h6
      have cl := clamp32 (x := ii) (by omega)
      have hv := map_at (T := T) (p := i) (by omega)
      have a1 := c_iadd ii 1
      have g3 := rng32 (ii + 1)
      have st6 : ∀ b : Int32, storeLocals #[.val (.ref o), .val (.int x1), .val (.ref a), .val (.ref a), .val (.int 16), .val (.int ii), s6] 6 (.int b) = some #[.val (.ref o), .val (.int x1), .val (.ref a), .val (.ref a), .val (.int 16), .val (.int ii), .val (.int b)] := by
        intro b
        rcases h6 with rfl | ⟨v, rfl⟩ <;> rfl
      refine w_iload C (pc' := 195) d5_193 rfl rfl ?_
      refine w_iload C (pc' := 197) d5_195 rfl rfl ?_
      refine w_jcmp_ge C (pc' := 226) (pn := 200) d5_197 (by decide) (by decide) rfl (fun c197 => ?_) (fun c197 => ?_)
      · exact absurd c197 (by omega)
      refine w_aloadN C (pc' := 201) d5_200 rfl rfl rfl ?_
      refine w_iload C (pc' := 203) d5_201 rfl rfl ?_
      refine w_iaload C (pc' := 204) d5_203 A' (nlt32 (by omega)) (i := i) (by omega) hv rfl ?_
      refine w_istore C (pc' := 206) (ls' := #[_, _, _, _, _, _, _]) d5_204 (st6 _) rfl ?_
      refine w_iload C (pc' := 208) d5_206 rfl rfl ?_
      · refine w_if_eq C (pc' := 220) (pn := 211) d5_208 (by decide) (by decide) rfl (fun c208 => ?_) (fun c208 => ?_)
        · refine w_iinc C (pc' := 223) (ls' := #[_, _, _, _, _, _, _]) (z := 1) d5_220 rfl rfl rfl rfl ?_
          refine w_goto C (pc' := 193) d5_223 (by decide) (by decide) ?_
          exact ih (i + 1) _ _ T' _ (by omega) (by omega) B' hT' (by omega) A' (Or.inr ⟨_, rfl⟩)
        · refine w_aloadN C (pc' := 212) d5_211 rfl rfl rfl ?_
          refine w_iload C (pc' := 214) d5_212 rfl rfl ?_
          refine w_iconst C (pc' := 215) (z := 1) d5_214 rfl rfl ?_
          refine w_isub C (pc' := 216) d5_215 rfl ?_
          refine Wp.size C fun sz216 => ?_
          refine w_private C (pc' := 219) (W := 0) (tw hw 35 rfl) (tw hw 36 rfl) (tw hw 37 rfl) (tw hw 8 rfl) (tw hw 9 rfl) (tw hw 38 rfl) (by decide) pd_4 d5_216 B'.1 (c_6 X.l Z a0 hw o a179 _ sz 32 31 T' n0 h' sz216 g179 B' (by rw [hT']; exact lok32) (by omega)) rfl rfl rfl (by decide) rfl (by decide) (by decide) (by decide) rfl (fun v216 h216 q216 => ?_)
          obtain ⟨⟨r, T2, rfl, P, B2⟩, Kp⟩ := q216
          show Wp X _ _ _ 219 _ [_]
          have hc2 := P.cnt (by rw [Int32.sub_add_cancel]; exact c208)
          refine w_pop C (pc' := 220) d5_219 rfl rfl ?_
          refine w_iinc C (pc' := 223) (ls' := #[_, _, _, _, _, _, _]) (z := 1) d5_220 rfl rfl rfl rfl ?_
          refine w_goto C (pc' := 193) d5_223 (by decide) (by decide) ?_
          exact ih (i + 1) _ _ T2 _ (by omega) (by omega) B2 (P.len.trans hT') (by omega) (A'.keep Kp (ninS na nin0)) (Or.inr ⟨_, rfl⟩)
  refine w_aloadN C (pc' := 185) d5_184 rfl rfl rfl ?_
  refine w_astoreN C (pc' := 186) (ls' := #[_, _, _, _, _, _, _]) d5_185 rfl rfl rfl ?_
  refine w_aloadN C (pc' := 187) d5_186 rfl rfl rfl ?_
  refine w_alen C (pc' := 188) d5_187 A0 (z := 16) hlen rfl ?_
  refine w_istore C (pc' := 190) (ls' := #[_, _, _, _, _, _, _]) d5_188 rfl rfl ?_
  refine w_iconst C (pc' := 191) (z := 0) d5_190 rfl rfl ?_
  refine w_istore C (pc' := 193) (ls' := #[_, _, _, _, _, _, _]) d5_191 rfl rfl ?_
  -- STOP at 193
  exact J193 16 0 0 _ _ _ rfl (by decide) B0 (by decide) (by decide) A0 (Or.inl rfl)
set_option maxRecDepth 65536 in
set_option maxHeartbeats 40000000 in
theorem c_1 (l : Launch) (Z : State) (x0 x1 : Int32) (n0 : Nat) (h : Heap) (hn : n0 ≤ h.size) :
    Ct l Z y1 jdk_29_method_69_code 2 (some .int) rm00 n0 [] #[.int x0, .int x1] h (fun v h' => (∃ r : Int32, v = some (.int r)) ∧ h' = h) := by
  refine ct_of pn_1 hn (ef_1 x0 x1) fun X C => ?_
  refine w_iloadN C (pc' := 1) d1_0 rfl rfl ?_
  refine w_iloadN C (pc' := 2) d1_1 rfl rfl ?_
  refine w_icmp_gt C (pc' := 9) (pn := 5) d1_2 (by decide) (by decide) rfl (fun c2 => ?_) (fun c2 => ?_)
  · -- 2 taken -> 9
    refine w_iloadN C (pc' := 10) d1_9 rfl rfl ?_
    exact w_iret C d1_10 (by simp) rfl (by decide) (by decide) ⟨⟨_, rfl⟩, rfl⟩
  · -- 2 not -> 5
    refine w_iloadN C (pc' := 6) d1_5 rfl rfl ?_
    refine w_goto C (pc' := 10) d1_6 (by decide) (by decide) ?_
    exact w_iret C d1_10 (by simp) rfl (by decide) (by decide) ⟨⟨_, rfl⟩, rfl⟩
set_option maxRecDepth 65536 in
set_option maxHeartbeats 40000000 in
theorem c_2 (l : Launch) (Z : State) (a0 : Array Value) (hw : ∀ d ∈ tables_1, d.before a0 Z = true) (o : Addr) (n0 : Nat) (h : Heap) (hn : n0 ≤ h.size) (go : n0 ≤ o) (E : Exa Z h o HN) (F1 : Fld Z h o HN "slots" "[I" .null) (F2 : Fld Z h o HN "size" "I" (.int 0)) (F3 : Fld Z h o HN "pages" "[[J" .null) :
    Ct l Z y2 prog_80_method_1_code 1 none rmI n0 [] #[.ref o] h (fun v h' => v = none ∧ ∃ a, n0 ≤ a ∧ HS Z h' o a 0 (List.replicate 16 (0 : Int32))) := by
  refine ct_of pn_2 hn (ef_2 o) fun X C => ?_
  refine w_aloadN C (pc' := 1) d2_0 rfl rfl rfl ?_
  refine w_initO C (pc' := 4) (W := 0) (tw hw 13 rfl) (tw hw 14 rfl) (tw hw 15 rfl) d2_1 rfl (by decide) rfl (by decide) rfl ?_
  refine w_aloadN C (pc' := 5) d2_4 rfl rfl rfl ?_
  refine w_bipush C (pc' := 7) (z := 16) d2_5 rfl rfl ?_
  refine w_newarray C (pc' := 9) (cap := 16) (tw hw 16 rfl) d2_7 (by decide) (by decide) (by decide) (by decide) (by decide) rfl (fun h7 a7 e7 g7 E7 A7 => ?_)
  have no : o ≠ a7 := Nat.ne_of_lt (by rw [e7]; exact E.lt)
  refine w_putfield C (pc' := 12) (tw hw 17 rfl) (Or.inl (tw hw 18 rfl)) (tw hw 8 rfl) d2_9 (F1.ext E7) (E.ext E7) go (t := (.array .int)) (by decide) rfl rfl rfl (fun h9 W9 F9 E9 => ?_)
  exact w_vret C d2_12 (by decide) (by decide) ⟨rfl, a7, g7, E9, F9, (F2.ext E7).other W9 (Or.inr (sSZ hw).symm), (F3.ext E7).other W9 (Or.inr (sSP hw).symm), A7.other W9 no.symm, no.symm⟩
set_option maxRecDepth 65536 in
set_option maxHeartbeats 40000000 in
theorem c_4 (l : Launch) (Z : State) (a0 : Array Value) (hw : ∀ d ∈ tables_1, d.before a0 Z = true) (o a : Addr) (sz Li : Int32) (T : List Int32) (n0 : Nat) (h : Heap) (hn : n0 ≤ h.size) (B : HS Z h o a sz T) (hL : T.length.toInt32 = Li) :
    Ct l Z y4 prog_80_method_9_code 1 (some .long) rm00 n0 [] #[.ref o] h (fun v h' => v = some (.long (4 * Li.toInt64)) ∧ h' = h) := by
  refine ct_of pn_4 hn (ef_4 o) fun X C => ?_
  obtain ⟨E, F1, F2, F3, A, hne⟩ := B
  have hlen : (T.map Value.int).length.toInt32 = Li := by rw [List.length_map]; exact hL
  refine w_aloadN C (pc' := 1) d4_0 rfl rfl rfl ?_
  refine w_getfield C (pc' := 4) (tw hw 25 rfl) d4_1 F3 rfl ?_
  refine w_ifnullY C (pc' := 17) d4_4 (by decide) (by decide) ?_
  refine w_ldc2 C (pc' := 20) (tw hw 27 rfl) d4_17 rfl ?_
  refine w_aloadN C (pc' := 21) d4_20 rfl rfl rfl ?_
  refine w_getfield C (pc' := 24) (tw hw 17 rfl) d4_21 F1 rfl ?_
  refine w_alen C (pc' := 25) d4_24 A (z := Li) hlen rfl ?_
  refine w_i2l C (pc' := 26) d4_25 rfl ?_
  refine w_lmul C (pc' := 27) d4_26 rfl ?_
  exact w_lret C d4_27 (by decide) (by decide) ⟨rfl, rfl⟩
abbrev val (b k : Int32) : Int32 := (b ^^^ k) + 1
def pc8 (M : Nat) : Nat := (List.range 8).countP (fun j => M.testBit j)
theorem pc_same : ∀ (M : Fin 256) (k : Fin 8), M.val.testBit k.val = true → M.val ||| 2 ^ k.val = M.val := by decide +kernel
theorem pc_new : ∀ (M : Fin 256) (k : Fin 8), M.val.testBit k.val = false → pc8 (M.val ||| 2 ^ k.val) = pc8 M.val + 1 := by decide +kernel
theorem pc_lt : ∀ (M : Fin 256) (k : Fin 8), M.val ||| 2 ^ k.val < 256 := by decide +kernel
theorem pc_le : ∀ (M : Fin 256), pc8 M.val ≤ 8 ∧ (pc8 M.val = 8 ↔ M.val = 255) := by decide +kernel
theorem pc_or : ∀ (M : Fin 256) (k : Fin 8), pc8 (M.val ||| 2 ^ k.val) ≤ pc8 M.val + 1 := by decide +kernel
theorem val_ne {b k : Int32} (hb : 0 ≤ b.toInt) (hk : 0 ≤ k.toInt) : val b k ≠ 0 := by
  intro e
  have h1 := (c_xorS b k).2.2.2 hb hk
  have h2 := c_iadd (b ^^^ k) 1
  have h3 := rng32 (b ^^^ k)
  rw [show (b ^^^ k) + 1 = 0 from e, show (1 : Int32).toInt = 1 from by decide, show (0 : Int32).toInt = 0 from by decide] at h2
  omega
theorem val_inj {b k k' : Int32} (e : val b k = val b k') : k = k' := by
  have h1 : b ^^^ k = b ^^^ k' := by
    have := congrArg (fun z : Int32 => z - 1) e
    simpa only [Int32.add_sub_cancel] using this
  have h2 : b ^^^ (b ^^^ k) = b ^^^ (b ^^^ k') := by rw [h1]
  rwa [← Int32.xor_assoc, ← Int32.xor_assoc, Int32.xor_self, Int32.zero_xor, Int32.zero_xor] at h2
/-- the table holds what the mask says -/
def TM (b : Int32) (M : Nat) (T : List Int32) : Prop := T.length = 16 ∧ Well (hm 15) T ∧ cnt T = pc8 M ∧ M < 256 ∧ ∀ k : Int32, 0 ≤ k.toInt → k.toInt < 8 → (M.testBit k.toInt.toNat = true ↔ ∃ r, r < 16 ∧ tb T r = val b k)
theorem tm_step {b k sz r : Int32} {M : Nat} {T T' : List Int32} (hb : 0 ≤ b.toInt) (h0 : 0 ≤ k.toInt) (h8 : k.toInt < 8) (t : TM b M T) (hs : sz.toInt = pc8 M) (P : Put T 15 (val b k) r T') : TM b (M ||| 2 ^ k.toInt.toNat) T' ∧ (if r = 0 then sz else sz + 1).toInt = pc8 (M ||| 2 ^ k.toInt.toNat) := by
  obtain ⟨t1, t2, t3, t4, t5⟩ := t
  have hv := val_ne hb h0
  have kN : k.toInt.toNat < 8 := by omega
  have q1 := pc_same ⟨M, t4⟩ ⟨k.toInt.toNat, kN⟩
  have q2 := pc_new ⟨M, t4⟩ ⟨k.toInt.toNat, kN⟩
  have q3 := pc_lt ⟨M, t4⟩ ⟨k.toInt.toNat, kN⟩
  have q4 := (pc_le ⟨M, t4⟩).1
  dsimp only at q1 q2 q3 q4
  obtain ⟨d, hd, H, ⟨rfl, e, rfl⟩ | ⟨rfl, e, rfl⟩⟩ := P
  · have bit := (t5 k h0 h8).mpr ⟨_, by have := Nat.mod_lt (hm 15 (val b k) + d) (show 0 < T'.length by omega); omega, e⟩
    rw [q1 bit, if_pos rfl]
    exact ⟨⟨t1, t2, t3, t4, t5⟩, hs⟩
  · have hp : (hm 15 (val b k) + d) % T.length < T.length := Nat.mod_lt _ (by omega)
    have z : tb T ((hm 15 (val b k) + d) % T.length) = 0 := by
      rcases H.1 with z | z
      · exact absurd z e
      · exact z
    have no : ¬ ∃ r, r < 16 ∧ tb T r = val b k := by
      rintro ⟨r, hr, er⟩
      exact e (hit_old t2 hv H (by omega) er)
    have bit : M.testBit k.toInt.toNat = false := by
      cases hb2 : M.testBit k.toInt.toNat
      · rfl
      · exact absurd ((t5 k h0 h8).mp hb2) no
    refine ⟨⟨by rw [List.length_set]; exact t1, well_set t2 hv H hd z, by rw [cnt_set hp z hv, t3, q2 bit], q3, fun k' h0' h8' => ?_⟩, ?_⟩
    · rw [Nat.testBit_or, Nat.testBit_two_pow, Bool.or_eq_true, decide_eq_true_eq, t5 k' h0' h8']
      constructor
      · rintro (⟨r, hr, er⟩ | q)
        · refine ⟨r, hr, ?_⟩
          rw [tb_set hp, if_neg]
          · exact er
          · rintro rfl
            exact val_ne hb h0' (er.symm.trans z)
        · obtain rfl : k = k' := Int32.toInt_inj.mp (by omega)
          exact ⟨(hm 15 (val b k) + d) % T.length, by omega, by rw [tb_set hp, if_pos rfl]⟩
      · rintro ⟨r, hr, er⟩
        rw [tb_set hp] at er
        by_cases c : r = (hm 15 (val b k) + d) % T.length
        · rw [if_pos c] at er
          exact Or.inr (by rw [val_inj er])
        · rw [if_neg c] at er
          exact Or.inl ⟨r, hr, er⟩
    · rw [if_neg (by decide), q2 bit]
      have h1 := c_iadd sz 1
      have h2 := rng32 (sz + 1)
      have h3 : (1 : Int32).toInt = 1 := by decide
      omega
theorem tm_start (b : Int32) (hb : 0 ≤ b.toInt) : TM b 0 (List.replicate 16 (0 : Int32)) := by
  have z : ∀ r, tb (List.replicate 16 (0 : Int32)) r = 0 := by
    intro r
    simp only [tb, List.getElem?_replicate]
    split <;> rfl
  refine ⟨by decide, fun u hu r hr e => absurd ((z r).symm.trans e).symm hu, by decide, by decide, fun k h0 h8 => ?_⟩
  constructor
  · intro q; simp at q
  · rintro ⟨r, -, e⟩
    exact absurd ((z r).symm.trans e).symm (val_ne hb h0)
theorem shl_pow (k : Int32) (h0 : 0 ≤ k.toInt) (h8 : k.toInt < 8) : ((1 : Int32) <<< (k &&& 31)).toBitVec.toNat = 2 ^ k.toInt.toNat := by
  have nk := nat32 h0
  rw [b_ishl 1 k k.toInt.toNat (by omega)]
  have : ∀ j : Fin 8, ((1 : Int32).toBitVec <<< j.val).toNat = 2 ^ j.val := by decide +kernel
  exact this ⟨k.toInt.toNat, by omega⟩
set_option maxRecDepth 65536 in
set_option maxHeartbeats 40000000 in
theorem law_ct (l : Launch) (Z : State) (a0 : Array Value) (hw : ∀ d ∈ tables_1, d.before a0 Z = true) (x0 x1 x2 x3 : Int32) (n0 : Nat) (h : Heap) (hn : n0 ≤ h.size) :
    Ct l Z x code maxLocals ret room_1 n0 tables_1 #[.int x0, .int x1, .int x2, .int x3] h (fun v _ => v = some (.int 1)) := by
  refine ct_of pn_0 hn (ef_0 x0 x1 x2 x3) fun X C => ?_
  have J103 : ∀ (h' : Heap) (o a : Addr) (nn b k0 k1 k2 k3 k4 k5 k6 k7 h8 : Int32), 0 ≤ nn.toInt → nn.toInt ≤ 9 → 0 ≤ b.toInt → 0 ≤ k0.toInt → k0.toInt < 8 → 0 ≤ k1.toInt → k1.toInt < 8 → 0 ≤ k2.toInt → k2.toInt < 8 → 0 ≤ k3.toInt → k3.toInt < 8 → 0 ≤ k4.toInt → k4.toInt < 8 → 0 ≤ k5.toInt → k5.toInt < 8 → 0 ≤ k6.toInt → k6.toInt < 8 → 0 ≤ k7.toInt → k7.toInt < 8 → n0 ≤ o → n0 ≤ a → HS Z h' o a 0 (List.replicate 16 (0 : Int32)) → Wp X 2 20 h' 103 #[.val (.int x0), .val (.int x1), .val (.int x2), .val (.int x3), .val (.int nn), .val (.int b), .val (.int k0), .val (.int k1), .val (.int k2), .val (.int k3), .val (.int k4), .val (.int k5), .val (.int k6), .val (.int k7), .val (.int h8), .val (.ref o), .unset, .unset, .unset] [] := by
    intro h' o a nn b k0 k1 k2 k3 k4 k5 k6 k7 h8 hn0 hn9 hb0 hl0 hu0 hl1 hu1 hl2 hu2 hl3 hu3 hl4 hu4 hl5 hu5 hl6 hu6 hl7 hu7 go ga B00
    have z0 : (0 : Int32).toInt = 0 := by decide
    have z1 : (1 : Int32).toInt = 1 := by decide
    have z2 : (2 : Int32).toInt = 2 := by decide
    have z3 : (3 : Int32).toInt = 3 := by decide
    have z4 : (4 : Int32).toInt = 4 := by decide
    have z5 : (5 : Int32).toInt = 5 := by decide
    have z6 : (6 : Int32).toInt = 6 := by decide
    have z7 : (7 : Int32).toInt = 7 := by decide
    have z8 : (8 : Int32).toInt = 8 := by decide
    have z9 : (9 : Int32).toInt = 9 := by decide
    have sn : (((((((((1 : Int32) <<< (k0 &&& 31)) ||| ((1 : Int32) <<< (k1 &&& 31))) ||| ((1 : Int32) <<< (k2 &&& 31))) ||| ((1 : Int32) <<< (k3 &&& 31))) ||| ((1 : Int32) <<< (k4 &&& 31))) ||| ((1 : Int32) <<< (k5 &&& 31))) ||| ((1 : Int32) <<< (k6 &&& 31))) ||| ((1 : Int32) <<< (k7 &&& 31))).toBitVec.toNat = ((((((((0 ||| 2 ^ k0.toInt.toNat) ||| 2 ^ k1.toInt.toNat) ||| 2 ^ k2.toInt.toNat) ||| 2 ^ k3.toInt.toNat) ||| 2 ^ k4.toInt.toNat) ||| 2 ^ k5.toInt.toNat) ||| 2 ^ k6.toInt.toNat) ||| 2 ^ k7.toInt.toNat) := by
      simp only [Int32.toBitVec_or, BitVec.toNat_or, Nat.zero_or, shl_pow k0 hl0 hu0, shl_pow k1 hl1 hu1, shl_pow k2 hl2 hu2, shl_pow k3 hl3 hu3, shl_pow k4 hl4 hu4, shl_pow k5 hl5 hu5, shl_pow k6 hl6 hu6, shl_pow k7 hl7 hu7]
    have s255 : (((((((((1 : Int32) <<< (k0 &&& 31)) ||| ((1 : Int32) <<< (k1 &&& 31))) ||| ((1 : Int32) <<< (k2 &&& 31))) ||| ((1 : Int32) <<< (k3 &&& 31))) ||| ((1 : Int32) <<< (k4 &&& 31))) ||| ((1 : Int32) <<< (k5 &&& 31))) ||| ((1 : Int32) <<< (k6 &&& 31))) ||| ((1 : Int32) <<< (k7 &&& 31))) = 255 ↔ ((((((((0 ||| 2 ^ k0.toInt.toNat) ||| 2 ^ k1.toInt.toNat) ||| 2 ^ k2.toInt.toNat) ||| 2 ^ k3.toInt.toNat) ||| 2 ^ k4.toInt.toNat) ||| 2 ^ k5.toInt.toNat) ||| 2 ^ k6.toInt.toNat) ||| 2 ^ k7.toInt.toNat) = 255 := by
      rw [← sn]
      constructor
      · intro e; rw [e]; decide
      · intro e; exact Int32.toBitVec_inj.mp (BitVec.eq_of_toNat_eq e)
    have J246 : ∀ (h2 : Heap) (a sz) (T : List Int32), HS Z h2 o a sz T → ((T.length = 32 ∧ nn.toInt = 9 ∧ ((((((((0 ||| 2 ^ k0.toInt.toNat) ||| 2 ^ k1.toInt.toNat) ||| 2 ^ k2.toInt.toNat) ||| 2 ^ k3.toInt.toNat) ||| 2 ^ k4.toInt.toNat) ||| 2 ^ k5.toInt.toNat) ||| 2 ^ k6.toInt.toNat) ||| 2 ^ k7.toInt.toNat) = 255) ∨ (T.length = 16 ∧ ¬ (nn.toInt = 9 ∧ ((((((((0 ||| 2 ^ k0.toInt.toNat) ||| 2 ^ k1.toInt.toNat) ||| 2 ^ k2.toInt.toNat) ||| 2 ^ k3.toInt.toNat) ||| 2 ^ k4.toInt.toNat) ||| 2 ^ k5.toInt.toNat) ||| 2 ^ k6.toInt.toNat) ||| 2 ^ k7.toInt.toNat) = 255))) → Wp X 3 52 h2 246 #[.val (.int x0), .val (.int x1), .val (.int x2), .val (.int x3), .val (.int nn), .val (.int b), .val (.int k0), .val (.int k1), .val (.int k2), .val (.int k3), .val (.int k4), .val (.int k5), .val (.int k6), .val (.int k7), .val (.int h8), .val (.ref o), .unset, .unset, .unset] [] := by
      intro h2 a sz T B hT
      have J311 : ∀ (s : Int32) (e : Int64), e = (if nn.toInt = 9 ∧ ((((((((0 ||| 2 ^ k0.toInt.toNat) ||| 2 ^ k1.toInt.toNat) ||| 2 ^ k2.toInt.toNat) ||| 2 ^ k3.toInt.toNat) ||| 2 ^ k4.toInt.toNat) ||| 2 ^ k5.toInt.toNat) ||| 2 ^ k6.toInt.toNat) ||| 2 ^ k7.toInt.toNat) = 255 then 128 else 64) → Wp X 3 52 h2 311 #[.val (.int x0), .val (.int x1), .val (.int x2), .val (.int x3), .val (.int nn), .val (.int b), .val (.int k0), .val (.int k1), .val (.int k2), .val (.int k3), .val (.int k4), .val (.int k5), .val (.int k6), .val (.int k7), .val (.int h8), .val (.ref o), .val (.int s), .unset, .unset] [.long e] := by
        intro s e he
        rcases hT with ⟨t1, t2⟩ | ⟨t1, t2⟩
        · rw [if_pos t2] at he
          subst he
          refine w_lstore C (pc' := 313) (ls' := #[_, _, _, _, _, _, _, _, _, _, _, _, _, _, _, _, _, _, _]) at_311 rfl rfl ?_
          refine w_aload C (pc' := 315) at_313 rfl rfl rfl ?_
          refine Wp.size C fun sz315 => ?_
          refine w_virtual C (pc' := 318) (W := 0) (tw hw 20 rfl) (tw hw 21 rfl) (tw hw 23 rfl) (tw hw 22 rfl) (tw hw 9 rfl) (tw hw 24 rfl) (by decide) pd_2 at_315 B.1 (c_4 X.l Z a0 hw o a sz 32 T n0 h2 sz315 B (by rw [t1]; rfl)) rfl rfl rfl (by decide) rfl (by decide) (by decide) (by decide) rfl (fun v315 h315 q315 => ?_)
          obtain ⟨rfl, rfl⟩ := q315
          show Wp X _ _ _ 318 _ [_]
          refine w_lload C (pc' := 320) at_318 rfl rfl ?_
          refine w_lc_ne C (pm := 321) (pc' := 328) (pn := 324) at_320 rfl at_321 (by decide) (by decide) rfl (fun c320 => ?_) (fun c320 => ?_)
          · exact (c320 (by decide)).elim
          refine w_iconst C (pc' := 325) (z := 1) at_324 rfl rfl ?_
          refine w_goto C (pc' := 329) at_325 (by decide) (by decide) ?_
          exact w_iret C at_329 (by simp) rfl (by decide) (by decide) rfl
        · rw [if_neg t2] at he
          subst he
          refine w_lstore C (pc' := 313) (ls' := #[_, _, _, _, _, _, _, _, _, _, _, _, _, _, _, _, _, _, _]) at_311 rfl rfl ?_
          refine w_aload C (pc' := 315) at_313 rfl rfl rfl ?_
          refine Wp.size C fun sz315 => ?_
          refine w_virtual C (pc' := 318) (W := 0) (tw hw 20 rfl) (tw hw 21 rfl) (tw hw 23 rfl) (tw hw 22 rfl) (tw hw 9 rfl) (tw hw 24 rfl) (by decide) pd_2 at_315 B.1 (c_4 X.l Z a0 hw o a sz 16 T n0 h2 sz315 B (by rw [t1]; rfl)) rfl rfl rfl (by decide) rfl (by decide) (by decide) (by decide) rfl (fun v315 h315 q315 => ?_)
          obtain ⟨rfl, rfl⟩ := q315
          show Wp X _ _ _ 318 _ [_]
          refine w_lload C (pc' := 320) at_318 rfl rfl ?_
          refine w_lc_ne C (pm := 321) (pc' := 328) (pn := 324) at_320 rfl at_321 (by decide) (by decide) rfl (fun c320 => ?_) (fun c320 => ?_)
          · exact (c320 (by decide)).elim
          refine w_iconst C (pc' := 325) (z := 1) at_324 rfl rfl ?_
          refine w_goto C (pc' := 329) at_325 (by decide) (by decide) ?_
          exact w_iret C at_329 (by simp) rfl (by decide) (by decide) rfl
      refine w_iconst C (pc' := 247) (z := 1) at_246 rfl rfl ?_
      refine w_iload C (pc' := 249) at_247 rfl rfl ?_
      refine w_ishl C (pc' := 250) at_249 rfl ?_
      refine w_iconst C (pc' := 251) (z := 1) at_250 rfl rfl ?_
      refine w_iload C (pc' := 253) at_251 rfl rfl ?_
      refine w_ishl C (pc' := 254) at_253 rfl ?_
      refine w_ior C (pc' := 255) at_254 rfl ?_
      refine w_iconst C (pc' := 256) (z := 1) at_255 rfl rfl ?_
      refine w_iload C (pc' := 258) at_256 rfl rfl ?_
      refine w_ishl C (pc' := 259) at_258 rfl ?_
      refine w_ior C (pc' := 260) at_259 rfl ?_
      refine w_iconst C (pc' := 261) (z := 1) at_260 rfl rfl ?_
      refine w_iload C (pc' := 263) at_261 rfl rfl ?_
      refine w_ishl C (pc' := 264) at_263 rfl ?_
      refine w_ior C (pc' := 265) at_264 rfl ?_
      refine w_iconst C (pc' := 266) (z := 1) at_265 rfl rfl ?_
      refine w_iload C (pc' := 268) at_266 rfl rfl ?_
      refine w_ishl C (pc' := 269) at_268 rfl ?_
      refine w_ior C (pc' := 270) at_269 rfl ?_
      refine w_iconst C (pc' := 271) (z := 1) at_270 rfl rfl ?_
      refine w_iload C (pc' := 273) at_271 rfl rfl ?_
      refine w_ishl C (pc' := 274) at_273 rfl ?_
      refine w_ior C (pc' := 275) at_274 rfl ?_
      refine w_iconst C (pc' := 276) (z := 1) at_275 rfl rfl ?_
      refine w_iload C (pc' := 278) at_276 rfl rfl ?_
      refine w_ishl C (pc' := 279) at_278 rfl ?_
      refine w_ior C (pc' := 280) at_279 rfl ?_
      refine w_iconst C (pc' := 281) (z := 1) at_280 rfl rfl ?_
      refine w_iload C (pc' := 283) at_281 rfl rfl ?_
      refine w_ishl C (pc' := 284) at_283 rfl ?_
      refine w_ior C (pc' := 285) at_284 rfl ?_
      refine w_istore C (pc' := 287) (ls' := #[_, _, _, _, _, _, _, _, _, _, _, _, _, _, _, _, _, _, _]) at_285 rfl rfl ?_
      refine w_iload C (pc' := 289) at_287 rfl rfl ?_
      refine w_bipush C (pc' := 291) (z := 9) at_289 rfl rfl ?_
      refine w_jcmp_ne C (pc' := 308) (pn := 294) at_291 (by decide) (by decide) rfl (fun c291 => ?_) (fun c291 => ?_)
      · refine w_ldc2 C (pc' := 311) (tw hw 19 rfl) at_308 rfl ?_
        -- STOP at 311
        exact J311 _ _ (by rw [if_neg (fun z => absurd z.1 (by omega))])
      · refine w_iload C (pc' := 296) at_294 rfl rfl ?_
        refine w_sipush C (pc' := 299) (z := 255) at_296 rfl rfl ?_
        refine w_icmp_ne C (pc' := 308) (pn := 302) at_299 (by decide) (by decide) rfl (fun c299 => ?_) (fun c299 => ?_)
        · refine w_ldc2 C (pc' := 311) (tw hw 19 rfl) at_308 rfl ?_
          -- STOP at 311
          exact J311 _ _ (by rw [if_neg (fun z => c299 (s255.mpr z.2))])
        · refine w_ldc2 C (pc' := 305) (tw hw 47 rfl) at_302 rfl ?_
          refine w_goto C (pc' := 311) at_305 (by decide) (by decide) ?_
          -- STOP at 311
          exact J311 _ _ (by rw [if_pos ⟨by omega, s255.mp c299⟩])
    have J232 : ∀ (h2 : Heap) (a : Addr) (sz : Int32) (T : List Int32) (M : Nat), n0 ≤ a → HS Z h2 o a sz T → TM b M T → sz.toInt = pc8 M → (8 ≤ nn.toInt → M = ((((((((0 ||| 2 ^ k0.toInt.toNat) ||| 2 ^ k1.toInt.toNat) ||| 2 ^ k2.toInt.toNat) ||| 2 ^ k3.toInt.toNat) ||| 2 ^ k4.toInt.toNat) ||| 2 ^ k5.toInt.toNat) ||| 2 ^ k6.toInt.toNat) ||| 2 ^ k7.toInt.toNat)) → Wp X 2 20 h2 232 #[.val (.int x0), .val (.int x1), .val (.int x2), .val (.int x3), .val (.int nn), .val (.int b), .val (.int k0), .val (.int k1), .val (.int k2), .val (.int k3), .val (.int k4), .val (.int k5), .val (.int k6), .val (.int k7), .val (.int h8), .val (.ref o), .unset, .unset, .unset] [] := by
      intro h2 a sz T M ga B t hs hM
      have le8 := pc_le ⟨M, t.2.2.2.1⟩
      dsimp only at le8
      refine w_iload C (pc' := 234) at_232 rfl rfl ?_
      refine w_bipush C (pc' := 236) (z := 8) at_234 rfl rfl ?_
      refine w_jcmp_le C (pc' := 246) (pn := 239) at_236 (by decide) (by decide) rfl (fun c236 => ?_) (fun c236 => ?_)
      · exact Wp.more (J246 _ _ _ _ B (Or.inr ⟨t.1, fun z => absurd z.1 (by omega)⟩)) (by decide) (by decide)
      · have hM := hM (by omega)
        by_cases c8 : pc8 M = 8
        · refine w_aload C (pc' := 241) at_239 rfl rfl rfl ?_
          refine w_iload C (pc' := 243) at_241 rfl rfl ?_
          refine Wp.size C fun sz243 => ?_
          refine w_virtual C (pc' := 246) (W := 0) (tw hw 28 rfl) (tw hw 29 rfl) (tw hw 31 rfl) (tw hw 30 rfl) (tw hw 9 rfl) (tw hw 32 rfl) (by decide) pd_3 at_243 B.1 (c_5b X.l Z a0 hw o a h8 sz T n0 h2 sz243 ga go B t.1 (by omega)) rfl rfl rfl (by decide) rfl (by decide) (by decide) (by decide) rfl (fun v243 h243 q243 => ?_)
          obtain ⟨rfl, a', sz', T', t1, B'⟩ := q243
          show Wp X _ _ _ 246 _ []
          -- STOP at 246
          exact J246 _ _ _ _ B' (Or.inl ⟨t1, by omega, hM ▸ le8.2.mp c8⟩)
        · refine w_aload C (pc' := 241) at_239 rfl rfl rfl ?_
          refine w_iload C (pc' := 243) at_241 rfl rfl ?_
          refine Wp.size C fun sz243 => ?_
          refine w_virtual C (pc' := 246) (W := 0) (tw hw 28 rfl) (tw hw 29 rfl) (tw hw 31 rfl) (tw hw 30 rfl) (tw hw 9 rfl) (tw hw 32 rfl) (by decide) pd_3 at_243 B.1 (c_5 X.l Z a0 hw o a h8 sz 16 15 T n0 h2 sz243 ga go B (by rw [t.1]; exact lok16) (by have := t.1; have := t.2.2.1; omega) (by have := t.1; omega)) rfl rfl rfl (by decide) rfl (by decide) (by decide) (by decide) rfl (fun v243 h243 q243 => ?_)
          obtain ⟨rfl, r, T', P, B'⟩ := q243
          show Wp X _ _ _ 246 _ []
          -- STOP at 246
          exact Wp.more (J246 _ _ _ _ B' (Or.inr ⟨P.len.trans t.1, fun z => c8 (le8.2.mpr (hM ▸ z.2))⟩)) (by decide) (by decide)
    have J215 : ∀ (h2 : Heap) (a : Addr) (sz : Int32) (T : List Int32) (M : Nat), n0 ≤ a → HS Z h2 o a sz T → TM b M T → sz.toInt = pc8 M → pc8 M ≤ 7 → (7 ≤ nn.toInt → M = (((((((0 ||| 2 ^ k0.toInt.toNat) ||| 2 ^ k1.toInt.toNat) ||| 2 ^ k2.toInt.toNat) ||| 2 ^ k3.toInt.toNat) ||| 2 ^ k4.toInt.toNat) ||| 2 ^ k5.toInt.toNat) ||| 2 ^ k6.toInt.toNat)) → Wp X 2 20 h2 215 #[.val (.int x0), .val (.int x1), .val (.int x2), .val (.int x3), .val (.int nn), .val (.int b), .val (.int k0), .val (.int k1), .val (.int k2), .val (.int k3), .val (.int k4), .val (.int k5), .val (.int k6), .val (.int k7), .val (.int h8), .val (.ref o), .unset, .unset, .unset] [] := by
      intro h2 a sz T M ga B t hs hc hM
      have le8 := pc_or ⟨M, t.2.2.2.1⟩ ⟨k7.toInt.toNat, by omega⟩
      dsimp only at le8
      refine w_iload C (pc' := 217) at_215 rfl rfl ?_
      refine w_bipush C (pc' := 219) (z := 7) at_217 rfl rfl ?_
      refine w_jcmp_le C (pc' := 232) (pn := 222) at_219 (by decide) (by decide) rfl (fun c219 => ?_) (fun c219 => ?_)
      · exact J232 _ _ _ _ _ ga B t hs (fun z => absurd z (by omega))
      · refine w_aload C (pc' := 224) at_222 rfl rfl rfl ?_
        refine w_iload C (pc' := 226) at_224 rfl rfl ?_
        refine w_iload C (pc' := 228) at_226 rfl rfl ?_
        refine w_ixor C (pc' := 229) at_228 rfl ?_
        refine Wp.size C fun sz229 => ?_
        refine w_virtual C (pc' := 232) (W := 0) (tw hw 28 rfl) (tw hw 29 rfl) (tw hw 31 rfl) (tw hw 30 rfl) (tw hw 9 rfl) (tw hw 32 rfl) (by decide) pd_3 at_229 B.1 (c_5 X.l Z a0 hw o a (b ^^^ k7) sz 16 15 T n0 h2 sz229 ga go B (by rw [t.1]; exact lok16) (by have := t.1; have := t.2.2.1; omega) (by have := t.1; omega)) rfl rfl rfl (by decide) rfl (by decide) (by decide) (by decide) rfl (fun v229 h229 q229 => ?_)
        obtain ⟨rfl, r, T', P, B'⟩ := q229
        show Wp X _ _ _ 232 _ []
        obtain ⟨t', hs'⟩ := tm_step hb0 hl7 hu7 t hs P
        exact J232 _ _ _ _ _ ga B' t' hs' (fun _ => by rw [hM (by omega)])
    have J198 : ∀ (h2 : Heap) (a : Addr) (sz : Int32) (T : List Int32) (M : Nat), n0 ≤ a → HS Z h2 o a sz T → TM b M T → sz.toInt = pc8 M → pc8 M ≤ 6 → (6 ≤ nn.toInt → M = ((((((0 ||| 2 ^ k0.toInt.toNat) ||| 2 ^ k1.toInt.toNat) ||| 2 ^ k2.toInt.toNat) ||| 2 ^ k3.toInt.toNat) ||| 2 ^ k4.toInt.toNat) ||| 2 ^ k5.toInt.toNat)) → Wp X 2 20 h2 198 #[.val (.int x0), .val (.int x1), .val (.int x2), .val (.int x3), .val (.int nn), .val (.int b), .val (.int k0), .val (.int k1), .val (.int k2), .val (.int k3), .val (.int k4), .val (.int k5), .val (.int k6), .val (.int k7), .val (.int h8), .val (.ref o), .unset, .unset, .unset] [] := by
      intro h2 a sz T M ga B t hs hc hM
      have le8 := pc_or ⟨M, t.2.2.2.1⟩ ⟨k6.toInt.toNat, by omega⟩
      dsimp only at le8
      refine w_iload C (pc' := 200) at_198 rfl rfl ?_
      refine w_bipush C (pc' := 202) (z := 6) at_200 rfl rfl ?_
      refine w_jcmp_le C (pc' := 215) (pn := 205) at_202 (by decide) (by decide) rfl (fun c202 => ?_) (fun c202 => ?_)
      · exact J215 _ _ _ _ _ ga B t hs (by omega) (fun z => absurd z (by omega))
      · refine w_aload C (pc' := 207) at_205 rfl rfl rfl ?_
        refine w_iload C (pc' := 209) at_207 rfl rfl ?_
        refine w_iload C (pc' := 211) at_209 rfl rfl ?_
        refine w_ixor C (pc' := 212) at_211 rfl ?_
        refine Wp.size C fun sz212 => ?_
        refine w_virtual C (pc' := 215) (W := 0) (tw hw 28 rfl) (tw hw 29 rfl) (tw hw 31 rfl) (tw hw 30 rfl) (tw hw 9 rfl) (tw hw 32 rfl) (by decide) pd_3 at_212 B.1 (c_5 X.l Z a0 hw o a (b ^^^ k6) sz 16 15 T n0 h2 sz212 ga go B (by rw [t.1]; exact lok16) (by have := t.1; have := t.2.2.1; omega) (by have := t.1; omega)) rfl rfl rfl (by decide) rfl (by decide) (by decide) (by decide) rfl (fun v212 h212 q212 => ?_)
        obtain ⟨rfl, r, T', P, B'⟩ := q212
        show Wp X _ _ _ 215 _ []
        obtain ⟨t', hs'⟩ := tm_step hb0 hl6 hu6 t hs P
        exact J215 _ _ _ _ _ ga B' t' hs' (by omega) (fun _ => by rw [hM (by omega)])
    have J182 : ∀ (h2 : Heap) (a : Addr) (sz : Int32) (T : List Int32) (M : Nat), n0 ≤ a → HS Z h2 o a sz T → TM b M T → sz.toInt = pc8 M → pc8 M ≤ 5 → (5 ≤ nn.toInt → M = (((((0 ||| 2 ^ k0.toInt.toNat) ||| 2 ^ k1.toInt.toNat) ||| 2 ^ k2.toInt.toNat) ||| 2 ^ k3.toInt.toNat) ||| 2 ^ k4.toInt.toNat)) → Wp X 2 20 h2 182 #[.val (.int x0), .val (.int x1), .val (.int x2), .val (.int x3), .val (.int nn), .val (.int b), .val (.int k0), .val (.int k1), .val (.int k2), .val (.int k3), .val (.int k4), .val (.int k5), .val (.int k6), .val (.int k7), .val (.int h8), .val (.ref o), .unset, .unset, .unset] [] := by
      intro h2 a sz T M ga B t hs hc hM
      have le8 := pc_or ⟨M, t.2.2.2.1⟩ ⟨k5.toInt.toNat, by omega⟩
      dsimp only at le8
      refine w_iload C (pc' := 184) at_182 rfl rfl ?_
      refine w_iconst C (pc' := 185) (z := 5) at_184 rfl rfl ?_
      refine w_jcmp_le C (pc' := 198) (pn := 188) at_185 (by decide) (by decide) rfl (fun c185 => ?_) (fun c185 => ?_)
      · exact J198 _ _ _ _ _ ga B t hs (by omega) (fun z => absurd z (by omega))
      · refine w_aload C (pc' := 190) at_188 rfl rfl rfl ?_
        refine w_iload C (pc' := 192) at_190 rfl rfl ?_
        refine w_iload C (pc' := 194) at_192 rfl rfl ?_
        refine w_ixor C (pc' := 195) at_194 rfl ?_
        refine Wp.size C fun sz195 => ?_
        refine w_virtual C (pc' := 198) (W := 0) (tw hw 28 rfl) (tw hw 29 rfl) (tw hw 31 rfl) (tw hw 30 rfl) (tw hw 9 rfl) (tw hw 32 rfl) (by decide) pd_3 at_195 B.1 (c_5 X.l Z a0 hw o a (b ^^^ k5) sz 16 15 T n0 h2 sz195 ga go B (by rw [t.1]; exact lok16) (by have := t.1; have := t.2.2.1; omega) (by have := t.1; omega)) rfl rfl rfl (by decide) rfl (by decide) (by decide) (by decide) rfl (fun v195 h195 q195 => ?_)
        obtain ⟨rfl, r, T', P, B'⟩ := q195
        show Wp X _ _ _ 198 _ []
        obtain ⟨t', hs'⟩ := tm_step hb0 hl5 hu5 t hs P
        exact J198 _ _ _ _ _ ga B' t' hs' (by omega) (fun _ => by rw [hM (by omega)])
    have J166 : ∀ (h2 : Heap) (a : Addr) (sz : Int32) (T : List Int32) (M : Nat), n0 ≤ a → HS Z h2 o a sz T → TM b M T → sz.toInt = pc8 M → pc8 M ≤ 4 → (4 ≤ nn.toInt → M = ((((0 ||| 2 ^ k0.toInt.toNat) ||| 2 ^ k1.toInt.toNat) ||| 2 ^ k2.toInt.toNat) ||| 2 ^ k3.toInt.toNat)) → Wp X 2 20 h2 166 #[.val (.int x0), .val (.int x1), .val (.int x2), .val (.int x3), .val (.int nn), .val (.int b), .val (.int k0), .val (.int k1), .val (.int k2), .val (.int k3), .val (.int k4), .val (.int k5), .val (.int k6), .val (.int k7), .val (.int h8), .val (.ref o), .unset, .unset, .unset] [] := by
      intro h2 a sz T M ga B t hs hc hM
      have le8 := pc_or ⟨M, t.2.2.2.1⟩ ⟨k4.toInt.toNat, by omega⟩
      dsimp only at le8
      refine w_iload C (pc' := 168) at_166 rfl rfl ?_
      refine w_iconst C (pc' := 169) (z := 4) at_168 rfl rfl ?_
      refine w_jcmp_le C (pc' := 182) (pn := 172) at_169 (by decide) (by decide) rfl (fun c169 => ?_) (fun c169 => ?_)
      · exact J182 _ _ _ _ _ ga B t hs (by omega) (fun z => absurd z (by omega))
      · refine w_aload C (pc' := 174) at_172 rfl rfl rfl ?_
        refine w_iload C (pc' := 176) at_174 rfl rfl ?_
        refine w_iload C (pc' := 178) at_176 rfl rfl ?_
        refine w_ixor C (pc' := 179) at_178 rfl ?_
        refine Wp.size C fun sz179 => ?_
        refine w_virtual C (pc' := 182) (W := 0) (tw hw 28 rfl) (tw hw 29 rfl) (tw hw 31 rfl) (tw hw 30 rfl) (tw hw 9 rfl) (tw hw 32 rfl) (by decide) pd_3 at_179 B.1 (c_5 X.l Z a0 hw o a (b ^^^ k4) sz 16 15 T n0 h2 sz179 ga go B (by rw [t.1]; exact lok16) (by have := t.1; have := t.2.2.1; omega) (by have := t.1; omega)) rfl rfl rfl (by decide) rfl (by decide) (by decide) (by decide) rfl (fun v179 h179 q179 => ?_)
        obtain ⟨rfl, r, T', P, B'⟩ := q179
        show Wp X _ _ _ 182 _ []
        obtain ⟨t', hs'⟩ := tm_step hb0 hl4 hu4 t hs P
        exact J182 _ _ _ _ _ ga B' t' hs' (by omega) (fun _ => by rw [hM (by omega)])
    have J150 : ∀ (h2 : Heap) (a : Addr) (sz : Int32) (T : List Int32) (M : Nat), n0 ≤ a → HS Z h2 o a sz T → TM b M T → sz.toInt = pc8 M → pc8 M ≤ 3 → (3 ≤ nn.toInt → M = (((0 ||| 2 ^ k0.toInt.toNat) ||| 2 ^ k1.toInt.toNat) ||| 2 ^ k2.toInt.toNat)) → Wp X 2 20 h2 150 #[.val (.int x0), .val (.int x1), .val (.int x2), .val (.int x3), .val (.int nn), .val (.int b), .val (.int k0), .val (.int k1), .val (.int k2), .val (.int k3), .val (.int k4), .val (.int k5), .val (.int k6), .val (.int k7), .val (.int h8), .val (.ref o), .unset, .unset, .unset] [] := by
      intro h2 a sz T M ga B t hs hc hM
      have le8 := pc_or ⟨M, t.2.2.2.1⟩ ⟨k3.toInt.toNat, by omega⟩
      dsimp only at le8
      refine w_iload C (pc' := 152) at_150 rfl rfl ?_
      refine w_iconst C (pc' := 153) (z := 3) at_152 rfl rfl ?_
      refine w_jcmp_le C (pc' := 166) (pn := 156) at_153 (by decide) (by decide) rfl (fun c153 => ?_) (fun c153 => ?_)
      · exact J166 _ _ _ _ _ ga B t hs (by omega) (fun z => absurd z (by omega))
      · refine w_aload C (pc' := 158) at_156 rfl rfl rfl ?_
        refine w_iload C (pc' := 160) at_158 rfl rfl ?_
        refine w_iload C (pc' := 162) at_160 rfl rfl ?_
        refine w_ixor C (pc' := 163) at_162 rfl ?_
        refine Wp.size C fun sz163 => ?_
        refine w_virtual C (pc' := 166) (W := 0) (tw hw 28 rfl) (tw hw 29 rfl) (tw hw 31 rfl) (tw hw 30 rfl) (tw hw 9 rfl) (tw hw 32 rfl) (by decide) pd_3 at_163 B.1 (c_5 X.l Z a0 hw o a (b ^^^ k3) sz 16 15 T n0 h2 sz163 ga go B (by rw [t.1]; exact lok16) (by have := t.1; have := t.2.2.1; omega) (by have := t.1; omega)) rfl rfl rfl (by decide) rfl (by decide) (by decide) (by decide) rfl (fun v163 h163 q163 => ?_)
        obtain ⟨rfl, r, T', P, B'⟩ := q163
        show Wp X _ _ _ 166 _ []
        obtain ⟨t', hs'⟩ := tm_step hb0 hl3 hu3 t hs P
        exact J166 _ _ _ _ _ ga B' t' hs' (by omega) (fun _ => by rw [hM (by omega)])
    have J134 : ∀ (h2 : Heap) (a : Addr) (sz : Int32) (T : List Int32) (M : Nat), n0 ≤ a → HS Z h2 o a sz T → TM b M T → sz.toInt = pc8 M → pc8 M ≤ 2 → (2 ≤ nn.toInt → M = ((0 ||| 2 ^ k0.toInt.toNat) ||| 2 ^ k1.toInt.toNat)) → Wp X 2 20 h2 134 #[.val (.int x0), .val (.int x1), .val (.int x2), .val (.int x3), .val (.int nn), .val (.int b), .val (.int k0), .val (.int k1), .val (.int k2), .val (.int k3), .val (.int k4), .val (.int k5), .val (.int k6), .val (.int k7), .val (.int h8), .val (.ref o), .unset, .unset, .unset] [] := by
      intro h2 a sz T M ga B t hs hc hM
      have le8 := pc_or ⟨M, t.2.2.2.1⟩ ⟨k2.toInt.toNat, by omega⟩
      dsimp only at le8
      refine w_iload C (pc' := 136) at_134 rfl rfl ?_
      refine w_iconst C (pc' := 137) (z := 2) at_136 rfl rfl ?_
      refine w_jcmp_le C (pc' := 150) (pn := 140) at_137 (by decide) (by decide) rfl (fun c137 => ?_) (fun c137 => ?_)
      · exact J150 _ _ _ _ _ ga B t hs (by omega) (fun z => absurd z (by omega))
      · refine w_aload C (pc' := 142) at_140 rfl rfl rfl ?_
        refine w_iload C (pc' := 144) at_142 rfl rfl ?_
        refine w_iload C (pc' := 146) at_144 rfl rfl ?_
        refine w_ixor C (pc' := 147) at_146 rfl ?_
        refine Wp.size C fun sz147 => ?_
        refine w_virtual C (pc' := 150) (W := 0) (tw hw 28 rfl) (tw hw 29 rfl) (tw hw 31 rfl) (tw hw 30 rfl) (tw hw 9 rfl) (tw hw 32 rfl) (by decide) pd_3 at_147 B.1 (c_5 X.l Z a0 hw o a (b ^^^ k2) sz 16 15 T n0 h2 sz147 ga go B (by rw [t.1]; exact lok16) (by have := t.1; have := t.2.2.1; omega) (by have := t.1; omega)) rfl rfl rfl (by decide) rfl (by decide) (by decide) (by decide) rfl (fun v147 h147 q147 => ?_)
        obtain ⟨rfl, r, T', P, B'⟩ := q147
        show Wp X _ _ _ 150 _ []
        obtain ⟨t', hs'⟩ := tm_step hb0 hl2 hu2 t hs P
        exact J150 _ _ _ _ _ ga B' t' hs' (by omega) (fun _ => by rw [hM (by omega)])
    have J118 : ∀ (h2 : Heap) (a : Addr) (sz : Int32) (T : List Int32) (M : Nat), n0 ≤ a → HS Z h2 o a sz T → TM b M T → sz.toInt = pc8 M → pc8 M ≤ 1 → (1 ≤ nn.toInt → M = (0 ||| 2 ^ k0.toInt.toNat)) → Wp X 2 20 h2 118 #[.val (.int x0), .val (.int x1), .val (.int x2), .val (.int x3), .val (.int nn), .val (.int b), .val (.int k0), .val (.int k1), .val (.int k2), .val (.int k3), .val (.int k4), .val (.int k5), .val (.int k6), .val (.int k7), .val (.int h8), .val (.ref o), .unset, .unset, .unset] [] := by
      intro h2 a sz T M ga B t hs hc hM
      have le8 := pc_or ⟨M, t.2.2.2.1⟩ ⟨k1.toInt.toNat, by omega⟩
      dsimp only at le8
      refine w_iload C (pc' := 120) at_118 rfl rfl ?_
      refine w_iconst C (pc' := 121) (z := 1) at_120 rfl rfl ?_
      refine w_jcmp_le C (pc' := 134) (pn := 124) at_121 (by decide) (by decide) rfl (fun c121 => ?_) (fun c121 => ?_)
      · exact J134 _ _ _ _ _ ga B t hs (by omega) (fun z => absurd z (by omega))
      · refine w_aload C (pc' := 126) at_124 rfl rfl rfl ?_
        refine w_iload C (pc' := 128) at_126 rfl rfl ?_
        refine w_iload C (pc' := 130) at_128 rfl rfl ?_
        refine w_ixor C (pc' := 131) at_130 rfl ?_
        refine Wp.size C fun sz131 => ?_
        refine w_virtual C (pc' := 134) (W := 0) (tw hw 28 rfl) (tw hw 29 rfl) (tw hw 31 rfl) (tw hw 30 rfl) (tw hw 9 rfl) (tw hw 32 rfl) (by decide) pd_3 at_131 B.1 (c_5 X.l Z a0 hw o a (b ^^^ k1) sz 16 15 T n0 h2 sz131 ga go B (by rw [t.1]; exact lok16) (by have := t.1; have := t.2.2.1; omega) (by have := t.1; omega)) rfl rfl rfl (by decide) rfl (by decide) (by decide) (by decide) rfl (fun v131 h131 q131 => ?_)
        obtain ⟨rfl, r, T', P, B'⟩ := q131
        show Wp X _ _ _ 134 _ []
        obtain ⟨t', hs'⟩ := tm_step hb0 hl1 hu1 t hs P
        exact J134 _ _ _ _ _ ga B' t' hs' (by omega) (fun _ => by rw [hM (by omega)])
    have J103' : ∀ (h2 : Heap) (a : Addr) (sz : Int32) (T : List Int32) (M : Nat), n0 ≤ a → HS Z h2 o a sz T → TM b M T → sz.toInt = pc8 M → pc8 M ≤ 0 → (0 ≤ nn.toInt → M = 0) → Wp X 2 20 h2 103 #[.val (.int x0), .val (.int x1), .val (.int x2), .val (.int x3), .val (.int nn), .val (.int b), .val (.int k0), .val (.int k1), .val (.int k2), .val (.int k3), .val (.int k4), .val (.int k5), .val (.int k6), .val (.int k7), .val (.int h8), .val (.ref o), .unset, .unset, .unset] [] := by
      intro h2 a sz T M ga B t hs hc hM
      have le8 := pc_or ⟨M, t.2.2.2.1⟩ ⟨k0.toInt.toNat, by omega⟩
      dsimp only at le8
      refine w_iload C (pc' := 105) at_103 rfl rfl ?_
      refine w_jf_le C (pc' := 118) (pn := 108) at_105 (by decide) (by decide) rfl (fun c105 => ?_) (fun c105 => ?_)
      · exact J118 _ _ _ _ _ ga B t hs (by omega) (fun z => absurd z (by omega))
      · refine w_aload C (pc' := 110) at_108 rfl rfl rfl ?_
        refine w_iload C (pc' := 112) at_110 rfl rfl ?_
        refine w_iload C (pc' := 114) at_112 rfl rfl ?_
        refine w_ixor C (pc' := 115) at_114 rfl ?_
        refine Wp.size C fun sz115 => ?_
        refine w_virtual C (pc' := 118) (W := 0) (tw hw 28 rfl) (tw hw 29 rfl) (tw hw 31 rfl) (tw hw 30 rfl) (tw hw 9 rfl) (tw hw 32 rfl) (by decide) pd_3 at_115 B.1 (c_5 X.l Z a0 hw o a (b ^^^ k0) sz 16 15 T n0 h2 sz115 ga go B (by rw [t.1]; exact lok16) (by have := t.1; have := t.2.2.1; omega) (by have := t.1; omega)) rfl rfl rfl (by decide) rfl (by decide) (by decide) (by decide) rfl (fun v115 h115 q115 => ?_)
        obtain ⟨rfl, r, T', P, B'⟩ := q115
        show Wp X _ _ _ 118 _ []
        obtain ⟨t', hs'⟩ := tm_step hb0 hl0 hu0 t hs P
        exact J118 _ _ _ _ _ ga B' t' hs' (by omega) (fun _ => by rw [hM (by omega)])
    exact J103' _ _ _ _ _ ga B00 (tm_start b hb0) (by decide) (by decide) (fun _ => rfl)
  have m0 := c_mask x0 15 4 (by decide) (by decide)
  have r0 := (c_irem (x0 &&& 15) 10 10 (by decide)).1 (by omega)
  have mb := (c_and x2 2147483632 (by decide)).1
  have m1 := c_mask x1 7 3 (by decide) (by decide)
  have m2 := c_mask ((x1.toUInt32 >>> ((3 : Int32) &&& 31).toUInt32).toInt32) 7 3 (by decide) (by decide)
  have m3 := c_mask ((x1.toUInt32 >>> ((6 : Int32) &&& 31).toUInt32).toInt32) 7 3 (by decide) (by decide)
  have m4 := c_mask ((x1.toUInt32 >>> ((9 : Int32) &&& 31).toUInt32).toInt32) 7 3 (by decide) (by decide)
  have m5 := c_mask ((x1.toUInt32 >>> ((12 : Int32) &&& 31).toUInt32).toInt32) 7 3 (by decide) (by decide)
  have m6 := c_mask ((x1.toUInt32 >>> ((15 : Int32) &&& 31).toUInt32).toInt32) 7 3 (by decide) (by decide)
  have m7 := c_mask ((x1.toUInt32 >>> ((18 : Int32) &&& 31).toUInt32).toInt32) 7 3 (by decide) (by decide)
  have m8 := c_mask ((x1.toUInt32 >>> ((21 : Int32) &&& 31).toUInt32).toInt32) 7 3 (by decide) (by decide)
  refine w_iloadN C (pc' := 1) at_0 rfl rfl ?_
  refine w_bipush C (pc' := 3) (z := 15) at_1 rfl rfl ?_
  refine w_iand C (pc' := 4) at_3 rfl ?_
  refine w_bipush C (pc' := 6) (z := 10) at_4 rfl rfl ?_
  refine w_irem C (pc' := 7) at_6 (by decide) rfl ?_
  refine w_istore C (pc' := 9) (ls' := #[_, _, _, _, _, _, _, _, _, _, _, _, _, _, _, _, _, _, _]) at_7 rfl rfl ?_
  refine w_iloadN C (pc' := 10) at_9 rfl rfl ?_
  refine w_ldc C (pc' := 12) (tw hw 0 rfl) at_10 rfl ?_
  refine w_iand C (pc' := 13) at_12 rfl ?_
  refine w_istore C (pc' := 15) (ls' := #[_, _, _, _, _, _, _, _, _, _, _, _, _, _, _, _, _, _, _]) at_13 rfl rfl ?_
  refine w_iloadN C (pc' := 16) at_15 rfl rfl ?_
  refine w_bipush C (pc' := 18) (z := 7) at_16 rfl rfl ?_
  refine w_iand C (pc' := 19) at_18 rfl ?_
  refine w_istore C (pc' := 21) (ls' := #[_, _, _, _, _, _, _, _, _, _, _, _, _, _, _, _, _, _, _]) at_19 rfl rfl ?_
  refine w_iloadN C (pc' := 22) at_21 rfl rfl ?_
  refine w_iconst C (pc' := 23) (z := 3) at_22 rfl rfl ?_
  refine w_iushr C (pc' := 24) at_23 rfl ?_
  refine w_bipush C (pc' := 26) (z := 7) at_24 rfl rfl ?_
  refine w_iand C (pc' := 27) at_26 rfl ?_
  refine w_istore C (pc' := 29) (ls' := #[_, _, _, _, _, _, _, _, _, _, _, _, _, _, _, _, _, _, _]) at_27 rfl rfl ?_
  refine w_iloadN C (pc' := 30) at_29 rfl rfl ?_
  refine w_bipush C (pc' := 32) (z := 6) at_30 rfl rfl ?_
  refine w_iushr C (pc' := 33) at_32 rfl ?_
  refine w_bipush C (pc' := 35) (z := 7) at_33 rfl rfl ?_
  refine w_iand C (pc' := 36) at_35 rfl ?_
  refine w_istore C (pc' := 38) (ls' := #[_, _, _, _, _, _, _, _, _, _, _, _, _, _, _, _, _, _, _]) at_36 rfl rfl ?_
  refine w_iloadN C (pc' := 39) at_38 rfl rfl ?_
  refine w_bipush C (pc' := 41) (z := 9) at_39 rfl rfl ?_
  refine w_iushr C (pc' := 42) at_41 rfl ?_
  refine w_bipush C (pc' := 44) (z := 7) at_42 rfl rfl ?_
  refine w_iand C (pc' := 45) at_44 rfl ?_
  refine w_istore C (pc' := 47) (ls' := #[_, _, _, _, _, _, _, _, _, _, _, _, _, _, _, _, _, _, _]) at_45 rfl rfl ?_
  refine w_iloadN C (pc' := 48) at_47 rfl rfl ?_
  refine w_bipush C (pc' := 50) (z := 12) at_48 rfl rfl ?_
  refine w_iushr C (pc' := 51) at_50 rfl ?_
  refine w_bipush C (pc' := 53) (z := 7) at_51 rfl rfl ?_
  refine w_iand C (pc' := 54) at_53 rfl ?_
  refine w_istore C (pc' := 56) (ls' := #[_, _, _, _, _, _, _, _, _, _, _, _, _, _, _, _, _, _, _]) at_54 rfl rfl ?_
  refine w_iloadN C (pc' := 57) at_56 rfl rfl ?_
  refine w_bipush C (pc' := 59) (z := 15) at_57 rfl rfl ?_
  refine w_iushr C (pc' := 60) at_59 rfl ?_
  refine w_bipush C (pc' := 62) (z := 7) at_60 rfl rfl ?_
  refine w_iand C (pc' := 63) at_62 rfl ?_
  refine w_istore C (pc' := 65) (ls' := #[_, _, _, _, _, _, _, _, _, _, _, _, _, _, _, _, _, _, _]) at_63 rfl rfl ?_
  refine w_iloadN C (pc' := 66) at_65 rfl rfl ?_
  refine w_bipush C (pc' := 68) (z := 18) at_66 rfl rfl ?_
  refine w_iushr C (pc' := 69) at_68 rfl ?_
  refine w_bipush C (pc' := 71) (z := 7) at_69 rfl rfl ?_
  refine w_iand C (pc' := 72) at_71 rfl ?_
  refine w_istore C (pc' := 74) (ls' := #[_, _, _, _, _, _, _, _, _, _, _, _, _, _, _, _, _, _, _]) at_72 rfl rfl ?_
  refine w_iloadN C (pc' := 75) at_74 rfl rfl ?_
  refine w_bipush C (pc' := 77) (z := 21) at_75 rfl rfl ?_
  refine w_iushr C (pc' := 78) at_77 rfl ?_
  refine w_bipush C (pc' := 80) (z := 7) at_78 rfl rfl ?_
  refine w_iand C (pc' := 81) at_80 rfl ?_
  refine w_istore C (pc' := 83) (ls' := #[_, _, _, _, _, _, _, _, _, _, _, _, _, _, _, _, _, _, _]) at_81 rfl rfl ?_
  refine w_iloadN C (pc' := 84) at_83 rfl rfl ?_
  refine w_ldc C (pc' := 86) (tw hw 1 rfl) at_84 rfl ?_
  refine w_iand C (pc' := 87) at_86 rfl ?_
  refine w_ldc C (pc' := 89) (tw hw 2 rfl) at_87 rfl ?_
  refine Wp.size C fun sz89 => ?_
  refine w_static C (pc' := 92) (W := 0) (tw hw 3 rfl) (tw hw 4 rfl) (tw hw 5 rfl) (tw hw 6 rfl) (by decide) pd_0 at_89 (c_1 X.l Z _ _ n0 h sz89) rfl rfl rfl (by decide) rfl (by decide) (by decide) (by decide) rfl (fun v89 h89 q89 => ?_)
  obtain ⟨⟨h8, rfl⟩, rfl⟩ := q89
  show Wp X _ _ _ 92 _ [_]
  refine w_istore C (pc' := 94) (ls' := #[_, _, _, _, _, _, _, _, _, _, _, _, _, _, _, _, _, _, _]) at_92 rfl rfl ?_
  refine w_new C (pc' := 97) (tw hw 7 rfl) (tw hw 8 rfl) (tw hw 9 rfl) at_94 (by decide) (by decide) rfl (fun h94 a94 e94 g94 E94 K94 D94 => ?_)  -- com/example/signpost/signpost/store/HandleSet
  refine w_dup C (pc' := 98) at_97 rfl rfl ?_
  refine Wp.size C fun sz98 => ?_
  refine w_special C (pc' := 101) (W := 1) (tw hw 10 rfl) (tw hw 11 rfl) (tw hw 9 rfl) (tw hw 12 rfl) rfl (by decide) pd_1 at_98 (c_2 X.l Z a0 hw a94 n0 h94 sz98 g94 K94 (D94 (laS hw) (ty := .array .int) (by decide)) (D94 (laZ hw) (ty := .int) (by decide)) (D94 (laP hw) (ty := .array (.array .long)) (by decide))) rfl rfl rfl (by decide) rfl (by decide) (by decide) (by decide) rfl (fun v98 h98 q98 => ?_)
  obtain ⟨rfl, a, ga, B⟩ := q98
  show Wp X _ _ _ 101 _ [_]
  refine w_astore C (pc' := 103) (ls' := #[_, _, _, _, _, _, _, _, _, _, _, _, _, _, _, _, _, _, _]) at_101 rfl rfl rfl ?_
  -- STOP at 103
  exact J103 _ _ _ _ _ _ _ _ _ _ _ _ _ _ (by omega) (by omega) mb (by omega) (by omega) (by omega) (by omega) (by omega) (by omega) (by omega) (by omega) (by omega) (by omega) (by omega) (by omega) (by omega) (by omega) (by omega) (by omega) g94 ga B
set_option maxRecDepth 65536 in
set_option maxHeartbeats 40000000 in
theorem comes_1 {Post : Tables → Env → Array Value → State → Outcome → State → Prop} (hpost : ∀ tb e args s v u, (limb_1_1.after args s (.returned v) u = true ∧ limb_1_2.after args s (.returned v) u = true ∧ True) → FrameEnd s (.returned v) u (Jvm.fieldLocs frame_1_writes args s ++ Jvm.arrayLocs frame_1_arrays args s ++ Jvm.staticLocs frame_1_statics s) 16 128 → Post tb e args s (.returned v) u) :
    ArmFor flags0 classFile x code maxLocals ret World_1 tables_1 room_1 Calls_1 rest_1 Pre_1 Post := by
  intro l hfl _ _ p e ha hc hk s m args below hf hA hF happ hP
  obtain ⟨hcalls, hrest, hpre⟩ := hP
  obtain ⟨-, -, -, hnamed, -, -, -, hat⟩ := (Spec.applies_iff hf).mp happ
  obtain ⟨hg, hnar⟩ := and_e (Cond.before_iff.mp (show (Jvm.Cond.and given_1 narrow_1).before args s = true from hpre))
  obtain ⟨gc, g0⟩ := and_e hg
  obtain ⟨k0, g1⟩ := and_e g0
  obtain ⟨k1, g2⟩ := and_e g1
  obtain ⟨k2, g3⟩ := and_e g2
  obtain ⟨w0, w1, w2, w3, rfl⟩ : ∃ w0 w1 w2 w3 : Value, args = #[w0, w1, w2, w3] := by
    have hs : args.size = 4 := by simpa [Cond.value, given_1] using gc
    obtain ⟨L⟩ := args
    match L, hs with
    | [w0, w1, w2, w3], _ => exact ⟨w0, w1, w2, w3, rfl⟩
  have hw := fun d (hd : d ∈ tables_1) => atoms_spec (ws := Jvm.Cond.code x code maxLocals ret :: tables_1) hat d (List.mem_cons_of_mem _ hd)
  have hfit : Fit s := fun {y c} hc i hi => by
    obtain ⟨ha, rfl⟩ := Array.getElem?_eq_some_iff.mp hc
    have q := List.all_eq_true.mp ((Array.all_eq_true_iff_forall_mem.mp hF) _ (Array.getElem_mem ha)) i (List.mem_range.mpr hi)
    simpa [Array.getElem?_eq_getElem hi] using q
  obtain ⟨i0, ei0⟩ := is_v k0
  obtain rfl : w0 = (.int i0) := Option.some.inj ei0
  obtain ⟨i1, ei1⟩ := is_v k1
  obtain rfl : w1 = (.int i1) := Option.some.inj ei1
  obtain ⟨i2, ei2⟩ := is_v k2
  obtain rfl : w2 = (.int i2) := Option.some.inj ei2
  obtain ⟨i3, ei3⟩ := is_v g3
  obtain rfl : w3 = (.int i3) := Option.some.inj ei3
  obtain ⟨n, o, h1, h2, h3, _, L, rfl, ⟨⟨rfl, -⟩, N⟩, hq⟩ := law_ct l s _ hw i0 i1 i2 i3 s.heap.size s.heap (Nat.le_refl _) p e ha hc hk s m _ below hf ((Spec.applies_iff_loose hf).mp happ).1 ⟨rfl, State.Warmed39.refl s, rfl⟩ trivial
  refine ⟨n, _, h1, h2, h3, hpost _ _ _ _ _ _ ⟨Cond.after_iff.mpr rfl, Cond.after_iff.mpr (eq_i res_at (Term.int_eval (1)) rfl), trivial⟩ ⟨hq.1, hq.2.1, (hq.2.2.sift fun y hy => Or.inr (N y hy)).mono (by decide) (by decide)⟩⟩
theorem main_1_1 : Claimed_1_1 := comes_1 fun _ _ _ _ _ _ h hF => ⟨h.1, hF⟩
theorem main_1_2 : Claimed_1_2 := comes_1 fun _ _ _ _ _ _ h hF => ⟨h.2.1, hF⟩
end Jvm.Pilot.@@N@@
namespace Jvm.Pilot.@@N@@
open Jvm Jvm.ClassFile Sem Op Lib Jvm.Free Jvm.Stand Jvm.Pilot.@@N@@.Jvm.D
/-! MADE BY PROGRAM (witnessworld.py) out of the Statement's table words and the real class files: 11 classes; the members and pool entries that the words name. The judged class is class 1, her method 1. -/
namespace start1
open Jvm.ClassFile
def u (s : String) : CpInfo := .utf8 (stringToUtf16 s)
/-- a pool by its gaps: so many unusable entries, then the entry; so many at the end -/
def gap : Nat → List CpInfo → List CpInfo
  | 0, r => r
  | n + 1, r => .unusable :: gap n r
def poolList (es : List (Nat × CpInfo)) (last : Nat) : List CpInfo := es.foldr (fun e r => gap e.1 (e.2 :: r)) (gap last [])
def pool (es : List (Nat × CpInfo)) (last : Nat) : Array CpInfo := ⟨poolList es last⟩
def fileOf (pool : Array CpInfo) (this : Nat) (attrs : Array Attribute := #[]) (ms : Array MethodInfo := #[]) (fl : Nat := 33) (sup : Nat := 0) (ifs : Array Nat := #[]) (fds : Array FieldInfo := #[]) : ClassFile where
  minorVersion := 0
  majorVersion := 65
  constantPool := pool
  accessFlags := fl
  thisClass := this
  superClass := sup
  interfaces := ifs
  fields := fds
  methods := ms
  attributes := attrs
def plain (name : String) (sup : Option ClassId) : Class where
  name := name
  kind := .ordinary
  loader := none
  accessFlags := 33
  super := sup
  interfaces := #[]
  cf := none
  fields := #[]
  methods := #[]
  instanceTypes := #[]
  staticTypes := #[]
  resolved := #[]
  callSites := []
  init := .initialized
  statics := none
  mirror := none

def pool0 : Array CpInfo := pool [(5, u "<init>"), (0, u "()V"), (1, .class_ 10), (1, u "java/lang/Object")] 113

def k0c0 : Code := { maxStack := 0, maxLocals := 1, code := object_method_1_code, exceptionTable := #[], attributes := #[] }
def k0m0 : Method := { name := "<init>", desc := "()V", sig := { parameters := [], returnType := none }, accessFlags := 1, code := some k0c0 }
/-- java/lang/Object -/
def k0 : Class := { plain "java/lang/Object" none with
  accessFlags := 33
  interfaces := #[]
  cf := some (fileOf pool0 8 #[] #[{ accessFlags := 1, nameIndex := 5, descriptorIndex := 6, attributes := #[] }] 33 0 #[] #[])
  fields := #[]
  methods := #[k0m0]
  instanceTypes := #[]
  staticTypes := #[]
  resolved := Array.replicate 124 none
  statics := none }

def pool1 : Array CpInfo := pool [(2, .class_ 4), (0, .nameAndType 5 6), (0, u "java/lang/Object"), (0, u "<init>"), (0, u "()V"), (0, .integer 2147483632), (0, .integer 2147483647), (0, .integer 2147483646), (0, .methodref 11 12), (0, .class_ 13), (0, .nameAndType 14 15), (0, u "java/lang/Math"), (0, u "min"), (0, u "(II)I"), (0, .class_ 17), (0, u "com/example/signpost/signpost/store/HandleSet"), (0, .methodref 16 3), (0, .methodref 16 20), (0, .nameAndType 21 22), (0, u "add"), (0, u "(I)V"), (0, .long 128), (1, .long 64), (1, .methodref 16 28), (0, .nameAndType 29 30), (0, u "bytes"), (0, u "()J"), (0, .class_ 32), (0, u "com/example/signpost/signpost/store/HandleSetBytesPinLaw"), (2, u "law"), (0, u "(IIII)Z")] 3

def k1m0 : Method := { name := "<init>", desc := "()V", sig := { parameters := [], returnType := none }, accessFlags := 1, code := none }
def k1c1 : Code := { maxStack := 4, maxLocals := 19, code := code, exceptionTable := #[], attributes := #[] }
def k1m1 : Method := { name := "law", desc := "(IIII)Z", sig := { parameters := [.int, .int, .int, .int], returnType := some .boolean }, accessFlags := 9, code := some k1c1 }
/-- com/example/signpost/signpost/store/HandleSetBytesPinLaw -/
def k1 : Class := { plain "com/example/signpost/signpost/store/HandleSetBytesPinLaw" (some 0) with
  accessFlags := 49
  interfaces := #[]
  cf := some (fileOf pool1 31 #[] #[{ accessFlags := 1, nameIndex := 5, descriptorIndex := 6, attributes := #[] }, { accessFlags := 9, nameIndex := 35, descriptorIndex := 36, attributes := #[] }] 49 2 #[] #[])
  fields := #[]
  methods := #[k1m0, k1m1]
  instanceTypes := #[]
  staticTypes := #[]
  resolved := Array.replicate 40 none
  statics := none }

def pool2 : Array CpInfo := pool [(1, .class_ 2), (0, u "java/lang/Math"), (1, .class_ 6), (1, u "java/lang/Object"), (0, u "<init>"), (0, u "()V"), (89, .class_ 100), (1, u "java/lang/Math$RandomNumberGeneratorHolder"), (71, u "negativeZeroFloatBits"), (0, u "J"), (2, u "negativeZeroDoubleBits"), (24, u "min"), (43, u "$assertionsDisabled"), (0, u "Z"), (88, u "(II)I"), (2, u "twoToTheDoubleScaleDown"), (0, u "D"), (4, u "twoToTheDoubleScaleUp"), (9, u "E"), (3, u "PI"), (2, u "TAU"), (2, u "DEGREES_TO_RADIANS"), (0, u "RADIANS_TO_DEGREES")] 94

def k2m0 : Method := { name := "<init>", desc := "()V", sig := { parameters := [], returnType := none }, accessFlags := 2, code := none }
def k2c1 : Code := { maxStack := 2, maxLocals := 2, code := jdk_29_method_69_code, exceptionTable := #[], attributes := #[] }
def k2m1 : Method := { name := "min", desc := "(II)I", sig := { parameters := [.int, .int], returnType := some .int }, accessFlags := 9, code := some k2c1 }
/-- java/lang/Math -/
def k2 : Class := { plain "java/lang/Math" (some 0) with
  accessFlags := 49
  interfaces := #[]
  cf := some (fileOf pool2 1 #[.nestMembers #[98]] #[{ accessFlags := 2, nameIndex := 7, descriptorIndex := 8, attributes := #[] }, { accessFlags := 9, nameIndex := 201, descriptorIndex := 335, attributes := #[] }] 49 4 #[] #[{ accessFlags := 25, nameIndex := 354, descriptorIndex := 339, attributes := #[] }, { accessFlags := 25, nameIndex := 358, descriptorIndex := 339, attributes := #[] }, { accessFlags := 25, nameIndex := 361, descriptorIndex := 339, attributes := #[] }, { accessFlags := 26, nameIndex := 364, descriptorIndex := 339, attributes := #[] }, { accessFlags := 26, nameIndex := 365, descriptorIndex := 339, attributes := #[] }, { accessFlags := 26, nameIndex := 172, descriptorIndex := 173, attributes := #[] }, { accessFlags := 26, nameIndex := 176, descriptorIndex := 173, attributes := #[] }, { accessFlags := 8, nameIndex := 344, descriptorIndex := 339, attributes := #[] }, { accessFlags := 8, nameIndex := 338, descriptorIndex := 339, attributes := #[] }, { accessFlags := 4120, nameIndex := 245, descriptorIndex := 246, attributes := #[] }])
  fields := #[{ name := "E", type := .double, accessFlags := 25, slot := 0, constantValue := 0 }, { name := "PI", type := .double, accessFlags := 25, slot := 1, constantValue := 0 }, { name := "TAU", type := .double, accessFlags := 25, slot := 2, constantValue := 0 }, { name := "DEGREES_TO_RADIANS", type := .double, accessFlags := 26, slot := 3, constantValue := 0 }, { name := "RADIANS_TO_DEGREES", type := .double, accessFlags := 26, slot := 4, constantValue := 0 }, { name := "negativeZeroFloatBits", type := .long, accessFlags := 26, slot := 5, constantValue := 0 }, { name := "negativeZeroDoubleBits", type := .long, accessFlags := 26, slot := 6, constantValue := 0 }, { name := "twoToTheDoubleScaleUp", type := .double, accessFlags := 8, slot := 7, constantValue := 0 }, { name := "twoToTheDoubleScaleDown", type := .double, accessFlags := 8, slot := 8, constantValue := 0 }, { name := "$assertionsDisabled", type := .boolean, accessFlags := 4120, slot := 9, constantValue := 0 }]
  methods := #[k2m0, k2m1]
  instanceTypes := #[]
  staticTypes := #[.double, .double, .double, .double, .double, .long, .long, .double, .double, .boolean]
  resolved := Array.replicate 460 none
  statics := none }

def pool3 : Array CpInfo := pool [(1, .class_ 2), (0, u "com/example/signpost/signpost/store/Candidates"), (0, .class_ 4), (0, u "java/lang/Object")] 9

/-- com/example/signpost/signpost/store/Candidates -/
def k3 : Class := { plain "com/example/signpost/signpost/store/Candidates" (some 0) with
  accessFlags := 1537
  interfaces := #[]
  cf := some (fileOf pool3 1 #[] #[] 1537 3 #[] #[])
  fields := #[]
  methods := #[]
  instanceTypes := #[]
  staticTypes := #[]
  resolved := Array.replicate 14 none
  statics := none }

def pool4 : Array CpInfo := pool [(1, .class_ 2), (0, u "com/example/signpost/signpost/store/HandleSet"), (4, .methodref 8 9), (0, .class_ 10), (0, .nameAndType 11 12), (0, u "java/lang/Object"), (0, u "<init>"), (0, u "()V"), (0, .fieldref 1 14), (0, .nameAndType 15 16), (0, u "slots"), (0, u "[I"), (12, u "(I)I"), (1, .class_ 33), (1, u "com/example/signpost/signpost/store/Candidates"), (0, u "size"), (3, u "(I)V"), (65, u "add"), (23, .fieldref 1 129), (0, .nameAndType 34 130), (0, u "I"), (0, .fieldref 1 132), (0, .nameAndType 133 134), (0, u "pages"), (0, u "[[J"), (8, .long 8192), (1, .fieldref 1 146), (0, .nameAndType 147 130), (0, u "pagesMade"), (0, .long 4), (8, .long 8), (3, .methodref 1 162), (0, .nameAndType 104 38), (0, .methodref 1 164), (0, .nameAndType 165 166), (0, u "put"), (0, u "(I)Z"), (4, .methodref 1 172), (0, .nameAndType 173 29), (0, u "slot"), (18, .methodref 1 193), (0, .nameAndType 194 29), (0, u "spread"), (0, .integer 2654435769), (4, u "MOST_HASHED"), (2, u "PAGE_SHIFT"), (1, u "PAGE_HANDLES"), (1, u "PAGE_WORDS"), (1, u "MOST_PAGES"), (0, u "FREE"), (1, u "LEAST_SLOTS"), (9, u "bytes"), (0, u "()J")] 47

def k4c0 : Code := { maxStack := 2, maxLocals := 1, code := prog_80_method_1_code, exceptionTable := #[], attributes := #[] }
def k4m0 : Method := { name := "<init>", desc := "()V", sig := { parameters := [], returnType := none }, accessFlags := 1, code := some k4c0 }
def k4c1 : Code := { maxStack := 4, maxLocals := 1, code := prog_80_method_9_code, exceptionTable := #[], attributes := #[] }
def k4m1 : Method := { name := "bytes", desc := "()J", sig := { parameters := [], returnType := some .long }, accessFlags := 1, code := some k4c1 }
def k4c2 : Code := { maxStack := 6, maxLocals := 7, code := prog_80_method_10_code, exceptionTable := #[], attributes := #[] }
def k4m2 : Method := { name := "add", desc := "(I)V", sig := { parameters := [.int], returnType := none }, accessFlags := 1, code := some k4c2 }
def k4c3 : Code := { maxStack := 4, maxLocals := 3, code := prog_80_method_19_code, exceptionTable := #[], attributes := #[] }
def k4m3 : Method := { name := "put", desc := "(I)Z", sig := { parameters := [.int], returnType := some .boolean }, accessFlags := 2, code := some k4c3 }
def k4c4 : Code := { maxStack := 2, maxLocals := 5, code := prog_80_method_20_code, exceptionTable := #[], attributes := #[] }
def k4m4 : Method := { name := "slot", desc := "(I)I", sig := { parameters := [.int], returnType := some .int }, accessFlags := 2, code := some k4c4 }
def k4c5 : Code := { maxStack := 3, maxLocals := 2, code := prog_80_method_21_code, exceptionTable := #[], attributes := #[] }
def k4m5 : Method := { name := "spread", desc := "(I)I", sig := { parameters := [.int], returnType := some .int }, accessFlags := 10, code := some k4c5 }
/-- com/example/signpost/signpost/store/HandleSet -/
def k4 : Class := { plain "com/example/signpost/signpost/store/HandleSet" (some 0) with
  accessFlags := 49
  interfaces := #[3]
  cf := some (fileOf pool4 1 #[] #[{ accessFlags := 1, nameIndex := 11, descriptorIndex := 12, attributes := #[] }, { accessFlags := 1, nameIndex := 222, descriptorIndex := 223, attributes := #[] }, { accessFlags := 1, nameIndex := 104, descriptorIndex := 38, attributes := #[] }, { accessFlags := 2, nameIndex := 165, descriptorIndex := 166, attributes := #[] }, { accessFlags := 2, nameIndex := 173, descriptorIndex := 29, attributes := #[] }, { accessFlags := 10, nameIndex := 194, descriptorIndex := 29, attributes := #[] }] 49 8 #[31] #[{ accessFlags := 26, nameIndex := 200, descriptorIndex := 130, attributes := #[] }, { accessFlags := 26, nameIndex := 203, descriptorIndex := 130, attributes := #[] }, { accessFlags := 26, nameIndex := 205, descriptorIndex := 130, attributes := #[] }, { accessFlags := 26, nameIndex := 207, descriptorIndex := 130, attributes := #[] }, { accessFlags := 26, nameIndex := 209, descriptorIndex := 130, attributes := #[] }, { accessFlags := 26, nameIndex := 210, descriptorIndex := 130, attributes := #[] }, { accessFlags := 26, nameIndex := 212, descriptorIndex := 130, attributes := #[] }, { accessFlags := 2, nameIndex := 15, descriptorIndex := 16, attributes := #[] }, { accessFlags := 2, nameIndex := 133, descriptorIndex := 134, attributes := #[] }, { accessFlags := 2, nameIndex := 147, descriptorIndex := 130, attributes := #[] }, { accessFlags := 2, nameIndex := 34, descriptorIndex := 130, attributes := #[] }])
  fields := #[{ name := "MOST_HASHED", type := .int, accessFlags := 26, slot := 0, constantValue := 0 }, { name := "PAGE_SHIFT", type := .int, accessFlags := 26, slot := 1, constantValue := 0 }, { name := "PAGE_HANDLES", type := .int, accessFlags := 26, slot := 2, constantValue := 0 }, { name := "PAGE_WORDS", type := .int, accessFlags := 26, slot := 3, constantValue := 0 }, { name := "MOST_PAGES", type := .int, accessFlags := 26, slot := 4, constantValue := 0 }, { name := "FREE", type := .int, accessFlags := 26, slot := 5, constantValue := 0 }, { name := "LEAST_SLOTS", type := .int, accessFlags := 26, slot := 6, constantValue := 0 }, { name := "slots", type := (.array .int), accessFlags := 2, slot := 0, constantValue := 0 }, { name := "pages", type := (.array (.array .long)), accessFlags := 2, slot := 1, constantValue := 0 }, { name := "pagesMade", type := .int, accessFlags := 2, slot := 2, constantValue := 0 }, { name := "size", type := .int, accessFlags := 2, slot := 3, constantValue := 0 }]
  methods := #[k4m0, k4m1, k4m2, k4m3, k4m4, k4m5]
  instanceTypes := #[(.array .int), (.array (.array .long)), .int, .int]
  staticTypes := #[.int, .int, .int, .int, .int, .int, .int]
  resolved := Array.replicate 271 none
  statics := none }

def pool5 : Array CpInfo := pool [(1, u "java/lang/Cloneable"), (0, .class_ 1), (0, u "java/lang/Object"), (0, .class_ 3)] 3

/-- java/lang/Cloneable -/
def k5 : Class := { plain "java/lang/Cloneable" (some 0) with
  accessFlags := 1537
  interfaces := #[]
  cf := some (fileOf pool5 2 #[] #[] 1537 4 #[] #[])
  fields := #[]
  methods := #[]
  instanceTypes := #[]
  staticTypes := #[]
  resolved := Array.replicate 8 none
  statics := none }

def pool6 : Array CpInfo := pool [(1, u "java/io/Serializable"), (0, .class_ 1), (0, u "java/lang/Object"), (0, .class_ 3)] 3

/-- java/io/Serializable -/
def k6 : Class := { plain "java/io/Serializable" (some 0) with
  accessFlags := 1537
  interfaces := #[]
  cf := some (fileOf pool6 2 #[] #[] 1537 4 #[] #[])
  fields := #[]
  methods := #[]
  instanceTypes := #[]
  staticTypes := #[]
  resolved := Array.replicate 8 none
  statics := none }

/-- the primitive byte -/
def k7 : Class := { plain "byte" none with kind := .primitive 'B', accessFlags := 0x411 }
/-- [B -/
def k8 : Class := { plain "[B" (some 0) with kind := .array 7 .byte, interfaces := #[5, 6], accessFlags := 1041 }

/-- the primitive int -/
def k9 : Class := { plain "int" none with kind := .primitive 'I', accessFlags := 0x411 }
/-- [I -/
def k10 : Class := { plain "[I" (some 0) with kind := .array 9 .int, interfaces := #[5, 6], accessFlags := 1041 }

def heap : Heap := #[]
def classes : Array Class := #[k0, k1, k2, k3, k4, k5, k6, k7, k8, k9, k10]
def interned : List (Array UInt16 × Addr) := []
def slotsUsed : Nat := 0
def theMethod : MethodId := ⟨1, 1⟩
def args0 : Array Value := #[.int 9, .int 5, .int 7, .int 8]
def aboutOver (below : List Frame) : State where
  vm := { classes := classes, interned := interned.toArray }
  heap := heap
  slotsUsed := slotsUsed
  threads := #[{ frames := .invoking theMethod args0 :: below }]
def below0 : List Frame := [.native { method := ⟨0, 0⟩, args := #[] }]
def about1 : State := aboutOver below0
def p0 : Program := .bare "" "" ""
def e0 : Env := launch0.env 0 0 0
theorem w_frames : about1.frames = Frame.invoking theMethod args0 :: below0 := rfl
set_option maxRecDepth 65536 in
theorem w_args : argsFit about1.vm theMethod args0 = true := by decide +kernel
set_option maxRecDepth 65536 in
theorem w_heap : heapFits about1 = true := by decide +kernel
set_option maxRecDepth 65536 in
theorem w_runnable : about1.curStatus? = some .runnable := by decide +kernel
set_option maxRecDepth 65536 in
theorem w_alone : about1.alone = true := by decide +kernel
set_option maxRecDepth 65536 in
theorem w_named : about1.methodNamed? x = some theMethod := by decide +kernel
set_option maxRecDepth 65536 in
theorem w_hears : about1.hears theMethod below0 = true := by decide +kernel
set_option maxRecDepth 65536 in
theorem w_ripe : about1.ripe theMethod args0 below0 = true := by decide +kernel
theorem w_running : about1.status = .running := rfl
set_option maxRecDepth 65536 in
theorem w_room : about1.hasRoom e0.platform room_1 = true :=
  launch0.hasRoom_least _ room_1 (by decide +kernel) (by decide +kernel) (by decide +kernel) (by decide +kernel) (by decide +kernel) (by decide +kernel)
theorem allAtoms_all (ts : List Jvm.Cond) (a : Array Jvm.Value) (st : Jvm.State) : (allAtoms ts).before a st = ts.all (fun c => c.before a st) := by
  induction ts with
  | nil => rfl
  | cons c t ih =>
    show (Jvm.Cond.and c (allAtoms t)).before a st = _
    rw [Jvm.Cond.before_and, ih, List.all_cons]
def words1 : List Jvm.Cond := Jvm.Cond.code x code maxLocals ret :: tables_1
/-- a 'code' word, met by the world's own term for the bytes: nothing is compared byte by byte -/
theorem code_word {y : MethodName} {bytes : ByteArray} {mx : Nat} {rt : Option FieldType} {a : Array Value} {s : State} {m : MethodId} {meth : Method} {c : Code} (h1 : s.methodNamed? y = some m) (h2 : s.vm.method? m = some meth) (h3 : meth.code = some c) (h4 : c.code = bytes)
    (h5 : (c.maxLocals == mx && c.exceptionTable.isEmpty && decide (c.maxStack ≤ mostOperands) && decide (meth.sig.returnType = rt) && !meth.locks && decide (parseMethodDescriptor y.desc = some meth.sig)) = true) : (Jvm.Cond.code y bytes mx rt).before a s = true := by
  simp only [Bool.and_eq_true, beq_iff_eq, Bool.not_eq_true', decide_eq_true_eq] at h5
  obtain ⟨⟨⟨⟨⟨g1, g2⟩, g3⟩, g4⟩, g5⟩, g6⟩ := h5
  simp [Cond.before, Cond.holds, Cond.value, h1, h2, h3, h4, g1, g2, g3, g4, g5, g6]
def isCode : Jvm.Cond → Bool
  | .code _ _ _ _ => true
  | _ => false
theorem all_split {L : List Jvm.Cond} {P : Jvm.Cond → Bool} (h1 : L.all (fun c => isCode c || P c) = true) (h2 : ∀ c ∈ L.filter isCode, P c = true) : L.all P = true := by
  refine List.all_eq_true.mpr fun c hc => ?_
  have h := List.all_eq_true.mp h1 c hc
  rcases Bool.eq_false_or_eq_true (isCode c) with hi | hi
  · exact h2 c (List.mem_filter.mpr ⟨hc, hi⟩)
  · simpa [hi] using h
set_option maxRecDepth 65536 in
theorem w_c0 : (Jvm.Cond.code x code maxLocals ret).before args0 about1 = true := code_word (m := ⟨1, 1⟩) (meth := k1m1) (c := k1c1) (by decide +kernel) rfl rfl rfl (by decide +kernel)
set_option maxRecDepth 65536 in
theorem w_c1 : (Jvm.Cond.code ({ cls := "java/lang/Math", name := "min", desc := "(II)I" } : Jvm.MethodName) jdk_29_method_69_code (2 : Nat) (Option.some Jvm.ClassFile.FieldType.int)).before args0 about1 = true := code_word (m := ⟨2, 1⟩) (meth := k2m1) (c := k2c1) (by decide +kernel) rfl rfl rfl (by decide +kernel)
set_option maxRecDepth 65536 in
theorem w_c2 : (Jvm.Cond.code ({ cls := "com/example/signpost/signpost/store/HandleSet", name := "<init>", desc := "()V" } : Jvm.MethodName) prog_80_method_1_code (1 : Nat) (Option.none : Option Jvm.ClassFile.FieldType)).before args0 about1 = true := code_word (m := ⟨4, 0⟩) (meth := k4m0) (c := k4c0) (by decide +kernel) rfl rfl rfl (by decide +kernel)
set_option maxRecDepth 65536 in
theorem w_c3 : (Jvm.Cond.code ({ cls := "java/lang/Object", name := "<init>", desc := "()V" } : Jvm.MethodName) object_method_1_code (1 : Nat) (Option.none : Option Jvm.ClassFile.FieldType)).before args0 about1 = true := code_word (m := ⟨0, 0⟩) (meth := k0m0) (c := k0c0) (by decide +kernel) rfl rfl rfl (by decide +kernel)
set_option maxRecDepth 65536 in
theorem w_c4 : (Jvm.Cond.code ({ cls := "com/example/signpost/signpost/store/HandleSet", name := "bytes", desc := "()J" } : Jvm.MethodName) prog_80_method_9_code (1 : Nat) (Option.some Jvm.ClassFile.FieldType.long)).before args0 about1 = true := code_word (m := ⟨4, 1⟩) (meth := k4m1) (c := k4c1) (by decide +kernel) rfl rfl rfl (by decide +kernel)
set_option maxRecDepth 65536 in
theorem w_c5 : (Jvm.Cond.code ({ cls := "com/example/signpost/signpost/store/HandleSet", name := "add", desc := "(I)V" } : Jvm.MethodName) prog_80_method_10_code (7 : Nat) (Option.none : Option Jvm.ClassFile.FieldType)).before args0 about1 = true := code_word (m := ⟨4, 2⟩) (meth := k4m2) (c := k4c2) (by decide +kernel) rfl rfl rfl (by decide +kernel)
set_option maxRecDepth 65536 in
theorem w_c6 : (Jvm.Cond.code ({ cls := "com/example/signpost/signpost/store/HandleSet", name := "put", desc := "(I)Z" } : Jvm.MethodName) prog_80_method_19_code (3 : Nat) (Option.some Jvm.ClassFile.FieldType.boolean)).before args0 about1 = true := code_word (m := ⟨4, 3⟩) (meth := k4m3) (c := k4c3) (by decide +kernel) rfl rfl rfl (by decide +kernel)
set_option maxRecDepth 65536 in
theorem w_c7 : (Jvm.Cond.code ({ cls := "com/example/signpost/signpost/store/HandleSet", name := "slot", desc := "(I)I" } : Jvm.MethodName) prog_80_method_20_code (5 : Nat) (Option.some Jvm.ClassFile.FieldType.int)).before args0 about1 = true := code_word (m := ⟨4, 4⟩) (meth := k4m4) (c := k4c4) (by decide +kernel) rfl rfl rfl (by decide +kernel)
set_option maxRecDepth 65536 in
theorem w_c8 : (Jvm.Cond.code ({ cls := "com/example/signpost/signpost/store/HandleSet", name := "spread", desc := "(I)I" } : Jvm.MethodName) prog_80_method_21_code (2 : Nat) (Option.some Jvm.ClassFile.FieldType.int)).before args0 about1 = true := code_word (m := ⟨4, 5⟩) (meth := k4m5) (c := k4c5) (by decide +kernel) rfl rfl rfl (by decide +kernel)
def codes1 : List Jvm.Cond := [Jvm.Cond.code x code maxLocals ret, Jvm.Cond.code ({ cls := "java/lang/Math", name := "min", desc := "(II)I" } : Jvm.MethodName) jdk_29_method_69_code (2 : Nat) (Option.some Jvm.ClassFile.FieldType.int), Jvm.Cond.code ({ cls := "com/example/signpost/signpost/store/HandleSet", name := "<init>", desc := "()V" } : Jvm.MethodName) prog_80_method_1_code (1 : Nat) (Option.none : Option Jvm.ClassFile.FieldType), Jvm.Cond.code ({ cls := "java/lang/Object", name := "<init>", desc := "()V" } : Jvm.MethodName) object_method_1_code (1 : Nat) (Option.none : Option Jvm.ClassFile.FieldType), Jvm.Cond.code ({ cls := "com/example/signpost/signpost/store/HandleSet", name := "bytes", desc := "()J" } : Jvm.MethodName) prog_80_method_9_code (1 : Nat) (Option.some Jvm.ClassFile.FieldType.long), Jvm.Cond.code ({ cls := "com/example/signpost/signpost/store/HandleSet", name := "add", desc := "(I)V" } : Jvm.MethodName) prog_80_method_10_code (7 : Nat) (Option.none : Option Jvm.ClassFile.FieldType), Jvm.Cond.code ({ cls := "com/example/signpost/signpost/store/HandleSet", name := "put", desc := "(I)Z" } : Jvm.MethodName) prog_80_method_19_code (3 : Nat) (Option.some Jvm.ClassFile.FieldType.boolean), Jvm.Cond.code ({ cls := "com/example/signpost/signpost/store/HandleSet", name := "slot", desc := "(I)I" } : Jvm.MethodName) prog_80_method_20_code (5 : Nat) (Option.some Jvm.ClassFile.FieldType.int), Jvm.Cond.code ({ cls := "com/example/signpost/signpost/store/HandleSet", name := "spread", desc := "(I)I" } : Jvm.MethodName) prog_80_method_21_code (2 : Nat) (Option.some Jvm.ClassFile.FieldType.int)]
set_option maxRecDepth 65536 in
theorem codes_eq : words1.filter isCode = codes1 := rfl
theorem w_codes : ∀ c ∈ words1.filter isCode, c.before args0 about1 = true := by
  rw [codes_eq]
  intro c hc
  simp only [codes1, List.mem_cons, List.not_mem_nil, or_false] at hc
  rcases hc with rfl | rfl | rfl | rfl | rfl | rfl | rfl | rfl | rfl
  · exact w_c0
  · exact w_c1
  · exact w_c2
  · exact w_c3
  · exact w_c4
  · exact w_c5
  · exact w_c6
  · exact w_c7
  · exact w_c8
set_option maxRecDepth 65536 in
theorem w_t1 : (words1.take 24).all (fun c => isCode c || c.before args0 about1) = true := by decide +kernel
set_option maxRecDepth 65536 in
theorem w_t2 : ((words1.drop 24).take 24).all (fun c => isCode c || c.before args0 about1) = true := by decide +kernel
set_option maxRecDepth 65536 in
theorem w_t3 : ((words1.drop 24).drop 24).all (fun c => isCode c || c.before args0 about1) = true := by decide +kernel
theorem w_tables : (allAtoms (Jvm.Cond.code x code maxLocals ret :: tables_1)).before args0 about1 = true := by
  rw [allAtoms_all]
  show words1.all (fun c => c.before args0 about1) = true
  refine all_split ?_ w_codes
  rw [← List.take_append_drop 24 words1, List.all_append, w_t1, ← List.take_append_drop 24 (words1.drop 24), List.all_append, w_t2, w_t3]
  rfl
set_option maxRecDepth 65536 in
theorem w_case : (Jvm.Cond.and given_1 narrow_1).before args0 about1 = true := by decide +kernel
theorem w_applies : (headSpec (Jvm.Cond.code x code maxLocals ret :: tables_1) room_1).applies x e0.platform about1 = true :=
  (Spec.applies_iff w_frames).mpr ⟨w_running, w_runnable, w_alone, w_named, w_hears, w_ripe, w_room, w_tables⟩
theorem atStart : AtStart classFile x code maxLocals ret World_1 tables_1 room_1 Calls_1 rest_1 Pre_1 launch0 p0 e0 about1 theMethod args0 below0 :=
  ⟨lists_1, trivial, launch0.admits_env _ _ _, launch0.least_env, fairChoices_fair.cas, fairChoices_fair.clock, w_frames, w_args, w_heap, w_applies, trivial, trivial, w_case⟩
end start1
theorem witness_1 : WitnessClaimed_1 := ⟨start1.p0, start1.e0, start1.about1, start1.theMethod, start1.args0, start1.below0, start1.atStart⟩
end Jvm.Pilot.@@N@@
