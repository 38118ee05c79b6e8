import JvmDerived
import JvmDerived.Pilot.@@N@@Statement
import JvmDerived.Pilot.@@N@@Code
set_option linter.unusedVariables false
set_option linter.unusedSimpArgs false
namespace Jvm.Pilot.@@N@@
open Jvm Jvm.ClassFile Sem Op Lib Jvm.Free Jvm.Stand Jvm.LawKit Jvm.RoadKit Bundle Jvm.Pilot.@@N@@.Jvm.D
/-! THE OWN LAYER (printed by wip/tools/mkown.py): Wp says: from here the body runs to its return and leaves Q. One law an instruction, each read off a law of the library. -/
abbrev Cx : Type := Program × Launch × Env × Room × State × MethodId × Array Value × List Frame × Method × Code × Nat × (Option Value → Heap → Prop)
abbrev Cx.p (X : Cx) : Program := X.1
abbrev Cx.l (X : Cx) : Launch := X.2.1
abbrev Cx.e (X : Cx) : Env := X.2.2.1
abbrev Cx.R (X : Cx) : Room := X.2.2.2.1
abbrev Cx.s (X : Cx) : State := X.2.2.2.2.1
abbrev Cx.m (X : Cx) : MethodId := X.2.2.2.2.2.1
abbrev Cx.args (X : Cx) : Array Value := X.2.2.2.2.2.2.1
abbrev Cx.below (X : Cx) : List Frame := X.2.2.2.2.2.2.2.1
abbrev Cx.meth (X : Cx) : Method := X.2.2.2.2.2.2.2.2.1
abbrev Cx.c (X : Cx) : Code := X.2.2.2.2.2.2.2.2.2.1
abbrev Cx.n0 (X : Cx) : Nat := X.2.2.2.2.2.2.2.2.2.2.1
abbrev Cx.Q (X : Cx) : Option Value → Heap → Prop := X.2.2.2.2.2.2.2.2.2.2.2
abbrev Sd (X : Cx) (T : State) (locs : List Loc) (k n : Nat) : Prop := Stand X.p X.l X.e X.R X.s X.m X.args X.below X.meth X.c T locs k n
abbrev Sp (X : Cx) (T : State) (pc : Nat) (ls : Array Slot) (st : List Value) (t : State) : Prop := Steps X.p.tables X.e X.below (T.setTop (mkF X.m pc ls st)) t
def Hand (X : Cx) (Z : State) (y : MethodName) (bytes : ByteArray) (mx : Nat) (rt : Option FieldType) (R : Room) (n0 : Nat) (Q : Option Value → Heap → Prop) : Prop :=
  X.p.tables.exec = Jvm.exec ∧ Z.Warmed39 X.s.vm ∧ X.s.vm.findClass y.cls = some X.m.cls ∧ X.c.code = bytes ∧ X.c.maxLocals = mx ∧ X.meth.sig.returnType = rt ∧ X.meth.locks = false ∧ X.R = R ∧ n0 ≤ X.s.heap.size ∧ X.meth.name = y.name ∧ X.n0 = n0 ∧ X.Q = Q
def Ct (l : Launch) (Z : State) (y : MethodName) (bytes : ByteArray) (mx : Nat) (rt : Option FieldType) (R : Room) (n0 : Nat) (ws : List Jvm.Cond) (as' : Array Value) (h : Heap) (Q : Option Value → Heap → Prop) : Prop :=
  MetFree l y (head1 (Jvm.Cond.code y bytes mx rt :: ws) R) (fun a U => a = as' ∧ Z.Warmed39 U.vm ∧ U.heap = h) (fun _ _ _ _ _ => True) (fun _ U o U' => ∃ v L, o = .returned v ∧ ((Q v U'.heap ∧ h.size ≤ U'.heap.size) ∧ Fr n0 L) ∧ FrameEnd U o U' L R.cells R.slots)
section OwnLayer
variable {X : Cx} {Z : State} {y : MethodName} {bytes : ByteArray} {mx : Nat} {rt : Option FieldType} {R : Room} {n0 : Nat} {Q : Option Value → Heap → Prop} {a0 : Array Value} {k n : Nat} {h : Heap} {pc pc' : Nat} {ls ls' : Array Slot} {st st' : List Value}
theorem Hand.sz (C : Hand X Z y bytes mx rt R n0 Q) {T : State} {locs : List Loc} (S : Sd X T locs k n) (e : T.heap = h) : n0 ≤ h.size := by
  have q : X.s.heap.size ≤ T.heap.size := S.same.2.1
  rw [← e]; exact Nat.le_trans C.2.2.2.2.2.2.2.2.1 q
theorem own_pop2L {tb : Tables} [Ours tb] {e : Env} {below : List Frame} {T target : State} {m : MethodId} {c : Code} {g : JFrame} (h : At T m c below) (hx : tb.exec = Jvm.exec) (hg : g.method = m) {x : Int64} {rest : List Value} (hd : decode c.code g.pc = .ok (.pop2, 1)) (hs : g.stack = .long x :: rest)
    (hr : Steps tb e below (T.setTop { g with pc := g.pc + 1, stack := rest }) target) : Steps tb e below (T.setTop g) target := by
  subst hg
  jvm_step h [h.top, hx, hd, hs, Value.category]
  exact hr
theorem toL (L : List Loc) : L ++ [] = L := List.append_nil L
end OwnLayer
def Wp (X : Cx) (k n : Nat) (h : Heap) (pc : Nat) (ls : Array Slot) (st : List Value) : Prop :=
  ∀ T locs, Sd X T locs k n → T.heap = h → Fr X.n0 locs →
    ∃ s₂ v L, Sp X T pc ls st s₂ ∧ s₂.status = .running ∧ Ended s₂ X.below (.returned v) ∧ X.Q v s₂.heap ∧ Fr X.n0 L ∧ X.s.WarmedH s₂.vm ∧ X.s.sameButNew ({ s₂ with vm := X.s.vm } : State) L X.R.cells X.R.slots
section OwnNarrow
variable {X : Cx} {Z : State} {y : MethodName} {bytes : ByteArray} {mx : Nat} {rt : Option FieldType} {R : Room} {n0 : Nat} {Q : Option Value → Heap → Prop} {a0 : Array Value} {k n : Nat} {h : Heap} {pc pc' : Nat} {ls ls' : Array Slot} {st st' : List Value}
theorem ct_of {l : Launch} {ws : List Jvm.Cond} {as' : Array Value} (hpl : plainFor y = true) (hn : n0 ≤ h.size) (hef : ∀ m, entryFrame m as' mx = mkF m 0 ls [])
    (hwp : ∀ X : Cx, Hand X Z y bytes mx rt R n0 Q → Wp X 0 0 h 0 ls []) : Ct l Z y bytes mx rt R n0 ws as' h Q := by
  refine MetFree.of_bodySF hpl hisR ?_
  intro p e s m args below meth c s₁ Bd hml0 hP hK
  obtain ⟨rfl, hZ, hh⟩ := hP
  have X0 : Stand p l e R s m args below meth c s₁ [] 0 0 := Stand.of_body Bd
  have e0 : s₁.heap = h := by rw [← hh, Bd.state]; rfl
  obtain ⟨s2, v, L, h1, h2, h3, h4, h5, h6, h7⟩ := hwp (p, l, e, R, s, m, args, below, meth, c, n0, Q) ⟨Bd.exec, hZ, findClass_of_methodNamed Bd.named, Bd.bytes, hml0, Bd.returns, Bd.notSynchronized, rfl, by show n0 ≤ s.heap.size; rw [hh]; exact hn, (name_of_methodNamed Bd.named Bd.method).1, rfl, rfl⟩ s₁ [] X0 e0 (Fr.nil n0)
  exact ⟨s2, _, castTop (hef m) h1, h2, h3, v, L, rfl, ⟨⟨h4, by rw [← hh]; exact h7.2.1⟩, h5⟩, ⟨_, rfl⟩, h6, h7⟩
theorem Wp.go (C : Hand X Z y bytes mx rt R n0 Q) (hs : ∀ X' : Cx, X'.l = X.l → Hand X' Z y bytes mx rt R n0 Q → ∀ T locs, Sd X' T locs k n → T.heap = h → ∀ t, Sp X' T pc' ls' st' t → Sp X' T pc ls st t) (w : Wp X k n h pc' ls' st') : Wp X k n h pc ls st := by
  intro T locs S e F
  obtain ⟨s2, v, L, a, r⟩ := w T locs S e F
  exact ⟨s2, v, L, hs X rfl C T locs S e _ a, r⟩
theorem Wp.to (C : Hand X Z y bytes mx rt R n0 Q) {k' n' : Nat} {P : Heap → List Value → Prop} (hs : ∀ X' : Cx, X'.l = X.l → Hand X' Z y bytes mx rt R n0 Q → ∀ T locs, Sd X' T locs k n → T.heap = h → ∃ T' L h' st', Sd X' T' (locs ++ L) k' n' ∧ T'.heap = h' ∧ Fr X'.n0 L ∧ h.size ≤ h'.size ∧ P h' st' ∧ ∀ t, Sp X' T' pc' ls' st' t → Sp X' T pc ls st t)
    (w : ∀ h' st', P h' st' → Wp X k' n' h' pc' ls' st') : Wp X k n h pc ls st := by
  intro T locs S e F
  obtain ⟨T', L, h', st', S', e', F', -, p, q⟩ := hs X rfl C T locs S e
  obtain ⟨s2, v, L2, a, r⟩ := w h' st' p T' _ S' e' (Fr.app F F')
  exact ⟨s2, v, L2, q _ a, r⟩
/-- what is left is known of the heap: n0 ≤ its size -/
theorem Wp.size (C : Hand X Z y bytes mx rt R n0 Q) (w : n0 ≤ h.size → Wp X k n h pc ls st) : Wp X k n h pc ls st := fun T locs S e F => w (C.sz S e) T locs S e F
theorem Wp.more {k' n' : Nat} (w : Wp X k' n' h pc ls st) (hk : k ≤ k') (hn : n ≤ n') : Wp X k n h pc ls st := fun T locs S e F => w T locs (S.more hk hn) e F
theorem w_done (C : Hand X Z y bytes mx rt R n0 Q) {v : Option Value} (hv : rt = none → v = none) (hk : k ≤ R.cells) (hn : n ≤ R.slots) (q : Q v h)
    (hs : ∀ X' : Cx, Hand X' Z y bytes mx rt R n0 Q → ∀ T locs (fs : List Frame), Sd X' T locs k n → (∀ (f : JFrame) (acts : List Action), f.method = X'.m → f.locked = none → f.entered = [] → (doReturn X'.e (T.setTop f) acts v).1 = T.setFrames fs) → Sp X' T pc ls st (T.setFrames fs)) : Wp X k n h pc ls st := by
  intro T locs S e F
  obtain ⟨fs, hr, hrun, hended, hW, hsame⟩ := S.leave (v := v) (fun z => hv (C.2.2.2.2.2.1 ▸ z)) C.2.2.2.2.2.2.1
  refine ⟨_, v, locs, hs X C T locs fs S hr, hrun, hended, ?_, F, hW, hsame.mono (by rw [C.2.2.2.2.2.2.2.1]; exact hk) (by rw [C.2.2.2.2.2.2.2.1]; exact hn)⟩
  show X.Q v T.heap
  rw [C.2.2.2.2.2.2.2.2.2.2.2, e]; exact q
end OwnNarrow

section OwnLaws
variable {X : Cx} {Z : State} {y : MethodName} {bytes : ByteArray} {mx : Nat} {rt : Option FieldType} {R : Room} {n0 : Nat} {Q : Option Value → Heap → Prop} {a0 : Array Value} {k n : Nat} {h : Heap} {pc pc' : Nat} {ls ls' : Array Slot} {st st' : List Value}
theorem w_iload (C : Hand X Z y bytes mx rt R n0 Q) {j : Nat} {v : Int32} (hd : decode bytes pc = .ok (.iload j, 2)) (hl : ls[j]? = some (.val (.int v))) (hp : pc + 2 = pc') (w : Wp X k n h pc' ls (.int v :: st)) : Wp X k n h pc ls (st) := by
  subst hp; exact Wp.go C (fun X hX C T locs S e t q => XS.iload S.here C.1 rfl (hb C.2.2.2.1 hd) hl q) w
theorem w_iloadN (C : Hand X Z y bytes mx rt R n0 Q) {j : Fin 4} {v : Int32} (hd : decode bytes pc = .ok (.iload_n j, 1)) (hl : ls[j.val]? = some (.val (.int v))) (hp : pc + 1 = pc') (w : Wp X k n h pc' ls (.int v :: st)) : Wp X k n h pc ls (st) := by
  subst hp; exact Wp.go C (fun X hX C T locs S e t q => XS.iloadN S.here C.1 rfl (hb C.2.2.2.1 hd) hl q) w
theorem w_lload (C : Hand X Z y bytes mx rt R n0 Q) {j : Nat} {v : Int64} (hd : decode bytes pc = .ok (.lload j, 2)) (hl : ls[j]? = some (.val (.long v))) (hp : pc + 2 = pc') (w : Wp X k n h pc' ls (.long v :: st)) : Wp X k n h pc ls (st) := by
  subst hp; exact Wp.go C (fun X hX C T locs S e t q => XS.lload S.here C.1 rfl (hb C.2.2.2.1 hd) hl q) w
theorem w_lloadN (C : Hand X Z y bytes mx rt R n0 Q) {j : Fin 4} {v : Int64} (hd : decode bytes pc = .ok (.lload_n j, 1)) (hl : ls[j.val]? = some (.val (.long v))) (hp : pc + 1 = pc') (w : Wp X k n h pc' ls (.long v :: st)) : Wp X k n h pc ls (st) := by
  subst hp; exact Wp.go C (fun X hX C T locs S e t q => XS.lloadN S.here C.1 rfl (hb C.2.2.2.1 hd) hl q) w
theorem w_aload (C : Hand X Z y bytes mx rt R n0 Q) {j : Nat} {v : Value} (hd : decode bytes pc = .ok (.aload j, 2)) (hl : ls[j]? = some (.val v)) (hv : v.isRef = true) (hp : pc + 2 = pc') (w : Wp X k n h pc' ls (v :: st)) : Wp X k n h pc ls (st) := by
  subst hp; exact Wp.go C (fun X hX C T locs S e t q => XS.aload S.here C.1 rfl (hb C.2.2.2.1 hd) hl hv q) w
theorem w_aloadN (C : Hand X Z y bytes mx rt R n0 Q) {j : Fin 4} {v : Value} (hd : decode bytes pc = .ok (.aload_n j, 1)) (hl : ls[j.val]? = some (.val v)) (hv : v.isRef = true) (hp : pc + 1 = pc') (w : Wp X k n h pc' ls (v :: st)) : Wp X k n h pc ls (st) := by
  subst hp; exact Wp.go C (fun X hX C T locs S e t q => XS.aloadN S.here C.1 rfl (hb C.2.2.2.1 hd) hl hv q) w
theorem w_iconst (C : Hand X Z y bytes mx rt R n0 Q) {i : Int} {z : Int32} (hd : decode bytes pc = .ok (.iconst i, 1)) (hz : Int32.ofInt i = z) (hp : pc + 1 = pc') (w : Wp X k n h pc' ls (.int z :: st)) : Wp X k n h pc ls st := by
  subst hp hz; exact Wp.go C (fun X hX C T locs S e t q => XS.iconst S.here C.1 rfl (hb C.2.2.2.1 hd) q) w
theorem w_bipush (C : Hand X Z y bytes mx rt R n0 Q) {i : Int} {z : Int32} (hd : decode bytes pc = .ok (.bipush i, 2)) (hz : (Int8.ofInt i).toInt32 = z) (hp : pc + 2 = pc') (w : Wp X k n h pc' ls (.int z :: st)) : Wp X k n h pc ls st := by
  subst hp hz; exact Wp.go C (fun X hX C T locs S e t q => XS.bipush S.here C.1 rfl (hb C.2.2.2.1 hd) q) w
theorem w_sipush (C : Hand X Z y bytes mx rt R n0 Q) {i : Int} {z : Int32} (hd : decode bytes pc = .ok (.sipush i, 3)) (hz : (Int16.ofInt i).toInt32 = z) (hp : pc + 3 = pc') (w : Wp X k n h pc' ls (.int z :: st)) : Wp X k n h pc ls st := by
  subst hp hz; exact Wp.go C (fun X hX C T locs S e t q => XS.sipush S.here C.1 rfl (hb C.2.2.2.1 hd) q) w
theorem w_lconst (C : Hand X Z y bytes mx rt R n0 Q) {i : Fin 2} {z : Int64} (hd : decode bytes pc = .ok (.lconst i, 1)) (hz : Int64.ofNat i.val = z) (hp : pc + 1 = pc') (w : Wp X k n h pc' ls (.long z :: st)) : Wp X k n h pc ls st := by
  subst hp hz; exact Wp.go C (fun X hX C T locs S e t q => XS.lconst S.here C.1 rfl (hb C.2.2.2.1 hd) q) w
theorem w_anull (C : Hand X Z y bytes mx rt R n0 Q) (hd : decode bytes pc = .ok (.aconst_null, 1)) (hp : pc + 1 = pc') (w : Wp X k n h pc' ls (.null :: st)) : Wp X k n h pc ls (st) := by
  subst hp; exact Wp.go C (fun X hX C T locs S e t q => XS.aconstNull S.here C.1 rfl (hb C.2.2.2.1 hd) q) w
theorem w_ldc (C : Hand X Z y bytes mx rt R n0 Q) {i : Nat} {z : Int32} (hw : (Jvm.Cond.constant y.cls i z).before a0 Z = true) (hd : decode bytes pc = .ok (.ldc i, 2)) (hp : pc + 2 = pc') (w : Wp X k n h pc' ls (.int z :: st)) : Wp X k n h pc ls st := by
  subst hp; exact Wp.go C (fun X hX C T locs S e t q => S.ldcInt C.1 C.2.2.1 (mvT C.2.1 hw) (g := mkF X.m pc ls st) rfl (hb C.2.2.2.1 hd) t q) w
theorem w_ldc2 (C : Hand X Z y bytes mx rt R n0 Q) {i : Nat} {z : Int64} (hw : (Jvm.Cond.constantLong y.cls i z).before a0 Z = true) (hd : decode bytes pc = .ok (.ldc2_w i, 3)) (hp : pc + 3 = pc') (w : Wp X k n h pc' ls (.long z :: st)) : Wp X k n h pc ls st := by
  subst hp; exact Wp.go C (fun X hX C T locs S e t q => S.ldc2Long C.1 C.2.2.1 (mvT C.2.1 hw) (g := mkF X.m pc ls st) rfl (hb C.2.2.2.1 hd) t q) w
theorem w_istore (C : Hand X Z y bytes mx rt R n0 Q) {j : Nat} {x : Int32} (hd : decode bytes pc = .ok (.istore j, 2)) (hl : storeLocals ls j (.int x) = some ls') (hp : pc + 2 = pc') (w : Wp X k n h pc' ls' st) : Wp X k n h pc ls (.int x :: st) := by
  subst hp; exact Wp.go C (fun X hX C T locs S e t q => XS.istore S.here C.1 rfl (hb C.2.2.2.1 hd) rfl hl q) w
theorem w_istoreN (C : Hand X Z y bytes mx rt R n0 Q) {j : Fin 4} {x : Int32} (hd : decode bytes pc = .ok (.istore_n j, 1)) (hl : storeLocals ls j.val (.int x) = some ls') (hp : pc + 1 = pc') (w : Wp X k n h pc' ls' st) : Wp X k n h pc ls (.int x :: st) := by
  subst hp; exact Wp.go C (fun X hX C T locs S e t q => XS.istoreN S.here C.1 rfl (hb C.2.2.2.1 hd) rfl hl q) w
theorem w_lstore (C : Hand X Z y bytes mx rt R n0 Q) {j : Nat} {x : Int64} (hd : decode bytes pc = .ok (.lstore j, 2)) (hl : storeLocals ls j (.long x) = some ls') (hp : pc + 2 = pc') (w : Wp X k n h pc' ls' st) : Wp X k n h pc ls (.long x :: st) := by
  subst hp; exact Wp.go C (fun X hX C T locs S e t q => XS.lstore S.here C.1 rfl (hb C.2.2.2.1 hd) rfl hl q) w
theorem w_lstoreN (C : Hand X Z y bytes mx rt R n0 Q) {j : Fin 4} {x : Int64} (hd : decode bytes pc = .ok (.lstore_n j, 1)) (hl : storeLocals ls j.val (.long x) = some ls') (hp : pc + 1 = pc') (w : Wp X k n h pc' ls' st) : Wp X k n h pc ls (.long x :: st) := by
  subst hp; exact Wp.go C (fun X hX C T locs S e t q => XS.lstoreN S.here C.1 rfl (hb C.2.2.2.1 hd) rfl hl q) w
theorem w_astore (C : Hand X Z y bytes mx rt R n0 Q) {j : Nat} {x : Value} (hd : decode bytes pc = .ok (.astore j, 2)) (hv : x.isRef = true) (hl : storeLocals ls j (x) = some ls') (hp : pc + 2 = pc') (w : Wp X k n h pc' ls' st) : Wp X k n h pc ls (x :: st) := by
  subst hp; exact Wp.go C (fun X hX C T locs S e t q => XS.astore S.here C.1 rfl (hb C.2.2.2.1 hd) rfl hv hl q) w
theorem w_astoreN (C : Hand X Z y bytes mx rt R n0 Q) {j : Fin 4} {x : Value} (hd : decode bytes pc = .ok (.astore_n j, 1)) (hv : x.isRef = true) (hl : storeLocals ls j.val (x) = some ls') (hp : pc + 1 = pc') (w : Wp X k n h pc' ls' st) : Wp X k n h pc ls (x :: st) := by
  subst hp; exact Wp.go C (fun X hX C T locs S e t q => XS.astoreN S.here C.1 rfl (hb C.2.2.2.1 hd) rfl hv hl q) w
theorem w_iinc (C : Hand X Z y bytes mx rt R n0 Q) {j : Nat} {cst : Int} {x z : Int32} (hd : decode bytes pc = .ok (.iinc j cst, 3)) (hl : ls[j]? = some (.val (.int x))) (hz : Int32.ofInt cst = z) (hl' : storeLocals ls j (.int (x + z)) = some ls') (hp : pc + 3 = pc') (w : Wp X k n h pc' ls' st) : Wp X k n h pc ls st := by
  subst hp hz; exact Wp.go C (fun X hX C T locs S e t q => XS.iinc S.here C.1 rfl (hb C.2.2.2.1 hd) hl hl' q) w
theorem w_dup (C : Hand X Z y bytes mx rt R n0 Q) {x : Value} (hd : decode bytes pc = .ok (.dup, 1)) (hc : x.category = 1) (hp : pc + 1 = pc') (w : Wp X k n h pc' ls (x :: x :: st)) : Wp X k n h pc ls (x :: st) := by
  subst hp; exact Wp.go C (fun X hX C T locs S e t q => XS.dup S.here C.1 rfl (hb C.2.2.2.1 hd) rfl hc q) w
theorem w_dup2 (C : Hand X Z y bytes mx rt R n0 Q) {x z : Value} (hd : decode bytes pc = .ok (.dup2, 1)) (hc : x.category = 1) (hc' : z.category = 1) (hp : pc + 1 = pc') (w : Wp X k n h pc' ls (x :: z :: x :: z :: st)) : Wp X k n h pc ls (x :: z :: st) := by
  subst hp; exact Wp.go C (fun X hX C T locs S e t q => XT.dup2 S.here C.1 rfl (hb C.2.2.2.1 hd) rfl hc hc' q) w
theorem w_dupX1 (C : Hand X Z y bytes mx rt R n0 Q) {x z : Value} (hd : decode bytes pc = .ok (.dup_x1, 1)) (hc : x.category = 1) (hc' : z.category = 1) (hp : pc + 1 = pc') (w : Wp X k n h pc' ls (x :: z :: x :: st)) : Wp X k n h pc ls (x :: z :: st) := by
  subst hp; exact Wp.go C (fun X hX C T locs S e t q => XS.dupX1 S.here C.1 rfl (hb C.2.2.2.1 hd) rfl hc hc' q) w
theorem w_dup2L (C : Hand X Z y bytes mx rt R n0 Q) {x : Int64} (hd : decode bytes pc = .ok (.dup2, 1)) (hp : pc + 1 = pc') (w : Wp X k n h pc' ls (.long x :: .long x :: st)) : Wp X k n h pc ls (.long x :: st) := by
  subst hp; exact Wp.go C (fun X hX C T locs S e t q => XT.dup2L S.here C.1 rfl (hb C.2.2.2.1 hd) rfl q) w
theorem w_pop2L (C : Hand X Z y bytes mx rt R n0 Q) {x : Int64} (hd : decode bytes pc = .ok (.pop2, 1)) (hp : pc + 1 = pc') (w : Wp X k n h pc' ls (st)) : Wp X k n h pc ls (.long x :: st) := by
  subst hp; exact Wp.go C (fun X hX C T locs S e t q => own_pop2L S.here C.1 rfl (hb C.2.2.2.1 hd) rfl q) w
theorem w_pop (C : Hand X Z y bytes mx rt R n0 Q) {x : Value} (hd : decode bytes pc = .ok (.pop, 1)) (hc : x.category = 1) (hp : pc + 1 = pc') (w : Wp X k n h pc' ls (st)) : Wp X k n h pc ls (x :: st) := by
  subst hp; exact Wp.go C (fun X hX C T locs S e t q => XS.pop S.here C.1 rfl (hb C.2.2.2.1 hd) rfl hc q) w
theorem w_iadd (C : Hand X Z y bytes mx rt R n0 Q) {x z : Int32} (hd : decode bytes pc = .ok (.iadd, 1)) (hp : pc + 1 = pc') (w : Wp X k n h pc' ls (.int (x + z) :: st)) : Wp X k n h pc ls (.int z :: .int x :: st) := by
  subst hp; exact Wp.go C (fun X hX C T locs S e t q => XS.iadd S.here C.1 rfl (hb C.2.2.2.1 hd) rfl q) w
theorem w_isub (C : Hand X Z y bytes mx rt R n0 Q) {x z : Int32} (hd : decode bytes pc = .ok (.isub, 1)) (hp : pc + 1 = pc') (w : Wp X k n h pc' ls (.int (x - z) :: st)) : Wp X k n h pc ls (.int z :: .int x :: st) := by
  subst hp; exact Wp.go C (fun X hX C T locs S e t q => XS.isub S.here C.1 rfl (hb C.2.2.2.1 hd) rfl q) w
theorem w_imul (C : Hand X Z y bytes mx rt R n0 Q) {x z : Int32} (hd : decode bytes pc = .ok (.imul, 1)) (hp : pc + 1 = pc') (w : Wp X k n h pc' ls (.int (x * z) :: st)) : Wp X k n h pc ls (.int z :: .int x :: st) := by
  subst hp; exact Wp.go C (fun X hX C T locs S e t q => XS.imul S.here C.1 rfl (hb C.2.2.2.1 hd) rfl q) w
theorem w_iand (C : Hand X Z y bytes mx rt R n0 Q) {x z : Int32} (hd : decode bytes pc = .ok (.iand, 1)) (hp : pc + 1 = pc') (w : Wp X k n h pc' ls (.int (x &&& z) :: st)) : Wp X k n h pc ls (.int z :: .int x :: st) := by
  subst hp; exact Wp.go C (fun X hX C T locs S e t q => XS.iand S.here C.1 rfl (hb C.2.2.2.1 hd) rfl q) w
theorem w_ior (C : Hand X Z y bytes mx rt R n0 Q) {x z : Int32} (hd : decode bytes pc = .ok (.ior, 1)) (hp : pc + 1 = pc') (w : Wp X k n h pc' ls (.int (x ||| z) :: st)) : Wp X k n h pc ls (.int z :: .int x :: st) := by
  subst hp; exact Wp.go C (fun X hX C T locs S e t q => XS.ior S.here C.1 rfl (hb C.2.2.2.1 hd) rfl q) w
theorem w_ixor (C : Hand X Z y bytes mx rt R n0 Q) {x z : Int32} (hd : decode bytes pc = .ok (.ixor, 1)) (hp : pc + 1 = pc') (w : Wp X k n h pc' ls (.int (x ^^^ z) :: st)) : Wp X k n h pc ls (.int z :: .int x :: st) := by
  subst hp; exact Wp.go C (fun X hX C T locs S e t q => XS.ixor S.here C.1 rfl (hb C.2.2.2.1 hd) rfl q) w
theorem w_ishl (C : Hand X Z y bytes mx rt R n0 Q) {x z : Int32} (hd : decode bytes pc = .ok (.ishl, 1)) (hp : pc + 1 = pc') (w : Wp X k n h pc' ls (.int (x <<< (z &&& 31)) :: st)) : Wp X k n h pc ls (.int z :: .int x :: st) := by
  subst hp; exact Wp.go C (fun X hX C T locs S e t q => XS.ishl S.here C.1 rfl (hb C.2.2.2.1 hd) rfl q) w
theorem w_ishr (C : Hand X Z y bytes mx rt R n0 Q) {x z : Int32} (hd : decode bytes pc = .ok (.ishr, 1)) (hp : pc + 1 = pc') (w : Wp X k n h pc' ls (.int (x >>> (z &&& 31)) :: st)) : Wp X k n h pc ls (.int z :: .int x :: st) := by
  subst hp; exact Wp.go C (fun X hX C T locs S e t q => XS.ishr S.here C.1 rfl (hb C.2.2.2.1 hd) rfl q) w
theorem w_iushr (C : Hand X Z y bytes mx rt R n0 Q) {x z : Int32} (hd : decode bytes pc = .ok (.iushr, 1)) (hp : pc + 1 = pc') (w : Wp X k n h pc' ls (.int ((x.toUInt32 >>> (z &&& 31).toUInt32).toInt32) :: st)) : Wp X k n h pc ls (.int z :: .int x :: st) := by
  subst hp; exact Wp.go C (fun X hX C T locs S e t q => XS.iushr S.here C.1 rfl (hb C.2.2.2.1 hd) rfl q) w
theorem w_ladd (C : Hand X Z y bytes mx rt R n0 Q) {x z : Int64} (hd : decode bytes pc = .ok (.ladd, 1)) (hp : pc + 1 = pc') (w : Wp X k n h pc' ls (.long (x + z) :: st)) : Wp X k n h pc ls (.long z :: .long x :: st) := by
  subst hp; exact Wp.go C (fun X hX C T locs S e t q => XS.ladd S.here C.1 rfl (hb C.2.2.2.1 hd) rfl q) w
theorem w_lsub (C : Hand X Z y bytes mx rt R n0 Q) {x z : Int64} (hd : decode bytes pc = .ok (.lsub, 1)) (hp : pc + 1 = pc') (w : Wp X k n h pc' ls (.long (x - z) :: st)) : Wp X k n h pc ls (.long z :: .long x :: st) := by
  subst hp; exact Wp.go C (fun X hX C T locs S e t q => XS.lsub S.here C.1 rfl (hb C.2.2.2.1 hd) rfl q) w
theorem w_lmul (C : Hand X Z y bytes mx rt R n0 Q) {x z : Int64} (hd : decode bytes pc = .ok (.lmul, 1)) (hp : pc + 1 = pc') (w : Wp X k n h pc' ls (.long (x * z) :: st)) : Wp X k n h pc ls (.long z :: .long x :: st) := by
  subst hp; exact Wp.go C (fun X hX C T locs S e t q => XS.lmul S.here C.1 rfl (hb C.2.2.2.1 hd) rfl q) w
theorem w_land (C : Hand X Z y bytes mx rt R n0 Q) {x z : Int64} (hd : decode bytes pc = .ok (.land, 1)) (hp : pc + 1 = pc') (w : Wp X k n h pc' ls (.long (x &&& z) :: st)) : Wp X k n h pc ls (.long z :: .long x :: st) := by
  subst hp; exact Wp.go C (fun X hX C T locs S e t q => XS.land S.here C.1 rfl (hb C.2.2.2.1 hd) rfl q) w
theorem w_lor (C : Hand X Z y bytes mx rt R n0 Q) {x z : Int64} (hd : decode bytes pc = .ok (.lor, 1)) (hp : pc + 1 = pc') (w : Wp X k n h pc' ls (.long (x ||| z) :: st)) : Wp X k n h pc ls (.long z :: .long x :: st) := by
  subst hp; exact Wp.go C (fun X hX C T locs S e t q => XS.lor S.here C.1 rfl (hb C.2.2.2.1 hd) rfl q) w
theorem w_lxor (C : Hand X Z y bytes mx rt R n0 Q) {x z : Int64} (hd : decode bytes pc = .ok (.lxor, 1)) (hp : pc + 1 = pc') (w : Wp X k n h pc' ls (.long (x ^^^ z) :: st)) : Wp X k n h pc ls (.long z :: .long x :: st) := by
  subst hp; exact Wp.go C (fun X hX C T locs S e t q => XS.lxor S.here C.1 rfl (hb C.2.2.2.1 hd) rfl q) w
theorem w_lshl (C : Hand X Z y bytes mx rt R n0 Q) {x : Int64} {z : Int32} (hd : decode bytes pc = .ok (.lshl, 1)) (hp : pc + 1 = pc') (w : Wp X k n h pc' ls (.long (x <<< (z &&& 0x3f).toInt64) :: st)) : Wp X k n h pc ls (.int z :: .long x :: st) := by
  subst hp; exact Wp.go C (fun X hX C T locs S e t q => XS.lshl S.here C.1 rfl (hb C.2.2.2.1 hd) rfl q) w
theorem w_lshr (C : Hand X Z y bytes mx rt R n0 Q) {x : Int64} {z : Int32} (hd : decode bytes pc = .ok (.lshr, 1)) (hp : pc + 1 = pc') (w : Wp X k n h pc' ls (.long (x >>> (z &&& 0x3f).toInt64) :: st)) : Wp X k n h pc ls (.int z :: .long x :: st) := by
  subst hp; exact Wp.go C (fun X hX C T locs S e t q => XS.lshr S.here C.1 rfl (hb C.2.2.2.1 hd) rfl q) w
theorem w_lushr (C : Hand X Z y bytes mx rt R n0 Q) {x : Int64} {z : Int32} (hd : decode bytes pc = .ok (.lushr, 1)) (hp : pc + 1 = pc') (w : Wp X k n h pc' ls (.long ((x.toUInt64 >>> (z &&& 0x3f).toInt64.toUInt64).toInt64) :: st)) : Wp X k n h pc ls (.int z :: .long x :: st) := by
  subst hp; exact Wp.go C (fun X hX C T locs S e t q => XS.lushr S.here C.1 rfl (hb C.2.2.2.1 hd) rfl q) w
theorem w_idiv (C : Hand X Z y bytes mx rt R n0 Q) {x z : Int32} (hd : decode bytes pc = .ok (.idiv, 1)) (hz : z ≠ 0) (hp : pc + 1 = pc') (w : Wp X k n h pc' ls (.int (x / z) :: st)) : Wp X k n h pc ls (.int z :: .int x :: st) := by
  subst hp; exact Wp.go C (fun X hX C T locs S e t q => XS.idiv S.here C.1 rfl (hb C.2.2.2.1 hd) rfl hz q) w
theorem w_irem (C : Hand X Z y bytes mx rt R n0 Q) {x z : Int32} (hd : decode bytes pc = .ok (.irem, 1)) (hz : z ≠ 0) (hp : pc + 1 = pc') (w : Wp X k n h pc' ls (.int (x % z) :: st)) : Wp X k n h pc ls (.int z :: .int x :: st) := by
  subst hp; exact Wp.go C (fun X hX C T locs S e t q => iremM S C.1 rfl (hb C.2.2.2.1 hd) rfl hz q) w
theorem w_ineg (C : Hand X Z y bytes mx rt R n0 Q) {x : Int32} (hd : decode bytes pc = .ok (.ineg, 1)) (hp : pc + 1 = pc') (w : Wp X k n h pc' ls (.int (-x) :: st)) : Wp X k n h pc ls (.int x :: st) := by
  subst hp; exact Wp.go C (fun X hX C T locs S e t q => XS.ineg S.here C.1 rfl (hb C.2.2.2.1 hd) rfl q) w
theorem w_lneg (C : Hand X Z y bytes mx rt R n0 Q) {x : Int64} (hd : decode bytes pc = .ok (.lneg, 1)) (hp : pc + 1 = pc') (w : Wp X k n h pc' ls (.long (-x) :: st)) : Wp X k n h pc ls (.long x :: st) := by
  subst hp; exact Wp.go C (fun X hX C T locs S e t q => XS.lneg S.here C.1 rfl (hb C.2.2.2.1 hd) rfl q) w
theorem w_i2l (C : Hand X Z y bytes mx rt R n0 Q) {x : Int32} (hd : decode bytes pc = .ok (.i2l, 1)) (hp : pc + 1 = pc') (w : Wp X k n h pc' ls (.long x.toInt64 :: st)) : Wp X k n h pc ls (.int x :: st) := by
  subst hp; exact Wp.go C (fun X hX C T locs S e t q => XS.i2l S.here C.1 rfl (hb C.2.2.2.1 hd) rfl q) w
theorem w_l2i (C : Hand X Z y bytes mx rt R n0 Q) {x : Int64} (hd : decode bytes pc = .ok (.l2i, 1)) (hp : pc + 1 = pc') (w : Wp X k n h pc' ls (.int x.toInt32 :: st)) : Wp X k n h pc ls (.long x :: st) := by
  subst hp; exact Wp.go C (fun X hX C T locs S e t q => XS.l2i S.here C.1 rfl (hb C.2.2.2.1 hd) rfl q) w
theorem w_i2b (C : Hand X Z y bytes mx rt R n0 Q) {x : Int32} (hd : decode bytes pc = .ok (.i2b, 1)) (hp : pc + 1 = pc') (w : Wp X k n h pc' ls (.int x.toInt8.toInt32 :: st)) : Wp X k n h pc ls (.int x :: st) := by
  subst hp; exact Wp.go C (fun X hX C T locs S e t q => XS.i2b S.here C.1 rfl (hb C.2.2.2.1 hd) rfl q) w
theorem w_i2s (C : Hand X Z y bytes mx rt R n0 Q) {x : Int32} (hd : decode bytes pc = .ok (.i2s, 1)) (hp : pc + 1 = pc') (w : Wp X k n h pc' ls (.int x.toInt16.toInt32 :: st)) : Wp X k n h pc ls (.int x :: st) := by
  subst hp; exact Wp.go C (fun X hX C T locs S e t q => XS.i2s S.here C.1 rfl (hb C.2.2.2.1 hd) rfl q) w
theorem w_i2c (C : Hand X Z y bytes mx rt R n0 Q) {x : Int32} (hd : decode bytes pc = .ok (.i2c, 1)) (hp : pc + 1 = pc') (w : Wp X k n h pc' ls (.int x.toUInt32.toUInt16.toUInt32.toInt32 :: st)) : Wp X k n h pc ls (.int x :: st) := by
  subst hp; exact Wp.go C (fun X hX C T locs S e t q => XS.i2c S.here C.1 rfl (hb C.2.2.2.1 hd) rfl q) w
theorem w_lcmp (C : Hand X Z y bytes mx rt R n0 Q) {x z : Int64} (hd : decode bytes pc = .ok (.lcmp, 1)) (hp : pc + 1 = pc') (w : Wp X k n h pc' ls (.int (lcmpW x z) :: st)) : Wp X k n h pc ls (.long z :: .long x :: st) := by
  subst hp; exact Wp.go C (fun X hX C T locs S e t q => XS.lcmp S.here C.1 rfl (hb C.2.2.2.1 hd) rfl q) w
theorem w_goto (C : Hand X Z y bytes mx rt R n0 Q) {o : Int} (hd : decode bytes pc = .ok (.goto o, 3)) (ho : 0 ≤ (pc : Int) + o) (hp : ((pc : Int) + o).toNat = pc') (w : Wp X k n h pc' ls st) : Wp X k n h pc ls st := by
  exact Wp.go C (fun X hX C T locs S e t q => XS.goto S.here C.1 rfl (pc0 := pc) rfl (hb C.2.2.2.1 hd) ho hp q) w
theorem w_icmp_eq (C : Hand X Z y bytes mx rt R n0 Q) {o : Int} {x z : Int32} {pn : Nat} (hd : decode bytes pc = .ok (.if_icmp .eq o, 3)) (ho : 0 ≤ (pc : Int) + o) (hp : ((pc : Int) + o).toNat = pc') (hn : pc + 3 = pn) (wy : x = z → Wp X k n h pc' ls st) (wn : ¬ x = z → Wp X k n h pn ls st) : Wp X k n h pc ls (.int z :: .int x :: st) := by
  subst hn
  by_cases q : x = z
  · exact Wp.go C (fun X hX C T locs S e t r => XS.icmpYes S.here C.1 rfl (pc0 := pc) rfl (hb C.2.2.2.1 hd) rfl (teq q).1 ho hp r) (wy q)
  · exact Wp.go C (fun X hX C T locs S e t r => XS.icmpNo S.here C.1 rfl (hb C.2.2.2.1 hd) rfl (feq q).1 r) (wn (by first | exact q | exact Decidable.not_not.mp q))
theorem w_if_eq (C : Hand X Z y bytes mx rt R n0 Q) {o : Int} {x : Int32} {pn : Nat} (hd : decode bytes pc = .ok (.ifCond .eq o, 3)) (ho : 0 ≤ (pc : Int) + o) (hp : ((pc : Int) + o).toNat = pc') (hn : pc + 3 = pn) (wy : x = (0 : Int32) → Wp X k n h pc' ls st) (wn : ¬ x = (0 : Int32) → Wp X k n h pn ls st) : Wp X k n h pc ls (.int x :: st) := by
  subst hn
  by_cases q : x = (0 : Int32)
  · exact Wp.go C (fun X hX C T locs S e t r => XS.ifYes S.here C.1 rfl (pc0 := pc) rfl (hb C.2.2.2.1 hd) rfl ((if0 _ _).trans (teq q).1) ho hp r) (wy q)
  · exact Wp.go C (fun X hX C T locs S e t r => XS.ifNo S.here C.1 rfl (hb C.2.2.2.1 hd) rfl ((if0 _ _).trans (feq q).1) r) (wn (by first | exact q | exact Decidable.not_not.mp q))
theorem w_icmp_ne (C : Hand X Z y bytes mx rt R n0 Q) {o : Int} {x z : Int32} {pn : Nat} (hd : decode bytes pc = .ok (.if_icmp .ne o, 3)) (ho : 0 ≤ (pc : Int) + o) (hp : ((pc : Int) + o).toNat = pc') (hn : pc + 3 = pn) (wy : ¬ x = z → Wp X k n h pc' ls st) (wn : x = z → Wp X k n h pn ls st) : Wp X k n h pc ls (.int z :: .int x :: st) := by
  subst hn
  by_cases q : ¬ x = z
  · exact Wp.go C (fun X hX C T locs S e t r => XS.icmpYes S.here C.1 rfl (pc0 := pc) rfl (hb C.2.2.2.1 hd) rfl (feq q).2 ho hp r) (wy q)
  · exact Wp.go C (fun X hX C T locs S e t r => XS.icmpNo S.here C.1 rfl (hb C.2.2.2.1 hd) rfl (teq (Decidable.not_not.mp q)).2 r) (wn (by first | exact q | exact Decidable.not_not.mp q))
theorem w_if_ne (C : Hand X Z y bytes mx rt R n0 Q) {o : Int} {x : Int32} {pn : Nat} (hd : decode bytes pc = .ok (.ifCond .ne o, 3)) (ho : 0 ≤ (pc : Int) + o) (hp : ((pc : Int) + o).toNat = pc') (hn : pc + 3 = pn) (wy : ¬ x = (0 : Int32) → Wp X k n h pc' ls st) (wn : x = (0 : Int32) → Wp X k n h pn ls st) : Wp X k n h pc ls (.int x :: st) := by
  subst hn
  by_cases q : ¬ x = (0 : Int32)
  · exact Wp.go C (fun X hX C T locs S e t r => XS.ifYes S.here C.1 rfl (pc0 := pc) rfl (hb C.2.2.2.1 hd) rfl ((if0 _ _).trans (feq q).2) ho hp r) (wy q)
  · exact Wp.go C (fun X hX C T locs S e t r => XS.ifNo S.here C.1 rfl (hb C.2.2.2.1 hd) rfl ((if0 _ _).trans (teq (Decidable.not_not.mp q)).2) r) (wn (by first | exact q | exact Decidable.not_not.mp q))
theorem w_icmp_lt (C : Hand X Z y bytes mx rt R n0 Q) {o : Int} {x z : Int32} {pn : Nat} (hd : decode bytes pc = .ok (.if_icmp .lt o, 3)) (ho : 0 ≤ (pc : Int) + o) (hp : ((pc : Int) + o).toNat = pc') (hn : pc + 3 = pn) (wy : x < z → Wp X k n h pc' ls st) (wn : ¬ x < z → Wp X k n h pn ls st) : Wp X k n h pc ls (.int z :: .int x :: st) := by
  subst hn
  by_cases q : x < z
  · exact Wp.go C (fun X hX C T locs S e t r => XS.icmpYes S.here C.1 rfl (pc0 := pc) rfl (hb C.2.2.2.1 hd) rfl (tlt q).1 ho hp r) (wy q)
  · exact Wp.go C (fun X hX C T locs S e t r => XS.icmpNo S.here C.1 rfl (hb C.2.2.2.1 hd) rfl (flt q).1 r) (wn (by first | exact q | exact Decidable.not_not.mp q))
theorem w_if_lt (C : Hand X Z y bytes mx rt R n0 Q) {o : Int} {x : Int32} {pn : Nat} (hd : decode bytes pc = .ok (.ifCond .lt o, 3)) (ho : 0 ≤ (pc : Int) + o) (hp : ((pc : Int) + o).toNat = pc') (hn : pc + 3 = pn) (wy : x < (0 : Int32) → Wp X k n h pc' ls st) (wn : ¬ x < (0 : Int32) → Wp X k n h pn ls st) : Wp X k n h pc ls (.int x :: st) := by
  subst hn
  by_cases q : x < (0 : Int32)
  · exact Wp.go C (fun X hX C T locs S e t r => XS.ifYes S.here C.1 rfl (pc0 := pc) rfl (hb C.2.2.2.1 hd) rfl ((if0 _ _).trans (tlt q).1) ho hp r) (wy q)
  · exact Wp.go C (fun X hX C T locs S e t r => XS.ifNo S.here C.1 rfl (hb C.2.2.2.1 hd) rfl ((if0 _ _).trans (flt q).1) r) (wn (by first | exact q | exact Decidable.not_not.mp q))
theorem w_icmp_ge (C : Hand X Z y bytes mx rt R n0 Q) {o : Int} {x z : Int32} {pn : Nat} (hd : decode bytes pc = .ok (.if_icmp .ge o, 3)) (ho : 0 ≤ (pc : Int) + o) (hp : ((pc : Int) + o).toNat = pc') (hn : pc + 3 = pn) (wy : ¬ x < z → Wp X k n h pc' ls st) (wn : x < z → Wp X k n h pn ls st) : Wp X k n h pc ls (.int z :: .int x :: st) := by
  subst hn
  by_cases q : ¬ x < z
  · exact Wp.go C (fun X hX C T locs S e t r => XS.icmpYes S.here C.1 rfl (pc0 := pc) rfl (hb C.2.2.2.1 hd) rfl (flt q).2.1 ho hp r) (wy q)
  · exact Wp.go C (fun X hX C T locs S e t r => XS.icmpNo S.here C.1 rfl (hb C.2.2.2.1 hd) rfl (tlt (Decidable.not_not.mp q)).2.1 r) (wn (by first | exact q | exact Decidable.not_not.mp q))
theorem w_if_ge (C : Hand X Z y bytes mx rt R n0 Q) {o : Int} {x : Int32} {pn : Nat} (hd : decode bytes pc = .ok (.ifCond .ge o, 3)) (ho : 0 ≤ (pc : Int) + o) (hp : ((pc : Int) + o).toNat = pc') (hn : pc + 3 = pn) (wy : ¬ x < (0 : Int32) → Wp X k n h pc' ls st) (wn : x < (0 : Int32) → Wp X k n h pn ls st) : Wp X k n h pc ls (.int x :: st) := by
  subst hn
  by_cases q : ¬ x < (0 : Int32)
  · exact Wp.go C (fun X hX C T locs S e t r => XS.ifYes S.here C.1 rfl (pc0 := pc) rfl (hb C.2.2.2.1 hd) rfl ((if0 _ _).trans (flt q).2.1) ho hp r) (wy q)
  · exact Wp.go C (fun X hX C T locs S e t r => XS.ifNo S.here C.1 rfl (hb C.2.2.2.1 hd) rfl ((if0 _ _).trans (tlt (Decidable.not_not.mp q)).2.1) r) (wn (by first | exact q | exact Decidable.not_not.mp q))
theorem w_icmp_gt (C : Hand X Z y bytes mx rt R n0 Q) {o : Int} {x z : Int32} {pn : Nat} (hd : decode bytes pc = .ok (.if_icmp .gt o, 3)) (ho : 0 ≤ (pc : Int) + o) (hp : ((pc : Int) + o).toNat = pc') (hn : pc + 3 = pn) (wy : z < x → Wp X k n h pc' ls st) (wn : ¬ z < x → Wp X k n h pn ls st) : Wp X k n h pc ls (.int z :: .int x :: st) := by
  subst hn
  by_cases q : z < x
  · exact Wp.go C (fun X hX C T locs S e t r => XS.icmpYes S.here C.1 rfl (pc0 := pc) rfl (hb C.2.2.2.1 hd) rfl (tlt q).2.2.1 ho hp r) (wy q)
  · exact Wp.go C (fun X hX C T locs S e t r => XS.icmpNo S.here C.1 rfl (hb C.2.2.2.1 hd) rfl (flt q).2.2.1 r) (wn (by first | exact q | exact Decidable.not_not.mp q))
theorem w_if_gt (C : Hand X Z y bytes mx rt R n0 Q) {o : Int} {x : Int32} {pn : Nat} (hd : decode bytes pc = .ok (.ifCond .gt o, 3)) (ho : 0 ≤ (pc : Int) + o) (hp : ((pc : Int) + o).toNat = pc') (hn : pc + 3 = pn) (wy : (0 : Int32) < x → Wp X k n h pc' ls st) (wn : ¬ (0 : Int32) < x → Wp X k n h pn ls st) : Wp X k n h pc ls (.int x :: st) := by
  subst hn
  by_cases q : (0 : Int32) < x
  · exact Wp.go C (fun X hX C T locs S e t r => XS.ifYes S.here C.1 rfl (pc0 := pc) rfl (hb C.2.2.2.1 hd) rfl ((if0 _ _).trans (tlt q).2.2.1) ho hp r) (wy q)
  · exact Wp.go C (fun X hX C T locs S e t r => XS.ifNo S.here C.1 rfl (hb C.2.2.2.1 hd) rfl ((if0 _ _).trans (flt q).2.2.1) r) (wn (by first | exact q | exact Decidable.not_not.mp q))
theorem w_icmp_le (C : Hand X Z y bytes mx rt R n0 Q) {o : Int} {x z : Int32} {pn : Nat} (hd : decode bytes pc = .ok (.if_icmp .le o, 3)) (ho : 0 ≤ (pc : Int) + o) (hp : ((pc : Int) + o).toNat = pc') (hn : pc + 3 = pn) (wy : ¬ z < x → Wp X k n h pc' ls st) (wn : z < x → Wp X k n h pn ls st) : Wp X k n h pc ls (.int z :: .int x :: st) := by
  subst hn
  by_cases q : ¬ z < x
  · exact Wp.go C (fun X hX C T locs S e t r => XS.icmpYes S.here C.1 rfl (pc0 := pc) rfl (hb C.2.2.2.1 hd) rfl (flt q).2.2.2 ho hp r) (wy q)
  · exact Wp.go C (fun X hX C T locs S e t r => XS.icmpNo S.here C.1 rfl (hb C.2.2.2.1 hd) rfl (tlt (Decidable.not_not.mp q)).2.2.2 r) (wn (by first | exact q | exact Decidable.not_not.mp q))
theorem w_if_le (C : Hand X Z y bytes mx rt R n0 Q) {o : Int} {x : Int32} {pn : Nat} (hd : decode bytes pc = .ok (.ifCond .le o, 3)) (ho : 0 ≤ (pc : Int) + o) (hp : ((pc : Int) + o).toNat = pc') (hn : pc + 3 = pn) (wy : ¬ (0 : Int32) < x → Wp X k n h pc' ls st) (wn : (0 : Int32) < x → Wp X k n h pn ls st) : Wp X k n h pc ls (.int x :: st) := by
  subst hn
  by_cases q : ¬ (0 : Int32) < x
  · exact Wp.go C (fun X hX C T locs S e t r => XS.ifYes S.here C.1 rfl (pc0 := pc) rfl (hb C.2.2.2.1 hd) rfl ((if0 _ _).trans (flt q).2.2.2) ho hp r) (wy q)
  · exact Wp.go C (fun X hX C T locs S e t r => XS.ifNo S.here C.1 rfl (hb C.2.2.2.1 hd) rfl ((if0 _ _).trans (tlt (Decidable.not_not.mp q)).2.2.2) r) (wn (by first | exact q | exact Decidable.not_not.mp q))
theorem w_lc_eq (C : Hand X Z y bytes mx rt R n0 Q) {o : Int} {x z : Int64} {pm pn : Nat} (hd0 : decode bytes pc = .ok (.lcmp, 1)) (h0 : pc + 1 = pm) (hd : decode bytes pm = .ok (.ifCond .eq o, 3)) (ho : 0 ≤ (pm : Int) + o) (hp : ((pm : Int) + o).toNat = pc') (hn : pm + 3 = pn) (wy : x = z → Wp X k n h pc' ls st) (wn : ¬ x = z → Wp X k n h pn ls st) : Wp X k n h pc ls (.long z :: .long x :: st) :=
  w_lcmp C hd0 h0 (w_if_eq C hd ho hp hn (fun q => wy ((lw_eq x z).mp q)) (fun q => wn ((not_congr (lw_eq x z)).mp q)))
theorem w_lc_ne (C : Hand X Z y bytes mx rt R n0 Q) {o : Int} {x z : Int64} {pm pn : Nat} (hd0 : decode bytes pc = .ok (.lcmp, 1)) (h0 : pc + 1 = pm) (hd : decode bytes pm = .ok (.ifCond .ne o, 3)) (ho : 0 ≤ (pm : Int) + o) (hp : ((pm : Int) + o).toNat = pc') (hn : pm + 3 = pn) (wy : ¬ x = z → Wp X k n h pc' ls st) (wn : x = z → Wp X k n h pn ls st) : Wp X k n h pc ls (.long z :: .long x :: st) :=
  w_lcmp C hd0 h0 (w_if_ne C hd ho hp hn (fun q => wy ((not_congr (lw_eq x z)).mp q)) (fun q => wn ((lw_eq x z).mp q)))
theorem w_lc_lt (C : Hand X Z y bytes mx rt R n0 Q) {o : Int} {x z : Int64} {pm pn : Nat} (hd0 : decode bytes pc = .ok (.lcmp, 1)) (h0 : pc + 1 = pm) (hd : decode bytes pm = .ok (.ifCond .lt o, 3)) (ho : 0 ≤ (pm : Int) + o) (hp : ((pm : Int) + o).toNat = pc') (hn : pm + 3 = pn) (wy : x < z → Wp X k n h pc' ls st) (wn : ¬ x < z → Wp X k n h pn ls st) : Wp X k n h pc ls (.long z :: .long x :: st) :=
  w_lcmp C hd0 h0 (w_if_lt C hd ho hp hn (fun q => wy ((lw_lt x z).mp q)) (fun q => wn ((not_congr (lw_lt x z)).mp q)))
theorem w_lc_ge (C : Hand X Z y bytes mx rt R n0 Q) {o : Int} {x z : Int64} {pm pn : Nat} (hd0 : decode bytes pc = .ok (.lcmp, 1)) (h0 : pc + 1 = pm) (hd : decode bytes pm = .ok (.ifCond .ge o, 3)) (ho : 0 ≤ (pm : Int) + o) (hp : ((pm : Int) + o).toNat = pc') (hn : pm + 3 = pn) (wy : ¬ x < z → Wp X k n h pc' ls st) (wn : x < z → Wp X k n h pn ls st) : Wp X k n h pc ls (.long z :: .long x :: st) :=
  w_lcmp C hd0 h0 (w_if_ge C hd ho hp hn (fun q => wy ((not_congr (lw_lt x z)).mp q)) (fun q => wn ((lw_lt x z).mp q)))
theorem w_lc_gt (C : Hand X Z y bytes mx rt R n0 Q) {o : Int} {x z : Int64} {pm pn : Nat} (hd0 : decode bytes pc = .ok (.lcmp, 1)) (h0 : pc + 1 = pm) (hd : decode bytes pm = .ok (.ifCond .gt o, 3)) (ho : 0 ≤ (pm : Int) + o) (hp : ((pm : Int) + o).toNat = pc') (hn : pm + 3 = pn) (wy : z < x → Wp X k n h pc' ls st) (wn : ¬ z < x → Wp X k n h pn ls st) : Wp X k n h pc ls (.long z :: .long x :: st) :=
  w_lcmp C hd0 h0 (w_if_gt C hd ho hp hn (fun q => wy ((lw_gt x z).mp q)) (fun q => wn ((not_congr (lw_gt x z)).mp q)))
theorem w_lc_le (C : Hand X Z y bytes mx rt R n0 Q) {o : Int} {x z : Int64} {pm pn : Nat} (hd0 : decode bytes pc = .ok (.lcmp, 1)) (h0 : pc + 1 = pm) (hd : decode bytes pm = .ok (.ifCond .le o, 3)) (ho : 0 ≤ (pm : Int) + o) (hp : ((pm : Int) + o).toNat = pc') (hn : pm + 3 = pn) (wy : ¬ z < x → Wp X k n h pc' ls st) (wn : z < x → Wp X k n h pn ls st) : Wp X k n h pc ls (.long z :: .long x :: st) :=
  w_lcmp C hd0 h0 (w_if_le C hd ho hp hn (fun q => wy ((not_congr (lw_gt x z)).mp q)) (fun q => wn ((lw_gt x z).mp q)))
theorem w_jcmp_eq (C : Hand X Z y bytes mx rt R n0 Q) {o : Int} {x z : Int32} {pn : Nat} (hd : decode bytes pc = .ok (.if_icmp .eq o, 3)) (ho : 0 ≤ (pc : Int) + o) (hp : ((pc : Int) + o).toNat = pc') (hn : pc + 3 = pn) (wy : x.toInt = z.toInt → Wp X k n h pc' ls st) (wn : ¬ x.toInt = z.toInt → Wp X k n h pn ls st) : Wp X k n h pc ls (.int z :: .int x :: st) :=
  w_icmp_eq C hd ho hp hn (fun q => wy (Int32.toInt_inj.mpr q)) (fun q => wn (fun r => q (Int32.toInt_inj.mp r)))
theorem w_jf_eq (C : Hand X Z y bytes mx rt R n0 Q) {o : Int} {x : Int32} {pn : Nat} (hd : decode bytes pc = .ok (.ifCond .eq o, 3)) (ho : 0 ≤ (pc : Int) + o) (hp : ((pc : Int) + o).toNat = pc') (hn : pc + 3 = pn) (wy : x.toInt = 0 → Wp X k n h pc' ls st) (wn : ¬ x.toInt = 0 → Wp X k n h pn ls st) : Wp X k n h pc ls (.int x :: st) :=
  w_if_eq C hd ho hp hn (fun q => wy (Int32.toInt_inj.mpr q)) (fun q => wn (fun r => q (Int32.toInt_inj.mp r)))
theorem w_jc_eq (C : Hand X Z y bytes mx rt R n0 Q) {o : Int} {x z : Int64} {pm pn : Nat} (hd0 : decode bytes pc = .ok (.lcmp, 1)) (h0 : pc + 1 = pm) (hd : decode bytes pm = .ok (.ifCond .eq o, 3)) (ho : 0 ≤ (pm : Int) + o) (hp : ((pm : Int) + o).toNat = pc') (hn : pm + 3 = pn) (wy : x.toInt = z.toInt → Wp X k n h pc' ls st) (wn : ¬ x.toInt = z.toInt → Wp X k n h pn ls st) : Wp X k n h pc ls (.long z :: .long x :: st) :=
  w_lc_eq C hd0 h0 hd ho hp hn (fun q => wy (Int64.toInt_inj.mpr q)) (fun q => wn (fun r => q (Int64.toInt_inj.mp r)))
theorem w_jcmp_ne (C : Hand X Z y bytes mx rt R n0 Q) {o : Int} {x z : Int32} {pn : Nat} (hd : decode bytes pc = .ok (.if_icmp .ne o, 3)) (ho : 0 ≤ (pc : Int) + o) (hp : ((pc : Int) + o).toNat = pc') (hn : pc + 3 = pn) (wy : ¬ x.toInt = z.toInt → Wp X k n h pc' ls st) (wn : x.toInt = z.toInt → Wp X k n h pn ls st) : Wp X k n h pc ls (.int z :: .int x :: st) :=
  w_icmp_ne C hd ho hp hn (fun q => wy (fun r => q (Int32.toInt_inj.mp r))) (fun q => wn (Int32.toInt_inj.mpr q))
theorem w_jf_ne (C : Hand X Z y bytes mx rt R n0 Q) {o : Int} {x : Int32} {pn : Nat} (hd : decode bytes pc = .ok (.ifCond .ne o, 3)) (ho : 0 ≤ (pc : Int) + o) (hp : ((pc : Int) + o).toNat = pc') (hn : pc + 3 = pn) (wy : ¬ x.toInt = 0 → Wp X k n h pc' ls st) (wn : x.toInt = 0 → Wp X k n h pn ls st) : Wp X k n h pc ls (.int x :: st) :=
  w_if_ne C hd ho hp hn (fun q => wy (fun r => q (Int32.toInt_inj.mp r))) (fun q => wn (Int32.toInt_inj.mpr q))
theorem w_jc_ne (C : Hand X Z y bytes mx rt R n0 Q) {o : Int} {x z : Int64} {pm pn : Nat} (hd0 : decode bytes pc = .ok (.lcmp, 1)) (h0 : pc + 1 = pm) (hd : decode bytes pm = .ok (.ifCond .ne o, 3)) (ho : 0 ≤ (pm : Int) + o) (hp : ((pm : Int) + o).toNat = pc') (hn : pm + 3 = pn) (wy : ¬ x.toInt = z.toInt → Wp X k n h pc' ls st) (wn : x.toInt = z.toInt → Wp X k n h pn ls st) : Wp X k n h pc ls (.long z :: .long x :: st) :=
  w_lc_ne C hd0 h0 hd ho hp hn (fun q => wy (fun r => q (Int64.toInt_inj.mp r))) (fun q => wn (Int64.toInt_inj.mpr q))
theorem w_jcmp_lt (C : Hand X Z y bytes mx rt R n0 Q) {o : Int} {x z : Int32} {pn : Nat} (hd : decode bytes pc = .ok (.if_icmp .lt o, 3)) (ho : 0 ≤ (pc : Int) + o) (hp : ((pc : Int) + o).toNat = pc') (hn : pc + 3 = pn) (wy : x.toInt < z.toInt → Wp X k n h pc' ls st) (wn : z.toInt ≤ x.toInt → Wp X k n h pn ls st) : Wp X k n h pc ls (.int z :: .int x :: st) :=
  w_icmp_lt C hd ho hp hn (fun q => wy (Int32.lt_iff_toInt_lt.mp q)) (fun q => wn (Int.not_lt.mp (fun r => q (Int32.lt_iff_toInt_lt.mpr r))))
theorem w_jf_lt (C : Hand X Z y bytes mx rt R n0 Q) {o : Int} {x : Int32} {pn : Nat} (hd : decode bytes pc = .ok (.ifCond .lt o, 3)) (ho : 0 ≤ (pc : Int) + o) (hp : ((pc : Int) + o).toNat = pc') (hn : pc + 3 = pn) (wy : x.toInt < 0 → Wp X k n h pc' ls st) (wn : 0 ≤ x.toInt → Wp X k n h pn ls st) : Wp X k n h pc ls (.int x :: st) :=
  w_if_lt C hd ho hp hn (fun q => wy (Int32.lt_iff_toInt_lt.mp q)) (fun q => wn (Int.not_lt.mp (fun r => q (Int32.lt_iff_toInt_lt.mpr r))))
theorem w_jc_lt (C : Hand X Z y bytes mx rt R n0 Q) {o : Int} {x z : Int64} {pm pn : Nat} (hd0 : decode bytes pc = .ok (.lcmp, 1)) (h0 : pc + 1 = pm) (hd : decode bytes pm = .ok (.ifCond .lt o, 3)) (ho : 0 ≤ (pm : Int) + o) (hp : ((pm : Int) + o).toNat = pc') (hn : pm + 3 = pn) (wy : x.toInt < z.toInt → Wp X k n h pc' ls st) (wn : z.toInt ≤ x.toInt → Wp X k n h pn ls st) : Wp X k n h pc ls (.long z :: .long x :: st) :=
  w_lc_lt C hd0 h0 hd ho hp hn (fun q => wy (Int64.lt_iff_toInt_lt.mp q)) (fun q => wn (Int.not_lt.mp (fun r => q (Int64.lt_iff_toInt_lt.mpr r))))
theorem w_jcmp_ge (C : Hand X Z y bytes mx rt R n0 Q) {o : Int} {x z : Int32} {pn : Nat} (hd : decode bytes pc = .ok (.if_icmp .ge o, 3)) (ho : 0 ≤ (pc : Int) + o) (hp : ((pc : Int) + o).toNat = pc') (hn : pc + 3 = pn) (wy : z.toInt ≤ x.toInt → Wp X k n h pc' ls st) (wn : x.toInt < z.toInt → Wp X k n h pn ls st) : Wp X k n h pc ls (.int z :: .int x :: st) :=
  w_icmp_ge C hd ho hp hn (fun q => wy (Int.not_lt.mp (fun r => q (Int32.lt_iff_toInt_lt.mpr r)))) (fun q => wn (Int32.lt_iff_toInt_lt.mp q))
theorem w_jf_ge (C : Hand X Z y bytes mx rt R n0 Q) {o : Int} {x : Int32} {pn : Nat} (hd : decode bytes pc = .ok (.ifCond .ge o, 3)) (ho : 0 ≤ (pc : Int) + o) (hp : ((pc : Int) + o).toNat = pc') (hn : pc + 3 = pn) (wy : 0 ≤ x.toInt → Wp X k n h pc' ls st) (wn : x.toInt < 0 → Wp X k n h pn ls st) : Wp X k n h pc ls (.int x :: st) :=
  w_if_ge C hd ho hp hn (fun q => wy (Int.not_lt.mp (fun r => q (Int32.lt_iff_toInt_lt.mpr r)))) (fun q => wn (Int32.lt_iff_toInt_lt.mp q))
theorem w_jc_ge (C : Hand X Z y bytes mx rt R n0 Q) {o : Int} {x z : Int64} {pm pn : Nat} (hd0 : decode bytes pc = .ok (.lcmp, 1)) (h0 : pc + 1 = pm) (hd : decode bytes pm = .ok (.ifCond .ge o, 3)) (ho : 0 ≤ (pm : Int) + o) (hp : ((pm : Int) + o).toNat = pc') (hn : pm + 3 = pn) (wy : z.toInt ≤ x.toInt → Wp X k n h pc' ls st) (wn : x.toInt < z.toInt → Wp X k n h pn ls st) : Wp X k n h pc ls (.long z :: .long x :: st) :=
  w_lc_ge C hd0 h0 hd ho hp hn (fun q => wy (Int.not_lt.mp (fun r => q (Int64.lt_iff_toInt_lt.mpr r)))) (fun q => wn (Int64.lt_iff_toInt_lt.mp q))
theorem w_jcmp_gt (C : Hand X Z y bytes mx rt R n0 Q) {o : Int} {x z : Int32} {pn : Nat} (hd : decode bytes pc = .ok (.if_icmp .gt o, 3)) (ho : 0 ≤ (pc : Int) + o) (hp : ((pc : Int) + o).toNat = pc') (hn : pc + 3 = pn) (wy : z.toInt < x.toInt → Wp X k n h pc' ls st) (wn : x.toInt ≤ z.toInt → Wp X k n h pn ls st) : Wp X k n h pc ls (.int z :: .int x :: st) :=
  w_icmp_gt C hd ho hp hn (fun q => wy (Int32.lt_iff_toInt_lt.mp q)) (fun q => wn (Int.not_lt.mp (fun r => q (Int32.lt_iff_toInt_lt.mpr r))))
theorem w_jf_gt (C : Hand X Z y bytes mx rt R n0 Q) {o : Int} {x : Int32} {pn : Nat} (hd : decode bytes pc = .ok (.ifCond .gt o, 3)) (ho : 0 ≤ (pc : Int) + o) (hp : ((pc : Int) + o).toNat = pc') (hn : pc + 3 = pn) (wy : 0 < x.toInt → Wp X k n h pc' ls st) (wn : x.toInt ≤ 0 → Wp X k n h pn ls st) : Wp X k n h pc ls (.int x :: st) :=
  w_if_gt C hd ho hp hn (fun q => wy (Int32.lt_iff_toInt_lt.mp q)) (fun q => wn (Int.not_lt.mp (fun r => q (Int32.lt_iff_toInt_lt.mpr r))))
theorem w_jc_gt (C : Hand X Z y bytes mx rt R n0 Q) {o : Int} {x z : Int64} {pm pn : Nat} (hd0 : decode bytes pc = .ok (.lcmp, 1)) (h0 : pc + 1 = pm) (hd : decode bytes pm = .ok (.ifCond .gt o, 3)) (ho : 0 ≤ (pm : Int) + o) (hp : ((pm : Int) + o).toNat = pc') (hn : pm + 3 = pn) (wy : z.toInt < x.toInt → Wp X k n h pc' ls st) (wn : x.toInt ≤ z.toInt → Wp X k n h pn ls st) : Wp X k n h pc ls (.long z :: .long x :: st) :=
  w_lc_gt C hd0 h0 hd ho hp hn (fun q => wy (Int64.lt_iff_toInt_lt.mp q)) (fun q => wn (Int.not_lt.mp (fun r => q (Int64.lt_iff_toInt_lt.mpr r))))
theorem w_jcmp_le (C : Hand X Z y bytes mx rt R n0 Q) {o : Int} {x z : Int32} {pn : Nat} (hd : decode bytes pc = .ok (.if_icmp .le o, 3)) (ho : 0 ≤ (pc : Int) + o) (hp : ((pc : Int) + o).toNat = pc') (hn : pc + 3 = pn) (wy : x.toInt ≤ z.toInt → Wp X k n h pc' ls st) (wn : z.toInt < x.toInt → Wp X k n h pn ls st) : Wp X k n h pc ls (.int z :: .int x :: st) :=
  w_icmp_le C hd ho hp hn (fun q => wy (Int.not_lt.mp (fun r => q (Int32.lt_iff_toInt_lt.mpr r)))) (fun q => wn (Int32.lt_iff_toInt_lt.mp q))
theorem w_jf_le (C : Hand X Z y bytes mx rt R n0 Q) {o : Int} {x : Int32} {pn : Nat} (hd : decode bytes pc = .ok (.ifCond .le o, 3)) (ho : 0 ≤ (pc : Int) + o) (hp : ((pc : Int) + o).toNat = pc') (hn : pc + 3 = pn) (wy : x.toInt ≤ 0 → Wp X k n h pc' ls st) (wn : 0 < x.toInt → Wp X k n h pn ls st) : Wp X k n h pc ls (.int x :: st) :=
  w_if_le C hd ho hp hn (fun q => wy (Int.not_lt.mp (fun r => q (Int32.lt_iff_toInt_lt.mpr r)))) (fun q => wn (Int32.lt_iff_toInt_lt.mp q))
theorem w_jc_le (C : Hand X Z y bytes mx rt R n0 Q) {o : Int} {x z : Int64} {pm pn : Nat} (hd0 : decode bytes pc = .ok (.lcmp, 1)) (h0 : pc + 1 = pm) (hd : decode bytes pm = .ok (.ifCond .le o, 3)) (ho : 0 ≤ (pm : Int) + o) (hp : ((pm : Int) + o).toNat = pc') (hn : pm + 3 = pn) (wy : x.toInt ≤ z.toInt → Wp X k n h pc' ls st) (wn : z.toInt < x.toInt → Wp X k n h pn ls st) : Wp X k n h pc ls (.long z :: .long x :: st) :=
  w_lc_le C hd0 h0 hd ho hp hn (fun q => wy (Int.not_lt.mp (fun r => q (Int64.lt_iff_toInt_lt.mpr r)))) (fun q => wn (Int64.lt_iff_toInt_lt.mp q))
theorem w_ifnonnullY (C : Hand X Z y bytes mx rt R n0 Q) {o : Int} {b : Addr} (hd : decode bytes pc = .ok (.ifnonnull o, 3)) (ho : 0 ≤ (pc : Int) + o) (hp : ((pc : Int) + o).toNat = pc') (w : Wp X k n h pc' ls st) : Wp X k n h pc ls (.ref b :: st) :=
  Wp.go C (fun X hX C T locs S e t r => XS.ifnonnullYes S.here C.1 rfl (pc0 := pc) rfl (hb C.2.2.2.1 hd) rfl ho hp r) w
theorem w_ifnonnullN (C : Hand X Z y bytes mx rt R n0 Q) {o : Int} (hd : decode bytes pc = .ok (.ifnonnull o, 3)) (hp : pc + 3 = pc') (w : Wp X k n h pc' ls st) : Wp X k n h pc ls (.null :: st) := by
  subst hp; exact Wp.go C (fun X hX C T locs S e t r => XS.ifnonnullNo S.here C.1 rfl (hb C.2.2.2.1 hd) rfl r) w
theorem w_ifnullN (C : Hand X Z y bytes mx rt R n0 Q) {o : Int} {b : Addr} (hd : decode bytes pc = .ok (.ifnull o, 3)) (hp : pc + 3 = pc') (w : Wp X k n h pc' ls st) : Wp X k n h pc ls (.ref b :: st) := by
  subst hp; exact Wp.go C (fun X hX C T locs S e t r => XS.ifnullNo S.here C.1 rfl (hb C.2.2.2.1 hd) rfl r) w
theorem w_ifnullY (C : Hand X Z y bytes mx rt R n0 Q) {o : Int} (hd : decode bytes pc = .ok (.ifnull o, 3)) (ho : 0 ≤ (pc : Int) + o) (hp : ((pc : Int) + o).toNat = pc') (w : Wp X k n h pc' ls st) : Wp X k n h pc ls (.null :: st) :=
  Wp.go C (fun X hX C T locs S e t r => XS.ifnullYes S.here C.1 rfl (pc0 := pc) rfl (hb C.2.2.2.1 hd) rfl ho hp r) w
theorem w_acmp_eq (C : Hand X Z y bytes mx rt R n0 Q) {o : Int} {x z : Value} {pn : Nat} (h1 : x.isRef = true) (h2 : z.isRef = true) (hd : decode bytes pc = .ok (.if_acmp .eq o, 3)) (ho : 0 ≤ (pc : Int) + o) (hp : ((pc : Int) + o).toNat = pc') (hn : pc + 3 = pn) (wy : x = z → Wp X k n h pc' ls st) (wn : ¬ x = z → Wp X k n h pn ls st) : Wp X k n h pc ls (z :: x :: st) := by
  by_cases q : x = z
  · exact Wp.go C (fun X hX C T locs S e t r => acmp S C.1 rfl h1 h2 (pc0 := pc) (same := true) rfl (hb C.2.2.2.1 hd) rfl (by simp [q]) ho (by simp [acV, hp]) r) (wy q)
  · exact Wp.go C (fun X hX C T locs S e t r => acmp S C.1 rfl h1 h2 (pc0 := pc) (same := false) rfl (hb C.2.2.2.1 hd) rfl (by simp [q]) ho (by simp [acV, hn]) r) (wn q)
theorem w_acmp_ne (C : Hand X Z y bytes mx rt R n0 Q) {o : Int} {x z : Value} {pn : Nat} (h1 : x.isRef = true) (h2 : z.isRef = true) (hd : decode bytes pc = .ok (.if_acmp .ne o, 3)) (ho : 0 ≤ (pc : Int) + o) (hp : ((pc : Int) + o).toNat = pc') (hn : pc + 3 = pn) (wy : ¬ x = z → Wp X k n h pc' ls st) (wn : x = z → Wp X k n h pn ls st) : Wp X k n h pc ls (z :: x :: st) := by
  by_cases q : x = z
  · exact Wp.go C (fun X hX C T locs S e t r => acmp S C.1 rfl h1 h2 (pc0 := pc) (same := true) rfl (hb C.2.2.2.1 hd) rfl (by simp [q]) ho (by simp [acV, hn]) r) (wn q)
  · exact Wp.go C (fun X hX C T locs S e t r => acmp S C.1 rfl h1 h2 (pc0 := pc) (same := false) rfl (hb C.2.2.2.1 hd) rfl (by simp [q]) ho (by simp [acV, hp]) r) (wy q)
/-! returns -/
theorem w_iret {t : FieldType} (C : Hand X Z y bytes mx (some t) R n0 Q) {z : Int32} (hd : decode bytes pc = .ok (.ireturn, 1)) (ht : t = .int ∨ t = .boolean ∨ t = .byte ∨ t = .char ∨ t = .short) (hz : narrow t (.int z) = .int z) (hk : k ≤ R.cells) (hn : n ≤ R.slots) (q : Q (some (.int z)) h) : Wp X k n h pc ls (.int z :: st) :=
  w_done C (fun z => by cases z) hk hn q fun X C T locs fs S hr => retOut S C.1 C.2.2.2.2.2.1 hz (Or.inl ⟨rfl, ht, z, rfl⟩) (hb C.2.2.2.1 hd) hr
theorem w_lret (C : Hand X Z y bytes mx (some .long) R n0 Q) {z : Int64} (hd : decode bytes pc = .ok (.lreturn, 1)) (hk : k ≤ R.cells) (hn : n ≤ R.slots) (q : Q (some (.long z)) h) : Wp X k n h pc ls (.long z :: st) :=
  w_done C (fun z => by cases z) hk hn q fun X C T locs fs S hr => retOut S C.1 C.2.2.2.2.2.1 rfl (Or.inr (Or.inl ⟨rfl, rfl, z, rfl⟩)) (hb C.2.2.2.1 hd) hr
theorem w_aret {t : FieldType} (C : Hand X Z y bytes mx (some t) R n0 Q) {a : Addr} (hd : decode bytes pc = .ok (.areturn, 1)) (ht : t.isReference = true) (hz : narrow t (.ref a) = .ref a) (hk : k ≤ R.cells) (hn : n ≤ R.slots) (q : Q (some (.ref a)) h) : Wp X k n h pc ls (.ref a :: st) :=
  w_done C (fun z => by cases z) hk hn q fun X C T locs fs S hr => retOut S C.1 C.2.2.2.2.2.1 hz (Or.inr (Or.inr (Or.inr (Or.inr ⟨rfl, ht, rfl⟩)))) (hb C.2.2.2.1 hd) hr
theorem w_vret (C : Hand X Z y bytes mx none R n0 Q) (hd : decode bytes pc = .ok (.return_, 1)) (hk : k ≤ R.cells) (hn : n ≤ R.slots) (q : Q none h) : Wp X k n h pc ls [] :=
  w_done C (fun _ => rfl) hk hn q fun X C T locs fs S hr => S.returnOut C.1 C.2.2.2.2.2.1 (hb C.2.2.2.1 hd) hr
/-! arrays -/
def Ars (Z : State) (h : Heap) (a : Addr) (ty : FieldType) (vs : List Value) : Prop := ∃ c : Cell, Arr Z h a c ty ∧ c.slots.toList = vs ∧ vs.length < 2 ^ 31
variable {h' : Heap} {a b : Addr} {ty : FieldType} {vs : List Value}
theorem Ars.lt (F : Ars Z h a ty vs) : a < h.size := by obtain ⟨c, A, -⟩ := F; exact A.lt
theorem Ars.ext (F : Ars Z h a ty vs) (E : Ext h h') : Ars Z h' a ty vs := by obtain ⟨c, A, r⟩ := F; exact ⟨c, A.ext E, r⟩
theorem Ars.other {sl : Nat} {v : Value} (F : Ars Z h b ty vs) (W : Wr h h' a sl v) (q : b ≠ a) : Ars Z h' b ty vs := by obtain ⟨c, A, r⟩ := F; exact ⟨c, A.other W q, r⟩
theorem Ars.same {i : Nat} {v : Value} (F : Ars Z h a ty vs) (W : Wr h h' a i v) : Ars Z h' a ty (vs.set i v) := by
  obtain ⟨c, A, rfl, r⟩ := F
  exact ⟨_, A.same W, by simp [Cell.setSlot], by simpa using r⟩
theorem Ars.keep {ws : List Addr} (F : Ars Z h a ty vs) (K : Keep h h' ws) (q : a ∉ ws) : Ars Z h' a ty vs := by obtain ⟨c, A, r⟩ := F; exact ⟨c, ⟨K.2.1 a c A.1 q, A.2⟩, r⟩
theorem Ars.inb {c : Cell} {j : Int32} {i : Nat} (e : c.slots.toList = vs) (hj : ¬ j < 0) (hi : j.toNatClampNeg = i) (hl : i < vs.length) : ¬ (j < 0 ∨ c.slots.size ≤ j.toNatClampNeg) := by
  subst e hi; intro q; rcases q with q | q
  · exact hj q
  · simp at hl; omega
theorem w_iastore (C : Hand X Z y bytes mx rt R n0 Q) {j : Int32} {x : Int32} {i : Nat} (hd : decode bytes pc = .ok (.iastore, 1)) (A : Ars Z h a .int vs) (hn : n0 ≤ a) (hj : ¬ j < 0) (hi : j.toNatClampNeg = i) (hl : i < vs.length) (hp : pc + 1 = pc')
    (w : ∀ h', Wr h h' a i (.int x) → Ars Z h' a .int (vs.set i (.int x)) → Wp X k n h' pc' ls st) : Wp X k n h pc ls (.int x :: .int j :: .ref a :: st) := by
  subst hp hi
  refine Wp.to C (P := fun h' st' => st' = st ∧ Wr h h' a j.toNatClampNeg (.int x)) (fun X hX C T locs S e => ?_) (fun h' st' q => by obtain ⟨rfl, W⟩ := q; exact w h' W (A.same W))
  obtain ⟨c, Ac, ec, -⟩ := A
  obtain ⟨T', h', S', e', W', st⟩ := stI S C.1 C.2.1 e Ac (j := j) (x := x) (Ars.inb ec hj rfl hl) (g := mkF X.m pc ls (.int x :: .int j :: .ref a :: st)) rfl rfl (hb C.2.2.2.1 hd)
  exact ⟨T', _, h', _, S', e', fun q hq => by cases List.mem_singleton.mp hq; rw [C.2.2.2.2.2.2.2.2.2.2.1]; exact hn, Nat.le_of_eq W'.size.symm, ⟨rfl, W'⟩, st⟩
theorem w_lastore (C : Hand X Z y bytes mx rt R n0 Q) {j : Int32} {x : Int64} {i : Nat} (hd : decode bytes pc = .ok (.lastore, 1)) (A : Ars Z h a .long vs) (hn : n0 ≤ a) (hj : ¬ j < 0) (hi : j.toNatClampNeg = i) (hl : i < vs.length) (hp : pc + 1 = pc')
    (w : ∀ h', Wr h h' a i (.long x) → Ars Z h' a .long (vs.set i (.long x)) → Wp X k n h' pc' ls st) : Wp X k n h pc ls (.long x :: .int j :: .ref a :: st) := by
  subst hp hi
  refine Wp.to C (P := fun h' st' => st' = st ∧ Wr h h' a j.toNatClampNeg (.long x)) (fun X hX C T locs S e => ?_) (fun h' st' q => by obtain ⟨rfl, W⟩ := q; exact w h' W (A.same W))
  obtain ⟨c, Ac, ec, -⟩ := A
  obtain ⟨T', h', S', e', W', st⟩ := stJ S C.1 C.2.1 e Ac (j := j) (x := x) (Ars.inb ec hj rfl hl) (g := mkF X.m pc ls (.long x :: .int j :: .ref a :: st)) rfl rfl (hb C.2.2.2.1 hd)
  exact ⟨T', _, h', _, S', e', fun q hq => by cases List.mem_singleton.mp hq; rw [C.2.2.2.2.2.2.2.2.2.2.1]; exact hn, Nat.le_of_eq W'.size.symm, ⟨rfl, W'⟩, st⟩
theorem w_bastore (C : Hand X Z y bytes mx rt R n0 Q) {j : Int32} {x : Int32} {i : Nat} (hd : decode bytes pc = .ok (.bastore, 1)) (A : Ars Z h a .byte vs) (hn : n0 ≤ a) (hj : ¬ j < 0) (hi : j.toNatClampNeg = i) (hl : i < vs.length) (hp : pc + 1 = pc')
    (w : ∀ h', Wr h h' a i (.int x.toInt8.toInt32) → Ars Z h' a .byte (vs.set i (.int x.toInt8.toInt32)) → Wp X k n h' pc' ls st) : Wp X k n h pc ls (.int x :: .int j :: .ref a :: st) := by
  subst hp hi
  refine Wp.to C (P := fun h' st' => st' = st ∧ Wr h h' a j.toNatClampNeg (.int x.toInt8.toInt32)) (fun X hX C T locs S e => ?_) (fun h' st' q => by obtain ⟨rfl, W⟩ := q; exact w h' W (A.same W))
  obtain ⟨c, Ac, ec, -⟩ := A
  obtain ⟨T', h', S', e', W', st⟩ := stB S C.1 C.2.1 e Ac (j := j) (x := x) (Ars.inb ec hj rfl hl) (g := mkF X.m pc ls (.int x :: .int j :: .ref a :: st)) rfl rfl (hb C.2.2.2.1 hd)
  exact ⟨T', _, h', _, S', e', fun q hq => by cases List.mem_singleton.mp hq; rw [C.2.2.2.2.2.2.2.2.2.2.1]; exact hn, Nat.le_of_eq W'.size.symm, ⟨rfl, W'⟩, st⟩
theorem w_iaload (C : Hand X Z y bytes mx rt R n0 Q) {j : Int32} {v : Value} {i : Nat} (hd : decode bytes pc = .ok (.iaload, 1)) (A : Ars Z h a .int vs) (hj : ¬ j < 0) (hi : j.toNatClampNeg = i) (hv : vs[i]? = some v) (hp : pc + 1 = pc') (w : Wp X k n h pc' ls (v :: st)) : Wp X k n h pc ls (.int j :: .ref a :: st) := by
  subst hp hi
  obtain ⟨c, Ac, ec, -⟩ := A
  have hl : j.toNatClampNeg < vs.length := (List.getElem?_eq_some_iff.mp hv).1
  refine Wp.go C (fun X hX C T locs S e t q => S.iaload C.1 (j := j) (v := v) (by rw [e]; exact Ac.1) (State.isArrayOf_alike C.2.1.alike Ac.2.1) Ac.2.2 (Ars.inb ec hj rfl hl) (by subst ec; simpa using hv) (g := mkF X.m pc ls (.int j :: .ref a :: st)) rfl rfl (hb C.2.2.2.1 hd) t q) w
theorem w_laload (C : Hand X Z y bytes mx rt R n0 Q) {j : Int32} {v : Value} {i : Nat} (hd : decode bytes pc = .ok (.laload, 1)) (A : Ars Z h a .long vs) (hj : ¬ j < 0) (hi : j.toNatClampNeg = i) (hv : vs[i]? = some v) (hp : pc + 1 = pc') (w : Wp X k n h pc' ls (v :: st)) : Wp X k n h pc ls (.int j :: .ref a :: st) := by
  subst hp hi
  obtain ⟨c, Ac, ec, -⟩ := A
  have hl : j.toNatClampNeg < vs.length := (List.getElem?_eq_some_iff.mp hv).1
  refine Wp.go C (fun X hX C T locs S e t q => S.laload C.1 (j := j) (v := v) (by rw [e]; exact Ac.1) (State.isArrayOf_alike C.2.1.alike Ac.2.1) Ac.2.2 (Ars.inb ec hj rfl hl) (by subst ec; simpa using hv) (g := mkF X.m pc ls (.int j :: .ref a :: st)) rfl rfl (hb C.2.2.2.1 hd) t q) w
theorem w_baload (C : Hand X Z y bytes mx rt R n0 Q) {j : Int32} {v : Value} {i : Nat} (hd : decode bytes pc = .ok (.baload, 1)) (A : Ars Z h a .byte vs) (hj : ¬ j < 0) (hi : j.toNatClampNeg = i) (hv : vs[i]? = some v) (hp : pc + 1 = pc') (w : Wp X k n h pc' ls (v :: st)) : Wp X k n h pc ls (.int j :: .ref a :: st) := by
  subst hp hi
  obtain ⟨c, Ac, ec, -⟩ := A
  have hl : j.toNatClampNeg < vs.length := (List.getElem?_eq_some_iff.mp hv).1
  refine Wp.go C (fun X hX C T locs S e t q => S.baloadBytes C.1 (j := j) (v := v) (by rw [e]; exact Ac.1) (State.isArrayOf_alike C.2.1.alike Ac.2.1) Ac.2.2 (Ars.inb ec hj rfl hl) (by subst ec; simpa using hv) (g := mkF X.m pc ls (.int j :: .ref a :: st)) rfl rfl (hb C.2.2.2.1 hd) t q) w
theorem w_alen (C : Hand X Z y bytes mx rt R n0 Q) {z : Int32} (hd : decode bytes pc = .ok (.arraylength, 1)) (A : Ars Z h a ty vs) (hz : vs.length.toInt32 = z) (hp : pc + 1 = pc') (w : Wp X k n h pc' ls (.int z :: st)) : Wp X k n h pc ls (.ref a :: st) := by
  subst hp hz
  obtain ⟨c, Ac, rfl, -⟩ := A
  refine Wp.go C (fun X hX C T locs S e t q => S.arraylength C.1 (by rw [e]; exact Ac.1) (State.isArrayOf_alike C.2.1.alike Ac.2.1) (g := mkF X.m pc ls (.ref a :: st)) rfl rfl (hb C.2.2.2.1 hd) t (by simpa using q)) w
theorem w_newarray (C : Hand X Z y bytes mx rt R n0 Q) {aty : ArrayType} {z : Int32} {cap : Nat} (hw : (Jvm.Cond.arrayClass (newarray.typeOf aty)).before a0 Z = true) (hd : decode bytes pc = .ok (.newarray aty, 2)) (hz : ¬ z < 0) (hcap : z.toNatClampNeg ≤ cap) (hb8 : cap * 8 ≤ 536870912) (hc : k + 1 ≤ R.cells) (hl : n + cap ≤ R.slots) (hp : pc + 2 = pc')
    (w : ∀ h' a, a = h.size → n0 ≤ a → Ext h h' → Ars Z h' a (newarray.typeOf aty) (List.replicate z.toNatClampNeg (defaultValue (newarray.typeOf aty))) → Wp X (k + 1) (n + cap) h' pc' ls (.ref a :: st)) : Wp X k n h pc ls (.int z :: st) := by
  subst hp
  refine Wp.size C fun hsz => Wp.to C (P := fun h' st' => st' = .ref h.size :: st ∧ Ext h h' ∧ Ars Z h' h.size (newarray.typeOf aty) (List.replicate z.toNatClampNeg (defaultValue (newarray.typeOf aty)))) (fun X hX C T locs S e => ?_) (fun h' st' q => by obtain ⟨rfl, E, A⟩ := q; exact w h' _ rfl hsz E A)
  obtain ⟨T', h', cA, S', e', E', A', st⟩ := newP S C.1 C.2.1 hw e (g := mkF X.m pc ls (.int z :: st)) rfl (hb C.2.2.2.1 hd) rfl hz hcap hb8 (by rw [C.2.2.2.2.2.2.2.1]; exact hc) (by rw [C.2.2.2.2.2.2.2.1]; exact hl)
  exact ⟨T', [], h', _, by rw [toL]; exact S', e', Fr.nil _, E'.1, ⟨rfl, E', _, A', by simp [newA], by simpa using (back32 hz).2⟩, st⟩
/-! objects -/
theorem w_new (C : Hand X Z y bytes mx rt R n0 Q) {i nn : Nat} {K : String} (hw : (Jvm.Cond.classLink y.cls i K).before a0 Z = true) (wi : (Jvm.Cond.instantiable K nn).before a0 Z = true) (wz : (Jvm.Cond.initialized K).before a0 Z = true) (hd : decode bytes pc = .ok (.new i, 3)) (hc : k + 1 ≤ R.cells) (hl : n + nn ≤ R.slots) (hp : pc + 3 = pc')
    (w : ∀ h' a, a = h.size → n0 ≤ a → Ext h h' → Exa Z h' a K → (∀ {O nm d : String} {ty : FieldType}, Laid Z a0 K O nm d → parseFieldDescriptor d = some ty → Fld Z h' a O nm d (defaultValue ty)) → Wp X (k + 1) (n + nn) h' pc' ls (.ref a :: st)) : Wp X k n h pc ls st := by
  subst hp
  refine Wp.size C fun hsz => Wp.to C (P := fun h' st' => st' = .ref h.size :: st ∧ Ext h h' ∧ Exa Z h' h.size K ∧ ∀ {O nm d : String} {ty : FieldType}, Laid Z a0 K O nm d → parseFieldDescriptor d = some ty → Fld Z h' h.size O nm d (defaultValue ty)) (fun X hX C T locs S e => ?_) (fun h' st' q => by obtain ⟨rfl, E, A, D⟩ := q; exact w h' _ rfl hsz E A D)
  obtain ⟨T', h', S', e', E', A', D', -, st⟩ := newO S C.1 C.2.1 C.2.2.1 hw wi wz e (g := mkF X.m pc ls st) rfl (hb C.2.2.2.1 hd) (by rw [C.2.2.2.2.2.2.2.1]; exact hc) (by rw [C.2.2.2.2.2.2.2.1]; exact hl)
  exact ⟨T', [], h', _, by rw [toL]; exact S', e', Fr.nil _, E'.1, ⟨rfl, E', A', D'⟩, st⟩
theorem w_initO (C : Hand X Z y bytes mx rt R n0 Q) {i W : Nat} (w1 : (Jvm.Cond.methodLink y.cls i Lib.objectInit).before a0 Z = true) (w2 : (Jvm.Cond.instanceMethod Lib.objectInit).before a0 Z = true) (w3 : (Jvm.Cond.code Lib.objectInit ⟨#[0xb1]⟩ 1 none).before a0 Z = true)
    (hd : decode bytes pc = .ok (.invokespecial i, 3)) (hls : ls.size = mx) (hf : 1 ≤ R.frames) (hW : (st.map fun v => v.category).sum = W) (hl : W + 12 ≤ R.locals) (hp : pc + 3 = pc') (w : Wp X k n h pc' ls st) : Wp X k n h pc ls (.ref a :: st) := by
  subst hp hW
  refine Wp.to C (P := fun h' st' => h' = h ∧ st' = st) (fun X hX C T locs S e => ?_) (fun h' st' q => by obtain ⟨rfl, rfl⟩ := q; exact w)
  obtain ⟨T', S', e', st⟩ := initO S C.1 C.2.1 C.2.2.1 w1 w2 w3 e (g := mkF X.m pc ls (.ref a :: st)) rfl (by rw [C.2.2.2.2.1]; exact hls) rfl (hb C.2.2.2.1 hd) (by rw [C.2.2.2.2.2.2.2.1]; exact hf) (W := (st.map fun v => v.category).sum) (by show 2 * 0 + _ ≤ _; omega) (by rw [C.2.2.2.2.2.2.2.1]; exact hl)
  exact ⟨T', [], h, _, by rw [toL]; exact S', e', Fr.nil _, Nat.le_refl _, ⟨rfl, rfl⟩, st⟩
theorem w_getfield (C : Hand X Z y bytes mx rt R n0 Q) {i : Nat} {O f d : String} {v : Value} (hw : (Jvm.Cond.fieldLink y.cls i O f d).before a0 Z = true) (hd : decode bytes pc = .ok (.getfield i, 3)) (F : Fld Z h a O f d v) (hp : pc + 3 = pc') (w : Wp X k n h pc' ls (v :: st)) : Wp X k n h pc ls (.ref a :: st) := by
  subst hp
  refine Wp.to C (P := fun h' st' => h' = h ∧ st' = v :: st) (fun X hX C T locs S e => ?_) (fun h' st' q => by obtain ⟨rfl, rfl⟩ := q; exact w)
  obtain ⟨T', S', e', st⟩ := getF S C.1 C.2.1 (host := "") C.2.2.1 (Or.inl hw) Via.refl e F (g := mkF X.m pc ls (.ref a :: st)) rfl rfl (hb C.2.2.2.1 hd)
  exact ⟨T', [], h, _, by rw [toL]; exact S', e', Fr.nil _, Nat.le_refl _, ⟨rfl, rfl⟩, st⟩
theorem w_getstatic (C : Hand X Z y bytes mx rt R n0 Q) {i : Nat} {O f d : String} {v : Value} (hw : (Jvm.Cond.fieldLink y.cls i O f d).before a0 Z = true) (hd : decode bytes pc = .ok (.getstatic i, 3)) (F : Sta Z h O f d v) (hp : pc + 3 = pc') (w : Wp X k n h pc' ls (v :: st)) : Wp X k n h pc ls st := by
  subst hp
  refine Wp.to C (P := fun h' st' => h' = h ∧ st' = v :: st) (fun X hX C T locs S e => ?_) (fun h' st' q => by obtain ⟨rfl, rfl⟩ := q; exact w)
  obtain ⟨T', S', e', st⟩ := getS S C.1 C.2.1 (host := "") C.2.2.1 hw Via.refl e F (g := mkF X.m pc ls st) rfl (hb C.2.2.2.1 hd)
  exact ⟨T', [], h, _, by rw [toL]; exact S', e', Fr.nil _, Nat.le_refl _, ⟨rfl, rfl⟩, st⟩
theorem w_putfield (C : Hand X Z y bytes mx rt R n0 Q) {i kk : Nat} {O f d K : String} {t : FieldType} {v old : Value} (hw : (Jvm.Cond.fieldLink y.cls i O f d).before a0 Z = true) (L : (Jvm.Cond.lays K O f d).before a0 Z = true ∨ ((Jvm.Cond.laysFinal K O f d).before a0 Z = true ∧ y.cls = O ∧ y.name = "<init>")) (wi : (Jvm.Cond.instantiable K kk).before a0 Z = true)
    (hd : decode bytes pc = .ok (.putfield i, 3)) (F : Fld Z h a O f d old) (E : Exa Z h a K) (hn : n0 ≤ a) (ht : parseFieldDescriptor d = some t) (hv : narrow t v = v) (hf : fits t v = true) (hp : pc + 3 = pc')
    (w : ∀ h', Wr h h' a (Jvm.RoadKit.slotOf Z O f d) v → Fld Z h' a O f d v → Exa Z h' a K → Wp X k n h' pc' ls st) : Wp X k n h pc ls (v :: .ref a :: st) := by
  subst hp
  refine Wp.to C (P := fun h' st' => st' = st ∧ Wr h h' a (Jvm.RoadKit.slotOf Z O f d) v) (fun X hX C T locs S e => ?_) (fun h' st' q => by obtain ⟨rfl, W⟩ := q; exact w h' W (F.same W) (E.wr W))
  obtain ⟨T', h', S', e', W', st⟩ := putF S C.1 C.2.1 (host := "") C.2.2.1 (Or.inl hw) Via.refl e F E (L.imp id fun q => ⟨q.1, q.2.1, C.2.2.2.2.2.2.2.2.2.1.trans q.2.2⟩) wi ht hv hf (g := mkF X.m pc ls (v :: .ref a :: st)) rfl rfl (hb C.2.2.2.1 hd)
  exact ⟨T', _, h', _, S', e', fun q hq => by cases List.mem_singleton.mp hq; rw [C.2.2.2.2.2.2.2.2.2.2.1]; exact hn, Nat.le_of_eq W'.size.symm, ⟨rfl, W'⟩, st⟩
/-! calls -/
variable {i W : Nat} {y' z : MethodName} {bytes' : ByteArray} {mx' : Nat} {rt' : Option FieldType} {R' : Room} {Q' : Option Value → Heap → Prop} {argsL rest : List Value} {ps : List FieldType}
theorem w_static (C : Hand X Z y bytes mx rt R n0 Q) (hw1 : (Jvm.Cond.methodLink y.cls i y').before a0 Z = true) (hw2 : (Jvm.Cond.static y').before a0 Z = true) (hw3 : (Jvm.Cond.initialized y'.cls).before a0 Z = true) (hw4 : (Jvm.Cond.code y' bytes' mx' rt').before a0 Z = true)
    (hy : y'.cls ≠ "java/lang/invoke/MethodHandle" ∧ y'.cls ≠ "java/lang/invoke/VarHandle") (hpd : parseMethodDescriptor y'.desc = some ⟨ps, rt'⟩) (hd : decode bytes pc = .ok (.invokestatic i, 3)) (K : Ct X.l Z y' bytes' mx' rt' R' n0 [] argsL.toArray h Q')
    (hlen : argsL.length = ps.length) (hst : st = argsL.reverse ++ rest) (hls : ls.size = mx) (hf : R'.frames + 1 ≤ R.frames) (hW : (rest.map fun v => v.category).sum = W) (hl : W + (mx' + 11) + R'.locals ≤ R.locals) (hc : k + R'.cells ≤ R.cells) (hs : n + R'.slots ≤ R.slots) (hp : pc + 3 = pc')
    (w : ∀ v h', Q' v h' → Wp X (k + R'.cells) (n + R'.slots) h' pc' ls (v.toList ++ rest)) : Wp X k n h pc ls st := by
  subst hp hst hW
  refine Wp.to C (P := fun h' st' => ∃ v, st' = v.toList ++ rest ∧ Q' v h') (fun X hX C T locs S e => ?_) (fun h' st' q => by obtain ⟨v, rfl, q⟩ := q; exact w v h' q)
  have K : Ct X.l Z y' bytes' mx' rt' R' n0 [] argsL.toArray h Q' := by rw [hX]; exact K
  have eR := C.2.2.2.2.2.2.2.1
  obtain ⟨v, _, ⟨T', L', k', n'⟩, -, S', ⟨Lc, hQ, l1, y1, z1⟩, st⟩ := Jvm.LawKit.callS S C.1 (y := y') C.2.2.1 (mvT C.2.1 hw1) (mvT C.2.1 hw2) (mvT C.2.1 hw3) (mvT C.2.1 hw4) hy (backOf (W := (rest.map fun v => v.category).sum) (Q := fun v h' L => (Q' v h' ∧ h.size ≤ h'.size) ∧ Fr n0 L) K C.2.1 hw4 hw3 (by rw [eR]; exact hf) (by rw [eR]; exact hl)) (g := mkF X.m pc ls (argsL.reverse ++ rest)) rfl (by rw [C.2.2.2.2.1]; exact hls) (argsL := argsL) (rest := rest) (lenOf hpd hlen) rfl (by show 2 * 0 + _ ≤ _; omega) (hb C.2.2.2.1 hd) (fun _ _ => ⟨rfl, e, by rw [eR]; exact hc, by rw [eR]; exact hs⟩)
  dsimp only [Pt.U, Pt.locs, Pt.cells, Pt.slots] at S' l1 y1 z1 st hQ
  subst l1 y1 z1
  exact ⟨T', Lc, T'.heap, _, S', rfl, by rw [C.2.2.2.2.2.2.2.2.2.2.1]; exact hQ.2, hQ.1.2, ⟨v, rfl, hQ.1.1⟩, st⟩
theorem w_special (C : Hand X Z y bytes mx rt R n0 Q) (hw1 : (Jvm.Cond.methodLink y.cls i y').before a0 Z = true) (hw2 : (Jvm.Cond.instanceMethod y').before a0 Z = true) (hw3 : (Jvm.Cond.initialized y'.cls).before a0 Z = true) (hw4 : (Jvm.Cond.code y' bytes' mx' none).before a0 Z = true)
    (hy1 : y'.name = "<init>") (hy : y'.cls ≠ "java/lang/invoke/MethodHandle" ∧ y'.cls ≠ "java/lang/invoke/VarHandle") (hpd : parseMethodDescriptor y'.desc = some ⟨ps, none⟩) (hd : decode bytes pc = .ok (.invokespecial i, 3)) (K : Ct X.l Z y' bytes' mx' none R' n0 [] (.ref a :: argsL).toArray h Q')
    (hlen : argsL.length = ps.length) (hst : st = argsL.reverse ++ .ref a :: rest) (hls : ls.size = mx) (hf : R'.frames + 1 ≤ R.frames) (hW : (rest.map fun v => v.category).sum = W) (hl : W + (mx' + 11) + R'.locals ≤ R.locals) (hc : k + R'.cells ≤ R.cells) (hs : n + R'.slots ≤ R.slots) (hp : pc + 3 = pc')
    (w : ∀ v h', Q' v h' → Wp X (k + R'.cells) (n + R'.slots) h' pc' ls (v.toList ++ rest)) : Wp X k n h pc ls st := by
  subst hp hst hW
  refine Wp.to C (P := fun h' st' => ∃ v, st' = v.toList ++ rest ∧ Q' v h') (fun X hX C T locs S e => ?_) (fun h' st' q => by obtain ⟨v, rfl, q⟩ := q; exact w v h' q)
  have K : Ct X.l Z y' bytes' mx' none R' n0 [] (.ref a :: argsL).toArray h Q' := by rw [hX]; exact K
  have eR := C.2.2.2.2.2.2.2.1
  obtain ⟨v, _, ⟨T', L', k', n'⟩, -, S', ⟨Lc, hQ, l1, y1, z1⟩, st⟩ := S.specialBack C.1 (y := y') hy1 C.2.2.1 (mvT C.2.1 hw1) (mvT C.2.1 hw2) (mvT C.2.1 hw4) hy (backOf (W := (rest.map fun v => v.category).sum) (Q := fun v h' L => (Q' v h' ∧ h.size ≤ h'.size) ∧ Fr n0 L) K C.2.1 hw4 hw3 (by rw [eR]; exact hf) (by rw [eR]; exact hl)) (g := mkF X.m pc ls (argsL.reverse ++ .ref a :: rest)) rfl (by rw [C.2.2.2.2.1]; exact hls) (Steps.refl _) (a := a) (argsL := argsL) (rest := rest) (lenOf hpd hlen) rfl (by show 2 * 0 + _ ≤ _; omega) (hb C.2.2.2.1 hd) (fun _ _ => ⟨rfl, e, by rw [eR]; exact hc, by rw [eR]; exact hs⟩)
  dsimp only [Pt.U, Pt.locs, Pt.cells, Pt.slots] at S' l1 y1 z1 st hQ
  subst l1 y1 z1
  exact ⟨T', Lc, T'.heap, _, S', rfl, by rw [C.2.2.2.2.2.2.2.2.2.2.1]; exact hQ.2, hQ.1.2, ⟨v, rfl, hQ.1.1⟩, fun t q => st.trans q⟩
theorem w_virtual (C : Hand X Z y bytes mx rt R n0 Q) {K0 : String} (hw1 : (Jvm.Cond.methodLink y.cls i y').before a0 Z = true) (hw2 : (Jvm.Cond.declares y').before a0 Z = true) (hw5 : (Jvm.Cond.selects K0 y' y').before a0 Z = true) (hw6 : (Jvm.Cond.instanceMethod y').before a0 Z = true) (hw3 : (Jvm.Cond.initialized y'.cls).before a0 Z = true) (hw4 : (Jvm.Cond.code y' bytes' mx' rt').before a0 Z = true)
    (hy : y'.cls ≠ "java/lang/invoke/MethodHandle" ∧ y'.cls ≠ "java/lang/invoke/VarHandle") (hpd : parseMethodDescriptor y'.desc = some ⟨ps, rt'⟩) (hd : decode bytes pc = .ok (.invokevirtual i, 3)) (E : Exa Z h a K0) (K : Ct X.l Z y' bytes' mx' rt' R' n0 [] (.ref a :: argsL).toArray h Q')
    (hlen : argsL.length = ps.length) (hst : st = argsL.reverse ++ .ref a :: rest) (hls : ls.size = mx) (hf : R'.frames + 1 ≤ R.frames) (hW : (rest.map fun v => v.category).sum = W) (hl : W + (mx' + 11) + R'.locals ≤ R.locals) (hc : k + R'.cells ≤ R.cells) (hs : n + R'.slots ≤ R.slots) (hp : pc + 3 = pc')
    (w : ∀ v h', Q' v h' → Wp X (k + R'.cells) (n + R'.slots) h' pc' ls (v.toList ++ rest)) : Wp X k n h pc ls st := by
  subst hp hst hW
  refine Wp.to C (P := fun h' st' => ∃ v, st' = v.toList ++ rest ∧ Q' v h') (fun X hX C T locs S e => ?_) (fun h' st' q => by obtain ⟨v, rfl, q⟩ := q; exact w v h' q)
  have K : Ct X.l Z y' bytes' mx' rt' R' n0 [] (.ref a :: argsL).toArray h Q' := by rw [hX]; exact K
  have eR := C.2.2.2.2.2.2.2.1
  obtain ⟨cq, kq, qa, qb, qc⟩ := isOf C.2.1 e E
  obtain ⟨v, _, ⟨T', L', k', n'⟩, -, S', ⟨Lc, hQ, l1, y1, z1⟩, st⟩ := S.virtualBack C.1 (y := y') (z := y') C.2.2.1 (mvT C.2.1 hw1) (mvT C.2.1 hw2) (notFace_of_selects (args := #[]) (mvT C.2.1 hw5)) (mvT C.2.1 hw5) (mvT C.2.1 hw6) hy (backOf (W := (rest.map fun v => v.category).sum) (Q := fun v h' L => (Q' v h' ∧ h.size ≤ h'.size) ∧ Fr n0 L) K C.2.1 hw4 hw3 (by rw [eR]; exact hf) (by rw [eR]; exact hl)) qa qc (g := mkF X.m pc ls (argsL.reverse ++ .ref a :: rest)) rfl (by rw [C.2.2.2.2.1]; exact hls) (Steps.refl _) (argsL := argsL) (rest := rest) (lenOf hpd hlen) rfl (by show 2 * 0 + _ ≤ _; omega) (hb C.2.2.2.1 hd) (fun _ _ => ⟨rfl, e, by rw [eR]; exact hc, by rw [eR]; exact hs⟩)
  dsimp only [Pt.U, Pt.locs, Pt.cells, Pt.slots] at S' l1 y1 z1 st hQ
  subst l1 y1 z1
  exact ⟨T', Lc, T'.heap, _, S', rfl, by rw [C.2.2.2.2.2.2.2.2.2.2.1]; exact hQ.2, hQ.1.2, ⟨v, rfl, hQ.1.1⟩, fun t q => st.trans q⟩
theorem w_private (C : Hand X Z y bytes mx rt R n0 Q) {K0 : String} {nn : Nat} (hw1 : (Jvm.Cond.methodLink y.cls i y').before a0 Z = true) (hw6 : (Jvm.Cond.instanceMethod y').before a0 Z = true) (wp : (Jvm.Cond.privateMethod y').before a0 Z = true) (wi : (Jvm.Cond.instantiable y'.cls nn).before a0 Z = true) (hw3 : (Jvm.Cond.initialized y'.cls).before a0 Z = true) (hw4 : (Jvm.Cond.code y' bytes' mx' rt').before a0 Z = true)
    (hy : y'.cls ≠ "java/lang/invoke/MethodHandle" ∧ y'.cls ≠ "java/lang/invoke/VarHandle") (hpd : parseMethodDescriptor y'.desc = some ⟨ps, rt'⟩) (hd : decode bytes pc = .ok (.invokevirtual i, 3)) (E : Exa Z h a K0) (K : Ct X.l Z y' bytes' mx' rt' R' n0 [] (.ref a :: argsL).toArray h Q')
    (hlen : argsL.length = ps.length) (hst : st = argsL.reverse ++ .ref a :: rest) (hls : ls.size = mx) (hf : R'.frames + 1 ≤ R.frames) (hW : (rest.map fun v => v.category).sum = W) (hl : W + (mx' + 11) + R'.locals ≤ R.locals) (hc : k + R'.cells ≤ R.cells) (hs : n + R'.slots ≤ R.slots) (hp : pc + 3 = pc')
    (w : ∀ v h', Q' v h' → Wp X (k + R'.cells) (n + R'.slots) h' pc' ls (v.toList ++ rest)) : Wp X k n h pc ls st := by
  subst hp hst hW
  refine Wp.to C (P := fun h' st' => ∃ v, st' = v.toList ++ rest ∧ Q' v h') (fun X hX C T locs S e => ?_) (fun h' st' q => by obtain ⟨v, rfl, q⟩ := q; exact w v h' q)
  have K : Ct X.l Z y' bytes' mx' rt' R' n0 [] (.ref a :: argsL).toArray h Q' := by rw [hX]; exact K
  have eR := C.2.2.2.2.2.2.2.1
  have pv : X.s.PrivateAt y' := Cond.privateMethod_at (mvP C.2.1 wp (args := X.args))
  have hin : (Jvm.Cond.instanceMethod y').before X.args X.s = true := mvT C.2.1 hw6
  obtain ⟨ck, kk, f1, f2, -, f4, -⟩ := Cond.instantiable_spec (mvT (args := X.args) C.2.1 wi)
  have hsel := selects_self_of_private f1 f2 (by rw [Bool.or_eq_false_iff] at f4; exact f4.1) pv hin hy
  obtain ⟨cq, qa, qb⟩ := E.cell
  obtain ⟨v, _, ⟨T', L', k', n'⟩, -, S', ⟨Lc, hQ, l1, y1, z1⟩, st⟩ := S.privateBack C.1 (y := y') C.2.2.1 (mvT C.2.1 hw1) hin hsel pv (mvT C.2.1 hw4) hy (backOf (W := (rest.map fun v => v.category).sum) (Q := fun v h' L => (Q' v h' ∧ h.size ≤ h'.size) ∧ Fr n0 L) K C.2.1 hw4 hw3 (by rw [eR]; exact hf) (by rw [eR]; exact hl)) (g := mkF X.m pc ls (argsL.reverse ++ .ref a :: rest)) rfl (by rw [C.2.2.2.2.1]; exact hls) (Steps.refl _) (a := a) (by rw [e]; exact qa) qb (argsL := argsL) (rest := rest) (lenOf hpd hlen) rfl (by show 2 * 0 + _ ≤ _; omega) (hb C.2.2.2.1 hd) (fun _ _ => ⟨rfl, e, by rw [eR]; exact hc, by rw [eR]; exact hs⟩)
  dsimp only [Pt.U, Pt.locs, Pt.cells, Pt.slots] at S' l1 y1 z1 st hQ
  subst l1 y1 z1
  exact ⟨T', Lc, T'.heap, _, S', rfl, by rw [C.2.2.2.2.2.2.2.2.2.2.1]; exact hQ.2, hQ.1.2, ⟨v, rfl, hQ.1.1⟩, fun t q => st.trans q⟩
end OwnLaws
theorem tw {a0 : Array Value} {Z : State} (hw : ∀ d ∈ tables_1, d.before a0 Z = true) (i : Nat) {d : Jvm.Cond} (q : tables_1[i]? = some d) : d.before a0 Z = true := hw d (List.mem_of_getElem? q)
theorem pn_0 : plainFor (⟨"com/example/trilha/trilha/xml/XmlCharsIsCharPinLaw", "law", "(II)Z"⟩ : MethodName) = true := plainFor_of_name (by first | (simp [plainName, overriddenIn]; done) | decide +kernel)
abbrev y0 : MethodName := ⟨"com/example/trilha/trilha/xml/XmlCharsIsCharPinLaw", "law", "(II)Z"⟩
theorem ef_0 (x0 : Int32) (x1 : Int32) (m : MethodId) : entryFrame m #[(.int x0), (.int x1)] maxLocals = mkF m 0 #[.val (.int x0), .val (.int x1), .unset, .unset, .unset] [] := by first | (simp [entryFrame, mkF, argsToLocals, Value.category, maxLocals]; done) | rfl
theorem d1_0 : decode prog_222_method_2_code 0 = .ok (.iload_n 0, 1) := by decide +kernel
theorem d1_1 : decode prog_222_method_2_code 1 = .ok (.bipush 9, 2) := by decide +kernel
theorem d1_3 : decode prog_222_method_2_code 3 = .ok (.if_icmp .eq 51, 3) := by decide +kernel
theorem d1_6 : decode prog_222_method_2_code 6 = .ok (.iload_n 0, 1) := by decide +kernel
theorem d1_7 : decode prog_222_method_2_code 7 = .ok (.bipush 10, 2) := by decide +kernel
theorem d1_9 : decode prog_222_method_2_code 9 = .ok (.if_icmp .eq 45, 3) := by decide +kernel
theorem d1_12 : decode prog_222_method_2_code 12 = .ok (.iload_n 0, 1) := by decide +kernel
theorem d1_13 : decode prog_222_method_2_code 13 = .ok (.bipush 13, 2) := by decide +kernel
theorem d1_15 : decode prog_222_method_2_code 15 = .ok (.if_icmp .eq 39, 3) := by decide +kernel
theorem d1_18 : decode prog_222_method_2_code 18 = .ok (.iload_n 0, 1) := by decide +kernel
theorem d1_19 : decode prog_222_method_2_code 19 = .ok (.bipush 32, 2) := by decide +kernel
theorem d1_21 : decode prog_222_method_2_code 21 = .ok (.if_icmp .lt 9, 3) := by decide +kernel
theorem d1_24 : decode prog_222_method_2_code 24 = .ok (.iload_n 0, 1) := by decide +kernel
theorem d1_25 : decode prog_222_method_2_code 25 = .ok (.ldc 7, 2) := by decide +kernel
theorem d1_27 : decode prog_222_method_2_code 27 = .ok (.if_icmp .le 27, 3) := by decide +kernel
theorem d1_30 : decode prog_222_method_2_code 30 = .ok (.iload_n 0, 1) := by decide +kernel
theorem d1_31 : decode prog_222_method_2_code 31 = .ok (.ldc 8, 2) := by decide +kernel
theorem d1_33 : decode prog_222_method_2_code 33 = .ok (.if_icmp .lt 9, 3) := by decide +kernel
theorem d1_36 : decode prog_222_method_2_code 36 = .ok (.iload_n 0, 1) := by decide +kernel
theorem d1_37 : decode prog_222_method_2_code 37 = .ok (.ldc 9, 2) := by decide +kernel
theorem d1_39 : decode prog_222_method_2_code 39 = .ok (.if_icmp .le 15, 3) := by decide +kernel
theorem d1_42 : decode prog_222_method_2_code 42 = .ok (.iload_n 0, 1) := by decide +kernel
theorem d1_43 : decode prog_222_method_2_code 43 = .ok (.ldc 10, 2) := by decide +kernel
theorem d1_45 : decode prog_222_method_2_code 45 = .ok (.if_icmp .lt 13, 3) := by decide +kernel
theorem d1_48 : decode prog_222_method_2_code 48 = .ok (.iload_n 0, 1) := by decide +kernel
theorem d1_49 : decode prog_222_method_2_code 49 = .ok (.ldc 13, 2) := by decide +kernel
theorem d1_51 : decode prog_222_method_2_code 51 = .ok (.if_icmp .gt 7, 3) := by decide +kernel
theorem d1_54 : decode prog_222_method_2_code 54 = .ok (.iconst 1, 1) := by decide +kernel
theorem d1_55 : decode prog_222_method_2_code 55 = .ok (.goto 4, 3) := by decide +kernel
theorem d1_58 : decode prog_222_method_2_code 58 = .ok (.iconst 0, 1) := by decide +kernel
theorem d1_59 : decode prog_222_method_2_code 59 = .ok (.ireturn, 1) := by decide +kernel
theorem pn_1 : plainFor (⟨"com/example/trilha/trilha/xml/XmlChars", "isChar", "(I)Z"⟩ : MethodName) = true := plainFor_of_name (by first | (simp [plainName, overriddenIn]; done) | decide +kernel)
abbrev y1 : MethodName := ⟨"com/example/trilha/trilha/xml/XmlChars", "isChar", "(I)Z"⟩
theorem ef_1 (x0 : Int32) (m : MethodId) : entryFrame m #[(.int x0)] 1 = mkF m 0 #[.val (.int x0)] [] := by first | (simp [entryFrame, mkF, argsToLocals, Value.category]; done) | rfl
theorem d2_0 : decode method_3_code 0 = .ok (.iload_n 0, 1) := by decide +kernel
theorem d2_1 : decode method_3_code 1 = .ok (.ifCond .lt 13, 3) := by decide +kernel
theorem d2_4 : decode method_3_code 4 = .ok (.iload_n 0, 1) := by decide +kernel
theorem d2_5 : decode method_3_code 5 = .ok (.ldc 14, 2) := by decide +kernel
theorem d2_7 : decode method_3_code 7 = .ok (.if_icmp .gt 7, 3) := by decide +kernel
theorem d2_10 : decode method_3_code 10 = .ok (.iconst 1, 1) := by decide +kernel
theorem d2_11 : decode method_3_code 11 = .ok (.goto 4, 3) := by decide +kernel
theorem d2_14 : decode method_3_code 14 = .ok (.iconst 0, 1) := by decide +kernel
theorem d2_15 : decode method_3_code 15 = .ok (.istore_n 1, 1) := by decide +kernel
theorem d2_16 : decode method_3_code 16 = .ok (.iload_n 0, 1) := by decide +kernel
theorem d2_17 : decode method_3_code 17 = .ok (.bipush 32, 2) := by decide +kernel
theorem d2_19 : decode method_3_code 19 = .ok (.if_icmp .ge 25, 3) := by decide +kernel
theorem d2_22 : decode method_3_code 22 = .ok (.iload_n 0, 1) := by decide +kernel
theorem d2_23 : decode method_3_code 23 = .ok (.bipush 9, 2) := by decide +kernel
theorem d2_25 : decode method_3_code 25 = .ok (.if_icmp .eq 19, 3) := by decide +kernel
theorem d2_28 : decode method_3_code 28 = .ok (.iload_n 0, 1) := by decide +kernel
theorem d2_29 : decode method_3_code 29 = .ok (.bipush 10, 2) := by decide +kernel
theorem d2_31 : decode method_3_code 31 = .ok (.if_icmp .eq 13, 3) := by decide +kernel
theorem d2_34 : decode method_3_code 34 = .ok (.iload_n 0, 1) := by decide +kernel
theorem d2_35 : decode method_3_code 35 = .ok (.bipush 13, 2) := by decide +kernel
theorem d2_37 : decode method_3_code 37 = .ok (.if_icmp .eq 7, 3) := by decide +kernel
theorem d2_40 : decode method_3_code 40 = .ok (.iconst 1, 1) := by decide +kernel
theorem d2_41 : decode method_3_code 41 = .ok (.goto 4, 3) := by decide +kernel
theorem d2_44 : decode method_3_code 44 = .ok (.iconst 0, 1) := by decide +kernel
theorem d2_45 : decode method_3_code 45 = .ok (.istore_n 2, 1) := by decide +kernel
theorem d2_46 : decode method_3_code 46 = .ok (.iload_n 0, 1) := by decide +kernel
theorem d2_47 : decode method_3_code 47 = .ok (.ldc 8, 2) := by decide +kernel
theorem d2_49 : decode method_3_code 49 = .ok (.if_icmp .lt 13, 3) := by decide +kernel
theorem d2_52 : decode method_3_code 52 = .ok (.iload_n 0, 1) := by decide +kernel
theorem d2_53 : decode method_3_code 53 = .ok (.ldc 9, 2) := by decide +kernel
theorem d2_55 : decode method_3_code 55 = .ok (.if_icmp .gt 7, 3) := by decide +kernel
theorem d2_58 : decode method_3_code 58 = .ok (.iconst 1, 1) := by decide +kernel
theorem d2_59 : decode method_3_code 59 = .ok (.goto 4, 3) := by decide +kernel
theorem d2_62 : decode method_3_code 62 = .ok (.iconst 0, 1) := by decide +kernel
theorem d2_63 : decode method_3_code 63 = .ok (.istore_n 3, 1) := by decide +kernel
theorem d2_64 : decode method_3_code 64 = .ok (.iload_n 0, 1) := by decide +kernel
theorem d2_65 : decode method_3_code 65 = .ok (.ldc 31, 2) := by decide +kernel
theorem d2_67 : decode method_3_code 67 = .ok (.if_icmp .eq 9, 3) := by decide +kernel
theorem d2_70 : decode method_3_code 70 = .ok (.iload_n 0, 1) := by decide +kernel
theorem d2_71 : decode method_3_code 71 = .ok (.ldc 12, 2) := by decide +kernel
theorem d2_73 : decode method_3_code 73 = .ok (.if_icmp .ne 7, 3) := by decide +kernel
theorem d2_76 : decode method_3_code 76 = .ok (.iconst 1, 1) := by decide +kernel
theorem d2_77 : decode method_3_code 77 = .ok (.goto 4, 3) := by decide +kernel
theorem d2_80 : decode method_3_code 80 = .ok (.iconst 0, 1) := by decide +kernel
theorem d2_81 : decode method_3_code 81 = .ok (.istore 4, 2) := by decide +kernel
theorem d2_83 : decode method_3_code 83 = .ok (.iload_n 1, 1) := by decide +kernel
theorem d2_84 : decode method_3_code 84 = .ok (.ifCond .eq 20, 3) := by decide +kernel
theorem d2_87 : decode method_3_code 87 = .ok (.iload_n 2, 1) := by decide +kernel
theorem d2_88 : decode method_3_code 88 = .ok (.ifCond .ne 16, 3) := by decide +kernel
theorem d2_91 : decode method_3_code 91 = .ok (.iload_n 3, 1) := by decide +kernel
theorem d2_92 : decode method_3_code 92 = .ok (.ifCond .ne 12, 3) := by decide +kernel
theorem d2_95 : decode method_3_code 95 = .ok (.iload 4, 2) := by decide +kernel
theorem d2_97 : decode method_3_code 97 = .ok (.ifCond .ne 7, 3) := by decide +kernel
theorem d2_100 : decode method_3_code 100 = .ok (.iconst 1, 1) := by decide +kernel
theorem d2_101 : decode method_3_code 101 = .ok (.goto 4, 3) := by decide +kernel
theorem d2_104 : decode method_3_code 104 = .ok (.iconst 0, 1) := by decide +kernel
theorem d2_105 : decode method_3_code 105 = .ok (.ireturn, 1) := by decide +kernel
theorem pn_2 : plainFor (⟨"com/example/trilha/trilha/xml/XmlCharsIsCharPinLaw", "expected", "(I)Z"⟩ : MethodName) = true := plainFor_of_name (by first | (simp [plainName, overriddenIn]; done) | decide +kernel)
abbrev y2 : MethodName := ⟨"com/example/trilha/trilha/xml/XmlCharsIsCharPinLaw", "expected", "(I)Z"⟩
theorem ef_2 (x0 : Int32) (m : MethodId) : entryFrame m #[(.int x0)] 5 = mkF m 0 #[.val (.int x0), .unset, .unset, .unset, .unset] [] := by first | (simp [entryFrame, mkF, argsToLocals, Value.category]; done) | rfl
theorem pd_0 : parseMethodDescriptor "(I)Z" = some ⟨[.int], some .boolean⟩ := by decide +kernel
/-! shifts as shifts of bit vectors -/
theorem b_and31 (q : Int32) (k : Nat) (hk : q.toBitVec.toNat % 32 = k) : (q &&& 31).toBitVec.toNat = k := by
  show (q.toBitVec &&& (31 : Int32).toBitVec).toNat = _
  rw [BitVec.toNat_and, show (31 : Int32).toBitVec.toNat = 2 ^ 5 - 1 from by decide, Nat.and_two_pow_sub_one_eq_mod]; exact hk
theorem b_ishl (x q : Int32) (k : Nat) (hk : q.toBitVec.toNat % 32 = k) : (x <<< (q &&& 31)).toBitVec = x.toBitVec <<< k := by
  show x.toBitVec <<< ((q &&& 31).toBitVec.smod 32) = _
  rw [BitVec.shiftLeft_eq', sm32 q k hk]
theorem b_ishr (x q : Int32) (k : Nat) (hk : q.toBitVec.toNat % 32 = k) : (x >>> (q &&& 31)).toBitVec = x.toBitVec.sshiftRight k := by
  show x.toBitVec.sshiftRight' ((q &&& 31).toBitVec.smod 32) = _
  rw [BitVec.sshiftRight_eq', sm32 q k hk]
theorem b_iushr (x q : Int32) (k : Nat) (hk : q.toBitVec.toNat % 32 = k) : ((x.toUInt32 >>> (q &&& 31).toUInt32).toInt32).toBitVec = x.toBitVec >>> k := by
  show x.toBitVec >>> ((q &&& 31).toBitVec % 32) = _
  rw [BitVec.ushiftRight_eq', BitVec.toNat_umod, b_and31 q k hk]
  congr 1; exact Nat.mod_eq_of_lt (by show k < 32; omega)
theorem b_lshl (x : Int64) (q : Int32) (k : Nat) (hk : q.toBitVec.toNat % 64 = k) : (x <<< (q &&& 0x3f).toInt64).toBitVec = x.toBitVec <<< k := by
  show x.toBitVec <<< ((q &&& 0x3f).toInt64.toBitVec.smod 64) = _
  rw [BitVec.shiftLeft_eq', (sm64 q k hk).1, smod64 k (sm64 q k hk).2]
theorem b_lshr (x : Int64) (q : Int32) (k : Nat) (hk : q.toBitVec.toNat % 64 = k) : (x >>> (q &&& 0x3f).toInt64).toBitVec = x.toBitVec.sshiftRight k := by
  show x.toBitVec.sshiftRight' ((q &&& 0x3f).toInt64.toBitVec.smod 64) = _
  rw [BitVec.sshiftRight_eq', (sm64 q k hk).1, smod64 k (sm64 q k hk).2]
theorem b_lushr (x : Int64) (q : Int32) (k : Nat) (hk : q.toBitVec.toNat % 64 = k) : ((x.toUInt64 >>> (q &&& 0x3f).toInt64.toUInt64).toInt64).toBitVec = x.toBitVec >>> k := by
  have h5 := (sm64 q k hk).2
  show x.toBitVec >>> ((q &&& 0x3f).toInt64.toBitVec % 64) = _
  rw [BitVec.ushiftRight_eq', BitVec.toNat_umod, (sm64 q k hk).1, BitVec.toNat_ofNat]
  congr 1; show k % 2 ^ 64 % 64 = k; omega
theorem nat32 {x : Int32} (hx : 0 ≤ x.toInt) : (x.toBitVec.toNat : Int) = x.toInt := by
  have h2 := x.toBitVec.isLt
  have h3 : x.toInt = x.toBitVec.toInt := rfl
  rw [BitVec.toInt_eq_toNat_cond] at h3
  split at h3 <;> omega
theorem clamp32 {x : Int32} (hx : 0 ≤ x.toInt) : (x.toNatClampNeg : Int) = x.toInt := by
  show (x.toInt.toNat : Int) = x.toInt
  omega
theorem nlt32 {x : Int32} (hx : 0 ≤ x.toInt) : ¬ x < 0 := by
  rw [Int32.lt_iff_toInt_lt, show (0 : Int32).toInt = 0 from by decide]; omega
theorem c_imulR (x k : Int32) (K : Int) (hk : k.toInt = K) : ((x * k).toInt - x.toInt * K) % 4294967296 = 0 := hk ▸ c_imul x k
theorem c_imulL (k x : Int32) (K : Int) (hk : k.toInt = K) : ((k * x).toInt - K * x.toInt) % 4294967296 = 0 := hk ▸ c_imul k x
theorem mulL (k x : Int32) (K : Int) (hk : k.toInt = K) (h1 : -2147483648 ≤ K * x.toInt) (h2 : K * x.toInt < 2147483648) : (k * x).toInt = K * x.toInt := by
  have a := c_imulL k x K hk
  have g := rng32 (k * x)
  generalize K * x.toInt = P at *
  omega
theorem mulR (x k : Int32) (K : Int) (hk : k.toInt = K) (h1 : -2147483648 ≤ x.toInt * K) (h2 : x.toInt * K < 2147483648) : (x * k).toInt = x.toInt * K := by
  have a := c_imulR x k K hk
  have g := rng32 (x * k)
  generalize x.toInt * K = P at *
  omega
abbrev rm00 : Room := { frames := 0, cells := 0, slots := 0, locals := 0 }
abbrev IsC (n : Int) : Prop := n = 9 ∨ n = 10 ∨ n = 13 ∨ (32 ≤ n ∧ n ≤ 55295) ∨ (57344 ≤ n ∧ n ≤ 65533) ∨ (65536 ≤ n ∧ n ≤ 1114111)
set_option maxRecDepth 65536 in
set_option maxHeartbeats 40000000 in
theorem c_1 (l : Launch) (Z : State) (a0 : Array Value) (hw : ∀ d ∈ tables_1, d.before a0 Z = true) (x0 : Int32) (n0 : Nat) (h : Heap) (hn : n0 ≤ h.size) :
    Ct l Z y1 prog_222_method_2_code 1 (some .boolean) rm00 n0 [] #[.int x0] h (fun v h' => v = some (.int (if IsC x0.toInt then 1 else 0)) ∧ h' = h) := by
  refine ct_of pn_1 hn (ef_1 x0) fun X C => ?_
  have z9 : (9 : Int32).toInt = 9 := by decide
  have z10 : (10 : Int32).toInt = 10 := by decide
  have z13 : (13 : Int32).toInt = 13 := by decide
  have z32 : (32 : Int32).toInt = 32 := by decide
  have za : (55295 : Int32).toInt = 55295 := by decide
  have zb : (57344 : Int32).toInt = 57344 := by decide
  have zc : (65533 : Int32).toInt = 65533 := by decide
  have zd : (65536 : Int32).toInt = 65536 := by decide
  have ze : (1114111 : Int32).toInt = 1114111 := by decide
  have J54 : IsC x0.toInt → Wp X 0 0 h 54 #[.val (.int x0)] [] := by
    intro hc
    refine w_iconst C (pc' := 55) (z := 1) d1_54 rfl rfl ?_
    refine w_goto C (pc' := 59) d1_55 (by decide) (by decide) ?_
    exact w_iret C d1_59 (by simp) rfl (by decide) (by decide) ⟨by rw [if_pos hc], rfl⟩
  have J58 : ¬ IsC x0.toInt → Wp X 0 0 h 58 #[.val (.int x0)] [] := by
    intro hc
    refine w_iconst C (pc' := 59) (z := 0) d1_58 rfl rfl ?_
    exact w_iret C d1_59 (by simp) rfl (by decide) (by decide) ⟨by rw [if_neg hc], rfl⟩
  refine w_iloadN C (pc' := 1) d1_0 rfl rfl ?_
  refine w_bipush C (pc' := 3) (z := 9) d1_1 rfl rfl ?_
  refine w_jcmp_eq C (pc' := 54) (pn := 6) d1_3 (by decide) (by decide) rfl (fun c3 => ?_) (fun c3 => ?_)
  · -- 3 taken -> 54
    -- STOP at 54
    exact J54 (by omega)
  · -- 3 not -> 6
    refine w_iloadN C (pc' := 7) d1_6 rfl rfl ?_
    refine w_bipush C (pc' := 9) (z := 10) d1_7 rfl rfl ?_
    refine w_jcmp_eq C (pc' := 54) (pn := 12) d1_9 (by decide) (by decide) rfl (fun c9 => ?_) (fun c9 => ?_)
    · -- 9 taken -> 54
      -- STOP at 54
      exact J54 (by omega)
    · -- 9 not -> 12
      refine w_iloadN C (pc' := 13) d1_12 rfl rfl ?_
      refine w_bipush C (pc' := 15) (z := 13) d1_13 rfl rfl ?_
      refine w_jcmp_eq C (pc' := 54) (pn := 18) d1_15 (by decide) (by decide) rfl (fun c15 => ?_) (fun c15 => ?_)
      · -- 15 taken -> 54
        -- STOP at 54
        exact J54 (by omega)
      · -- 15 not -> 18
        refine w_iloadN C (pc' := 19) d1_18 rfl rfl ?_
        refine w_bipush C (pc' := 21) (z := 32) d1_19 rfl rfl ?_
        refine w_jcmp_lt C (pc' := 30) (pn := 24) d1_21 (by decide) (by decide) rfl (fun c21 => ?_) (fun c21 => ?_)
        · -- 21 taken -> 30
          refine w_iloadN C (pc' := 31) d1_30 rfl rfl ?_
          refine w_ldc C (pc' := 33) (tw hw 16 rfl) d1_31 rfl ?_
          refine w_jcmp_lt C (pc' := 42) (pn := 36) d1_33 (by decide) (by decide) rfl (fun c33 => ?_) (fun c33 => ?_)
          · -- 33 taken -> 42
            refine w_iloadN C (pc' := 43) d1_42 rfl rfl ?_
            refine w_ldc C (pc' := 45) (tw hw 17 rfl) d1_43 rfl ?_
            refine w_jcmp_lt C (pc' := 58) (pn := 48) d1_45 (by decide) (by decide) rfl (fun c45 => ?_) (fun c45 => ?_)
            · -- 45 taken -> 58
              -- STOP at 58
              exact J58 (by omega)
            · -- 45 not -> 48
              refine w_iloadN C (pc' := 49) d1_48 rfl rfl ?_
              refine w_ldc C (pc' := 51) (tw hw 25 rfl) d1_49 rfl ?_
              refine w_jcmp_gt C (pc' := 58) (pn := 54) d1_51 (by decide) (by decide) rfl (fun c51 => ?_) (fun c51 => ?_)
              · -- 51 taken -> 58
                -- STOP at 58
                exact J58 (by omega)
              · -- 51 not -> 54
                -- STOP at 54
                exact J54 (by omega)
          · -- 33 not -> 36
            refine w_iloadN C (pc' := 37) d1_36 rfl rfl ?_
            refine w_ldc C (pc' := 39) (tw hw 24 rfl) d1_37 rfl ?_
            refine w_jcmp_le C (pc' := 54) (pn := 42) d1_39 (by decide) (by decide) rfl (fun c39 => ?_) (fun c39 => ?_)
            · -- 39 taken -> 54
              -- STOP at 54
              exact J54 (by omega)
            · -- 39 not -> 42
              refine w_iloadN C (pc' := 43) d1_42 rfl rfl ?_
              refine w_ldc C (pc' := 45) (tw hw 17 rfl) d1_43 rfl ?_
              refine w_jcmp_lt C (pc' := 58) (pn := 48) d1_45 (by decide) (by decide) rfl (fun c45 => ?_) (fun c45 => ?_)
              · -- 45 taken -> 58
                -- STOP at 58
                exact J58 (by omega)
              · -- 45 not -> 48
                refine w_iloadN C (pc' := 49) d1_48 rfl rfl ?_
                refine w_ldc C (pc' := 51) (tw hw 25 rfl) d1_49 rfl ?_
                refine w_jcmp_gt C (pc' := 58) (pn := 54) d1_51 (by decide) (by decide) rfl (fun c51 => ?_) (fun c51 => ?_)
                · -- 51 taken -> 58
                  -- STOP at 58
                  exact J58 (by omega)
                · -- 51 not -> 54
                  -- STOP at 54
                  exact J54 (by omega)
        · -- 21 not -> 24
          refine w_iloadN C (pc' := 25) d1_24 rfl rfl ?_
          refine w_ldc C (pc' := 27) (tw hw 23 rfl) d1_25 rfl ?_
          refine w_jcmp_le C (pc' := 54) (pn := 30) d1_27 (by decide) (by decide) rfl (fun c27 => ?_) (fun c27 => ?_)
          · -- 27 taken -> 54
            -- STOP at 54
            exact J54 (by omega)
          · -- 27 not -> 30
            refine w_iloadN C (pc' := 31) d1_30 rfl rfl ?_
            refine w_ldc C (pc' := 33) (tw hw 16 rfl) d1_31 rfl ?_
            refine w_jcmp_lt C (pc' := 42) (pn := 36) d1_33 (by decide) (by decide) rfl (fun c33 => ?_) (fun c33 => ?_)
            · -- 33 taken -> 42
              refine w_iloadN C (pc' := 43) d1_42 rfl rfl ?_
              refine w_ldc C (pc' := 45) (tw hw 17 rfl) d1_43 rfl ?_
              refine w_jcmp_lt C (pc' := 58) (pn := 48) d1_45 (by decide) (by decide) rfl (fun c45 => ?_) (fun c45 => ?_)
              · -- 45 taken -> 58
                -- STOP at 58
                exact J58 (by omega)
              · -- 45 not -> 48
                refine w_iloadN C (pc' := 49) d1_48 rfl rfl ?_
                refine w_ldc C (pc' := 51) (tw hw 25 rfl) d1_49 rfl ?_
                refine w_jcmp_gt C (pc' := 58) (pn := 54) d1_51 (by decide) (by decide) rfl (fun c51 => ?_) (fun c51 => ?_)
                · -- 51 taken -> 58
                  -- STOP at 58
                  exact J58 (by omega)
                · -- 51 not -> 54
                  -- STOP at 54
                  exact J54 (by omega)
            · -- 33 not -> 36
              refine w_iloadN C (pc' := 37) d1_36 rfl rfl ?_
              refine w_ldc C (pc' := 39) (tw hw 24 rfl) d1_37 rfl ?_
              refine w_jcmp_le C (pc' := 54) (pn := 42) d1_39 (by decide) (by decide) rfl (fun c39 => ?_) (fun c39 => ?_)
              · -- 39 taken -> 54
                -- STOP at 54
                exact J54 (by omega)
              · -- 39 not -> 42
                refine w_iloadN C (pc' := 43) d1_42 rfl rfl ?_
                refine w_ldc C (pc' := 45) (tw hw 17 rfl) d1_43 rfl ?_
                refine w_jcmp_lt C (pc' := 58) (pn := 48) d1_45 (by decide) (by decide) rfl (fun c45 => ?_) (fun c45 => ?_)
                · -- 45 taken -> 58
                  -- STOP at 58
                  exact J58 (by omega)
                · -- 45 not -> 48
                  refine w_iloadN C (pc' := 49) d1_48 rfl rfl ?_
                  refine w_ldc C (pc' := 51) (tw hw 25 rfl) d1_49 rfl ?_
                  refine w_jcmp_gt C (pc' := 58) (pn := 54) d1_51 (by decide) (by decide) rfl (fun c51 => ?_) (fun c51 => ?_)
                  · -- 51 taken -> 58
                    -- STOP at 58
                    exact J58 (by omega)
                  · -- 51 not -> 54
                    -- STOP at 54
                    exact J54 (by omega)
theorem ite01 {p q : Prop} [Decidable p] [Decidable q] (e : p ↔ q) : (if p then (1 : Int32) else 0) = if q then 1 else 0 := by simp only [e]
set_option maxRecDepth 65536 in
set_option maxHeartbeats 40000000 in
theorem c_2 (l : Launch) (Z : State) (a0 : Array Value) (hw : ∀ d ∈ tables_1, d.before a0 Z = true) (x0 : Int32) (n0 : Nat) (h : Heap) (hn : n0 ≤ h.size) :
    Ct l Z y2 method_3_code 5 (some .boolean) rm00 n0 [] #[.int x0] h (fun v h' => v = some (.int (if IsC x0.toInt then 1 else 0)) ∧ h' = h) := by
  refine ct_of pn_2 hn (ef_2 x0) fun X C => ?_
  have z9 : (9 : Int32).toInt = 9 := by decide
  have z10 : (10 : Int32).toInt = 10 := by decide
  have z13 : (13 : Int32).toInt = 13 := by decide
  have z32 : (32 : Int32).toInt = 32 := by decide
  have za : (55296 : Int32).toInt = 55296 := by decide
  have zb : (57343 : Int32).toInt = 57343 := by decide
  have zc : (65534 : Int32).toInt = 65534 := by decide
  have zd : (65535 : Int32).toInt = 65535 := by decide
  have ze : (1114111 : Int32).toInt = 1114111 := by decide
  have z0 : (0 : Int32).toInt = 0 := by decide
  have z1 : (1 : Int32).toInt = 1 := by decide
  have J83 : ∀ a b c d : Int32, (a.toInt = 0 ∨ a.toInt = 1) → (b.toInt = 0 ∨ b.toInt = 1) → (c.toInt = 0 ∨ c.toInt = 1) → (d.toInt = 0 ∨ d.toInt = 1) → (a.toInt = 1 ↔ 0 ≤ x0.toInt ∧ x0.toInt ≤ 1114111) → (b.toInt = 1 ↔ x0.toInt < 32 ∧ ¬ x0.toInt = 9 ∧ ¬ x0.toInt = 10 ∧ ¬ x0.toInt = 13) → (c.toInt = 1 ↔ 55296 ≤ x0.toInt ∧ x0.toInt ≤ 57343) → (d.toInt = 1 ↔ x0.toInt = 65534 ∨ x0.toInt = 65535) →
      Wp X 0 0 h 83 #[.val (.int x0), .val (.int a), .val (.int b), .val (.int c), .val (.int d)] [] := by
    intro a b c d ha hb hc hd ea eb ec ed
    have J104 : ¬ IsC x0.toInt → Wp X 0 0 h 104 #[.val (.int x0), .val (.int a), .val (.int b), .val (.int c), .val (.int d)] [] := by
      intro hq
      refine w_iconst C (pc' := 105) (z := 0) d2_104 rfl rfl ?_
      exact w_iret C d2_105 (by simp) rfl (by decide) (by decide) ⟨by rw [if_neg hq], rfl⟩
    refine w_iloadN C (pc' := 84) d2_83 rfl rfl ?_
    refine w_jf_eq C (pc' := 104) (pn := 87) d2_84 (by decide) (by decide) rfl (fun c84 => ?_) (fun c84 => ?_)
    · -- 84 taken -> 104
      -- STOP at 104
      exact J104 (by omega)
    · -- 84 not -> 87
      refine w_iloadN C (pc' := 88) d2_87 rfl rfl ?_
      refine w_jf_ne C (pc' := 104) (pn := 91) d2_88 (by decide) (by decide) rfl (fun c88 => ?_) (fun c88 => ?_)
      · -- 88 taken -> 104
        -- STOP at 104
        exact J104 (by omega)
      · -- 88 not -> 91
        refine w_iloadN C (pc' := 92) d2_91 rfl rfl ?_
        refine w_jf_ne C (pc' := 104) (pn := 95) d2_92 (by decide) (by decide) rfl (fun c92 => ?_) (fun c92 => ?_)
        · -- 92 taken -> 104
          -- STOP at 104
          exact J104 (by omega)
        · -- 92 not -> 95
          refine w_iload C (pc' := 97) d2_95 rfl rfl ?_
          refine w_jf_ne C (pc' := 104) (pn := 100) d2_97 (by decide) (by decide) rfl (fun c97 => ?_) (fun c97 => ?_)
          · -- 97 taken -> 104
            -- STOP at 104
            exact J104 (by omega)
          · -- 97 not -> 100
            refine w_iconst C (pc' := 101) (z := 1) d2_100 rfl rfl ?_
            refine w_goto C (pc' := 105) d2_101 (by decide) (by decide) ?_
            exact w_iret C d2_105 (by simp) rfl (by decide) (by decide) ⟨by rw [if_pos (by omega)], rfl⟩
  have J63 : ∀ a b c : Int32, (a.toInt = 0 ∨ a.toInt = 1) → (b.toInt = 0 ∨ b.toInt = 1) → (c.toInt = 0 ∨ c.toInt = 1) → (a.toInt = 1 ↔ 0 ≤ x0.toInt ∧ x0.toInt ≤ 1114111) → (b.toInt = 1 ↔ x0.toInt < 32 ∧ ¬ x0.toInt = 9 ∧ ¬ x0.toInt = 10 ∧ ¬ x0.toInt = 13) → (c.toInt = 1 ↔ 55296 ≤ x0.toInt ∧ x0.toInt ≤ 57343) →
      Wp X 0 0 h 63 #[.val (.int x0), .val (.int a), .val (.int b), .unset, .unset] [.int c] := by
    intro a b c ha hb hc ea eb ec
    refine w_istoreN C (pc' := 64) (ls' := #[_, _, _, _, _]) d2_63 rfl rfl ?_
    refine w_iloadN C (pc' := 65) d2_64 rfl rfl ?_
    refine w_ldc C (pc' := 67) (tw hw 22 rfl) d2_65 rfl ?_
    refine w_jcmp_eq C (pc' := 76) (pn := 70) d2_67 (by decide) (by decide) rfl (fun c67 => ?_) (fun c67 => ?_)
    · -- 67 taken -> 76
      refine w_iconst C (pc' := 77) (z := 1) d2_76 rfl rfl ?_
      refine w_goto C (pc' := 81) d2_77 (by decide) (by decide) ?_
      refine w_istore C (pc' := 83) (ls' := #[_, _, _, _, _]) d2_81 rfl rfl ?_
      -- STOP at 83
      exact J83 _ _ _ _ ha hb hc (by omega) ea eb ec (by omega)
    · -- 67 not -> 70
      refine w_iloadN C (pc' := 71) d2_70 rfl rfl ?_
      refine w_ldc C (pc' := 73) (tw hw 6 rfl) d2_71 rfl ?_
      refine w_jcmp_ne C (pc' := 80) (pn := 76) d2_73 (by decide) (by decide) rfl (fun c73 => ?_) (fun c73 => ?_)
      · -- 73 taken -> 80
        refine w_iconst C (pc' := 81) (z := 0) d2_80 rfl rfl ?_
        refine w_istore C (pc' := 83) (ls' := #[_, _, _, _, _]) d2_81 rfl rfl ?_
        -- STOP at 83
        exact J83 _ _ _ _ ha hb hc (by omega) ea eb ec (by omega)
      · -- 73 not -> 76
        refine w_iconst C (pc' := 77) (z := 1) d2_76 rfl rfl ?_
        refine w_goto C (pc' := 81) d2_77 (by decide) (by decide) ?_
        refine w_istore C (pc' := 83) (ls' := #[_, _, _, _, _]) d2_81 rfl rfl ?_
        -- STOP at 83
        exact J83 _ _ _ _ ha hb hc (by omega) ea eb ec (by omega)
  have J45 : ∀ a b : Int32, (a.toInt = 0 ∨ a.toInt = 1) → (b.toInt = 0 ∨ b.toInt = 1) → (a.toInt = 1 ↔ 0 ≤ x0.toInt ∧ x0.toInt ≤ 1114111) → (b.toInt = 1 ↔ x0.toInt < 32 ∧ ¬ x0.toInt = 9 ∧ ¬ x0.toInt = 10 ∧ ¬ x0.toInt = 13) →
      Wp X 0 0 h 45 #[.val (.int x0), .val (.int a), .unset, .unset, .unset] [.int b] := by
    intro a b ha hb ea eb
    refine w_istoreN C (pc' := 46) (ls' := #[_, _, _, _, _]) d2_45 rfl rfl ?_
    refine w_iloadN C (pc' := 47) d2_46 rfl rfl ?_
    refine w_ldc C (pc' := 49) (tw hw 2 rfl) d2_47 rfl ?_
    refine w_jcmp_lt C (pc' := 62) (pn := 52) d2_49 (by decide) (by decide) rfl (fun c49 => ?_) (fun c49 => ?_)
    · -- 49 taken -> 62
      refine w_iconst C (pc' := 63) (z := 0) d2_62 rfl rfl ?_
      -- STOP at 63
      exact J63 _ _ _ ha hb (by omega) ea eb (by omega)
    · -- 49 not -> 52
      refine w_iloadN C (pc' := 53) d2_52 rfl rfl ?_
      refine w_ldc C (pc' := 55) (tw hw 3 rfl) d2_53 rfl ?_
      refine w_jcmp_gt C (pc' := 62) (pn := 58) d2_55 (by decide) (by decide) rfl (fun c55 => ?_) (fun c55 => ?_)
      · -- 55 taken -> 62
        refine w_iconst C (pc' := 63) (z := 0) d2_62 rfl rfl ?_
        -- STOP at 63
        exact J63 _ _ _ ha hb (by omega) ea eb (by omega)
      · -- 55 not -> 58
        refine w_iconst C (pc' := 59) (z := 1) d2_58 rfl rfl ?_
        refine w_goto C (pc' := 63) d2_59 (by decide) (by decide) ?_
        -- STOP at 63
        exact J63 _ _ _ ha hb (by omega) ea eb (by omega)
  have J15 : ∀ a : Int32, (a.toInt = 0 ∨ a.toInt = 1) → (a.toInt = 1 ↔ 0 ≤ x0.toInt ∧ x0.toInt ≤ 1114111) →
      Wp X 0 0 h 15 #[.val (.int x0), .unset, .unset, .unset, .unset] [.int a] := by
    intro a ha ea
    refine w_istoreN C (pc' := 16) (ls' := #[_, _, _, _, _]) d2_15 rfl rfl ?_
    refine w_iloadN C (pc' := 17) d2_16 rfl rfl ?_
    refine w_bipush C (pc' := 19) (z := 32) d2_17 rfl rfl ?_
    refine w_jcmp_ge C (pc' := 44) (pn := 22) d2_19 (by decide) (by decide) rfl (fun c19 => ?_) (fun c19 => ?_)
    · -- 19 taken -> 44
      refine w_iconst C (pc' := 45) (z := 0) d2_44 rfl rfl ?_
      -- STOP at 45
      exact J45 _ _ ha (by omega) ea (by omega)
    · -- 19 not -> 22
      refine w_iloadN C (pc' := 23) d2_22 rfl rfl ?_
      refine w_bipush C (pc' := 25) (z := 9) d2_23 rfl rfl ?_
      refine w_jcmp_eq C (pc' := 44) (pn := 28) d2_25 (by decide) (by decide) rfl (fun c25 => ?_) (fun c25 => ?_)
      · -- 25 taken -> 44
        refine w_iconst C (pc' := 45) (z := 0) d2_44 rfl rfl ?_
        -- STOP at 45
        exact J45 _ _ ha (by omega) ea (by omega)
      · -- 25 not -> 28
        refine w_iloadN C (pc' := 29) d2_28 rfl rfl ?_
        refine w_bipush C (pc' := 31) (z := 10) d2_29 rfl rfl ?_
        refine w_jcmp_eq C (pc' := 44) (pn := 34) d2_31 (by decide) (by decide) rfl (fun c31 => ?_) (fun c31 => ?_)
        · -- 31 taken -> 44
          refine w_iconst C (pc' := 45) (z := 0) d2_44 rfl rfl ?_
          -- STOP at 45
          exact J45 _ _ ha (by omega) ea (by omega)
        · -- 31 not -> 34
          refine w_iloadN C (pc' := 35) d2_34 rfl rfl ?_
          refine w_bipush C (pc' := 37) (z := 13) d2_35 rfl rfl ?_
          refine w_jcmp_eq C (pc' := 44) (pn := 40) d2_37 (by decide) (by decide) rfl (fun c37 => ?_) (fun c37 => ?_)
          · -- 37 taken -> 44
            refine w_iconst C (pc' := 45) (z := 0) d2_44 rfl rfl ?_
            -- STOP at 45
            exact J45 _ _ ha (by omega) ea (by omega)
          · -- 37 not -> 40
            refine w_iconst C (pc' := 41) (z := 1) d2_40 rfl rfl ?_
            refine w_goto C (pc' := 45) d2_41 (by decide) (by decide) ?_
            -- STOP at 45
            exact J45 _ _ ha (by omega) ea (by omega)
  refine w_iloadN C (pc' := 1) d2_0 rfl rfl ?_
  refine w_jf_lt C (pc' := 14) (pn := 4) d2_1 (by decide) (by decide) rfl (fun c1 => ?_) (fun c1 => ?_)
  · -- 1 taken -> 14
    refine w_iconst C (pc' := 15) (z := 0) d2_14 rfl rfl ?_
    -- STOP at 15
    exact J15 _ (by omega) (by omega)
  · -- 1 not -> 4
    refine w_iloadN C (pc' := 5) d2_4 rfl rfl ?_
    refine w_ldc C (pc' := 7) (tw hw 8 rfl) d2_5 rfl ?_
    refine w_jcmp_gt C (pc' := 14) (pn := 10) d2_7 (by decide) (by decide) rfl (fun c7 => ?_) (fun c7 => ?_)
    · -- 7 taken -> 14
      refine w_iconst C (pc' := 15) (z := 0) d2_14 rfl rfl ?_
      -- STOP at 15
      exact J15 _ (by omega) (by omega)
    · -- 7 not -> 10
      refine w_iconst C (pc' := 11) (z := 1) d2_10 rfl rfl ?_
      refine w_goto C (pc' := 15) d2_11 (by decide) (by decide) ?_
      -- STOP at 15
      exact J15 _ (by omega) (by omega)
set_option maxRecDepth 65536 in
set_option maxHeartbeats 40000000 in
theorem law_ct (l : Launch) (Z : State) (a0 : Array Value) (hw : ∀ d ∈ tables_1, d.before a0 Z = true) (x0 x1 : Int32) (n0 : Nat) (h : Heap) (hn : n0 ≤ h.size) :
    Ct l Z x code maxLocals ret room_1 n0 tables_1 #[.int x0, .int x1] h (fun v _ => v = some (.int 1)) := by
  refine ct_of pn_0 hn (ef_0 x0 x1) fun X C => ?_
  have z16 : (16 : Int32).toInt = 16 := by decide
  have m := c_mask x1 31 5 (by decide) (by decide)
  have J123 : ∀ (h' : Heap) (a : Addr) (c : Int32), Wp X 1 16 h' 123 #[.val (.int x0), .val (.int x1), .val (.ref a), .val (.int (x1 &&& 31)), .val (.int c)] [] := by
    intro h' a c
    refine Wp.size C fun hsz => ?_
    refine w_iload C (pc' := 125) at_123 rfl rfl ?_
    refine Wp.size C fun sz125 => ?_
    refine w_static C (pc' := 128) (W := 0) (tw hw 12 rfl) (tw hw 13 rfl) (tw hw 14 rfl) (tw hw 15 rfl) (by decide) pd_0 at_125 (c_1 X.l Z a0 hw c n0 _ sz125) rfl rfl rfl (by decide) rfl (by decide) (by decide) (by decide) rfl (fun v125 h125 q125 => ?_)
    obtain ⟨rfl, rfl⟩ := q125
    show Wp X _ _ _ 128 _ [_]
    refine w_iload C (pc' := 130) at_128 rfl rfl ?_
    refine Wp.size C fun sz130 => ?_
    refine w_static C (pc' := 133) (W := 1) (tw hw 18 rfl) (tw hw 19 rfl) (tw hw 20 rfl) (tw hw 21 rfl) (by decide) pd_0 at_130 (c_2 X.l Z a0 hw c n0 _ sz130) rfl rfl rfl (by decide) rfl (by decide) (by decide) (by decide) rfl (fun v130 h130 q130 => ?_)
    obtain ⟨rfl, rfl⟩ := q130
    show Wp X _ _ _ 133 _ [_, _]
    refine w_icmp_ne C (pc' := 140) (pn := 136) at_133 (by decide) (by decide) rfl (fun c133 => ?_) (fun c133 => ?_)
    · exact (c133 rfl).elim
    refine w_iconst C (pc' := 137) (z := 1) at_136 rfl rfl ?_
    refine w_goto C (pc' := 141) at_137 (by decide) (by decide) ?_
    exact w_iret C at_141 (by simp) rfl (by decide) (by decide) rfl
  have J93 : ∀ (h' : Heap) (a : Addr), Ars Z h' a .int [.int 0, .int 9, .int 13, .int 31, .int 32, .int 55295, .int 55296, .int 57343, .int 57344, .int 65533, .int 65535, .int 65536, .int 1114111, .int 1114112, .int (-2147483646), .int 2147483644] → Wp X 1 16 h' 93 #[.val (.int x0), .val (.int x1), .unset, .unset, .unset] [.ref a] := by
    intro h' a A
    refine w_astoreN C (pc' := 94) (ls' := #[_, _, _, _, _]) at_93 rfl rfl rfl ?_
    refine w_iloadN C (pc' := 95) at_94 rfl rfl ?_
    refine w_bipush C (pc' := 97) (z := 31) at_95 rfl rfl ?_
    refine w_iand C (pc' := 98) at_97 rfl ?_
    refine w_istoreN C (pc' := 99) (ls' := #[_, _, _, _, _]) at_98 rfl rfl ?_
    refine w_iloadN C (pc' := 100) at_99 rfl rfl ?_
    refine w_bipush C (pc' := 102) (z := 16) at_100 rfl rfl ?_
    refine w_jcmp_ge C (pc' := 111) (pn := 105) at_102 (by decide) (by decide) rfl (fun c102 => ?_) (fun c102 => ?_)
    · have sb := c_isub (x1 &&& 31) 16
      have g1 := rng32 ((x1 &&& 31) - 16)
      have cl := clamp32 (x := (x1 &&& 31) - 16) (by omega)
      have hlt : ((x1 &&& 31) - 16).toNatClampNeg < 16 := by omega
      obtain ⟨w, hv⟩ : ∃ w : Int32, [Value.int 0, .int 9, .int 13, .int 31, .int 32, .int 55295, .int 55296, .int 57343, .int 57344, .int 65533, .int 65535, .int 65536, .int 1114111, .int 1114112, .int (-2147483646), .int 2147483644][((x1 &&& 31) - 16).toNatClampNeg]? = some (.int w) := by
        generalize ((x1 &&& 31) - 16).toNatClampNeg = i at hlt
        match i, hlt with
        | 0, _ | 1, _ | 2, _ | 3, _ | 4, _ | 5, _ | 6, _ | 7, _ | 8, _ | 9, _ | 10, _ | 11, _ | 12, _ | 13, _ | 14, _ | 15, _ => exact ⟨_, rfl⟩
        | n + 16, q => exact absurd q (by omega)
      refine w_aloadN C (pc' := 112) at_111 rfl rfl rfl ?_
      refine w_iloadN C (pc' := 113) at_112 rfl rfl ?_
      refine w_bipush C (pc' := 115) (z := 16) at_113 rfl rfl ?_
      refine w_isub C (pc' := 116) at_115 rfl ?_
      refine w_iaload C (pc' := 117) at_116 A (nlt32 (by omega)) rfl hv rfl ?_
      refine w_iloadN C (pc' := 118) at_117 rfl rfl ?_
      refine w_iconst C (pc' := 119) (z := 4) at_118 rfl rfl ?_
      refine w_irem C (pc' := 120) at_119 (by decide) rfl ?_
      refine w_iadd C (pc' := 121) at_120 rfl ?_
      refine w_istore C (pc' := 123) (ls' := #[_, _, _, _, _]) at_121 rfl rfl ?_
      -- STOP at 123
      exact J123 _ _ _
    · refine w_iloadN C (pc' := 106) at_105 rfl rfl ?_
      refine w_istore C (pc' := 108) (ls' := #[_, _, _, _, _]) at_106 rfl rfl ?_
      refine w_goto C (pc' := 123) at_108 (by decide) (by decide) ?_
      -- STOP at 123
      exact J123 _ _ _
  refine w_bipush C (pc' := 2) (z := 16) at_0 rfl rfl ?_
  refine w_newarray C (pc' := 4) (cap := 16) (tw hw 0 rfl) at_2 (by decide) (by decide) (by decide) (by decide) (by decide) rfl (fun h2 a2 e2 g2 E2 A2 => ?_)
  refine w_dup C (pc' := 5) at_4 rfl rfl ?_
  refine w_iconst C (pc' := 6) (z := 0) at_5 rfl rfl ?_
  refine w_iconst C (pc' := 7) (z := 0) at_6 rfl rfl ?_
  refine w_iastore C (pc' := 8) at_7 A2 g2 (by decide) rfl (by first | decide | (simp only [List.length_set]; decide)) rfl (fun h7 W7 A7 => ?_)
  refine w_dup C (pc' := 9) at_8 rfl rfl ?_
  refine w_iconst C (pc' := 10) (z := 1) at_9 rfl rfl ?_
  refine w_bipush C (pc' := 12) (z := 9) at_10 rfl rfl ?_
  refine w_iastore C (pc' := 13) at_12 A7 g2 (by decide) rfl (by first | decide | (simp only [List.length_set]; decide)) rfl (fun h12 W12 A12 => ?_)
  refine w_dup C (pc' := 14) at_13 rfl rfl ?_
  refine w_iconst C (pc' := 15) (z := 2) at_14 rfl rfl ?_
  refine w_bipush C (pc' := 17) (z := 13) at_15 rfl rfl ?_
  refine w_iastore C (pc' := 18) at_17 A12 g2 (by decide) rfl (by first | decide | (simp only [List.length_set]; decide)) rfl (fun h17 W17 A17 => ?_)
  refine w_dup C (pc' := 19) at_18 rfl rfl ?_
  refine w_iconst C (pc' := 20) (z := 3) at_19 rfl rfl ?_
  refine w_bipush C (pc' := 22) (z := 31) at_20 rfl rfl ?_
  refine w_iastore C (pc' := 23) at_22 A17 g2 (by decide) rfl (by first | decide | (simp only [List.length_set]; decide)) rfl (fun h22 W22 A22 => ?_)
  refine w_dup C (pc' := 24) at_23 rfl rfl ?_
  refine w_iconst C (pc' := 25) (z := 4) at_24 rfl rfl ?_
  refine w_bipush C (pc' := 27) (z := 32) at_25 rfl rfl ?_
  refine w_iastore C (pc' := 28) at_27 A22 g2 (by decide) rfl (by first | decide | (simp only [List.length_set]; decide)) rfl (fun h27 W27 A27 => ?_)
  refine w_dup C (pc' := 29) at_28 rfl rfl ?_
  refine w_iconst C (pc' := 30) (z := 5) at_29 rfl rfl ?_
  refine w_ldc C (pc' := 32) (tw hw 1 rfl) at_30 rfl ?_
  refine w_iastore C (pc' := 33) at_32 A27 g2 (by decide) rfl (by first | decide | (simp only [List.length_set]; decide)) rfl (fun h32 W32 A32 => ?_)
  refine w_dup C (pc' := 34) at_33 rfl rfl ?_
  refine w_bipush C (pc' := 36) (z := 6) at_34 rfl rfl ?_
  refine w_ldc C (pc' := 38) (tw hw 2 rfl) at_36 rfl ?_
  refine w_iastore C (pc' := 39) at_38 A32 g2 (by decide) rfl (by first | decide | (simp only [List.length_set]; decide)) rfl (fun h38 W38 A38 => ?_)
  refine w_dup C (pc' := 40) at_39 rfl rfl ?_
  refine w_bipush C (pc' := 42) (z := 7) at_40 rfl rfl ?_
  refine w_ldc C (pc' := 44) (tw hw 3 rfl) at_42 rfl ?_
  refine w_iastore C (pc' := 45) at_44 A38 g2 (by decide) rfl (by first | decide | (simp only [List.length_set]; decide)) rfl (fun h44 W44 A44 => ?_)
  refine w_dup C (pc' := 46) at_45 rfl rfl ?_
  refine w_bipush C (pc' := 48) (z := 8) at_46 rfl rfl ?_
  refine w_ldc C (pc' := 50) (tw hw 4 rfl) at_48 rfl ?_
  refine w_iastore C (pc' := 51) at_50 A44 g2 (by decide) rfl (by first | decide | (simp only [List.length_set]; decide)) rfl (fun h50 W50 A50 => ?_)
  refine w_dup C (pc' := 52) at_51 rfl rfl ?_
  refine w_bipush C (pc' := 54) (z := 9) at_52 rfl rfl ?_
  refine w_ldc C (pc' := 56) (tw hw 5 rfl) at_54 rfl ?_
  refine w_iastore C (pc' := 57) at_56 A50 g2 (by decide) rfl (by first | decide | (simp only [List.length_set]; decide)) rfl (fun h56 W56 A56 => ?_)
  refine w_dup C (pc' := 58) at_57 rfl rfl ?_
  refine w_bipush C (pc' := 60) (z := 10) at_58 rfl rfl ?_
  refine w_ldc C (pc' := 62) (tw hw 6 rfl) at_60 rfl ?_
  refine w_iastore C (pc' := 63) at_62 A56 g2 (by decide) rfl (by first | decide | (simp only [List.length_set]; decide)) rfl (fun h62 W62 A62 => ?_)
  refine w_dup C (pc' := 64) at_63 rfl rfl ?_
  refine w_bipush C (pc' := 66) (z := 11) at_64 rfl rfl ?_
  refine w_ldc C (pc' := 68) (tw hw 7 rfl) at_66 rfl ?_
  refine w_iastore C (pc' := 69) at_68 A62 g2 (by decide) rfl (by first | decide | (simp only [List.length_set]; decide)) rfl (fun h68 W68 A68 => ?_)
  refine w_dup C (pc' := 70) at_69 rfl rfl ?_
  refine w_bipush C (pc' := 72) (z := 12) at_70 rfl rfl ?_
  refine w_ldc C (pc' := 74) (tw hw 8 rfl) at_72 rfl ?_
  refine w_iastore C (pc' := 75) at_74 A68 g2 (by decide) rfl (by first | decide | (simp only [List.length_set]; decide)) rfl (fun h74 W74 A74 => ?_)
  refine w_dup C (pc' := 76) at_75 rfl rfl ?_
  refine w_bipush C (pc' := 78) (z := 13) at_76 rfl rfl ?_
  refine w_ldc C (pc' := 80) (tw hw 9 rfl) at_78 rfl ?_
  refine w_iastore C (pc' := 81) at_80 A74 g2 (by decide) rfl (by first | decide | (simp only [List.length_set]; decide)) rfl (fun h80 W80 A80 => ?_)
  refine w_dup C (pc' := 82) at_81 rfl rfl ?_
  refine w_bipush C (pc' := 84) (z := 14) at_82 rfl rfl ?_
  refine w_ldc C (pc' := 86) (tw hw 10 rfl) at_84 rfl ?_
  refine w_iastore C (pc' := 87) at_86 A80 g2 (by decide) rfl (by first | decide | (simp only [List.length_set]; decide)) rfl (fun h86 W86 A86 => ?_)
  refine w_dup C (pc' := 88) at_87 rfl rfl ?_
  refine w_bipush C (pc' := 90) (z := 15) at_88 rfl rfl ?_
  refine w_ldc C (pc' := 92) (tw hw 11 rfl) at_90 rfl ?_
  refine w_iastore C (pc' := 93) at_92 A86 g2 (by decide) rfl (by first | decide | (simp only [List.length_set]; decide)) rfl (fun h92 W92 A92 => ?_)
  -- STOP at 93
  exact J93 _ _ A92
set_option maxRecDepth 65536 in
set_option maxHeartbeats 40000000 in
theorem comes_1 {Post : Tables → Env → Array Value → State → Outcome → State → Prop} (hpost : ∀ tb e args s v u, (limb_1_1.after args s (.returned v) u = true ∧ limb_1_2.after args s (.returned v) u = true ∧ True) → FrameEnd s (.returned v) u (Jvm.fieldLocs frame_1_writes args s ++ Jvm.arrayLocs frame_1_arrays args s ++ Jvm.staticLocs frame_1_statics s) 16 128 → Post tb e args s (.returned v) u) :
    ArmFor flags0 classFile x code maxLocals ret World_1 tables_1 room_1 Calls_1 rest_1 Pre_1 Post := by
  intro l hfl _ _ p e ha hc hk s m args below hf hA hF happ hP
  obtain ⟨hcalls, hrest, hpre⟩ := hP
  obtain ⟨-, -, -, hnamed, -, -, -, hat⟩ := (Spec.applies_iff hf).mp happ
  obtain ⟨hg, hnar⟩ := and_e (Cond.before_iff.mp (show (Jvm.Cond.and given_1 narrow_1).before args s = true from hpre))
  obtain ⟨gc, g0⟩ := and_e hg
  obtain ⟨k0, g1⟩ := and_e g0
  obtain ⟨w0, w1, rfl⟩ : ∃ w0 w1 : Value, args = #[w0, w1] := by
    have hs : args.size = 2 := by simpa [Cond.value, given_1] using gc
    obtain ⟨L⟩ := args
    match L, hs with
    | [w0, w1], _ => exact ⟨w0, w1, rfl⟩
  have hw := fun d (hd : d ∈ tables_1) => atoms_spec (ws := Jvm.Cond.code x code maxLocals ret :: tables_1) hat d (List.mem_cons_of_mem _ hd)
  have hfit : Fit s := fun {y c} hc i hi => by
    obtain ⟨ha, rfl⟩ := Array.getElem?_eq_some_iff.mp hc
    have q := List.all_eq_true.mp ((Array.all_eq_true_iff_forall_mem.mp hF) _ (Array.getElem_mem ha)) i (List.mem_range.mpr hi)
    simpa [Array.getElem?_eq_getElem hi] using q
  obtain ⟨i0, ei0⟩ := is_v k0
  obtain rfl : w0 = (.int i0) := Option.some.inj ei0
  obtain ⟨i1, ei1⟩ := is_v g1
  obtain rfl : w1 = (.int i1) := Option.some.inj ei1
  obtain ⟨n, o, h1, h2, h3, _, L, rfl, ⟨⟨rfl, -⟩, N⟩, hq⟩ := law_ct l s _ hw i0 i1 s.heap.size s.heap (Nat.le_refl _) p e ha hc hk s m _ below hf ((Spec.applies_iff_loose hf).mp happ).1 ⟨rfl, State.Warmed39.refl s, rfl⟩ trivial
  refine ⟨n, _, h1, h2, h3, hpost _ _ _ _ _ _ ⟨Cond.after_iff.mpr rfl, Cond.after_iff.mpr (eq_i res_at (Term.int_eval (1)) rfl), trivial⟩ ⟨hq.1, hq.2.1, (hq.2.2.sift fun y hy => Or.inr (N y hy)).mono (by decide) (by decide)⟩⟩
theorem main_1_1 : Claimed_1_1 := comes_1 fun _ _ _ _ _ _ h hF => ⟨h.1, hF⟩
theorem main_1_2 : Claimed_1_2 := comes_1 fun _ _ _ _ _ _ h hF => ⟨h.2.1, hF⟩
end Jvm.Pilot.@@N@@
namespace Jvm.Pilot.@@N@@
open Jvm Jvm.ClassFile Sem Op Lib Jvm.Free Jvm.Stand Jvm.Pilot.@@N@@.Jvm.D
/-! MADE BY PROGRAM (witnessworld.py) out of the Statement's table words and the real class files: 9 classes; the members and pool entries that the words name. The judged class is class 1, her method 1. -/
namespace start1
open Jvm.ClassFile
def u (s : String) : CpInfo := .utf8 (stringToUtf16 s)
/-- a pool by its gaps: so many unusable entries, then the entry; so many at the end -/
def gap : Nat → List CpInfo → List CpInfo
  | 0, r => r
  | n + 1, r => .unusable :: gap n r
def poolList (es : List (Nat × CpInfo)) (last : Nat) : List CpInfo := es.foldr (fun e r => gap e.1 (e.2 :: r)) (gap last [])
def pool (es : List (Nat × CpInfo)) (last : Nat) : Array CpInfo := ⟨poolList es last⟩
def fileOf (pool : Array CpInfo) (this : Nat) (attrs : Array Attribute := #[]) (ms : Array MethodInfo := #[]) (fl : Nat := 33) (sup : Nat := 0) (ifs : Array Nat := #[]) (fds : Array FieldInfo := #[]) : ClassFile where
  minorVersion := 0
  majorVersion := 65
  constantPool := pool
  accessFlags := fl
  thisClass := this
  superClass := sup
  interfaces := ifs
  fields := fds
  methods := ms
  attributes := attrs
def plain (name : String) (sup : Option ClassId) : Class where
  name := name
  kind := .ordinary
  loader := none
  accessFlags := 33
  super := sup
  interfaces := #[]
  cf := none
  fields := #[]
  methods := #[]
  instanceTypes := #[]
  staticTypes := #[]
  resolved := #[]
  callSites := []
  init := .initialized
  statics := none
  mirror := none

def pool0 : Array CpInfo := pool [(5, u "<init>"), (0, u "()V"), (1, .class_ 10), (1, u "java/lang/Object")] 113

def k0m0 : Method := { name := "<init>", desc := "()V", sig := { parameters := [], returnType := none }, accessFlags := 1, code := none }
/-- java/lang/Object -/
def k0 : Class := { plain "java/lang/Object" none with
  accessFlags := 33
  interfaces := #[]
  cf := some (fileOf pool0 8 #[] #[{ accessFlags := 1, nameIndex := 5, descriptorIndex := 6, attributes := #[] }] 33 0 #[] #[])
  fields := #[]
  methods := #[k0m0]
  instanceTypes := #[]
  staticTypes := #[]
  resolved := Array.replicate 124 none
  statics := none }

def pool1 : Array CpInfo := pool [(2, .class_ 4), (1, u "java/lang/Object"), (0, u "<init>"), (0, u "()V"), (0, .integer 55295), (0, .integer 55296), (0, .integer 57343), (0, .integer 57344), (0, .integer 65533), (0, .integer 65535), (0, .integer 65536), (0, .integer 1114111), (0, .integer 1114112), (2, .integer 2147483650), (0, .integer 2147483644), (0, .methodref 21 22), (0, .class_ 23), (0, .nameAndType 24 25), (0, u "com/example/trilha/trilha/xml/XmlChars"), (0, u "isChar"), (0, u "(I)Z"), (0, .methodref 27 28), (0, .class_ 29), (0, .nameAndType 30 25), (0, u "com/example/trilha/trilha/xml/XmlCharsIsCharPinLaw"), (0, u "expected"), (0, .integer 65534), (2, u "law"), (0, u "(II)Z")] 5

def k1m0 : Method := { name := "<init>", desc := "()V", sig := { parameters := [], returnType := none }, accessFlags := 2, code := none }
def k1c1 : Code := { maxStack := 4, maxLocals := 5, code := code, exceptionTable := #[], attributes := #[] }
def k1m1 : Method := { name := "law", desc := "(II)Z", sig := { parameters := [.int, .int], returnType := some .boolean }, accessFlags := 9, code := some k1c1 }
def k1c2 : Code := { maxStack := 2, maxLocals := 5, code := method_3_code, exceptionTable := #[], attributes := #[] }
def k1m2 : Method := { name := "expected", desc := "(I)Z", sig := { parameters := [.int], returnType := some .boolean }, accessFlags := 10, code := some k1c2 }
/-- com/example/trilha/trilha/xml/XmlCharsIsCharPinLaw -/
def k1 : Class := { plain "com/example/trilha/trilha/xml/XmlCharsIsCharPinLaw" (some 0) with
  accessFlags := 49
  interfaces := #[]
  cf := some (fileOf pool1 27 #[] #[{ accessFlags := 2, nameIndex := 5, descriptorIndex := 6, attributes := #[] }, { accessFlags := 9, nameIndex := 34, descriptorIndex := 35, attributes := #[] }, { accessFlags := 10, nameIndex := 30, descriptorIndex := 25, attributes := #[] }] 49 2 #[] #[])
  fields := #[]
  methods := #[k1m0, k1m1, k1m2]
  instanceTypes := #[]
  staticTypes := #[]
  resolved := Array.replicate 41 none
  statics := none }

def pool2 : Array CpInfo := pool [(2, .class_ 4), (1, u "java/lang/Object"), (0, u "<init>"), (0, u "()V"), (0, .integer 55295), (0, .integer 57344), (0, .integer 65533), (0, .integer 65536), (2, .integer 1114111), (16, .class_ 32), (1, u "com/example/trilha/trilha/xml/XmlChars"), (1, u "(I)Z"), (11, u "isChar")] 5

def k2m0 : Method := { name := "<init>", desc := "()V", sig := { parameters := [], returnType := none }, accessFlags := 2, code := none }
def k2c1 : Code := { maxStack := 2, maxLocals := 1, code := prog_222_method_2_code, exceptionTable := #[], attributes := #[] }
def k2m1 : Method := { name := "isChar", desc := "(I)Z", sig := { parameters := [.int], returnType := some .boolean }, accessFlags := 9, code := some k2c1 }
/-- com/example/trilha/trilha/xml/XmlChars -/
def k2 : Class := { plain "com/example/trilha/trilha/xml/XmlChars" (some 0) with
  accessFlags := 49
  interfaces := #[]
  cf := some (fileOf pool2 30 #[] #[{ accessFlags := 2, nameIndex := 5, descriptorIndex := 6, attributes := #[] }, { accessFlags := 9, nameIndex := 46, descriptorIndex := 34, attributes := #[] }] 49 2 #[] #[])
  fields := #[]
  methods := #[k2m0, k2m1]
  instanceTypes := #[]
  staticTypes := #[]
  resolved := Array.replicate 52 none
  statics := none }

def pool3 : Array CpInfo := pool [(1, u "java/lang/Cloneable"), (0, .class_ 1), (0, u "java/lang/Object"), (0, .class_ 3)] 3

/-- java/lang/Cloneable -/
def k3 : Class := { plain "java/lang/Cloneable" (some 0) with
  accessFlags := 1537
  interfaces := #[]
  cf := some (fileOf pool3 2 #[] #[] 1537 4 #[] #[])
  fields := #[]
  methods := #[]
  instanceTypes := #[]
  staticTypes := #[]
  resolved := Array.replicate 8 none
  statics := none }

def pool4 : Array CpInfo := pool [(1, u "java/io/Serializable"), (0, .class_ 1), (0, u "java/lang/Object"), (0, .class_ 3)] 3

/-- java/io/Serializable -/
def k4 : Class := { plain "java/io/Serializable" (some 0) with
  accessFlags := 1537
  interfaces := #[]
  cf := some (fileOf pool4 2 #[] #[] 1537 4 #[] #[])
  fields := #[]
  methods := #[]
  instanceTypes := #[]
  staticTypes := #[]
  resolved := Array.replicate 8 none
  statics := none }

/-- the primitive byte -/
def k5 : Class := { plain "byte" none with kind := .primitive 'B', accessFlags := 0x411 }
/-- [B -/
def k6 : Class := { plain "[B" (some 0) with kind := .array 5 .byte, interfaces := #[3, 4], accessFlags := 1041 }

/-- the primitive int -/
def k7 : Class := { plain "int" none with kind := .primitive 'I', accessFlags := 0x411 }
/-- [I -/
def k8 : Class := { plain "[I" (some 0) with kind := .array 7 .int, interfaces := #[3, 4], accessFlags := 1041 }

def heap : Heap := #[]
def classes : Array Class := #[k0, k1, k2, k3, k4, k5, k6, k7, k8]
def interned : List (Array UInt16 × Addr) := []
def slotsUsed : Nat := 0
def theMethod : MethodId := ⟨1, 1⟩
def args0 : Array Value := #[.int 5, .int 20]
def aboutOver (below : List Frame) : State where
  vm := { classes := classes, interned := interned.toArray }
  heap := heap
  slotsUsed := slotsUsed
  threads := #[{ frames := .invoking theMethod args0 :: below }]
def below0 : List Frame := [.native { method := ⟨0, 0⟩, args := #[] }]
def about1 : State := aboutOver below0
def p0 : Program := .bare "" "" ""
def e0 : Env := launch0.env 0 0 0
theorem w_frames : about1.frames = Frame.invoking theMethod args0 :: below0 := rfl
set_option maxRecDepth 65536 in
theorem w_args : argsFit about1.vm theMethod args0 = true := by decide +kernel
set_option maxRecDepth 65536 in
theorem w_heap : heapFits about1 = true := by decide +kernel
set_option maxRecDepth 65536 in
theorem w_runnable : about1.curStatus? = some .runnable := by decide +kernel
set_option maxRecDepth 65536 in
theorem w_alone : about1.alone = true := by decide +kernel
set_option maxRecDepth 65536 in
theorem w_named : about1.methodNamed? x = some theMethod := by decide +kernel
set_option maxRecDepth 65536 in
theorem w_hears : about1.hears theMethod below0 = true := by decide +kernel
set_option maxRecDepth 65536 in
theorem w_ripe : about1.ripe theMethod args0 below0 = true := by decide +kernel
theorem w_running : about1.status = .running := rfl
set_option maxRecDepth 65536 in
theorem w_room : about1.hasRoom e0.platform room_1 = true :=
  launch0.hasRoom_least _ room_1 (by decide +kernel) (by decide +kernel) (by decide +kernel) (by decide +kernel) (by decide +kernel) (by decide +kernel)
theorem allAtoms_all (ts : List Jvm.Cond) (a : Array Jvm.Value) (st : Jvm.State) : (allAtoms ts).before a st = ts.all (fun c => c.before a st) := by
  induction ts with
  | nil => rfl
  | cons c t ih =>
    show (Jvm.Cond.and c (allAtoms t)).before a st = _
    rw [Jvm.Cond.before_and, ih, List.all_cons]
def words1 : List Jvm.Cond := Jvm.Cond.code x code maxLocals ret :: tables_1
/-- a 'code' word, met by the world's own term for the bytes: nothing is compared byte by byte -/
theorem code_word {y : MethodName} {bytes : ByteArray} {mx : Nat} {rt : Option FieldType} {a : Array Value} {s : State} {m : MethodId} {meth : Method} {c : Code} (h1 : s.methodNamed? y = some m) (h2 : s.vm.method? m = some meth) (h3 : meth.code = some c) (h4 : c.code = bytes)
    (h5 : (c.maxLocals == mx && c.exceptionTable.isEmpty && decide (c.maxStack ≤ mostOperands) && decide (meth.sig.returnType = rt) && !meth.locks && decide (parseMethodDescriptor y.desc = some meth.sig)) = true) : (Jvm.Cond.code y bytes mx rt).before a s = true := by
  simp only [Bool.and_eq_true, beq_iff_eq, Bool.not_eq_true', decide_eq_true_eq] at h5
  obtain ⟨⟨⟨⟨⟨g1, g2⟩, g3⟩, g4⟩, g5⟩, g6⟩ := h5
  simp [Cond.before, Cond.holds, Cond.value, h1, h2, h3, h4, g1, g2, g3, g4, g5, g6]
def isCode : Jvm.Cond → Bool
  | .code _ _ _ _ => true
  | _ => false
theorem all_split {L : List Jvm.Cond} {P : Jvm.Cond → Bool} (h1 : L.all (fun c => isCode c || P c) = true) (h2 : ∀ c ∈ L.filter isCode, P c = true) : L.all P = true := by
  refine List.all_eq_true.mpr fun c hc => ?_
  have h := List.all_eq_true.mp h1 c hc
  rcases Bool.eq_false_or_eq_true (isCode c) with hi | hi
  · exact h2 c (List.mem_filter.mpr ⟨hc, hi⟩)
  · simpa [hi] using h
set_option maxRecDepth 65536 in
theorem w_c0 : (Jvm.Cond.code x code maxLocals ret).before args0 about1 = true := code_word (m := ⟨1, 1⟩) (meth := k1m1) (c := k1c1) (by decide +kernel) rfl rfl rfl (by decide +kernel)
set_option maxRecDepth 65536 in
theorem w_c1 : (Jvm.Cond.code ({ cls := "com/example/trilha/trilha/xml/XmlChars", name := "isChar", desc := "(I)Z" } : Jvm.MethodName) prog_222_method_2_code (1 : Nat) (Option.some Jvm.ClassFile.FieldType.boolean)).before args0 about1 = true := code_word (m := ⟨2, 1⟩) (meth := k2m1) (c := k2c1) (by decide +kernel) rfl rfl rfl (by decide +kernel)
set_option maxRecDepth 65536 in
theorem w_c2 : (Jvm.Cond.code ({ cls := "com/example/trilha/trilha/xml/XmlCharsIsCharPinLaw", name := "expected", desc := "(I)Z" } : Jvm.MethodName) method_3_code (5 : Nat) (Option.some Jvm.ClassFile.FieldType.boolean)).before args0 about1 = true := code_word (m := ⟨1, 2⟩) (meth := k1m2) (c := k1c2) (by decide +kernel) rfl rfl rfl (by decide +kernel)
def codes1 : List Jvm.Cond := [Jvm.Cond.code x code maxLocals ret, Jvm.Cond.code ({ cls := "com/example/trilha/trilha/xml/XmlChars", name := "isChar", desc := "(I)Z" } : Jvm.MethodName) prog_222_method_2_code (1 : Nat) (Option.some Jvm.ClassFile.FieldType.boolean), Jvm.Cond.code ({ cls := "com/example/trilha/trilha/xml/XmlCharsIsCharPinLaw", name := "expected", desc := "(I)Z" } : Jvm.MethodName) method_3_code (5 : Nat) (Option.some Jvm.ClassFile.FieldType.boolean)]
set_option maxRecDepth 65536 in
theorem codes_eq : words1.filter isCode = codes1 := rfl
theorem w_codes : ∀ c ∈ words1.filter isCode, c.before args0 about1 = true := by
  rw [codes_eq]
  intro c hc
  simp only [codes1, List.mem_cons, List.not_mem_nil, or_false] at hc
  rcases hc with rfl | rfl | rfl
  · exact w_c0
  · exact w_c1
  · exact w_c2
set_option maxRecDepth 65536 in
theorem w_t1 : (words1.take 24).all (fun c => isCode c || c.before args0 about1) = true := by decide +kernel
set_option maxRecDepth 65536 in
theorem w_t2 : (words1.drop 24).all (fun c => isCode c || c.before args0 about1) = true := by decide +kernel
theorem w_tables : (allAtoms (Jvm.Cond.code x code maxLocals ret :: tables_1)).before args0 about1 = true := by
  rw [allAtoms_all]
  show words1.all (fun c => c.before args0 about1) = true
  refine all_split ?_ w_codes
  rw [← List.take_append_drop 24 words1, List.all_append, w_t1, w_t2]
  rfl
set_option maxRecDepth 65536 in
theorem w_case : (Jvm.Cond.and given_1 narrow_1).before args0 about1 = true := by decide +kernel
theorem w_applies : (headSpec (Jvm.Cond.code x code maxLocals ret :: tables_1) room_1).applies x e0.platform about1 = true :=
  (Spec.applies_iff w_frames).mpr ⟨w_running, w_runnable, w_alone, w_named, w_hears, w_ripe, w_room, w_tables⟩
theorem atStart : AtStart classFile x code maxLocals ret World_1 tables_1 room_1 Calls_1 rest_1 Pre_1 launch0 p0 e0 about1 theMethod args0 below0 :=
  ⟨lists_1, trivial, launch0.admits_env _ _ _, launch0.least_env, fairChoices_fair.cas, fairChoices_fair.clock, w_frames, w_args, w_heap, w_applies, trivial, trivial, w_case⟩
end start1
theorem witness_1 : WitnessClaimed_1 := ⟨start1.p0, start1.e0, start1.about1, start1.theMethod, start1.args0, start1.below0, start1.atStart⟩
end Jvm.Pilot.@@N@@
