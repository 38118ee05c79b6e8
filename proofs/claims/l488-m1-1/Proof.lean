import JvmDerived
import JvmDerived.Pilot.@@N@@Statement
import JvmDerived.Pilot.@@N@@Code
set_option linter.unusedVariables false
set_option linter.unusedSimpArgs false
namespace Jvm.Pilot.@@N@@
open Jvm Jvm.ClassFile Sem Op Lib Jvm.Free Jvm.Stand Jvm.LawKit Jvm.RoadKit Bundle Jvm.Pilot.@@N@@.Jvm.D
/-! THE OWN LAYER (printed by wip/tools/mkown.py): Wp says: from here the body runs to its return and leaves Q. One law an instruction, each read off a law of the library. -/
abbrev Cx : Type := Program × Launch × Env × Room × State × MethodId × Array Value × List Frame × Method × Code × Nat × (Option Value → Heap → Prop)
abbrev Cx.p (X : Cx) : Program := X.1
abbrev Cx.l (X : Cx) : Launch := X.2.1
abbrev Cx.e (X : Cx) : Env := X.2.2.1
abbrev Cx.R (X : Cx) : Room := X.2.2.2.1
abbrev Cx.s (X : Cx) : State := X.2.2.2.2.1
abbrev Cx.m (X : Cx) : MethodId := X.2.2.2.2.2.1
abbrev Cx.args (X : Cx) : Array Value := X.2.2.2.2.2.2.1
abbrev Cx.below (X : Cx) : List Frame := X.2.2.2.2.2.2.2.1
abbrev Cx.meth (X : Cx) : Method := X.2.2.2.2.2.2.2.2.1
abbrev Cx.c (X : Cx) : Code := X.2.2.2.2.2.2.2.2.2.1
abbrev Cx.n0 (X : Cx) : Nat := X.2.2.2.2.2.2.2.2.2.2.1
abbrev Cx.Q (X : Cx) : Option Value → Heap → Prop := X.2.2.2.2.2.2.2.2.2.2.2
abbrev Sd (X : Cx) (T : State) (locs : List Loc) (k n : Nat) : Prop := Stand X.p X.l X.e X.R X.s X.m X.args X.below X.meth X.c T locs k n
abbrev Sp (X : Cx) (T : State) (pc : Nat) (ls : Array Slot) (st : List Value) (t : State) : Prop := Steps X.p.tables X.e X.below (T.setTop (mkF X.m pc ls st)) t
def Hand (X : Cx) (Z : State) (y : MethodName) (bytes : ByteArray) (mx : Nat) (rt : Option FieldType) (R : Room) (n0 : Nat) (Q : Option Value → Heap → Prop) : Prop :=
  X.p.tables.exec = Jvm.exec ∧ Z.Warmed39 X.s.vm ∧ X.s.vm.findClass y.cls = some X.m.cls ∧ X.c.code = bytes ∧ X.c.maxLocals = mx ∧ X.meth.sig.returnType = rt ∧ X.meth.locks = false ∧ X.R = R ∧ n0 ≤ X.s.heap.size ∧ X.meth.name = y.name ∧ X.n0 = n0 ∧ X.Q = Q
def Ct (l : Launch) (Z : State) (y : MethodName) (bytes : ByteArray) (mx : Nat) (rt : Option FieldType) (R : Room) (n0 : Nat) (ws : List Jvm.Cond) (as' : Array Value) (h : Heap) (Q : Option Value → Heap → Prop) : Prop :=
  MetFree l y (head1 (Jvm.Cond.code y bytes mx rt :: ws) R) (fun a U => a = as' ∧ Z.Warmed39 U.vm ∧ U.heap = h) (fun _ _ _ _ _ => True) (fun _ U o U' => ∃ v L, o = .returned v ∧ ((Q v U'.heap ∧ h.size ≤ U'.heap.size) ∧ Fr n0 L) ∧ FrameEnd U o U' L R.cells R.slots)
section OwnLayer
variable {X : Cx} {Z : State} {y : MethodName} {bytes : ByteArray} {mx : Nat} {rt : Option FieldType} {R : Room} {n0 : Nat} {Q : Option Value → Heap → Prop} {a0 : Array Value} {k n : Nat} {h : Heap} {pc pc' : Nat} {ls ls' : Array Slot} {st st' : List Value}
theorem Hand.sz (C : Hand X Z y bytes mx rt R n0 Q) {T : State} {locs : List Loc} (S : Sd X T locs k n) (e : T.heap = h) : n0 ≤ h.size := by
  have q : X.s.heap.size ≤ T.heap.size := S.same.2.1
  rw [← e]; exact Nat.le_trans C.2.2.2.2.2.2.2.2.1 q
theorem own_pop2L {tb : Tables} [Ours tb] {e : Env} {below : List Frame} {T target : State} {m : MethodId} {c : Code} {g : JFrame} (h : At T m c below) (hx : tb.exec = Jvm.exec) (hg : g.method = m) {x : Int64} {rest : List Value} (hd : decode c.code g.pc = .ok (.pop2, 1)) (hs : g.stack = .long x :: rest)
    (hr : Steps tb e below (T.setTop { g with pc := g.pc + 1, stack := rest }) target) : Steps tb e below (T.setTop g) target := by
  subst hg
  jvm_step h [h.top, hx, hd, hs, Value.category]
  exact hr
theorem toL (L : List Loc) : L ++ [] = L := List.append_nil L
end OwnLayer
def Wp (X : Cx) (k n : Nat) (h : Heap) (pc : Nat) (ls : Array Slot) (st : List Value) : Prop :=
  ∀ T locs, Sd X T locs k n → T.heap = h → Fr X.n0 locs →
    ∃ s₂ v L, Sp X T pc ls st s₂ ∧ s₂.status = .running ∧ Ended s₂ X.below (.returned v) ∧ X.Q v s₂.heap ∧ Fr X.n0 L ∧ X.s.WarmedH s₂.vm ∧ X.s.sameButNew ({ s₂ with vm := X.s.vm } : State) L X.R.cells X.R.slots
section OwnNarrow
variable {X : Cx} {Z : State} {y : MethodName} {bytes : ByteArray} {mx : Nat} {rt : Option FieldType} {R : Room} {n0 : Nat} {Q : Option Value → Heap → Prop} {a0 : Array Value} {k n : Nat} {h : Heap} {pc pc' : Nat} {ls ls' : Array Slot} {st st' : List Value}
theorem ct_of {l : Launch} {ws : List Jvm.Cond} {as' : Array Value} (hpl : plainFor y = true) (hn : n0 ≤ h.size) (hef : ∀ m, entryFrame m as' mx = mkF m 0 ls [])
    (hwp : ∀ X : Cx, Hand X Z y bytes mx rt R n0 Q → Wp X 0 0 h 0 ls []) : Ct l Z y bytes mx rt R n0 ws as' h Q := by
  refine MetFree.of_bodySF hpl hisR ?_
  intro p e s m args below meth c s₁ Bd hml0 hP hK
  obtain ⟨rfl, hZ, hh⟩ := hP
  have X0 : Stand p l e R s m args below meth c s₁ [] 0 0 := Stand.of_body Bd
  have e0 : s₁.heap = h := by rw [← hh, Bd.state]; rfl
  obtain ⟨s2, v, L, h1, h2, h3, h4, h5, h6, h7⟩ := hwp (p, l, e, R, s, m, args, below, meth, c, n0, Q) ⟨Bd.exec, hZ, findClass_of_methodNamed Bd.named, Bd.bytes, hml0, Bd.returns, Bd.notSynchronized, rfl, by show n0 ≤ s.heap.size; rw [hh]; exact hn, (name_of_methodNamed Bd.named Bd.method).1, rfl, rfl⟩ s₁ [] X0 e0 (Fr.nil n0)
  exact ⟨s2, _, castTop (hef m) h1, h2, h3, v, L, rfl, ⟨⟨h4, by rw [← hh]; exact h7.2.1⟩, h5⟩, ⟨_, rfl⟩, h6, h7⟩
theorem Wp.go (C : Hand X Z y bytes mx rt R n0 Q) (hs : ∀ X' : Cx, X'.l = X.l → Hand X' Z y bytes mx rt R n0 Q → ∀ T locs, Sd X' T locs k n → T.heap = h → ∀ t, Sp X' T pc' ls' st' t → Sp X' T pc ls st t) (w : Wp X k n h pc' ls' st') : Wp X k n h pc ls st := by
  intro T locs S e F
  obtain ⟨s2, v, L, a, r⟩ := w T locs S e F
  exact ⟨s2, v, L, hs X rfl C T locs S e _ a, r⟩
theorem Wp.to (C : Hand X Z y bytes mx rt R n0 Q) {k' n' : Nat} {P : Heap → List Value → Prop} (hs : ∀ X' : Cx, X'.l = X.l → Hand X' Z y bytes mx rt R n0 Q → ∀ T locs, Sd X' T locs k n → T.heap = h → ∃ T' L h' st', Sd X' T' (locs ++ L) k' n' ∧ T'.heap = h' ∧ Fr X'.n0 L ∧ h.size ≤ h'.size ∧ P h' st' ∧ ∀ t, Sp X' T' pc' ls' st' t → Sp X' T pc ls st t)
    (w : ∀ h' st', P h' st' → Wp X k' n' h' pc' ls' st') : Wp X k n h pc ls st := by
  intro T locs S e F
  obtain ⟨T', L, h', st', S', e', F', -, p, q⟩ := hs X rfl C T locs S e
  obtain ⟨s2, v, L2, a, r⟩ := w h' st' p T' _ S' e' (Fr.app F F')
  exact ⟨s2, v, L2, q _ a, r⟩
/-- what is left is known of the heap: n0 ≤ its size -/
theorem Wp.size (C : Hand X Z y bytes mx rt R n0 Q) (w : n0 ≤ h.size → Wp X k n h pc ls st) : Wp X k n h pc ls st := fun T locs S e F => w (C.sz S e) T locs S e F
theorem Wp.more {k' n' : Nat} (w : Wp X k' n' h pc ls st) (hk : k ≤ k') (hn : n ≤ n') : Wp X k n h pc ls st := fun T locs S e F => w T locs (S.more hk hn) e F
theorem w_done (C : Hand X Z y bytes mx rt R n0 Q) {v : Option Value} (hv : rt = none → v = none) (hk : k ≤ R.cells) (hn : n ≤ R.slots) (q : Q v h)
    (hs : ∀ X' : Cx, Hand X' Z y bytes mx rt R n0 Q → ∀ T locs (fs : List Frame), Sd X' T locs k n → (∀ (f : JFrame) (acts : List Action), f.method = X'.m → f.locked = none → f.entered = [] → (doReturn X'.e (T.setTop f) acts v).1 = T.setFrames fs) → Sp X' T pc ls st (T.setFrames fs)) : Wp X k n h pc ls st := by
  intro T locs S e F
  obtain ⟨fs, hr, hrun, hended, hW, hsame⟩ := S.leave (v := v) (fun z => hv (C.2.2.2.2.2.1 ▸ z)) C.2.2.2.2.2.2.1
  refine ⟨_, v, locs, hs X C T locs fs S hr, hrun, hended, ?_, F, hW, hsame.mono (by rw [C.2.2.2.2.2.2.2.1]; exact hk) (by rw [C.2.2.2.2.2.2.2.1]; exact hn)⟩
  show X.Q v T.heap
  rw [C.2.2.2.2.2.2.2.2.2.2.2, e]; exact q
end OwnNarrow

section OwnLaws
variable {X : Cx} {Z : State} {y : MethodName} {bytes : ByteArray} {mx : Nat} {rt : Option FieldType} {R : Room} {n0 : Nat} {Q : Option Value → Heap → Prop} {a0 : Array Value} {k n : Nat} {h : Heap} {pc pc' : Nat} {ls ls' : Array Slot} {st st' : List Value}
theorem w_iload (C : Hand X Z y bytes mx rt R n0 Q) {j : Nat} {v : Int32} (hd : decode bytes pc = .ok (.iload j, 2)) (hl : ls[j]? = some (.val (.int v))) (hp : pc + 2 = pc') (w : Wp X k n h pc' ls (.int v :: st)) : Wp X k n h pc ls (st) := by
  subst hp; exact Wp.go C (fun X hX C T locs S e t q => XS.iload S.here C.1 rfl (hb C.2.2.2.1 hd) hl q) w
theorem w_iloadN (C : Hand X Z y bytes mx rt R n0 Q) {j : Fin 4} {v : Int32} (hd : decode bytes pc = .ok (.iload_n j, 1)) (hl : ls[j.val]? = some (.val (.int v))) (hp : pc + 1 = pc') (w : Wp X k n h pc' ls (.int v :: st)) : Wp X k n h pc ls (st) := by
  subst hp; exact Wp.go C (fun X hX C T locs S e t q => XS.iloadN S.here C.1 rfl (hb C.2.2.2.1 hd) hl q) w
theorem w_lload (C : Hand X Z y bytes mx rt R n0 Q) {j : Nat} {v : Int64} (hd : decode bytes pc = .ok (.lload j, 2)) (hl : ls[j]? = some (.val (.long v))) (hp : pc + 2 = pc') (w : Wp X k n h pc' ls (.long v :: st)) : Wp X k n h pc ls (st) := by
  subst hp; exact Wp.go C (fun X hX C T locs S e t q => XS.lload S.here C.1 rfl (hb C.2.2.2.1 hd) hl q) w
theorem w_lloadN (C : Hand X Z y bytes mx rt R n0 Q) {j : Fin 4} {v : Int64} (hd : decode bytes pc = .ok (.lload_n j, 1)) (hl : ls[j.val]? = some (.val (.long v))) (hp : pc + 1 = pc') (w : Wp X k n h pc' ls (.long v :: st)) : Wp X k n h pc ls (st) := by
  subst hp; exact Wp.go C (fun X hX C T locs S e t q => XS.lloadN S.here C.1 rfl (hb C.2.2.2.1 hd) hl q) w
theorem w_aload (C : Hand X Z y bytes mx rt R n0 Q) {j : Nat} {v : Value} (hd : decode bytes pc = .ok (.aload j, 2)) (hl : ls[j]? = some (.val v)) (hv : v.isRef = true) (hp : pc + 2 = pc') (w : Wp X k n h pc' ls (v :: st)) : Wp X k n h pc ls (st) := by
  subst hp; exact Wp.go C (fun X hX C T locs S e t q => XS.aload S.here C.1 rfl (hb C.2.2.2.1 hd) hl hv q) w
theorem w_aloadN (C : Hand X Z y bytes mx rt R n0 Q) {j : Fin 4} {v : Value} (hd : decode bytes pc = .ok (.aload_n j, 1)) (hl : ls[j.val]? = some (.val v)) (hv : v.isRef = true) (hp : pc + 1 = pc') (w : Wp X k n h pc' ls (v :: st)) : Wp X k n h pc ls (st) := by
  subst hp; exact Wp.go C (fun X hX C T locs S e t q => XS.aloadN S.here C.1 rfl (hb C.2.2.2.1 hd) hl hv q) w
theorem w_iconst (C : Hand X Z y bytes mx rt R n0 Q) {i : Int} {z : Int32} (hd : decode bytes pc = .ok (.iconst i, 1)) (hz : Int32.ofInt i = z) (hp : pc + 1 = pc') (w : Wp X k n h pc' ls (.int z :: st)) : Wp X k n h pc ls st := by
  subst hp hz; exact Wp.go C (fun X hX C T locs S e t q => XS.iconst S.here C.1 rfl (hb C.2.2.2.1 hd) q) w
theorem w_bipush (C : Hand X Z y bytes mx rt R n0 Q) {i : Int} {z : Int32} (hd : decode bytes pc = .ok (.bipush i, 2)) (hz : (Int8.ofInt i).toInt32 = z) (hp : pc + 2 = pc') (w : Wp X k n h pc' ls (.int z :: st)) : Wp X k n h pc ls st := by
  subst hp hz; exact Wp.go C (fun X hX C T locs S e t q => XS.bipush S.here C.1 rfl (hb C.2.2.2.1 hd) q) w
theorem w_sipush (C : Hand X Z y bytes mx rt R n0 Q) {i : Int} {z : Int32} (hd : decode bytes pc = .ok (.sipush i, 3)) (hz : (Int16.ofInt i).toInt32 = z) (hp : pc + 3 = pc') (w : Wp X k n h pc' ls (.int z :: st)) : Wp X k n h pc ls st := by
  subst hp hz; exact Wp.go C (fun X hX C T locs S e t q => XS.sipush S.here C.1 rfl (hb C.2.2.2.1 hd) q) w
theorem w_lconst (C : Hand X Z y bytes mx rt R n0 Q) {i : Fin 2} {z : Int64} (hd : decode bytes pc = .ok (.lconst i, 1)) (hz : Int64.ofNat i.val = z) (hp : pc + 1 = pc') (w : Wp X k n h pc' ls (.long z :: st)) : Wp X k n h pc ls st := by
  subst hp hz; exact Wp.go C (fun X hX C T locs S e t q => XS.lconst S.here C.1 rfl (hb C.2.2.2.1 hd) q) w
theorem w_anull (C : Hand X Z y bytes mx rt R n0 Q) (hd : decode bytes pc = .ok (.aconst_null, 1)) (hp : pc + 1 = pc') (w : Wp X k n h pc' ls (.null :: st)) : Wp X k n h pc ls (st) := by
  subst hp; exact Wp.go C (fun X hX C T locs S e t q => XS.aconstNull S.here C.1 rfl (hb C.2.2.2.1 hd) q) w
theorem w_ldc (C : Hand X Z y bytes mx rt R n0 Q) {i : Nat} {z : Int32} (hw : (Jvm.Cond.constant y.cls i z).before a0 Z = true) (hd : decode bytes pc = .ok (.ldc i, 2)) (hp : pc + 2 = pc') (w : Wp X k n h pc' ls (.int z :: st)) : Wp X k n h pc ls st := by
  subst hp; exact Wp.go C (fun X hX C T locs S e t q => S.ldcInt C.1 C.2.2.1 (mvT C.2.1 hw) (g := mkF X.m pc ls st) rfl (hb C.2.2.2.1 hd) t q) w
theorem w_ldc2 (C : Hand X Z y bytes mx rt R n0 Q) {i : Nat} {z : Int64} (hw : (Jvm.Cond.constantLong y.cls i z).before a0 Z = true) (hd : decode bytes pc = .ok (.ldc2_w i, 3)) (hp : pc + 3 = pc') (w : Wp X k n h pc' ls (.long z :: st)) : Wp X k n h pc ls st := by
  subst hp; exact Wp.go C (fun X hX C T locs S e t q => S.ldc2Long C.1 C.2.2.1 (mvT C.2.1 hw) (g := mkF X.m pc ls st) rfl (hb C.2.2.2.1 hd) t q) w
theorem w_istore (C : Hand X Z y bytes mx rt R n0 Q) {j : Nat} {x : Int32} (hd : decode bytes pc = .ok (.istore j, 2)) (hl : storeLocals ls j (.int x) = some ls') (hp : pc + 2 = pc') (w : Wp X k n h pc' ls' st) : Wp X k n h pc ls (.int x :: st) := by
  subst hp; exact Wp.go C (fun X hX C T locs S e t q => XS.istore S.here C.1 rfl (hb C.2.2.2.1 hd) rfl hl q) w
theorem w_istoreN (C : Hand X Z y bytes mx rt R n0 Q) {j : Fin 4} {x : Int32} (hd : decode bytes pc = .ok (.istore_n j, 1)) (hl : storeLocals ls j.val (.int x) = some ls') (hp : pc + 1 = pc') (w : Wp X k n h pc' ls' st) : Wp X k n h pc ls (.int x :: st) := by
  subst hp; exact Wp.go C (fun X hX C T locs S e t q => XS.istoreN S.here C.1 rfl (hb C.2.2.2.1 hd) rfl hl q) w
theorem w_lstore (C : Hand X Z y bytes mx rt R n0 Q) {j : Nat} {x : Int64} (hd : decode bytes pc = .ok (.lstore j, 2)) (hl : storeLocals ls j (.long x) = some ls') (hp : pc + 2 = pc') (w : Wp X k n h pc' ls' st) : Wp X k n h pc ls (.long x :: st) := by
  subst hp; exact Wp.go C (fun X hX C T locs S e t q => XS.lstore S.here C.1 rfl (hb C.2.2.2.1 hd) rfl hl q) w
theorem w_lstoreN (C : Hand X Z y bytes mx rt R n0 Q) {j : Fin 4} {x : Int64} (hd : decode bytes pc = .ok (.lstore_n j, 1)) (hl : storeLocals ls j.val (.long x) = some ls') (hp : pc + 1 = pc') (w : Wp X k n h pc' ls' st) : Wp X k n h pc ls (.long x :: st) := by
  subst hp; exact Wp.go C (fun X hX C T locs S e t q => XS.lstoreN S.here C.1 rfl (hb C.2.2.2.1 hd) rfl hl q) w
theorem w_astore (C : Hand X Z y bytes mx rt R n0 Q) {j : Nat} {x : Value} (hd : decode bytes pc = .ok (.astore j, 2)) (hv : x.isRef = true) (hl : storeLocals ls j (x) = some ls') (hp : pc + 2 = pc') (w : Wp X k n h pc' ls' st) : Wp X k n h pc ls (x :: st) := by
  subst hp; exact Wp.go C (fun X hX C T locs S e t q => XS.astore S.here C.1 rfl (hb C.2.2.2.1 hd) rfl hv hl q) w
theorem w_astoreN (C : Hand X Z y bytes mx rt R n0 Q) {j : Fin 4} {x : Value} (hd : decode bytes pc = .ok (.astore_n j, 1)) (hv : x.isRef = true) (hl : storeLocals ls j.val (x) = some ls') (hp : pc + 1 = pc') (w : Wp X k n h pc' ls' st) : Wp X k n h pc ls (x :: st) := by
  subst hp; exact Wp.go C (fun X hX C T locs S e t q => XS.astoreN S.here C.1 rfl (hb C.2.2.2.1 hd) rfl hv hl q) w
theorem w_iinc (C : Hand X Z y bytes mx rt R n0 Q) {j : Nat} {cst : Int} {x z : Int32} (hd : decode bytes pc = .ok (.iinc j cst, 3)) (hl : ls[j]? = some (.val (.int x))) (hz : Int32.ofInt cst = z) (hl' : storeLocals ls j (.int (x + z)) = some ls') (hp : pc + 3 = pc') (w : Wp X k n h pc' ls' st) : Wp X k n h pc ls st := by
  subst hp hz; exact Wp.go C (fun X hX C T locs S e t q => XS.iinc S.here C.1 rfl (hb C.2.2.2.1 hd) hl hl' q) w
theorem w_dup (C : Hand X Z y bytes mx rt R n0 Q) {x : Value} (hd : decode bytes pc = .ok (.dup, 1)) (hc : x.category = 1) (hp : pc + 1 = pc') (w : Wp X k n h pc' ls (x :: x :: st)) : Wp X k n h pc ls (x :: st) := by
  subst hp; exact Wp.go C (fun X hX C T locs S e t q => XS.dup S.here C.1 rfl (hb C.2.2.2.1 hd) rfl hc q) w
theorem w_dup2 (C : Hand X Z y bytes mx rt R n0 Q) {x z : Value} (hd : decode bytes pc = .ok (.dup2, 1)) (hc : x.category = 1) (hc' : z.category = 1) (hp : pc + 1 = pc') (w : Wp X k n h pc' ls (x :: z :: x :: z :: st)) : Wp X k n h pc ls (x :: z :: st) := by
  subst hp; exact Wp.go C (fun X hX C T locs S e t q => XT.dup2 S.here C.1 rfl (hb C.2.2.2.1 hd) rfl hc hc' q) w
theorem w_dupX1 (C : Hand X Z y bytes mx rt R n0 Q) {x z : Value} (hd : decode bytes pc = .ok (.dup_x1, 1)) (hc : x.category = 1) (hc' : z.category = 1) (hp : pc + 1 = pc') (w : Wp X k n h pc' ls (x :: z :: x :: st)) : Wp X k n h pc ls (x :: z :: st) := by
  subst hp; exact Wp.go C (fun X hX C T locs S e t q => XS.dupX1 S.here C.1 rfl (hb C.2.2.2.1 hd) rfl hc hc' q) w
theorem w_dup2L (C : Hand X Z y bytes mx rt R n0 Q) {x : Int64} (hd : decode bytes pc = .ok (.dup2, 1)) (hp : pc + 1 = pc') (w : Wp X k n h pc' ls (.long x :: .long x :: st)) : Wp X k n h pc ls (.long x :: st) := by
  subst hp; exact Wp.go C (fun X hX C T locs S e t q => XT.dup2L S.here C.1 rfl (hb C.2.2.2.1 hd) rfl q) w
theorem w_pop2L (C : Hand X Z y bytes mx rt R n0 Q) {x : Int64} (hd : decode bytes pc = .ok (.pop2, 1)) (hp : pc + 1 = pc') (w : Wp X k n h pc' ls (st)) : Wp X k n h pc ls (.long x :: st) := by
  subst hp; exact Wp.go C (fun X hX C T locs S e t q => own_pop2L S.here C.1 rfl (hb C.2.2.2.1 hd) rfl q) w
theorem w_pop (C : Hand X Z y bytes mx rt R n0 Q) {x : Value} (hd : decode bytes pc = .ok (.pop, 1)) (hc : x.category = 1) (hp : pc + 1 = pc') (w : Wp X k n h pc' ls (st)) : Wp X k n h pc ls (x :: st) := by
  subst hp; exact Wp.go C (fun X hX C T locs S e t q => XS.pop S.here C.1 rfl (hb C.2.2.2.1 hd) rfl hc q) w
theorem w_iadd (C : Hand X Z y bytes mx rt R n0 Q) {x z : Int32} (hd : decode bytes pc = .ok (.iadd, 1)) (hp : pc + 1 = pc') (w : Wp X k n h pc' ls (.int (x + z) :: st)) : Wp X k n h pc ls (.int z :: .int x :: st) := by
  subst hp; exact Wp.go C (fun X hX C T locs S e t q => XS.iadd S.here C.1 rfl (hb C.2.2.2.1 hd) rfl q) w
theorem w_isub (C : Hand X Z y bytes mx rt R n0 Q) {x z : Int32} (hd : decode bytes pc = .ok (.isub, 1)) (hp : pc + 1 = pc') (w : Wp X k n h pc' ls (.int (x - z) :: st)) : Wp X k n h pc ls (.int z :: .int x :: st) := by
  subst hp; exact Wp.go C (fun X hX C T locs S e t q => XS.isub S.here C.1 rfl (hb C.2.2.2.1 hd) rfl q) w
theorem w_imul (C : Hand X Z y bytes mx rt R n0 Q) {x z : Int32} (hd : decode bytes pc = .ok (.imul, 1)) (hp : pc + 1 = pc') (w : Wp X k n h pc' ls (.int (x * z) :: st)) : Wp X k n h pc ls (.int z :: .int x :: st) := by
  subst hp; exact Wp.go C (fun X hX C T locs S e t q => XS.imul S.here C.1 rfl (hb C.2.2.2.1 hd) rfl q) w
theorem w_iand (C : Hand X Z y bytes mx rt R n0 Q) {x z : Int32} (hd : decode bytes pc = .ok (.iand, 1)) (hp : pc + 1 = pc') (w : Wp X k n h pc' ls (.int (x &&& z) :: st)) : Wp X k n h pc ls (.int z :: .int x :: st) := by
  subst hp; exact Wp.go C (fun X hX C T locs S e t q => XS.iand S.here C.1 rfl (hb C.2.2.2.1 hd) rfl q) w
theorem w_ior (C : Hand X Z y bytes mx rt R n0 Q) {x z : Int32} (hd : decode bytes pc = .ok (.ior, 1)) (hp : pc + 1 = pc') (w : Wp X k n h pc' ls (.int (x ||| z) :: st)) : Wp X k n h pc ls (.int z :: .int x :: st) := by
  subst hp; exact Wp.go C (fun X hX C T locs S e t q => XS.ior S.here C.1 rfl (hb C.2.2.2.1 hd) rfl q) w
theorem w_ixor (C : Hand X Z y bytes mx rt R n0 Q) {x z : Int32} (hd : decode bytes pc = .ok (.ixor, 1)) (hp : pc + 1 = pc') (w : Wp X k n h pc' ls (.int (x ^^^ z) :: st)) : Wp X k n h pc ls (.int z :: .int x :: st) := by
  subst hp; exact Wp.go C (fun X hX C T locs S e t q => XS.ixor S.here C.1 rfl (hb C.2.2.2.1 hd) rfl q) w
theorem w_ishl (C : Hand X Z y bytes mx rt R n0 Q) {x z : Int32} (hd : decode bytes pc = .ok (.ishl, 1)) (hp : pc + 1 = pc') (w : Wp X k n h pc' ls (.int (x <<< (z &&& 31)) :: st)) : Wp X k n h pc ls (.int z :: .int x :: st) := by
  subst hp; exact Wp.go C (fun X hX C T locs S e t q => XS.ishl S.here C.1 rfl (hb C.2.2.2.1 hd) rfl q) w
theorem w_ishr (C : Hand X Z y bytes mx rt R n0 Q) {x z : Int32} (hd : decode bytes pc = .ok (.ishr, 1)) (hp : pc + 1 = pc') (w : Wp X k n h pc' ls (.int (x >>> (z &&& 31)) :: st)) : Wp X k n h pc ls (.int z :: .int x :: st) := by
  subst hp; exact Wp.go C (fun X hX C T locs S e t q => XS.ishr S.here C.1 rfl (hb C.2.2.2.1 hd) rfl q) w
theorem w_iushr (C : Hand X Z y bytes mx rt R n0 Q) {x z : Int32} (hd : decode bytes pc = .ok (.iushr, 1)) (hp : pc + 1 = pc') (w : Wp X k n h pc' ls (.int ((x.toUInt32 >>> (z &&& 31).toUInt32).toInt32) :: st)) : Wp X k n h pc ls (.int z :: .int x :: st) := by
  subst hp; exact Wp.go C (fun X hX C T locs S e t q => XS.iushr S.here C.1 rfl (hb C.2.2.2.1 hd) rfl q) w
theorem w_ladd (C : Hand X Z y bytes mx rt R n0 Q) {x z : Int64} (hd : decode bytes pc = .ok (.ladd, 1)) (hp : pc + 1 = pc') (w : Wp X k n h pc' ls (.long (x + z) :: st)) : Wp X k n h pc ls (.long z :: .long x :: st) := by
  subst hp; exact Wp.go C (fun X hX C T locs S e t q => XS.ladd S.here C.1 rfl (hb C.2.2.2.1 hd) rfl q) w
theorem w_lsub (C : Hand X Z y bytes mx rt R n0 Q) {x z : Int64} (hd : decode bytes pc = .ok (.lsub, 1)) (hp : pc + 1 = pc') (w : Wp X k n h pc' ls (.long (x - z) :: st)) : Wp X k n h pc ls (.long z :: .long x :: st) := by
  subst hp; exact Wp.go C (fun X hX C T locs S e t q => XS.lsub S.here C.1 rfl (hb C.2.2.2.1 hd) rfl q) w
theorem w_lmul (C : Hand X Z y bytes mx rt R n0 Q) {x z : Int64} (hd : decode bytes pc = .ok (.lmul, 1)) (hp : pc + 1 = pc') (w : Wp X k n h pc' ls (.long (x * z) :: st)) : Wp X k n h pc ls (.long z :: .long x :: st) := by
  subst hp; exact Wp.go C (fun X hX C T locs S e t q => XS.lmul S.here C.1 rfl (hb C.2.2.2.1 hd) rfl q) w
theorem w_land (C : Hand X Z y bytes mx rt R n0 Q) {x z : Int64} (hd : decode bytes pc = .ok (.land, 1)) (hp : pc + 1 = pc') (w : Wp X k n h pc' ls (.long (x &&& z) :: st)) : Wp X k n h pc ls (.long z :: .long x :: st) := by
  subst hp; exact Wp.go C (fun X hX C T locs S e t q => XS.land S.here C.1 rfl (hb C.2.2.2.1 hd) rfl q) w
theorem w_lor (C : Hand X Z y bytes mx rt R n0 Q) {x z : Int64} (hd : decode bytes pc = .ok (.lor, 1)) (hp : pc + 1 = pc') (w : Wp X k n h pc' ls (.long (x ||| z) :: st)) : Wp X k n h pc ls (.long z :: .long x :: st) := by
  subst hp; exact Wp.go C (fun X hX C T locs S e t q => XS.lor S.here C.1 rfl (hb C.2.2.2.1 hd) rfl q) w
theorem w_lxor (C : Hand X Z y bytes mx rt R n0 Q) {x z : Int64} (hd : decode bytes pc = .ok (.lxor, 1)) (hp : pc + 1 = pc') (w : Wp X k n h pc' ls (.long (x ^^^ z) :: st)) : Wp X k n h pc ls (.long z :: .long x :: st) := by
  subst hp; exact Wp.go C (fun X hX C T locs S e t q => XS.lxor S.here C.1 rfl (hb C.2.2.2.1 hd) rfl q) w
theorem w_lshl (C : Hand X Z y bytes mx rt R n0 Q) {x : Int64} {z : Int32} (hd : decode bytes pc = .ok (.lshl, 1)) (hp : pc + 1 = pc') (w : Wp X k n h pc' ls (.long (x <<< (z &&& 0x3f).toInt64) :: st)) : Wp X k n h pc ls (.int z :: .long x :: st) := by
  subst hp; exact Wp.go C (fun X hX C T locs S e t q => XS.lshl S.here C.1 rfl (hb C.2.2.2.1 hd) rfl q) w
theorem w_lshr (C : Hand X Z y bytes mx rt R n0 Q) {x : Int64} {z : Int32} (hd : decode bytes pc = .ok (.lshr, 1)) (hp : pc + 1 = pc') (w : Wp X k n h pc' ls (.long (x >>> (z &&& 0x3f).toInt64) :: st)) : Wp X k n h pc ls (.int z :: .long x :: st) := by
  subst hp; exact Wp.go C (fun X hX C T locs S e t q => XS.lshr S.here C.1 rfl (hb C.2.2.2.1 hd) rfl q) w
theorem w_lushr (C : Hand X Z y bytes mx rt R n0 Q) {x : Int64} {z : Int32} (hd : decode bytes pc = .ok (.lushr, 1)) (hp : pc + 1 = pc') (w : Wp X k n h pc' ls (.long ((x.toUInt64 >>> (z &&& 0x3f).toInt64.toUInt64).toInt64) :: st)) : Wp X k n h pc ls (.int z :: .long x :: st) := by
  subst hp; exact Wp.go C (fun X hX C T locs S e t q => XS.lushr S.here C.1 rfl (hb C.2.2.2.1 hd) rfl q) w
theorem w_idiv (C : Hand X Z y bytes mx rt R n0 Q) {x z : Int32} (hd : decode bytes pc = .ok (.idiv, 1)) (hz : z ≠ 0) (hp : pc + 1 = pc') (w : Wp X k n h pc' ls (.int (x / z) :: st)) : Wp X k n h pc ls (.int z :: .int x :: st) := by
  subst hp; exact Wp.go C (fun X hX C T locs S e t q => XS.idiv S.here C.1 rfl (hb C.2.2.2.1 hd) rfl hz q) w
theorem w_irem (C : Hand X Z y bytes mx rt R n0 Q) {x z : Int32} (hd : decode bytes pc = .ok (.irem, 1)) (hz : z ≠ 0) (hp : pc + 1 = pc') (w : Wp X k n h pc' ls (.int (x % z) :: st)) : Wp X k n h pc ls (.int z :: .int x :: st) := by
  subst hp; exact Wp.go C (fun X hX C T locs S e t q => iremM S C.1 rfl (hb C.2.2.2.1 hd) rfl hz q) w
theorem w_ineg (C : Hand X Z y bytes mx rt R n0 Q) {x : Int32} (hd : decode bytes pc = .ok (.ineg, 1)) (hp : pc + 1 = pc') (w : Wp X k n h pc' ls (.int (-x) :: st)) : Wp X k n h pc ls (.int x :: st) := by
  subst hp; exact Wp.go C (fun X hX C T locs S e t q => XS.ineg S.here C.1 rfl (hb C.2.2.2.1 hd) rfl q) w
theorem w_lneg (C : Hand X Z y bytes mx rt R n0 Q) {x : Int64} (hd : decode bytes pc = .ok (.lneg, 1)) (hp : pc + 1 = pc') (w : Wp X k n h pc' ls (.long (-x) :: st)) : Wp X k n h pc ls (.long x :: st) := by
  subst hp; exact Wp.go C (fun X hX C T locs S e t q => XS.lneg S.here C.1 rfl (hb C.2.2.2.1 hd) rfl q) w
theorem w_i2l (C : Hand X Z y bytes mx rt R n0 Q) {x : Int32} (hd : decode bytes pc = .ok (.i2l, 1)) (hp : pc + 1 = pc') (w : Wp X k n h pc' ls (.long x.toInt64 :: st)) : Wp X k n h pc ls (.int x :: st) := by
  subst hp; exact Wp.go C (fun X hX C T locs S e t q => XS.i2l S.here C.1 rfl (hb C.2.2.2.1 hd) rfl q) w
theorem w_l2i (C : Hand X Z y bytes mx rt R n0 Q) {x : Int64} (hd : decode bytes pc = .ok (.l2i, 1)) (hp : pc + 1 = pc') (w : Wp X k n h pc' ls (.int x.toInt32 :: st)) : Wp X k n h pc ls (.long x :: st) := by
  subst hp; exact Wp.go C (fun X hX C T locs S e t q => XS.l2i S.here C.1 rfl (hb C.2.2.2.1 hd) rfl q) w
theorem w_i2b (C : Hand X Z y bytes mx rt R n0 Q) {x : Int32} (hd : decode bytes pc = .ok (.i2b, 1)) (hp : pc + 1 = pc') (w : Wp X k n h pc' ls (.int x.toInt8.toInt32 :: st)) : Wp X k n h pc ls (.int x :: st) := by
  subst hp; exact Wp.go C (fun X hX C T locs S e t q => XS.i2b S.here C.1 rfl (hb C.2.2.2.1 hd) rfl q) w
theorem w_i2s (C : Hand X Z y bytes mx rt R n0 Q) {x : Int32} (hd : decode bytes pc = .ok (.i2s, 1)) (hp : pc + 1 = pc') (w : Wp X k n h pc' ls (.int x.toInt16.toInt32 :: st)) : Wp X k n h pc ls (.int x :: st) := by
  subst hp; exact Wp.go C (fun X hX C T locs S e t q => XS.i2s S.here C.1 rfl (hb C.2.2.2.1 hd) rfl q) w
theorem w_i2c (C : Hand X Z y bytes mx rt R n0 Q) {x : Int32} (hd : decode bytes pc = .ok (.i2c, 1)) (hp : pc + 1 = pc') (w : Wp X k n h pc' ls (.int x.toUInt32.toUInt16.toUInt32.toInt32 :: st)) : Wp X k n h pc ls (.int x :: st) := by
  subst hp; exact Wp.go C (fun X hX C T locs S e t q => XS.i2c S.here C.1 rfl (hb C.2.2.2.1 hd) rfl q) w
theorem w_lcmp (C : Hand X Z y bytes mx rt R n0 Q) {x z : Int64} (hd : decode bytes pc = .ok (.lcmp, 1)) (hp : pc + 1 = pc') (w : Wp X k n h pc' ls (.int (lcmpW x z) :: st)) : Wp X k n h pc ls (.long z :: .long x :: st) := by
  subst hp; exact Wp.go C (fun X hX C T locs S e t q => XS.lcmp S.here C.1 rfl (hb C.2.2.2.1 hd) rfl q) w
theorem w_goto (C : Hand X Z y bytes mx rt R n0 Q) {o : Int} (hd : decode bytes pc = .ok (.goto o, 3)) (ho : 0 ≤ (pc : Int) + o) (hp : ((pc : Int) + o).toNat = pc') (w : Wp X k n h pc' ls st) : Wp X k n h pc ls st := by
  exact Wp.go C (fun X hX C T locs S e t q => XS.goto S.here C.1 rfl (pc0 := pc) rfl (hb C.2.2.2.1 hd) ho hp q) w
theorem w_icmp_eq (C : Hand X Z y bytes mx rt R n0 Q) {o : Int} {x z : Int32} {pn : Nat} (hd : decode bytes pc = .ok (.if_icmp .eq o, 3)) (ho : 0 ≤ (pc : Int) + o) (hp : ((pc : Int) + o).toNat = pc') (hn : pc + 3 = pn) (wy : x = z → Wp X k n h pc' ls st) (wn : ¬ x = z → Wp X k n h pn ls st) : Wp X k n h pc ls (.int z :: .int x :: st) := by
  subst hn
  by_cases q : x = z
  · exact Wp.go C (fun X hX C T locs S e t r => XS.icmpYes S.here C.1 rfl (pc0 := pc) rfl (hb C.2.2.2.1 hd) rfl (teq q).1 ho hp r) (wy q)
  · exact Wp.go C (fun X hX C T locs S e t r => XS.icmpNo S.here C.1 rfl (hb C.2.2.2.1 hd) rfl (feq q).1 r) (wn (by first | exact q | exact Decidable.not_not.mp q))
theorem w_if_eq (C : Hand X Z y bytes mx rt R n0 Q) {o : Int} {x : Int32} {pn : Nat} (hd : decode bytes pc = .ok (.ifCond .eq o, 3)) (ho : 0 ≤ (pc : Int) + o) (hp : ((pc : Int) + o).toNat = pc') (hn : pc + 3 = pn) (wy : x = (0 : Int32) → Wp X k n h pc' ls st) (wn : ¬ x = (0 : Int32) → Wp X k n h pn ls st) : Wp X k n h pc ls (.int x :: st) := by
  subst hn
  by_cases q : x = (0 : Int32)
  · exact Wp.go C (fun X hX C T locs S e t r => XS.ifYes S.here C.1 rfl (pc0 := pc) rfl (hb C.2.2.2.1 hd) rfl ((if0 _ _).trans (teq q).1) ho hp r) (wy q)
  · exact Wp.go C (fun X hX C T locs S e t r => XS.ifNo S.here C.1 rfl (hb C.2.2.2.1 hd) rfl ((if0 _ _).trans (feq q).1) r) (wn (by first | exact q | exact Decidable.not_not.mp q))
theorem w_icmp_ne (C : Hand X Z y bytes mx rt R n0 Q) {o : Int} {x z : Int32} {pn : Nat} (hd : decode bytes pc = .ok (.if_icmp .ne o, 3)) (ho : 0 ≤ (pc : Int) + o) (hp : ((pc : Int) + o).toNat = pc') (hn : pc + 3 = pn) (wy : ¬ x = z → Wp X k n h pc' ls st) (wn : x = z → Wp X k n h pn ls st) : Wp X k n h pc ls (.int z :: .int x :: st) := by
  subst hn
  by_cases q : ¬ x = z
  · exact Wp.go C (fun X hX C T locs S e t r => XS.icmpYes S.here C.1 rfl (pc0 := pc) rfl (hb C.2.2.2.1 hd) rfl (feq q).2 ho hp r) (wy q)
  · exact Wp.go C (fun X hX C T locs S e t r => XS.icmpNo S.here C.1 rfl (hb C.2.2.2.1 hd) rfl (teq (Decidable.not_not.mp q)).2 r) (wn (by first | exact q | exact Decidable.not_not.mp q))
theorem w_if_ne (C : Hand X Z y bytes mx rt R n0 Q) {o : Int} {x : Int32} {pn : Nat} (hd : decode bytes pc = .ok (.ifCond .ne o, 3)) (ho : 0 ≤ (pc : Int) + o) (hp : ((pc : Int) + o).toNat = pc') (hn : pc + 3 = pn) (wy : ¬ x = (0 : Int32) → Wp X k n h pc' ls st) (wn : x = (0 : Int32) → Wp X k n h pn ls st) : Wp X k n h pc ls (.int x :: st) := by
  subst hn
  by_cases q : ¬ x = (0 : Int32)
  · exact Wp.go C (fun X hX C T locs S e t r => XS.ifYes S.here C.1 rfl (pc0 := pc) rfl (hb C.2.2.2.1 hd) rfl ((if0 _ _).trans (feq q).2) ho hp r) (wy q)
  · exact Wp.go C (fun X hX C T locs S e t r => XS.ifNo S.here C.1 rfl (hb C.2.2.2.1 hd) rfl ((if0 _ _).trans (teq (Decidable.not_not.mp q)).2) r) (wn (by first | exact q | exact Decidable.not_not.mp q))
theorem w_icmp_lt (C : Hand X Z y bytes mx rt R n0 Q) {o : Int} {x z : Int32} {pn : Nat} (hd : decode bytes pc = .ok (.if_icmp .lt o, 3)) (ho : 0 ≤ (pc : Int) + o) (hp : ((pc : Int) + o).toNat = pc') (hn : pc + 3 = pn) (wy : x < z → Wp X k n h pc' ls st) (wn : ¬ x < z → Wp X k n h pn ls st) : Wp X k n h pc ls (.int z :: .int x :: st) := by
  subst hn
  by_cases q : x < z
  · exact Wp.go C (fun X hX C T locs S e t r => XS.icmpYes S.here C.1 rfl (pc0 := pc) rfl (hb C.2.2.2.1 hd) rfl (tlt q).1 ho hp r) (wy q)
  · exact Wp.go C (fun X hX C T locs S e t r => XS.icmpNo S.here C.1 rfl (hb C.2.2.2.1 hd) rfl (flt q).1 r) (wn (by first | exact q | exact Decidable.not_not.mp q))
theorem w_if_lt (C : Hand X Z y bytes mx rt R n0 Q) {o : Int} {x : Int32} {pn : Nat} (hd : decode bytes pc = .ok (.ifCond .lt o, 3)) (ho : 0 ≤ (pc : Int) + o) (hp : ((pc : Int) + o).toNat = pc') (hn : pc + 3 = pn) (wy : x < (0 : Int32) → Wp X k n h pc' ls st) (wn : ¬ x < (0 : Int32) → Wp X k n h pn ls st) : Wp X k n h pc ls (.int x :: st) := by
  subst hn
  by_cases q : x < (0 : Int32)
  · exact Wp.go C (fun X hX C T locs S e t r => XS.ifYes S.here C.1 rfl (pc0 := pc) rfl (hb C.2.2.2.1 hd) rfl ((if0 _ _).trans (tlt q).1) ho hp r) (wy q)
  · exact Wp.go C (fun X hX C T locs S e t r => XS.ifNo S.here C.1 rfl (hb C.2.2.2.1 hd) rfl ((if0 _ _).trans (flt q).1) r) (wn (by first | exact q | exact Decidable.not_not.mp q))
theorem w_icmp_ge (C : Hand X Z y bytes mx rt R n0 Q) {o : Int} {x z : Int32} {pn : Nat} (hd : decode bytes pc = .ok (.if_icmp .ge o, 3)) (ho : 0 ≤ (pc : Int) + o) (hp : ((pc : Int) + o).toNat = pc') (hn : pc + 3 = pn) (wy : ¬ x < z → Wp X k n h pc' ls st) (wn : x < z → Wp X k n h pn ls st) : Wp X k n h pc ls (.int z :: .int x :: st) := by
  subst hn
  by_cases q : ¬ x < z
  · exact Wp.go C (fun X hX C T locs S e t r => XS.icmpYes S.here C.1 rfl (pc0 := pc) rfl (hb C.2.2.2.1 hd) rfl (flt q).2.1 ho hp r) (wy q)
  · exact Wp.go C (fun X hX C T locs S e t r => XS.icmpNo S.here C.1 rfl (hb C.2.2.2.1 hd) rfl (tlt (Decidable.not_not.mp q)).2.1 r) (wn (by first | exact q | exact Decidable.not_not.mp q))
theorem w_if_ge (C : Hand X Z y bytes mx rt R n0 Q) {o : Int} {x : Int32} {pn : Nat} (hd : decode bytes pc = .ok (.ifCond .ge o, 3)) (ho : 0 ≤ (pc : Int) + o) (hp : ((pc : Int) + o).toNat = pc') (hn : pc + 3 = pn) (wy : ¬ x < (0 : Int32) → Wp X k n h pc' ls st) (wn : x < (0 : Int32) → Wp X k n h pn ls st) : Wp X k n h pc ls (.int x :: st) := by
  subst hn
  by_cases q : ¬ x < (0 : Int32)
  · exact Wp.go C (fun X hX C T locs S e t r => XS.ifYes S.here C.1 rfl (pc0 := pc) rfl (hb C.2.2.2.1 hd) rfl ((if0 _ _).trans (flt q).2.1) ho hp r) (wy q)
  · exact Wp.go C (fun X hX C T locs S e t r => XS.ifNo S.here C.1 rfl (hb C.2.2.2.1 hd) rfl ((if0 _ _).trans (tlt (Decidable.not_not.mp q)).2.1) r) (wn (by first | exact q | exact Decidable.not_not.mp q))
theorem w_icmp_gt (C : Hand X Z y bytes mx rt R n0 Q) {o : Int} {x z : Int32} {pn : Nat} (hd : decode bytes pc = .ok (.if_icmp .gt o, 3)) (ho : 0 ≤ (pc : Int) + o) (hp : ((pc : Int) + o).toNat = pc') (hn : pc + 3 = pn) (wy : z < x → Wp X k n h pc' ls st) (wn : ¬ z < x → Wp X k n h pn ls st) : Wp X k n h pc ls (.int z :: .int x :: st) := by
  subst hn
  by_cases q : z < x
  · exact Wp.go C (fun X hX C T locs S e t r => XS.icmpYes S.here C.1 rfl (pc0 := pc) rfl (hb C.2.2.2.1 hd) rfl (tlt q).2.2.1 ho hp r) (wy q)
  · exact Wp.go C (fun X hX C T locs S e t r => XS.icmpNo S.here C.1 rfl (hb C.2.2.2.1 hd) rfl (flt q).2.2.1 r) (wn (by first | exact q | exact Decidable.not_not.mp q))
theorem w_if_gt (C : Hand X Z y bytes mx rt R n0 Q) {o : Int} {x : Int32} {pn : Nat} (hd : decode bytes pc = .ok (.ifCond .gt o, 3)) (ho : 0 ≤ (pc : Int) + o) (hp : ((pc : Int) + o).toNat = pc') (hn : pc + 3 = pn) (wy : (0 : Int32) < x → Wp X k n h pc' ls st) (wn : ¬ (0 : Int32) < x → Wp X k n h pn ls st) : Wp X k n h pc ls (.int x :: st) := by
  subst hn
  by_cases q : (0 : Int32) < x
  · exact Wp.go C (fun X hX C T locs S e t r => XS.ifYes S.here C.1 rfl (pc0 := pc) rfl (hb C.2.2.2.1 hd) rfl ((if0 _ _).trans (tlt q).2.2.1) ho hp r) (wy q)
  · exact Wp.go C (fun X hX C T locs S e t r => XS.ifNo S.here C.1 rfl (hb C.2.2.2.1 hd) rfl ((if0 _ _).trans (flt q).2.2.1) r) (wn (by first | exact q | exact Decidable.not_not.mp q))
theorem w_icmp_le (C : Hand X Z y bytes mx rt R n0 Q) {o : Int} {x z : Int32} {pn : Nat} (hd : decode bytes pc = .ok (.if_icmp .le o, 3)) (ho : 0 ≤ (pc : Int) + o) (hp : ((pc : Int) + o).toNat = pc') (hn : pc + 3 = pn) (wy : ¬ z < x → Wp X k n h pc' ls st) (wn : z < x → Wp X k n h pn ls st) : Wp X k n h pc ls (.int z :: .int x :: st) := by
  subst hn
  by_cases q : ¬ z < x
  · exact Wp.go C (fun X hX C T locs S e t r => XS.icmpYes S.here C.1 rfl (pc0 := pc) rfl (hb C.2.2.2.1 hd) rfl (flt q).2.2.2 ho hp r) (wy q)
  · exact Wp.go C (fun X hX C T locs S e t r => XS.icmpNo S.here C.1 rfl (hb C.2.2.2.1 hd) rfl (tlt (Decidable.not_not.mp q)).2.2.2 r) (wn (by first | exact q | exact Decidable.not_not.mp q))
theorem w_if_le (C : Hand X Z y bytes mx rt R n0 Q) {o : Int} {x : Int32} {pn : Nat} (hd : decode bytes pc = .ok (.ifCond .le o, 3)) (ho : 0 ≤ (pc : Int) + o) (hp : ((pc : Int) + o).toNat = pc') (hn : pc + 3 = pn) (wy : ¬ (0 : Int32) < x → Wp X k n h pc' ls st) (wn : (0 : Int32) < x → Wp X k n h pn ls st) : Wp X k n h pc ls (.int x :: st) := by
  subst hn
  by_cases q : ¬ (0 : Int32) < x
  · exact Wp.go C (fun X hX C T locs S e t r => XS.ifYes S.here C.1 rfl (pc0 := pc) rfl (hb C.2.2.2.1 hd) rfl ((if0 _ _).trans (flt q).2.2.2) ho hp r) (wy q)
  · exact Wp.go C (fun X hX C T locs S e t r => XS.ifNo S.here C.1 rfl (hb C.2.2.2.1 hd) rfl ((if0 _ _).trans (tlt (Decidable.not_not.mp q)).2.2.2) r) (wn (by first | exact q | exact Decidable.not_not.mp q))
theorem w_lc_eq (C : Hand X Z y bytes mx rt R n0 Q) {o : Int} {x z : Int64} {pm pn : Nat} (hd0 : decode bytes pc = .ok (.lcmp, 1)) (h0 : pc + 1 = pm) (hd : decode bytes pm = .ok (.ifCond .eq o, 3)) (ho : 0 ≤ (pm : Int) + o) (hp : ((pm : Int) + o).toNat = pc') (hn : pm + 3 = pn) (wy : x = z → Wp X k n h pc' ls st) (wn : ¬ x = z → Wp X k n h pn ls st) : Wp X k n h pc ls (.long z :: .long x :: st) :=
  w_lcmp C hd0 h0 (w_if_eq C hd ho hp hn (fun q => wy ((lw_eq x z).mp q)) (fun q => wn ((not_congr (lw_eq x z)).mp q)))
theorem w_lc_ne (C : Hand X Z y bytes mx rt R n0 Q) {o : Int} {x z : Int64} {pm pn : Nat} (hd0 : decode bytes pc = .ok (.lcmp, 1)) (h0 : pc + 1 = pm) (hd : decode bytes pm = .ok (.ifCond .ne o, 3)) (ho : 0 ≤ (pm : Int) + o) (hp : ((pm : Int) + o).toNat = pc') (hn : pm + 3 = pn) (wy : ¬ x = z → Wp X k n h pc' ls st) (wn : x = z → Wp X k n h pn ls st) : Wp X k n h pc ls (.long z :: .long x :: st) :=
  w_lcmp C hd0 h0 (w_if_ne C hd ho hp hn (fun q => wy ((not_congr (lw_eq x z)).mp q)) (fun q => wn ((lw_eq x z).mp q)))
theorem w_lc_lt (C : Hand X Z y bytes mx rt R n0 Q) {o : Int} {x z : Int64} {pm pn : Nat} (hd0 : decode bytes pc = .ok (.lcmp, 1)) (h0 : pc + 1 = pm) (hd : decode bytes pm = .ok (.ifCond .lt o, 3)) (ho : 0 ≤ (pm : Int) + o) (hp : ((pm : Int) + o).toNat = pc') (hn : pm + 3 = pn) (wy : x < z → Wp X k n h pc' ls st) (wn : ¬ x < z → Wp X k n h pn ls st) : Wp X k n h pc ls (.long z :: .long x :: st) :=
  w_lcmp C hd0 h0 (w_if_lt C hd ho hp hn (fun q => wy ((lw_lt x z).mp q)) (fun q => wn ((not_congr (lw_lt x z)).mp q)))
theorem w_lc_ge (C : Hand X Z y bytes mx rt R n0 Q) {o : Int} {x z : Int64} {pm pn : Nat} (hd0 : decode bytes pc = .ok (.lcmp, 1)) (h0 : pc + 1 = pm) (hd : decode bytes pm = .ok (.ifCond .ge o, 3)) (ho : 0 ≤ (pm : Int) + o) (hp : ((pm : Int) + o).toNat = pc') (hn : pm + 3 = pn) (wy : ¬ x < z → Wp X k n h pc' ls st) (wn : x < z → Wp X k n h pn ls st) : Wp X k n h pc ls (.long z :: .long x :: st) :=
  w_lcmp C hd0 h0 (w_if_ge C hd ho hp hn (fun q => wy ((not_congr (lw_lt x z)).mp q)) (fun q => wn ((lw_lt x z).mp q)))
theorem w_lc_gt (C : Hand X Z y bytes mx rt R n0 Q) {o : Int} {x z : Int64} {pm pn : Nat} (hd0 : decode bytes pc = .ok (.lcmp, 1)) (h0 : pc + 1 = pm) (hd : decode bytes pm = .ok (.ifCond .gt o, 3)) (ho : 0 ≤ (pm : Int) + o) (hp : ((pm : Int) + o).toNat = pc') (hn : pm + 3 = pn) (wy : z < x → Wp X k n h pc' ls st) (wn : ¬ z < x → Wp X k n h pn ls st) : Wp X k n h pc ls (.long z :: .long x :: st) :=
  w_lcmp C hd0 h0 (w_if_gt C hd ho hp hn (fun q => wy ((lw_gt x z).mp q)) (fun q => wn ((not_congr (lw_gt x z)).mp q)))
theorem w_lc_le (C : Hand X Z y bytes mx rt R n0 Q) {o : Int} {x z : Int64} {pm pn : Nat} (hd0 : decode bytes pc = .ok (.lcmp, 1)) (h0 : pc + 1 = pm) (hd : decode bytes pm = .ok (.ifCond .le o, 3)) (ho : 0 ≤ (pm : Int) + o) (hp : ((pm : Int) + o).toNat = pc') (hn : pm + 3 = pn) (wy : ¬ z < x → Wp X k n h pc' ls st) (wn : z < x → Wp X k n h pn ls st) : Wp X k n h pc ls (.long z :: .long x :: st) :=
  w_lcmp C hd0 h0 (w_if_le C hd ho hp hn (fun q => wy ((not_congr (lw_gt x z)).mp q)) (fun q => wn ((lw_gt x z).mp q)))
theorem w_jcmp_eq (C : Hand X Z y bytes mx rt R n0 Q) {o : Int} {x z : Int32} {pn : Nat} (hd : decode bytes pc = .ok (.if_icmp .eq o, 3)) (ho : 0 ≤ (pc : Int) + o) (hp : ((pc : Int) + o).toNat = pc') (hn : pc + 3 = pn) (wy : x.toInt = z.toInt → Wp X k n h pc' ls st) (wn : ¬ x.toInt = z.toInt → Wp X k n h pn ls st) : Wp X k n h pc ls (.int z :: .int x :: st) :=
  w_icmp_eq C hd ho hp hn (fun q => wy (Int32.toInt_inj.mpr q)) (fun q => wn (fun r => q (Int32.toInt_inj.mp r)))
theorem w_jf_eq (C : Hand X Z y bytes mx rt R n0 Q) {o : Int} {x : Int32} {pn : Nat} (hd : decode bytes pc = .ok (.ifCond .eq o, 3)) (ho : 0 ≤ (pc : Int) + o) (hp : ((pc : Int) + o).toNat = pc') (hn : pc + 3 = pn) (wy : x.toInt = 0 → Wp X k n h pc' ls st) (wn : ¬ x.toInt = 0 → Wp X k n h pn ls st) : Wp X k n h pc ls (.int x :: st) :=
  w_if_eq C hd ho hp hn (fun q => wy (Int32.toInt_inj.mpr q)) (fun q => wn (fun r => q (Int32.toInt_inj.mp r)))
theorem w_jc_eq (C : Hand X Z y bytes mx rt R n0 Q) {o : Int} {x z : Int64} {pm pn : Nat} (hd0 : decode bytes pc = .ok (.lcmp, 1)) (h0 : pc + 1 = pm) (hd : decode bytes pm = .ok (.ifCond .eq o, 3)) (ho : 0 ≤ (pm : Int) + o) (hp : ((pm : Int) + o).toNat = pc') (hn : pm + 3 = pn) (wy : x.toInt = z.toInt → Wp X k n h pc' ls st) (wn : ¬ x.toInt = z.toInt → Wp X k n h pn ls st) : Wp X k n h pc ls (.long z :: .long x :: st) :=
  w_lc_eq C hd0 h0 hd ho hp hn (fun q => wy (Int64.toInt_inj.mpr q)) (fun q => wn (fun r => q (Int64.toInt_inj.mp r)))
theorem w_jcmp_ne (C : Hand X Z y bytes mx rt R n0 Q) {o : Int} {x z : Int32} {pn : Nat} (hd : decode bytes pc = .ok (.if_icmp .ne o, 3)) (ho : 0 ≤ (pc : Int) + o) (hp : ((pc : Int) + o).toNat = pc') (hn : pc + 3 = pn) (wy : ¬ x.toInt = z.toInt → Wp X k n h pc' ls st) (wn : x.toInt = z.toInt → Wp X k n h pn ls st) : Wp X k n h pc ls (.int z :: .int x :: st) :=
  w_icmp_ne C hd ho hp hn (fun q => wy (fun r => q (Int32.toInt_inj.mp r))) (fun q => wn (Int32.toInt_inj.mpr q))
theorem w_jf_ne (C : Hand X Z y bytes mx rt R n0 Q) {o : Int} {x : Int32} {pn : Nat} (hd : decode bytes pc = .ok (.ifCond .ne o, 3)) (ho : 0 ≤ (pc : Int) + o) (hp : ((pc : Int) + o).toNat = pc') (hn : pc + 3 = pn) (wy : ¬ x.toInt = 0 → Wp X k n h pc' ls st) (wn : x.toInt = 0 → Wp X k n h pn ls st) : Wp X k n h pc ls (.int x :: st) :=
  w_if_ne C hd ho hp hn (fun q => wy (fun r => q (Int32.toInt_inj.mp r))) (fun q => wn (Int32.toInt_inj.mpr q))
theorem w_jc_ne (C : Hand X Z y bytes mx rt R n0 Q) {o : Int} {x z : Int64} {pm pn : Nat} (hd0 : decode bytes pc = .ok (.lcmp, 1)) (h0 : pc + 1 = pm) (hd : decode bytes pm = .ok (.ifCond .ne o, 3)) (ho : 0 ≤ (pm : Int) + o) (hp : ((pm : Int) + o).toNat = pc') (hn : pm + 3 = pn) (wy : ¬ x.toInt = z.toInt → Wp X k n h pc' ls st) (wn : x.toInt = z.toInt → Wp X k n h pn ls st) : Wp X k n h pc ls (.long z :: .long x :: st) :=
  w_lc_ne C hd0 h0 hd ho hp hn (fun q => wy (fun r => q (Int64.toInt_inj.mp r))) (fun q => wn (Int64.toInt_inj.mpr q))
theorem w_jcmp_lt (C : Hand X Z y bytes mx rt R n0 Q) {o : Int} {x z : Int32} {pn : Nat} (hd : decode bytes pc = .ok (.if_icmp .lt o, 3)) (ho : 0 ≤ (pc : Int) + o) (hp : ((pc : Int) + o).toNat = pc') (hn : pc + 3 = pn) (wy : x.toInt < z.toInt → Wp X k n h pc' ls st) (wn : z.toInt ≤ x.toInt → Wp X k n h pn ls st) : Wp X k n h pc ls (.int z :: .int x :: st) :=
  w_icmp_lt C hd ho hp hn (fun q => wy (Int32.lt_iff_toInt_lt.mp q)) (fun q => wn (Int.not_lt.mp (fun r => q (Int32.lt_iff_toInt_lt.mpr r))))
theorem w_jf_lt (C : Hand X Z y bytes mx rt R n0 Q) {o : Int} {x : Int32} {pn : Nat} (hd : decode bytes pc = .ok (.ifCond .lt o, 3)) (ho : 0 ≤ (pc : Int) + o) (hp : ((pc : Int) + o).toNat = pc') (hn : pc + 3 = pn) (wy : x.toInt < 0 → Wp X k n h pc' ls st) (wn : 0 ≤ x.toInt → Wp X k n h pn ls st) : Wp X k n h pc ls (.int x :: st) :=
  w_if_lt C hd ho hp hn (fun q => wy (Int32.lt_iff_toInt_lt.mp q)) (fun q => wn (Int.not_lt.mp (fun r => q (Int32.lt_iff_toInt_lt.mpr r))))
theorem w_jc_lt (C : Hand X Z y bytes mx rt R n0 Q) {o : Int} {x z : Int64} {pm pn : Nat} (hd0 : decode bytes pc = .ok (.lcmp, 1)) (h0 : pc + 1 = pm) (hd : decode bytes pm = .ok (.ifCond .lt o, 3)) (ho : 0 ≤ (pm : Int) + o) (hp : ((pm : Int) + o).toNat = pc') (hn : pm + 3 = pn) (wy : x.toInt < z.toInt → Wp X k n h pc' ls st) (wn : z.toInt ≤ x.toInt → Wp X k n h pn ls st) : Wp X k n h pc ls (.long z :: .long x :: st) :=
  w_lc_lt C hd0 h0 hd ho hp hn (fun q => wy (Int64.lt_iff_toInt_lt.mp q)) (fun q => wn (Int.not_lt.mp (fun r => q (Int64.lt_iff_toInt_lt.mpr r))))
theorem w_jcmp_ge (C : Hand X Z y bytes mx rt R n0 Q) {o : Int} {x z : Int32} {pn : Nat} (hd : decode bytes pc = .ok (.if_icmp .ge o, 3)) (ho : 0 ≤ (pc : Int) + o) (hp : ((pc : Int) + o).toNat = pc') (hn : pc + 3 = pn) (wy : z.toInt ≤ x.toInt → Wp X k n h pc' ls st) (wn : x.toInt < z.toInt → Wp X k n h pn ls st) : Wp X k n h pc ls (.int z :: .int x :: st) :=
  w_icmp_ge C hd ho hp hn (fun q => wy (Int.not_lt.mp (fun r => q (Int32.lt_iff_toInt_lt.mpr r)))) (fun q => wn (Int32.lt_iff_toInt_lt.mp q))
theorem w_jf_ge (C : Hand X Z y bytes mx rt R n0 Q) {o : Int} {x : Int32} {pn : Nat} (hd : decode bytes pc = .ok (.ifCond .ge o, 3)) (ho : 0 ≤ (pc : Int) + o) (hp : ((pc : Int) + o).toNat = pc') (hn : pc + 3 = pn) (wy : 0 ≤ x.toInt → Wp X k n h pc' ls st) (wn : x.toInt < 0 → Wp X k n h pn ls st) : Wp X k n h pc ls (.int x :: st) :=
  w_if_ge C hd ho hp hn (fun q => wy (Int.not_lt.mp (fun r => q (Int32.lt_iff_toInt_lt.mpr r)))) (fun q => wn (Int32.lt_iff_toInt_lt.mp q))
theorem w_jc_ge (C : Hand X Z y bytes mx rt R n0 Q) {o : Int} {x z : Int64} {pm pn : Nat} (hd0 : decode bytes pc = .ok (.lcmp, 1)) (h0 : pc + 1 = pm) (hd : decode bytes pm = .ok (.ifCond .ge o, 3)) (ho : 0 ≤ (pm : Int) + o) (hp : ((pm : Int) + o).toNat = pc') (hn : pm + 3 = pn) (wy : z.toInt ≤ x.toInt → Wp X k n h pc' ls st) (wn : x.toInt < z.toInt → Wp X k n h pn ls st) : Wp X k n h pc ls (.long z :: .long x :: st) :=
  w_lc_ge C hd0 h0 hd ho hp hn (fun q => wy (Int.not_lt.mp (fun r => q (Int64.lt_iff_toInt_lt.mpr r)))) (fun q => wn (Int64.lt_iff_toInt_lt.mp q))
theorem w_jcmp_gt (C : Hand X Z y bytes mx rt R n0 Q) {o : Int} {x z : Int32} {pn : Nat} (hd : decode bytes pc = .ok (.if_icmp .gt o, 3)) (ho : 0 ≤ (pc : Int) + o) (hp : ((pc : Int) + o).toNat = pc') (hn : pc + 3 = pn) (wy : z.toInt < x.toInt → Wp X k n h pc' ls st) (wn : x.toInt ≤ z.toInt → Wp X k n h pn ls st) : Wp X k n h pc ls (.int z :: .int x :: st) :=
  w_icmp_gt C hd ho hp hn (fun q => wy (Int32.lt_iff_toInt_lt.mp q)) (fun q => wn (Int.not_lt.mp (fun r => q (Int32.lt_iff_toInt_lt.mpr r))))
theorem w_jf_gt (C : Hand X Z y bytes mx rt R n0 Q) {o : Int} {x : Int32} {pn : Nat} (hd : decode bytes pc = .ok (.ifCond .gt o, 3)) (ho : 0 ≤ (pc : Int) + o) (hp : ((pc : Int) + o).toNat = pc') (hn : pc + 3 = pn) (wy : 0 < x.toInt → Wp X k n h pc' ls st) (wn : x.toInt ≤ 0 → Wp X k n h pn ls st) : Wp X k n h pc ls (.int x :: st) :=
  w_if_gt C hd ho hp hn (fun q => wy (Int32.lt_iff_toInt_lt.mp q)) (fun q => wn (Int.not_lt.mp (fun r => q (Int32.lt_iff_toInt_lt.mpr r))))
theorem w_jc_gt (C : Hand X Z y bytes mx rt R n0 Q) {o : Int} {x z : Int64} {pm pn : Nat} (hd0 : decode bytes pc = .ok (.lcmp, 1)) (h0 : pc + 1 = pm) (hd : decode bytes pm = .ok (.ifCond .gt o, 3)) (ho : 0 ≤ (pm : Int) + o) (hp : ((pm : Int) + o).toNat = pc') (hn : pm + 3 = pn) (wy : z.toInt < x.toInt → Wp X k n h pc' ls st) (wn : x.toInt ≤ z.toInt → Wp X k n h pn ls st) : Wp X k n h pc ls (.long z :: .long x :: st) :=
  w_lc_gt C hd0 h0 hd ho hp hn (fun q => wy (Int64.lt_iff_toInt_lt.mp q)) (fun q => wn (Int.not_lt.mp (fun r => q (Int64.lt_iff_toInt_lt.mpr r))))
theorem w_jcmp_le (C : Hand X Z y bytes mx rt R n0 Q) {o : Int} {x z : Int32} {pn : Nat} (hd : decode bytes pc = .ok (.if_icmp .le o, 3)) (ho : 0 ≤ (pc : Int) + o) (hp : ((pc : Int) + o).toNat = pc') (hn : pc + 3 = pn) (wy : x.toInt ≤ z.toInt → Wp X k n h pc' ls st) (wn : z.toInt < x.toInt → Wp X k n h pn ls st) : Wp X k n h pc ls (.int z :: .int x :: st) :=
  w_icmp_le C hd ho hp hn (fun q => wy (Int.not_lt.mp (fun r => q (Int32.lt_iff_toInt_lt.mpr r)))) (fun q => wn (Int32.lt_iff_toInt_lt.mp q))
theorem w_jf_le (C : Hand X Z y bytes mx rt R n0 Q) {o : Int} {x : Int32} {pn : Nat} (hd : decode bytes pc = .ok (.ifCond .le o, 3)) (ho : 0 ≤ (pc : Int) + o) (hp : ((pc : Int) + o).toNat = pc') (hn : pc + 3 = pn) (wy : x.toInt ≤ 0 → Wp X k n h pc' ls st) (wn : 0 < x.toInt → Wp X k n h pn ls st) : Wp X k n h pc ls (.int x :: st) :=
  w_if_le C hd ho hp hn (fun q => wy (Int.not_lt.mp (fun r => q (Int32.lt_iff_toInt_lt.mpr r)))) (fun q => wn (Int32.lt_iff_toInt_lt.mp q))
theorem w_jc_le (C : Hand X Z y bytes mx rt R n0 Q) {o : Int} {x z : Int64} {pm pn : Nat} (hd0 : decode bytes pc = .ok (.lcmp, 1)) (h0 : pc + 1 = pm) (hd : decode bytes pm = .ok (.ifCond .le o, 3)) (ho : 0 ≤ (pm : Int) + o) (hp : ((pm : Int) + o).toNat = pc') (hn : pm + 3 = pn) (wy : x.toInt ≤ z.toInt → Wp X k n h pc' ls st) (wn : z.toInt < x.toInt → Wp X k n h pn ls st) : Wp X k n h pc ls (.long z :: .long x :: st) :=
  w_lc_le C hd0 h0 hd ho hp hn (fun q => wy (Int.not_lt.mp (fun r => q (Int64.lt_iff_toInt_lt.mpr r)))) (fun q => wn (Int64.lt_iff_toInt_lt.mp q))
theorem w_ifnonnullY (C : Hand X Z y bytes mx rt R n0 Q) {o : Int} {b : Addr} (hd : decode bytes pc = .ok (.ifnonnull o, 3)) (ho : 0 ≤ (pc : Int) + o) (hp : ((pc : Int) + o).toNat = pc') (w : Wp X k n h pc' ls st) : Wp X k n h pc ls (.ref b :: st) :=
  Wp.go C (fun X hX C T locs S e t r => XS.ifnonnullYes S.here C.1 rfl (pc0 := pc) rfl (hb C.2.2.2.1 hd) rfl ho hp r) w
theorem w_ifnonnullN (C : Hand X Z y bytes mx rt R n0 Q) {o : Int} (hd : decode bytes pc = .ok (.ifnonnull o, 3)) (hp : pc + 3 = pc') (w : Wp X k n h pc' ls st) : Wp X k n h pc ls (.null :: st) := by
  subst hp; exact Wp.go C (fun X hX C T locs S e t r => XS.ifnonnullNo S.here C.1 rfl (hb C.2.2.2.1 hd) rfl r) w
theorem w_ifnullN (C : Hand X Z y bytes mx rt R n0 Q) {o : Int} {b : Addr} (hd : decode bytes pc = .ok (.ifnull o, 3)) (hp : pc + 3 = pc') (w : Wp X k n h pc' ls st) : Wp X k n h pc ls (.ref b :: st) := by
  subst hp; exact Wp.go C (fun X hX C T locs S e t r => XS.ifnullNo S.here C.1 rfl (hb C.2.2.2.1 hd) rfl r) w
theorem w_ifnullY (C : Hand X Z y bytes mx rt R n0 Q) {o : Int} (hd : decode bytes pc = .ok (.ifnull o, 3)) (ho : 0 ≤ (pc : Int) + o) (hp : ((pc : Int) + o).toNat = pc') (w : Wp X k n h pc' ls st) : Wp X k n h pc ls (.null :: st) :=
  Wp.go C (fun X hX C T locs S e t r => XS.ifnullYes S.here C.1 rfl (pc0 := pc) rfl (hb C.2.2.2.1 hd) rfl ho hp r) w
theorem w_acmp_eq (C : Hand X Z y bytes mx rt R n0 Q) {o : Int} {x z : Value} {pn : Nat} (h1 : x.isRef = true) (h2 : z.isRef = true) (hd : decode bytes pc = .ok (.if_acmp .eq o, 3)) (ho : 0 ≤ (pc : Int) + o) (hp : ((pc : Int) + o).toNat = pc') (hn : pc + 3 = pn) (wy : x = z → Wp X k n h pc' ls st) (wn : ¬ x = z → Wp X k n h pn ls st) : Wp X k n h pc ls (z :: x :: st) := by
  by_cases q : x = z
  · exact Wp.go C (fun X hX C T locs S e t r => acmp S C.1 rfl h1 h2 (pc0 := pc) (same := true) rfl (hb C.2.2.2.1 hd) rfl (by simp [q]) ho (by simp [acV, hp]) r) (wy q)
  · exact Wp.go C (fun X hX C T locs S e t r => acmp S C.1 rfl h1 h2 (pc0 := pc) (same := false) rfl (hb C.2.2.2.1 hd) rfl (by simp [q]) ho (by simp [acV, hn]) r) (wn q)
theorem w_acmp_ne (C : Hand X Z y bytes mx rt R n0 Q) {o : Int} {x z : Value} {pn : Nat} (h1 : x.isRef = true) (h2 : z.isRef = true) (hd : decode bytes pc = .ok (.if_acmp .ne o, 3)) (ho : 0 ≤ (pc : Int) + o) (hp : ((pc : Int) + o).toNat = pc') (hn : pc + 3 = pn) (wy : ¬ x = z → Wp X k n h pc' ls st) (wn : x = z → Wp X k n h pn ls st) : Wp X k n h pc ls (z :: x :: st) := by
  by_cases q : x = z
  · exact Wp.go C (fun X hX C T locs S e t r => acmp S C.1 rfl h1 h2 (pc0 := pc) (same := true) rfl (hb C.2.2.2.1 hd) rfl (by simp [q]) ho (by simp [acV, hn]) r) (wn q)
  · exact Wp.go C (fun X hX C T locs S e t r => acmp S C.1 rfl h1 h2 (pc0 := pc) (same := false) rfl (hb C.2.2.2.1 hd) rfl (by simp [q]) ho (by simp [acV, hp]) r) (wy q)
/-! returns -/
theorem w_iret {t : FieldType} (C : Hand X Z y bytes mx (some t) R n0 Q) {z : Int32} (hd : decode bytes pc = .ok (.ireturn, 1)) (ht : t = .int ∨ t = .boolean ∨ t = .byte ∨ t = .char ∨ t = .short) (hz : narrow t (.int z) = .int z) (hk : k ≤ R.cells) (hn : n ≤ R.slots) (q : Q (some (.int z)) h) : Wp X k n h pc ls (.int z :: st) :=
  w_done C (fun z => by cases z) hk hn q fun X C T locs fs S hr => retOut S C.1 C.2.2.2.2.2.1 hz (Or.inl ⟨rfl, ht, z, rfl⟩) (hb C.2.2.2.1 hd) hr
theorem w_lret (C : Hand X Z y bytes mx (some .long) R n0 Q) {z : Int64} (hd : decode bytes pc = .ok (.lreturn, 1)) (hk : k ≤ R.cells) (hn : n ≤ R.slots) (q : Q (some (.long z)) h) : Wp X k n h pc ls (.long z :: st) :=
  w_done C (fun z => by cases z) hk hn q fun X C T locs fs S hr => retOut S C.1 C.2.2.2.2.2.1 rfl (Or.inr (Or.inl ⟨rfl, rfl, z, rfl⟩)) (hb C.2.2.2.1 hd) hr
theorem w_aret {t : FieldType} (C : Hand X Z y bytes mx (some t) R n0 Q) {a : Addr} (hd : decode bytes pc = .ok (.areturn, 1)) (ht : t.isReference = true) (hz : narrow t (.ref a) = .ref a) (hk : k ≤ R.cells) (hn : n ≤ R.slots) (q : Q (some (.ref a)) h) : Wp X k n h pc ls (.ref a :: st) :=
  w_done C (fun z => by cases z) hk hn q fun X C T locs fs S hr => retOut S C.1 C.2.2.2.2.2.1 hz (Or.inr (Or.inr (Or.inr (Or.inr ⟨rfl, ht, rfl⟩)))) (hb C.2.2.2.1 hd) hr
theorem w_vret (C : Hand X Z y bytes mx none R n0 Q) (hd : decode bytes pc = .ok (.return_, 1)) (hk : k ≤ R.cells) (hn : n ≤ R.slots) (q : Q none h) : Wp X k n h pc ls [] :=
  w_done C (fun _ => rfl) hk hn q fun X C T locs fs S hr => S.returnOut C.1 C.2.2.2.2.2.1 (hb C.2.2.2.1 hd) hr
/-! arrays -/
def Ars (Z : State) (h : Heap) (a : Addr) (ty : FieldType) (vs : List Value) : Prop := ∃ c : Cell, Arr Z h a c ty ∧ c.slots.toList = vs ∧ vs.length < 2 ^ 31
variable {h' : Heap} {a b : Addr} {ty : FieldType} {vs : List Value}
theorem Ars.lt (F : Ars Z h a ty vs) : a < h.size := by obtain ⟨c, A, -⟩ := F; exact A.lt
theorem Ars.ext (F : Ars Z h a ty vs) (E : Ext h h') : Ars Z h' a ty vs := by obtain ⟨c, A, r⟩ := F; exact ⟨c, A.ext E, r⟩
theorem Ars.other {sl : Nat} {v : Value} (F : Ars Z h b ty vs) (W : Wr h h' a sl v) (q : b ≠ a) : Ars Z h' b ty vs := by obtain ⟨c, A, r⟩ := F; exact ⟨c, A.other W q, r⟩
theorem Ars.same {i : Nat} {v : Value} (F : Ars Z h a ty vs) (W : Wr h h' a i v) : Ars Z h' a ty (vs.set i v) := by
  obtain ⟨c, A, rfl, r⟩ := F
  exact ⟨_, A.same W, by simp [Cell.setSlot], by simpa using r⟩
theorem Ars.keep {ws : List Addr} (F : Ars Z h a ty vs) (K : Keep h h' ws) (q : a ∉ ws) : Ars Z h' a ty vs := by obtain ⟨c, A, r⟩ := F; exact ⟨c, ⟨K.2.1 a c A.1 q, A.2⟩, r⟩
theorem Ars.inb {c : Cell} {j : Int32} {i : Nat} (e : c.slots.toList = vs) (hj : ¬ j < 0) (hi : j.toNatClampNeg = i) (hl : i < vs.length) : ¬ (j < 0 ∨ c.slots.size ≤ j.toNatClampNeg) := by
  subst e hi; intro q; rcases q with q | q
  · exact hj q
  · simp at hl; omega
theorem w_iastore (C : Hand X Z y bytes mx rt R n0 Q) {j : Int32} {x : Int32} {i : Nat} (hd : decode bytes pc = .ok (.iastore, 1)) (A : Ars Z h a .int vs) (hn : n0 ≤ a) (hj : ¬ j < 0) (hi : j.toNatClampNeg = i) (hl : i < vs.length) (hp : pc + 1 = pc')
    (w : ∀ h', Wr h h' a i (.int x) → Ars Z h' a .int (vs.set i (.int x)) → Wp X k n h' pc' ls st) : Wp X k n h pc ls (.int x :: .int j :: .ref a :: st) := by
  subst hp hi
  refine Wp.to C (P := fun h' st' => st' = st ∧ Wr h h' a j.toNatClampNeg (.int x)) (fun X hX C T locs S e => ?_) (fun h' st' q => by obtain ⟨rfl, W⟩ := q; exact w h' W (A.same W))
  obtain ⟨c, Ac, ec, -⟩ := A
  obtain ⟨T', h', S', e', W', st⟩ := stI S C.1 C.2.1 e Ac (j := j) (x := x) (Ars.inb ec hj rfl hl) (g := mkF X.m pc ls (.int x :: .int j :: .ref a :: st)) rfl rfl (hb C.2.2.2.1 hd)
  exact ⟨T', _, h', _, S', e', fun q hq => by cases List.mem_singleton.mp hq; rw [C.2.2.2.2.2.2.2.2.2.2.1]; exact hn, Nat.le_of_eq W'.size.symm, ⟨rfl, W'⟩, st⟩
theorem w_lastore (C : Hand X Z y bytes mx rt R n0 Q) {j : Int32} {x : Int64} {i : Nat} (hd : decode bytes pc = .ok (.lastore, 1)) (A : Ars Z h a .long vs) (hn : n0 ≤ a) (hj : ¬ j < 0) (hi : j.toNatClampNeg = i) (hl : i < vs.length) (hp : pc + 1 = pc')
    (w : ∀ h', Wr h h' a i (.long x) → Ars Z h' a .long (vs.set i (.long x)) → Wp X k n h' pc' ls st) : Wp X k n h pc ls (.long x :: .int j :: .ref a :: st) := by
  subst hp hi
  refine Wp.to C (P := fun h' st' => st' = st ∧ Wr h h' a j.toNatClampNeg (.long x)) (fun X hX C T locs S e => ?_) (fun h' st' q => by obtain ⟨rfl, W⟩ := q; exact w h' W (A.same W))
  obtain ⟨c, Ac, ec, -⟩ := A
  obtain ⟨T', h', S', e', W', st⟩ := stJ S C.1 C.2.1 e Ac (j := j) (x := x) (Ars.inb ec hj rfl hl) (g := mkF X.m pc ls (.long x :: .int j :: .ref a :: st)) rfl rfl (hb C.2.2.2.1 hd)
  exact ⟨T', _, h', _, S', e', fun q hq => by cases List.mem_singleton.mp hq; rw [C.2.2.2.2.2.2.2.2.2.2.1]; exact hn, Nat.le_of_eq W'.size.symm, ⟨rfl, W'⟩, st⟩
theorem w_bastore (C : Hand X Z y bytes mx rt R n0 Q) {j : Int32} {x : Int32} {i : Nat} (hd : decode bytes pc = .ok (.bastore, 1)) (A : Ars Z h a .byte vs) (hn : n0 ≤ a) (hj : ¬ j < 0) (hi : j.toNatClampNeg = i) (hl : i < vs.length) (hp : pc + 1 = pc')
    (w : ∀ h', Wr h h' a i (.int x.toInt8.toInt32) → Ars Z h' a .byte (vs.set i (.int x.toInt8.toInt32)) → Wp X k n h' pc' ls st) : Wp X k n h pc ls (.int x :: .int j :: .ref a :: st) := by
  subst hp hi
  refine Wp.to C (P := fun h' st' => st' = st ∧ Wr h h' a j.toNatClampNeg (.int x.toInt8.toInt32)) (fun X hX C T locs S e => ?_) (fun h' st' q => by obtain ⟨rfl, W⟩ := q; exact w h' W (A.same W))
  obtain ⟨c, Ac, ec, -⟩ := A
  obtain ⟨T', h', S', e', W', st⟩ := stB S C.1 C.2.1 e Ac (j := j) (x := x) (Ars.inb ec hj rfl hl) (g := mkF X.m pc ls (.int x :: .int j :: .ref a :: st)) rfl rfl (hb C.2.2.2.1 hd)
  exact ⟨T', _, h', _, S', e', fun q hq => by cases List.mem_singleton.mp hq; rw [C.2.2.2.2.2.2.2.2.2.2.1]; exact hn, Nat.le_of_eq W'.size.symm, ⟨rfl, W'⟩, st⟩
theorem w_iaload (C : Hand X Z y bytes mx rt R n0 Q) {j : Int32} {v : Value} {i : Nat} (hd : decode bytes pc = .ok (.iaload, 1)) (A : Ars Z h a .int vs) (hj : ¬ j < 0) (hi : j.toNatClampNeg = i) (hv : vs[i]? = some v) (hp : pc + 1 = pc') (w : Wp X k n h pc' ls (v :: st)) : Wp X k n h pc ls (.int j :: .ref a :: st) := by
  subst hp hi
  obtain ⟨c, Ac, ec, -⟩ := A
  have hl : j.toNatClampNeg < vs.length := (List.getElem?_eq_some_iff.mp hv).1
  refine Wp.go C (fun X hX C T locs S e t q => S.iaload C.1 (j := j) (v := v) (by rw [e]; exact Ac.1) (State.isArrayOf_alike C.2.1.alike Ac.2.1) Ac.2.2 (Ars.inb ec hj rfl hl) (by subst ec; simpa using hv) (g := mkF X.m pc ls (.int j :: .ref a :: st)) rfl rfl (hb C.2.2.2.1 hd) t q) w
theorem w_laload (C : Hand X Z y bytes mx rt R n0 Q) {j : Int32} {v : Value} {i : Nat} (hd : decode bytes pc = .ok (.laload, 1)) (A : Ars Z h a .long vs) (hj : ¬ j < 0) (hi : j.toNatClampNeg = i) (hv : vs[i]? = some v) (hp : pc + 1 = pc') (w : Wp X k n h pc' ls (v :: st)) : Wp X k n h pc ls (.int j :: .ref a :: st) := by
  subst hp hi
  obtain ⟨c, Ac, ec, -⟩ := A
  have hl : j.toNatClampNeg < vs.length := (List.getElem?_eq_some_iff.mp hv).1
  refine Wp.go C (fun X hX C T locs S e t q => S.laload C.1 (j := j) (v := v) (by rw [e]; exact Ac.1) (State.isArrayOf_alike C.2.1.alike Ac.2.1) Ac.2.2 (Ars.inb ec hj rfl hl) (by subst ec; simpa using hv) (g := mkF X.m pc ls (.int j :: .ref a :: st)) rfl rfl (hb C.2.2.2.1 hd) t q) w
theorem w_baload (C : Hand X Z y bytes mx rt R n0 Q) {j : Int32} {v : Value} {i : Nat} (hd : decode bytes pc = .ok (.baload, 1)) (A : Ars Z h a .byte vs) (hj : ¬ j < 0) (hi : j.toNatClampNeg = i) (hv : vs[i]? = some v) (hp : pc + 1 = pc') (w : Wp X k n h pc' ls (v :: st)) : Wp X k n h pc ls (.int j :: .ref a :: st) := by
  subst hp hi
  obtain ⟨c, Ac, ec, -⟩ := A
  have hl : j.toNatClampNeg < vs.length := (List.getElem?_eq_some_iff.mp hv).1
  refine Wp.go C (fun X hX C T locs S e t q => S.baloadBytes C.1 (j := j) (v := v) (by rw [e]; exact Ac.1) (State.isArrayOf_alike C.2.1.alike Ac.2.1) Ac.2.2 (Ars.inb ec hj rfl hl) (by subst ec; simpa using hv) (g := mkF X.m pc ls (.int j :: .ref a :: st)) rfl rfl (hb C.2.2.2.1 hd) t q) w
theorem w_alen (C : Hand X Z y bytes mx rt R n0 Q) {z : Int32} (hd : decode bytes pc = .ok (.arraylength, 1)) (A : Ars Z h a ty vs) (hz : vs.length.toInt32 = z) (hp : pc + 1 = pc') (w : Wp X k n h pc' ls (.int z :: st)) : Wp X k n h pc ls (.ref a :: st) := by
  subst hp hz
  obtain ⟨c, Ac, rfl, -⟩ := A
  refine Wp.go C (fun X hX C T locs S e t q => S.arraylength C.1 (by rw [e]; exact Ac.1) (State.isArrayOf_alike C.2.1.alike Ac.2.1) (g := mkF X.m pc ls (.ref a :: st)) rfl rfl (hb C.2.2.2.1 hd) t (by simpa using q)) w
theorem w_newarray (C : Hand X Z y bytes mx rt R n0 Q) {aty : ArrayType} {z : Int32} {cap : Nat} (hw : (Jvm.Cond.arrayClass (newarray.typeOf aty)).before a0 Z = true) (hd : decode bytes pc = .ok (.newarray aty, 2)) (hz : ¬ z < 0) (hcap : z.toNatClampNeg ≤ cap) (hb8 : cap * 8 ≤ 536870912) (hc : k + 1 ≤ R.cells) (hl : n + cap ≤ R.slots) (hp : pc + 2 = pc')
    (w : ∀ h' a, a = h.size → n0 ≤ a → Ext h h' → Ars Z h' a (newarray.typeOf aty) (List.replicate z.toNatClampNeg (defaultValue (newarray.typeOf aty))) → Wp X (k + 1) (n + cap) h' pc' ls (.ref a :: st)) : Wp X k n h pc ls (.int z :: st) := by
  subst hp
  refine Wp.size C fun hsz => Wp.to C (P := fun h' st' => st' = .ref h.size :: st ∧ Ext h h' ∧ Ars Z h' h.size (newarray.typeOf aty) (List.replicate z.toNatClampNeg (defaultValue (newarray.typeOf aty)))) (fun X hX C T locs S e => ?_) (fun h' st' q => by obtain ⟨rfl, E, A⟩ := q; exact w h' _ rfl hsz E A)
  obtain ⟨T', h', cA, S', e', E', A', st⟩ := newP S C.1 C.2.1 hw e (g := mkF X.m pc ls (.int z :: st)) rfl (hb C.2.2.2.1 hd) rfl hz hcap hb8 (by rw [C.2.2.2.2.2.2.2.1]; exact hc) (by rw [C.2.2.2.2.2.2.2.1]; exact hl)
  exact ⟨T', [], h', _, by rw [toL]; exact S', e', Fr.nil _, E'.1, ⟨rfl, E', _, A', by simp [newA], by simpa using (back32 hz).2⟩, st⟩
/-! objects -/
theorem w_new (C : Hand X Z y bytes mx rt R n0 Q) {i nn : Nat} {K : String} (hw : (Jvm.Cond.classLink y.cls i K).before a0 Z = true) (wi : (Jvm.Cond.instantiable K nn).before a0 Z = true) (wz : (Jvm.Cond.initialized K).before a0 Z = true) (hd : decode bytes pc = .ok (.new i, 3)) (hc : k + 1 ≤ R.cells) (hl : n + nn ≤ R.slots) (hp : pc + 3 = pc')
    (w : ∀ h' a, a = h.size → n0 ≤ a → Ext h h' → Exa Z h' a K → (∀ {O nm d : String} {ty : FieldType}, Laid Z a0 K O nm d → parseFieldDescriptor d = some ty → Fld Z h' a O nm d (defaultValue ty)) → Wp X (k + 1) (n + nn) h' pc' ls (.ref a :: st)) : Wp X k n h pc ls st := by
  subst hp
  refine Wp.size C fun hsz => Wp.to C (P := fun h' st' => st' = .ref h.size :: st ∧ Ext h h' ∧ Exa Z h' h.size K ∧ ∀ {O nm d : String} {ty : FieldType}, Laid Z a0 K O nm d → parseFieldDescriptor d = some ty → Fld Z h' h.size O nm d (defaultValue ty)) (fun X hX C T locs S e => ?_) (fun h' st' q => by obtain ⟨rfl, E, A, D⟩ := q; exact w h' _ rfl hsz E A D)
  obtain ⟨T', h', S', e', E', A', D', -, st⟩ := newO S C.1 C.2.1 C.2.2.1 hw wi wz e (g := mkF X.m pc ls st) rfl (hb C.2.2.2.1 hd) (by rw [C.2.2.2.2.2.2.2.1]; exact hc) (by rw [C.2.2.2.2.2.2.2.1]; exact hl)
  exact ⟨T', [], h', _, by rw [toL]; exact S', e', Fr.nil _, E'.1, ⟨rfl, E', A', D'⟩, st⟩
theorem w_initO (C : Hand X Z y bytes mx rt R n0 Q) {i W : Nat} (w1 : (Jvm.Cond.methodLink y.cls i Lib.objectInit).before a0 Z = true) (w2 : (Jvm.Cond.instanceMethod Lib.objectInit).before a0 Z = true) (w3 : (Jvm.Cond.code Lib.objectInit ⟨#[0xb1]⟩ 1 none).before a0 Z = true)
    (hd : decode bytes pc = .ok (.invokespecial i, 3)) (hls : ls.size = mx) (hf : 1 ≤ R.frames) (hW : (st.map fun v => v.category).sum = W) (hl : W + 12 ≤ R.locals) (hp : pc + 3 = pc') (w : Wp X k n h pc' ls st) : Wp X k n h pc ls (.ref a :: st) := by
  subst hp hW
  refine Wp.to C (P := fun h' st' => h' = h ∧ st' = st) (fun X hX C T locs S e => ?_) (fun h' st' q => by obtain ⟨rfl, rfl⟩ := q; exact w)
  obtain ⟨T', S', e', st⟩ := initO S C.1 C.2.1 C.2.2.1 w1 w2 w3 e (g := mkF X.m pc ls (.ref a :: st)) rfl (by rw [C.2.2.2.2.1]; exact hls) rfl (hb C.2.2.2.1 hd) (by rw [C.2.2.2.2.2.2.2.1]; exact hf) (W := (st.map fun v => v.category).sum) (by show 2 * 0 + _ ≤ _; omega) (by rw [C.2.2.2.2.2.2.2.1]; exact hl)
  exact ⟨T', [], h, _, by rw [toL]; exact S', e', Fr.nil _, Nat.le_refl _, ⟨rfl, rfl⟩, st⟩
theorem w_getfield (C : Hand X Z y bytes mx rt R n0 Q) {i : Nat} {O f d : String} {v : Value} (hw : (Jvm.Cond.fieldLink y.cls i O f d).before a0 Z = true) (hd : decode bytes pc = .ok (.getfield i, 3)) (F : Fld Z h a O f d v) (hp : pc + 3 = pc') (w : Wp X k n h pc' ls (v :: st)) : Wp X k n h pc ls (.ref a :: st) := by
  subst hp
  refine Wp.to C (P := fun h' st' => h' = h ∧ st' = v :: st) (fun X hX C T locs S e => ?_) (fun h' st' q => by obtain ⟨rfl, rfl⟩ := q; exact w)
  obtain ⟨T', S', e', st⟩ := getF S C.1 C.2.1 (host := "") C.2.2.1 (Or.inl hw) Via.refl e F (g := mkF X.m pc ls (.ref a :: st)) rfl rfl (hb C.2.2.2.1 hd)
  exact ⟨T', [], h, _, by rw [toL]; exact S', e', Fr.nil _, Nat.le_refl _, ⟨rfl, rfl⟩, st⟩
theorem w_getstatic (C : Hand X Z y bytes mx rt R n0 Q) {i : Nat} {O f d : String} {v : Value} (hw : (Jvm.Cond.fieldLink y.cls i O f d).before a0 Z = true) (hd : decode bytes pc = .ok (.getstatic i, 3)) (F : Sta Z h O f d v) (hp : pc + 3 = pc') (w : Wp X k n h pc' ls (v :: st)) : Wp X k n h pc ls st := by
  subst hp
  refine Wp.to C (P := fun h' st' => h' = h ∧ st' = v :: st) (fun X hX C T locs S e => ?_) (fun h' st' q => by obtain ⟨rfl, rfl⟩ := q; exact w)
  obtain ⟨T', S', e', st⟩ := getS S C.1 C.2.1 (host := "") C.2.2.1 hw Via.refl e F (g := mkF X.m pc ls st) rfl (hb C.2.2.2.1 hd)
  exact ⟨T', [], h, _, by rw [toL]; exact S', e', Fr.nil _, Nat.le_refl _, ⟨rfl, rfl⟩, st⟩
theorem w_putfield (C : Hand X Z y bytes mx rt R n0 Q) {i kk : Nat} {O f d K : String} {t : FieldType} {v old : Value} (hw : (Jvm.Cond.fieldLink y.cls i O f d).before a0 Z = true) (L : (Jvm.Cond.lays K O f d).before a0 Z = true ∨ ((Jvm.Cond.laysFinal K O f d).before a0 Z = true ∧ y.cls = O ∧ y.name = "<init>")) (wi : (Jvm.Cond.instantiable K kk).before a0 Z = true)
    (hd : decode bytes pc = .ok (.putfield i, 3)) (F : Fld Z h a O f d old) (E : Exa Z h a K) (hn : n0 ≤ a) (ht : parseFieldDescriptor d = some t) (hv : narrow t v = v) (hf : fits t v = true) (hp : pc + 3 = pc')
    (w : ∀ h', Wr h h' a (Jvm.RoadKit.slotOf Z O f d) v → Fld Z h' a O f d v → Exa Z h' a K → Wp X k n h' pc' ls st) : Wp X k n h pc ls (v :: .ref a :: st) := by
  subst hp
  refine Wp.to C (P := fun h' st' => st' = st ∧ Wr h h' a (Jvm.RoadKit.slotOf Z O f d) v) (fun X hX C T locs S e => ?_) (fun h' st' q => by obtain ⟨rfl, W⟩ := q; exact w h' W (F.same W) (E.wr W))
  obtain ⟨T', h', S', e', W', st⟩ := putF S C.1 C.2.1 (host := "") C.2.2.1 (Or.inl hw) Via.refl e F E (L.imp id fun q => ⟨q.1, q.2.1, C.2.2.2.2.2.2.2.2.2.1.trans q.2.2⟩) wi ht hv hf (g := mkF X.m pc ls (v :: .ref a :: st)) rfl rfl (hb C.2.2.2.1 hd)
  exact ⟨T', _, h', _, S', e', fun q hq => by cases List.mem_singleton.mp hq; rw [C.2.2.2.2.2.2.2.2.2.2.1]; exact hn, Nat.le_of_eq W'.size.symm, ⟨rfl, W'⟩, st⟩
/-! calls -/
variable {i W : Nat} {y' z : MethodName} {bytes' : ByteArray} {mx' : Nat} {rt' : Option FieldType} {R' : Room} {Q' : Option Value → Heap → Prop} {argsL rest : List Value} {ps : List FieldType}
theorem w_static (C : Hand X Z y bytes mx rt R n0 Q) (hw1 : (Jvm.Cond.methodLink y.cls i y').before a0 Z = true) (hw2 : (Jvm.Cond.static y').before a0 Z = true) (hw3 : (Jvm.Cond.initialized y'.cls).before a0 Z = true) (hw4 : (Jvm.Cond.code y' bytes' mx' rt').before a0 Z = true)
    (hy : y'.cls ≠ "java/lang/invoke/MethodHandle" ∧ y'.cls ≠ "java/lang/invoke/VarHandle") (hpd : parseMethodDescriptor y'.desc = some ⟨ps, rt'⟩) (hd : decode bytes pc = .ok (.invokestatic i, 3)) (K : Ct X.l Z y' bytes' mx' rt' R' n0 [] argsL.toArray h Q')
    (hlen : argsL.length = ps.length) (hst : st = argsL.reverse ++ rest) (hls : ls.size = mx) (hf : R'.frames + 1 ≤ R.frames) (hW : (rest.map fun v => v.category).sum = W) (hl : W + (mx' + 11) + R'.locals ≤ R.locals) (hc : k + R'.cells ≤ R.cells) (hs : n + R'.slots ≤ R.slots) (hp : pc + 3 = pc')
    (w : ∀ v h', Q' v h' → Wp X (k + R'.cells) (n + R'.slots) h' pc' ls (v.toList ++ rest)) : Wp X k n h pc ls st := by
  subst hp hst hW
  refine Wp.to C (P := fun h' st' => ∃ v, st' = v.toList ++ rest ∧ Q' v h') (fun X hX C T locs S e => ?_) (fun h' st' q => by obtain ⟨v, rfl, q⟩ := q; exact w v h' q)
  have K : Ct X.l Z y' bytes' mx' rt' R' n0 [] argsL.toArray h Q' := by rw [hX]; exact K
  have eR := C.2.2.2.2.2.2.2.1
  obtain ⟨v, _, ⟨T', L', k', n'⟩, -, S', ⟨Lc, hQ, l1, y1, z1⟩, st⟩ := Jvm.LawKit.callS S C.1 (y := y') C.2.2.1 (mvT C.2.1 hw1) (mvT C.2.1 hw2) (mvT C.2.1 hw3) (mvT C.2.1 hw4) hy (backOf (W := (rest.map fun v => v.category).sum) (Q := fun v h' L => (Q' v h' ∧ h.size ≤ h'.size) ∧ Fr n0 L) K C.2.1 hw4 hw3 (by rw [eR]; exact hf) (by rw [eR]; exact hl)) (g := mkF X.m pc ls (argsL.reverse ++ rest)) rfl (by rw [C.2.2.2.2.1]; exact hls) (argsL := argsL) (rest := rest) (lenOf hpd hlen) rfl (by show 2 * 0 + _ ≤ _; omega) (hb C.2.2.2.1 hd) (fun _ _ => ⟨rfl, e, by rw [eR]; exact hc, by rw [eR]; exact hs⟩)
  dsimp only [Pt.U, Pt.locs, Pt.cells, Pt.slots] at S' l1 y1 z1 st hQ
  subst l1 y1 z1
  exact ⟨T', Lc, T'.heap, _, S', rfl, by rw [C.2.2.2.2.2.2.2.2.2.2.1]; exact hQ.2, hQ.1.2, ⟨v, rfl, hQ.1.1⟩, st⟩
theorem w_special (C : Hand X Z y bytes mx rt R n0 Q) (hw1 : (Jvm.Cond.methodLink y.cls i y').before a0 Z = true) (hw2 : (Jvm.Cond.instanceMethod y').before a0 Z = true) (hw3 : (Jvm.Cond.initialized y'.cls).before a0 Z = true) (hw4 : (Jvm.Cond.code y' bytes' mx' none).before a0 Z = true)
    (hy1 : y'.name = "<init>") (hy : y'.cls ≠ "java/lang/invoke/MethodHandle" ∧ y'.cls ≠ "java/lang/invoke/VarHandle") (hpd : parseMethodDescriptor y'.desc = some ⟨ps, none⟩) (hd : decode bytes pc = .ok (.invokespecial i, 3)) (K : Ct X.l Z y' bytes' mx' none R' n0 [] (.ref a :: argsL).toArray h Q')
    (hlen : argsL.length = ps.length) (hst : st = argsL.reverse ++ .ref a :: rest) (hls : ls.size = mx) (hf : R'.frames + 1 ≤ R.frames) (hW : (rest.map fun v => v.category).sum = W) (hl : W + (mx' + 11) + R'.locals ≤ R.locals) (hc : k + R'.cells ≤ R.cells) (hs : n + R'.slots ≤ R.slots) (hp : pc + 3 = pc')
    (w : ∀ v h', Q' v h' → Wp X (k + R'.cells) (n + R'.slots) h' pc' ls (v.toList ++ rest)) : Wp X k n h pc ls st := by
  subst hp hst hW
  refine Wp.to C (P := fun h' st' => ∃ v, st' = v.toList ++ rest ∧ Q' v h') (fun X hX C T locs S e => ?_) (fun h' st' q => by obtain ⟨v, rfl, q⟩ := q; exact w v h' q)
  have K : Ct X.l Z y' bytes' mx' none R' n0 [] (.ref a :: argsL).toArray h Q' := by rw [hX]; exact K
  have eR := C.2.2.2.2.2.2.2.1
  obtain ⟨v, _, ⟨T', L', k', n'⟩, -, S', ⟨Lc, hQ, l1, y1, z1⟩, st⟩ := S.specialBack C.1 (y := y') hy1 C.2.2.1 (mvT C.2.1 hw1) (mvT C.2.1 hw2) (mvT C.2.1 hw4) hy (backOf (W := (rest.map fun v => v.category).sum) (Q := fun v h' L => (Q' v h' ∧ h.size ≤ h'.size) ∧ Fr n0 L) K C.2.1 hw4 hw3 (by rw [eR]; exact hf) (by rw [eR]; exact hl)) (g := mkF X.m pc ls (argsL.reverse ++ .ref a :: rest)) rfl (by rw [C.2.2.2.2.1]; exact hls) (Steps.refl _) (a := a) (argsL := argsL) (rest := rest) (lenOf hpd hlen) rfl (by show 2 * 0 + _ ≤ _; omega) (hb C.2.2.2.1 hd) (fun _ _ => ⟨rfl, e, by rw [eR]; exact hc, by rw [eR]; exact hs⟩)
  dsimp only [Pt.U, Pt.locs, Pt.cells, Pt.slots] at S' l1 y1 z1 st hQ
  subst l1 y1 z1
  exact ⟨T', Lc, T'.heap, _, S', rfl, by rw [C.2.2.2.2.2.2.2.2.2.2.1]; exact hQ.2, hQ.1.2, ⟨v, rfl, hQ.1.1⟩, fun t q => st.trans q⟩
theorem w_virtual (C : Hand X Z y bytes mx rt R n0 Q) {K0 : String} (hw1 : (Jvm.Cond.methodLink y.cls i y').before a0 Z = true) (hw2 : (Jvm.Cond.declares y').before a0 Z = true) (hw5 : (Jvm.Cond.selects K0 y' y').before a0 Z = true) (hw6 : (Jvm.Cond.instanceMethod y').before a0 Z = true) (hw3 : (Jvm.Cond.initialized y'.cls).before a0 Z = true) (hw4 : (Jvm.Cond.code y' bytes' mx' rt').before a0 Z = true)
    (hy : y'.cls ≠ "java/lang/invoke/MethodHandle" ∧ y'.cls ≠ "java/lang/invoke/VarHandle") (hpd : parseMethodDescriptor y'.desc = some ⟨ps, rt'⟩) (hd : decode bytes pc = .ok (.invokevirtual i, 3)) (E : Exa Z h a K0) (K : Ct X.l Z y' bytes' mx' rt' R' n0 [] (.ref a :: argsL).toArray h Q')
    (hlen : argsL.length = ps.length) (hst : st = argsL.reverse ++ .ref a :: rest) (hls : ls.size = mx) (hf : R'.frames + 1 ≤ R.frames) (hW : (rest.map fun v => v.category).sum = W) (hl : W + (mx' + 11) + R'.locals ≤ R.locals) (hc : k + R'.cells ≤ R.cells) (hs : n + R'.slots ≤ R.slots) (hp : pc + 3 = pc')
    (w : ∀ v h', Q' v h' → Wp X (k + R'.cells) (n + R'.slots) h' pc' ls (v.toList ++ rest)) : Wp X k n h pc ls st := by
  subst hp hst hW
  refine Wp.to C (P := fun h' st' => ∃ v, st' = v.toList ++ rest ∧ Q' v h') (fun X hX C T locs S e => ?_) (fun h' st' q => by obtain ⟨v, rfl, q⟩ := q; exact w v h' q)
  have K : Ct X.l Z y' bytes' mx' rt' R' n0 [] (.ref a :: argsL).toArray h Q' := by rw [hX]; exact K
  have eR := C.2.2.2.2.2.2.2.1
  obtain ⟨cq, kq, qa, qb, qc⟩ := isOf C.2.1 e E
  obtain ⟨v, _, ⟨T', L', k', n'⟩, -, S', ⟨Lc, hQ, l1, y1, z1⟩, st⟩ := S.virtualBack C.1 (y := y') (z := y') C.2.2.1 (mvT C.2.1 hw1) (mvT C.2.1 hw2) (notFace_of_selects (args := #[]) (mvT C.2.1 hw5)) (mvT C.2.1 hw5) (mvT C.2.1 hw6) hy (backOf (W := (rest.map fun v => v.category).sum) (Q := fun v h' L => (Q' v h' ∧ h.size ≤ h'.size) ∧ Fr n0 L) K C.2.1 hw4 hw3 (by rw [eR]; exact hf) (by rw [eR]; exact hl)) qa qc (g := mkF X.m pc ls (argsL.reverse ++ .ref a :: rest)) rfl (by rw [C.2.2.2.2.1]; exact hls) (Steps.refl _) (argsL := argsL) (rest := rest) (lenOf hpd hlen) rfl (by show 2 * 0 + _ ≤ _; omega) (hb C.2.2.2.1 hd) (fun _ _ => ⟨rfl, e, by rw [eR]; exact hc, by rw [eR]; exact hs⟩)
  dsimp only [Pt.U, Pt.locs, Pt.cells, Pt.slots] at S' l1 y1 z1 st hQ
  subst l1 y1 z1
  exact ⟨T', Lc, T'.heap, _, S', rfl, by rw [C.2.2.2.2.2.2.2.2.2.2.1]; exact hQ.2, hQ.1.2, ⟨v, rfl, hQ.1.1⟩, fun t q => st.trans q⟩
theorem w_private (C : Hand X Z y bytes mx rt R n0 Q) {K0 : String} {nn : Nat} (hw1 : (Jvm.Cond.methodLink y.cls i y').before a0 Z = true) (hw6 : (Jvm.Cond.instanceMethod y').before a0 Z = true) (wp : (Jvm.Cond.privateMethod y').before a0 Z = true) (wi : (Jvm.Cond.instantiable y'.cls nn).before a0 Z = true) (hw3 : (Jvm.Cond.initialized y'.cls).before a0 Z = true) (hw4 : (Jvm.Cond.code y' bytes' mx' rt').before a0 Z = true)
    (hy : y'.cls ≠ "java/lang/invoke/MethodHandle" ∧ y'.cls ≠ "java/lang/invoke/VarHandle") (hpd : parseMethodDescriptor y'.desc = some ⟨ps, rt'⟩) (hd : decode bytes pc = .ok (.invokevirtual i, 3)) (E : Exa Z h a K0) (K : Ct X.l Z y' bytes' mx' rt' R' n0 [] (.ref a :: argsL).toArray h Q')
    (hlen : argsL.length = ps.length) (hst : st = argsL.reverse ++ .ref a :: rest) (hls : ls.size = mx) (hf : R'.frames + 1 ≤ R.frames) (hW : (rest.map fun v => v.category).sum = W) (hl : W + (mx' + 11) + R'.locals ≤ R.locals) (hc : k + R'.cells ≤ R.cells) (hs : n + R'.slots ≤ R.slots) (hp : pc + 3 = pc')
    (w : ∀ v h', Q' v h' → Wp X (k + R'.cells) (n + R'.slots) h' pc' ls (v.toList ++ rest)) : Wp X k n h pc ls st := by
  subst hp hst hW
  refine Wp.to C (P := fun h' st' => ∃ v, st' = v.toList ++ rest ∧ Q' v h') (fun X hX C T locs S e => ?_) (fun h' st' q => by obtain ⟨v, rfl, q⟩ := q; exact w v h' q)
  have K : Ct X.l Z y' bytes' mx' rt' R' n0 [] (.ref a :: argsL).toArray h Q' := by rw [hX]; exact K
  have eR := C.2.2.2.2.2.2.2.1
  have pv : X.s.PrivateAt y' := Cond.privateMethod_at (mvP C.2.1 wp (args := X.args))
  have hin : (Jvm.Cond.instanceMethod y').before X.args X.s = true := mvT C.2.1 hw6
  obtain ⟨ck, kk, f1, f2, -, f4, -⟩ := Cond.instantiable_spec (mvT (args := X.args) C.2.1 wi)
  have hsel := selects_self_of_private f1 f2 (by rw [Bool.or_eq_false_iff] at f4; exact f4.1) pv hin hy
  obtain ⟨cq, qa, qb⟩ := E.cell
  obtain ⟨v, _, ⟨T', L', k', n'⟩, -, S', ⟨Lc, hQ, l1, y1, z1⟩, st⟩ := S.privateBack C.1 (y := y') C.2.2.1 (mvT C.2.1 hw1) hin hsel pv (mvT C.2.1 hw4) hy (backOf (W := (rest.map fun v => v.category).sum) (Q := fun v h' L => (Q' v h' ∧ h.size ≤ h'.size) ∧ Fr n0 L) K C.2.1 hw4 hw3 (by rw [eR]; exact hf) (by rw [eR]; exact hl)) (g := mkF X.m pc ls (argsL.reverse ++ .ref a :: rest)) rfl (by rw [C.2.2.2.2.1]; exact hls) (Steps.refl _) (a := a) (by rw [e]; exact qa) qb (argsL := argsL) (rest := rest) (lenOf hpd hlen) rfl (by show 2 * 0 + _ ≤ _; omega) (hb C.2.2.2.1 hd) (fun _ _ => ⟨rfl, e, by rw [eR]; exact hc, by rw [eR]; exact hs⟩)
  dsimp only [Pt.U, Pt.locs, Pt.cells, Pt.slots] at S' l1 y1 z1 st hQ
  subst l1 y1 z1
  exact ⟨T', Lc, T'.heap, _, S', rfl, by rw [C.2.2.2.2.2.2.2.2.2.2.1]; exact hQ.2, hQ.1.2, ⟨v, rfl, hQ.1.1⟩, fun t q => st.trans q⟩
end OwnLaws
theorem tw {a0 : Array Value} {Z : State} (hw : ∀ d ∈ tables_1, d.before a0 Z = true) (i : Nat) {d : Jvm.Cond} (q : tables_1[i]? = some d) : d.before a0 Z = true := hw d (List.mem_of_getElem? q)
theorem pn_0 : plainFor (⟨"com/example/cobranza/cobranza/mxpad/FramesLrcPinLaw", "law", "(JII)Z"⟩ : MethodName) = true := plainFor_of_name (by first | (simp [plainName, overriddenIn]; done) | decide +kernel)
abbrev y0 : MethodName := ⟨"com/example/cobranza/cobranza/mxpad/FramesLrcPinLaw", "law", "(JII)Z"⟩
theorem ef_0 (x0 : Int64) (x1 : Int32) (x2 : Int32) (m : MethodId) : entryFrame m #[(.long x0), (.int x1), (.int x2)] maxLocals = mkF m 0 #[.val (.long x0), .second, .val (.int x1), .val (.int x2), .unset, .unset, .unset, .unset, .unset, .unset, .unset, .unset, .unset] [] := by first | (simp [entryFrame, mkF, argsToLocals, Value.category, maxLocals]; done) | rfl
theorem d1_0 : decode prog_124_method_2_code 0 = .ok (.iconst 0, 1) := by decide +kernel
theorem d1_1 : decode prog_124_method_2_code 1 = .ok (.istore_n 3, 1) := by decide +kernel
theorem d1_2 : decode prog_124_method_2_code 2 = .ok (.iload_n 1, 1) := by decide +kernel
theorem d1_3 : decode prog_124_method_2_code 3 = .ok (.istore 4, 2) := by decide +kernel
theorem d1_5 : decode prog_124_method_2_code 5 = .ok (.iload 4, 2) := by decide +kernel
theorem d1_7 : decode prog_124_method_2_code 7 = .ok (.iload_n 2, 1) := by decide +kernel
theorem d1_8 : decode prog_124_method_2_code 8 = .ok (.if_icmp .ge 20, 3) := by decide +kernel
theorem d1_11 : decode prog_124_method_2_code 11 = .ok (.iload_n 3, 1) := by decide +kernel
theorem d1_12 : decode prog_124_method_2_code 12 = .ok (.aload_n 0, 1) := by decide +kernel
theorem d1_13 : decode prog_124_method_2_code 13 = .ok (.iload 4, 2) := by decide +kernel
theorem d1_15 : decode prog_124_method_2_code 15 = .ok (.baload, 1) := by decide +kernel
theorem d1_16 : decode prog_124_method_2_code 16 = .ok (.sipush 255, 3) := by decide +kernel
theorem d1_19 : decode prog_124_method_2_code 19 = .ok (.iand, 1) := by decide +kernel
theorem d1_20 : decode prog_124_method_2_code 20 = .ok (.ixor, 1) := by decide +kernel
theorem d1_21 : decode prog_124_method_2_code 21 = .ok (.istore_n 3, 1) := by decide +kernel
theorem d1_22 : decode prog_124_method_2_code 22 = .ok (.iinc 4 1, 3) := by decide +kernel
theorem d1_25 : decode prog_124_method_2_code 25 = .ok (.goto (-20), 3) := by decide +kernel
theorem d1_28 : decode prog_124_method_2_code 28 = .ok (.iload_n 3, 1) := by decide +kernel
theorem d1_29 : decode prog_124_method_2_code 29 = .ok (.ireturn, 1) := by decide +kernel
theorem pn_1 : plainFor (⟨"com/example/cobranza/cobranza/mxpad/Frames", "lrc", "([BII)I"⟩ : MethodName) = true := plainFor_of_name (by first | (simp [plainName, overriddenIn]; done) | decide +kernel)
abbrev y1 : MethodName := ⟨"com/example/cobranza/cobranza/mxpad/Frames", "lrc", "([BII)I"⟩
theorem ef_1 (x0 : Addr) (x1 : Int32) (x2 : Int32) (m : MethodId) : entryFrame m #[(.ref x0), (.int x1), (.int x2)] 5 = mkF m 0 #[.val (.ref x0), .val (.int x1), .val (.int x2), .unset, .unset] [] := by first | (simp [entryFrame, mkF, argsToLocals, Value.category]; done) | rfl
theorem d2_0 : decode method_3_code 0 = .ok (.iload_n 0, 1) := by decide +kernel
theorem d2_1 : decode method_3_code 1 = .ok (.bipush 64, 2) := by decide +kernel
theorem d2_3 : decode method_3_code 3 = .ok (.if_icmp .lt 9, 3) := by decide +kernel
theorem d2_6 : decode method_3_code 6 = .ok (.ldc2_w 20, 3) := by decide +kernel
theorem d2_9 : decode method_3_code 9 = .ok (.goto 8, 3) := by decide +kernel
theorem d2_12 : decode method_3_code 12 = .ok (.lconst 1, 1) := by decide +kernel
theorem d2_13 : decode method_3_code 13 = .ok (.iload_n 0, 1) := by decide +kernel
theorem d2_14 : decode method_3_code 14 = .ok (.lshl, 1) := by decide +kernel
theorem d2_15 : decode method_3_code 15 = .ok (.lconst 1, 1) := by decide +kernel
theorem d2_16 : decode method_3_code 16 = .ok (.lsub, 1) := by decide +kernel
theorem d2_17 : decode method_3_code 17 = .ok (.lreturn, 1) := by decide +kernel
theorem pn_2 : plainFor (⟨"com/example/cobranza/cobranza/mxpad/FramesLrcPinLaw", "low", "(I)J"⟩ : MethodName) = true := plainFor_of_name (by first | (simp [plainName, overriddenIn]; done) | decide +kernel)
abbrev y2 : MethodName := ⟨"com/example/cobranza/cobranza/mxpad/FramesLrcPinLaw", "low", "(I)J"⟩
theorem ef_2 (x0 : Int32) (m : MethodId) : entryFrame m #[(.int x0)] 1 = mkF m 0 #[.val (.int x0)] [] := by first | (simp [entryFrame, mkF, argsToLocals, Value.category]; done) | rfl
theorem pd_0 : parseMethodDescriptor "([BII)I" = some ⟨[(.array .byte), .int, .int], some .int⟩ := by decide +kernel
theorem pd_1 : parseMethodDescriptor "(I)J" = some ⟨[.int], some .long⟩ := by decide +kernel
/-! shifts as shifts of bit vectors -/
theorem b_and31 (q : Int32) (k : Nat) (hk : q.toBitVec.toNat % 32 = k) : (q &&& 31).toBitVec.toNat = k := by
  show (q.toBitVec &&& (31 : Int32).toBitVec).toNat = _
  rw [BitVec.toNat_and, show (31 : Int32).toBitVec.toNat = 2 ^ 5 - 1 from by decide, Nat.and_two_pow_sub_one_eq_mod]; exact hk
theorem b_ishl (x q : Int32) (k : Nat) (hk : q.toBitVec.toNat % 32 = k) : (x <<< (q &&& 31)).toBitVec = x.toBitVec <<< k := by
  show x.toBitVec <<< ((q &&& 31).toBitVec.smod 32) = _
  rw [BitVec.shiftLeft_eq', sm32 q k hk]
theorem b_ishr (x q : Int32) (k : Nat) (hk : q.toBitVec.toNat % 32 = k) : (x >>> (q &&& 31)).toBitVec = x.toBitVec.sshiftRight k := by
  show x.toBitVec.sshiftRight' ((q &&& 31).toBitVec.smod 32) = _
  rw [BitVec.sshiftRight_eq', sm32 q k hk]
theorem b_iushr (x q : Int32) (k : Nat) (hk : q.toBitVec.toNat % 32 = k) : ((x.toUInt32 >>> (q &&& 31).toUInt32).toInt32).toBitVec = x.toBitVec >>> k := by
  show x.toBitVec >>> ((q &&& 31).toBitVec % 32) = _
  rw [BitVec.ushiftRight_eq', BitVec.toNat_umod, b_and31 q k hk]
  congr 1; exact Nat.mod_eq_of_lt (by show k < 32; omega)
theorem b_lshl (x : Int64) (q : Int32) (k : Nat) (hk : q.toBitVec.toNat % 64 = k) : (x <<< (q &&& 0x3f).toInt64).toBitVec = x.toBitVec <<< k := by
  show x.toBitVec <<< ((q &&& 0x3f).toInt64.toBitVec.smod 64) = _
  rw [BitVec.shiftLeft_eq', (sm64 q k hk).1, smod64 k (sm64 q k hk).2]
theorem b_lshr (x : Int64) (q : Int32) (k : Nat) (hk : q.toBitVec.toNat % 64 = k) : (x >>> (q &&& 0x3f).toInt64).toBitVec = x.toBitVec.sshiftRight k := by
  show x.toBitVec.sshiftRight' ((q &&& 0x3f).toInt64.toBitVec.smod 64) = _
  rw [BitVec.sshiftRight_eq', (sm64 q k hk).1, smod64 k (sm64 q k hk).2]
theorem b_lushr (x : Int64) (q : Int32) (k : Nat) (hk : q.toBitVec.toNat % 64 = k) : ((x.toUInt64 >>> (q &&& 0x3f).toInt64.toUInt64).toInt64).toBitVec = x.toBitVec >>> k := by
  have h5 := (sm64 q k hk).2
  show x.toBitVec >>> ((q &&& 0x3f).toInt64.toBitVec % 64) = _
  rw [BitVec.ushiftRight_eq', BitVec.toNat_umod, (sm64 q k hk).1, BitVec.toNat_ofNat]
  congr 1; show k % 2 ^ 64 % 64 = k; omega
theorem nat32 {x : Int32} (hx : 0 ≤ x.toInt) : (x.toBitVec.toNat : Int) = x.toInt := by
  have h2 := x.toBitVec.isLt
  have h3 : x.toInt = x.toBitVec.toInt := rfl
  rw [BitVec.toInt_eq_toNat_cond] at h3
  split at h3 <;> omega
theorem clamp32 {x : Int32} (hx : 0 ≤ x.toInt) : (x.toNatClampNeg : Int) = x.toInt := by
  show (x.toInt.toNat : Int) = x.toInt
  omega
theorem nlt32 {x : Int32} (hx : 0 ≤ x.toInt) : ¬ x < 0 := by
  rw [Int32.lt_iff_toInt_lt, show (0 : Int32).toInt = 0 from by decide]; omega
theorem c_imulR (x k : Int32) (K : Int) (hk : k.toInt = K) : ((x * k).toInt - x.toInt * K) % 4294967296 = 0 := hk ▸ c_imul x k
theorem c_imulL (k x : Int32) (K : Int) (hk : k.toInt = K) : ((k * x).toInt - K * x.toInt) % 4294967296 = 0 := hk ▸ c_imul k x
theorem mulL (k x : Int32) (K : Int) (hk : k.toInt = K) (h1 : -2147483648 ≤ K * x.toInt) (h2 : K * x.toInt < 2147483648) : (k * x).toInt = K * x.toInt := by
  have a := c_imulL k x K hk
  have g := rng32 (k * x)
  generalize K * x.toInt = P at *
  omega
theorem mulR (x k : Int32) (K : Int) (hk : k.toInt = K) (h1 : -2147483648 ≤ x.toInt * K) (h2 : x.toInt * K < 2147483648) : (x * k).toInt = x.toInt * K := by
  have a := c_imulR x k K hk
  have g := rng32 (x * k)
  generalize x.toInt * K = P at *
  omega
/-! the xor of the bytes from f to t of a 64-bit word -/
def byt (B : BitVec 64) (m : Nat) : BitVec 32 := ((B >>> (8 * m)).setWidth 8).setWidth 32
def Gx (B : BitVec 64) (f : Nat) : Nat → BitVec 32
  | 0 => 0#32
  | i + 1 => if f ≤ i then Gx B f i ^^^ byt B i else Gx B f i
def Px (B : BitVec 64) : Nat → BitVec 32
  | 0 => 0#32
  | i + 1 => Px B i ^^^ byt B i
theorem Gx_le (B : BitVec 64) (f : Nat) : ∀ i, i ≤ f → Gx B f i = 0#32
  | 0, _ => rfl
  | i + 1, q => by rw [Gx, if_neg (by omega)]; exact Gx_le B f i (by omega)
theorem byt_bit (B : BitVec 64) (m j : Nat) : (byt B m).getLsbD j = (decide (j < 32) && (decide (j < 8) && B.getLsbD (8 * m + j))) := by
  rw [byt, BitVec.getLsbD_setWidth, BitVec.getLsbD_setWidth, BitVec.getLsbD_ushiftRight]
theorem low_bit (k n : Nat) (hn : n < 64) : (BitVec.ofNat 64 (2 ^ k - 1)).getLsbD n = decide (n < k) := by
  rw [BitVec.getLsbD_ofNat, Nat.testBit_two_pow_sub_one]; simp [hn]
theorem ones_bit (n : Nat) (hn : n < 64) : ((-1 : Int64).toBitVec).getLsbD n = true := by
  rw [show (-1 : Int64).toBitVec = BitVec.allOnes 64 from by decide, BitVec.getLsbD_allOnes]; simp [hn]
theorem byt_mask (B : BitVec 64) (f t m : Nat) (hm : m < 8) : byt (B &&& (BitVec.ofNat 64 (2 ^ (8 * t) - 1) &&& (BitVec.ofNat 64 (2 ^ (8 * f) - 1) ^^^ (-1 : Int64).toBitVec))) m = if f ≤ m ∧ m < t then byt B m else 0#32 := by
  apply BitVec.eq_of_getLsbD_eq
  intro j hj
  rw [byt_bit]
  by_cases h8 : j < 8
  · rw [BitVec.getLsbD_and, BitVec.getLsbD_and, BitVec.getLsbD_xor, low_bit _ _ (by omega), low_bit _ _ (by omega), ones_bit _ (by omega)]
    have e1 : decide (8 * m + j < 8 * t) = decide (m < t) := decide_eq_decide.mpr (by omega)
    have e2 : decide (8 * m + j < 8 * f) = decide (m < f) := decide_eq_decide.mpr (by omega)
    rw [e1, e2]
    by_cases c1 : m < t <;> by_cases c2 : m < f
    · rw [if_neg (by omega)]; simp [c1, c2]
    · rw [if_pos (by omega), byt_bit]; simp [c1, c2]
    · rw [if_neg (by omega)]; simp [c1, c2]
    · rw [if_neg (by omega)]; simp [c1, c2]
  · by_cases c : f ≤ m ∧ m < t
    · rw [if_pos c, byt_bit]; simp [h8]
    · rw [if_neg c]; simp [h8]
theorem Px_eq (B : BitVec 64) (f t : Nat) : ∀ i, i ≤ 8 → Px (B &&& (BitVec.ofNat 64 (2 ^ (8 * t) - 1) &&& (BitVec.ofNat 64 (2 ^ (8 * f) - 1) ^^^ (-1 : Int64).toBitVec))) i = Gx B f (min i t)
  | 0, _ => by rw [Nat.zero_min]; rfl
  | i + 1, q => by
    rw [Px, Px_eq B f t i (by omega), byt_mask B f t i (by omega)]
    by_cases c : i < t
    · rw [Nat.min_eq_left (by omega), Nat.min_eq_left (by omega), Gx]
      by_cases c2 : f ≤ i
      · rw [if_pos c2, if_pos ⟨c2, c⟩]
      · rw [if_neg c2, if_neg (fun z => c2 z.1), BitVec.xor_zero]
    · rw [Nat.min_eq_right (by omega), Nat.min_eq_right (by omega), if_neg (fun z => c z.2), BitVec.xor_zero]
theorem fold_eq (Y : BitVec 64) : ((((Y ^^^ Y >>> 32) ^^^ (Y ^^^ Y >>> 32) >>> 16) ^^^ ((Y ^^^ Y >>> 32) ^^^ (Y ^^^ Y >>> 32) >>> 16) >>> 8) &&& 255#64).setWidth 32 = Px Y 8 := by
  apply BitVec.eq_of_getLsbD_eq
  intro j hj
  have e255 : (255#64).getLsbD j = decide (j < 8) := by
    rw [show (255#64) = BitVec.ofNat 64 (2 ^ 8 - 1) from rfl, low_bit 8 j (by omega)]
  simp only [Px, BitVec.getLsbD_setWidth, BitVec.getLsbD_and, BitVec.getLsbD_xor, byt_bit, BitVec.getLsbD_ushiftRight, e255]
  by_cases h8 : j < 8
  · simp only [h8, hj, decide_true, Bool.and_true, Bool.true_and, ← Nat.add_assoc, Nat.reduceAdd, Nat.reduceMul, Nat.zero_add, BitVec.getLsbD_zero, Bool.false_xor]
    generalize Y.getLsbD j = a0, Y.getLsbD (8 + j) = a1, Y.getLsbD (16 + j) = a2, Y.getLsbD (24 + j) = a3, Y.getLsbD (32 + j) = a4, Y.getLsbD (40 + j) = a5, Y.getLsbD (48 + j) = a6, Y.getLsbD (56 + j) = a7
    revert a0 a1 a2 a3 a4 a5 a6 a7
    decide
  · simp [h8]
theorem lrc_eq (B : BitVec 64) (f t : Nat) (ht : t ≤ 8) (Y : BitVec 64) (hY : Y = B &&& (BitVec.ofNat 64 (2 ^ (8 * t) - 1) &&& (BitVec.ofNat 64 (2 ^ (8 * f) - 1) ^^^ (-1 : Int64).toBitVec))) :
    ((((Y ^^^ Y >>> 32) ^^^ (Y ^^^ Y >>> 32) >>> 16) ^^^ ((Y ^^^ Y >>> 32) ^^^ (Y ^^^ Y >>> 32) >>> 16) >>> 8) &&& 255#64).setWidth 32 = Gx B f t := by
  rw [fold_eq, hY, Px_eq B f t 8 (by decide), Nat.min_eq_right ht]
abbrev rm00 : Room := { frames := 0, cells := 0, slots := 0, locals := 0 }
set_option maxRecDepth 65536 in
set_option maxHeartbeats 40000000 in
theorem c_1 (l : Launch) (Z : State) (a : Addr) (x1 x2 : Int32) (vs : List Value) (B : BitVec 64) (f t : Nat) (n0 : Nat) (h : Heap) (hn : n0 ≤ h.size) (A : Ars Z h a .byte vs) (hf : x1.toInt = f) (ht : x2.toInt = t) (hf8 : f ≤ 8) (ht8 : t ≤ 8) (hv : ∀ i, i < 8 → ∃ w : Int32, vs[i]? = some (.int w) ∧ (w &&& 255).toBitVec = byt B i) :
    Ct l Z y1 prog_124_method_2_code 5 (some .int) rm00 n0 [] #[.ref a, .int x1, .int x2] h (fun v h' => (∃ r : Int32, v = some (.int r) ∧ r.toBitVec = Gx B f t) ∧ h' = h) := by
  refine ct_of pn_1 hn (ef_1 a x1 x2) fun X C => ?_
  have z1 : (1 : Int32).toInt = 1 := by decide
  have J5 : ∀ (d i : Nat) (acc ii : Int32), ii.toInt = i → acc.toBitVec = Gx B f i → f ≤ i → i ≤ 8 → (i ≤ t ∨ i = f) → t - i = d → Wp X 0 0 h 5 #[.val (.ref a), .val (.int x1), .val (.int x2), .val (.int acc), .val (.int ii)] [] := by
    intro d
    induction d with
    | zero =>
      intro i acc ii hii hacc hfi hi8 hit hd
      have fin : acc.toBitVec = Gx B f t := by
        rw [hacc]
        rcases Nat.lt_or_ge t i with q | q
        · rw [Gx_le B f i (by omega), Gx_le B f t (by omega)]
        · rw [show i = t by omega]
      refine w_iload C (pc' := 7) d1_5 rfl rfl ?_
      refine w_iloadN C (pc' := 8) d1_7 rfl rfl ?_
      refine w_jcmp_ge C (pc' := 28) (pn := 11) d1_8 (by decide) (by decide) rfl (fun c8 => ?_) (fun c8 => ?_)
      rotate_left
      · exact absurd c8 (by omega)
      refine w_iloadN C (pc' := 29) d1_28 rfl rfl ?_
      exact w_iret C d1_29 (by simp) rfl (by decide) (by decide) ⟨⟨_, rfl, fin⟩, rfl⟩
    | succ d ih =>
      intro i acc ii hii hacc hfi hi8 hit hd
      have ci := clamp32 (x := ii) (by omega)
      obtain ⟨w, hw1, hw2⟩ := hv i (by omega)
      have a1 := c_iadd ii 1
      have g1 := rng32 (ii + 1)
      have nx : (acc ^^^ (w &&& 255)).toBitVec = Gx B f (i + 1) := by
        rw [Int32.toBitVec_xor, hw2, hacc, Gx, if_pos hfi]
      refine w_iload C (pc' := 7) d1_5 rfl rfl ?_
      refine w_iloadN C (pc' := 8) d1_7 rfl rfl ?_
      refine w_jcmp_ge C (pc' := 28) (pn := 11) d1_8 (by decide) (by decide) rfl (fun c8 => ?_) (fun c8 => ?_)
      · exact absurd c8 (by omega)
      refine w_iloadN C (pc' := 12) d1_11 rfl rfl ?_
      refine w_aloadN C (pc' := 13) d1_12 rfl rfl rfl ?_
      refine w_iload C (pc' := 15) d1_13 rfl rfl ?_
      refine w_baload C (pc' := 16) d1_15 A (nlt32 (by omega)) (by omega) hw1 rfl ?_
      refine w_sipush C (pc' := 19) (z := 255) d1_16 rfl rfl ?_
      refine w_iand C (pc' := 20) d1_19 rfl ?_
      refine w_ixor C (pc' := 21) d1_20 rfl ?_
      refine w_istoreN C (pc' := 22) (ls' := #[_, _, _, _, _]) d1_21 rfl rfl ?_
      refine w_iinc C (pc' := 25) (ls' := #[_, _, _, _, _]) (z := 1) d1_22 rfl rfl rfl rfl ?_
      refine w_goto C (pc' := 5) d1_25 (by decide) (by decide) ?_
      exact ih (i + 1) _ _ (by omega) nx (by omega) (by omega) (by omega) (by omega)
  refine w_iconst C (pc' := 1) (z := 0) d1_0 rfl rfl ?_
  refine w_istoreN C (pc' := 2) (ls' := #[_, _, _, _, _]) d1_1 rfl rfl ?_
  refine w_iloadN C (pc' := 3) d1_2 rfl rfl ?_
  refine w_istore C (pc' := 5) (ls' := #[_, _, _, _, _]) d1_3 rfl rfl ?_
  -- STOP at 5
  exact J5 (t - f) f 0 x1 hf (by rw [Gx_le B f f (Nat.le_refl _)]; rfl) (Nat.le_refl _) hf8 (Or.inr rfl) rfl
set_option maxRecDepth 65536 in
set_option maxHeartbeats 40000000 in
theorem c_2 (l : Launch) (Z : State) (a0 : Array Value) (hw : ∀ d ∈ tables_1, d.before a0 Z = true) (x0 : Int32) (t : Nat) (n0 : Nat) (h : Heap) (hn : n0 ≤ h.size) (ht : x0.toInt = 8 * t) (ht8 : t ≤ 8) :
    Ct l Z y2 method_3_code 1 (some .long) rm00 n0 [] #[.int x0] h (fun v h' => (∃ r : Int64, v = some (.long r) ∧ r.toBitVec = BitVec.ofNat 64 (2 ^ (8 * t) - 1)) ∧ h' = h) := by
  refine ct_of pn_2 hn (ef_2 x0) fun X C => ?_
  have z64 : (64 : Int32).toInt = 64 := by decide
  have cl : x0.toInt < 64 → ((1 : Int64) <<< (x0 &&& 0x3f).toInt64 - 1).toBitVec = BitVec.ofNat 64 (2 ^ (8 * t) - 1) := by
    intro q
    rcases (by omega : t = 0 ∨ t = 1 ∨ t = 2 ∨ t = 3 ∨ t = 4 ∨ t = 5 ∨ t = 6 ∨ t = 7) with rfl | rfl | rfl | rfl | rfl | rfl | rfl | rfl
    · obtain rfl : x0 = 0 := Int32.toInt_inj.mp (by rw [ht]; decide)
      decide
    · obtain rfl : x0 = 8 := Int32.toInt_inj.mp (by rw [ht]; decide)
      decide
    · obtain rfl : x0 = 16 := Int32.toInt_inj.mp (by rw [ht]; decide)
      decide
    · obtain rfl : x0 = 24 := Int32.toInt_inj.mp (by rw [ht]; decide)
      decide
    · obtain rfl : x0 = 32 := Int32.toInt_inj.mp (by rw [ht]; decide)
      decide
    · obtain rfl : x0 = 40 := Int32.toInt_inj.mp (by rw [ht]; decide)
      decide
    · obtain rfl : x0 = 48 := Int32.toInt_inj.mp (by rw [ht]; decide)
      decide
    · obtain rfl : x0 = 56 := Int32.toInt_inj.mp (by rw [ht]; decide)
      decide
  have e8 : 64 ≤ x0.toInt → (-1 : Int64).toBitVec = BitVec.ofNat 64 (2 ^ (8 * t) - 1) := by
    intro q
    obtain rfl : t = 8 := by omega
    decide
  refine w_iloadN C (pc' := 1) d2_0 rfl rfl ?_
  refine w_bipush C (pc' := 3) (z := 64) d2_1 rfl rfl ?_
  refine w_jcmp_lt C (pc' := 12) (pn := 6) d2_3 (by decide) (by decide) rfl (fun c3 => ?_) (fun c3 => ?_)
  · refine w_lconst C (pc' := 13) (z := 1) d2_12 rfl rfl ?_
    refine w_iloadN C (pc' := 14) d2_13 rfl rfl ?_
    refine w_lshl C (pc' := 15) d2_14 rfl ?_
    refine w_lconst C (pc' := 16) (z := 1) d2_15 rfl rfl ?_
    refine w_lsub C (pc' := 17) d2_16 rfl ?_
    exact w_lret C d2_17 (by decide) (by decide) ⟨⟨_, rfl, cl (by omega)⟩, rfl⟩
  · refine w_ldc2 C (pc' := 9) (tw hw 10 rfl) d2_6 rfl ?_
    refine w_goto C (pc' := 17) d2_9 (by decide) (by decide) ?_
    exact w_lret C d2_17 (by decide) (by decide) ⟨⟨_, rfl, e8 (by omega)⟩, rfl⟩
theorem byt_of (x : Int64) (B : BitVec 64) (i : Nat) (hx : x.toBitVec = B >>> (8 * i)) : (x.toInt32.toInt8.toInt32.toInt8.toInt32 &&& 255).toBitVec = byt B i := by
  have h0 := c_l2i x
  have h1 := c_i2b x.toInt32
  have h2 := c_i2b x.toInt32.toInt8.toInt32
  have h3 := c_mask x.toInt32.toInt8.toInt32.toInt8.toInt32 255 8 (by decide) (by decide)
  have h4 := nat32 (x := x.toInt32.toInt8.toInt32.toInt8.toInt32 &&& 255) (by omega)
  apply BitVec.eq_of_toNat_eq
  rw [byt, ← hx, BitVec.toNat_setWidth, BitVec.toNat_setWidth]
  have h5 : x.toInt = x.toBitVec.toInt := rfl
  rw [BitVec.toInt_eq_toNat_cond] at h5
  split at h5 <;> omega
set_option maxRecDepth 65536 in
set_option maxHeartbeats 40000000 in
theorem law_ct (l : Launch) (Z : State) (a0 : Array Value) (hw : ∀ d ∈ tables_1, d.before a0 Z = true) (x0 : Int64) (x1 x2 : Int32) (n0 : Nat) (h : Heap) (hn : n0 ≤ h.size) :
    Ct l Z x code maxLocals ret room_1 n0 tables_1 #[.long x0, .int x1, .int x2] h (fun v _ => v = some (.int 1)) := by
  refine ct_of pn_0 hn (ef_0 x0 x1 x2) fun X C => ?_
  have J103 : ∀ (h' : Heap) (a : Addr) (vs : List Value) (xf xt : Int32) (f t : Nat), Ars Z h' a .byte vs → (∀ i, i < 8 → ∃ w : Int32, vs[i]? = some (.int w) ∧ (w &&& 255).toBitVec = byt x0.toBitVec i) → xf.toInt = f → xt.toInt = t → f ≤ 8 → t ≤ 8 →
      Wp X 1 8 h' 103 #[.val (.long x0), .second, .val (.int x1), .val (.int x2), .val (.ref a), .val (.int xf), .val (.int xt), .unset, .unset, .unset, .unset, .unset, .unset] [] := by
    intro h' a vs xf xt f t A hv hf ht hf8 ht8
    have z8 : (8 : Int32).toInt = 8 := by decide
    have m1 := mulL 8 xt 8 (by decide) (by omega) (by omega)
    have g1 := rng32 (8 * xt)
    have m2 := mulL 8 xf 8 (by decide) (by omega) (by omega)
    have g2 := rng32 (8 * xf)
    refine w_aload C (pc' := 105) at_103 rfl rfl rfl ?_
    refine w_iload C (pc' := 107) at_105 rfl rfl ?_
    refine w_iload C (pc' := 109) at_107 rfl rfl ?_
    refine Wp.size C fun sz109 => ?_
    refine w_static C (pc' := 112) (W := 0) (tw hw 2 rfl) (tw hw 3 rfl) (tw hw 4 rfl) (tw hw 5 rfl) (by decide) pd_0 at_109 (c_1 X.l Z a xf xt vs x0.toBitVec f t n0 h' sz109 A hf ht hf8 ht8 hv) rfl rfl rfl (by decide) rfl (by decide) (by decide) (by decide) rfl (fun v109 h109 q109 => ?_)
    obtain ⟨⟨r, rfl, hr⟩, rfl⟩ := q109
    show Wp X _ _ _ 112 _ [_]
    refine w_istore C (pc' := 114) (ls' := #[_, _, _, _, _, _, _, _, _, _, _, _, _]) at_112 rfl rfl ?_
    refine w_bipush C (pc' := 116) (z := 8) at_114 rfl rfl ?_
    refine w_iload C (pc' := 118) at_116 rfl rfl ?_
    refine w_imul C (pc' := 119) at_118 rfl ?_
    refine Wp.size C fun sz119 => ?_
    refine w_static C (pc' := 122) (W := 0) (tw hw 6 rfl) (tw hw 7 rfl) (tw hw 8 rfl) (tw hw 9 rfl) (by decide) pd_1 at_119 (c_2 X.l Z a0 hw (8 * xt) t n0 _ sz119 (by omega) ht8) rfl rfl rfl (by decide) rfl (by decide) (by decide) (by decide) rfl (fun v119 h119 q119 => ?_)
    obtain ⟨⟨lt, rfl, hlt⟩, rfl⟩ := q119
    show Wp X _ _ _ 122 _ [_]
    refine w_bipush C (pc' := 124) (z := 8) at_122 rfl rfl ?_
    refine w_iload C (pc' := 126) at_124 rfl rfl ?_
    refine w_imul C (pc' := 127) at_126 rfl ?_
    refine Wp.size C fun sz127 => ?_
    refine w_static C (pc' := 130) (W := 2) (tw hw 6 rfl) (tw hw 7 rfl) (tw hw 8 rfl) (tw hw 9 rfl) (by decide) pd_1 at_127 (c_2 X.l Z a0 hw (8 * xf) f n0 _ sz127 (by omega) hf8) rfl rfl rfl (by decide) rfl (by decide) (by decide) (by decide) rfl (fun v127 h127 q127 => ?_)
    obtain ⟨⟨lf, rfl, hlf⟩, rfl⟩ := q127
    show Wp X _ _ _ 130 _ [_, _]
    refine w_ldc2 C (pc' := 133) (tw hw 10 rfl) at_130 rfl ?_
    refine w_lxor C (pc' := 134) at_133 rfl ?_
    refine w_land C (pc' := 135) at_134 rfl ?_
    refine w_lstore C (pc' := 137) (ls' := #[_, _, _, _, _, _, _, _, _, _, _, _, _]) at_135 rfl rfl ?_
    refine w_lloadN C (pc' := 138) at_137 rfl rfl ?_
    refine w_lload C (pc' := 140) at_138 rfl rfl ?_
    refine w_land C (pc' := 141) at_140 rfl ?_
    refine w_lstore C (pc' := 143) (ls' := #[_, _, _, _, _, _, _, _, _, _, _, _, _]) at_141 rfl rfl ?_
    have key := lrc_eq x0.toBitVec f t ht8 (x0 &&& (lt &&& (lf ^^^ (-1)))).toBitVec (by rw [Int64.toBitVec_and, Int64.toBitVec_and, Int64.toBitVec_xor, hlt, hlf])
    generalize x0 &&& (lt &&& (lf ^^^ (-1))) = Y at key
    refine w_lload C (pc' := 145) at_143 rfl rfl ?_
    refine w_lload C (pc' := 147) at_145 rfl rfl ?_
    refine w_bipush C (pc' := 149) (z := 32) at_147 rfl rfl ?_
    refine w_lushr C (pc' := 150) at_149 rfl ?_
    refine w_lxor C (pc' := 151) at_150 rfl ?_
    refine w_lstore C (pc' := 153) (ls' := #[_, _, _, _, _, _, _, _, _, _, _, _, _]) at_151 rfl rfl ?_
    refine w_lload C (pc' := 155) at_153 rfl rfl ?_
    refine w_lload C (pc' := 157) at_155 rfl rfl ?_
    refine w_bipush C (pc' := 159) (z := 16) at_157 rfl rfl ?_
    refine w_lushr C (pc' := 160) at_159 rfl ?_
    refine w_lxor C (pc' := 161) at_160 rfl ?_
    refine w_lstore C (pc' := 163) (ls' := #[_, _, _, _, _, _, _, _, _, _, _, _, _]) at_161 rfl rfl ?_
    refine w_lload C (pc' := 165) at_163 rfl rfl ?_
    refine w_lload C (pc' := 167) at_165 rfl rfl ?_
    refine w_bipush C (pc' := 169) (z := 8) at_167 rfl rfl ?_
    refine w_lushr C (pc' := 170) at_169 rfl ?_
    refine w_lxor C (pc' := 171) at_170 rfl ?_
    refine w_lstore C (pc' := 173) (ls' := #[_, _, _, _, _, _, _, _, _, _, _, _, _]) at_171 rfl rfl ?_
    refine w_lload C (pc' := 175) at_173 rfl rfl ?_
    refine w_ldc2 C (pc' := 178) (tw hw 11 rfl) at_175 rfl ?_
    refine w_land C (pc' := 179) at_178 rfl ?_
    refine w_l2i C (pc' := 180) at_179 rfl ?_
    refine w_istore C (pc' := 182) (ls' := #[_, _, _, _, _, _, _, _, _, _, _, _, _]) at_180 rfl rfl ?_
    refine w_iload C (pc' := 184) at_182 rfl rfl ?_
    refine w_iload C (pc' := 186) at_184 rfl rfl ?_
    have e : ((((Y ^^^ (Y.toUInt64 >>> ((32 : Int32) &&& 0x3f).toInt64.toUInt64).toInt64) ^^^ ((Y ^^^ (Y.toUInt64 >>> ((32 : Int32) &&& 0x3f).toInt64.toUInt64).toInt64).toUInt64 >>> ((16 : Int32) &&& 0x3f).toInt64.toUInt64).toInt64) ^^^ (((Y ^^^ (Y.toUInt64 >>> ((32 : Int32) &&& 0x3f).toInt64.toUInt64).toInt64) ^^^ ((Y ^^^ (Y.toUInt64 >>> ((32 : Int32) &&& 0x3f).toInt64.toUInt64).toInt64).toUInt64 >>> ((16 : Int32) &&& 0x3f).toInt64.toUInt64).toInt64).toUInt64 >>> ((8 : Int32) &&& 0x3f).toInt64.toUInt64).toInt64) &&& 255).toInt32 = r := by
      apply Int32.toBitVec_inj.mp
      rw [hr, ← key, Int64.toBitVec_toInt32, BitVec.signExtend_eq_setWidth_of_le _ (by decide), Int64.toBitVec_and, Int64.toBitVec_xor, b_lushr _ 8 8 (by decide), Int64.toBitVec_xor, b_lushr _ 16 16 (by decide), Int64.toBitVec_xor, b_lushr _ 32 32 (by decide)]
      rfl
    refine w_icmp_ne C (pc' := 193) (pn := 189) at_186 (by decide) (by decide) rfl (fun c186 => ?_) (fun c186 => ?_)
    · exact (c186 e.symm).elim
    refine w_iconst C (pc' := 190) (z := 1) at_189 rfl rfl ?_
    refine w_goto C (pc' := 194) at_190 (by decide) (by decide) ?_
    exact w_iret C at_194 (by simp) rfl (by decide) (by decide) rfl
  have m0 := c_mask x1 2147483647 31 (by decide) (by decide)
  have r0 := (c_irem (x1 &&& 2147483647) 9 9 (by decide)).1 (by omega)
  have m1 := c_mask x2 2147483647 31 (by decide) (by decide)
  have r1 := (c_irem (x2 &&& 2147483647) 9 9 (by decide)).1 (by omega)
  refine w_bipush C (pc' := 2) (z := 8) at_0 rfl rfl ?_
  refine w_newarray C (pc' := 4) (cap := 8) (tw hw 0 rfl) at_2 (by decide) (by decide) (by decide) (by decide) (by decide) rfl (fun h2 a2 e2 g2 E2 A2 => ?_)
  refine w_astore C (pc' := 6) (ls' := #[_, _, _, _, _, _, _, _, _, _, _, _, _]) at_4 rfl rfl rfl ?_
  refine w_aload C (pc' := 8) at_6 rfl rfl rfl ?_
  refine w_iconst C (pc' := 9) (z := 0) at_8 rfl rfl ?_
  refine w_lloadN C (pc' := 10) at_9 rfl rfl ?_
  refine w_l2i C (pc' := 11) at_10 rfl ?_
  refine w_i2b C (pc' := 12) at_11 rfl ?_
  refine w_bastore C (pc' := 13) at_12 A2 g2 (by decide) rfl (by first | decide | (simp only [List.length_set]; decide)) rfl (fun h12 W12 A12 => ?_)
  refine w_aload C (pc' := 15) at_13 rfl rfl rfl ?_
  refine w_iconst C (pc' := 16) (z := 1) at_15 rfl rfl ?_
  refine w_lloadN C (pc' := 17) at_16 rfl rfl ?_
  refine w_bipush C (pc' := 19) (z := 8) at_17 rfl rfl ?_
  refine w_lushr C (pc' := 20) at_19 rfl ?_
  refine w_l2i C (pc' := 21) at_20 rfl ?_
  refine w_i2b C (pc' := 22) at_21 rfl ?_
  refine w_bastore C (pc' := 23) at_22 A12 g2 (by decide) rfl (by first | decide | (simp only [List.length_set]; decide)) rfl (fun h22 W22 A22 => ?_)
  refine w_aload C (pc' := 25) at_23 rfl rfl rfl ?_
  refine w_iconst C (pc' := 26) (z := 2) at_25 rfl rfl ?_
  refine w_lloadN C (pc' := 27) at_26 rfl rfl ?_
  refine w_bipush C (pc' := 29) (z := 16) at_27 rfl rfl ?_
  refine w_lushr C (pc' := 30) at_29 rfl ?_
  refine w_l2i C (pc' := 31) at_30 rfl ?_
  refine w_i2b C (pc' := 32) at_31 rfl ?_
  refine w_bastore C (pc' := 33) at_32 A22 g2 (by decide) rfl (by first | decide | (simp only [List.length_set]; decide)) rfl (fun h32 W32 A32 => ?_)
  refine w_aload C (pc' := 35) at_33 rfl rfl rfl ?_
  refine w_iconst C (pc' := 36) (z := 3) at_35 rfl rfl ?_
  refine w_lloadN C (pc' := 37) at_36 rfl rfl ?_
  refine w_bipush C (pc' := 39) (z := 24) at_37 rfl rfl ?_
  refine w_lushr C (pc' := 40) at_39 rfl ?_
  refine w_l2i C (pc' := 41) at_40 rfl ?_
  refine w_i2b C (pc' := 42) at_41 rfl ?_
  refine w_bastore C (pc' := 43) at_42 A32 g2 (by decide) rfl (by first | decide | (simp only [List.length_set]; decide)) rfl (fun h42 W42 A42 => ?_)
  refine w_aload C (pc' := 45) at_43 rfl rfl rfl ?_
  refine w_iconst C (pc' := 46) (z := 4) at_45 rfl rfl ?_
  refine w_lloadN C (pc' := 47) at_46 rfl rfl ?_
  refine w_bipush C (pc' := 49) (z := 32) at_47 rfl rfl ?_
  refine w_lushr C (pc' := 50) at_49 rfl ?_
  refine w_l2i C (pc' := 51) at_50 rfl ?_
  refine w_i2b C (pc' := 52) at_51 rfl ?_
  refine w_bastore C (pc' := 53) at_52 A42 g2 (by decide) rfl (by first | decide | (simp only [List.length_set]; decide)) rfl (fun h52 W52 A52 => ?_)
  refine w_aload C (pc' := 55) at_53 rfl rfl rfl ?_
  refine w_iconst C (pc' := 56) (z := 5) at_55 rfl rfl ?_
  refine w_lloadN C (pc' := 57) at_56 rfl rfl ?_
  refine w_bipush C (pc' := 59) (z := 40) at_57 rfl rfl ?_
  refine w_lushr C (pc' := 60) at_59 rfl ?_
  refine w_l2i C (pc' := 61) at_60 rfl ?_
  refine w_i2b C (pc' := 62) at_61 rfl ?_
  refine w_bastore C (pc' := 63) at_62 A52 g2 (by decide) rfl (by first | decide | (simp only [List.length_set]; decide)) rfl (fun h62 W62 A62 => ?_)
  refine w_aload C (pc' := 65) at_63 rfl rfl rfl ?_
  refine w_bipush C (pc' := 67) (z := 6) at_65 rfl rfl ?_
  refine w_lloadN C (pc' := 68) at_67 rfl rfl ?_
  refine w_bipush C (pc' := 70) (z := 48) at_68 rfl rfl ?_
  refine w_lushr C (pc' := 71) at_70 rfl ?_
  refine w_l2i C (pc' := 72) at_71 rfl ?_
  refine w_i2b C (pc' := 73) at_72 rfl ?_
  refine w_bastore C (pc' := 74) at_73 A62 g2 (by decide) rfl (by first | decide | (simp only [List.length_set]; decide)) rfl (fun h73 W73 A73 => ?_)
  refine w_aload C (pc' := 76) at_74 rfl rfl rfl ?_
  refine w_bipush C (pc' := 78) (z := 7) at_76 rfl rfl ?_
  refine w_lloadN C (pc' := 79) at_78 rfl rfl ?_
  refine w_bipush C (pc' := 81) (z := 56) at_79 rfl rfl ?_
  refine w_lushr C (pc' := 82) at_81 rfl ?_
  refine w_l2i C (pc' := 83) at_82 rfl ?_
  refine w_i2b C (pc' := 84) at_83 rfl ?_
  refine w_bastore C (pc' := 85) at_84 A73 g2 (by decide) rfl (by first | decide | (simp only [List.length_set]; decide)) rfl (fun h84 W84 A84 => ?_)
  refine w_iloadN C (pc' := 86) at_85 rfl rfl ?_
  refine w_ldc C (pc' := 88) (tw hw 1 rfl) at_86 rfl ?_
  refine w_iand C (pc' := 89) at_88 rfl ?_
  refine w_bipush C (pc' := 91) (z := 9) at_89 rfl rfl ?_
  refine w_irem C (pc' := 92) at_91 (by decide) rfl ?_
  refine w_istore C (pc' := 94) (ls' := #[_, _, _, _, _, _, _, _, _, _, _, _, _]) at_92 rfl rfl ?_
  refine w_iloadN C (pc' := 95) at_94 rfl rfl ?_
  refine w_ldc C (pc' := 97) (tw hw 1 rfl) at_95 rfl ?_
  refine w_iand C (pc' := 98) at_97 rfl ?_
  refine w_bipush C (pc' := 100) (z := 9) at_98 rfl rfl ?_
  refine w_irem C (pc' := 101) at_100 (by decide) rfl ?_
  refine w_istore C (pc' := 103) (ls' := #[_, _, _, _, _, _, _, _, _, _, _, _, _]) at_101 rfl rfl ?_
  refine J103 _ _ _ _ _ ((x1 &&& 2147483647) % 9).toInt.toNat ((x2 &&& 2147483647) % 9).toInt.toNat A84 ?_ (by omega) (by omega) (by omega) (by omega)
  intro i hi
  match i, hi with
  | 0, _ => exact ⟨_, rfl, byt_of _ _ 0 (by simp)⟩
  | 1, _ => exact ⟨_, rfl, byt_of _ _ 1 (b_lushr x0 8 8 (by decide))⟩
  | 2, _ => exact ⟨_, rfl, byt_of _ _ 2 (b_lushr x0 16 16 (by decide))⟩
  | 3, _ => exact ⟨_, rfl, byt_of _ _ 3 (b_lushr x0 24 24 (by decide))⟩
  | 4, _ => exact ⟨_, rfl, byt_of _ _ 4 (b_lushr x0 32 32 (by decide))⟩
  | 5, _ => exact ⟨_, rfl, byt_of _ _ 5 (b_lushr x0 40 40 (by decide))⟩
  | 6, _ => exact ⟨_, rfl, byt_of _ _ 6 (b_lushr x0 48 48 (by decide))⟩
  | 7, _ => exact ⟨_, rfl, byt_of _ _ 7 (b_lushr x0 56 56 (by decide))⟩
set_option maxRecDepth 65536 in
set_option maxHeartbeats 40000000 in
theorem comes_1 {Post : Tables → Env → Array Value → State → Outcome → State → Prop} (hpost : ∀ tb e args s v u, (limb_1_1.after args s (.returned v) u = true ∧ limb_1_2.after args s (.returned v) u = true ∧ True) → FrameEnd s (.returned v) u (Jvm.fieldLocs frame_1_writes args s ++ Jvm.arrayLocs frame_1_arrays args s ++ Jvm.staticLocs frame_1_statics s) 16 128 → Post tb e args s (.returned v) u) :
    ArmFor flags0 classFile x code maxLocals ret World_1 tables_1 room_1 Calls_1 rest_1 Pre_1 Post := by
  intro l hfl _ _ p e ha hc hk s m args below hf hA hF happ hP
  obtain ⟨hcalls, hrest, hpre⟩ := hP
  obtain ⟨-, -, -, hnamed, -, -, -, hat⟩ := (Spec.applies_iff hf).mp happ
  obtain ⟨hg, hnar⟩ := and_e (Cond.before_iff.mp (show (Jvm.Cond.and given_1 narrow_1).before args s = true from hpre))
  obtain ⟨gc, g0⟩ := and_e hg
  obtain ⟨k0, g1⟩ := and_e g0
  obtain ⟨k1, g2⟩ := and_e g1
  obtain ⟨w0, w1, w2, rfl⟩ : ∃ w0 w1 w2 : Value, args = #[w0, w1, w2] := by
    have hs : args.size = 3 := by simpa [Cond.value, given_1] using gc
    obtain ⟨L⟩ := args
    match L, hs with
    | [w0, w1, w2], _ => exact ⟨w0, w1, w2, rfl⟩
  have hw := fun d (hd : d ∈ tables_1) => atoms_spec (ws := Jvm.Cond.code x code maxLocals ret :: tables_1) hat d (List.mem_cons_of_mem _ hd)
  have hfit : Fit s := fun {y c} hc i hi => by
    obtain ⟨ha, rfl⟩ := Array.getElem?_eq_some_iff.mp hc
    have q := List.all_eq_true.mp ((Array.all_eq_true_iff_forall_mem.mp hF) _ (Array.getElem_mem ha)) i (List.mem_range.mpr hi)
    simpa [Array.getElem?_eq_getElem hi] using q
  obtain ⟨i0, ei0⟩ := isL_v k0
  obtain rfl : w0 = (.long i0) := Option.some.inj ei0
  obtain ⟨i1, ei1⟩ := is_v k1
  obtain rfl : w1 = (.int i1) := Option.some.inj ei1
  obtain ⟨i2, ei2⟩ := is_v g2
  obtain rfl : w2 = (.int i2) := Option.some.inj ei2
  obtain ⟨n, o, h1, h2, h3, _, L, rfl, ⟨⟨rfl, -⟩, N⟩, hq⟩ := law_ct l s _ hw i0 i1 i2 s.heap.size s.heap (Nat.le_refl _) p e ha hc hk s m _ below hf ((Spec.applies_iff_loose hf).mp happ).1 ⟨rfl, State.Warmed39.refl s, rfl⟩ trivial
  refine ⟨n, _, h1, h2, h3, hpost _ _ _ _ _ _ ⟨Cond.after_iff.mpr rfl, Cond.after_iff.mpr (eq_i res_at (Term.int_eval (1)) rfl), trivial⟩ ⟨hq.1, hq.2.1, (hq.2.2.sift fun y hy => Or.inr (N y hy)).mono (by decide) (by decide)⟩⟩
theorem main_1_1 : Claimed_1_1 := comes_1 fun _ _ _ _ _ _ h hF => ⟨h.1, hF⟩
theorem main_1_2 : Claimed_1_2 := comes_1 fun _ _ _ _ _ _ h hF => ⟨h.2.1, hF⟩
end Jvm.Pilot.@@N@@
namespace Jvm.Pilot.@@N@@
open Jvm Jvm.ClassFile Sem Op Lib Jvm.Free Jvm.Stand Jvm.Pilot.@@N@@.Jvm.D
/-! MADE BY PROGRAM (witnessworld.py) out of the Statement's table words and the real class files: 9 classes; the members and pool entries that the words name. The judged class is class 1, her method 1. -/
namespace start1
open Jvm.ClassFile
def u (s : String) : CpInfo := .utf8 (stringToUtf16 s)
/-- a pool by its gaps: so many unusable entries, then the entry; so many at the end -/
def gap : Nat → List CpInfo → List CpInfo
  | 0, r => r
  | n + 1, r => .unusable :: gap n r
def poolList (es : List (Nat × CpInfo)) (last : Nat) : List CpInfo := es.foldr (fun e r => gap e.1 (e.2 :: r)) (gap last [])
def pool (es : List (Nat × CpInfo)) (last : Nat) : Array CpInfo := ⟨poolList es last⟩
def fileOf (pool : Array CpInfo) (this : Nat) (attrs : Array Attribute := #[]) (ms : Array MethodInfo := #[]) (fl : Nat := 33) (sup : Nat := 0) (ifs : Array Nat := #[]) (fds : Array FieldInfo := #[]) : ClassFile where
  minorVersion := 0
  majorVersion := 65
  constantPool := pool
  accessFlags := fl
  thisClass := this
  superClass := sup
  interfaces := ifs
  fields := fds
  methods := ms
  attributes := attrs
def plain (name : String) (sup : Option ClassId) : Class where
  name := name
  kind := .ordinary
  loader := none
  accessFlags := 33
  super := sup
  interfaces := #[]
  cf := none
  fields := #[]
  methods := #[]
  instanceTypes := #[]
  staticTypes := #[]
  resolved := #[]
  callSites := []
  init := .initialized
  statics := none
  mirror := none

def pool0 : Array CpInfo := pool [(5, u "<init>"), (0, u "()V"), (1, .class_ 10), (1, u "java/lang/Object")] 113

def k0m0 : Method := { name := "<init>", desc := "()V", sig := { parameters := [], returnType := none }, accessFlags := 1, code := none }
/-- java/lang/Object -/
def k0 : Class := { plain "java/lang/Object" none with
  accessFlags := 33
  interfaces := #[]
  cf := some (fileOf pool0 8 #[] #[{ accessFlags := 1, nameIndex := 5, descriptorIndex := 6, attributes := #[] }] 33 0 #[] #[])
  fields := #[]
  methods := #[k0m0]
  instanceTypes := #[]
  staticTypes := #[]
  resolved := Array.replicate 124 none
  statics := none }

def pool1 : Array CpInfo := pool [(2, .class_ 4), (1, u "java/lang/Object"), (0, u "<init>"), (0, u "()V"), (0, .integer 2147483647), (0, .methodref 9 10), (0, .class_ 11), (0, .nameAndType 12 13), (0, u "com/example/cobranza/cobranza/mxpad/Frames"), (0, u "lrc"), (0, u "([BII)I"), (0, .methodref 15 16), (0, .class_ 17), (0, .nameAndType 18 19), (0, u "com/example/cobranza/cobranza/mxpad/FramesLrcPinLaw"), (0, u "low"), (0, u "(I)J"), (0, .long 18446744073709551615), (1, .long 255), (3, u "law"), (0, u "(JII)Z")] 5

def k1m0 : Method := { name := "<init>", desc := "()V", sig := { parameters := [], returnType := none }, accessFlags := 2, code := none }
def k1c1 : Code := { maxStack := 6, maxLocals := 13, code := code, exceptionTable := #[], attributes := #[] }
def k1m1 : Method := { name := "law", desc := "(JII)Z", sig := { parameters := [.long, .int, .int], returnType := some .boolean }, accessFlags := 9, code := some k1c1 }
def k1c2 : Code := { maxStack := 4, maxLocals := 1, code := method_3_code, exceptionTable := #[], attributes := #[] }
def k1m2 : Method := { name := "low", desc := "(I)J", sig := { parameters := [.int], returnType := some .long }, accessFlags := 10, code := some k1c2 }
/-- com/example/cobranza/cobranza/mxpad/FramesLrcPinLaw -/
def k1 : Class := { plain "com/example/cobranza/cobranza/mxpad/FramesLrcPinLaw" (some 0) with
  accessFlags := 49
  interfaces := #[]
  cf := some (fileOf pool1 15 #[] #[{ accessFlags := 2, nameIndex := 5, descriptorIndex := 6, attributes := #[] }, { accessFlags := 9, nameIndex := 26, descriptorIndex := 27, attributes := #[] }, { accessFlags := 10, nameIndex := 18, descriptorIndex := 19, attributes := #[] }] 49 2 #[] #[])
  fields := #[]
  methods := #[k1m0, k1m1, k1m2]
  instanceTypes := #[]
  staticTypes := #[]
  resolved := Array.replicate 33 none
  statics := none }

def pool2 : Array CpInfo := pool [(2, .class_ 4), (1, u "java/lang/Object"), (0, u "<init>"), (0, u "()V"), (0, .class_ 8), (0, u "com/example/cobranza/cobranza/mxpad/Frames"), (2, u "lrc"), (0, u "([BII)I"), (32, .class_ 47), (1, u "com/example/cobranza/cobranza/mxpad/Frames$1"), (428, u "STX"), (0, u "B"), (2, u "ETX"), (1, u "DONE"), (0, u "Ljava/lang/String;"), (0, u "CARD_REMOVED"), (2, u "MIN_FRAME_LENGTH"), (0, u "I"), (1, u "MAX_FRAME_LENGTH"), (1, u "MAX_HEADER_LENGTH"), (1, u "TAG_E1"), (1, u "TAG_E2")] 89

def k2m0 : Method := { name := "<init>", desc := "()V", sig := { parameters := [], returnType := none }, accessFlags := 2, code := none }
def k2c1 : Code := { maxStack := 3, maxLocals := 5, code := prog_124_method_2_code, exceptionTable := #[], attributes := #[] }
def k2m1 : Method := { name := "lrc", desc := "([BII)I", sig := { parameters := [(.array .byte), .int, .int], returnType := some .int }, accessFlags := 9, code := some k2c1 }
/-- com/example/cobranza/cobranza/mxpad/Frames -/
def k2 : Class := { plain "com/example/cobranza/cobranza/mxpad/Frames" (some 0) with
  accessFlags := 49
  interfaces := #[]
  cf := some (fileOf pool2 7 #[.nestMembers #[45]] #[{ accessFlags := 2, nameIndex := 5, descriptorIndex := 6, attributes := #[] }, { accessFlags := 9, nameIndex := 11, descriptorIndex := 12, attributes := #[] }] 49 2 #[] #[{ accessFlags := 25, nameIndex := 476, descriptorIndex := 477, attributes := #[] }, { accessFlags := 25, nameIndex := 480, descriptorIndex := 477, attributes := #[] }, { accessFlags := 24, nameIndex := 482, descriptorIndex := 483, attributes := #[] }, { accessFlags := 24, nameIndex := 484, descriptorIndex := 483, attributes := #[] }, { accessFlags := 26, nameIndex := 487, descriptorIndex := 488, attributes := #[] }, { accessFlags := 24, nameIndex := 490, descriptorIndex := 488, attributes := #[] }, { accessFlags := 24, nameIndex := 492, descriptorIndex := 488, attributes := #[] }, { accessFlags := 26, nameIndex := 494, descriptorIndex := 488, attributes := #[] }, { accessFlags := 26, nameIndex := 496, descriptorIndex := 488, attributes := #[] }])
  fields := #[{ name := "STX", type := .byte, accessFlags := 25, slot := 0, constantValue := 0 }, { name := "ETX", type := .byte, accessFlags := 25, slot := 1, constantValue := 0 }, { name := "DONE", type := (.object "java/lang/String"), accessFlags := 24, slot := 2, constantValue := 0 }, { name := "CARD_REMOVED", type := (.object "java/lang/String"), accessFlags := 24, slot := 3, constantValue := 0 }, { name := "MIN_FRAME_LENGTH", type := .int, accessFlags := 26, slot := 4, constantValue := 0 }, { name := "MAX_FRAME_LENGTH", type := .int, accessFlags := 24, slot := 5, constantValue := 0 }, { name := "MAX_HEADER_LENGTH", type := .int, accessFlags := 24, slot := 6, constantValue := 0 }, { name := "TAG_E1", type := .int, accessFlags := 26, slot := 7, constantValue := 0 }, { name := "TAG_E2", type := .int, accessFlags := 26, slot := 8, constantValue := 0 }]
  methods := #[k2m0, k2m1]
  instanceTypes := #[]
  staticTypes := #[.byte, .byte, (.object "java/lang/String"), (.object "java/lang/String"), .int, .int, .int, .int, .int]
  resolved := Array.replicate 586 none
  statics := none }

def pool3 : Array CpInfo := pool [(1, u "java/lang/Cloneable"), (0, .class_ 1), (0, u "java/lang/Object"), (0, .class_ 3)] 3

/-- java/lang/Cloneable -/
def k3 : Class := { plain "java/lang/Cloneable" (some 0) with
  accessFlags := 1537
  interfaces := #[]
  cf := some (fileOf pool3 2 #[] #[] 1537 4 #[] #[])
  fields := #[]
  methods := #[]
  instanceTypes := #[]
  staticTypes := #[]
  resolved := Array.replicate 8 none
  statics := none }

def pool4 : Array CpInfo := pool [(1, u "java/io/Serializable"), (0, .class_ 1), (0, u "java/lang/Object"), (0, .class_ 3)] 3

/-- java/io/Serializable -/
def k4 : Class := { plain "java/io/Serializable" (some 0) with
  accessFlags := 1537
  interfaces := #[]
  cf := some (fileOf pool4 2 #[] #[] 1537 4 #[] #[])
  fields := #[]
  methods := #[]
  instanceTypes := #[]
  staticTypes := #[]
  resolved := Array.replicate 8 none
  statics := none }

/-- the primitive byte -/
def k5 : Class := { plain "byte" none with kind := .primitive 'B', accessFlags := 0x411 }
/-- [B -/
def k6 : Class := { plain "[B" (some 0) with kind := .array 5 .byte, interfaces := #[3, 4], accessFlags := 1041 }

/-- the primitive int -/
def k7 : Class := { plain "int" none with kind := .primitive 'I', accessFlags := 0x411 }
/-- [I -/
def k8 : Class := { plain "[I" (some 0) with kind := .array 7 .int, interfaces := #[3, 4], accessFlags := 1041 }

def heap : Heap := #[]
def classes : Array Class := #[k0, k1, k2, k3, k4, k5, k6, k7, k8]
def interned : List (Array UInt16 × Addr) := []
def slotsUsed : Nat := 0
def theMethod : MethodId := ⟨1, 1⟩
def args0 : Array Value := #[.long 5, .int 1, .int 6]
def aboutOver (below : List Frame) : State where
  vm := { classes := classes, interned := interned.toArray }
  heap := heap
  slotsUsed := slotsUsed
  threads := #[{ frames := .invoking theMethod args0 :: below }]
def below0 : List Frame := [.native { method := ⟨0, 0⟩, args := #[] }]
def about1 : State := aboutOver below0
def p0 : Program := .bare "" "" ""
def e0 : Env := launch0.env 0 0 0
theorem w_frames : about1.frames = Frame.invoking theMethod args0 :: below0 := rfl
set_option maxRecDepth 65536 in
theorem w_args : argsFit about1.vm theMethod args0 = true := by decide +kernel
set_option maxRecDepth 65536 in
theorem w_heap : heapFits about1 = true := by decide +kernel
set_option maxRecDepth 65536 in
theorem w_runnable : about1.curStatus? = some .runnable := by decide +kernel
set_option maxRecDepth 65536 in
theorem w_alone : about1.alone = true := by decide +kernel
set_option maxRecDepth 65536 in
theorem w_named : about1.methodNamed? x = some theMethod := by decide +kernel
set_option maxRecDepth 65536 in
theorem w_hears : about1.hears theMethod below0 = true := by decide +kernel
set_option maxRecDepth 65536 in
theorem w_ripe : about1.ripe theMethod args0 below0 = true := by decide +kernel
theorem w_running : about1.status = .running := rfl
set_option maxRecDepth 65536 in
theorem w_room : about1.hasRoom e0.platform room_1 = true :=
  launch0.hasRoom_least _ room_1 (by decide +kernel) (by decide +kernel) (by decide +kernel) (by decide +kernel) (by decide +kernel) (by decide +kernel)
theorem allAtoms_all (ts : List Jvm.Cond) (a : Array Jvm.Value) (st : Jvm.State) : (allAtoms ts).before a st = ts.all (fun c => c.before a st) := by
  induction ts with
  | nil => rfl
  | cons c t ih =>
    show (Jvm.Cond.and c (allAtoms t)).before a st = _
    rw [Jvm.Cond.before_and, ih, List.all_cons]
def words1 : List Jvm.Cond := Jvm.Cond.code x code maxLocals ret :: tables_1
/-- a 'code' word, met by the world's own term for the bytes: nothing is compared byte by byte -/
theorem code_word {y : MethodName} {bytes : ByteArray} {mx : Nat} {rt : Option FieldType} {a : Array Value} {s : State} {m : MethodId} {meth : Method} {c : Code} (h1 : s.methodNamed? y = some m) (h2 : s.vm.method? m = some meth) (h3 : meth.code = some c) (h4 : c.code = bytes)
    (h5 : (c.maxLocals == mx && c.exceptionTable.isEmpty && decide (c.maxStack ≤ mostOperands) && decide (meth.sig.returnType = rt) && !meth.locks && decide (parseMethodDescriptor y.desc = some meth.sig)) = true) : (Jvm.Cond.code y bytes mx rt).before a s = true := by
  simp only [Bool.and_eq_true, beq_iff_eq, Bool.not_eq_true', decide_eq_true_eq] at h5
  obtain ⟨⟨⟨⟨⟨g1, g2⟩, g3⟩, g4⟩, g5⟩, g6⟩ := h5
  simp [Cond.before, Cond.holds, Cond.value, h1, h2, h3, h4, g1, g2, g3, g4, g5, g6]
def isCode : Jvm.Cond → Bool
  | .code _ _ _ _ => true
  | _ => false
theorem all_split {L : List Jvm.Cond} {P : Jvm.Cond → Bool} (h1 : L.all (fun c => isCode c || P c) = true) (h2 : ∀ c ∈ L.filter isCode, P c = true) : L.all P = true := by
  refine List.all_eq_true.mpr fun c hc => ?_
  have h := List.all_eq_true.mp h1 c hc
  rcases Bool.eq_false_or_eq_true (isCode c) with hi | hi
  · exact h2 c (List.mem_filter.mpr ⟨hc, hi⟩)
  · simpa [hi] using h
set_option maxRecDepth 65536 in
theorem w_c0 : (Jvm.Cond.code x code maxLocals ret).before args0 about1 = true := code_word (m := ⟨1, 1⟩) (meth := k1m1) (c := k1c1) (by decide +kernel) rfl rfl rfl (by decide +kernel)
set_option maxRecDepth 65536 in
theorem w_c1 : (Jvm.Cond.code ({ cls := "com/example/cobranza/cobranza/mxpad/Frames", name := "lrc", desc := "([BII)I" } : Jvm.MethodName) prog_124_method_2_code (5 : Nat) (Option.some Jvm.ClassFile.FieldType.int)).before args0 about1 = true := code_word (m := ⟨2, 1⟩) (meth := k2m1) (c := k2c1) (by decide +kernel) rfl rfl rfl (by decide +kernel)
set_option maxRecDepth 65536 in
theorem w_c2 : (Jvm.Cond.code ({ cls := "com/example/cobranza/cobranza/mxpad/FramesLrcPinLaw", name := "low", desc := "(I)J" } : Jvm.MethodName) method_3_code (1 : Nat) (Option.some Jvm.ClassFile.FieldType.long)).before args0 about1 = true := code_word (m := ⟨1, 2⟩) (meth := k1m2) (c := k1c2) (by decide +kernel) rfl rfl rfl (by decide +kernel)
def codes1 : List Jvm.Cond := [Jvm.Cond.code x code maxLocals ret, Jvm.Cond.code ({ cls := "com/example/cobranza/cobranza/mxpad/Frames", name := "lrc", desc := "([BII)I" } : Jvm.MethodName) prog_124_method_2_code (5 : Nat) (Option.some Jvm.ClassFile.FieldType.int), Jvm.Cond.code ({ cls := "com/example/cobranza/cobranza/mxpad/FramesLrcPinLaw", name := "low", desc := "(I)J" } : Jvm.MethodName) method_3_code (1 : Nat) (Option.some Jvm.ClassFile.FieldType.long)]
set_option maxRecDepth 65536 in
theorem codes_eq : words1.filter isCode = codes1 := rfl
theorem w_codes : ∀ c ∈ words1.filter isCode, c.before args0 about1 = true := by
  rw [codes_eq]
  intro c hc
  simp only [codes1, List.mem_cons, List.not_mem_nil, or_false] at hc
  rcases hc with rfl | rfl | rfl
  · exact w_c0
  · exact w_c1
  · exact w_c2
set_option maxRecDepth 65536 in
theorem w_t1 : words1.all (fun c => isCode c || c.before args0 about1) = true := by decide +kernel
theorem w_tables : (allAtoms (Jvm.Cond.code x code maxLocals ret :: tables_1)).before args0 about1 = true := by
  rw [allAtoms_all]
  show words1.all (fun c => c.before args0 about1) = true
  refine all_split ?_ w_codes
  rw [w_t1]
set_option maxRecDepth 65536 in
theorem w_case : (Jvm.Cond.and given_1 narrow_1).before args0 about1 = true := by decide +kernel
theorem w_applies : (headSpec (Jvm.Cond.code x code maxLocals ret :: tables_1) room_1).applies x e0.platform about1 = true :=
  (Spec.applies_iff w_frames).mpr ⟨w_running, w_runnable, w_alone, w_named, w_hears, w_ripe, w_room, w_tables⟩
theorem atStart : AtStart classFile x code maxLocals ret World_1 tables_1 room_1 Calls_1 rest_1 Pre_1 launch0 p0 e0 about1 theMethod args0 below0 :=
  ⟨lists_1, trivial, launch0.admits_env _ _ _, launch0.least_env, fairChoices_fair.cas, fairChoices_fair.clock, w_frames, w_args, w_heap, w_applies, trivial, trivial, w_case⟩
end start1
theorem witness_1 : WitnessClaimed_1 := ⟨start1.p0, start1.e0, start1.about1, start1.theMethod, start1.args0, start1.below0, start1.atStart⟩
end Jvm.Pilot.@@N@@
