import JvmDerived
import JvmDerived.Pilot.@@N@@Statement
import JvmDerived.Pilot.@@N@@Code
set_option linter.unusedVariables false
set_option linter.unusedSimpArgs false
namespace Jvm.Pilot.@@N@@
open Jvm Jvm.ClassFile Sem Op Lib Jvm.Free Jvm.Stand Jvm.LawKit Jvm.RoadKit Bundle Jvm.Pilot.@@N@@.Jvm.D
/-! THE OWN LAYER (printed by wip/tools/mkown.py): Wp says: from here the body runs to its return and leaves Q. One law an instruction, each read off a law of the library. -/
abbrev Cx : Type := Program × Launch × Env × Room × State × MethodId × Array Value × List Frame × Method × Code × Nat × (Option Value → Heap → Prop)
abbrev Cx.p (X : Cx) : Program := X.1
abbrev Cx.l (X : Cx) : Launch := X.2.1
abbrev Cx.e (X : Cx) : Env := X.2.2.1
abbrev Cx.R (X : Cx) : Room := X.2.2.2.1
abbrev Cx.s (X : Cx) : State := X.2.2.2.2.1
abbrev Cx.m (X : Cx) : MethodId := X.2.2.2.2.2.1
abbrev Cx.args (X : Cx) : Array Value := X.2.2.2.2.2.2.1
abbrev Cx.below (X : Cx) : List Frame := X.2.2.2.2.2.2.2.1
abbrev Cx.meth (X : Cx) : Method := X.2.2.2.2.2.2.2.2.1
abbrev Cx.c (X : Cx) : Code := X.2.2.2.2.2.2.2.2.2.1
abbrev Cx.n0 (X : Cx) : Nat := X.2.2.2.2.2.2.2.2.2.2.1
abbrev Cx.Q (X : Cx) : Option Value → Heap → Prop := X.2.2.2.2.2.2.2.2.2.2.2
abbrev Sd (X : Cx) (T : State) (locs : List Loc) (k n : Nat) : Prop := Stand X.p X.l X.e X.R X.s X.m X.args X.below X.meth X.c T locs k n
abbrev Sp (X : Cx) (T : State) (pc : Nat) (ls : Array Slot) (st : List Value) (t : State) : Prop := Steps X.p.tables X.e X.below (T.setTop (mkF X.m pc ls st)) t
def Hand (X : Cx) (Z : State) (y : MethodName) (bytes : ByteArray) (mx : Nat) (rt : Option FieldType) (R : Room) (n0 : Nat) (Q : Option Value → Heap → Prop) : Prop :=
  X.p.tables.exec = Jvm.exec ∧ Z.Warmed39 X.s.vm ∧ X.s.vm.findClass y.cls = some X.m.cls ∧ X.c.code = bytes ∧ X.c.maxLocals = mx ∧ X.meth.sig.returnType = rt ∧ X.meth.locks = false ∧ X.R = R ∧ n0 ≤ X.s.heap.size ∧ X.meth.name = y.name ∧ X.n0 = n0 ∧ X.Q = Q
def Ct (l : Launch) (Z : State) (y : MethodName) (bytes : ByteArray) (mx : Nat) (rt : Option FieldType) (R : Room) (n0 : Nat) (ws : List Jvm.Cond) (as' : Array Value) (h : Heap) (Q : Option Value → Heap → Prop) : Prop :=
  MetFree l y (head1 (Jvm.Cond.code y bytes mx rt :: ws) R) (fun a U => a = as' ∧ Z.Warmed39 U.vm ∧ U.heap = h) (fun _ _ _ _ _ => True) (fun _ U o U' => ∃ v L, o = .returned v ∧ ((Q v U'.heap ∧ h.size ≤ U'.heap.size) ∧ Fr n0 L) ∧ FrameEnd U o U' L R.cells R.slots)
section OwnLayer
variable {X : Cx} {Z : State} {y : MethodName} {bytes : ByteArray} {mx : Nat} {rt : Option FieldType} {R : Room} {n0 : Nat} {Q : Option Value → Heap → Prop} {a0 : Array Value} {k n : Nat} {h : Heap} {pc pc' : Nat} {ls ls' : Array Slot} {st st' : List Value}
theorem Hand.sz (C : Hand X Z y bytes mx rt R n0 Q) {T : State} {locs : List Loc} (S : Sd X T locs k n) (e : T.heap = h) : n0 ≤ h.size := by
  have q : X.s.heap.size ≤ T.heap.size := S.same.2.1
  rw [← e]; exact Nat.le_trans C.2.2.2.2.2.2.2.2.1 q
theorem own_pop2L {tb : Tables} [Ours tb] {e : Env} {below : List Frame} {T target : State} {m : MethodId} {c : Code} {g : JFrame} (h : At T m c below) (hx : tb.exec = Jvm.exec) (hg : g.method = m) {x : Int64} {rest : List Value} (hd : decode c.code g.pc = .ok (.pop2, 1)) (hs : g.stack = .long x :: rest)
    (hr : Steps tb e below (T.setTop { g with pc := g.pc + 1, stack := rest }) target) : Steps tb e below (T.setTop g) target := by
  subst hg
  jvm_step h [h.top, hx, hd, hs, Value.category]
  exact hr
theorem toL (L : List Loc) : L ++ [] = L := List.append_nil L
end OwnLayer
def Wp (X : Cx) (k n : Nat) (h : Heap) (pc : Nat) (ls : Array Slot) (st : List Value) : Prop :=
  ∀ T locs, Sd X T locs k n → T.heap = h → Fr X.n0 locs →
    ∃ s₂ v L, Sp X T pc ls st s₂ ∧ s₂.status = .running ∧ Ended s₂ X.below (.returned v) ∧ X.Q v s₂.heap ∧ Fr X.n0 L ∧ X.s.WarmedH s₂.vm ∧ X.s.sameButNew ({ s₂ with vm := X.s.vm } : State) L X.R.cells X.R.slots
section OwnNarrow
variable {X : Cx} {Z : State} {y : MethodName} {bytes : ByteArray} {mx : Nat} {rt : Option FieldType} {R : Room} {n0 : Nat} {Q : Option Value → Heap → Prop} {a0 : Array Value} {k n : Nat} {h : Heap} {pc pc' : Nat} {ls ls' : Array Slot} {st st' : List Value}
theorem ct_of {l : Launch} {ws : List Jvm.Cond} {as' : Array Value} (hpl : plainFor y = true) (hn : n0 ≤ h.size) (hef : ∀ m, entryFrame m as' mx = mkF m 0 ls [])
    (hwp : ∀ X : Cx, Hand X Z y bytes mx rt R n0 Q → Wp X 0 0 h 0 ls []) : Ct l Z y bytes mx rt R n0 ws as' h Q := by
  refine MetFree.of_bodySF hpl hisR ?_
  intro p e s m args below meth c s₁ Bd hml0 hP hK
  obtain ⟨rfl, hZ, hh⟩ := hP
  have X0 : Stand p l e R s m args below meth c s₁ [] 0 0 := Stand.of_body Bd
  have e0 : s₁.heap = h := by rw [← hh, Bd.state]; rfl
  obtain ⟨s2, v, L, h1, h2, h3, h4, h5, h6, h7⟩ := hwp (p, l, e, R, s, m, args, below, meth, c, n0, Q) ⟨Bd.exec, hZ, findClass_of_methodNamed Bd.named, Bd.bytes, hml0, Bd.returns, Bd.notSynchronized, rfl, by show n0 ≤ s.heap.size; rw [hh]; exact hn, (name_of_methodNamed Bd.named Bd.method).1, rfl, rfl⟩ s₁ [] X0 e0 (Fr.nil n0)
  exact ⟨s2, _, castTop (hef m) h1, h2, h3, v, L, rfl, ⟨⟨h4, by rw [← hh]; exact h7.2.1⟩, h5⟩, ⟨_, rfl⟩, h6, h7⟩
theorem Wp.go (C : Hand X Z y bytes mx rt R n0 Q) (hs : ∀ X' : Cx, X'.l = X.l → Hand X' Z y bytes mx rt R n0 Q → ∀ T locs, Sd X' T locs k n → T.heap = h → ∀ t, Sp X' T pc' ls' st' t → Sp X' T pc ls st t) (w : Wp X k n h pc' ls' st') : Wp X k n h pc ls st := by
  intro T locs S e F
  obtain ⟨s2, v, L, a, r⟩ := w T locs S e F
  exact ⟨s2, v, L, hs X rfl C T locs S e _ a, r⟩
theorem Wp.to (C : Hand X Z y bytes mx rt R n0 Q) {k' n' : Nat} {P : Heap → List Value → Prop} (hs : ∀ X' : Cx, X'.l = X.l → Hand X' Z y bytes mx rt R n0 Q → ∀ T locs, Sd X' T locs k n → T.heap = h → ∃ T' L h' st', Sd X' T' (locs ++ L) k' n' ∧ T'.heap = h' ∧ Fr X'.n0 L ∧ h.size ≤ h'.size ∧ P h' st' ∧ ∀ t, Sp X' T' pc' ls' st' t → Sp X' T pc ls st t)
    (w : ∀ h' st', P h' st' → Wp X k' n' h' pc' ls' st') : Wp X k n h pc ls st := by
  intro T locs S e F
  obtain ⟨T', L, h', st', S', e', F', -, p, q⟩ := hs X rfl C T locs S e
  obtain ⟨s2, v, L2, a, r⟩ := w h' st' p T' _ S' e' (Fr.app F F')
  exact ⟨s2, v, L2, q _ a, r⟩
/-- what is left is known of the heap: n0 ≤ its size -/
theorem Wp.size (C : Hand X Z y bytes mx rt R n0 Q) (w : n0 ≤ h.size → Wp X k n h pc ls st) : Wp X k n h pc ls st := fun T locs S e F => w (C.sz S e) T locs S e F
theorem Wp.more {k' n' : Nat} (w : Wp X k' n' h pc ls st) (hk : k ≤ k') (hn : n ≤ n') : Wp X k n h pc ls st := fun T locs S e F => w T locs (S.more hk hn) e F
theorem w_done (C : Hand X Z y bytes mx rt R n0 Q) {v : Option Value} (hv : rt = none → v = none) (hk : k ≤ R.cells) (hn : n ≤ R.slots) (q : Q v h)
    (hs : ∀ X' : Cx, Hand X' Z y bytes mx rt R n0 Q → ∀ T locs (fs : List Frame), Sd X' T locs k n → (∀ (f : JFrame) (acts : List Action), f.method = X'.m → f.locked = none → f.entered = [] → (doReturn X'.e (T.setTop f) acts v).1 = T.setFrames fs) → Sp X' T pc ls st (T.setFrames fs)) : Wp X k n h pc ls st := by
  intro T locs S e F
  obtain ⟨fs, hr, hrun, hended, hW, hsame⟩ := S.leave (v := v) (fun z => hv (C.2.2.2.2.2.1 ▸ z)) C.2.2.2.2.2.2.1
  refine ⟨_, v, locs, hs X C T locs fs S hr, hrun, hended, ?_, F, hW, hsame.mono (by rw [C.2.2.2.2.2.2.2.1]; exact hk) (by rw [C.2.2.2.2.2.2.2.1]; exact hn)⟩
  show X.Q v T.heap
  rw [C.2.2.2.2.2.2.2.2.2.2.2, e]; exact q
end OwnNarrow

section OwnLaws
variable {X : Cx} {Z : State} {y : MethodName} {bytes : ByteArray} {mx : Nat} {rt : Option FieldType} {R : Room} {n0 : Nat} {Q : Option Value → Heap → Prop} {a0 : Array Value} {k n : Nat} {h : Heap} {pc pc' : Nat} {ls ls' : Array Slot} {st st' : List Value}
theorem w_iload (C : Hand X Z y bytes mx rt R n0 Q) {j : Nat} {v : Int32} (hd : decode bytes pc = .ok (.iload j, 2)) (hl : ls[j]? = some (.val (.int v))) (hp : pc + 2 = pc') (w : Wp X k n h pc' ls (.int v :: st)) : Wp X k n h pc ls (st) := by
  subst hp; exact Wp.go C (fun X hX C T locs S e t q => XS.iload S.here C.1 rfl (hb C.2.2.2.1 hd) hl q) w
theorem w_iloadN (C : Hand X Z y bytes mx rt R n0 Q) {j : Fin 4} {v : Int32} (hd : decode bytes pc = .ok (.iload_n j, 1)) (hl : ls[j.val]? = some (.val (.int v))) (hp : pc + 1 = pc') (w : Wp X k n h pc' ls (.int v :: st)) : Wp X k n h pc ls (st) := by
  subst hp; exact Wp.go C (fun X hX C T locs S e t q => XS.iloadN S.here C.1 rfl (hb C.2.2.2.1 hd) hl q) w
theorem w_lload (C : Hand X Z y bytes mx rt R n0 Q) {j : Nat} {v : Int64} (hd : decode bytes pc = .ok (.lload j, 2)) (hl : ls[j]? = some (.val (.long v))) (hp : pc + 2 = pc') (w : Wp X k n h pc' ls (.long v :: st)) : Wp X k n h pc ls (st) := by
  subst hp; exact Wp.go C (fun X hX C T locs S e t q => XS.lload S.here C.1 rfl (hb C.2.2.2.1 hd) hl q) w
theorem w_lloadN (C : Hand X Z y bytes mx rt R n0 Q) {j : Fin 4} {v : Int64} (hd : decode bytes pc = .ok (.lload_n j, 1)) (hl : ls[j.val]? = some (.val (.long v))) (hp : pc + 1 = pc') (w : Wp X k n h pc' ls (.long v :: st)) : Wp X k n h pc ls (st) := by
  subst hp; exact Wp.go C (fun X hX C T locs S e t q => XS.lloadN S.here C.1 rfl (hb C.2.2.2.1 hd) hl q) w
theorem w_aload (C : Hand X Z y bytes mx rt R n0 Q) {j : Nat} {v : Value} (hd : decode bytes pc = .ok (.aload j, 2)) (hl : ls[j]? = some (.val v)) (hv : v.isRef = true) (hp : pc + 2 = pc') (w : Wp X k n h pc' ls (v :: st)) : Wp X k n h pc ls (st) := by
  subst hp; exact Wp.go C (fun X hX C T locs S e t q => XS.aload S.here C.1 rfl (hb C.2.2.2.1 hd) hl hv q) w
theorem w_aloadN (C : Hand X Z y bytes mx rt R n0 Q) {j : Fin 4} {v : Value} (hd : decode bytes pc = .ok (.aload_n j, 1)) (hl : ls[j.val]? = some (.val v)) (hv : v.isRef = true) (hp : pc + 1 = pc') (w : Wp X k n h pc' ls (v :: st)) : Wp X k n h pc ls (st) := by
  subst hp; exact Wp.go C (fun X hX C T locs S e t q => XS.aloadN S.here C.1 rfl (hb C.2.2.2.1 hd) hl hv q) w
theorem w_iconst (C : Hand X Z y bytes mx rt R n0 Q) {i : Int} {z : Int32} (hd : decode bytes pc = .ok (.iconst i, 1)) (hz : Int32.ofInt i = z) (hp : pc + 1 = pc') (w : Wp X k n h pc' ls (.int z :: st)) : Wp X k n h pc ls st := by
  subst hp hz; exact Wp.go C (fun X hX C T locs S e t q => XS.iconst S.here C.1 rfl (hb C.2.2.2.1 hd) q) w
theorem w_bipush (C : Hand X Z y bytes mx rt R n0 Q) {i : Int} {z : Int32} (hd : decode bytes pc = .ok (.bipush i, 2)) (hz : (Int8.ofInt i).toInt32 = z) (hp : pc + 2 = pc') (w : Wp X k n h pc' ls (.int z :: st)) : Wp X k n h pc ls st := by
  subst hp hz; exact Wp.go C (fun X hX C T locs S e t q => XS.bipush S.here C.1 rfl (hb C.2.2.2.1 hd) q) w
theorem w_sipush (C : Hand X Z y bytes mx rt R n0 Q) {i : Int} {z : Int32} (hd : decode bytes pc = .ok (.sipush i, 3)) (hz : (Int16.ofInt i).toInt32 = z) (hp : pc + 3 = pc') (w : Wp X k n h pc' ls (.int z :: st)) : Wp X k n h pc ls st := by
  subst hp hz; exact Wp.go C (fun X hX C T locs S e t q => XS.sipush S.here C.1 rfl (hb C.2.2.2.1 hd) q) w
theorem w_lconst (C : Hand X Z y bytes mx rt R n0 Q) {i : Fin 2} {z : Int64} (hd : decode bytes pc = .ok (.lconst i, 1)) (hz : Int64.ofNat i.val = z) (hp : pc + 1 = pc') (w : Wp X k n h pc' ls (.long z :: st)) : Wp X k n h pc ls st := by
  subst hp hz; exact Wp.go C (fun X hX C T locs S e t q => XS.lconst S.here C.1 rfl (hb C.2.2.2.1 hd) q) w
theorem w_anull (C : Hand X Z y bytes mx rt R n0 Q) (hd : decode bytes pc = .ok (.aconst_null, 1)) (hp : pc + 1 = pc') (w : Wp X k n h pc' ls (.null :: st)) : Wp X k n h pc ls (st) := by
  subst hp; exact Wp.go C (fun X hX C T locs S e t q => XS.aconstNull S.here C.1 rfl (hb C.2.2.2.1 hd) q) w
theorem w_ldc (C : Hand X Z y bytes mx rt R n0 Q) {i : Nat} {z : Int32} (hw : (Jvm.Cond.constant y.cls i z).before a0 Z = true) (hd : decode bytes pc = .ok (.ldc i, 2)) (hp : pc + 2 = pc') (w : Wp X k n h pc' ls (.int z :: st)) : Wp X k n h pc ls st := by
  subst hp; exact Wp.go C (fun X hX C T locs S e t q => S.ldcInt C.1 C.2.2.1 (mvT C.2.1 hw) (g := mkF X.m pc ls st) rfl (hb C.2.2.2.1 hd) t q) w
theorem w_ldc2 (C : Hand X Z y bytes mx rt R n0 Q) {i : Nat} {z : Int64} (hw : (Jvm.Cond.constantLong y.cls i z).before a0 Z = true) (hd : decode bytes pc = .ok (.ldc2_w i, 3)) (hp : pc + 3 = pc') (w : Wp X k n h pc' ls (.long z :: st)) : Wp X k n h pc ls st := by
  subst hp; exact Wp.go C (fun X hX C T locs S e t q => S.ldc2Long C.1 C.2.2.1 (mvT C.2.1 hw) (g := mkF X.m pc ls st) rfl (hb C.2.2.2.1 hd) t q) w
theorem w_istore (C : Hand X Z y bytes mx rt R n0 Q) {j : Nat} {x : Int32} (hd : decode bytes pc = .ok (.istore j, 2)) (hl : storeLocals ls j (.int x) = some ls') (hp : pc + 2 = pc') (w : Wp X k n h pc' ls' st) : Wp X k n h pc ls (.int x :: st) := by
  subst hp; exact Wp.go C (fun X hX C T locs S e t q => XS.istore S.here C.1 rfl (hb C.2.2.2.1 hd) rfl hl q) w
theorem w_istoreN (C : Hand X Z y bytes mx rt R n0 Q) {j : Fin 4} {x : Int32} (hd : decode bytes pc = .ok (.istore_n j, 1)) (hl : storeLocals ls j.val (.int x) = some ls') (hp : pc + 1 = pc') (w : Wp X k n h pc' ls' st) : Wp X k n h pc ls (.int x :: st) := by
  subst hp; exact Wp.go C (fun X hX C T locs S e t q => XS.istoreN S.here C.1 rfl (hb C.2.2.2.1 hd) rfl hl q) w
theorem w_lstore (C : Hand X Z y bytes mx rt R n0 Q) {j : Nat} {x : Int64} (hd : decode bytes pc = .ok (.lstore j, 2)) (hl : storeLocals ls j (.long x) = some ls') (hp : pc + 2 = pc') (w : Wp X k n h pc' ls' st) : Wp X k n h pc ls (.long x :: st) := by
  subst hp; exact Wp.go C (fun X hX C T locs S e t q => XS.lstore S.here C.1 rfl (hb C.2.2.2.1 hd) rfl hl q) w
theorem w_lstoreN (C : Hand X Z y bytes mx rt R n0 Q) {j : Fin 4} {x : Int64} (hd : decode bytes pc = .ok (.lstore_n j, 1)) (hl : storeLocals ls j.val (.long x) = some ls') (hp : pc + 1 = pc') (w : Wp X k n h pc' ls' st) : Wp X k n h pc ls (.long x :: st) := by
  subst hp; exact Wp.go C (fun X hX C T locs S e t q => XS.lstoreN S.here C.1 rfl (hb C.2.2.2.1 hd) rfl hl q) w
theorem w_astore (C : Hand X Z y bytes mx rt R n0 Q) {j : Nat} {x : Value} (hd : decode bytes pc = .ok (.astore j, 2)) (hv : x.isRef = true) (hl : storeLocals ls j (x) = some ls') (hp : pc + 2 = pc') (w : Wp X k n h pc' ls' st) : Wp X k n h pc ls (x :: st) := by
  subst hp; exact Wp.go C (fun X hX C T locs S e t q => XS.astore S.here C.1 rfl (hb C.2.2.2.1 hd) rfl hv hl q) w
theorem w_astoreN (C : Hand X Z y bytes mx rt R n0 Q) {j : Fin 4} {x : Value} (hd : decode bytes pc = .ok (.astore_n j, 1)) (hv : x.isRef = true) (hl : storeLocals ls j.val (x) = some ls') (hp : pc + 1 = pc') (w : Wp X k n h pc' ls' st) : Wp X k n h pc ls (x :: st) := by
  subst hp; exact Wp.go C (fun X hX C T locs S e t q => XS.astoreN S.here C.1 rfl (hb C.2.2.2.1 hd) rfl hv hl q) w
theorem w_iinc (C : Hand X Z y bytes mx rt R n0 Q) {j : Nat} {cst : Int} {x z : Int32} (hd : decode bytes pc = .ok (.iinc j cst, 3)) (hl : ls[j]? = some (.val (.int x))) (hz : Int32.ofInt cst = z) (hl' : storeLocals ls j (.int (x + z)) = some ls') (hp : pc + 3 = pc') (w : Wp X k n h pc' ls' st) : Wp X k n h pc ls st := by
  subst hp hz; exact Wp.go C (fun X hX C T locs S e t q => XS.iinc S.here C.1 rfl (hb C.2.2.2.1 hd) hl hl' q) w
theorem w_dup (C : Hand X Z y bytes mx rt R n0 Q) {x : Value} (hd : decode bytes pc = .ok (.dup, 1)) (hc : x.category = 1) (hp : pc + 1 = pc') (w : Wp X k n h pc' ls (x :: x :: st)) : Wp X k n h pc ls (x :: st) := by
  subst hp; exact Wp.go C (fun X hX C T locs S e t q => XS.dup S.here C.1 rfl (hb C.2.2.2.1 hd) rfl hc q) w
theorem w_dup2 (C : Hand X Z y bytes mx rt R n0 Q) {x z : Value} (hd : decode bytes pc = .ok (.dup2, 1)) (hc : x.category = 1) (hc' : z.category = 1) (hp : pc + 1 = pc') (w : Wp X k n h pc' ls (x :: z :: x :: z :: st)) : Wp X k n h pc ls (x :: z :: st) := by
  subst hp; exact Wp.go C (fun X hX C T locs S e t q => XT.dup2 S.here C.1 rfl (hb C.2.2.2.1 hd) rfl hc hc' q) w
theorem w_dupX1 (C : Hand X Z y bytes mx rt R n0 Q) {x z : Value} (hd : decode bytes pc = .ok (.dup_x1, 1)) (hc : x.category = 1) (hc' : z.category = 1) (hp : pc + 1 = pc') (w : Wp X k n h pc' ls (x :: z :: x :: st)) : Wp X k n h pc ls (x :: z :: st) := by
  subst hp; exact Wp.go C (fun X hX C T locs S e t q => XS.dupX1 S.here C.1 rfl (hb C.2.2.2.1 hd) rfl hc hc' q) w
theorem w_dup2L (C : Hand X Z y bytes mx rt R n0 Q) {x : Int64} (hd : decode bytes pc = .ok (.dup2, 1)) (hp : pc + 1 = pc') (w : Wp X k n h pc' ls (.long x :: .long x :: st)) : Wp X k n h pc ls (.long x :: st) := by
  subst hp; exact Wp.go C (fun X hX C T locs S e t q => XT.dup2L S.here C.1 rfl (hb C.2.2.2.1 hd) rfl q) w
theorem w_pop2L (C : Hand X Z y bytes mx rt R n0 Q) {x : Int64} (hd : decode bytes pc = .ok (.pop2, 1)) (hp : pc + 1 = pc') (w : Wp X k n h pc' ls (st)) : Wp X k n h pc ls (.long x :: st) := by
  subst hp; exact Wp.go C (fun X hX C T locs S e t q => own_pop2L S.here C.1 rfl (hb C.2.2.2.1 hd) rfl q) w
theorem w_pop (C : Hand X Z y bytes mx rt R n0 Q) {x : Value} (hd : decode bytes pc = .ok (.pop, 1)) (hc : x.category = 1) (hp : pc + 1 = pc') (w : Wp X k n h pc' ls (st)) : Wp X k n h pc ls (x :: st) := by
  subst hp; exact Wp.go C (fun X hX C T locs S e t q => XS.pop S.here C.1 rfl (hb C.2.2.2.1 hd) rfl hc q) w
theorem w_iadd (C : Hand X Z y bytes mx rt R n0 Q) {x z : Int32} (hd : decode bytes pc = .ok (.iadd, 1)) (hp : pc + 1 = pc') (w : Wp X k n h pc' ls (.int (x + z) :: st)) : Wp X k n h pc ls (.int z :: .int x :: st) := by
  subst hp; exact Wp.go C (fun X hX C T locs S e t q => XS.iadd S.here C.1 rfl (hb C.2.2.2.1 hd) rfl q) w
theorem w_isub (C : Hand X Z y bytes mx rt R n0 Q) {x z : Int32} (hd : decode bytes pc = .ok (.isub, 1)) (hp : pc + 1 = pc') (w : Wp X k n h pc' ls (.int (x - z) :: st)) : Wp X k n h pc ls (.int z :: .int x :: st) := by
  subst hp; exact Wp.go C (fun X hX C T locs S e t q => XS.isub S.here C.1 rfl (hb C.2.2.2.1 hd) rfl q) w
theorem w_imul (C : Hand X Z y bytes mx rt R n0 Q) {x z : Int32} (hd : decode bytes pc = .ok (.imul, 1)) (hp : pc + 1 = pc') (w : Wp X k n h pc' ls (.int (x * z) :: st)) : Wp X k n h pc ls (.int z :: .int x :: st) := by
  subst hp; exact Wp.go C (fun X hX C T locs S e t q => XS.imul S.here C.1 rfl (hb C.2.2.2.1 hd) rfl q) w
theorem w_iand (C : Hand X Z y bytes mx rt R n0 Q) {x z : Int32} (hd : decode bytes pc = .ok (.iand, 1)) (hp : pc + 1 = pc') (w : Wp X k n h pc' ls (.int (x &&& z) :: st)) : Wp X k n h pc ls (.int z :: .int x :: st) := by
  subst hp; exact Wp.go C (fun X hX C T locs S e t q => XS.iand S.here C.1 rfl (hb C.2.2.2.1 hd) rfl q) w
theorem w_ior (C : Hand X Z y bytes mx rt R n0 Q) {x z : Int32} (hd : decode bytes pc = .ok (.ior, 1)) (hp : pc + 1 = pc') (w : Wp X k n h pc' ls (.int (x ||| z) :: st)) : Wp X k n h pc ls (.int z :: .int x :: st) := by
  subst hp; exact Wp.go C (fun X hX C T locs S e t q => XS.ior S.here C.1 rfl (hb C.2.2.2.1 hd) rfl q) w
theorem w_ixor (C : Hand X Z y bytes mx rt R n0 Q) {x z : Int32} (hd : decode bytes pc = .ok (.ixor, 1)) (hp : pc + 1 = pc') (w : Wp X k n h pc' ls (.int (x ^^^ z) :: st)) : Wp X k n h pc ls (.int z :: .int x :: st) := by
  subst hp; exact Wp.go C (fun X hX C T locs S e t q => XS.ixor S.here C.1 rfl (hb C.2.2.2.1 hd) rfl q) w
theorem w_ishl (C : Hand X Z y bytes mx rt R n0 Q) {x z : Int32} (hd : decode bytes pc = .ok (.ishl, 1)) (hp : pc + 1 = pc') (w : Wp X k n h pc' ls (.int (x <<< (z &&& 31)) :: st)) : Wp X k n h pc ls (.int z :: .int x :: st) := by
  subst hp; exact Wp.go C (fun X hX C T locs S e t q => XS.ishl S.here C.1 rfl (hb C.2.2.2.1 hd) rfl q) w
theorem w_ishr (C : Hand X Z y bytes mx rt R n0 Q) {x z : Int32} (hd : decode bytes pc = .ok (.ishr, 1)) (hp : pc + 1 = pc') (w : Wp X k n h pc' ls (.int (x >>> (z &&& 31)) :: st)) : Wp X k n h pc ls (.int z :: .int x :: st) := by
  subst hp; exact Wp.go C (fun X hX C T locs S e t q => XS.ishr S.here C.1 rfl (hb C.2.2.2.1 hd) rfl q) w
theorem w_iushr (C : Hand X Z y bytes mx rt R n0 Q) {x z : Int32} (hd : decode bytes pc = .ok (.iushr, 1)) (hp : pc + 1 = pc') (w : Wp X k n h pc' ls (.int ((x.toUInt32 >>> (z &&& 31).toUInt32).toInt32) :: st)) : Wp X k n h pc ls (.int z :: .int x :: st) := by
  subst hp; exact Wp.go C (fun X hX C T locs S e t q => XS.iushr S.here C.1 rfl (hb C.2.2.2.1 hd) rfl q) w
theorem w_ladd (C : Hand X Z y bytes mx rt R n0 Q) {x z : Int64} (hd : decode bytes pc = .ok (.ladd, 1)) (hp : pc + 1 = pc') (w : Wp X k n h pc' ls (.long (x + z) :: st)) : Wp X k n h pc ls (.long z :: .long x :: st) := by
  subst hp; exact Wp.go C (fun X hX C T locs S e t q => XS.ladd S.here C.1 rfl (hb C.2.2.2.1 hd) rfl q) w
theorem w_lsub (C : Hand X Z y bytes mx rt R n0 Q) {x z : Int64} (hd : decode bytes pc = .ok (.lsub, 1)) (hp : pc + 1 = pc') (w : Wp X k n h pc' ls (.long (x - z) :: st)) : Wp X k n h pc ls (.long z :: .long x :: st) := by
  subst hp; exact Wp.go C (fun X hX C T locs S e t q => XS.lsub S.here C.1 rfl (hb C.2.2.2.1 hd) rfl q) w
theorem w_lmul (C : Hand X Z y bytes mx rt R n0 Q) {x z : Int64} (hd : decode bytes pc = .ok (.lmul, 1)) (hp : pc + 1 = pc') (w : Wp X k n h pc' ls (.long (x * z) :: st)) : Wp X k n h pc ls (.long z :: .long x :: st) := by
  subst hp; exact Wp.go C (fun X hX C T locs S e t q => XS.lmul S.here C.1 rfl (hb C.2.2.2.1 hd) rfl q) w
theorem w_land (C : Hand X Z y bytes mx rt R n0 Q) {x z : Int64} (hd : decode bytes pc = .ok (.land, 1)) (hp : pc + 1 = pc') (w : Wp X k n h pc' ls (.long (x &&& z) :: st)) : Wp X k n h pc ls (.long z :: .long x :: st) := by
  subst hp; exact Wp.go C (fun X hX C T locs S e t q => XS.land S.here C.1 rfl (hb C.2.2.2.1 hd) rfl q) w
theorem w_lor (C : Hand X Z y bytes mx rt R n0 Q) {x z : Int64} (hd : decode bytes pc = .ok (.lor, 1)) (hp : pc + 1 = pc') (w : Wp X k n h pc' ls (.long (x ||| z) :: st)) : Wp X k n h pc ls (.long z :: .long x :: st) := by
  subst hp; exact Wp.go C (fun X hX C T locs S e t q => XS.lor S.here C.1 rfl (hb C.2.2.2.1 hd) rfl q) w
theorem w_lxor (C : Hand X Z y bytes mx rt R n0 Q) {x z : Int64} (hd : decode bytes pc = .ok (.lxor, 1)) (hp : pc + 1 = pc') (w : Wp X k n h pc' ls (.long (x ^^^ z) :: st)) : Wp X k n h pc ls (.long z :: .long x :: st) := by
  subst hp; exact Wp.go C (fun X hX C T locs S e t q => XS.lxor S.here C.1 rfl (hb C.2.2.2.1 hd) rfl q) w
theorem w_lshl (C : Hand X Z y bytes mx rt R n0 Q) {x : Int64} {z : Int32} (hd : decode bytes pc = .ok (.lshl, 1)) (hp : pc + 1 = pc') (w : Wp X k n h pc' ls (.long (x <<< (z &&& 0x3f).toInt64) :: st)) : Wp X k n h pc ls (.int z :: .long x :: st) := by
  subst hp; exact Wp.go C (fun X hX C T locs S e t q => XS.lshl S.here C.1 rfl (hb C.2.2.2.1 hd) rfl q) w
theorem w_lshr (C : Hand X Z y bytes mx rt R n0 Q) {x : Int64} {z : Int32} (hd : decode bytes pc = .ok (.lshr, 1)) (hp : pc + 1 = pc') (w : Wp X k n h pc' ls (.long (x >>> (z &&& 0x3f).toInt64) :: st)) : Wp X k n h pc ls (.int z :: .long x :: st) := by
  subst hp; exact Wp.go C (fun X hX C T locs S e t q => XS.lshr S.here C.1 rfl (hb C.2.2.2.1 hd) rfl q) w
theorem w_lushr (C : Hand X Z y bytes mx rt R n0 Q) {x : Int64} {z : Int32} (hd : decode bytes pc = .ok (.lushr, 1)) (hp : pc + 1 = pc') (w : Wp X k n h pc' ls (.long ((x.toUInt64 >>> (z &&& 0x3f).toInt64.toUInt64).toInt64) :: st)) : Wp X k n h pc ls (.int z :: .long x :: st) := by
  subst hp; exact Wp.go C (fun X hX C T locs S e t q => XS.lushr S.here C.1 rfl (hb C.2.2.2.1 hd) rfl q) w
theorem w_idiv (C : Hand X Z y bytes mx rt R n0 Q) {x z : Int32} (hd : decode bytes pc = .ok (.idiv, 1)) (hz : z ≠ 0) (hp : pc + 1 = pc') (w : Wp X k n h pc' ls (.int (x / z) :: st)) : Wp X k n h pc ls (.int z :: .int x :: st) := by
  subst hp; exact Wp.go C (fun X hX C T locs S e t q => XS.idiv S.here C.1 rfl (hb C.2.2.2.1 hd) rfl hz q) w
theorem w_irem (C : Hand X Z y bytes mx rt R n0 Q) {x z : Int32} (hd : decode bytes pc = .ok (.irem, 1)) (hz : z ≠ 0) (hp : pc + 1 = pc') (w : Wp X k n h pc' ls (.int (x % z) :: st)) : Wp X k n h pc ls (.int z :: .int x :: st) := by
  subst hp; exact Wp.go C (fun X hX C T locs S e t q => iremM S C.1 rfl (hb C.2.2.2.1 hd) rfl hz q) w
theorem w_ineg (C : Hand X Z y bytes mx rt R n0 Q) {x : Int32} (hd : decode bytes pc = .ok (.ineg, 1)) (hp : pc + 1 = pc') (w : Wp X k n h pc' ls (.int (-x) :: st)) : Wp X k n h pc ls (.int x :: st) := by
  subst hp; exact Wp.go C (fun X hX C T locs S e t q => XS.ineg S.here C.1 rfl (hb C.2.2.2.1 hd) rfl q) w
theorem w_lneg (C : Hand X Z y bytes mx rt R n0 Q) {x : Int64} (hd : decode bytes pc = .ok (.lneg, 1)) (hp : pc + 1 = pc') (w : Wp X k n h pc' ls (.long (-x) :: st)) : Wp X k n h pc ls (.long x :: st) := by
  subst hp; exact Wp.go C (fun X hX C T locs S e t q => XS.lneg S.here C.1 rfl (hb C.2.2.2.1 hd) rfl q) w
theorem w_i2l (C : Hand X Z y bytes mx rt R n0 Q) {x : Int32} (hd : decode bytes pc = .ok (.i2l, 1)) (hp : pc + 1 = pc') (w : Wp X k n h pc' ls (.long x.toInt64 :: st)) : Wp X k n h pc ls (.int x :: st) := by
  subst hp; exact Wp.go C (fun X hX C T locs S e t q => XS.i2l S.here C.1 rfl (hb C.2.2.2.1 hd) rfl q) w
theorem w_l2i (C : Hand X Z y bytes mx rt R n0 Q) {x : Int64} (hd : decode bytes pc = .ok (.l2i, 1)) (hp : pc + 1 = pc') (w : Wp X k n h pc' ls (.int x.toInt32 :: st)) : Wp X k n h pc ls (.long x :: st) := by
  subst hp; exact Wp.go C (fun X hX C T locs S e t q => XS.l2i S.here C.1 rfl (hb C.2.2.2.1 hd) rfl q) w
theorem w_i2b (C : Hand X Z y bytes mx rt R n0 Q) {x : Int32} (hd : decode bytes pc = .ok (.i2b, 1)) (hp : pc + 1 = pc') (w : Wp X k n h pc' ls (.int x.toInt8.toInt32 :: st)) : Wp X k n h pc ls (.int x :: st) := by
  subst hp; exact Wp.go C (fun X hX C T locs S e t q => XS.i2b S.here C.1 rfl (hb C.2.2.2.1 hd) rfl q) w
theorem w_i2s (C : Hand X Z y bytes mx rt R n0 Q) {x : Int32} (hd : decode bytes pc = .ok (.i2s, 1)) (hp : pc + 1 = pc') (w : Wp X k n h pc' ls (.int x.toInt16.toInt32 :: st)) : Wp X k n h pc ls (.int x :: st) := by
  subst hp; exact Wp.go C (fun X hX C T locs S e t q => XS.i2s S.here C.1 rfl (hb C.2.2.2.1 hd) rfl q) w
theorem w_i2c (C : Hand X Z y bytes mx rt R n0 Q) {x : Int32} (hd : decode bytes pc = .ok (.i2c, 1)) (hp : pc + 1 = pc') (w : Wp X k n h pc' ls (.int x.toUInt32.toUInt16.toUInt32.toInt32 :: st)) : Wp X k n h pc ls (.int x :: st) := by
  subst hp; exact Wp.go C (fun X hX C T locs S e t q => XS.i2c S.here C.1 rfl (hb C.2.2.2.1 hd) rfl q) w
theorem w_lcmp (C : Hand X Z y bytes mx rt R n0 Q) {x z : Int64} (hd : decode bytes pc = .ok (.lcmp, 1)) (hp : pc + 1 = pc') (w : Wp X k n h pc' ls (.int (lcmpW x z) :: st)) : Wp X k n h pc ls (.long z :: .long x :: st) := by
  subst hp; exact Wp.go C (fun X hX C T locs S e t q => XS.lcmp S.here C.1 rfl (hb C.2.2.2.1 hd) rfl q) w
theorem w_goto (C : Hand X Z y bytes mx rt R n0 Q) {o : Int} (hd : decode bytes pc = .ok (.goto o, 3)) (ho : 0 ≤ (pc : Int) + o) (hp : ((pc : Int) + o).toNat = pc') (w : Wp X k n h pc' ls st) : Wp X k n h pc ls st := by
  exact Wp.go C (fun X hX C T locs S e t q => XS.goto S.here C.1 rfl (pc0 := pc) rfl (hb C.2.2.2.1 hd) ho hp q) w
theorem w_icmp_eq (C : Hand X Z y bytes mx rt R n0 Q) {o : Int} {x z : Int32} {pn : Nat} (hd : decode bytes pc = .ok (.if_icmp .eq o, 3)) (ho : 0 ≤ (pc : Int) + o) (hp : ((pc : Int) + o).toNat = pc') (hn : pc + 3 = pn) (wy : x = z → Wp X k n h pc' ls st) (wn : ¬ x = z → Wp X k n h pn ls st) : Wp X k n h pc ls (.int z :: .int x :: st) := by
  subst hn
  by_cases q : x = z
  · exact Wp.go C (fun X hX C T locs S e t r => XS.icmpYes S.here C.1 rfl (pc0 := pc) rfl (hb C.2.2.2.1 hd) rfl (teq q).1 ho hp r) (wy q)
  · exact Wp.go C (fun X hX C T locs S e t r => XS.icmpNo S.here C.1 rfl (hb C.2.2.2.1 hd) rfl (feq q).1 r) (wn (by first | exact q | exact Decidable.not_not.mp q))
theorem w_if_eq (C : Hand X Z y bytes mx rt R n0 Q) {o : Int} {x : Int32} {pn : Nat} (hd : decode bytes pc = .ok (.ifCond .eq o, 3)) (ho : 0 ≤ (pc : Int) + o) (hp : ((pc : Int) + o).toNat = pc') (hn : pc + 3 = pn) (wy : x = (0 : Int32) → Wp X k n h pc' ls st) (wn : ¬ x = (0 : Int32) → Wp X k n h pn ls st) : Wp X k n h pc ls (.int x :: st) := by
  subst hn
  by_cases q : x = (0 : Int32)
  · exact Wp.go C (fun X hX C T locs S e t r => XS.ifYes S.here C.1 rfl (pc0 := pc) rfl (hb C.2.2.2.1 hd) rfl ((if0 _ _).trans (teq q).1) ho hp r) (wy q)
  · exact Wp.go C (fun X hX C T locs S e t r => XS.ifNo S.here C.1 rfl (hb C.2.2.2.1 hd) rfl ((if0 _ _).trans (feq q).1) r) (wn (by first | exact q | exact Decidable.not_not.mp q))
theorem w_icmp_ne (C : Hand X Z y bytes mx rt R n0 Q) {o : Int} {x z : Int32} {pn : Nat} (hd : decode bytes pc = .ok (.if_icmp .ne o, 3)) (ho : 0 ≤ (pc : Int) + o) (hp : ((pc : Int) + o).toNat = pc') (hn : pc + 3 = pn) (wy : ¬ x = z → Wp X k n h pc' ls st) (wn : x = z → Wp X k n h pn ls st) : Wp X k n h pc ls (.int z :: .int x :: st) := by
  subst hn
  by_cases q : ¬ x = z
  · exact Wp.go C (fun X hX C T locs S e t r => XS.icmpYes S.here C.1 rfl (pc0 := pc) rfl (hb C.2.2.2.1 hd) rfl (feq q).2 ho hp r) (wy q)
  · exact Wp.go C (fun X hX C T locs S e t r => XS.icmpNo S.here C.1 rfl (hb C.2.2.2.1 hd) rfl (teq (Decidable.not_not.mp q)).2 r) (wn (by first | exact q | exact Decidable.not_not.mp q))
theorem w_if_ne (C : Hand X Z y bytes mx rt R n0 Q) {o : Int} {x : Int32} {pn : Nat} (hd : decode bytes pc = .ok (.ifCond .ne o, 3)) (ho : 0 ≤ (pc : Int) + o) (hp : ((pc : Int) + o).toNat = pc') (hn : pc + 3 = pn) (wy : ¬ x = (0 : Int32) → Wp X k n h pc' ls st) (wn : x = (0 : Int32) → Wp X k n h pn ls st) : Wp X k n h pc ls (.int x :: st) := by
  subst hn
  by_cases q : ¬ x = (0 : Int32)
  · exact Wp.go C (fun X hX C T locs S e t r => XS.ifYes S.here C.1 rfl (pc0 := pc) rfl (hb C.2.2.2.1 hd) rfl ((if0 _ _).trans (feq q).2) ho hp r) (wy q)
  · exact Wp.go C (fun X hX C T locs S e t r => XS.ifNo S.here C.1 rfl (hb C.2.2.2.1 hd) rfl ((if0 _ _).trans (teq (Decidable.not_not.mp q)).2) r) (wn (by first | exact q | exact Decidable.not_not.mp q))
theorem w_icmp_lt (C : Hand X Z y bytes mx rt R n0 Q) {o : Int} {x z : Int32} {pn : Nat} (hd : decode bytes pc = .ok (.if_icmp .lt o, 3)) (ho : 0 ≤ (pc : Int) + o) (hp : ((pc : Int) + o).toNat = pc') (hn : pc + 3 = pn) (wy : x < z → Wp X k n h pc' ls st) (wn : ¬ x < z → Wp X k n h pn ls st) : Wp X k n h pc ls (.int z :: .int x :: st) := by
  subst hn
  by_cases q : x < z
  · exact Wp.go C (fun X hX C T locs S e t r => XS.icmpYes S.here C.1 rfl (pc0 := pc) rfl (hb C.2.2.2.1 hd) rfl (tlt q).1 ho hp r) (wy q)
  · exact Wp.go C (fun X hX C T locs S e t r => XS.icmpNo S.here C.1 rfl (hb C.2.2.2.1 hd) rfl (flt q).1 r) (wn (by first | exact q | exact Decidable.not_not.mp q))
theorem w_if_lt (C : Hand X Z y bytes mx rt R n0 Q) {o : Int} {x : Int32} {pn : Nat} (hd : decode bytes pc = .ok (.ifCond .lt o, 3)) (ho : 0 ≤ (pc : Int) + o) (hp : ((pc : Int) + o).toNat = pc') (hn : pc + 3 = pn) (wy : x < (0 : Int32) → Wp X k n h pc' ls st) (wn : ¬ x < (0 : Int32) → Wp X k n h pn ls st) : Wp X k n h pc ls (.int x :: st) := by
  subst hn
  by_cases q : x < (0 : Int32)
  · exact Wp.go C (fun X hX C T locs S e t r => XS.ifYes S.here C.1 rfl (pc0 := pc) rfl (hb C.2.2.2.1 hd) rfl ((if0 _ _).trans (tlt q).1) ho hp r) (wy q)
  · exact Wp.go C (fun X hX C T locs S e t r => XS.ifNo S.here C.1 rfl (hb C.2.2.2.1 hd) rfl ((if0 _ _).trans (flt q).1) r) (wn (by first | exact q | exact Decidable.not_not.mp q))
theorem w_icmp_ge (C : Hand X Z y bytes mx rt R n0 Q) {o : Int} {x z : Int32} {pn : Nat} (hd : decode bytes pc = .ok (.if_icmp .ge o, 3)) (ho : 0 ≤ (pc : Int) + o) (hp : ((pc : Int) + o).toNat = pc') (hn : pc + 3 = pn) (wy : ¬ x < z → Wp X k n h pc' ls st) (wn : x < z → Wp X k n h pn ls st) : Wp X k n h pc ls (.int z :: .int x :: st) := by
  subst hn
  by_cases q : ¬ x < z
  · exact Wp.go C (fun X hX C T locs S e t r => XS.icmpYes S.here C.1 rfl (pc0 := pc) rfl (hb C.2.2.2.1 hd) rfl (flt q).2.1 ho hp r) (wy q)
  · exact Wp.go C (fun X hX C T locs S e t r => XS.icmpNo S.here C.1 rfl (hb C.2.2.2.1 hd) rfl (tlt (Decidable.not_not.mp q)).2.1 r) (wn (by first | exact q | exact Decidable.not_not.mp q))
theorem w_if_ge (C : Hand X Z y bytes mx rt R n0 Q) {o : Int} {x : Int32} {pn : Nat} (hd : decode bytes pc = .ok (.ifCond .ge o, 3)) (ho : 0 ≤ (pc : Int) + o) (hp : ((pc : Int) + o).toNat = pc') (hn : pc + 3 = pn) (wy : ¬ x < (0 : Int32) → Wp X k n h pc' ls st) (wn : x < (0 : Int32) → Wp X k n h pn ls st) : Wp X k n h pc ls (.int x :: st) := by
  subst hn
  by_cases q : ¬ x < (0 : Int32)
  · exact Wp.go C (fun X hX C T locs S e t r => XS.ifYes S.here C.1 rfl (pc0 := pc) rfl (hb C.2.2.2.1 hd) rfl ((if0 _ _).trans (flt q).2.1) ho hp r) (wy q)
  · exact Wp.go C (fun X hX C T locs S e t r => XS.ifNo S.here C.1 rfl (hb C.2.2.2.1 hd) rfl ((if0 _ _).trans (tlt (Decidable.not_not.mp q)).2.1) r) (wn (by first | exact q | exact Decidable.not_not.mp q))
theorem w_icmp_gt (C : Hand X Z y bytes mx rt R n0 Q) {o : Int} {x z : Int32} {pn : Nat} (hd : decode bytes pc = .ok (.if_icmp .gt o, 3)) (ho : 0 ≤ (pc : Int) + o) (hp : ((pc : Int) + o).toNat = pc') (hn : pc + 3 = pn) (wy : z < x → Wp X k n h pc' ls st) (wn : ¬ z < x → Wp X k n h pn ls st) : Wp X k n h pc ls (.int z :: .int x :: st) := by
  subst hn
  by_cases q : z < x
  · exact Wp.go C (fun X hX C T locs S e t r => XS.icmpYes S.here C.1 rfl (pc0 := pc) rfl (hb C.2.2.2.1 hd) rfl (tlt q).2.2.1 ho hp r) (wy q)
  · exact Wp.go C (fun X hX C T locs S e t r => XS.icmpNo S.here C.1 rfl (hb C.2.2.2.1 hd) rfl (flt q).2.2.1 r) (wn (by first | exact q | exact Decidable.not_not.mp q))
theorem w_if_gt (C : Hand X Z y bytes mx rt R n0 Q) {o : Int} {x : Int32} {pn : Nat} (hd : decode bytes pc = .ok (.ifCond .gt o, 3)) (ho : 0 ≤ (pc : Int) + o) (hp : ((pc : Int) + o).toNat = pc') (hn : pc + 3 = pn) (wy : (0 : Int32) < x → Wp X k n h pc' ls st) (wn : ¬ (0 : Int32) < x → Wp X k n h pn ls st) : Wp X k n h pc ls (.int x :: st) := by
  subst hn
  by_cases q : (0 : Int32) < x
  · exact Wp.go C (fun X hX C T locs S e t r => XS.ifYes S.here C.1 rfl (pc0 := pc) rfl (hb C.2.2.2.1 hd) rfl ((if0 _ _).trans (tlt q).2.2.1) ho hp r) (wy q)
  · exact Wp.go C (fun X hX C T locs S e t r => XS.ifNo S.here C.1 rfl (hb C.2.2.2.1 hd) rfl ((if0 _ _).trans (flt q).2.2.1) r) (wn (by first | exact q | exact Decidable.not_not.mp q))
theorem w_icmp_le (C : Hand X Z y bytes mx rt R n0 Q) {o : Int} {x z : Int32} {pn : Nat} (hd : decode bytes pc = .ok (.if_icmp .le o, 3)) (ho : 0 ≤ (pc : Int) + o) (hp : ((pc : Int) + o).toNat = pc') (hn : pc + 3 = pn) (wy : ¬ z < x → Wp X k n h pc' ls st) (wn : z < x → Wp X k n h pn ls st) : Wp X k n h pc ls (.int z :: .int x :: st) := by
  subst hn
  by_cases q : ¬ z < x
  · exact Wp.go C (fun X hX C T locs S e t r => XS.icmpYes S.here C.1 rfl (pc0 := pc) rfl (hb C.2.2.2.1 hd) rfl (flt q).2.2.2 ho hp r) (wy q)
  · exact Wp.go C (fun X hX C T locs S e t r => XS.icmpNo S.here C.1 rfl (hb C.2.2.2.1 hd) rfl (tlt (Decidable.not_not.mp q)).2.2.2 r) (wn (by first | exact q | exact Decidable.not_not.mp q))
theorem w_if_le (C : Hand X Z y bytes mx rt R n0 Q) {o : Int} {x : Int32} {pn : Nat} (hd : decode bytes pc = .ok (.ifCond .le o, 3)) (ho : 0 ≤ (pc : Int) + o) (hp : ((pc : Int) + o).toNat = pc') (hn : pc + 3 = pn) (wy : ¬ (0 : Int32) < x → Wp X k n h pc' ls st) (wn : (0 : Int32) < x → Wp X k n h pn ls st) : Wp X k n h pc ls (.int x :: st) := by
  subst hn
  by_cases q : ¬ (0 : Int32) < x
  · exact Wp.go C (fun X hX C T locs S e t r => XS.ifYes S.here C.1 rfl (pc0 := pc) rfl (hb C.2.2.2.1 hd) rfl ((if0 _ _).trans (flt q).2.2.2) ho hp r) (wy q)
  · exact Wp.go C (fun X hX C T locs S e t r => XS.ifNo S.here C.1 rfl (hb C.2.2.2.1 hd) rfl ((if0 _ _).trans (tlt (Decidable.not_not.mp q)).2.2.2) r) (wn (by first | exact q | exact Decidable.not_not.mp q))
theorem w_lc_eq (C : Hand X Z y bytes mx rt R n0 Q) {o : Int} {x z : Int64} {pm pn : Nat} (hd0 : decode bytes pc = .ok (.lcmp, 1)) (h0 : pc + 1 = pm) (hd : decode bytes pm = .ok (.ifCond .eq o, 3)) (ho : 0 ≤ (pm : Int) + o) (hp : ((pm : Int) + o).toNat = pc') (hn : pm + 3 = pn) (wy : x = z → Wp X k n h pc' ls st) (wn : ¬ x = z → Wp X k n h pn ls st) : Wp X k n h pc ls (.long z :: .long x :: st) :=
  w_lcmp C hd0 h0 (w_if_eq C hd ho hp hn (fun q => wy ((lw_eq x z).mp q)) (fun q => wn ((not_congr (lw_eq x z)).mp q)))
theorem w_lc_ne (C : Hand X Z y bytes mx rt R n0 Q) {o : Int} {x z : Int64} {pm pn : Nat} (hd0 : decode bytes pc = .ok (.lcmp, 1)) (h0 : pc + 1 = pm) (hd : decode bytes pm = .ok (.ifCond .ne o, 3)) (ho : 0 ≤ (pm : Int) + o) (hp : ((pm : Int) + o).toNat = pc') (hn : pm + 3 = pn) (wy : ¬ x = z → Wp X k n h pc' ls st) (wn : x = z → Wp X k n h pn ls st) : Wp X k n h pc ls (.long z :: .long x :: st) :=
  w_lcmp C hd0 h0 (w_if_ne C hd ho hp hn (fun q => wy ((not_congr (lw_eq x z)).mp q)) (fun q => wn ((lw_eq x z).mp q)))
theorem w_lc_lt (C : Hand X Z y bytes mx rt R n0 Q) {o : Int} {x z : Int64} {pm pn : Nat} (hd0 : decode bytes pc = .ok (.lcmp, 1)) (h0 : pc + 1 = pm) (hd : decode bytes pm = .ok (.ifCond .lt o, 3)) (ho : 0 ≤ (pm : Int) + o) (hp : ((pm : Int) + o).toNat = pc') (hn : pm + 3 = pn) (wy : x < z → Wp X k n h pc' ls st) (wn : ¬ x < z → Wp X k n h pn ls st) : Wp X k n h pc ls (.long z :: .long x :: st) :=
  w_lcmp C hd0 h0 (w_if_lt C hd ho hp hn (fun q => wy ((lw_lt x z).mp q)) (fun q => wn ((not_congr (lw_lt x z)).mp q)))
theorem w_lc_ge (C : Hand X Z y bytes mx rt R n0 Q) {o : Int} {x z : Int64} {pm pn : Nat} (hd0 : decode bytes pc = .ok (.lcmp, 1)) (h0 : pc + 1 = pm) (hd : decode bytes pm = .ok (.ifCond .ge o, 3)) (ho : 0 ≤ (pm : Int) + o) (hp : ((pm : Int) + o).toNat = pc') (hn : pm + 3 = pn) (wy : ¬ x < z → Wp X k n h pc' ls st) (wn : x < z → Wp X k n h pn ls st) : Wp X k n h pc ls (.long z :: .long x :: st) :=
  w_lcmp C hd0 h0 (w_if_ge C hd ho hp hn (fun q => wy ((not_congr (lw_lt x z)).mp q)) (fun q => wn ((lw_lt x z).mp q)))
theorem w_lc_gt (C : Hand X Z y bytes mx rt R n0 Q) {o : Int} {x z : Int64} {pm pn : Nat} (hd0 : decode bytes pc = .ok (.lcmp, 1)) (h0 : pc + 1 = pm) (hd : decode bytes pm = .ok (.ifCond .gt o, 3)) (ho : 0 ≤ (pm : Int) + o) (hp : ((pm : Int) + o).toNat = pc') (hn : pm + 3 = pn) (wy : z < x → Wp X k n h pc' ls st) (wn : ¬ z < x → Wp X k n h pn ls st) : Wp X k n h pc ls (.long z :: .long x :: st) :=
  w_lcmp C hd0 h0 (w_if_gt C hd ho hp hn (fun q => wy ((lw_gt x z).mp q)) (fun q => wn ((not_congr (lw_gt x z)).mp q)))
theorem w_lc_le (C : Hand X Z y bytes mx rt R n0 Q) {o : Int} {x z : Int64} {pm pn : Nat} (hd0 : decode bytes pc = .ok (.lcmp, 1)) (h0 : pc + 1 = pm) (hd : decode bytes pm = .ok (.ifCond .le o, 3)) (ho : 0 ≤ (pm : Int) + o) (hp : ((pm : Int) + o).toNat = pc') (hn : pm + 3 = pn) (wy : ¬ z < x → Wp X k n h pc' ls st) (wn : z < x → Wp X k n h pn ls st) : Wp X k n h pc ls (.long z :: .long x :: st) :=
  w_lcmp C hd0 h0 (w_if_le C hd ho hp hn (fun q => wy ((not_congr (lw_gt x z)).mp q)) (fun q => wn ((lw_gt x z).mp q)))
theorem w_jcmp_eq (C : Hand X Z y bytes mx rt R n0 Q) {o : Int} {x z : Int32} {pn : Nat} (hd : decode bytes pc = .ok (.if_icmp .eq o, 3)) (ho : 0 ≤ (pc : Int) + o) (hp : ((pc : Int) + o).toNat = pc') (hn : pc + 3 = pn) (wy : x.toInt = z.toInt → Wp X k n h pc' ls st) (wn : ¬ x.toInt = z.toInt → Wp X k n h pn ls st) : Wp X k n h pc ls (.int z :: .int x :: st) :=
  w_icmp_eq C hd ho hp hn (fun q => wy (Int32.toInt_inj.mpr q)) (fun q => wn (fun r => q (Int32.toInt_inj.mp r)))
theorem w_jf_eq (C : Hand X Z y bytes mx rt R n0 Q) {o : Int} {x : Int32} {pn : Nat} (hd : decode bytes pc = .ok (.ifCond .eq o, 3)) (ho : 0 ≤ (pc : Int) + o) (hp : ((pc : Int) + o).toNat = pc') (hn : pc + 3 = pn) (wy : x.toInt = 0 → Wp X k n h pc' ls st) (wn : ¬ x.toInt = 0 → Wp X k n h pn ls st) : Wp X k n h pc ls (.int x :: st) :=
  w_if_eq C hd ho hp hn (fun q => wy (Int32.toInt_inj.mpr q)) (fun q => wn (fun r => q (Int32.toInt_inj.mp r)))
theorem w_jc_eq (C : Hand X Z y bytes mx rt R n0 Q) {o : Int} {x z : Int64} {pm pn : Nat} (hd0 : decode bytes pc = .ok (.lcmp, 1)) (h0 : pc + 1 = pm) (hd : decode bytes pm = .ok (.ifCond .eq o, 3)) (ho : 0 ≤ (pm : Int) + o) (hp : ((pm : Int) + o).toNat = pc') (hn : pm + 3 = pn) (wy : x.toInt = z.toInt → Wp X k n h pc' ls st) (wn : ¬ x.toInt = z.toInt → Wp X k n h pn ls st) : Wp X k n h pc ls (.long z :: .long x :: st) :=
  w_lc_eq C hd0 h0 hd ho hp hn (fun q => wy (Int64.toInt_inj.mpr q)) (fun q => wn (fun r => q (Int64.toInt_inj.mp r)))
theorem w_jcmp_ne (C : Hand X Z y bytes mx rt R n0 Q) {o : Int} {x z : Int32} {pn : Nat} (hd : decode bytes pc = .ok (.if_icmp .ne o, 3)) (ho : 0 ≤ (pc : Int) + o) (hp : ((pc : Int) + o).toNat = pc') (hn : pc + 3 = pn) (wy : ¬ x.toInt = z.toInt → Wp X k n h pc' ls st) (wn : x.toInt = z.toInt → Wp X k n h pn ls st) : Wp X k n h pc ls (.int z :: .int x :: st) :=
  w_icmp_ne C hd ho hp hn (fun q => wy (fun r => q (Int32.toInt_inj.mp r))) (fun q => wn (Int32.toInt_inj.mpr q))
theorem w_jf_ne (C : Hand X Z y bytes mx rt R n0 Q) {o : Int} {x : Int32} {pn : Nat} (hd : decode bytes pc = .ok (.ifCond .ne o, 3)) (ho : 0 ≤ (pc : Int) + o) (hp : ((pc : Int) + o).toNat = pc') (hn : pc + 3 = pn) (wy : ¬ x.toInt = 0 → Wp X k n h pc' ls st) (wn : x.toInt = 0 → Wp X k n h pn ls st) : Wp X k n h pc ls (.int x :: st) :=
  w_if_ne C hd ho hp hn (fun q => wy (fun r => q (Int32.toInt_inj.mp r))) (fun q => wn (Int32.toInt_inj.mpr q))
theorem w_jc_ne (C : Hand X Z y bytes mx rt R n0 Q) {o : Int} {x z : Int64} {pm pn : Nat} (hd0 : decode bytes pc = .ok (.lcmp, 1)) (h0 : pc + 1 = pm) (hd : decode bytes pm = .ok (.ifCond .ne o, 3)) (ho : 0 ≤ (pm : Int) + o) (hp : ((pm : Int) + o).toNat = pc') (hn : pm + 3 = pn) (wy : ¬ x.toInt = z.toInt → Wp X k n h pc' ls st) (wn : x.toInt = z.toInt → Wp X k n h pn ls st) : Wp X k n h pc ls (.long z :: .long x :: st) :=
  w_lc_ne C hd0 h0 hd ho hp hn (fun q => wy (fun r => q (Int64.toInt_inj.mp r))) (fun q => wn (Int64.toInt_inj.mpr q))
theorem w_jcmp_lt (C : Hand X Z y bytes mx rt R n0 Q) {o : Int} {x z : Int32} {pn : Nat} (hd : decode bytes pc = .ok (.if_icmp .lt o, 3)) (ho : 0 ≤ (pc : Int) + o) (hp : ((pc : Int) + o).toNat = pc') (hn : pc + 3 = pn) (wy : x.toInt < z.toInt → Wp X k n h pc' ls st) (wn : z.toInt ≤ x.toInt → Wp X k n h pn ls st) : Wp X k n h pc ls (.int z :: .int x :: st) :=
  w_icmp_lt C hd ho hp hn (fun q => wy (Int32.lt_iff_toInt_lt.mp q)) (fun q => wn (Int.not_lt.mp (fun r => q (Int32.lt_iff_toInt_lt.mpr r))))
theorem w_jf_lt (C : Hand X Z y bytes mx rt R n0 Q) {o : Int} {x : Int32} {pn : Nat} (hd : decode bytes pc = .ok (.ifCond .lt o, 3)) (ho : 0 ≤ (pc : Int) + o) (hp : ((pc : Int) + o).toNat = pc') (hn : pc + 3 = pn) (wy : x.toInt < 0 → Wp X k n h pc' ls st) (wn : 0 ≤ x.toInt → Wp X k n h pn ls st) : Wp X k n h pc ls (.int x :: st) :=
  w_if_lt C hd ho hp hn (fun q => wy (Int32.lt_iff_toInt_lt.mp q)) (fun q => wn (Int.not_lt.mp (fun r => q (Int32.lt_iff_toInt_lt.mpr r))))
theorem w_jc_lt (C : Hand X Z y bytes mx rt R n0 Q) {o : Int} {x z : Int64} {pm pn : Nat} (hd0 : decode bytes pc = .ok (.lcmp, 1)) (h0 : pc + 1 = pm) (hd : decode bytes pm = .ok (.ifCond .lt o, 3)) (ho : 0 ≤ (pm : Int) + o) (hp : ((pm : Int) + o).toNat = pc') (hn : pm + 3 = pn) (wy : x.toInt < z.toInt → Wp X k n h pc' ls st) (wn : z.toInt ≤ x.toInt → Wp X k n h pn ls st) : Wp X k n h pc ls (.long z :: .long x :: st) :=
  w_lc_lt C hd0 h0 hd ho hp hn (fun q => wy (Int64.lt_iff_toInt_lt.mp q)) (fun q => wn (Int.not_lt.mp (fun r => q (Int64.lt_iff_toInt_lt.mpr r))))
theorem w_jcmp_ge (C : Hand X Z y bytes mx rt R n0 Q) {o : Int} {x z : Int32} {pn : Nat} (hd : decode bytes pc = .ok (.if_icmp .ge o, 3)) (ho : 0 ≤ (pc : Int) + o) (hp : ((pc : Int) + o).toNat = pc') (hn : pc + 3 = pn) (wy : z.toInt ≤ x.toInt → Wp X k n h pc' ls st) (wn : x.toInt < z.toInt → Wp X k n h pn ls st) : Wp X k n h pc ls (.int z :: .int x :: st) :=
  w_icmp_ge C hd ho hp hn (fun q => wy (Int.not_lt.mp (fun r => q (Int32.lt_iff_toInt_lt.mpr r)))) (fun q => wn (Int32.lt_iff_toInt_lt.mp q))
theorem w_jf_ge (C : Hand X Z y bytes mx rt R n0 Q) {o : Int} {x : Int32} {pn : Nat} (hd : decode bytes pc = .ok (.ifCond .ge o, 3)) (ho : 0 ≤ (pc : Int) + o) (hp : ((pc : Int) + o).toNat = pc') (hn : pc + 3 = pn) (wy : 0 ≤ x.toInt → Wp X k n h pc' ls st) (wn : x.toInt < 0 → Wp X k n h pn ls st) : Wp X k n h pc ls (.int x :: st) :=
  w_if_ge C hd ho hp hn (fun q => wy (Int.not_lt.mp (fun r => q (Int32.lt_iff_toInt_lt.mpr r)))) (fun q => wn (Int32.lt_iff_toInt_lt.mp q))
theorem w_jc_ge (C : Hand X Z y bytes mx rt R n0 Q) {o : Int} {x z : Int64} {pm pn : Nat} (hd0 : decode bytes pc = .ok (.lcmp, 1)) (h0 : pc + 1 = pm) (hd : decode bytes pm = .ok (.ifCond .ge o, 3)) (ho : 0 ≤ (pm : Int) + o) (hp : ((pm : Int) + o).toNat = pc') (hn : pm + 3 = pn) (wy : z.toInt ≤ x.toInt → Wp X k n h pc' ls st) (wn : x.toInt < z.toInt → Wp X k n h pn ls st) : Wp X k n h pc ls (.long z :: .long x :: st) :=
  w_lc_ge C hd0 h0 hd ho hp hn (fun q => wy (Int.not_lt.mp (fun r => q (Int64.lt_iff_toInt_lt.mpr r)))) (fun q => wn (Int64.lt_iff_toInt_lt.mp q))
theorem w_jcmp_gt (C : Hand X Z y bytes mx rt R n0 Q) {o : Int} {x z : Int32} {pn : Nat} (hd : decode bytes pc = .ok (.if_icmp .gt o, 3)) (ho : 0 ≤ (pc : Int) + o) (hp : ((pc : Int) + o).toNat = pc') (hn : pc + 3 = pn) (wy : z.toInt < x.toInt → Wp X k n h pc' ls st) (wn : x.toInt ≤ z.toInt → Wp X k n h pn ls st) : Wp X k n h pc ls (.int z :: .int x :: st) :=
  w_icmp_gt C hd ho hp hn (fun q => wy (Int32.lt_iff_toInt_lt.mp q)) (fun q => wn (Int.not_lt.mp (fun r => q (Int32.lt_iff_toInt_lt.mpr r))))
theorem w_jf_gt (C : Hand X Z y bytes mx rt R n0 Q) {o : Int} {x : Int32} {pn : Nat} (hd : decode bytes pc = .ok (.ifCond .gt o, 3)) (ho : 0 ≤ (pc : Int) + o) (hp : ((pc : Int) + o).toNat = pc') (hn : pc + 3 = pn) (wy : 0 < x.toInt → Wp X k n h pc' ls st) (wn : x.toInt ≤ 0 → Wp X k n h pn ls st) : Wp X k n h pc ls (.int x :: st) :=
  w_if_gt C hd ho hp hn (fun q => wy (Int32.lt_iff_toInt_lt.mp q)) (fun q => wn (Int.not_lt.mp (fun r => q (Int32.lt_iff_toInt_lt.mpr r))))
theorem w_jc_gt (C : Hand X Z y bytes mx rt R n0 Q) {o : Int} {x z : Int64} {pm pn : Nat} (hd0 : decode bytes pc = .ok (.lcmp, 1)) (h0 : pc + 1 = pm) (hd : decode bytes pm = .ok (.ifCond .gt o, 3)) (ho : 0 ≤ (pm : Int) + o) (hp : ((pm : Int) + o).toNat = pc') (hn : pm + 3 = pn) (wy : z.toInt < x.toInt → Wp X k n h pc' ls st) (wn : x.toInt ≤ z.toInt → Wp X k n h pn ls st) : Wp X k n h pc ls (.long z :: .long x :: st) :=
  w_lc_gt C hd0 h0 hd ho hp hn (fun q => wy (Int64.lt_iff_toInt_lt.mp q)) (fun q => wn (Int.not_lt.mp (fun r => q (Int64.lt_iff_toInt_lt.mpr r))))
theorem w_jcmp_le (C : Hand X Z y bytes mx rt R n0 Q) {o : Int} {x z : Int32} {pn : Nat} (hd : decode bytes pc = .ok (.if_icmp .le o, 3)) (ho : 0 ≤ (pc : Int) + o) (hp : ((pc : Int) + o).toNat = pc') (hn : pc + 3 = pn) (wy : x.toInt ≤ z.toInt → Wp X k n h pc' ls st) (wn : z.toInt < x.toInt → Wp X k n h pn ls st) : Wp X k n h pc ls (.int z :: .int x :: st) :=
  w_icmp_le C hd ho hp hn (fun q => wy (Int.not_lt.mp (fun r => q (Int32.lt_iff_toInt_lt.mpr r)))) (fun q => wn (Int32.lt_iff_toInt_lt.mp q))
theorem w_jf_le (C : Hand X Z y bytes mx rt R n0 Q) {o : Int} {x : Int32} {pn : Nat} (hd : decode bytes pc = .ok (.ifCond .le o, 3)) (ho : 0 ≤ (pc : Int) + o) (hp : ((pc : Int) + o).toNat = pc') (hn : pc + 3 = pn) (wy : x.toInt ≤ 0 → Wp X k n h pc' ls st) (wn : 0 < x.toInt → Wp X k n h pn ls st) : Wp X k n h pc ls (.int x :: st) :=
  w_if_le C hd ho hp hn (fun q => wy (Int.not_lt.mp (fun r => q (Int32.lt_iff_toInt_lt.mpr r)))) (fun q => wn (Int32.lt_iff_toInt_lt.mp q))
theorem w_jc_le (C : Hand X Z y bytes mx rt R n0 Q) {o : Int} {x z : Int64} {pm pn : Nat} (hd0 : decode bytes pc = .ok (.lcmp, 1)) (h0 : pc + 1 = pm) (hd : decode bytes pm = .ok (.ifCond .le o, 3)) (ho : 0 ≤ (pm : Int) + o) (hp : ((pm : Int) + o).toNat = pc') (hn : pm + 3 = pn) (wy : x.toInt ≤ z.toInt → Wp X k n h pc' ls st) (wn : z.toInt < x.toInt → Wp X k n h pn ls st) : Wp X k n h pc ls (.long z :: .long x :: st) :=
  w_lc_le C hd0 h0 hd ho hp hn (fun q => wy (Int.not_lt.mp (fun r => q (Int64.lt_iff_toInt_lt.mpr r)))) (fun q => wn (Int64.lt_iff_toInt_lt.mp q))
theorem w_ifnonnullY (C : Hand X Z y bytes mx rt R n0 Q) {o : Int} {b : Addr} (hd : decode bytes pc = .ok (.ifnonnull o, 3)) (ho : 0 ≤ (pc : Int) + o) (hp : ((pc : Int) + o).toNat = pc') (w : Wp X k n h pc' ls st) : Wp X k n h pc ls (.ref b :: st) :=
  Wp.go C (fun X hX C T locs S e t r => XS.ifnonnullYes S.here C.1 rfl (pc0 := pc) rfl (hb C.2.2.2.1 hd) rfl ho hp r) w
theorem w_ifnonnullN (C : Hand X Z y bytes mx rt R n0 Q) {o : Int} (hd : decode bytes pc = .ok (.ifnonnull o, 3)) (hp : pc + 3 = pc') (w : Wp X k n h pc' ls st) : Wp X k n h pc ls (.null :: st) := by
  subst hp; exact Wp.go C (fun X hX C T locs S e t r => XS.ifnonnullNo S.here C.1 rfl (hb C.2.2.2.1 hd) rfl r) w
theorem w_ifnullN (C : Hand X Z y bytes mx rt R n0 Q) {o : Int} {b : Addr} (hd : decode bytes pc = .ok (.ifnull o, 3)) (hp : pc + 3 = pc') (w : Wp X k n h pc' ls st) : Wp X k n h pc ls (.ref b :: st) := by
  subst hp; exact Wp.go C (fun X hX C T locs S e t r => XS.ifnullNo S.here C.1 rfl (hb C.2.2.2.1 hd) rfl r) w
theorem w_ifnullY (C : Hand X Z y bytes mx rt R n0 Q) {o : Int} (hd : decode bytes pc = .ok (.ifnull o, 3)) (ho : 0 ≤ (pc : Int) + o) (hp : ((pc : Int) + o).toNat = pc') (w : Wp X k n h pc' ls st) : Wp X k n h pc ls (.null :: st) :=
  Wp.go C (fun X hX C T locs S e t r => XS.ifnullYes S.here C.1 rfl (pc0 := pc) rfl (hb C.2.2.2.1 hd) rfl ho hp r) w
theorem w_acmp_eq (C : Hand X Z y bytes mx rt R n0 Q) {o : Int} {x z : Value} {pn : Nat} (h1 : x.isRef = true) (h2 : z.isRef = true) (hd : decode bytes pc = .ok (.if_acmp .eq o, 3)) (ho : 0 ≤ (pc : Int) + o) (hp : ((pc : Int) + o).toNat = pc') (hn : pc + 3 = pn) (wy : x = z → Wp X k n h pc' ls st) (wn : ¬ x = z → Wp X k n h pn ls st) : Wp X k n h pc ls (z :: x :: st) := by
  by_cases q : x = z
  · exact Wp.go C (fun X hX C T locs S e t r => acmp S C.1 rfl h1 h2 (pc0 := pc) (same := true) rfl (hb C.2.2.2.1 hd) rfl (by simp [q]) ho (by simp [acV, hp]) r) (wy q)
  · exact Wp.go C (fun X hX C T locs S e t r => acmp S C.1 rfl h1 h2 (pc0 := pc) (same := false) rfl (hb C.2.2.2.1 hd) rfl (by simp [q]) ho (by simp [acV, hn]) r) (wn q)
theorem w_acmp_ne (C : Hand X Z y bytes mx rt R n0 Q) {o : Int} {x z : Value} {pn : Nat} (h1 : x.isRef = true) (h2 : z.isRef = true) (hd : decode bytes pc = .ok (.if_acmp .ne o, 3)) (ho : 0 ≤ (pc : Int) + o) (hp : ((pc : Int) + o).toNat = pc') (hn : pc + 3 = pn) (wy : ¬ x = z → Wp X k n h pc' ls st) (wn : x = z → Wp X k n h pn ls st) : Wp X k n h pc ls (z :: x :: st) := by
  by_cases q : x = z
  · exact Wp.go C (fun X hX C T locs S e t r => acmp S C.1 rfl h1 h2 (pc0 := pc) (same := true) rfl (hb C.2.2.2.1 hd) rfl (by simp [q]) ho (by simp [acV, hn]) r) (wn q)
  · exact Wp.go C (fun X hX C T locs S e t r => acmp S C.1 rfl h1 h2 (pc0 := pc) (same := false) rfl (hb C.2.2.2.1 hd) rfl (by simp [q]) ho (by simp [acV, hp]) r) (wy q)
/-! returns -/
theorem w_iret {t : FieldType} (C : Hand X Z y bytes mx (some t) R n0 Q) {z : Int32} (hd : decode bytes pc = .ok (.ireturn, 1)) (ht : t = .int ∨ t = .boolean ∨ t = .byte ∨ t = .char ∨ t = .short) (hz : narrow t (.int z) = .int z) (hk : k ≤ R.cells) (hn : n ≤ R.slots) (q : Q (some (.int z)) h) : Wp X k n h pc ls (.int z :: st) :=
  w_done C (fun z => by cases z) hk hn q fun X C T locs fs S hr => retOut S C.1 C.2.2.2.2.2.1 hz (Or.inl ⟨rfl, ht, z, rfl⟩) (hb C.2.2.2.1 hd) hr
theorem w_lret (C : Hand X Z y bytes mx (some .long) R n0 Q) {z : Int64} (hd : decode bytes pc = .ok (.lreturn, 1)) (hk : k ≤ R.cells) (hn : n ≤ R.slots) (q : Q (some (.long z)) h) : Wp X k n h pc ls (.long z :: st) :=
  w_done C (fun z => by cases z) hk hn q fun X C T locs fs S hr => retOut S C.1 C.2.2.2.2.2.1 rfl (Or.inr (Or.inl ⟨rfl, rfl, z, rfl⟩)) (hb C.2.2.2.1 hd) hr
theorem w_aret {t : FieldType} (C : Hand X Z y bytes mx (some t) R n0 Q) {a : Addr} (hd : decode bytes pc = .ok (.areturn, 1)) (ht : t.isReference = true) (hz : narrow t (.ref a) = .ref a) (hk : k ≤ R.cells) (hn : n ≤ R.slots) (q : Q (some (.ref a)) h) : Wp X k n h pc ls (.ref a :: st) :=
  w_done C (fun z => by cases z) hk hn q fun X C T locs fs S hr => retOut S C.1 C.2.2.2.2.2.1 hz (Or.inr (Or.inr (Or.inr (Or.inr ⟨rfl, ht, rfl⟩)))) (hb C.2.2.2.1 hd) hr
theorem w_vret (C : Hand X Z y bytes mx none R n0 Q) (hd : decode bytes pc = .ok (.return_, 1)) (hk : k ≤ R.cells) (hn : n ≤ R.slots) (q : Q none h) : Wp X k n h pc ls [] :=
  w_done C (fun _ => rfl) hk hn q fun X C T locs fs S hr => S.returnOut C.1 C.2.2.2.2.2.1 (hb C.2.2.2.1 hd) hr
/-! arrays -/
def Ars (Z : State) (h : Heap) (a : Addr) (ty : FieldType) (vs : List Value) : Prop := ∃ c : Cell, Arr Z h a c ty ∧ c.slots.toList = vs ∧ vs.length < 2 ^ 31
variable {h' : Heap} {a b : Addr} {ty : FieldType} {vs : List Value}
theorem Ars.lt (F : Ars Z h a ty vs) : a < h.size := by obtain ⟨c, A, -⟩ := F; exact A.lt
theorem Ars.ext (F : Ars Z h a ty vs) (E : Ext h h') : Ars Z h' a ty vs := by obtain ⟨c, A, r⟩ := F; exact ⟨c, A.ext E, r⟩
theorem Ars.other {sl : Nat} {v : Value} (F : Ars Z h b ty vs) (W : Wr h h' a sl v) (q : b ≠ a) : Ars Z h' b ty vs := by obtain ⟨c, A, r⟩ := F; exact ⟨c, A.other W q, r⟩
theorem Ars.same {i : Nat} {v : Value} (F : Ars Z h a ty vs) (W : Wr h h' a i v) : Ars Z h' a ty (vs.set i v) := by
  obtain ⟨c, A, rfl, r⟩ := F
  exact ⟨_, A.same W, by simp [Cell.setSlot], by simpa using r⟩
theorem Ars.keep {ws : List Addr} (F : Ars Z h a ty vs) (K : Keep h h' ws) (q : a ∉ ws) : Ars Z h' a ty vs := by obtain ⟨c, A, r⟩ := F; exact ⟨c, ⟨K.2.1 a c A.1 q, A.2⟩, r⟩
theorem Ars.inb {c : Cell} {j : Int32} {i : Nat} (e : c.slots.toList = vs) (hj : ¬ j < 0) (hi : j.toNatClampNeg = i) (hl : i < vs.length) : ¬ (j < 0 ∨ c.slots.size ≤ j.toNatClampNeg) := by
  subst e hi; intro q; rcases q with q | q
  · exact hj q
  · simp at hl; omega
theorem w_iastore (C : Hand X Z y bytes mx rt R n0 Q) {j : Int32} {x : Int32} {i : Nat} (hd : decode bytes pc = .ok (.iastore, 1)) (A : Ars Z h a .int vs) (hn : n0 ≤ a) (hj : ¬ j < 0) (hi : j.toNatClampNeg = i) (hl : i < vs.length) (hp : pc + 1 = pc')
    (w : ∀ h', Wr h h' a i (.int x) → Ars Z h' a .int (vs.set i (.int x)) → Wp X k n h' pc' ls st) : Wp X k n h pc ls (.int x :: .int j :: .ref a :: st) := by
  subst hp hi
  refine Wp.to C (P := fun h' st' => st' = st ∧ Wr h h' a j.toNatClampNeg (.int x)) (fun X hX C T locs S e => ?_) (fun h' st' q => by obtain ⟨rfl, W⟩ := q; exact w h' W (A.same W))
  obtain ⟨c, Ac, ec, -⟩ := A
  obtain ⟨T', h', S', e', W', st⟩ := stI S C.1 C.2.1 e Ac (j := j) (x := x) (Ars.inb ec hj rfl hl) (g := mkF X.m pc ls (.int x :: .int j :: .ref a :: st)) rfl rfl (hb C.2.2.2.1 hd)
  exact ⟨T', _, h', _, S', e', fun q hq => by cases List.mem_singleton.mp hq; rw [C.2.2.2.2.2.2.2.2.2.2.1]; exact hn, Nat.le_of_eq W'.size.symm, ⟨rfl, W'⟩, st⟩
theorem w_lastore (C : Hand X Z y bytes mx rt R n0 Q) {j : Int32} {x : Int64} {i : Nat} (hd : decode bytes pc = .ok (.lastore, 1)) (A : Ars Z h a .long vs) (hn : n0 ≤ a) (hj : ¬ j < 0) (hi : j.toNatClampNeg = i) (hl : i < vs.length) (hp : pc + 1 = pc')
    (w : ∀ h', Wr h h' a i (.long x) → Ars Z h' a .long (vs.set i (.long x)) → Wp X k n h' pc' ls st) : Wp X k n h pc ls (.long x :: .int j :: .ref a :: st) := by
  subst hp hi
  refine Wp.to C (P := fun h' st' => st' = st ∧ Wr h h' a j.toNatClampNeg (.long x)) (fun X hX C T locs S e => ?_) (fun h' st' q => by obtain ⟨rfl, W⟩ := q; exact w h' W (A.same W))
  obtain ⟨c, Ac, ec, -⟩ := A
  obtain ⟨T', h', S', e', W', st⟩ := stJ S C.1 C.2.1 e Ac (j := j) (x := x) (Ars.inb ec hj rfl hl) (g := mkF X.m pc ls (.long x :: .int j :: .ref a :: st)) rfl rfl (hb C.2.2.2.1 hd)
  exact ⟨T', _, h', _, S', e', fun q hq => by cases List.mem_singleton.mp hq; rw [C.2.2.2.2.2.2.2.2.2.2.1]; exact hn, Nat.le_of_eq W'.size.symm, ⟨rfl, W'⟩, st⟩
theorem w_bastore (C : Hand X Z y bytes mx rt R n0 Q) {j : Int32} {x : Int32} {i : Nat} (hd : decode bytes pc = .ok (.bastore, 1)) (A : Ars Z h a .byte vs) (hn : n0 ≤ a) (hj : ¬ j < 0) (hi : j.toNatClampNeg = i) (hl : i < vs.length) (hp : pc + 1 = pc')
    (w : ∀ h', Wr h h' a i (.int x.toInt8.toInt32) → Ars Z h' a .byte (vs.set i (.int x.toInt8.toInt32)) → Wp X k n h' pc' ls st) : Wp X k n h pc ls (.int x :: .int j :: .ref a :: st) := by
  subst hp hi
  refine Wp.to C (P := fun h' st' => st' = st ∧ Wr h h' a j.toNatClampNeg (.int x.toInt8.toInt32)) (fun X hX C T locs S e => ?_) (fun h' st' q => by obtain ⟨rfl, W⟩ := q; exact w h' W (A.same W))
  obtain ⟨c, Ac, ec, -⟩ := A
  obtain ⟨T', h', S', e', W', st⟩ := stB S C.1 C.2.1 e Ac (j := j) (x := x) (Ars.inb ec hj rfl hl) (g := mkF X.m pc ls (.int x :: .int j :: .ref a :: st)) rfl rfl (hb C.2.2.2.1 hd)
  exact ⟨T', _, h', _, S', e', fun q hq => by cases List.mem_singleton.mp hq; rw [C.2.2.2.2.2.2.2.2.2.2.1]; exact hn, Nat.le_of_eq W'.size.symm, ⟨rfl, W'⟩, st⟩
theorem w_iaload (C : Hand X Z y bytes mx rt R n0 Q) {j : Int32} {v : Value} {i : Nat} (hd : decode bytes pc = .ok (.iaload, 1)) (A : Ars Z h a .int vs) (hj : ¬ j < 0) (hi : j.toNatClampNeg = i) (hv : vs[i]? = some v) (hp : pc + 1 = pc') (w : Wp X k n h pc' ls (v :: st)) : Wp X k n h pc ls (.int j :: .ref a :: st) := by
  subst hp hi
  obtain ⟨c, Ac, ec, -⟩ := A
  have hl : j.toNatClampNeg < vs.length := (List.getElem?_eq_some_iff.mp hv).1
  refine Wp.go C (fun X hX C T locs S e t q => S.iaload C.1 (j := j) (v := v) (by rw [e]; exact Ac.1) (State.isArrayOf_alike C.2.1.alike Ac.2.1) Ac.2.2 (Ars.inb ec hj rfl hl) (by subst ec; simpa using hv) (g := mkF X.m pc ls (.int j :: .ref a :: st)) rfl rfl (hb C.2.2.2.1 hd) t q) w
theorem w_laload (C : Hand X Z y bytes mx rt R n0 Q) {j : Int32} {v : Value} {i : Nat} (hd : decode bytes pc = .ok (.laload, 1)) (A : Ars Z h a .long vs) (hj : ¬ j < 0) (hi : j.toNatClampNeg = i) (hv : vs[i]? = some v) (hp : pc + 1 = pc') (w : Wp X k n h pc' ls (v :: st)) : Wp X k n h pc ls (.int j :: .ref a :: st) := by
  subst hp hi
  obtain ⟨c, Ac, ec, -⟩ := A
  have hl : j.toNatClampNeg < vs.length := (List.getElem?_eq_some_iff.mp hv).1
  refine Wp.go C (fun X hX C T locs S e t q => S.laload C.1 (j := j) (v := v) (by rw [e]; exact Ac.1) (State.isArrayOf_alike C.2.1.alike Ac.2.1) Ac.2.2 (Ars.inb ec hj rfl hl) (by subst ec; simpa using hv) (g := mkF X.m pc ls (.int j :: .ref a :: st)) rfl rfl (hb C.2.2.2.1 hd) t q) w
theorem w_baload (C : Hand X Z y bytes mx rt R n0 Q) {j : Int32} {v : Value} {i : Nat} (hd : decode bytes pc = .ok (.baload, 1)) (A : Ars Z h a .byte vs) (hj : ¬ j < 0) (hi : j.toNatClampNeg = i) (hv : vs[i]? = some v) (hp : pc + 1 = pc') (w : Wp X k n h pc' ls (v :: st)) : Wp X k n h pc ls (.int j :: .ref a :: st) := by
  subst hp hi
  obtain ⟨c, Ac, ec, -⟩ := A
  have hl : j.toNatClampNeg < vs.length := (List.getElem?_eq_some_iff.mp hv).1
  refine Wp.go C (fun X hX C T locs S e t q => S.baloadBytes C.1 (j := j) (v := v) (by rw [e]; exact Ac.1) (State.isArrayOf_alike C.2.1.alike Ac.2.1) Ac.2.2 (Ars.inb ec hj rfl hl) (by subst ec; simpa using hv) (g := mkF X.m pc ls (.int j :: .ref a :: st)) rfl rfl (hb C.2.2.2.1 hd) t q) w
theorem w_alen (C : Hand X Z y bytes mx rt R n0 Q) {z : Int32} (hd : decode bytes pc = .ok (.arraylength, 1)) (A : Ars Z h a ty vs) (hz : vs.length.toInt32 = z) (hp : pc + 1 = pc') (w : Wp X k n h pc' ls (.int z :: st)) : Wp X k n h pc ls (.ref a :: st) := by
  subst hp hz
  obtain ⟨c, Ac, rfl, -⟩ := A
  refine Wp.go C (fun X hX C T locs S e t q => S.arraylength C.1 (by rw [e]; exact Ac.1) (State.isArrayOf_alike C.2.1.alike Ac.2.1) (g := mkF X.m pc ls (.ref a :: st)) rfl rfl (hb C.2.2.2.1 hd) t (by simpa using q)) w
theorem w_newarray (C : Hand X Z y bytes mx rt R n0 Q) {aty : ArrayType} {z : Int32} {cap : Nat} (hw : (Jvm.Cond.arrayClass (newarray.typeOf aty)).before a0 Z = true) (hd : decode bytes pc = .ok (.newarray aty, 2)) (hz : ¬ z < 0) (hcap : z.toNatClampNeg ≤ cap) (hb8 : cap * 8 ≤ 536870912) (hc : k + 1 ≤ R.cells) (hl : n + cap ≤ R.slots) (hp : pc + 2 = pc')
    (w : ∀ h' a, a = h.size → n0 ≤ a → Ext h h' → Ars Z h' a (newarray.typeOf aty) (List.replicate z.toNatClampNeg (defaultValue (newarray.typeOf aty))) → Wp X (k + 1) (n + cap) h' pc' ls (.ref a :: st)) : Wp X k n h pc ls (.int z :: st) := by
  subst hp
  refine Wp.size C fun hsz => Wp.to C (P := fun h' st' => st' = .ref h.size :: st ∧ Ext h h' ∧ Ars Z h' h.size (newarray.typeOf aty) (List.replicate z.toNatClampNeg (defaultValue (newarray.typeOf aty)))) (fun X hX C T locs S e => ?_) (fun h' st' q => by obtain ⟨rfl, E, A⟩ := q; exact w h' _ rfl hsz E A)
  obtain ⟨T', h', cA, S', e', E', A', st⟩ := newP S C.1 C.2.1 hw e (g := mkF X.m pc ls (.int z :: st)) rfl (hb C.2.2.2.1 hd) rfl hz hcap hb8 (by rw [C.2.2.2.2.2.2.2.1]; exact hc) (by rw [C.2.2.2.2.2.2.2.1]; exact hl)
  exact ⟨T', [], h', _, by rw [toL]; exact S', e', Fr.nil _, E'.1, ⟨rfl, E', _, A', by simp [newA], by simpa using (back32 hz).2⟩, st⟩
/-! objects -/
theorem w_new (C : Hand X Z y bytes mx rt R n0 Q) {i nn : Nat} {K : String} (hw : (Jvm.Cond.classLink y.cls i K).before a0 Z = true) (wi : (Jvm.Cond.instantiable K nn).before a0 Z = true) (wz : (Jvm.Cond.initialized K).before a0 Z = true) (hd : decode bytes pc = .ok (.new i, 3)) (hc : k + 1 ≤ R.cells) (hl : n + nn ≤ R.slots) (hp : pc + 3 = pc')
    (w : ∀ h' a, a = h.size → n0 ≤ a → Ext h h' → Exa Z h' a K → (∀ {O nm d : String} {ty : FieldType}, Laid Z a0 K O nm d → parseFieldDescriptor d = some ty → Fld Z h' a O nm d (defaultValue ty)) → Wp X (k + 1) (n + nn) h' pc' ls (.ref a :: st)) : Wp X k n h pc ls st := by
  subst hp
  refine Wp.size C fun hsz => Wp.to C (P := fun h' st' => st' = .ref h.size :: st ∧ Ext h h' ∧ Exa Z h' h.size K ∧ ∀ {O nm d : String} {ty : FieldType}, Laid Z a0 K O nm d → parseFieldDescriptor d = some ty → Fld Z h' h.size O nm d (defaultValue ty)) (fun X hX C T locs S e => ?_) (fun h' st' q => by obtain ⟨rfl, E, A, D⟩ := q; exact w h' _ rfl hsz E A D)
  obtain ⟨T', h', S', e', E', A', D', -, st⟩ := newO S C.1 C.2.1 C.2.2.1 hw wi wz e (g := mkF X.m pc ls st) rfl (hb C.2.2.2.1 hd) (by rw [C.2.2.2.2.2.2.2.1]; exact hc) (by rw [C.2.2.2.2.2.2.2.1]; exact hl)
  exact ⟨T', [], h', _, by rw [toL]; exact S', e', Fr.nil _, E'.1, ⟨rfl, E', A', D'⟩, st⟩
theorem w_initO (C : Hand X Z y bytes mx rt R n0 Q) {i W : Nat} (w1 : (Jvm.Cond.methodLink y.cls i Lib.objectInit).before a0 Z = true) (w2 : (Jvm.Cond.instanceMethod Lib.objectInit).before a0 Z = true) (w3 : (Jvm.Cond.code Lib.objectInit ⟨#[0xb1]⟩ 1 none).before a0 Z = true)
    (hd : decode bytes pc = .ok (.invokespecial i, 3)) (hls : ls.size = mx) (hf : 1 ≤ R.frames) (hW : (st.map fun v => v.category).sum = W) (hl : W + 12 ≤ R.locals) (hp : pc + 3 = pc') (w : Wp X k n h pc' ls st) : Wp X k n h pc ls (.ref a :: st) := by
  subst hp hW
  refine Wp.to C (P := fun h' st' => h' = h ∧ st' = st) (fun X hX C T locs S e => ?_) (fun h' st' q => by obtain ⟨rfl, rfl⟩ := q; exact w)
  obtain ⟨T', S', e', st⟩ := initO S C.1 C.2.1 C.2.2.1 w1 w2 w3 e (g := mkF X.m pc ls (.ref a :: st)) rfl (by rw [C.2.2.2.2.1]; exact hls) rfl (hb C.2.2.2.1 hd) (by rw [C.2.2.2.2.2.2.2.1]; exact hf) (W := (st.map fun v => v.category).sum) (by show 2 * 0 + _ ≤ _; omega) (by rw [C.2.2.2.2.2.2.2.1]; exact hl)
  exact ⟨T', [], h, _, by rw [toL]; exact S', e', Fr.nil _, Nat.le_refl _, ⟨rfl, rfl⟩, st⟩
theorem w_getfield (C : Hand X Z y bytes mx rt R n0 Q) {i : Nat} {O f d : String} {v : Value} (hw : (Jvm.Cond.fieldLink y.cls i O f d).before a0 Z = true) (hd : decode bytes pc = .ok (.getfield i, 3)) (F : Fld Z h a O f d v) (hp : pc + 3 = pc') (w : Wp X k n h pc' ls (v :: st)) : Wp X k n h pc ls (.ref a :: st) := by
  subst hp
  refine Wp.to C (P := fun h' st' => h' = h ∧ st' = v :: st) (fun X hX C T locs S e => ?_) (fun h' st' q => by obtain ⟨rfl, rfl⟩ := q; exact w)
  obtain ⟨T', S', e', st⟩ := getF S C.1 C.2.1 (host := "") C.2.2.1 (Or.inl hw) Via.refl e F (g := mkF X.m pc ls (.ref a :: st)) rfl rfl (hb C.2.2.2.1 hd)
  exact ⟨T', [], h, _, by rw [toL]; exact S', e', Fr.nil _, Nat.le_refl _, ⟨rfl, rfl⟩, st⟩
theorem w_getstatic (C : Hand X Z y bytes mx rt R n0 Q) {i : Nat} {O f d : String} {v : Value} (hw : (Jvm.Cond.fieldLink y.cls i O f d).before a0 Z = true) (hd : decode bytes pc = .ok (.getstatic i, 3)) (F : Sta Z h O f d v) (hp : pc + 3 = pc') (w : Wp X k n h pc' ls (v :: st)) : Wp X k n h pc ls st := by
  subst hp
  refine Wp.to C (P := fun h' st' => h' = h ∧ st' = v :: st) (fun X hX C T locs S e => ?_) (fun h' st' q => by obtain ⟨rfl, rfl⟩ := q; exact w)
  obtain ⟨T', S', e', st⟩ := getS S C.1 C.2.1 (host := "") C.2.2.1 hw Via.refl e F (g := mkF X.m pc ls st) rfl (hb C.2.2.2.1 hd)
  exact ⟨T', [], h, _, by rw [toL]; exact S', e', Fr.nil _, Nat.le_refl _, ⟨rfl, rfl⟩, st⟩
theorem w_putfield (C : Hand X Z y bytes mx rt R n0 Q) {i kk : Nat} {O f d K : String} {t : FieldType} {v old : Value} (hw : (Jvm.Cond.fieldLink y.cls i O f d).before a0 Z = true) (L : (Jvm.Cond.lays K O f d).before a0 Z = true ∨ ((Jvm.Cond.laysFinal K O f d).before a0 Z = true ∧ y.cls = O ∧ y.name = "<init>")) (wi : (Jvm.Cond.instantiable K kk).before a0 Z = true)
    (hd : decode bytes pc = .ok (.putfield i, 3)) (F : Fld Z h a O f d old) (E : Exa Z h a K) (hn : n0 ≤ a) (ht : parseFieldDescriptor d = some t) (hv : narrow t v = v) (hf : fits t v = true) (hp : pc + 3 = pc')
    (w : ∀ h', Wr h h' a (Jvm.RoadKit.slotOf Z O f d) v → Fld Z h' a O f d v → Exa Z h' a K → Wp X k n h' pc' ls st) : Wp X k n h pc ls (v :: .ref a :: st) := by
  subst hp
  refine Wp.to C (P := fun h' st' => st' = st ∧ Wr h h' a (Jvm.RoadKit.slotOf Z O f d) v) (fun X hX C T locs S e => ?_) (fun h' st' q => by obtain ⟨rfl, W⟩ := q; exact w h' W (F.same W) (E.wr W))
  obtain ⟨T', h', S', e', W', st⟩ := putF S C.1 C.2.1 (host := "") C.2.2.1 (Or.inl hw) Via.refl e F E (L.imp id fun q => ⟨q.1, q.2.1, C.2.2.2.2.2.2.2.2.2.1.trans q.2.2⟩) wi ht hv hf (g := mkF X.m pc ls (v :: .ref a :: st)) rfl rfl (hb C.2.2.2.1 hd)
  exact ⟨T', _, h', _, S', e', fun q hq => by cases List.mem_singleton.mp hq; rw [C.2.2.2.2.2.2.2.2.2.2.1]; exact hn, Nat.le_of_eq W'.size.symm, ⟨rfl, W'⟩, st⟩
/-! calls -/
variable {i W : Nat} {y' z : MethodName} {bytes' : ByteArray} {mx' : Nat} {rt' : Option FieldType} {R' : Room} {Q' : Option Value → Heap → Prop} {argsL rest : List Value} {ps : List FieldType}
theorem w_static (C : Hand X Z y bytes mx rt R n0 Q) (hw1 : (Jvm.Cond.methodLink y.cls i y').before a0 Z = true) (hw2 : (Jvm.Cond.static y').before a0 Z = true) (hw3 : (Jvm.Cond.initialized y'.cls).before a0 Z = true) (hw4 : (Jvm.Cond.code y' bytes' mx' rt').before a0 Z = true)
    (hy : y'.cls ≠ "java/lang/invoke/MethodHandle" ∧ y'.cls ≠ "java/lang/invoke/VarHandle") (hpd : parseMethodDescriptor y'.desc = some ⟨ps, rt'⟩) (hd : decode bytes pc = .ok (.invokestatic i, 3)) (K : Ct X.l Z y' bytes' mx' rt' R' n0 [] argsL.toArray h Q')
    (hlen : argsL.length = ps.length) (hst : st = argsL.reverse ++ rest) (hls : ls.size = mx) (hf : R'.frames + 1 ≤ R.frames) (hW : (rest.map fun v => v.category).sum = W) (hl : W + (mx' + 11) + R'.locals ≤ R.locals) (hc : k + R'.cells ≤ R.cells) (hs : n + R'.slots ≤ R.slots) (hp : pc + 3 = pc')
    (w : ∀ v h', Q' v h' → Wp X (k + R'.cells) (n + R'.slots) h' pc' ls (v.toList ++ rest)) : Wp X k n h pc ls st := by
  subst hp hst hW
  refine Wp.to C (P := fun h' st' => ∃ v, st' = v.toList ++ rest ∧ Q' v h') (fun X hX C T locs S e => ?_) (fun h' st' q => by obtain ⟨v, rfl, q⟩ := q; exact w v h' q)
  have K : Ct X.l Z y' bytes' mx' rt' R' n0 [] argsL.toArray h Q' := by rw [hX]; exact K
  have eR := C.2.2.2.2.2.2.2.1
  obtain ⟨v, _, ⟨T', L', k', n'⟩, -, S', ⟨Lc, hQ, l1, y1, z1⟩, st⟩ := Jvm.LawKit.callS S C.1 (y := y') C.2.2.1 (mvT C.2.1 hw1) (mvT C.2.1 hw2) (mvT C.2.1 hw3) (mvT C.2.1 hw4) hy (backOf (W := (rest.map fun v => v.category).sum) (Q := fun v h' L => (Q' v h' ∧ h.size ≤ h'.size) ∧ Fr n0 L) K C.2.1 hw4 hw3 (by rw [eR]; exact hf) (by rw [eR]; exact hl)) (g := mkF X.m pc ls (argsL.reverse ++ rest)) rfl (by rw [C.2.2.2.2.1]; exact hls) (argsL := argsL) (rest := rest) (lenOf hpd hlen) rfl (by show 2 * 0 + _ ≤ _; omega) (hb C.2.2.2.1 hd) (fun _ _ => ⟨rfl, e, by rw [eR]; exact hc, by rw [eR]; exact hs⟩)
  dsimp only [Pt.U, Pt.locs, Pt.cells, Pt.slots] at S' l1 y1 z1 st hQ
  subst l1 y1 z1
  exact ⟨T', Lc, T'.heap, _, S', rfl, by rw [C.2.2.2.2.2.2.2.2.2.2.1]; exact hQ.2, hQ.1.2, ⟨v, rfl, hQ.1.1⟩, st⟩
theorem w_special (C : Hand X Z y bytes mx rt R n0 Q) (hw1 : (Jvm.Cond.methodLink y.cls i y').before a0 Z = true) (hw2 : (Jvm.Cond.instanceMethod y').before a0 Z = true) (hw3 : (Jvm.Cond.initialized y'.cls).before a0 Z = true) (hw4 : (Jvm.Cond.code y' bytes' mx' none).before a0 Z = true)
    (hy1 : y'.name = "<init>") (hy : y'.cls ≠ "java/lang/invoke/MethodHandle" ∧ y'.cls ≠ "java/lang/invoke/VarHandle") (hpd : parseMethodDescriptor y'.desc = some ⟨ps, none⟩) (hd : decode bytes pc = .ok (.invokespecial i, 3)) (K : Ct X.l Z y' bytes' mx' none R' n0 [] (.ref a :: argsL).toArray h Q')
    (hlen : argsL.length = ps.length) (hst : st = argsL.reverse ++ .ref a :: rest) (hls : ls.size = mx) (hf : R'.frames + 1 ≤ R.frames) (hW : (rest.map fun v => v.category).sum = W) (hl : W + (mx' + 11) + R'.locals ≤ R.locals) (hc : k + R'.cells ≤ R.cells) (hs : n + R'.slots ≤ R.slots) (hp : pc + 3 = pc')
    (w : ∀ v h', Q' v h' → Wp X (k + R'.cells) (n + R'.slots) h' pc' ls (v.toList ++ rest)) : Wp X k n h pc ls st := by
  subst hp hst hW
  refine Wp.to C (P := fun h' st' => ∃ v, st' = v.toList ++ rest ∧ Q' v h') (fun X hX C T locs S e => ?_) (fun h' st' q => by obtain ⟨v, rfl, q⟩ := q; exact w v h' q)
  have K : Ct X.l Z y' bytes' mx' none R' n0 [] (.ref a :: argsL).toArray h Q' := by rw [hX]; exact K
  have eR := C.2.2.2.2.2.2.2.1
  obtain ⟨v, _, ⟨T', L', k', n'⟩, -, S', ⟨Lc, hQ, l1, y1, z1⟩, st⟩ := S.specialBack C.1 (y := y') hy1 C.2.2.1 (mvT C.2.1 hw1) (mvT C.2.1 hw2) (mvT C.2.1 hw4) hy (backOf (W := (rest.map fun v => v.category).sum) (Q := fun v h' L => (Q' v h' ∧ h.size ≤ h'.size) ∧ Fr n0 L) K C.2.1 hw4 hw3 (by rw [eR]; exact hf) (by rw [eR]; exact hl)) (g := mkF X.m pc ls (argsL.reverse ++ .ref a :: rest)) rfl (by rw [C.2.2.2.2.1]; exact hls) (Steps.refl _) (a := a) (argsL := argsL) (rest := rest) (lenOf hpd hlen) rfl (by show 2 * 0 + _ ≤ _; omega) (hb C.2.2.2.1 hd) (fun _ _ => ⟨rfl, e, by rw [eR]; exact hc, by rw [eR]; exact hs⟩)
  dsimp only [Pt.U, Pt.locs, Pt.cells, Pt.slots] at S' l1 y1 z1 st hQ
  subst l1 y1 z1
  exact ⟨T', Lc, T'.heap, _, S', rfl, by rw [C.2.2.2.2.2.2.2.2.2.2.1]; exact hQ.2, hQ.1.2, ⟨v, rfl, hQ.1.1⟩, fun t q => st.trans q⟩
theorem w_virtual (C : Hand X Z y bytes mx rt R n0 Q) {K0 : String} (hw1 : (Jvm.Cond.methodLink y.cls i y').before a0 Z = true) (hw2 : (Jvm.Cond.declares y').before a0 Z = true) (hw5 : (Jvm.Cond.selects K0 y' y').before a0 Z = true) (hw6 : (Jvm.Cond.instanceMethod y').before a0 Z = true) (hw3 : (Jvm.Cond.initialized y'.cls).before a0 Z = true) (hw4 : (Jvm.Cond.code y' bytes' mx' rt').before a0 Z = true)
    (hy : y'.cls ≠ "java/lang/invoke/MethodHandle" ∧ y'.cls ≠ "java/lang/invoke/VarHandle") (hpd : parseMethodDescriptor y'.desc = some ⟨ps, rt'⟩) (hd : decode bytes pc = .ok (.invokevirtual i, 3)) (E : Exa Z h a K0) (K : Ct X.l Z y' bytes' mx' rt' R' n0 [] (.ref a :: argsL).toArray h Q')
    (hlen : argsL.length = ps.length) (hst : st = argsL.reverse ++ .ref a :: rest) (hls : ls.size = mx) (hf : R'.frames + 1 ≤ R.frames) (hW : (rest.map fun v => v.category).sum = W) (hl : W + (mx' + 11) + R'.locals ≤ R.locals) (hc : k + R'.cells ≤ R.cells) (hs : n + R'.slots ≤ R.slots) (hp : pc + 3 = pc')
    (w : ∀ v h', Q' v h' → Wp X (k + R'.cells) (n + R'.slots) h' pc' ls (v.toList ++ rest)) : Wp X k n h pc ls st := by
  subst hp hst hW
  refine Wp.to C (P := fun h' st' => ∃ v, st' = v.toList ++ rest ∧ Q' v h') (fun X hX C T locs S e => ?_) (fun h' st' q => by obtain ⟨v, rfl, q⟩ := q; exact w v h' q)
  have K : Ct X.l Z y' bytes' mx' rt' R' n0 [] (.ref a :: argsL).toArray h Q' := by rw [hX]; exact K
  have eR := C.2.2.2.2.2.2.2.1
  obtain ⟨cq, kq, qa, qb, qc⟩ := isOf C.2.1 e E
  obtain ⟨v, _, ⟨T', L', k', n'⟩, -, S', ⟨Lc, hQ, l1, y1, z1⟩, st⟩ := S.virtualBack C.1 (y := y') (z := y') C.2.2.1 (mvT C.2.1 hw1) (mvT C.2.1 hw2) (notFace_of_selects (args := #[]) (mvT C.2.1 hw5)) (mvT C.2.1 hw5) (mvT C.2.1 hw6) hy (backOf (W := (rest.map fun v => v.category).sum) (Q := fun v h' L => (Q' v h' ∧ h.size ≤ h'.size) ∧ Fr n0 L) K C.2.1 hw4 hw3 (by rw [eR]; exact hf) (by rw [eR]; exact hl)) qa qc (g := mkF X.m pc ls (argsL.reverse ++ .ref a :: rest)) rfl (by rw [C.2.2.2.2.1]; exact hls) (Steps.refl _) (argsL := argsL) (rest := rest) (lenOf hpd hlen) rfl (by show 2 * 0 + _ ≤ _; omega) (hb C.2.2.2.1 hd) (fun _ _ => ⟨rfl, e, by rw [eR]; exact hc, by rw [eR]; exact hs⟩)
  dsimp only [Pt.U, Pt.locs, Pt.cells, Pt.slots] at S' l1 y1 z1 st hQ
  subst l1 y1 z1
  exact ⟨T', Lc, T'.heap, _, S', rfl, by rw [C.2.2.2.2.2.2.2.2.2.2.1]; exact hQ.2, hQ.1.2, ⟨v, rfl, hQ.1.1⟩, fun t q => st.trans q⟩
theorem w_private (C : Hand X Z y bytes mx rt R n0 Q) {K0 : String} {nn : Nat} (hw1 : (Jvm.Cond.methodLink y.cls i y').before a0 Z = true) (hw6 : (Jvm.Cond.instanceMethod y').before a0 Z = true) (wp : (Jvm.Cond.privateMethod y').before a0 Z = true) (wi : (Jvm.Cond.instantiable y'.cls nn).before a0 Z = true) (hw3 : (Jvm.Cond.initialized y'.cls).before a0 Z = true) (hw4 : (Jvm.Cond.code y' bytes' mx' rt').before a0 Z = true)
    (hy : y'.cls ≠ "java/lang/invoke/MethodHandle" ∧ y'.cls ≠ "java/lang/invoke/VarHandle") (hpd : parseMethodDescriptor y'.desc = some ⟨ps, rt'⟩) (hd : decode bytes pc = .ok (.invokevirtual i, 3)) (E : Exa Z h a K0) (K : Ct X.l Z y' bytes' mx' rt' R' n0 [] (.ref a :: argsL).toArray h Q')
    (hlen : argsL.length = ps.length) (hst : st = argsL.reverse ++ .ref a :: rest) (hls : ls.size = mx) (hf : R'.frames + 1 ≤ R.frames) (hW : (rest.map fun v => v.category).sum = W) (hl : W + (mx' + 11) + R'.locals ≤ R.locals) (hc : k + R'.cells ≤ R.cells) (hs : n + R'.slots ≤ R.slots) (hp : pc + 3 = pc')
    (w : ∀ v h', Q' v h' → Wp X (k + R'.cells) (n + R'.slots) h' pc' ls (v.toList ++ rest)) : Wp X k n h pc ls st := by
  subst hp hst hW
  refine Wp.to C (P := fun h' st' => ∃ v, st' = v.toList ++ rest ∧ Q' v h') (fun X hX C T locs S e => ?_) (fun h' st' q => by obtain ⟨v, rfl, q⟩ := q; exact w v h' q)
  have K : Ct X.l Z y' bytes' mx' rt' R' n0 [] (.ref a :: argsL).toArray h Q' := by rw [hX]; exact K
  have eR := C.2.2.2.2.2.2.2.1
  have pv : X.s.PrivateAt y' := Cond.privateMethod_at (mvP C.2.1 wp (args := X.args))
  have hin : (Jvm.Cond.instanceMethod y').before X.args X.s = true := mvT C.2.1 hw6
  obtain ⟨ck, kk, f1, f2, -, f4, -⟩ := Cond.instantiable_spec (mvT (args := X.args) C.2.1 wi)
  have hsel := selects_self_of_private f1 f2 (by rw [Bool.or_eq_false_iff] at f4; exact f4.1) pv hin hy
  obtain ⟨cq, qa, qb⟩ := E.cell
  obtain ⟨v, _, ⟨T', L', k', n'⟩, -, S', ⟨Lc, hQ, l1, y1, z1⟩, st⟩ := S.privateBack C.1 (y := y') C.2.2.1 (mvT C.2.1 hw1) hin hsel pv (mvT C.2.1 hw4) hy (backOf (W := (rest.map fun v => v.category).sum) (Q := fun v h' L => (Q' v h' ∧ h.size ≤ h'.size) ∧ Fr n0 L) K C.2.1 hw4 hw3 (by rw [eR]; exact hf) (by rw [eR]; exact hl)) (g := mkF X.m pc ls (argsL.reverse ++ .ref a :: rest)) rfl (by rw [C.2.2.2.2.1]; exact hls) (Steps.refl _) (a := a) (by rw [e]; exact qa) qb (argsL := argsL) (rest := rest) (lenOf hpd hlen) rfl (by show 2 * 0 + _ ≤ _; omega) (hb C.2.2.2.1 hd) (fun _ _ => ⟨rfl, e, by rw [eR]; exact hc, by rw [eR]; exact hs⟩)
  dsimp only [Pt.U, Pt.locs, Pt.cells, Pt.slots] at S' l1 y1 z1 st hQ
  subst l1 y1 z1
  exact ⟨T', Lc, T'.heap, _, S', rfl, by rw [C.2.2.2.2.2.2.2.2.2.2.1]; exact hQ.2, hQ.1.2, ⟨v, rfl, hQ.1.1⟩, fun t q => st.trans q⟩
end OwnLaws
theorem tw {a0 : Array Value} {Z : State} (hw : ∀ d ∈ tables_1, d.before a0 Z = true) (i : Nat) {d : Jvm.Cond} (q : tables_1[i]? = some d) : d.before a0 Z = true := hw d (List.mem_of_getElem? q)
theorem pn_0 : plainFor (⟨"com/example/runnel/runnel/runtime/BytesPrefixOfPinLaw", "law", "(JJIII)Z"⟩ : MethodName) = true := plainFor_of_name (by first | (simp [plainName, overriddenIn]; done) | decide +kernel)
abbrev y0 : MethodName := ⟨"com/example/runnel/runnel/runtime/BytesPrefixOfPinLaw", "law", "(JJIII)Z"⟩
theorem ef_0 (x0 : Int64) (x1 : Int64) (x2 : Int32) (x3 : Int32) (x4 : Int32) (m : MethodId) : entryFrame m #[(.long x0), (.long x1), (.int x2), (.int x3), (.int x4)] maxLocals = mkF m 0 #[.val (.long x0), .second, .val (.long x1), .second, .val (.int x2), .val (.int x3), .val (.int x4), .unset, .unset, .unset, .unset, .unset, .unset, .unset, .unset, .unset] [] := by first | (simp [entryFrame, mkF, argsToLocals, Value.category, maxLocals]; done) | rfl
theorem d1_0 : decode method_2_code 0 = .ok (.aload_n 0, 1) := by decide +kernel
theorem d1_1 : decode method_2_code 1 = .ok (.iload_n 1, 1) := by decide +kernel
theorem d1_2 : decode method_2_code 2 = .ok (.lload_n 2, 1) := by decide +kernel
theorem d1_3 : decode method_2_code 3 = .ok (.bipush 56, 2) := by decide +kernel
theorem d1_5 : decode method_2_code 5 = .ok (.lushr, 1) := by decide +kernel
theorem d1_6 : decode method_2_code 6 = .ok (.l2i, 1) := by decide +kernel
theorem d1_7 : decode method_2_code 7 = .ok (.i2b, 1) := by decide +kernel
theorem d1_8 : decode method_2_code 8 = .ok (.bastore, 1) := by decide +kernel
theorem d1_9 : decode method_2_code 9 = .ok (.aload_n 0, 1) := by decide +kernel
theorem d1_10 : decode method_2_code 10 = .ok (.iload_n 1, 1) := by decide +kernel
theorem d1_11 : decode method_2_code 11 = .ok (.iconst 1, 1) := by decide +kernel
theorem d1_12 : decode method_2_code 12 = .ok (.iadd, 1) := by decide +kernel
theorem d1_13 : decode method_2_code 13 = .ok (.lload_n 2, 1) := by decide +kernel
theorem d1_14 : decode method_2_code 14 = .ok (.bipush 48, 2) := by decide +kernel
theorem d1_16 : decode method_2_code 16 = .ok (.lushr, 1) := by decide +kernel
theorem d1_17 : decode method_2_code 17 = .ok (.l2i, 1) := by decide +kernel
theorem d1_18 : decode method_2_code 18 = .ok (.i2b, 1) := by decide +kernel
theorem d1_19 : decode method_2_code 19 = .ok (.bastore, 1) := by decide +kernel
theorem d1_20 : decode method_2_code 20 = .ok (.aload_n 0, 1) := by decide +kernel
theorem d1_21 : decode method_2_code 21 = .ok (.iload_n 1, 1) := by decide +kernel
theorem d1_22 : decode method_2_code 22 = .ok (.iconst 2, 1) := by decide +kernel
theorem d1_23 : decode method_2_code 23 = .ok (.iadd, 1) := by decide +kernel
theorem d1_24 : decode method_2_code 24 = .ok (.lload_n 2, 1) := by decide +kernel
theorem d1_25 : decode method_2_code 25 = .ok (.bipush 40, 2) := by decide +kernel
theorem d1_27 : decode method_2_code 27 = .ok (.lushr, 1) := by decide +kernel
theorem d1_28 : decode method_2_code 28 = .ok (.l2i, 1) := by decide +kernel
theorem d1_29 : decode method_2_code 29 = .ok (.i2b, 1) := by decide +kernel
theorem d1_30 : decode method_2_code 30 = .ok (.bastore, 1) := by decide +kernel
theorem d1_31 : decode method_2_code 31 = .ok (.aload_n 0, 1) := by decide +kernel
theorem d1_32 : decode method_2_code 32 = .ok (.iload_n 1, 1) := by decide +kernel
theorem d1_33 : decode method_2_code 33 = .ok (.iconst 3, 1) := by decide +kernel
theorem d1_34 : decode method_2_code 34 = .ok (.iadd, 1) := by decide +kernel
theorem d1_35 : decode method_2_code 35 = .ok (.lload_n 2, 1) := by decide +kernel
theorem d1_36 : decode method_2_code 36 = .ok (.bipush 32, 2) := by decide +kernel
theorem d1_38 : decode method_2_code 38 = .ok (.lushr, 1) := by decide +kernel
theorem d1_39 : decode method_2_code 39 = .ok (.l2i, 1) := by decide +kernel
theorem d1_40 : decode method_2_code 40 = .ok (.i2b, 1) := by decide +kernel
theorem d1_41 : decode method_2_code 41 = .ok (.bastore, 1) := by decide +kernel
theorem d1_42 : decode method_2_code 42 = .ok (.aload_n 0, 1) := by decide +kernel
theorem d1_43 : decode method_2_code 43 = .ok (.iload_n 1, 1) := by decide +kernel
theorem d1_44 : decode method_2_code 44 = .ok (.iconst 4, 1) := by decide +kernel
theorem d1_45 : decode method_2_code 45 = .ok (.iadd, 1) := by decide +kernel
theorem d1_46 : decode method_2_code 46 = .ok (.lload_n 2, 1) := by decide +kernel
theorem d1_47 : decode method_2_code 47 = .ok (.bipush 24, 2) := by decide +kernel
theorem d1_49 : decode method_2_code 49 = .ok (.lushr, 1) := by decide +kernel
theorem d1_50 : decode method_2_code 50 = .ok (.l2i, 1) := by decide +kernel
theorem d1_51 : decode method_2_code 51 = .ok (.i2b, 1) := by decide +kernel
theorem d1_52 : decode method_2_code 52 = .ok (.bastore, 1) := by decide +kernel
theorem d1_53 : decode method_2_code 53 = .ok (.aload_n 0, 1) := by decide +kernel
theorem d1_54 : decode method_2_code 54 = .ok (.iload_n 1, 1) := by decide +kernel
theorem d1_55 : decode method_2_code 55 = .ok (.iconst 5, 1) := by decide +kernel
theorem d1_56 : decode method_2_code 56 = .ok (.iadd, 1) := by decide +kernel
theorem d1_57 : decode method_2_code 57 = .ok (.lload_n 2, 1) := by decide +kernel
theorem d1_58 : decode method_2_code 58 = .ok (.bipush 16, 2) := by decide +kernel
theorem d1_60 : decode method_2_code 60 = .ok (.lushr, 1) := by decide +kernel
theorem d1_61 : decode method_2_code 61 = .ok (.l2i, 1) := by decide +kernel
theorem d1_62 : decode method_2_code 62 = .ok (.i2b, 1) := by decide +kernel
theorem d1_63 : decode method_2_code 63 = .ok (.bastore, 1) := by decide +kernel
theorem d1_64 : decode method_2_code 64 = .ok (.aload_n 0, 1) := by decide +kernel
theorem d1_65 : decode method_2_code 65 = .ok (.iload_n 1, 1) := by decide +kernel
theorem d1_66 : decode method_2_code 66 = .ok (.bipush 6, 2) := by decide +kernel
theorem d1_68 : decode method_2_code 68 = .ok (.iadd, 1) := by decide +kernel
theorem d1_69 : decode method_2_code 69 = .ok (.lload_n 2, 1) := by decide +kernel
theorem d1_70 : decode method_2_code 70 = .ok (.bipush 8, 2) := by decide +kernel
theorem d1_72 : decode method_2_code 72 = .ok (.lushr, 1) := by decide +kernel
theorem d1_73 : decode method_2_code 73 = .ok (.l2i, 1) := by decide +kernel
theorem d1_74 : decode method_2_code 74 = .ok (.i2b, 1) := by decide +kernel
theorem d1_75 : decode method_2_code 75 = .ok (.bastore, 1) := by decide +kernel
theorem d1_76 : decode method_2_code 76 = .ok (.aload_n 0, 1) := by decide +kernel
theorem d1_77 : decode method_2_code 77 = .ok (.iload_n 1, 1) := by decide +kernel
theorem d1_78 : decode method_2_code 78 = .ok (.bipush 7, 2) := by decide +kernel
theorem d1_80 : decode method_2_code 80 = .ok (.iadd, 1) := by decide +kernel
theorem d1_81 : decode method_2_code 81 = .ok (.lload_n 2, 1) := by decide +kernel
theorem d1_82 : decode method_2_code 82 = .ok (.l2i, 1) := by decide +kernel
theorem d1_83 : decode method_2_code 83 = .ok (.i2b, 1) := by decide +kernel
theorem d1_84 : decode method_2_code 84 = .ok (.bastore, 1) := by decide +kernel
theorem d1_85 : decode method_2_code 85 = .ok (.return_, 1) := by decide +kernel
theorem pn_1 : plainFor (⟨"com/example/runnel/runnel/runtime/BytesPrefixOfPinLaw", "put", "([BIJ)V"⟩ : MethodName) = true := plainFor_of_name (by first | (simp [plainName, overriddenIn]; done) | decide +kernel)
abbrev y1 : MethodName := ⟨"com/example/runnel/runnel/runtime/BytesPrefixOfPinLaw", "put", "([BIJ)V"⟩
theorem ef_1 (x0 : Addr) (x1 : Int32) (x2 : Int64) (m : MethodId) : entryFrame m #[(.ref x0), (.int x1), (.long x2)] 4 = mkF m 0 #[.val (.ref x0), .val (.int x1), .val (.long x2), .second] [] := by first | (simp [entryFrame, mkF, argsToLocals, Value.category]; done) | rfl
theorem d2_0 : decode prog_58_method_10_code 0 = .ok (.lconst 0, 1) := by decide +kernel
theorem d2_1 : decode prog_58_method_10_code 1 = .ok (.lstore_n 3, 1) := by decide +kernel
theorem d2_2 : decode prog_58_method_10_code 2 = .ok (.iconst 0, 1) := by decide +kernel
theorem d2_3 : decode prog_58_method_10_code 3 = .ok (.istore 5, 2) := by decide +kernel
theorem d2_5 : decode prog_58_method_10_code 5 = .ok (.iload 5, 2) := by decide +kernel
theorem d2_7 : decode prog_58_method_10_code 7 = .ok (.bipush 8, 2) := by decide +kernel
theorem d2_9 : decode prog_58_method_10_code 9 = .ok (.if_icmp .ge 38, 3) := by decide +kernel
theorem d2_12 : decode prog_58_method_10_code 12 = .ok (.lload_n 3, 1) := by decide +kernel
theorem d2_13 : decode prog_58_method_10_code 13 = .ok (.bipush 8, 2) := by decide +kernel
theorem d2_15 : decode prog_58_method_10_code 15 = .ok (.lshl, 1) := by decide +kernel
theorem d2_16 : decode prog_58_method_10_code 16 = .ok (.iload_n 1, 1) := by decide +kernel
theorem d2_17 : decode prog_58_method_10_code 17 = .ok (.iload 5, 2) := by decide +kernel
theorem d2_19 : decode prog_58_method_10_code 19 = .ok (.iadd, 1) := by decide +kernel
theorem d2_20 : decode prog_58_method_10_code 20 = .ok (.iload_n 2, 1) := by decide +kernel
theorem d2_21 : decode prog_58_method_10_code 21 = .ok (.if_icmp .ge 16, 3) := by decide +kernel
theorem d2_24 : decode prog_58_method_10_code 24 = .ok (.aload_n 0, 1) := by decide +kernel
theorem d2_25 : decode prog_58_method_10_code 25 = .ok (.iload_n 1, 1) := by decide +kernel
theorem d2_26 : decode prog_58_method_10_code 26 = .ok (.iload 5, 2) := by decide +kernel
theorem d2_28 : decode prog_58_method_10_code 28 = .ok (.iadd, 1) := by decide +kernel
theorem d2_29 : decode prog_58_method_10_code 29 = .ok (.baload, 1) := by decide +kernel
theorem d2_30 : decode prog_58_method_10_code 30 = .ok (.sipush 255, 3) := by decide +kernel
theorem d2_33 : decode prog_58_method_10_code 33 = .ok (.iand, 1) := by decide +kernel
theorem d2_34 : decode prog_58_method_10_code 34 = .ok (.goto 4, 3) := by decide +kernel
theorem d2_37 : decode prog_58_method_10_code 37 = .ok (.iconst 0, 1) := by decide +kernel
theorem d2_38 : decode prog_58_method_10_code 38 = .ok (.i2l, 1) := by decide +kernel
theorem d2_39 : decode prog_58_method_10_code 39 = .ok (.lor, 1) := by decide +kernel
theorem d2_40 : decode prog_58_method_10_code 40 = .ok (.lstore_n 3, 1) := by decide +kernel
theorem d2_41 : decode prog_58_method_10_code 41 = .ok (.iinc 5 1, 3) := by decide +kernel
theorem d2_44 : decode prog_58_method_10_code 44 = .ok (.goto (-39), 3) := by decide +kernel
theorem d2_47 : decode prog_58_method_10_code 47 = .ok (.lload_n 3, 1) := by decide +kernel
theorem d2_48 : decode prog_58_method_10_code 48 = .ok (.lreturn, 1) := by decide +kernel
theorem pn_2 : plainFor (⟨"com/example/runnel/runnel/runtime/Bytes", "prefixOf", "([BII)J"⟩ : MethodName) = true := plainFor_of_name (by first | (simp [plainName, overriddenIn]; done) | decide +kernel)
abbrev y2 : MethodName := ⟨"com/example/runnel/runnel/runtime/Bytes", "prefixOf", "([BII)J"⟩
theorem ef_2 (x0 : Addr) (x1 : Int32) (x2 : Int32) (m : MethodId) : entryFrame m #[(.ref x0), (.int x1), (.int x2)] 6 = mkF m 0 #[.val (.ref x0), .val (.int x1), .val (.int x2), .unset, .unset, .unset] [] := by first | (simp [entryFrame, mkF, argsToLocals, Value.category]; done) | rfl
theorem pd_0 : parseMethodDescriptor "([BIJ)V" = some ⟨[(.array .byte), .int, .long], none⟩ := by decide +kernel
theorem pd_1 : parseMethodDescriptor "([BII)J" = some ⟨[(.array .byte), .int, .int], some .long⟩ := by decide +kernel
/-! shifts as shifts of bit vectors -/
theorem b_and31 (q : Int32) (k : Nat) (hk : q.toBitVec.toNat % 32 = k) : (q &&& 31).toBitVec.toNat = k := by
  show (q.toBitVec &&& (31 : Int32).toBitVec).toNat = _
  rw [BitVec.toNat_and, show (31 : Int32).toBitVec.toNat = 2 ^ 5 - 1 from by decide, Nat.and_two_pow_sub_one_eq_mod]; exact hk
theorem b_ishl (x q : Int32) (k : Nat) (hk : q.toBitVec.toNat % 32 = k) : (x <<< (q &&& 31)).toBitVec = x.toBitVec <<< k := by
  show x.toBitVec <<< ((q &&& 31).toBitVec.smod 32) = _
  rw [BitVec.shiftLeft_eq', sm32 q k hk]
theorem b_ishr (x q : Int32) (k : Nat) (hk : q.toBitVec.toNat % 32 = k) : (x >>> (q &&& 31)).toBitVec = x.toBitVec.sshiftRight k := by
  show x.toBitVec.sshiftRight' ((q &&& 31).toBitVec.smod 32) = _
  rw [BitVec.sshiftRight_eq', sm32 q k hk]
theorem b_iushr (x q : Int32) (k : Nat) (hk : q.toBitVec.toNat % 32 = k) : ((x.toUInt32 >>> (q &&& 31).toUInt32).toInt32).toBitVec = x.toBitVec >>> k := by
  show x.toBitVec >>> ((q &&& 31).toBitVec % 32) = _
  rw [BitVec.ushiftRight_eq', BitVec.toNat_umod, b_and31 q k hk]
  congr 1; exact Nat.mod_eq_of_lt (by show k < 32; omega)
theorem b_lshl (x : Int64) (q : Int32) (k : Nat) (hk : q.toBitVec.toNat % 64 = k) : (x <<< (q &&& 0x3f).toInt64).toBitVec = x.toBitVec <<< k := by
  show x.toBitVec <<< ((q &&& 0x3f).toInt64.toBitVec.smod 64) = _
  rw [BitVec.shiftLeft_eq', (sm64 q k hk).1, smod64 k (sm64 q k hk).2]
theorem b_lshr (x : Int64) (q : Int32) (k : Nat) (hk : q.toBitVec.toNat % 64 = k) : (x >>> (q &&& 0x3f).toInt64).toBitVec = x.toBitVec.sshiftRight k := by
  show x.toBitVec.sshiftRight' ((q &&& 0x3f).toInt64.toBitVec.smod 64) = _
  rw [BitVec.sshiftRight_eq', (sm64 q k hk).1, smod64 k (sm64 q k hk).2]
theorem b_lushr (x : Int64) (q : Int32) (k : Nat) (hk : q.toBitVec.toNat % 64 = k) : ((x.toUInt64 >>> (q &&& 0x3f).toInt64.toUInt64).toInt64).toBitVec = x.toBitVec >>> k := by
  have h5 := (sm64 q k hk).2
  show x.toBitVec >>> ((q &&& 0x3f).toInt64.toBitVec % 64) = _
  rw [BitVec.ushiftRight_eq', BitVec.toNat_umod, (sm64 q k hk).1, BitVec.toNat_ofNat]
  congr 1; show k % 2 ^ 64 % 64 = k; omega
theorem nat32 {x : Int32} (hx : 0 ≤ x.toInt) : (x.toBitVec.toNat : Int) = x.toInt := by
  have h2 := x.toBitVec.isLt
  have h3 : x.toInt = x.toBitVec.toInt := rfl
  rw [BitVec.toInt_eq_toNat_cond] at h3
  split at h3 <;> omega
theorem clamp32 {x : Int32} (hx : 0 ≤ x.toInt) : (x.toNatClampNeg : Int) = x.toInt := by
  show (x.toInt.toNat : Int) = x.toInt
  omega
theorem nlt32 {x : Int32} (hx : 0 ≤ x.toInt) : ¬ x < 0 := by
  rw [Int32.lt_iff_toInt_lt, show (0 : Int32).toInt = 0 from by decide]; omega
theorem c_imulR (x k : Int32) (K : Int) (hk : k.toInt = K) : ((x * k).toInt - x.toInt * K) % 4294967296 = 0 := hk ▸ c_imul x k
theorem c_imulL (k x : Int32) (K : Int) (hk : k.toInt = K) : ((k * x).toInt - K * x.toInt) % 4294967296 = 0 := hk ▸ c_imul k x
theorem mulL (k x : Int32) (K : Int) (hk : k.toInt = K) (h1 : -2147483648 ≤ K * x.toInt) (h2 : K * x.toInt < 2147483648) : (k * x).toInt = K * x.toInt := by
  have a := c_imulL k x K hk
  have g := rng32 (k * x)
  generalize K * x.toInt = P at *
  omega
theorem mulR (x k : Int32) (K : Int) (hk : k.toInt = K) (h1 : -2147483648 ≤ x.toInt * K) (h2 : x.toInt * K < 2147483648) : (x * k).toInt = x.toInt * K := by
  have a := c_imulR x k K hk
  have g := rng32 (x * k)
  generalize x.toInt * K = P at *
  omega
/-! eight bytes from the place f on, those at t and behind it 0 -/
def by64 (A B : BitVec 64) (q : Nat) : BitVec 64 := if q < 8 then (A >>> (8 * (7 - q))) &&& 255#64 else (B >>> (8 * (15 - q))) &&& 255#64
def Pf (A B : BitVec 64) (f : Nat) (t : Int) : Nat → BitVec 64
  | 0 => 0#64
  | i + 1 => (Pf A B f t i <<< 8) ||| (if ((f + i : Nat) : Int) < t then by64 A B (f + i) else 0#64)
theorem bit255 (n : Nat) (hn : n < 64) : (255#64).getLsbD n = decide (n < 8) := by
  rw [show (255#64) = BitVec.ofNat 64 (2 ^ 8 - 1) from rfl, BitVec.getLsbD_ofNat, Nat.testBit_two_pow_sub_one]; simp [hn]
theorem by64_bit (A B : BitVec 64) (q n : Nat) (hn : n < 64) : (by64 A B q).getLsbD n = (decide (n < 8) && (if q < 8 then A.getLsbD (8 * (7 - q) + n) else B.getLsbD (8 * (15 - q) + n))) := by
  rw [by64]
  split
  · rw [BitVec.getLsbD_and, BitVec.getLsbD_ushiftRight, bit255 n hn, Bool.and_comm]
  · rw [BitVec.getLsbD_and, BitVec.getLsbD_ushiftRight, bit255 n hn, Bool.and_comm]
theorem Pf_bit (A B : BitVec 64) (f : Nat) (t : Int) : ∀ m n, m ≤ 8 → n < 64 → (Pf A B f t m).getLsbD n = (decide (n < 8 * m) && (decide (((f + (m - 1 - n / 8) : Nat) : Int) < t) && (by64 A B (f + (m - 1 - n / 8))).getLsbD (n % 8)))
  | 0, n, _, _ => by simp [Pf]
  | m + 1, n, hm, hn => by
    rw [Pf, BitVec.getLsbD_or, BitVec.getLsbD_shiftLeft]
    by_cases h8 : n < 8
    · have e1 : n / 8 = 0 := by omega
      have e2 : n % 8 = n := by omega
      rw [e1, e2, show m + 1 - 1 - 0 = m by omega]
      by_cases c : ((f + m : Nat) : Int) < t
      · rw [if_pos c]; simp only [h8, hn, c, decide_true, Bool.not_true, Bool.and_false, Bool.false_and, Bool.false_or, Bool.true_and]
        rw [decide_eq_true (by omega), Bool.true_and]
      · rw [if_neg c, decide_eq_false c]; simp [h8]
    · rw [Pf_bit A B f t m (n - 8) (by omega) (by omega)]
      have e1 : m + 1 - 1 - n / 8 = m - 1 - (n - 8) / 8 ∨ ¬ n < 8 * (m + 1) := by omega
      have e2 : n % 8 = (n - 8) % 8 := by omega
      have e3 : decide (n - 8 < 8 * m) = decide (n < 8 * (m + 1)) := decide_eq_decide.mpr (by omega)
      have e4 : (if ((f + m : Nat) : Int) < t then by64 A B (f + m) else 0#64).getLsbD n = false := by
        split
        · rw [by64_bit _ _ _ _ hn]; simp [h8]
        · simp
      rw [e4, e3, e2]
      rcases e1 with e1 | e1
      · rw [e1]; simp [h8, hn]
      · simp [e1]
/-- the word of the eight bytes from f on -/
def Wd (A B : BitVec 64) (f : Nat) : BitVec 64 := if f = 0 then A else (A <<< (8 * f)) ||| (B >>> (64 - 8 * f))
theorem Wd_bit (A B : BitVec 64) (f n : Nat) (hf : f ≤ 7) (hn : n < 64) : (Wd A B f).getLsbD n = (by64 A B (f + (7 - n / 8))).getLsbD (n % 8) := by
  rw [by64_bit _ _ _ _ (by omega), decide_eq_true (by omega : n % 8 < 8), Bool.true_and, Wd]
  by_cases h0 : f = 0
  · rw [if_pos h0, if_pos (by omega)]; congr 1; omega
  · rw [if_neg h0, BitVec.getLsbD_or, BitVec.getLsbD_shiftLeft, BitVec.getLsbD_ushiftRight]
    by_cases c : n < 8 * f
    · rw [if_neg (by omega)]
      simp only [c, hn, decide_true, Bool.not_true, Bool.and_false, Bool.false_and, Bool.false_or]
      congr 1; omega
    · rw [if_pos (by omega), BitVec.getLsbD_of_ge B (64 - 8 * f + n) (by omega), Bool.or_false]
      simp only [c, hn, decide_true, decide_false, Bool.not_false, Bool.and_true, Bool.true_and]
      congr 1; omega
theorem Pf_none (A B : BitVec 64) (f : Nat) (t : Int) (ht : t ≤ f) : Pf A B f t 8 = 0#64 := by
  apply BitVec.eq_of_getLsbD_eq
  intro n hn
  rw [Pf_bit A B f t 8 n (by decide) hn, decide_eq_false (by omega : ¬ ((f + (8 - 1 - n / 8) : Nat) : Int) < t)]; simp
theorem Pf_all (A B : BitVec 64) (f : Nat) (t : Int) (hf : f ≤ 7) (ht : f + 8 ≤ t) : Pf A B f t 8 = Wd A B f := by
  apply BitVec.eq_of_getLsbD_eq
  intro n hn
  rw [Pf_bit A B f t 8 n (by decide) hn, Wd_bit A B f n hf hn, decide_eq_true (by omega : ((f + (8 - 1 - n / 8) : Nat) : Int) < t), decide_eq_true (by omega : n < 8 * 8)]; simp
theorem Pf_some (A B : BitVec 64) (f k : Nat) (t : Int) (hf : f ≤ 7) (ht : t = f + k) (hk : k < 8) : Pf A B f t 8 = Wd A B f &&& (((-1 : Int64).toBitVec >>> (8 * k)) ^^^ (-1 : Int64).toBitVec) := by
  have e1 : (-1 : Int64).toBitVec = BitVec.allOnes 64 := by decide
  apply BitVec.eq_of_getLsbD_eq
  intro n hn
  rw [Pf_bit A B f t 8 n (by decide) hn, BitVec.getLsbD_and, Wd_bit A B f n hf hn, BitVec.getLsbD_xor, BitVec.getLsbD_ushiftRight, e1, BitVec.getLsbD_allOnes, BitVec.getLsbD_allOnes, decide_eq_true hn, Bool.true_and, Bool.and_comm]
  congr 1
  by_cases c : 8 * k + n < 64
  · rw [decide_eq_true c, decide_eq_false (by omega)]; rfl
  · rw [decide_eq_false c, decide_eq_true (by omega)]; rfl
abbrev rm00 : Room := { frames := 0, cells := 0, slots := 0, locals := 0 }
theorem addk (x k : Int32) (o K : Nat) (hx : x.toInt = o) (hk : k.toInt = K) (ho : o + K < 2000) : ¬ (x + k) < 0 ∧ (x + k).toNatClampNeg = o + K := by
  have a := c_iadd x k
  have g := rng32 (x + k)
  have e : (x + k).toInt = ((o + K : Nat) : Int) := by omega
  have c := clamp32 (x := x + k) (by omega)
  exact ⟨nlt32 (by omega), by omega⟩
theorem addz (x : Int32) (o : Nat) (hx : x.toInt = o) : ¬ x < 0 ∧ x.toNatClampNeg = o := by
  have c := clamp32 (x := x) (by omega)
  exact ⟨nlt32 (by omega), by omega⟩
/-- the byte of x that a shift by q brings down -/
abbrev bq (x : Int64) (q : Int32) : Value := .int ((x.toUInt64 >>> (q &&& 0x3f).toInt64.toUInt64).toInt64.toInt32.toInt8.toInt32.toInt8.toInt32)
set_option maxRecDepth 65536 in
set_option maxHeartbeats 40000000 in
theorem c_1 (l : Launch) (Z : State) (a : Addr) (x1 : Int32) (x2 : Int64) (vs : List Value) (o : Nat) (n0 : Nat) (h : Heap) (hn : n0 ≤ h.size) (A : Ars Z h a .byte vs) (g : n0 ≤ a) (ho : x1.toInt = o) (hl : o + 8 ≤ vs.length) (hs : vs.length < 1000) :
    Ct l Z y1 method_2_code 4 none rm00 n0 [] #[.ref a, .int x1, .long x2] h (fun v h' => v = none ∧ Ars Z h' a .byte ((((((((vs.set o (bq x2 56)).set (o + 1) (bq x2 48)).set (o + 2) (bq x2 40)).set (o + 3) (bq x2 32)).set (o + 4) (bq x2 24)).set (o + 5) (bq x2 16)).set (o + 6) (bq x2 8)).set (o + 7) (.int x2.toInt32.toInt8.toInt32.toInt8.toInt32))) := by
  refine ct_of pn_1 hn (ef_1 a x1 x2) fun X C => ?_
  have q0 := addz x1 o ho
  have q1 := addk x1 1 o 1 ho (by decide) (by omega)
  have q2 := addk x1 2 o 2 ho (by decide) (by omega)
  have q3 := addk x1 3 o 3 ho (by decide) (by omega)
  have q4 := addk x1 4 o 4 ho (by decide) (by omega)
  have q5 := addk x1 5 o 5 ho (by decide) (by omega)
  have q6 := addk x1 6 o 6 ho (by decide) (by omega)
  have q7 := addk x1 7 o 7 ho (by decide) (by omega)
  refine w_aloadN C (pc' := 1) d1_0 rfl rfl rfl ?_
  refine w_iloadN C (pc' := 2) d1_1 rfl rfl ?_
  refine w_lloadN C (pc' := 3) d1_2 rfl rfl ?_
  refine w_bipush C (pc' := 5) (z := 56) d1_3 rfl rfl ?_
  refine w_lushr C (pc' := 6) d1_5 rfl ?_
  refine w_l2i C (pc' := 7) d1_6 rfl ?_
  refine w_i2b C (pc' := 8) d1_7 rfl ?_
  refine w_bastore C (pc' := 9) d1_8 A g q0.1 q0.2 (by omega) rfl (fun h8 W8 A8 => ?_)
  refine w_aloadN C (pc' := 10) d1_9 rfl rfl rfl ?_
  refine w_iloadN C (pc' := 11) d1_10 rfl rfl ?_
  refine w_iconst C (pc' := 12) (z := 1) d1_11 rfl rfl ?_
  refine w_iadd C (pc' := 13) d1_12 rfl ?_
  refine w_lloadN C (pc' := 14) d1_13 rfl rfl ?_
  refine w_bipush C (pc' := 16) (z := 48) d1_14 rfl rfl ?_
  refine w_lushr C (pc' := 17) d1_16 rfl ?_
  refine w_l2i C (pc' := 18) d1_17 rfl ?_
  refine w_i2b C (pc' := 19) d1_18 rfl ?_
  refine w_bastore C (pc' := 20) d1_19 A8 g q1.1 q1.2 (by simp only [List.length_set]; omega) rfl (fun h19 W19 A19 => ?_)
  refine w_aloadN C (pc' := 21) d1_20 rfl rfl rfl ?_
  refine w_iloadN C (pc' := 22) d1_21 rfl rfl ?_
  refine w_iconst C (pc' := 23) (z := 2) d1_22 rfl rfl ?_
  refine w_iadd C (pc' := 24) d1_23 rfl ?_
  refine w_lloadN C (pc' := 25) d1_24 rfl rfl ?_
  refine w_bipush C (pc' := 27) (z := 40) d1_25 rfl rfl ?_
  refine w_lushr C (pc' := 28) d1_27 rfl ?_
  refine w_l2i C (pc' := 29) d1_28 rfl ?_
  refine w_i2b C (pc' := 30) d1_29 rfl ?_
  refine w_bastore C (pc' := 31) d1_30 A19 g q2.1 q2.2 (by simp only [List.length_set]; omega) rfl (fun h30 W30 A30 => ?_)
  refine w_aloadN C (pc' := 32) d1_31 rfl rfl rfl ?_
  refine w_iloadN C (pc' := 33) d1_32 rfl rfl ?_
  refine w_iconst C (pc' := 34) (z := 3) d1_33 rfl rfl ?_
  refine w_iadd C (pc' := 35) d1_34 rfl ?_
  refine w_lloadN C (pc' := 36) d1_35 rfl rfl ?_
  refine w_bipush C (pc' := 38) (z := 32) d1_36 rfl rfl ?_
  refine w_lushr C (pc' := 39) d1_38 rfl ?_
  refine w_l2i C (pc' := 40) d1_39 rfl ?_
  refine w_i2b C (pc' := 41) d1_40 rfl ?_
  refine w_bastore C (pc' := 42) d1_41 A30 g q3.1 q3.2 (by simp only [List.length_set]; omega) rfl (fun h41 W41 A41 => ?_)
  refine w_aloadN C (pc' := 43) d1_42 rfl rfl rfl ?_
  refine w_iloadN C (pc' := 44) d1_43 rfl rfl ?_
  refine w_iconst C (pc' := 45) (z := 4) d1_44 rfl rfl ?_
  refine w_iadd C (pc' := 46) d1_45 rfl ?_
  refine w_lloadN C (pc' := 47) d1_46 rfl rfl ?_
  refine w_bipush C (pc' := 49) (z := 24) d1_47 rfl rfl ?_
  refine w_lushr C (pc' := 50) d1_49 rfl ?_
  refine w_l2i C (pc' := 51) d1_50 rfl ?_
  refine w_i2b C (pc' := 52) d1_51 rfl ?_
  refine w_bastore C (pc' := 53) d1_52 A41 g q4.1 q4.2 (by simp only [List.length_set]; omega) rfl (fun h52 W52 A52 => ?_)
  refine w_aloadN C (pc' := 54) d1_53 rfl rfl rfl ?_
  refine w_iloadN C (pc' := 55) d1_54 rfl rfl ?_
  refine w_iconst C (pc' := 56) (z := 5) d1_55 rfl rfl ?_
  refine w_iadd C (pc' := 57) d1_56 rfl ?_
  refine w_lloadN C (pc' := 58) d1_57 rfl rfl ?_
  refine w_bipush C (pc' := 60) (z := 16) d1_58 rfl rfl ?_
  refine w_lushr C (pc' := 61) d1_60 rfl ?_
  refine w_l2i C (pc' := 62) d1_61 rfl ?_
  refine w_i2b C (pc' := 63) d1_62 rfl ?_
  refine w_bastore C (pc' := 64) d1_63 A52 g q5.1 q5.2 (by simp only [List.length_set]; omega) rfl (fun h63 W63 A63 => ?_)
  refine w_aloadN C (pc' := 65) d1_64 rfl rfl rfl ?_
  refine w_iloadN C (pc' := 66) d1_65 rfl rfl ?_
  refine w_bipush C (pc' := 68) (z := 6) d1_66 rfl rfl ?_
  refine w_iadd C (pc' := 69) d1_68 rfl ?_
  refine w_lloadN C (pc' := 70) d1_69 rfl rfl ?_
  refine w_bipush C (pc' := 72) (z := 8) d1_70 rfl rfl ?_
  refine w_lushr C (pc' := 73) d1_72 rfl ?_
  refine w_l2i C (pc' := 74) d1_73 rfl ?_
  refine w_i2b C (pc' := 75) d1_74 rfl ?_
  refine w_bastore C (pc' := 76) d1_75 A63 g q6.1 q6.2 (by simp only [List.length_set]; omega) rfl (fun h75 W75 A75 => ?_)
  refine w_aloadN C (pc' := 77) d1_76 rfl rfl rfl ?_
  refine w_iloadN C (pc' := 78) d1_77 rfl rfl ?_
  refine w_bipush C (pc' := 80) (z := 7) d1_78 rfl rfl ?_
  refine w_iadd C (pc' := 81) d1_80 rfl ?_
  refine w_lloadN C (pc' := 82) d1_81 rfl rfl ?_
  refine w_l2i C (pc' := 83) d1_82 rfl ?_
  refine w_i2b C (pc' := 84) d1_83 rfl ?_
  refine w_bastore C (pc' := 85) d1_84 A75 g q7.1 q7.2 (by simp only [List.length_set]; omega) rfl (fun h84 W84 A84 => ?_)
  exact w_vret C d1_85 (by decide) (by decide) ⟨rfl, A84⟩
theorem i2l_bits (v : Int32) (h : 0 ≤ v.toInt) : v.toInt64.toBitVec.toNat = v.toBitVec.toNat := by
  have h1 := c_i2l v
  have h2 := nat32 h
  have h3 : v.toInt64.toInt = v.toInt64.toBitVec.toInt := rfl
  rw [BitVec.toInt_eq_toNat_cond] at h3
  split at h3 <;> omega
set_option maxRecDepth 65536 in
set_option maxHeartbeats 40000000 in
theorem c_2 (l : Launch) (Z : State) (a : Addr) (x1 x2 : Int32) (vs : List Value) (A B : BitVec 64) (f : Nat) (n0 : Nat) (h : Heap) (hn : n0 ≤ h.size) (Ar : Ars Z h a .byte vs) (hf : x1.toInt = f) (hf7 : f ≤ 7) (hv : ∀ i, i < 16 → ∃ w : Int32, vs[i]? = some (.int w) ∧ (w &&& 255).toInt64.toBitVec = by64 A B i) :
    Ct l Z y2 prog_58_method_10_code 6 (some .long) rm00 n0 [] #[.ref a, .int x1, .int x2] h (fun v h' => (∃ r : Int64, v = some (.long r) ∧ r.toBitVec = Pf A B f x2.toInt 8) ∧ h' = h) := by
  refine ct_of pn_2 hn (ef_2 a x1 x2) fun X C => ?_
  have z1 : (1 : Int32).toInt = 1 := by decide
  have z8 : (8 : Int32).toInt = 8 := by decide
  have J5 : ∀ (d i : Nat) (pp : Int64) (ii : Int32), i + d = 8 → ii.toInt = i → pp.toBitVec = Pf A B f x2.toInt i → Wp X 0 0 h 5 #[.val (.ref a), .val (.int x1), .val (.int x2), .val (.long pp), .second, .val (.int ii)] [] := by
    intro d
    induction d with
    | zero =>
      intro i pp ii hd hii hpp
      obtain rfl : i = 8 := by omega
      refine w_iload C (pc' := 7) d2_5 rfl rfl ?_
      refine w_bipush C (pc' := 9) (z := 8) d2_7 rfl rfl ?_
      refine w_jcmp_ge C (pc' := 47) (pn := 12) d2_9 (by decide) (by decide) rfl (fun c9 => ?_) (fun c9 => ?_)
      rotate_left
      · exact absurd c9 (by omega)
      refine w_lloadN C (pc' := 48) d2_47 rfl rfl ?_
      exact w_lret C d2_48 (by decide) (by decide) ⟨⟨_, rfl, hpp⟩, rfl⟩
    | succ d ih =>
      intro i pp ii hd hii hpp
      have a1 := c_iadd ii 1
      have g1 := rng32 (ii + 1)
      have a2 := c_iadd x1 ii
      have g2 := rng32 (x1 + ii)
      have c2 := clamp32 (x := x1 + ii) (by omega)
      have nx : ∀ v : Int32, v.toInt64.toBitVec = (if ((f + i : Nat) : Int) < x2.toInt then by64 A B (f + i) else 0#64) → (pp <<< ((8 : Int32) &&& 0x3f).toInt64 ||| v.toInt64).toBitVec = Pf A B f x2.toInt (i + 1) := by
        intro v hv
        rw [Int64.toBitVec_or, b_lshl pp 8 8 (by decide), hpp, hv, Pf]
      obtain ⟨w, hw1, hw2⟩ := hv (f + i) (by omega)
      refine w_iload C (pc' := 7) d2_5 rfl rfl ?_
      refine w_bipush C (pc' := 9) (z := 8) d2_7 rfl rfl ?_
      refine w_jcmp_ge C (pc' := 47) (pn := 12) d2_9 (by decide) (by decide) rfl (fun c9 => ?_) (fun c9 => ?_)
      · exact absurd c9 (by omega)
      refine w_lloadN C (pc' := 13) d2_12 rfl rfl ?_
      refine w_bipush C (pc' := 15) (z := 8) d2_13 rfl rfl ?_
      refine w_lshl C (pc' := 16) d2_15 rfl ?_
      refine w_iloadN C (pc' := 17) d2_16 rfl rfl ?_
      refine w_iload C (pc' := 19) d2_17 rfl rfl ?_
      refine w_iadd C (pc' := 20) d2_19 rfl ?_
      refine w_iloadN C (pc' := 21) d2_20 rfl rfl ?_
      refine w_jcmp_ge C (pc' := 37) (pn := 24) d2_21 (by decide) (by decide) rfl (fun c21 => ?_) (fun c21 => ?_)
      · (refine w_iconst C (pc' := 38) (z := 0) d2_37 rfl rfl ?_; refine w_i2l C (pc' := 39) d2_38 rfl ?_; refine w_lor C (pc' := 40) d2_39 rfl ?_; refine w_lstoreN C (pc' := 41) (ls' := #[_, _, _, _, _, _]) d2_40 rfl rfl ?_; refine w_iinc C (pc' := 44) (ls' := #[_, _, _, _, _, _]) (z := 1) d2_41 rfl rfl rfl rfl ?_; refine w_goto C (pc' := 5) d2_44 (by decide) (by decide) ?_; exact ih (i + 1) _ _ (by omega) (by omega) (nx 0 (by rw [if_neg (by omega)]; decide)))
      refine w_aloadN C (pc' := 25) d2_24 rfl rfl rfl ?_
      refine w_iloadN C (pc' := 26) d2_25 rfl rfl ?_
      refine w_iload C (pc' := 28) d2_26 rfl rfl ?_
      refine w_iadd C (pc' := 29) d2_28 rfl ?_
      refine w_baload C (pc' := 30) d2_29 Ar (nlt32 (by omega)) (i := f + i) (by omega) hw1 rfl ?_
      refine w_sipush C (pc' := 33) (z := 255) d2_30 rfl rfl ?_
      refine w_iand C (pc' := 34) d2_33 rfl ?_
      refine w_goto C (pc' := 38) d2_34 (by decide) (by decide) ?_
      refine w_i2l C (pc' := 39) d2_38 rfl ?_
      refine w_lor C (pc' := 40) d2_39 rfl ?_
      refine w_lstoreN C (pc' := 41) (ls' := #[_, _, _, _, _, _]) d2_40 rfl rfl ?_
      refine w_iinc C (pc' := 44) (ls' := #[_, _, _, _, _, _]) (z := 1) d2_41 rfl rfl rfl rfl ?_
      refine w_goto C (pc' := 5) d2_44 (by decide) (by decide) ?_
      exact ih (i + 1) _ _ (by omega) (by omega) (nx _ (by rw [if_pos (by omega)]; exact hw2))
  refine w_lconst C (pc' := 1) (z := 0) d2_0 rfl rfl ?_
  refine w_lstoreN C (pc' := 2) (ls' := #[_, _, _, _, _, _]) d2_1 rfl rfl ?_
  refine w_iconst C (pc' := 3) (z := 0) d2_2 rfl rfl ?_
  refine w_istore C (pc' := 5) (ls' := #[_, _, _, _, _, _]) d2_3 rfl rfl ?_
  -- STOP at 5
  exact J5 8 0 0 0 rfl (by decide) rfl
theorem by_of (x : Int64) (Y : BitVec 64) (hx : x.toBitVec = Y) : (x.toInt32.toInt8.toInt32.toInt8.toInt32 &&& 255).toInt64.toBitVec = Y &&& 255#64 := by
  subst hx
  have h0 := c_l2i x
  have h1 := c_i2b x.toInt32
  have h2 := c_i2b x.toInt32.toInt8.toInt32
  have h3 := c_mask x.toInt32.toInt8.toInt32.toInt8.toInt32 255 8 (by decide) (by decide)
  have h4 := nat32 (x := x.toInt32.toInt8.toInt32.toInt8.toInt32 &&& 255) (by omega)
  have h6 := i2l_bits (x.toInt32.toInt8.toInt32.toInt8.toInt32 &&& 255) (by omega)
  apply BitVec.eq_of_toNat_eq
  rw [BitVec.toNat_and, show (255#64).toNat = 2 ^ 8 - 1 from rfl, Nat.and_two_pow_sub_one_eq_mod]
  have h5 : x.toInt = x.toBitVec.toInt := rfl
  rw [BitVec.toInt_eq_toNat_cond] at h5
  split at h5 <;> omega
set_option maxRecDepth 65536 in
set_option maxHeartbeats 40000000 in
theorem law_ct (l : Launch) (Z : State) (a0 : Array Value) (hw : ∀ d ∈ tables_1, d.before a0 Z = true) (x0 x1 : Int64) (x2 x3 x4 : Int32) (n0 : Nat) (h : Heap) (hn : n0 ≤ h.size) :
    Ct l Z x code maxLocals ret room_1 n0 tables_1 #[.long x0, .long x1, .int x2, .int x3, .int x4] h (fun v _ => v = some (.int 1)) := by
  refine ct_of pn_0 hn (ef_0 x0 x1 x2 x3 x4) fun X C => ?_
  have J50 : ∀ (h' : Heap) (a : Addr) (vs : List Value) (xf xt : Int32) (f : Nat), Ars Z h' a .byte vs → (∀ i, i < 16 → ∃ w : Int32, vs[i]? = some (.int w) ∧ (w &&& 255).toInt64.toBitVec = by64 x0.toBitVec x1.toBitVec i) → xf.toInt = f → f ≤ 7 →
      Wp X 1 16 h' 50 #[.val (.long x0), .second, .val (.long x1), .second, .val (.int x2), .val (.int x3), .val (.int x4), .val (.ref a), .val (.int xf), .unset, .unset, .unset, .unset, .unset, .unset, .unset] [.int xt] := by
    intro h' a vs xf xt f Ar hv hf hf7
    have gt := rng32 xt
    have z8 : (8 : Int32).toInt = 8 := by decide
    have z64 : (64 : Int32).toInt = 64 := by decide
    have J79 : ∀ w : Int64, w.toBitVec = Wd x0.toBitVec x1.toBitVec f → Wp X 1 16 h' 79 #[.val (.long x0), .second, .val (.long x1), .second, .val (.int x2), .val (.int x3), .val (.int x4), .val (.ref a), .val (.int xf), .val (.int xt), .unset, .unset, .unset, .unset, .unset, .unset] [.long w] := by
      intro w hw1
      have e1 := c_i2l xt
      have e2 := c_i2l xf
      have sb := c_lsub xt.toInt64 xf.toInt64
      have g2 := rng64 (xt.toInt64 - xf.toInt64)
      have z0 : (0 : Int64).toInt = 0 := by decide
      have zL8 : (8 : Int64).toInt = 8 := by decide
      have J138 : ∀ (d r : Int64), r.toBitVec = Pf x0.toBitVec x1.toBitVec f xt.toInt 8 → Wp X 1 16 h' 138 #[.val (.long x0), .second, .val (.long x1), .second, .val (.int x2), .val (.int x3), .val (.int x4), .val (.ref a), .val (.int xf), .val (.int xt), .val (.long w), .second, .val (.long d), .second, .val (.long r), .second] [] := by
        intro d r hr
        refine w_aload C (pc' := 140) at_138 rfl rfl rfl ?_
        refine w_iload C (pc' := 142) at_140 rfl rfl ?_
        refine w_iload C (pc' := 144) at_142 rfl rfl ?_
        refine Wp.size C fun sz144 => ?_
        refine w_static C (pc' := 147) (W := 0) (tw hw 5 rfl) (tw hw 6 rfl) (tw hw 7 rfl) (tw hw 8 rfl) (by decide) pd_1 at_144 (c_2 X.l Z a xf xt vs x0.toBitVec x1.toBitVec f n0 h' sz144 Ar hf hf7 hv) rfl rfl rfl (by decide) rfl (by decide) (by decide) (by decide) rfl (fun v144 h144 q144 => ?_)
        obtain ⟨⟨r', rfl, hr'⟩, rfl⟩ := q144
        show Wp X _ _ _ 147 _ [_]
        obtain rfl : r' = r := Int64.toBitVec_inj.mp (hr'.trans hr.symm)
        refine w_lload C (pc' := 149) at_147 rfl rfl ?_
        refine w_lc_ne C (pm := 150) (pc' := 157) (pn := 153) at_149 rfl at_150 (by decide) (by decide) rfl (fun c149 => ?_) (fun c149 => ?_)
        · exact (c149 rfl).elim
        refine w_iconst C (pc' := 154) (z := 1) at_153 rfl rfl ?_
        refine w_goto C (pc' := 158) at_154 (by decide) (by decide) ?_
        exact w_iret C at_158 (by simp) rfl (by decide) (by decide) rfl
      refine w_lstore C (pc' := 81) (ls' := #[_, _, _, _, _, _, _, _, _, _, _, _, _, _, _, _]) at_79 rfl rfl ?_
      refine w_iload C (pc' := 83) at_81 rfl rfl ?_
      refine w_i2l C (pc' := 84) at_83 rfl ?_
      refine w_iload C (pc' := 86) at_84 rfl rfl ?_
      refine w_i2l C (pc' := 87) at_86 rfl ?_
      refine w_lsub C (pc' := 88) at_87 rfl ?_
      refine w_lstore C (pc' := 90) (ls' := #[_, _, _, _, _, _, _, _, _, _, _, _, _, _, _, _]) at_88 rfl rfl ?_
      refine w_lload C (pc' := 92) at_90 rfl rfl ?_
      refine w_lconst C (pc' := 93) (z := 0) at_92 rfl rfl ?_
      refine w_jc_gt C (pm := 94) (pc' := 103) (pn := 97) at_93 rfl at_94 (by decide) (by decide) rfl (fun c93 => ?_) (fun c93 => ?_)
      · refine w_lload C (pc' := 105) at_103 rfl rfl ?_
        refine w_ldc2 C (pc' := 108) (tw hw 9 rfl) at_105 rfl ?_
        refine w_jc_lt C (pm := 109) (pc' := 119) (pn := 112) at_108 rfl at_109 (by decide) (by decide) rfl (fun c108 => ?_) (fun c108 => ?_)
        · have li := c_l2i (xt.toInt64 - xf.toInt64)
          have g3 := rng32 (xt.toInt64 - xf.toInt64).toInt32
          have ml := mulL 8 (xt.toInt64 - xf.toInt64).toInt32 8 (by decide) (by omega) (by omega)
          have g4 := rng32 (8 * (xt.toInt64 - xf.toInt64).toInt32)
          have nq := nat32 (x := 8 * (xt.toInt64 - xf.toInt64).toInt32) (by omega)
          have ek : (w &&& ((((-1 : Int64)).toUInt64 >>> ((8 * (xt.toInt64 - xf.toInt64).toInt32) &&& 0x3f).toInt64.toUInt64).toInt64 ^^^ (-1))).toBitVec = Pf x0.toBitVec x1.toBitVec f xt.toInt 8 := by
            rw [Int64.toBitVec_and, Int64.toBitVec_xor, b_lushr (-1) _ (8 * (xt.toInt - xf.toInt).toNat) (by omega), hw1, Pf_some _ _ f (xt.toInt - xf.toInt).toNat _ hf7 (by omega) (by omega)]
          refine w_lload C (pc' := 121) at_119 rfl rfl ?_
          refine w_ldc2 C (pc' := 124) (tw hw 10 rfl) at_121 rfl ?_
          refine w_bipush C (pc' := 126) (z := 8) at_124 rfl rfl ?_
          refine w_lload C (pc' := 128) at_126 rfl rfl ?_
          refine w_l2i C (pc' := 129) at_128 rfl ?_
          refine w_imul C (pc' := 130) at_129 rfl ?_
          refine w_lushr C (pc' := 131) at_130 rfl ?_
          refine w_ldc2 C (pc' := 134) (tw hw 10 rfl) at_131 rfl ?_
          refine w_lxor C (pc' := 135) at_134 rfl ?_
          refine w_land C (pc' := 136) at_135 rfl ?_
          refine w_lstore C (pc' := 138) (ls' := #[_, _, _, _, _, _, _, _, _, _, _, _, _, _, _, _]) at_136 rfl rfl ?_
          -- STOP at 138
          exact J138 _ _ ek
        · refine w_lload C (pc' := 114) at_112 rfl rfl ?_
          refine w_lstore C (pc' := 116) (ls' := #[_, _, _, _, _, _, _, _, _, _, _, _, _, _, _, _]) at_114 rfl rfl ?_
          refine w_goto C (pc' := 138) at_116 (by decide) (by decide) ?_
          -- STOP at 138
          exact J138 _ _ (by rw [hw1, Pf_all _ _ f _ hf7 (by omega)])
      · refine w_lconst C (pc' := 98) (z := 0) at_97 rfl rfl ?_
        refine w_lstore C (pc' := 100) (ls' := #[_, _, _, _, _, _, _, _, _, _, _, _, _, _, _, _]) at_98 rfl rfl ?_
        refine w_goto C (pc' := 138) at_100 (by decide) (by decide) ?_
        -- STOP at 138
        exact J138 _ _ (by rw [Pf_none _ _ f _ (by omega)]; rfl)
    have m1 := mulL 8 xf 8 (by decide) (by omega) (by omega)
    have g1 := rng32 (8 * xf)
    have n1 := nat32 (x := 8 * xf) (by omega)
    have s1 := c_isub 64 (8 * xf)
    have g3 := rng32 (64 - 8 * xf)
    have n2 := nat32 (x := 64 - 8 * xf) (by omega)
    refine w_istore C (pc' := 52) (ls' := #[_, _, _, _, _, _, _, _, _, _, _, _, _, _, _, _]) at_50 rfl rfl ?_
    refine w_iload C (pc' := 54) at_52 rfl rfl ?_
    refine w_jf_ne C (pc' := 61) (pn := 57) at_54 (by decide) (by decide) rfl (fun c54 => ?_) (fun c54 => ?_)
    · refine w_lloadN C (pc' := 62) at_61 rfl rfl ?_
      refine w_bipush C (pc' := 64) (z := 8) at_62 rfl rfl ?_
      refine w_iload C (pc' := 66) at_64 rfl rfl ?_
      refine w_imul C (pc' := 67) at_66 rfl ?_
      refine w_lshl C (pc' := 68) at_67 rfl ?_
      refine w_lloadN C (pc' := 69) at_68 rfl rfl ?_
      refine w_bipush C (pc' := 71) (z := 64) at_69 rfl rfl ?_
      refine w_bipush C (pc' := 73) (z := 8) at_71 rfl rfl ?_
      refine w_iload C (pc' := 75) at_73 rfl rfl ?_
      refine w_imul C (pc' := 76) at_75 rfl ?_
      refine w_isub C (pc' := 77) at_76 rfl ?_
      refine w_lushr C (pc' := 78) at_77 rfl ?_
      refine w_lor C (pc' := 79) at_78 rfl ?_
      -- STOP at 79
      exact J79 _ (by rw [Int64.toBitVec_or, b_lshl x0 _ (8 * f) (by omega), b_lushr x1 _ (64 - 8 * f) (by omega), Wd, if_neg (by omega)])
    · refine w_lloadN C (pc' := 58) at_57 rfl rfl ?_
      refine w_goto C (pc' := 79) at_58 (by decide) (by decide) ?_
      -- STOP at 79
      exact J79 _ (by rw [Wd, if_pos (by omega)])
  have m := c_mask x2 7 3 (by decide) (by decide)
  refine w_bipush C (pc' := 2) (z := 16) at_0 rfl rfl ?_
  refine w_newarray C (pc' := 4) (cap := 16) (tw hw 0 rfl) at_2 (by decide) (by decide) (by decide) (by decide) (by decide) rfl (fun h2 a2 e2 g2 E2 A2 => ?_)
  refine w_astore C (pc' := 6) (ls' := #[_, _, _, _, _, _, _, _, _, _, _, _, _, _, _, _]) at_4 rfl rfl rfl ?_
  refine w_aload C (pc' := 8) at_6 rfl rfl rfl ?_
  refine w_iconst C (pc' := 9) (z := 0) at_8 rfl rfl ?_
  refine w_lloadN C (pc' := 10) at_9 rfl rfl ?_
  refine Wp.size C fun sz10 => ?_
  refine w_static C (pc' := 13) (W := 0) (tw hw 1 rfl) (tw hw 2 rfl) (tw hw 3 rfl) (tw hw 4 rfl) (by decide) pd_0 at_10 (c_1 X.l Z _ 0 x0 _ 0 n0 _ sz10 A2 g2 (by decide) (by decide) (by decide)) rfl rfl rfl (by decide) rfl (by decide) (by decide) (by decide) rfl (fun v10 h10 q10 => ?_)
  obtain ⟨rfl, A10⟩ := q10
  show Wp X _ _ _ 13 _ []
  refine w_aload C (pc' := 15) at_13 rfl rfl rfl ?_
  refine w_bipush C (pc' := 17) (z := 8) at_15 rfl rfl ?_
  refine w_lloadN C (pc' := 18) at_17 rfl rfl ?_
  refine Wp.size C fun sz18 => ?_
  refine w_static C (pc' := 21) (W := 0) (tw hw 1 rfl) (tw hw 2 rfl) (tw hw 3 rfl) (tw hw 4 rfl) (by decide) pd_0 at_18 (c_1 X.l Z _ 8 x1 _ 8 n0 _ sz18 A10 g2 (by decide) (by simp only [List.length_set]; decide) (by simp only [List.length_set]; decide)) rfl rfl rfl (by decide) rfl (by decide) (by decide) (by decide) rfl (fun v18 h18 q18 => ?_)
  obtain ⟨rfl, A18⟩ := q18
  show Wp X _ _ _ 21 _ []
  have hv : ∀ i, i < 16 → ∃ w : Int32, [bq x0 56, bq x0 48, bq x0 40, bq x0 32, bq x0 24, bq x0 16, bq x0 8, .int x0.toInt32.toInt8.toInt32.toInt8.toInt32, bq x1 56, bq x1 48, bq x1 40, bq x1 32, bq x1 24, bq x1 16, bq x1 8, .int x1.toInt32.toInt8.toInt32.toInt8.toInt32][i]? = some (.int w) ∧ (w &&& 255).toInt64.toBitVec = by64 x0.toBitVec x1.toBitVec i := by
    intro i hi
    match i, hi with
    | 0, _ => exact ⟨_, rfl, by_of _ _ (b_lushr x0 56 56 (by decide))⟩
    | 1, _ => exact ⟨_, rfl, by_of _ _ (b_lushr x0 48 48 (by decide))⟩
    | 2, _ => exact ⟨_, rfl, by_of _ _ (b_lushr x0 40 40 (by decide))⟩
    | 3, _ => exact ⟨_, rfl, by_of _ _ (b_lushr x0 32 32 (by decide))⟩
    | 4, _ => exact ⟨_, rfl, by_of _ _ (b_lushr x0 24 24 (by decide))⟩
    | 5, _ => exact ⟨_, rfl, by_of _ _ (b_lushr x0 16 16 (by decide))⟩
    | 6, _ => exact ⟨_, rfl, by_of _ _ (b_lushr x0 8 8 (by decide))⟩
    | 7, _ => exact ⟨_, rfl, (by_of x0 _ rfl).trans (by simp [by64])⟩
    | 8, _ => exact ⟨_, rfl, by_of _ _ (b_lushr x1 56 56 (by decide))⟩
    | 9, _ => exact ⟨_, rfl, by_of _ _ (b_lushr x1 48 48 (by decide))⟩
    | 10, _ => exact ⟨_, rfl, by_of _ _ (b_lushr x1 40 40 (by decide))⟩
    | 11, _ => exact ⟨_, rfl, by_of _ _ (b_lushr x1 32 32 (by decide))⟩
    | 12, _ => exact ⟨_, rfl, by_of _ _ (b_lushr x1 24 24 (by decide))⟩
    | 13, _ => exact ⟨_, rfl, by_of _ _ (b_lushr x1 16 16 (by decide))⟩
    | 14, _ => exact ⟨_, rfl, by_of _ _ (b_lushr x1 8 8 (by decide))⟩
    | 15, _ => exact ⟨_, rfl, (by_of x1 _ rfl).trans (by simp [by64])⟩
    | n + 16, q => exact absurd q (by omega)
  refine w_iload C (pc' := 23) at_21 rfl rfl ?_
  refine w_bipush C (pc' := 25) (z := 7) at_23 rfl rfl ?_
  refine w_iand C (pc' := 26) at_25 rfl ?_
  refine w_istore C (pc' := 28) (ls' := #[_, _, _, _, _, _, _, _, _, _, _, _, _, _, _, _]) at_26 rfl rfl ?_
  refine w_iload C (pc' := 30) at_28 rfl rfl ?_
  refine w_iconst C (pc' := 31) (z := 1) at_30 rfl rfl ?_
  refine w_iand C (pc' := 32) at_31 rfl ?_
  refine w_if_ne C (pc' := 48) (pn := 35) at_32 (by decide) (by decide) rfl (fun c32 => ?_) (fun c32 => ?_)
  · -- 32 taken -> 48
    refine w_iload C (pc' := 50) at_48 rfl rfl ?_
    -- STOP at 50
    exact J50 _ _ _ _ _ (x2 &&& 7).toInt.toNat A18 hv (by omega) (by omega)
  · -- 32 not -> 35
    refine w_iload C (pc' := 37) at_35 rfl rfl ?_
    refine w_iload C (pc' := 39) at_37 rfl rfl ?_
    refine w_bipush C (pc' := 41) (z := 15) at_39 rfl rfl ?_
    refine w_iand C (pc' := 42) at_41 rfl ?_
    refine w_iconst C (pc' := 43) (z := 4) at_42 rfl rfl ?_
    refine w_isub C (pc' := 44) at_43 rfl ?_
    refine w_iadd C (pc' := 45) at_44 rfl ?_
    refine w_goto C (pc' := 50) at_45 (by decide) (by decide) ?_
    -- STOP at 50
    exact J50 _ _ _ _ _ (x2 &&& 7).toInt.toNat A18 hv (by omega) (by omega)
set_option maxRecDepth 65536 in
set_option maxHeartbeats 40000000 in
theorem comes_1 {Post : Tables → Env → Array Value → State → Outcome → State → Prop} (hpost : ∀ tb e args s v u, (limb_1_1.after args s (.returned v) u = true ∧ limb_1_2.after args s (.returned v) u = true ∧ True) → FrameEnd s (.returned v) u (Jvm.fieldLocs frame_1_writes args s ++ Jvm.arrayLocs frame_1_arrays args s ++ Jvm.staticLocs frame_1_statics s) 16 128 → Post tb e args s (.returned v) u) :
    ArmFor flags0 classFile x code maxLocals ret World_1 tables_1 room_1 Calls_1 rest_1 Pre_1 Post := by
  intro l hfl _ _ p e ha hc hk s m args below hf hA hF happ hP
  obtain ⟨hcalls, hrest, hpre⟩ := hP
  obtain ⟨-, -, -, hnamed, -, -, -, hat⟩ := (Spec.applies_iff hf).mp happ
  obtain ⟨hg, hnar⟩ := and_e (Cond.before_iff.mp (show (Jvm.Cond.and given_1 narrow_1).before args s = true from hpre))
  obtain ⟨gc, g0⟩ := and_e hg
  obtain ⟨k0, g1⟩ := and_e g0
  obtain ⟨k1, g2⟩ := and_e g1
  obtain ⟨k2, g3⟩ := and_e g2
  obtain ⟨k3, g4⟩ := and_e g3
  obtain ⟨w0, w1, w2, w3, w4, rfl⟩ : ∃ w0 w1 w2 w3 w4 : Value, args = #[w0, w1, w2, w3, w4] := by
    have hs : args.size = 5 := by simpa [Cond.value, given_1] using gc
    obtain ⟨L⟩ := args
    match L, hs with
    | [w0, w1, w2, w3, w4], _ => exact ⟨w0, w1, w2, w3, w4, rfl⟩
  have hw := fun d (hd : d ∈ tables_1) => atoms_spec (ws := Jvm.Cond.code x code maxLocals ret :: tables_1) hat d (List.mem_cons_of_mem _ hd)
  have hfit : Fit s := fun {y c} hc i hi => by
    obtain ⟨ha, rfl⟩ := Array.getElem?_eq_some_iff.mp hc
    have q := List.all_eq_true.mp ((Array.all_eq_true_iff_forall_mem.mp hF) _ (Array.getElem_mem ha)) i (List.mem_range.mpr hi)
    simpa [Array.getElem?_eq_getElem hi] using q
  obtain ⟨i0, ei0⟩ := isL_v k0
  obtain rfl : w0 = (.long i0) := Option.some.inj ei0
  obtain ⟨i1, ei1⟩ := isL_v k1
  obtain rfl : w1 = (.long i1) := Option.some.inj ei1
  obtain ⟨i2, ei2⟩ := is_v k2
  obtain rfl : w2 = (.int i2) := Option.some.inj ei2
  obtain ⟨i3, ei3⟩ := is_v k3
  obtain rfl : w3 = (.int i3) := Option.some.inj ei3
  obtain ⟨i4, ei4⟩ := is_v g4
  obtain rfl : w4 = (.int i4) := Option.some.inj ei4
  obtain ⟨n, o, h1, h2, h3, _, L, rfl, ⟨⟨rfl, -⟩, N⟩, hq⟩ := law_ct l s _ hw i0 i1 i2 i3 i4 s.heap.size s.heap (Nat.le_refl _) p e ha hc hk s m _ below hf ((Spec.applies_iff_loose hf).mp happ).1 ⟨rfl, State.Warmed39.refl s, rfl⟩ trivial
  refine ⟨n, _, h1, h2, h3, hpost _ _ _ _ _ _ ⟨Cond.after_iff.mpr rfl, Cond.after_iff.mpr (eq_i res_at (Term.int_eval (1)) rfl), trivial⟩ ⟨hq.1, hq.2.1, (hq.2.2.sift fun y hy => Or.inr (N y hy)).mono (by decide) (by decide)⟩⟩
theorem main_1_1 : Claimed_1_1 := comes_1 fun _ _ _ _ _ _ h hF => ⟨h.1, hF⟩
theorem main_1_2 : Claimed_1_2 := comes_1 fun _ _ _ _ _ _ h hF => ⟨h.2.1, hF⟩
end Jvm.Pilot.@@N@@
namespace Jvm.Pilot.@@N@@
open Jvm Jvm.ClassFile Sem Op Lib Jvm.Free Jvm.Stand Jvm.Pilot.@@N@@.Jvm.D
/-! MADE BY PROGRAM (witnessworld.py) out of the Statement's table words and the real class files: 13 classes; the members and pool entries that the words name. The judged class is class 1, her method 2. -/
namespace start1
open Jvm.ClassFile
def u (s : String) : CpInfo := .utf8 (stringToUtf16 s)
/-- a pool by its gaps: so many unusable entries, then the entry; so many at the end -/
def gap : Nat → List CpInfo → List CpInfo
  | 0, r => r
  | n + 1, r => .unusable :: gap n r
def poolList (es : List (Nat × CpInfo)) (last : Nat) : List CpInfo := es.foldr (fun e r => gap e.1 (e.2 :: r)) (gap last [])
def pool (es : List (Nat × CpInfo)) (last : Nat) : Array CpInfo := ⟨poolList es last⟩
def fileOf (pool : Array CpInfo) (this : Nat) (attrs : Array Attribute := #[]) (ms : Array MethodInfo := #[]) (fl : Nat := 33) (sup : Nat := 0) (ifs : Array Nat := #[]) (fds : Array FieldInfo := #[]) : ClassFile where
  minorVersion := 0
  majorVersion := 65
  constantPool := pool
  accessFlags := fl
  thisClass := this
  superClass := sup
  interfaces := ifs
  fields := fds
  methods := ms
  attributes := attrs
def plain (name : String) (sup : Option ClassId) : Class where
  name := name
  kind := .ordinary
  loader := none
  accessFlags := 33
  super := sup
  interfaces := #[]
  cf := none
  fields := #[]
  methods := #[]
  instanceTypes := #[]
  staticTypes := #[]
  resolved := #[]
  callSites := []
  init := .initialized
  statics := none
  mirror := none

def pool0 : Array CpInfo := pool [(5, u "<init>"), (0, u "()V"), (1, .class_ 10), (1, u "java/lang/Object")] 113

def k0m0 : Method := { name := "<init>", desc := "()V", sig := { parameters := [], returnType := none }, accessFlags := 1, code := none }
/-- java/lang/Object -/
def k0 : Class := { plain "java/lang/Object" none with
  accessFlags := 33
  interfaces := #[]
  cf := some (fileOf pool0 8 #[] #[{ accessFlags := 1, nameIndex := 5, descriptorIndex := 6, attributes := #[] }] 33 0 #[] #[])
  fields := #[]
  methods := #[k0m0]
  instanceTypes := #[]
  staticTypes := #[]
  resolved := Array.replicate 124 none
  statics := none }

def pool1 : Array CpInfo := pool [(2, .class_ 4), (1, u "java/lang/Object"), (0, u "<init>"), (0, u "()V"), (0, .methodref 8 9), (0, .class_ 10), (0, .nameAndType 11 12), (0, u "com/example/runnel/runnel/runtime/BytesPrefixOfPinLaw"), (0, u "put"), (0, u "([BIJ)V"), (0, .long 8), (1, .long 18446744073709551615), (1, .methodref 18 19), (0, .class_ 20), (0, .nameAndType 21 22), (0, u "com/example/runnel/runnel/runtime/Bytes"), (0, u "prefixOf"), (0, u "([BII)J"), (2, u "law"), (0, u "(JJIII)Z")] 5

def k1m0 : Method := { name := "<init>", desc := "()V", sig := { parameters := [], returnType := none }, accessFlags := 1, code := none }
def k1c1 : Code := { maxStack := 5, maxLocals := 4, code := method_2_code, exceptionTable := #[], attributes := #[] }
def k1m1 : Method := { name := "put", desc := "([BIJ)V", sig := { parameters := [(.array .byte), .int, .long], returnType := none }, accessFlags := 10, code := some k1c1 }
def k1c2 : Code := { maxStack := 7, maxLocals := 16, code := code, exceptionTable := #[], attributes := #[] }
def k1m2 : Method := { name := "law", desc := "(JJIII)Z", sig := { parameters := [.long, .long, .int, .int, .int], returnType := some .boolean }, accessFlags := 9, code := some k1c2 }
/-- com/example/runnel/runnel/runtime/BytesPrefixOfPinLaw -/
def k1 : Class := { plain "com/example/runnel/runnel/runtime/BytesPrefixOfPinLaw" (some 0) with
  accessFlags := 49
  interfaces := #[]
  cf := some (fileOf pool1 8 #[] #[{ accessFlags := 1, nameIndex := 5, descriptorIndex := 6, attributes := #[] }, { accessFlags := 10, nameIndex := 11, descriptorIndex := 12, attributes := #[] }, { accessFlags := 9, nameIndex := 25, descriptorIndex := 26, attributes := #[] }] 49 2 #[] #[])
  fields := #[]
  methods := #[k1m0, k1m1, k1m2]
  instanceTypes := #[]
  staticTypes := #[]
  resolved := Array.replicate 32 none
  statics := none }

def pool2 : Array CpInfo := pool [(1, .class_ 2), (0, u "java/lang/AutoCloseable"), (0, .class_ 4), (0, u "java/lang/Object")] 7

/-- java/lang/AutoCloseable -/
def k2 : Class := { plain "java/lang/AutoCloseable" (some 0) with
  accessFlags := 1537
  interfaces := #[]
  cf := some (fileOf pool2 1 #[] #[] 1537 3 #[] #[])
  fields := #[]
  methods := #[]
  instanceTypes := #[]
  staticTypes := #[]
  resolved := Array.replicate 12 none
  statics := none }

def pool3 : Array CpInfo := pool [(1, .class_ 2), (0, u "java/io/Closeable"), (0, .class_ 4), (0, u "java/lang/Object"), (0, .class_ 6), (0, u "java/lang/AutoCloseable")] 7

/-- java/io/Closeable -/
def k3 : Class := { plain "java/io/Closeable" (some 0) with
  accessFlags := 1537
  interfaces := #[2]
  cf := some (fileOf pool3 1 #[] #[] 1537 3 #[5] #[])
  fields := #[]
  methods := #[]
  instanceTypes := #[]
  staticTypes := #[]
  resolved := Array.replicate 14 none
  statics := none }

def pool4 : Array CpInfo := pool [(1, .class_ 2), (0, u "java/io/Flushable"), (0, .class_ 4), (0, u "java/lang/Object")] 7

/-- java/io/Flushable -/
def k4 : Class := { plain "java/io/Flushable" (some 0) with
  accessFlags := 1537
  interfaces := #[]
  cf := some (fileOf pool4 1 #[] #[] 1537 3 #[] #[])
  fields := #[]
  methods := #[]
  instanceTypes := #[]
  staticTypes := #[]
  resolved := Array.replicate 12 none
  statics := none }

def pool5 : Array CpInfo := pool [(2, .class_ 4), (1, u "java/lang/Object"), (0, u "<init>"), (0, u "()V"), (0, .class_ 8), (0, u "java/io/OutputStream$1"), (2, .class_ 13), (1, u "java/io/OutputStream"), (11, .class_ 26), (0, u "java/io/Closeable"), (0, .class_ 28), (0, u "java/io/Flushable")] 24

def k5m0 : Method := { name := "<init>", desc := "()V", sig := { parameters := [], returnType := none }, accessFlags := 1, code := none }
/-- java/io/OutputStream -/
def k5 : Class := { plain "java/io/OutputStream" (some 0) with
  accessFlags := 1057
  interfaces := #[3, 4]
  cf := some (fileOf pool5 11 #[.nestMembers #[7]] #[{ accessFlags := 1, nameIndex := 5, descriptorIndex := 6, attributes := #[] }] 1057 2 #[25, 27] #[])
  fields := #[]
  methods := #[k5m0]
  instanceTypes := #[]
  staticTypes := #[]
  resolved := Array.replicate 53 none
  statics := none }

def pool6 : Array CpInfo := pool [(4, .class_ 6), (1, u "java/io/OutputStream"), (3, .class_ 12), (1, u "com/example/runnel/runnel/runtime/Bytes"), (0, u "array"), (0, u "[B"), (2, u "size"), (0, u "I"), (45, u "PREFIX"), (11, u "prefixOf"), (0, u "([BII)J")] 5

def k6c0 : Code := { maxStack := 5, maxLocals := 6, code := prog_58_method_10_code, exceptionTable := #[], attributes := #[] }
def k6m0 : Method := { name := "prefixOf", desc := "([BII)J", sig := { parameters := [(.array .byte), .int, .int], returnType := some .long }, accessFlags := 8, code := some k6c0 }
/-- com/example/runnel/runnel/runtime/Bytes -/
def k6 : Class := { plain "com/example/runnel/runnel/runtime/Bytes" (some 5) with
  accessFlags := 32
  interfaces := #[]
  cf := some (fileOf pool6 10 #[] #[{ accessFlags := 8, nameIndex := 76, descriptorIndex := 77, attributes := #[] }] 32 4 #[] #[{ accessFlags := 24, nameIndex := 64, descriptorIndex := 18, attributes := #[] }, { accessFlags := 2, nameIndex := 13, descriptorIndex := 14, attributes := #[] }, { accessFlags := 2, nameIndex := 17, descriptorIndex := 18, attributes := #[] }])
  fields := #[{ name := "PREFIX", type := .int, accessFlags := 24, slot := 0, constantValue := 0 }, { name := "array", type := (.array .byte), accessFlags := 2, slot := 0, constantValue := 0 }, { name := "size", type := .int, accessFlags := 2, slot := 1, constantValue := 0 }]
  methods := #[k6m0]
  instanceTypes := #[(.array .byte), .int]
  staticTypes := #[.int]
  resolved := Array.replicate 83 none
  statics := none }

def pool7 : Array CpInfo := pool [(1, u "java/lang/Cloneable"), (0, .class_ 1), (0, u "java/lang/Object"), (0, .class_ 3)] 3

/-- java/lang/Cloneable -/
def k7 : Class := { plain "java/lang/Cloneable" (some 0) with
  accessFlags := 1537
  interfaces := #[]
  cf := some (fileOf pool7 2 #[] #[] 1537 4 #[] #[])
  fields := #[]
  methods := #[]
  instanceTypes := #[]
  staticTypes := #[]
  resolved := Array.replicate 8 none
  statics := none }

def pool8 : Array CpInfo := pool [(1, u "java/io/Serializable"), (0, .class_ 1), (0, u "java/lang/Object"), (0, .class_ 3)] 3

/-- java/io/Serializable -/
def k8 : Class := { plain "java/io/Serializable" (some 0) with
  accessFlags := 1537
  interfaces := #[]
  cf := some (fileOf pool8 2 #[] #[] 1537 4 #[] #[])
  fields := #[]
  methods := #[]
  instanceTypes := #[]
  staticTypes := #[]
  resolved := Array.replicate 8 none
  statics := none }

/-- the primitive byte -/
def k9 : Class := { plain "byte" none with kind := .primitive 'B', accessFlags := 0x411 }
/-- [B -/
def k10 : Class := { plain "[B" (some 0) with kind := .array 9 .byte, interfaces := #[7, 8], accessFlags := 1041 }

/-- the primitive int -/
def k11 : Class := { plain "int" none with kind := .primitive 'I', accessFlags := 0x411 }
/-- [I -/
def k12 : Class := { plain "[I" (some 0) with kind := .array 11 .int, interfaces := #[7, 8], accessFlags := 1041 }

def heap : Heap := #[]
def classes : Array Class := #[k0, k1, k2, k3, k4, k5, k6, k7, k8, k9, k10, k11, k12]
def interned : List (Array UInt16 × Addr) := []
def slotsUsed : Nat := 0
def theMethod : MethodId := ⟨1, 2⟩
def args0 : Array Value := #[.long 5, .long 6, .int 1, .int 6, .int 1]
def aboutOver (below : List Frame) : State where
  vm := { classes := classes, interned := interned.toArray }
  heap := heap
  slotsUsed := slotsUsed
  threads := #[{ frames := .invoking theMethod args0 :: below }]
def below0 : List Frame := [.native { method := ⟨0, 0⟩, args := #[] }]
def about1 : State := aboutOver below0
def p0 : Program := .bare "" "" ""
def e0 : Env := launch0.env 0 0 0
theorem w_frames : about1.frames = Frame.invoking theMethod args0 :: below0 := rfl
set_option maxRecDepth 65536 in
theorem w_args : argsFit about1.vm theMethod args0 = true := by decide +kernel
set_option maxRecDepth 65536 in
theorem w_heap : heapFits about1 = true := by decide +kernel
set_option maxRecDepth 65536 in
theorem w_runnable : about1.curStatus? = some .runnable := by decide +kernel
set_option maxRecDepth 65536 in
theorem w_alone : about1.alone = true := by decide +kernel
set_option maxRecDepth 65536 in
theorem w_named : about1.methodNamed? x = some theMethod := by decide +kernel
set_option maxRecDepth 65536 in
theorem w_hears : about1.hears theMethod below0 = true := by decide +kernel
set_option maxRecDepth 65536 in
theorem w_ripe : about1.ripe theMethod args0 below0 = true := by decide +kernel
theorem w_running : about1.status = .running := rfl
set_option maxRecDepth 65536 in
theorem w_room : about1.hasRoom e0.platform room_1 = true :=
  launch0.hasRoom_least _ room_1 (by decide +kernel) (by decide +kernel) (by decide +kernel) (by decide +kernel) (by decide +kernel) (by decide +kernel)
theorem allAtoms_all (ts : List Jvm.Cond) (a : Array Jvm.Value) (st : Jvm.State) : (allAtoms ts).before a st = ts.all (fun c => c.before a st) := by
  induction ts with
  | nil => rfl
  | cons c t ih =>
    show (Jvm.Cond.and c (allAtoms t)).before a st = _
    rw [Jvm.Cond.before_and, ih, List.all_cons]
def words1 : List Jvm.Cond := Jvm.Cond.code x code maxLocals ret :: tables_1
/-- a 'code' word, met by the world's own term for the bytes: nothing is compared byte by byte -/
theorem code_word {y : MethodName} {bytes : ByteArray} {mx : Nat} {rt : Option FieldType} {a : Array Value} {s : State} {m : MethodId} {meth : Method} {c : Code} (h1 : s.methodNamed? y = some m) (h2 : s.vm.method? m = some meth) (h3 : meth.code = some c) (h4 : c.code = bytes)
    (h5 : (c.maxLocals == mx && c.exceptionTable.isEmpty && decide (c.maxStack ≤ mostOperands) && decide (meth.sig.returnType = rt) && !meth.locks && decide (parseMethodDescriptor y.desc = some meth.sig)) = true) : (Jvm.Cond.code y bytes mx rt).before a s = true := by
  simp only [Bool.and_eq_true, beq_iff_eq, Bool.not_eq_true', decide_eq_true_eq] at h5
  obtain ⟨⟨⟨⟨⟨g1, g2⟩, g3⟩, g4⟩, g5⟩, g6⟩ := h5
  simp [Cond.before, Cond.holds, Cond.value, h1, h2, h3, h4, g1, g2, g3, g4, g5, g6]
def isCode : Jvm.Cond → Bool
  | .code _ _ _ _ => true
  | _ => false
theorem all_split {L : List Jvm.Cond} {P : Jvm.Cond → Bool} (h1 : L.all (fun c => isCode c || P c) = true) (h2 : ∀ c ∈ L.filter isCode, P c = true) : L.all P = true := by
  refine List.all_eq_true.mpr fun c hc => ?_
  have h := List.all_eq_true.mp h1 c hc
  rcases Bool.eq_false_or_eq_true (isCode c) with hi | hi
  · exact h2 c (List.mem_filter.mpr ⟨hc, hi⟩)
  · simpa [hi] using h
set_option maxRecDepth 65536 in
theorem w_c0 : (Jvm.Cond.code x code maxLocals ret).before args0 about1 = true := code_word (m := ⟨1, 2⟩) (meth := k1m2) (c := k1c2) (by decide +kernel) rfl rfl rfl (by decide +kernel)
set_option maxRecDepth 65536 in
theorem w_c1 : (Jvm.Cond.code ({ cls := "com/example/runnel/runnel/runtime/BytesPrefixOfPinLaw", name := "put", desc := "([BIJ)V" } : Jvm.MethodName) method_2_code (4 : Nat) (Option.none : Option Jvm.ClassFile.FieldType)).before args0 about1 = true := code_word (m := ⟨1, 1⟩) (meth := k1m1) (c := k1c1) (by decide +kernel) rfl rfl rfl (by decide +kernel)
set_option maxRecDepth 65536 in
theorem w_c2 : (Jvm.Cond.code ({ cls := "com/example/runnel/runnel/runtime/Bytes", name := "prefixOf", desc := "([BII)J" } : Jvm.MethodName) prog_58_method_10_code (6 : Nat) (Option.some Jvm.ClassFile.FieldType.long)).before args0 about1 = true := code_word (m := ⟨6, 0⟩) (meth := k6m0) (c := k6c0) (by decide +kernel) rfl rfl rfl (by decide +kernel)
def codes1 : List Jvm.Cond := [Jvm.Cond.code x code maxLocals ret, Jvm.Cond.code ({ cls := "com/example/runnel/runnel/runtime/BytesPrefixOfPinLaw", name := "put", desc := "([BIJ)V" } : Jvm.MethodName) method_2_code (4 : Nat) (Option.none : Option Jvm.ClassFile.FieldType), Jvm.Cond.code ({ cls := "com/example/runnel/runnel/runtime/Bytes", name := "prefixOf", desc := "([BII)J" } : Jvm.MethodName) prog_58_method_10_code (6 : Nat) (Option.some Jvm.ClassFile.FieldType.long)]
set_option maxRecDepth 65536 in
theorem codes_eq : words1.filter isCode = codes1 := rfl
theorem w_codes : ∀ c ∈ words1.filter isCode, c.before args0 about1 = true := by
  rw [codes_eq]
  intro c hc
  simp only [codes1, List.mem_cons, List.not_mem_nil, or_false] at hc
  rcases hc with rfl | rfl | rfl
  · exact w_c0
  · exact w_c1
  · exact w_c2
set_option maxRecDepth 65536 in
theorem w_t1 : words1.all (fun c => isCode c || c.before args0 about1) = true := by decide +kernel
theorem w_tables : (allAtoms (Jvm.Cond.code x code maxLocals ret :: tables_1)).before args0 about1 = true := by
  rw [allAtoms_all]
  show words1.all (fun c => c.before args0 about1) = true
  refine all_split ?_ w_codes
  rw [w_t1]
set_option maxRecDepth 65536 in
theorem w_case : (Jvm.Cond.and given_1 narrow_1).before args0 about1 = true := by decide +kernel
theorem w_applies : (headSpec (Jvm.Cond.code x code maxLocals ret :: tables_1) room_1).applies x e0.platform about1 = true :=
  (Spec.applies_iff w_frames).mpr ⟨w_running, w_runnable, w_alone, w_named, w_hears, w_ripe, w_room, w_tables⟩
theorem atStart : AtStart classFile x code maxLocals ret World_1 tables_1 room_1 Calls_1 rest_1 Pre_1 launch0 p0 e0 about1 theMethod args0 below0 :=
  ⟨lists_1, trivial, launch0.admits_env _ _ _, launch0.least_env, fairChoices_fair.cas, fairChoices_fair.clock, w_frames, w_args, w_heap, w_applies, trivial, trivial, w_case⟩
end start1
theorem witness_1 : WitnessClaimed_1 := ⟨start1.p0, start1.e0, start1.about1, start1.theMethod, start1.args0, start1.below0, start1.atStart⟩
end Jvm.Pilot.@@N@@
